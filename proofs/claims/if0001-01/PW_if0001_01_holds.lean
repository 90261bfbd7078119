import PyProof.Rows.All
import Wide.All
import OpenK.AllK
import Wide.FinOn
import PySem.Challenge.RW_if0001_01
set_option Elab.async false
set_option genInjectivity false
local macro_rules | `(tactic| walk_at $s:str) => `(tactic| k_extra $s)
local macro_rules | `(tactic| omega) => `(tactic| ((fail_if_success (fail_if_success omega +splitDisjunctions)); first | lia | omega +splitDisjunctions))
section
open PySem PySem.W PySem.Calls PyProof.Rows
set_option maxRecDepth 100000
set_option maxHeartbeats 8000000
namespace Mine
open PySem.Builtin PySem.F
theorem entry_revit_iter : entryFor table "list_reverseiterator.__iter__" = some Builtin.«dict_keyiterator.__iter__» :=
  entryFor_alias (id' := "dict_keyiterator.__iter__") (by rw [fastTable_eq_tree]; kernel_rfl) (by first | rfl | decide +kernel | (unfold String.splitOn; simp +decide [String.splitOnAux])) (by decide +kernel) (by rw [fastTable_eq_tree]; kernel_rfl)
theorem slot_revit_next : Slot "list_reverseiterator" "__next__" "list_reverseiterator.__next__" :=
  .of (owner := "list_reverseiterator") (n := "__next__") (by rw [typeLookup_type, builtinLookup_eq_fast]; kernel_rfl) (by decide +kernel) (by decide +kernel) (by decide +kernel)
    (by first | exact .inl (by decide +kernel) | exact .inr (by decide +kernel)) (by rw [isSubtype_type]; kernel_rfl)
theorem slot_revit_iter : Slot "list_reverseiterator" "__iter__" "list_reverseiterator.__iter__" :=
  .of (owner := "list_reverseiterator") (n := "__iter__") (by rw [typeLookup_type, builtinLookup_eq_fast]; kernel_rfl) (by decide +kernel) (by decide +kernel) (by decide +kernel)
    (by first | exact .inl (by decide +kernel) | exact .inr (by decide +kernel)) (by rw [isSubtype_type]; kernel_rfl)
theorem slot_list_rev : Slot "list" "__reversed__" "list.__reversed__" :=
  .of (owner := "list") (n := "__reversed__") (by rw [typeLookup_type, builtinLookup_eq_fast]; kernel_rfl) (by decide +kernel) (by decide +kernel) (by decide +kernel)
    (by first | exact .inl (by decide +kernel) | exact .inr (by decide +kernel)) (by rw [isSubtype_type]; kernel_rfl)
theorem slot_reversed_init : Slot "reversed" "__init__" "object.__init__" :=
  .of (owner := "object") (n := "__init__") (by rw [typeLookup_type, builtinLookup_eq_fast]; kernel_rfl) (by decide +kernel) (by decide +kernel) (by decide +kernel)
    (by first | exact .inl (by decide +kernel) | exact .inr (by decide +kernel)) (by rw [isSubtype_type]; kernel_rfl)
theorem entry_revit_next : entryFor table "list_reverseiterator.__next__" = some Builtin.«list_reverseiterator.__next__» := entryFor_of_tree (by kernel_rfl)
theorem entry_list_rev : entryFor table "list.__reversed__" = some Builtin.«list.__reversed__» := entryFor_of_tree (by kernel_rfl)
theorem entry_reversed_new : entryFor table "reversed.__new__" = some Builtin.«reversed.__new__» := entryFor_of_tree (by kernel_rfl)
theorem args_revit_next (a : Value) : argsOk "list_reverseiterator.__next__" ⟨[a], []⟩ := by unfold argsOk; kernel_rfl
theorem args_revit_iter (a : Value) : argsOk "list_reverseiterator.__iter__" ⟨[a], []⟩ := by unfold argsOk; kernel_rfl
theorem args_list_rev (a : Value) : argsOk "list.__reversed__" ⟨[a], []⟩ := by unfold argsOk; kernel_rfl
theorem mro_reversed : mroOf (.type "reversed") = pure [.type "reversed", .type "object"] := by rw [mroOf_type]; kernel_rfl
theorem lookup_reversed_new : typeLookup (.type "reversed") "__new__" = pure (some (.builtin "reversed.__new__")) := by rw [typeLookup_type, builtinLookup_eq_fast]; kernel_rfl
theorem called_reversed : TypeCalled "reversed" "reversed.__new__" "object.__init__" :=
  ⟨by decide +kernel, by decide +kernel, ⟨_, _, mro_reversed⟩, madeBy_type mro_reversed lookup_reversed_new (by decide +kernel), by decide +kernel, by rw [isSubtype_type]; kernel_rfl, slot_reversed_init⟩
theorem typeCall_reversed_1 (a : Value) : checkTypeCall "reversed" ⟨[a], []⟩ = pure () := by kernel_rfl
theorem newCall_reversed_1 (a : Value) : checkBuiltinCall "reversed.__new__" ⟨[.type "reversed", a], []⟩ = pure () := by kernel_rfl
theorem sub_rev : isSubtype (.type "list_reverseiterator") (.type "reversed") = pure false := by rw [isSubtype_type]; kernel_rfl
section
variable {prog : Program} {w : World} {A : Around} {E : Value → Shared → Prop} {s : Shared}
theorem callType_other {T T2 newId initId : String} {Bn : Builtin} {args : List Value} {S : PySem.Spec} {Q : Value → Shared → Prop} (ft : TypeCalled T newId initId)
    (hct : checkTypeCall T ⟨args, []⟩ = pure ()) (hcn : checkBuiltinCall newId ⟨.type T :: args, []⟩ = pure ())
    (entryN : entryFor table newId = some Bn) (g : Meets (Bn ⟨.type T :: args, []⟩) S) (hsub2 : isSubtype (.type T2) (.type T) = pure false)
    (h : S A.in1 (wants (fun obj s₁ => s₁.TypeIs obj T2 ∧ Q obj s₁) E) s) :
    wpAny (model prog w) A (call (.type T) args) Q E s := by
  obtain ⟨c, tl, hmro⟩ := ft.mro
  have hmade := ft.made
  have hsub := ft.sub
  refine wpAny_call (codeAny_of_tree ?_)
  show wpAny _ _ (callAny (.type T) _) _ _ _
  refine wpAny_pure ⟨Code.quiet_builtin _ (by decide +kernel), codeAny_builtin F.entry_type_call ?_⟩
  rw [Around.under_plain (weight_type_call_type T args []) (units_type_call_type T args [])]
  have h1 := ft.notType
  have h2 := ft.canCreate
  repeat (any_goals (first | assumption | wp_step))
  refine codeAny_mono (codeAny_call_builtin ft.plain entryN (wpAny_of_eq hcn (g prog w A.in1 _ s h))) fun r s₁ hr => ?_
  cases r with
  | error e => exact hr
  | ok fl =>
    cases fl with
    | ret obj =>
      obtain ⟨hT, hq⟩ := hr
      repeat (any_goals (first | assumption | wp_step))
    | _ => exact hr.elim
theorem meets_reversed_newL (l : Addr) (items : Array Value) (n : Nat) :
    Meets (Builtin.«reversed.__new__» ⟨[.type "reversed", .ref l], []⟩) (fun A R s => s.heap.get? l = some { cls := .type "list", dict := none, data := .seq items n, slots := #[] } ∧
      R (.ok (.ret (.ref s.heap.objs.size))) { s with heap := s.heap.push { cls := .type "list_reverseiterator", data := .fields #[.ref l, rawInt (((items.size : Nat) : Int) - 1)] } }) :=
  .of_wp fun prog w A R s h => by
    obtain ⟨hp, g, d, tk, os⟩ := s; obtain ⟨hl, h⟩ := h
    have hL : Heap.IsList (Shared.heap ⟨hp, g, d, tk, os⟩) l items := ⟨_, hl, rfl, n, rfl⟩
    have hT := hL.typeIs
    have hlk := slot_list_rev.lookup
    have hbi := slot_list_rev.bind (.ref l)
    have hsr : isSubtype (.type "reversed") (.type "reversed") = pure true := called_reversed.sub
    unfold Builtin.«reversed.__new__»
    repeat (any_goals (first | assumption | wp_step))
    have hcall : codeAny (model prog w) A.in1 (Code.call (Value.builtin "list.__reversed__") ⟨[.ref l], []⟩) (fun r s' => r = .ok (.ret (.ref hp.objs.size)) ∧ R (.ok (.ret (.ref hp.objs.size))) s') ⟨hp, g, d, tk, os⟩ :=
      codeAny_call_builtin slot_list_rev.plain entry_list_rev (slot_list_rev.check _ _ _ _ _ _ _ _ hT (args_list_rev _) (AutoListH.list___reversed___list_0 l items n prog w A.in1 (fun r s' => r = .ok (.ret (.ref hp.objs.size)) ∧ R (.ok (.ret (.ref hp.objs.size))) s') _ ⟨hl, ⟨rfl, h⟩⟩))
    refine codeAny_mono hcall fun r s₁ hr => ?_
    obtain ⟨rfl, hr⟩ := hr
    repeat (any_goals (first | assumption | wp_step))
    exact ⟨_, rfl, hr⟩
theorem call_reversed {l : Addr} {items : Array Value} {n : Nat} {Q : Value → Shared → Prop} (hl : s.heap.get? l = some { cls := .type "list", dict := none, data := .seq items n, slots := #[] })
    (h : Q (.ref s.heap.objs.size) { s with heap := s.heap.push { cls := .type "list_reverseiterator", data := .fields #[.ref l, rawInt (((items.size : Nat) : Int) - 1)] } }) :
    wpAny (model prog w) A (call (.type "reversed") [.ref l]) Q E s :=
  callType_other called_reversed (typeCall_reversed_1 _) (newCall_reversed_1 _) entry_reversed_new (meets_reversed_newL l items n) sub_rev ⟨hl, ⟨_, Heap.get?_push_size _ rfl, rfl⟩, h⟩
noncomputable def IsRev (h : Heap) (a l : Addr) (i : Int) : Prop := ∃ o, h.get? a = some o ∧ o.cls = .type "list_reverseiterator" ∧ o.data = .fields #[.ref l, .int i 0]
theorem IsRev.typeIs {s : Shared} {a l i} (x : IsRev s.heap a l i) : s.TypeIs (.ref a) "list_reverseiterator" :=
  let ⟨o, ho, hc, _⟩ := x; ⟨o, ho, hc⟩
theorem pyIter_rev {a l : Addr} {i : Int} {Q : Value → Shared → Prop} (hr : IsRev s.heap a l i) (h : Q (.ref a) s) : wpAny (model prog w) A (pyIter (.ref a)) Q E s := by
  refine wpAny_pyIter_slot hr.typeIs slot_revit_iter (wpAny_call_entry slot_revit_iter hr.typeIs entry_revit_iter ?_ (args_revit_iter _))
  show wpAny _ _ (ret (.ref a)) _ _ s
  exact wpAny_pure ⟨_, rfl, "list_reverseiterator", _, hr.typeIs, slot_revit_next.lookup, h⟩
theorem pyNext_rev_item {it l : Addr} {i : Nat} {items : Array Value} {x : Value} {Q : Option Value → Shared → Prop} (hit : IsRev s.heap it l (i : Int))
    (hl : s.heap.IsList l items) (hx : items[i]? = some x)
    (hQ : ∀ h', IsRev h' it l ((i : Int) - 1) → Heap.SameBut it s.heap h' → Q (some x) { s with heap := h' }) :
    wpAny (model prog w) A (pyNext (.ref it)) Q E s := by
  obtain ⟨o, ho, hc, hd⟩ := id hit
  obtain ⟨ol, hol, _, nl, hdl⟩ := hl
  unfold pyNext
  refine wpAny_bind (wpAny_attempt (wpAny_callSpecial?_slot (name := Str.ofString "__next__") hit.typeIs slot_revit_next
    (wpAny_call_entry slot_revit_next hit.typeIs entry_revit_next ?_ (args_revit_next _))))
  unfold Builtin.«list_reverseiterator.__next__»
  refine wpAny_bind (wpAny_of_eq (show slotArgs "__next__" 0 ⟨[.ref it], []⟩ = pure (.ref it, []) from rfl) ?_)
  dsimp only
  refine wpAny_bind (wpAny_field ho hd rfl ?_)
  show wpAny (model prog w) A.in1 (if (i : Int) < 0 then _ else _) _ _ s
  rw [if_neg (by omega)]
  show wpAny _ _ (field (.ref it) 0 >>= _) _ _ s
  refine wpAny_bind (wpAny_field ho hd (x := .ref l) rfl ?_)
  refine wpAny_bind (wpAny_seqItems hol hdl ?_)
  rw [Int.toNat_natCast]
  dsimp only
  rw [hx]
  dsimp only
  refine wpAny_bind (wpAny_setField ho hd (by simp) (wpAny_pure ⟨x, rfl, wpAny_pure (hQ _ ?_ (Heap.SameBut.update ..))⟩))
  exact ⟨_, Heap.get?_update_self _ ho (Obj.isFreed_of_fields (Obj.data_mapFields hd _)), (Obj.cls_mapFields ..).trans hc, by
    rw [Obj.data_mapFields hd]; simp [rawInt]⟩
theorem pyNext_rev_end {it l : Addr} {Q : Option Value → Shared → Prop} (hh : A.handled = none) (hit : IsRev s.heap it l (-1))
    (hQ : ∀ h', Heap.ExtBut it s.heap h' → Q none { s with heap := h' }) : wpAny (model prog w) A (pyNext (.ref it)) Q E s := by
  obtain ⟨o, ho, hc, hd⟩ := id hit
  unfold pyNext
  refine wpAny_bind (wpAny_attempt (wpAny_callSpecial?_slot (name := Str.ofString "__next__") hit.typeIs slot_revit_next
    (wpAny_call_entry slot_revit_next hit.typeIs entry_revit_next ?_ (args_revit_next _))))
  unfold Builtin.«list_reverseiterator.__next__»
  refine wpAny_bind (wpAny_of_eq (show slotArgs "__next__" 0 ⟨[.ref it], []⟩ = pure (.ref it, []) from rfl) ?_)
  dsimp only
  refine wpAny_bind (wpAny_field ho hd rfl ?_)
  show wpAny (model prog w) A.in1 (if (-1 : Int) < 0 then _ else _) _ _ s
  rw [if_pos (by decide)]
  refine wpAny_bind (wpAny_rule (wpAny_bind ?_))
  show wpAny _ _ (newExc (.type "StopIteration") [] >>= _) _ _ _
  refine wpAny_bind ?_
  unfold newExc newTuple
  refine wpAny_bind (wpAny_newObj_type ?_ (by size_fits))
  refine wpAny_bind (m := firstArgMember _ _) (wpAny_of_eq (a := Value.none) (by first | rfl | (simp only [firstArgMember]; rfl)) ?_)
  refine wpAny_newObj_type ?_ (by size_fits)
  unfold raiseNew
  dsimp only
  refine wpAny_bind (wpAny_handled ?_)
  rw [show A.in1.handled = none from hh]
  refine wpAny_bind (wpAny_pure (wpAny_throw ?_))
  refine wpAny_bind (wpAny_isInstance (T := "StopIteration") (b := true) ⟨_, Heap.get?_push_size _ rfl, rfl⟩ isSubtype_stop ?_)
  exact wpAny_pure (hQ _ fun b o _ e => Heap.get?_push_of_some _ (Heap.get?_push_of_some _ e))
end
end Mine
end
section
open PySem PySem.W PySem.Calls PyProof.Rows
set_option maxRecDepth 100000
set_option maxHeartbeats 8000000
namespace Mine
section
variable {M : Model} {A : Around} {R : GenEnd} {Y : Protocol} {n : Nat} {s₀ : Shared} {c : Code} {fs : List PySem.Frame} {s : Shared}
theorem seg_bindW {α β : Type} {m : Sem α} {f : α → Sem β} {K : β → Sem PySem.Fin} {H : Value → Sem PySem.Fin} {gd : Bool → Bool} {lv : List Value → List Value}
    (h : wpAny M (A.over c fs) m (fun a s' => Seg M A R Y n s₀ c ((f a).wrap K H gd lv) fs s') (fun x s' => Seg M A R Y n s₀ c (H x) fs s') s) :
    Seg M A R Y n s₀ c ((m >>= f).wrap K H gd lv) fs s := by
  rw [Sem.bind_eq_wrap', Sem.wrap_wrap]; exact seg_wrap h
/-- the frame that a loop's end comes back to -/
noncomputable def konT (K : Flow → Sem PySem.Fin) (H : Value → Sem PySem.Fin) (gd : Bool → Bool) (lv : List Value → List Value) (env : Env) : Result → Sem PySem.Fin :=
  fun r => (((match r with | .ok f => .pure f | .error e => .raise e) : Sem Flow).onRaise fun (x : Value) => do
        if (← field x 1) == Value.none then unsupported "frame.own-activation:exception-without-traceback"
        setFlight x env.frame).wrap K H gd lv
theorem seg_runOwn {c' : Code} {env : Env} {K : Flow → Sem PySem.Fin} {H : Value → Sem PySem.Fin} {gd : Bool → Bool} {lv : List Value → List Value}
    (h : ∀ p, Seg M A R Y n s₀ c' (M.den c') (.ret (konT K H gd lv env) none (gd false) (lv []) c p [] :: fs) s) :
    Seg M A R Y n s₀ c ((runOwn c' env).wrap K H gd lv) fs s := seg_call h
theorem seg_for {target iter : Expr} {body : List Stmt} {pos : Pos} {env : Env} {K : Flow → Sem PySem.Fin} {H : Value → Sem PySem.Fin} {gd : Bool → Bool} {lv : List Value → List Value}
    (h : wpAny M (A.over c fs) (eval iter env) (fun x s₁ => wpAny M (A.over c fs) (pyIter x) (fun it s₂ => ∀ p,
      Seg M A R Y n s₀ (.forLoop target it body [] env) (M.den (.forLoop target it body [] env)) (.ret (konT K H gd lv env) none (gd false) (lv []) c p [] :: fs) s₂) (fun _ _ => False) s₁) (fun _ _ => False) s)
    (hs : ∀ x, foldedSetIterable iter env x = pure x) :
    Seg M A R Y n s₀ c ((exec (.For target iter body [] pos) env).wrap K H gd lv) fs s := by
  rw [exec_For]
  refine seg_bindW (wpAny_standAt ?_)
  refine seg_bindW (wpAny_mono h (fun x s₁ h₁ => ?_) fun _ _ q => q.elim)
  refine seg_bindW (wpAny_of_eq (hs x) ?_)
  refine seg_bindW (wpAny_standAt ?_)
  refine seg_bindW (wpAny_holding (wpAny_mono h₁ (fun it s₂ h₂ => ?_) fun _ _ q => q.elim))
  exact seg_runOwn h₂
theorem seg_if {test : Expr} {body orelse : List Stmt} {pos : Pos} {env : Env} {K : Flow → Sem PySem.Fin} {H : Value → Sem PySem.Fin} {gd : Bool → Bool} {lv : List Value → List Value}
    (h : wpAny M (A.over c fs) (isTrue test env (eval test env)) (fun b s₁ => Seg M A R Y n s₀ c ((if b = true then execs body env else execs orelse env).wrap K H gd lv) fs s₁) (fun _ _ => False) s) :
    Seg M A R Y n s₀ c ((exec (.If test body orelse pos) env).wrap K H gd lv) fs s := by
  rw [arm_exec_If]
  refine seg_bindW (wpAny_standAt ?_)
  refine seg_bindW (wpAny_mono h (fun b s₁ h₁ => ?_) fun _ _ q => q.elim)
  exact h₁
theorem seg_block {env : Env} (h : ∀ s', s' = s → Seg M A R Y n s₀ (.block [] env) (.pure (.done .next)) fs s') (hd : M.den (.block [] env) = .pure (.done .next)) : Seg M A R Y n s₀ (.block [] env) (M.den (.block [] env)) fs s := by
  rw [hd]; exact h s rfl
end
section
variable {prog : Program} {w : World} {A : Around} {R : GenEnd} {Y : Protocol} {n : Nat} {s₀ : Shared} {fs : List PySem.Frame} {s : Shared}
/-- what a turn's flow does -/
noncomputable def turnK (target : Expr) (it : Value) (body : List Stmt) (env : Env) : Flow → Sem PySem.Fin
  | .next | .cont => again (.forLoop target it body [] env)
  | .brk => pure (.done .next)
  | .ret v => pure (.done (.ret v))
noncomputable def turnH (env : Env) (e : Value) : Sem PySem.Fin := (do noteFrame e env; theTreesLotGoes e : Sem Unit).bind fun _ => .raise e
theorem seg_turn {target : Expr} {it : Value} {body : List Stmt} {env : Env}
    (h : wpAny (model prog w) (A.over (.forLoop target it body [] env) fs) (pyNext it) (fun r s₁ => match r with
      | none => Seg (model prog w) A R Y n s₀ (.block [] env) (.pure (.done .next)) fs s₁
      | some v => wpAny (model prog w) (A.over (.forLoop target it body [] env) fs) (letOwnedTupleGo target it v) (fun _ s₂ => wpAny (model prog w) (A.over (.forLoop target it body [] env) fs) (assign target env v) (fun _ s₃ =>
          Seg (model prog w) A R Y n s₀ (.forLoop target it body [] env) ((execs body env).wrap (turnK target it body env) (turnH env) id id) fs s₃) (fun _ _ => False) s₂) (fun _ _ => False) s₁) (fun _ _ => False) s) :
    Seg (model prog w) A R Y n s₀ (.forLoop target it body [] env) ((model prog w).den (.forLoop target it body [] env)) fs s := by
  show Seg _ A R Y n s₀ _ ((forTurn target it body [] env).onRaise (fun x => do noteFrame x env; theTreesLotGoes x)) fs s
  unfold forTurn
  rw [Sem.onRaise_eq_wrap]
  refine seg_bindW (wpAny_standAt ?_)
  refine seg_bindW (wpAny_onRaise (wpAny_mono h (fun r s₁ h₁ => ?_) fun _ _ q => q.elim))
  cases r with
  | none => exact seg_again rfl (seg_block (fun s' e => e ▸ h₁) rfl)
  | some v =>
    refine seg_bindW (wpAny_mono h₁ (fun _ s₂ h₂ => ?_) fun _ _ q => q.elim)
    refine seg_bindW (wpAny_mono h₂ (fun _ s₃ h₃ => ?_) fun _ _ q => q.elim)
    have e : (execs body env >>= fun x => match x with
      | .next | .cont => again (.forLoop target it body [] env)
      | .brk => pure (.done .next)
      | .ret v => pure (.done (.ret v))).wrap Sem.pure (fun e => (do noteFrame e env; theTreesLotGoes e : Sem Unit).bind fun _ => .raise e) id id = (execs body env).wrap (turnK target it body env) (turnH env) id id := by
      rw [Sem.bind_eq_wrap', Sem.wrap_wrap]
      exact Sem.wrap_congr _ _ _ (fun f => by cases f <;> rfl) fun e => rfl
    rw [← e] at h₃
    exact h₃
end
end Mine
end
section
open PySem PySem.W PySem.Calls PyProof.Rows
set_option maxRecDepth 100000
set_option maxHeartbeats 8000000
namespace Mine
theorem entry_yf : entryFor table "proto.yield_from" = some Builtin.«proto.yield_from» := entryFor_of_tree (by kernel_rfl)
theorem look_listiter_close : typeLookup (.type "list_iterator") "close" = pure none := by rw [typeLookup_type, builtinLookup_eq_fast]; kernel_rfl
noncomputable def yfC (it : Value) : Code := .builtin "proto.yield_from" ⟨[it, .bool false, .none], []⟩
section
variable {prog : Program} {w : World} {A : Around} {R : GenEnd} {Y : Protocol} {n : Nat} {s₀ : Shared} {fs : List PySem.Frame} {s : Shared} {E : Value → Shared → Prop}
theorem den_of {id : String} {as : Args} {b : Builtin} (h : entryFor table id = some b) : (model prog w).den (.builtin id as) = b as := by
  show (match entryFor table id with | some b => b as | none => unsupported ((withoutEnding? id "#data").getD id)) = _
  rw [h]
theorem den_yf (it : Value) : (model prog w).den (yfC it) = Builtin.«proto.yield_from» ⟨[it, .bool false, .none], []⟩ := den_of entry_yf
theorem next_list_item {it l : Addr} {i : Nat} {items : Array Value} {x : Value} {Q : Option Value → Shared → Prop} (hit : s.heap.IsListIter it l i)
    (hl : s.heap.IsList l items) (hx : items[i]? = some x)
    (hQ : ∀ h', h'.IsListIter it l (i + 1) → Heap.SameBut it s.heap h' → Q (some x) { s with heap := h' }) :
    wpAny (model prog w) A (callSpecial? (.ref it) (Str.ofString "__next__")) Q E s := by
  obtain ⟨o, ho, hc, hd⟩ := id hit
  obtain ⟨ol, hol, _, nl, hdl⟩ := hl
  refine wpAny_callSpecial?_slot (name := Str.ofString "__next__") hit.typeIs slot_listiter_next
    (wpAny_call_entry slot_listiter_next hit.typeIs entry_listiter_next ?_ (args_listiter_next _))
  show wpAny _ _ (field (.ref it) 0 >>= _) _ _ s
  refine wpAny_bind (wpAny_field ho hd (x := .ref l) rfl ?_)
  show wpAny _ _ (if (Value.ref l == Value.none) = true then _ else _) _ _ s
  rw [if_neg (show ¬ ((Value.ref l == Value.none) = true) from Bool.false_ne_true)]
  show wpAny _ _ (field (.ref it) 1 >>= _) _ _ s
  refine wpAny_bind (wpAny_field ho hd (x := .int i 0) rfl ?_)
  show wpAny _ _ (seqItems? (.ref l) >>= _) _ _ s
  refine wpAny_bind (wpAny_seqItems hol hdl ?_)
  rw [Int.toNat_natCast]
  dsimp only
  rw [hx]
  dsimp only
  refine wpAny_bind (wpAny_setField ho hd (by simp) (wpAny_pure ⟨x, rfl, hQ _ ?_ (Heap.SameBut.update ..)⟩))
  exact ⟨_, Heap.get?_update_self _ ho (Obj.isFreed_of_fields (Obj.data_mapFields hd _)), (Obj.cls_mapFields ..).trans hc, by
    rw [Obj.data_mapFields hd]; simp [rawInt]⟩
/-- the end of a list's walk, as the exception itself -/
theorem next_list_end {it l : Addr} {i : Nat} {items : Array Value} {Q : Option Value → Shared → Prop} (hh : A.handled = none)
    (hit : s.heap.IsListIter it l i) (hl : s.heap.IsList l items) (hx : items[i]? = none)
    (hQ : ∀ e h', Heap.ExtBut it s.heap h' → (∃ oe, h'.get? e = some oe ∧ oe.cls = .type "StopIteration" ∧ ∃ vs, oe.data = .fields vs ∧ vs[5]? = some .none) → E (.ref e) { s with heap := h' }) :
    wpAny (model prog w) A (callSpecial? (.ref it) (Str.ofString "__next__")) Q E s := by
  obtain ⟨o, ho, hc, hd⟩ := id hit
  obtain ⟨ol, hol, _, nl, hdl⟩ := hl
  refine wpAny_callSpecial?_slot (name := Str.ofString "__next__") hit.typeIs slot_listiter_next
    (wpAny_call_entry slot_listiter_next hit.typeIs entry_listiter_next ?_ (args_listiter_next _))
  show wpAny _ _ (field (.ref it) 0 >>= _) _ _ s
  refine wpAny_bind (wpAny_field ho hd (x := .ref l) rfl ?_)
  show wpAny _ _ (if (Value.ref l == Value.none) = true then _ else _) _ _ s
  rw [if_neg (show ¬ ((Value.ref l == Value.none) = true) from Bool.false_ne_true)]
  show wpAny _ _ (field (.ref it) 1 >>= _) _ _ s
  refine wpAny_bind (wpAny_field ho hd (x := .int i 0) rfl ?_)
  show wpAny _ _ (seqItems? (.ref l) >>= _) _ _ s
  refine wpAny_bind (wpAny_seqItems hol hdl ?_)
  rw [Int.toNat_natCast]
  dsimp only
  rw [hx]
  dsimp only
  refine wpAny_bind (wpAny_rule (wpAny_bind (wpAny_setField ho hd (by simp) ?_)))
  show wpAny _ _ (newExc (.type "StopIteration") [] >>= _) _ _ _
  refine wpAny_bind ?_
  simp only [newExc, newTuple]
  refine wpAny_bind (wpAny_newObj_type ?_ (by size_fits))
  refine wpAny_bind (m := firstArgMember _ _) (wpAny_of_eq (a := Value.none) (by first | rfl | (simp only [firstArgMember]; rfl)) ?_)
  refine wpAny_newObj_type ?_ (by size_fits)
  unfold raiseNew
  dsimp only
  refine wpAny_bind (wpAny_handled ?_)
  rw [show A.in1.handled = none from hh]
  refine wpAny_bind (wpAny_pure (wpAny_throw ?_))
  refine hQ _ _ (((Heap.SameBut.update ..).extBut.push _).push _) ⟨_, Heap.get?_push_size _ rfl, rfl, _, rfl, rfl⟩
theorem seg_yf_item {it l : Addr} {i : Nat} {items : Array Value} {x : Value} (hfs : splitAtGen fs = none) (hfg : fs.any Frame.guarded = false) (hit : s.heap.IsListIter it l i)
    (hl : s.heap.IsList l items) (hx : items[i]? = some x) (hti : ∀ h', h'.IsListIter it l (i + 1) → Heap.SameBut it s.heap h' → ∀ kap : Resume → Shared → Prop,
      (∀ s'', s''.heap.IsListIter it l (i + 1) → Seg (model prog w) A R Y n s'' (yfC (.ref it)) ((model prog w).den (yfC (.ref it))) fs s'' → kap (.send .none) s'') → Y n s₀ x { s with heap := h' } kap) :
    Seg (model prog w) A R Y (n + 1) s₀ (yfC (.ref it)) ((model prog w).den (yfC (.ref it))) fs s := by
  rw [den_yf]
  unfold Builtin.«proto.yield_from»
  dsimp only
  refine seg_bind (wpAny_pure ?_)
  refine seg_bind (wpAny_attempt (wpAny_holding ?_))
  rw [if_neg (by decide), if_pos (by rfl)]
  refine wpAny_bind (wpAny_rule ?_)
  refine wpAny_bind (next_list_item hit hl hx fun h' hit' sb => ?_)
  refine wpAny_pure ?_
  dsimp only
  refine seg_bind (wpAny_typeOf (s := ⟨_, _, _, _, _⟩) hit'.typeIs ?_)
  dsimp only
  rw [look_listiter_close]
  refine seg_bind (wpAny_pure ?_)
  refine seg_bind (wpAny_pure ?_)
  obtain ⟨oi, hoi, hci, hdi⟩ := id hit'
  have hsl : ∀ (M : Model) (A : Around) (b : Bool) (s : Shared) (Q : Unit → Shared → Prop) (E : Value → Shared → Prop), s.heap.IsListIter it l (i + 1) → Q () s → wpAny M A (Builtin.Generator.sleptOver (.ref it) b) Q E s := by
    intro M A b s Q E h hq
    obtain ⟨o, ho, hc, _⟩ := h
    unfold Builtin.Generator.sleptOver
    dsimp only
    refine wpAny_bind (wpAny_load ho ?_)
    rw [if_pos (by rw [hc]; decide)]
    exact wpAny_pure hq
  refine seg_bind (hsl _ _ _ _ _ _ hit' ?_)
  refine seg_yield hfs rfl hfg ?_
  refine hti h' hit' sb _ fun s'' h'' hs => ?_
  refine seg_bind (wpAny_pure ?_)
  refine seg_bind (hsl _ _ _ _ _ _ h'' ?_)
  refine seg_bind (wpAny_pure ?_)
  exact seg_again (Code.quiet_builtin _ (by decide +kernel)) hs
theorem seg_yf_end {it l : Addr} {i : Nat} {items : Array Value} (hh : (A.over (yfC (.ref it)) fs).handled = none) (hit : s.heap.IsListIter it l i)
    (hl : s.heap.IsList l items) (hx : items[i]? = none) (h : ∀ h', Heap.ExtBut it s.heap h' → Seg (model prog w) A R Y n s₀ (yfC (.ref it)) (leafOf (.ok (.ret .none))) fs { s with heap := h' }) :
    Seg (model prog w) A R Y n s₀ (yfC (.ref it)) ((model prog w).den (yfC (.ref it))) fs s := by
  rw [den_yf]
  unfold Builtin.«proto.yield_from»
  dsimp only
  refine seg_bind (wpAny_pure ?_)
  refine seg_bind (wpAny_attempt (wpAny_holding ?_))
  rw [if_neg (by decide), if_pos (by rfl)]
  refine wpAny_bind (wpAny_rule ?_)
  refine wpAny_bind (next_list_end hh hit hl hx fun e h' sb he => ?_)
  obtain ⟨oe, hoe, hce, vs, hde, hv⟩ := he
  dsimp only
  have hT : Shared.TypeIs { s with heap := h' } (.ref e) "StopIteration" := ⟨oe, hoe, hce⟩
  unfold Builtin.Generator.endsTheTurnAsAValue Builtin.Generator.isStopAndMetaclass
  refine seg_bind (wpAny_bind (wpAny_bind (wpAny_typeOf (s := ⟨_, _, _, _, _⟩) hT ?_)))
  dsimp only
  refine wpAny_bind (wpAny_of_eq isSubtype_stop ?_)
  refine wpAny_bind (wpAny_typeOf (T := "type") rfl ?_)
  refine wpAny_pure ?_
  dsimp only
  rw [if_neg (by decide)]
  refine wpAny_pure ?_
  rw [if_pos rfl, if_neg (by decide)]
  refine seg_bind (wpAny_rule ?_)
  refine seg_bind (wpAny_field hoe hde hv ?_)
  exact h h' sb
end
end Mine
end
section
open PySem PySem.W PyProof.Rows
set_option maxRecDepth 100000
set_option maxHeartbeats 8000000
section
local macro_rules | `(tactic| o_head $_) => `(tactic| skip)
set_option Elab.async true in
theorem Mine.hd0 (_ : ∀ r : PySem.W.OpenRow, r.Holds) : True := by
  have h : (PySem.Challenge.rw_if0001_01).row.Holds := by
    w_on
    km_head
    (rename ∀ r : PySem.W.OpenRow, r.Holds => H; exact H _)
  trivial
end
end
theorem Mine.woff : Mine.hd0.heap_1_1 = Mine.hd0.heap_1_1 := by
  w_top off
  rfl
section
open PySem PySem.W PySem.Calls PyProof.Rows
set_option maxRecDepth 100000
set_option maxHeartbeats 8000000
namespace Mine

/-- where a call may stand: nothing handled, room above it -/
structure Room (d u : Nat) (A : Around) : Prop where
  hh : A.handled = none
  hd : A.depth + d < 900
  hu : A.units + u < 9000
/-- entering a def as a pure call: all that stands is kept -/
theorem pcall {prog : Program} {w : World} {A : Around} {s : Shared} {E Q : Value → Shared → Prop} {p : Program} {loose : List Str} {mean : ExcName → Option Value} {mg mb : Str → Option Value} {K : Frag}
    {name qual : Str} {params : Arguments} {body : List Stmt} {scope : Scope} {dV kV doc pm cdv ct oc : Value} {an od : Option Addr} {osl : Array (Option Value)} {f : Addr} {pos : List Value} {kw : List (Str × Value)} {binds : List (Str × Value)}
    (X : K.In s.heap) (T : Top p loose mean mg mb s.heap) (hd : A.depth < recursionLimit)
    (ho : K.lookup f = some ⟨oc, od, .func (fnOf name qual params body scope dV kV doc pm an cdv ct), osl⟩) (hcd : codeIn K cdv qual = true)
    (hbind : BindsTo s (fnOf name qual params body scope dV kV doc pm an cdv ct) ⟨pos, kw⟩ binds) (hloc : ∀ y ∈ binds, scope.names.lookup y.1 = some .local)
    (hcell : ∀ x ∈ scope.names, x.2 ≠ .cell) (hco : scope.isCoroutine = false) (hgen : scope.isGenerator = false) (hk : scope.kind = .function)
    (h : ∀ L h₁, Fr s.heap L h₁ (fun y => binds.reverse.lookup y) → News s.heap L h₁ [] →
      wpAny (model prog w) (A.deeper (envOf qual scope L f cdv)) (execs body (envOf qual scope L f cdv))
        (fun fl s' => Q (match fl with | .ret v => v | _ => .none) s') (fun _ _ => False)
        { s with heap := h₁, toks := s.toks + binds.length }) :
    wpAny (model prog w) A (call (.ref f) pos kw) Q E s := by
  refine wpAny_call ?_
  refine codeAny_call_def (fd := fnOf name qual params body scope dV kV doc pm an cdv ct) (body := body) (binds := binds) hd (X _ _ ho) rfl T.nolimit (codeRec_of X hcd) rfl hbind hcell hloc (fun h₁ hns hk₁ => ?_) hco hgen hk
  exact wpAny_mono (h _ h₁ ⟨hns, hk₁, Nat.le_refl _⟩ News.nil) (fun fl s' q => q) fun _ _ q => q.elim

/-- what a pure call hands back -/
noncomputable def Ends (s : Shared) (Q : Value → Shared → Prop) (R : Value → Heap → Prop) : Prop :=
  ∀ v h' tk, s.heap.StaysIn h' → R v h' → Q v { s with heap := h', toks := tk }
/-- a ledger that stands in a heap -/
noncomputable def Old (h : Heap) (ns : List (Addr × Obj)) : Prop := ∀ p ∈ ns, h.get? p.1 = some p.2
/-- a ledger of objects that the first heap lacks -/
noncomputable def Fresh (h h' : Heap) (tl : List (Addr × Obj)) : Prop := ∀ p ∈ tl, h'.get? p.1 = some p.2 ∧ h.get? p.1 = none
/-- a datum borne by a heap -/
noncomputable def DatAt (h : Heap) (v : Value) (d : Dat) : Prop := ∃ ns, Old h ns ∧ DatIn ns v d
/-- a datum newly made -/
noncomputable def DatNew (h h' : Heap) (v : Value) (d : Dat) : Prop := ∃ tl, Fresh h h' tl ∧ DatIn tl v d
noncomputable abbrev dInts (ns : List Int) : Dat := .list (ns.map Dat.int)
noncomputable abbrev dStrs (xs : List Str) : Dat := .list (xs.map Dat.str)
noncomputable abbrev dBytes (xs : List (Array UInt8)) : Dat := .list (xs.map Dat.bytes)
theorem DatNew.at {h h' : Heap} {v : Value} {d : Dat} (H : DatNew h h' v d) : DatAt h' v d := let ⟨tl, a, b⟩ := H; ⟨tl, fun p hp => (a p hp).1, b⟩
theorem Old.keeps {h h' : Heap} {ns : List (Addr × Obj)} (H : Old h ns) (k : h.StaysIn h') : Old h' ns := fun p hp => k _ _ (H p hp)
theorem DatAt.keeps {h h' : Heap} {v : Value} {d : Dat} (H : DatAt h v d) (k : h.StaysIn h') : DatAt h' v d := let ⟨ns, a, b⟩ := H; ⟨ns, a.keeps k, b⟩
/-- a list that a heap bears -/
theorem DatAt.list {h : Heap} {a : Addr} {ds : List Dat} (H : DatAt h (.ref a) (.list ds)) : ∃ ns vs, Old h ns ∧ DatAll ns vs ds ∧ h.IsList a vs.toArray := by
  obtain ⟨ns, o, i⟩ := H
  cases i with
  | list hm hall => exact ⟨ns, _, o, hall, ⟨_, o _ hm, rfl, _, rfl⟩⟩
theorem ints_of {ns : List (Addr × Obj)} {vs : List Value} {is : List Int} (h : DatAll ns vs (is.map Dat.int)) : IntsAre vs is := by
  induction is generalizing vs with
  | nil => cases h; exact .nil
  | cons x xs ih => cases h with | cons a r => cases a; exact .cons _ _ (ih r)
theorem DatAt.ints {h : Heap} {v : Value} {is : List Int} (H : DatAt h v (dInts is)) : ∃ a vs, v = .ref a ∧ h.IsList a vs.toArray ∧ IntsAre vs is := by
  obtain ⟨ns, o, i⟩ := H
  cases i with
  | list hm hall => exact ⟨_, _, rfl, ⟨_, o _ hm, rfl, _, rfl⟩, ints_of hall⟩
end Mine
end
section
open PySem PySem.W PySem.Calls PyProof.Rows
set_option maxRecDepth 100000
set_option maxHeartbeats 8000000
namespace Mine

noncomputable def onesL (n : Nat) : Int := (1000 ^ n - 1) / 999
noncomputable def whites : List Str := [Str.ofString "", Str.ofString " ", Str.ofString "\t", Str.ofString "\n", Str.ofString "\x0b\r", Str.ofString "\u00a0", Str.ofString "\u2003", Str.ofString "\x1f\u0085"]
noncomputable def stems : List Str := [Str.ofString "", Str.ofString ")", Str.ofString "(", Str.ofString "FLAGS (", Str.ofString "</b>", Str.ofString "<", Str.ofString ">", Str.ofString "&", Str.ofString "&amp;", Str.ofString "#", Str.ofString "\"", Str.ofString "\\", Str.ofString "\r.", Str.ofString ". :", Str.ofString "FLAGS (b"]
noncomputable def whiteL (c : Int) : Str := whites.getD (c / 960 % 8).toNat (Str.ofString "")
noncomputable def stemL (c : Int) : Str := if c / 60 % 16 = 15 then ⟨#[(32 + c / 60).toNat]⟩ ++ Str.ofString "." else stems.getD (c / 60 % 16).toNat (Str.ofString "")
noncomputable def commentL (x : Str) : Str := if (Txt.rstrip x).length = 0 then Str.ofString "#" else Str.ofString "# " ++ Txt.rstrip x
theorem fdiv_pos {c k : Int} (hk : 0 < k) : c.fdiv k = c / k := Int.fdiv_eq_ediv_of_nonneg c (Int.le_of_lt hk)
theorem fmod_pos {c k : Int} (hk : 0 < k) : c.fmod k = c % k := Int.fmod_eq_emod_of_nonneg c (Int.le_of_lt hk)
theorem white_at {c : Int} {k : Nat} (h : (c.fdiv 960).fmod 8 = (k : Int)) {x : Str} (hx : whites.getD k (Str.ofString "") = x) : whiteL c = x := by
  unfold whiteL
  rw [fdiv_pos (by decide), fmod_pos (by decide)] at h
  rw [h]; exact hx
theorem stem_at1 {c : Int} (h : (c.fdiv 60).fmod 16 = 15) : stemL c = ⟨#[(32 + c.fdiv 60).toNat]⟩ ++ Str.ofString "." := by
  unfold stemL
  rw [fdiv_pos (by decide), fmod_pos (by decide)] at h
  rw [if_pos h, fdiv_pos (by decide)]
theorem stem_at2 {c : Int} (h : ¬ (c.fdiv 60).fmod 16 = 15) : stemL c = stems.getD ((c.fdiv 60).fmod 16).toNat (Str.ofString "") := by
  unfold stemL
  rw [fdiv_pos (by decide), fmod_pos (by decide)] at *
  rw [if_neg h]
theorem ones_spec (w : World) (loose : List Str) (mean : ExcName → Option Value) (mg mb : Str → Option Value) (A : Around) (s : Shared) (Q E : Value → Shared → Prop) (n : Nat) (t : Tok) :
    Room 5 40 A → (Mine.hd0.heap_1_1 w.params).In s.heap → Top topProg loose mean mg mb s.heap → n ≤ 6 →
    Ends s Q (fun v _ => ∃ t, v = .int (onesL n) t) →
    wpAny (model PySem.Challenge.rw_if0001_01.row.prog w) A (call (.ref 265) [.int (n : Int) t]) Q E s := by
  k_fill
  intro R X T h0 ret
  obtain ⟨hh, dp, fr, gd, un⟩ := A
  obtain ⟨hA, hdp, hun⟩ := R
  cases hA
  dsimp only at hdp hun
  refine' pcall (by assumption) (by assumption) ?hd ?ho ?hcd ?hb ?hl ?hc ?h1 ?h2 ?h3 ?_
  (case ho => k_is)
  (case hcd => k_is)
  (case hd => ((try dsimp only); (try simp only [recursionLimit]); omega))
  (case hb => first | exact BindsTo.of_eq rfl | exact binds_K (by assumption) rfl (by k_is) rfl rfl rfl)
  (case hc => decide)
  (case hl => exact locs rfl)
  (case h1 => exact rfl)
  (case h2 => exact rfl)
  (case h3 => exact rfl)
  k_whole
  intro L' h' F' N'
  (try dsimp only)
  (try k_fold)
  k_steps
  all_goals (refine ret _ _ _ (Fr.keep (by assumption)) ⟨_, congrArg (fun z => Value.int z _) ?_⟩)
  all_goals (unfold onesL; rw [fdiv_pos (by decide)]; rfl)
theorem white_spec (w : World) (loose : List Str) (mean : ExcName → Option Value) (mg mb : Str → Option Value) (A : Around) (s : Shared) (Q E : Value → Shared → Prop) (c : Int) (t : Tok) :
    Room 5 40 A → (Mine.hd0.heap_1_1 w.params).In s.heap → Top topProg loose mean mg mb s.heap → 0 ≤ c → c < 1000000 →
    Ends s Q (fun v _ => ∃ t, v = .str (whiteL c) t) →
    wpAny (model PySem.Challenge.rw_if0001_01.row.prog w) A (call (.ref 213) [.int c t]) Q E s := by
  k_fill
  intro R X T h0 h1 ret
  obtain ⟨hh, dp, fr, gd, un⟩ := A
  obtain ⟨hA, hdp, hun⟩ := R
  cases hA
  dsimp only at hdp hun
  refine' pcall (by assumption) (by assumption) ?hd ?ho ?hcd ?hb ?hl ?hc ?h1 ?h2 ?h3 ?_
  (case ho => k_is)
  (case hcd => k_is)
  (case hd => ((try dsimp only); (try simp only [recursionLimit]); omega))
  (case hb => first | exact BindsTo.of_eq rfl | exact binds_K (by assumption) rfl (by k_is) rfl rfl rfl)
  (case hc => decide)
  (case hl => exact locs rfl)
  (case h1 => exact rfl)
  (case h2 => exact rfl)
  (case h3 => exact rfl)
  k_whole
  intro L' h' F' N'
  (try dsimp only)
  (try k_fold)
  k_steps
  all_goals (refine ret _ _ _ (Fr.keep (by assumption)) ⟨_, congrArg (fun z => Value.str z _) (Eq.symm ?_)⟩)
  all_goals (first | exact white_at (k := 0) (by assumption) rfl | exact white_at (k := 1) (by assumption) rfl | exact white_at (k := 2) (by assumption) rfl | exact white_at (k := 3) (by assumption) rfl | exact white_at (k := 4) (by assumption) rfl | exact white_at (k := 5) (by assumption) rfl | exact white_at (k := 6) (by assumption) rfl | exact white_at (k := 7) (by assumption) rfl)
theorem stem_spec (w : World) (loose : List Str) (mean : ExcName → Option Value) (mg mb : Str → Option Value) (A : Around) (s : Shared) (Q E : Value → Shared → Prop) (c : Int) (t : Tok) :
    Room 5 40 A → (Mine.hd0.heap_1_1 w.params).In s.heap → Top topProg loose mean mg mb s.heap → 0 ≤ c → c < 1000000 →
    Ends s Q (fun v _ => ∃ t, v = .str (stemL c) t) →
    wpAny (model PySem.Challenge.rw_if0001_01.row.prog w) A (call (.ref 206) [.int c t]) Q E s := by
  k_fill
  intro R X T h0 h1 ret
  obtain ⟨hh, dp, fr, gd, un⟩ := A
  obtain ⟨hA, hdp, hun⟩ := R
  cases hA
  dsimp only at hdp hun
  refine' pcall (by assumption) (by assumption) ?hd ?ho ?hcd ?hb ?hl ?hc ?h1 ?h2 ?h3 ?_
  (case ho => k_is)
  (case hcd => k_is)
  (case hd => ((try dsimp only); (try simp only [recursionLimit]); omega))
  (case hb => first | exact BindsTo.of_eq rfl | exact binds_K (by assumption) rfl (by k_is) rfl rfl rfl)
  (case hc => decide)
  (case hl => exact locs rfl)
  (case h1 => exact rfl)
  (case h2 => exact rfl)
  (case h3 => exact rfl)
  k_whole
  intro L' h' F' N'
  (try dsimp only)
  (try k_fold)
  k_steps
  all_goals (refine ret _ _ _ (Fr.keep (by assumption)) ⟨_, congrArg (fun z => Value.str z _) (Eq.symm ?_)⟩)
  · exact stem_at1 (by assumption)
  · exact stem_at2 (by assumption)
theorem comment_spec (w : World) (loose : List Str) (mean : ExcName → Option Value) (mg mb : Str → Option Value) (A : Around) (s : Shared) (Q E : Value → Shared → Prop) (x : Str) (t : Tok) :
    Room 5 40 A → (Mine.hd0.heap_1_1 w.params).In s.heap → Top topProg loose mean mg mb s.heap → x.length ≤ 1000 →
    Ends s Q (fun v _ => ∃ t, v = .str (commentL x) t) →
    wpAny (model PySem.Challenge.rw_if0001_01.row.prog w) A (call (.ref 57) [.str x t]) Q E s := by
  k_fill
  intro R X T h0 ret
  obtain ⟨hh, dp, fr, gd, un⟩ := A
  obtain ⟨hA, hdp, hun⟩ := R
  cases hA
  dsimp only at hdp hun
  refine' pcall (by assumption) (by assumption) ?hd ?ho ?hcd ?hb ?hl ?hc ?h1 ?h2 ?h3 ?_
  (case ho => k_is)
  (case hcd => k_is)
  (case hd => ((try dsimp only); (try simp only [recursionLimit]); omega))
  (case hb => first | exact BindsTo.of_eq rfl | exact binds_K (by assumption) rfl (by k_is) rfl rfl rfl)
  (case hc => decide)
  (case hl => exact locs rfl)
  (case h1 => exact rfl)
  (case h2 => exact rfl)
  (case h3 => exact rfl)
  k_whole
  intro L' h' F' N'
  (try dsimp only)
  (try k_fold)
  k_steps
  all_goals (refine ret _ _ _ (Fr.keep (by assumption)) ⟨_, congrArg (fun z => Value.str z _) (Eq.symm ?_)⟩)
  all_goals (unfold commentL; first | (rw [if_pos (by omega)]; done) | (rw [if_neg (by omega)]; done) | trace_state)
end Mine
end
section
open PySem PySem.W PySem.Calls PyProof.Rows
set_option maxRecDepth 100000
set_option maxHeartbeats 8000000
set_option linter.all false
namespace Mine
/-- a name more -/
noncomputable def put (m : Str → Option Value) (x : Str) (v : Value) : Str → Option Value := fun y => if y = x then some v else m y
theorem st_put {M : Model} {A : Around} {E : Value → Shared → Prop} {s : Shared} {h₀ : Heap} {L a : Addr} {m : Str → Option Value} {news : List (Addr × Obj)} {cn : Str} {cs : Scope} {cd : Value} {cl : List (Str × Addr)} {x : Str} {v : Value} {Q : Unit → Shared → Prop} (F : Fr h₀ L s.heap m) (N : News h₀ L s.heap news)
    (h : ∀ h', Fr h₀ L h' (put m x v) → News h₀ L h' news → Q () { s with heap := h', toks := s.toks + 1 }) (hk : cs.kind = .function) (hl : (envX cn cs L a cd cl).kindOf x = some .local) :
    wpAny M A (storeName (envX cn cs L a cd cl) x v) Q E s := storeX_L F N h hk hl
/-- what stands behind a statement -/
noncomputable def Th (M : Model) (A : Around) (rest : List Stmt) (env : Env) (Q : Flow → Shared → Prop) (E : Value → Shared → Prop) (f : Flow) (s : Shared) : Prop := match f with | .next => wpAny M A (execs rest env) Q E s | f => Q f s
section
variable {M : Model} {A : Around} {E : Value → Shared → Prop} {s : Shared} {env : Env} {st : Stmt} {rest : List Stmt} {Q : Flow → Shared → Prop}
theorem th_cons (h : wpAny M A (exec st env) (Th M A rest env Q E) E s) : wpAny M A (execs (st :: rest) env) Q E s := wpAny_execs_cons (wpAny_mono h (fun _ _ q => q) fun _ _ q => q)
theorem th_one (h : wpAny M A (exec st env) Q E s) : wpAny M A (execs [st] env) Q E s := wpAny_execs_cons (wpAny_mono h (fun f s q => by cases f <;> first | exact wpAny_execs_nil q | exact q) fun _ _ q => q)
/-- the tokens are forgotten, the state is laid short -/
theorem th_next {s₀ : Shared} {g h : Heap} {L : Addr} {m : Str → Option Value} (_F : Fr g L h m) (H : ∀ k, wpAny M A (execs rest env) Q E ⟨h, s₀.gens, s₀.drawn, k, s₀.os⟩) (e : s = ⟨h, s₀.gens, s₀.drawn, s.toks, s₀.os⟩) : Th M A rest env Q E .next s := by
  rw [e]; exact H _
theorem th_ret {v : Value} (h : Q (.ret v) s) : Th M A rest env Q E (.ret v) s := h
/-- a post, hidden -/
noncomputable def Halt (R : Flow → Shared → Prop) (f : Flow) (s : Shared) : Prop := R f s
theorem hide1 (h : ∀ R : Flow → Shared → Prop, (∀ f s', Q f s' → Halt R f s') → wpAny M A (execs rest env) (Halt R) E s) : wpAny M A (execs rest env) Q E s := h Q fun _ _ q => q
theorem hide2 {t : Sem Unit} (h : ∀ R : Flow → Shared → Prop, (∀ f s', Q f s' → Halt R f s') → wpAny M A t (fun _ s₂ => wpAny M A (execs rest env) (Halt R) E s₂) E s) :
    wpAny M A t (fun _ s₂ => wpAny M A (execs rest env) Q E s₂) E s := h Q fun _ _ q => q
end
end Mine
end
section
open PySem PySem.W PySem.Calls PyProof.Rows
set_option maxRecDepth 100000
set_option maxHeartbeats 8000000
namespace Mine

theorem execs_tk {M : Model} {A : Around} {E : Value → Shared → Prop} {s : Shared} {env : Env} {st : Stmt} {rest : List Stmt} {Q : Flow → Shared → Prop} {n : Nat} (hn : n ≤ s.toks)
    (h : wpAny M A (exec st env) (fun f s' => n ≤ s'.toks → (match f with | .next => wpAny M A (execs rest env) Q E s' | f => Q f s')) E s) : wpAny M A (execs (st :: rest) env) Q E s :=
  wpAny_execs_cons (wpAny_with_toks hn (wpAny_mono h (fun _ _ q => q) fun _ _ e _ => e))
theorem toks_gen {α : Type} {M : Model} {A : Around} {E : Value → Shared → Prop} {t : Sem α} {Q : α → Shared → Prop} {h : Heap} {g : Array GenState} {d : Drawn} {os : OsState} {n : Nat}
    (H : ∀ k, 1 ≤ k → wpAny M A t Q E ⟨h, g, d, k, os⟩) : wpAny M A t Q E ⟨h, g, d, n + 1, os⟩ := H _ (Nat.le_add_left 1 n)

/-- each c of a text replaced by z -/
noncomputable def subst (c : Nat) (z : List Nat) (l : List Nat) : List Nat := l.flatMap fun k => if k = c then z else [k]
noncomputable def subS (c : Nat) (z x : Str) : Str := ⟨(subst c z.cps.toList x.cps.toList).toArray⟩
theorem subst_append (c : Nat) (z a b : List Nat) : subst c z (a ++ b) = subst c z a ++ subst c z b := List.flatMap_append
theorem subst_free (c : Nat) (z : List Nat) : ∀ l : List Nat, c ∉ l → subst c z l = l := by
  intro z0
  induction z0 with
  | nil =>
    rintro _
    exact rfl
  | cons k r ih0 =>
    rintro h
    have h1 : ¬ k = c := fun e => h (e ▸ List.mem_cons_self ..)
    have h2 : c ∉ r := fun m => h (List.mem_cons_of_mem _ m)
    have ih := ih0 h2
    unfold subst at *
    rw [List.flatMap_cons, if_neg h1, ih]; rfl
theorem subst_one (c : Nat) (z : List Nat) : subst c z [c] = z := by simp [subst]
theorem subst_join (c : Nat) (z : Str) : ∀ parts : List Str, (∀ p ∈ parts, c ∉ p.cps.toList) → subst c z.cps.toList (Str.join ⟨#[c]⟩ parts).cps.toList = (Str.join z parts).cps.toList
  | [], _ => rfl
  | [p], h => subst_free c _ _ (h p (List.mem_singleton.mpr rfl))
  | p :: q :: r, h => by
    have ih := subst_join c z (q :: r) fun a ha => h a (List.mem_cons_of_mem _ ha)
    show subst c z.cps.toList (p ++ ⟨#[c]⟩ ++ Str.join ⟨#[c]⟩ (q :: r)).cps.toList = (p ++ z ++ Str.join z (q :: r)).cps.toList
    simp only [Str.cps_append, Array.toList_append]
    rw [subst_append, subst_append, ih, subst_free c _ _ (h p (List.mem_cons_self ..))]
    show p.cps.toList ++ subst c z.cps.toList [c] ++ _ = _
    rw [subst_one]
theorem replace_is (x z : Str) (c : Nat) : Txt.replace x ⟨#[c]⟩ z = subS c z x := by
  have h : (Txt.replace x ⟨#[c]⟩ z).cps.toList = subst c z.cps.toList x.cps.toList := by
    rw [StrLaws.replace_one, ← subst_join c z _ (StrLaws.split_free x c), StrLaws.join_split]
  refine Str.ext' ?_
  unfold subS
  rw [← h]
theorem subst_len (c : Nat) (z : List Nat) (hz : z.length ≤ 5) : ∀ l : List Nat, (subst c z l).length ≤ 5 * l.length := by
  intro z0
  induction z0 with
  | nil =>
    exact Nat.le_refl _
  | cons k r ih0 =>
    have ih := ih0
    unfold subst at *
    rw [List.flatMap_cons, List.length_append, List.length_cons]
    split
    · omega
    · simp only [List.length_singleton]; omega
theorem subS_len (c : Nat) (z x : Str) (hz : z.length ≤ 5) : (subS c z x).length ≤ 5 * x.length := by
  have h := subst_len c z.cps.toList (by simpa [Str.length] using hz) x.cps.toList
  simpa [Str.length, subS] using h
theorem subS_free (c : Nat) (z x : Str) (h : c ∉ x.cps.toList) : subS c z x = x := by
  refine Str.ext' ?_
  unfold subS
  rw [subst_free c _ _ h]

theorem repl_ {prog : Program} {w : World} {A : Around} {E : Value → Shared → Prop} {s : Shared} {x y z : Str} {t u v : Nat} {Q : Value → Shared → Prop} (c : Nat) (hy : y = ⟨#[c]⟩) (hyz : (y == z) = false) (hz : z.length ≤ 5)
    (hu : @Ne Nat u 0) (hv : @Ne Nat v 0) (huv : @Ne Nat u v) (hx : x.length ≤ 100000)
    (hq : ∀ t' k, (subS c z x).length ≤ 5 * x.length → Q (.str (subS c z x) t') { s with toks := k }) : wpAny (model prog w) A (call (.builtin "str.replace") [.str x t, .str y u, .str z v]) Q E s := by
  refine SC.replaceW hu hv huv hyz (by omega) (by omega) fun t' k => ?_
  subst hy
  rw [replace_is]
  exact hq t' k (subS_len c z x hz)
theorem skip_sub {x y z : Str} (c : Nat) (hy : y = ⟨#[c]⟩) (h : (Builtin.Str.occurrences x y 0 x.length 1).isEmpty = true) : subS c z x = x := by
  subst hy
  refine subS_free c z x fun hm => ?_
  have := StrLaws.found_one x c
  rw [h, decide_eq_true hm] at this
  cases this
theorem skip38 {x z : Str} (h : (Builtin.Str.occurrences x (Str.ofString "&") 0 x.length 1).isEmpty = true) : subS 38 z x = x := skip_sub 38 (by decide +kernel) h
theorem skip60 {x z : Str} (h : (Builtin.Str.occurrences x (Str.ofString "<") 0 x.length 1).isEmpty = true) : subS 60 z x = x := skip_sub 60 (by decide +kernel) h
theorem skip62 {x z : Str} (h : (Builtin.Str.occurrences x (Str.ofString ">") 0 x.length 1).isEmpty = true) : subS 62 z x = x := skip_sub 62 (by decide +kernel) h
theorem skip13 {x z : Str} (h : (Builtin.Str.occurrences x (Str.ofString "\x0d") 0 x.length 1).isEmpty = true) : subS 13 z x = x := skip_sub 13 (by decide +kernel) h
noncomputable def escL (x : Str) : Str := subS 13 (Str.ofString "&#xD;") (subS 62 (Str.ofString "&gt;") (subS 60 (Str.ofString "&lt;") (subS 38 (Str.ofString "&amp;") x)))
/-- a halt of the walk -/
noncomputable def Stop (p : Prop) : Prop := p
theorem Stop.out {p : Prop} (h : Stop p) : p := h
theorem Stop.mk {p : Prop} (h : p) : Stop p := h
noncomputable def oneM (x : Str) (v : Value) : Str → Option Value := fun z => if z = x then some v else none
theorem fr_lk {g h : Heap} {L : Addr} {x : Str} {v : Value} (F : Fr g L h (fun y => List.lookup y [(x, v)].reverse)) : Fr g L h (oneM x v) := by
  have e : (fun y => List.lookup y [(x, v)].reverse) = oneM x v := by
    funext y
    show List.lookup y [(x, v)] = _
    unfold oneM List.lookup
    by_cases q : y = x
    · rw [if_pos q, q]; simp
    · rw [if_neg q, show (y == x) = false from beq_eq_false_iff_ne.mpr q]; rfl
  rw [← e]; exact F
theorem fr_set {g h : Heap} {L : Addr} {x : Str} {u v : Value} (F : Fr g L h (fun y => if y = x then some v else oneM x u y)) : Fr g L h (oneM x v) := by
  have e : (fun y => if y = x then some v else oneM x u y) = oneM x v := by
    funext y
    unfold oneM
    by_cases q : y = x
    · rw [if_pos q, if_pos q]
    · rw [if_neg q, if_neg q, if_neg q]
  rw [← e]; exact F
theorem S2_w1 : True := by
  k_with_none
  k_with "execs cons" => ((with_reducible refine Stop.out ?_))
  k_with "execs nil" => ((with_reducible refine wpAny_execs_nil ?_))
  k_with "Halt" => ((with_reducible refine Stop.out ?_))
  k_with "call builtin:str.replace" => (k_here; (first | refine repl_ 38 (by decide +kernel) (by decide +kernel) (by decide +kernel) (by omega) (by omega) (by omega) (by omega) ?_ | refine repl_ 60 (by decide +kernel) (by decide +kernel) (by decide +kernel) (by omega) (by omega) (by omega) (by omega) ?_ | refine repl_ 62 (by decide +kernel) (by decide +kernel) (by decide +kernel) (by omega) (by omega) (by omega) (by omega) ?_ | refine repl_ 13 (by decide +kernel) (by decide +kernel) (by decide +kernel) (by omega) (by omega) (by omega) (by omega) ?_); intro t9 k9 hl9)
  trivial
theorem esc_spec (w : World) (loose : List Str) (mean : ExcName → Option Value) (mg mb : Str → Option Value) (A : Around) (s : Shared) (Q E : Value → Shared → Prop) (x : Str) (t : Tok) :
    Room 5 40 A → (Mine.hd0.heap_1_1 w.params).In s.heap → Top topProg loose mean mg mb s.heap → 1 ≤ s.toks → x.length ≤ 20 →
    Ends s Q (fun v h => ∃ t, v = .str (escL x) t) →
    wpAny (model PySem.Challenge.rw_if0001_01.row.prog w) A (call (.ref 180) [.str x t]) Q E s := by
  k_fill
  intro R X T h0 h1 ret
  obtain ⟨hh, dp, fr, gd, un⟩ := A
  obtain ⟨hA, hdp, hun⟩ := R
  cases hA
  dsimp only at hdp hun
  refine' pcall (binds := [(Str.ofString "text", .str x t)]) (by assumption) (by assumption) ?hd ?ho ?hcd ?hb ?hl ?hc ?h1 ?h2 ?h3 ?_
  (case ho => k_is)
  (case hcd => k_is)
  (case hd => ((try dsimp only); (try simp only [recursionLimit]); omega))
  (case hb => first | exact BindsTo.of_eq rfl | exact binds_K (by assumption) rfl (by k_is) rfl rfl rfl)
  (case hc => decide)
  (case hl => exact locs rfl)
  (case h1 => exact rfl)
  (case h2 => exact rfl)
  (case h3 => exact rfl)
  k_whole
  intro L' h' F' N'
  (try dsimp only)
  (try k_fold)
  have hx20 : x.length ≤ 20 := by assumption
  replace F' : Fr s.heap L' h' (oneM (Str.ofString "text") (.str x t)) := fr_lk F'
  k_steps
  refine Stop.mk ?_
  refine wpAny_execs_cons ?_
  k_steps
  refine Stop.mk ?_
  with_reducible refine hide1 ?_; intro QT hQT
  refine wpAny_execs_cons (wpAny_mono (Q := Halt fun f s' => f = .next ∧ ∃ h1 k1 t1, s' = ⟨h1, s.gens, s.drawn, k1, s.os⟩ ∧ Fr s.heap L' h1 (oneM (Str.ofString "text") (.str (subS 38 (Str.ofString "&amp;") x) t1)) ∧ 1 ≤ k1) ?if1 ?rest1 (fun _ _ e => e))
  case if1 =>
    k_steps
    · refine Stop.mk ?_
      refine ⟨rfl, _, _, t, rfl, ?_, ?_⟩
      · rw [skip38 (by assumption)]; first | done | assumption
      · first | exact Nat.le_add_left 1 _ | assumption | omega
    · refine Stop.mk ?_
      with_reducible refine wpAny_execs_cons ?_
      k_steps
      refine Stop.mk ?_
      refine ⟨rfl, _, _, _, rfl, fr_set (by assumption), ?_⟩
      exact Nat.le_add_left 1 _
  rintro f s' ⟨rfl, h1, k1, t1, rfl, F1, hk1⟩
  (try dsimp only)
  have hl1 := subS_len 38 (Str.ofString "&amp;") x (by decide +kernel)
  obtain ⟨y1, ey1⟩ : ∃ y, y = subS 38 (Str.ofString "&amp;") x := ⟨_, rfl⟩
  rw [← ey1] at F1 hl1
  refine wpAny_execs_cons (wpAny_mono (Q := Halt fun f s' => f = .next ∧ ∃ h1 k1 t1, s' = ⟨h1, s.gens, s.drawn, k1, s.os⟩ ∧ Fr s.heap L' h1 (oneM (Str.ofString "text") (.str (subS 60 (Str.ofString "&lt;") y1) t1)) ∧ 1 ≤ k1) ?if2 ?rest2 (fun _ _ e => e))
  case if2 =>
    k_steps
    · refine Stop.mk ?_
      refine ⟨rfl, _, _, t1, rfl, ?_, ?_⟩
      · rw [skip60 (by assumption)]; first | done | assumption
      · first | exact Nat.le_add_left 1 _ | assumption | omega
    · refine Stop.mk ?_
      with_reducible refine wpAny_execs_cons ?_
      k_steps
      refine Stop.mk ?_
      refine ⟨rfl, _, _, _, rfl, fr_set (by assumption), ?_⟩
      exact Nat.le_add_left 1 _
  rintro f s' ⟨rfl, h2, k2, t2, rfl, F2, hk2⟩
  (try dsimp only)
  have hl2 := subS_len 60 (Str.ofString "&lt;") y1 (by decide +kernel)
  obtain ⟨y2, ey2⟩ : ∃ y, y = subS 60 (Str.ofString "&lt;") y1 := ⟨_, rfl⟩
  rw [← ey2] at F2 hl2
  refine wpAny_execs_cons (wpAny_mono (Q := Halt fun f s' => f = .next ∧ ∃ h1 k1 t1, s' = ⟨h1, s.gens, s.drawn, k1, s.os⟩ ∧ Fr s.heap L' h1 (oneM (Str.ofString "text") (.str (subS 62 (Str.ofString "&gt;") y2) t1)) ∧ 1 ≤ k1) ?if3 ?rest3 (fun _ _ e => e))
  case if3 =>
    k_steps
    · refine Stop.mk ?_
      refine ⟨rfl, _, _, t2, rfl, ?_, ?_⟩
      · rw [skip62 (by assumption)]; first | done | assumption
      · first | exact Nat.le_add_left 1 _ | assumption | omega
    · refine Stop.mk ?_
      with_reducible refine wpAny_execs_cons ?_
      k_steps
      refine Stop.mk ?_
      refine ⟨rfl, _, _, _, rfl, fr_set (by assumption), ?_⟩
      exact Nat.le_add_left 1 _
  rintro f s' ⟨rfl, h3, k3, t3, rfl, F3, hk3⟩
  (try dsimp only)
  have hl3 := subS_len 62 (Str.ofString "&gt;") y2 (by decide +kernel)
  obtain ⟨y3, ey3⟩ : ∃ y, y = subS 62 (Str.ofString "&gt;") y2 := ⟨_, rfl⟩
  rw [← ey3] at F3 hl3
  refine wpAny_execs_cons (wpAny_mono (Q := Halt fun f s' => f = .next ∧ ∃ h1 k1 t1, s' = ⟨h1, s.gens, s.drawn, k1, s.os⟩ ∧ Fr s.heap L' h1 (oneM (Str.ofString "text") (.str (subS 13 (Str.ofString "&#xD;") y3) t1)) ∧ 1 ≤ k1) ?if4 ?rest4 (fun _ _ e => e))
  case if4 =>
    k_steps
    · refine Stop.mk ?_
      refine ⟨rfl, _, _, t3, rfl, ?_, ?_⟩
      · rw [skip13 (by assumption)]; first | done | assumption
      · first | exact Nat.le_add_left 1 _ | assumption | omega
    · refine Stop.mk ?_
      with_reducible refine wpAny_execs_cons ?_
      k_steps
      refine Stop.mk ?_
      refine ⟨rfl, _, _, _, rfl, fr_set (by assumption), ?_⟩
      exact Nat.le_add_left 1 _
  rintro f s' ⟨rfl, h4, k4, t4, rfl, F4, hk4⟩
  (try dsimp only)
  have hl4 := subS_len 13 (Str.ofString "&#xD;") y3 (by decide +kernel)
  obtain ⟨y4, ey4⟩ : ∃ y, y = subS 13 (Str.ofString "&#xD;") y3 := ⟨_, rfl⟩
  rw [← ey4] at F4 hl4
  k_steps
  refine Stop.mk ?_
  refine wpAny_execs_cons ?_
  k_steps
  refine Stop.mk ?_
  refine hQT _ _ ?_
  k_steps
  (try refine Stop.mk ?_)
  refine ret _ _ _ (Fr.keep (by assumption)) ⟨_, congrArg (fun z => Value.str z _) (Eq.symm ?_)⟩
  unfold escL
  rw [← ey1, ← ey2, ← ey3, ← ey4]
end Mine
end
theorem Mine.Hg_w0 : True := by
  k_with_none
  trivial
section
namespace Mine
/-- the goal, hidden while a fact is taken apart (each casesOn lays its goal anew) -/
theorem hideG {p : Prop} (h : ∀ G : Prop, (p → G) → G) : p := h p fun q => q
end Mine
end
section
open PySem PySem.W PySem.Calls PyProof.Rows
set_option maxRecDepth 100000
set_option maxHeartbeats 8000000
namespace Mine
noncomputable abbrev Led := List (Addr × Obj)
theorem small_n {n : Nat} (h : n ≤ 1000) : Builtin.Range.small 0 (n : Int) 1 = true := small_one (by decide) (by decide) (by omega) (by omega)
theorem rsize_n (n : Nat) : Builtin.Range.rangeSize 0 (n : Int) 1 = (n : Int) := by rw [rangeSize_nat]; simp
theorem size_n {n : Nat} (h : n ≤ 1000) : n ≤ sizeLine := by rw [sizeLine_eq]; omega
/-- a loop's state: a ledger, names, what holds -/
noncomputable def JS {σ : Type} (L : σ → List (Addr × Obj)) (ps : σ → List (Str × Value)) (P : Nat → σ → Prop) (i : Nat) (m : Str → Option Value) (nx : List (Addr × Obj)) : Prop :=
  ∃ c, nx = L c ∧ (∀ p ∈ ps c, m p.1 = some p.2) ∧ P i c
/-- a turn's end, as the loop's step asks for it -/
theorem inv_step {h₀ : Heap} {L I : Addr} {S : (Str → Option Value) → List (Addr × Obj) → Prop} {own : List (Addr × Obj)} {oI : Obj} {s₁ s₂ : Shared} (hI : (I, oI) ∈ own) (z : InvEndG h₀ L S own s₁ s₂) : LoopStepU h₀ L [I] own S s₁ .next s₂ := by
  obtain ⟨h', tk, m', news', nx, e, F', N', hn, ho, ha, hm⟩ := z
  refine ⟨rfl, h', tk, m', nx, e, F', fun p hp => N' p ((List.mem_append.mp hp).elim (ho p) (hn p)), fun p hp hq => ?_, hm⟩
  exact ha _ hI p.1 (List.mem_map.mpr ⟨p, hp, rfl⟩) (List.mem_singleton.mp hq).symm
theorem fr_B {h₀ h : Heap} {L : Addr} {m : Str → Option Value} {ps : List (Str × Value)} (F : Fr h₀ L h m) (hk : ∀ p ∈ ps, m p.1 = some p.2) : Fr h₀ L h (kstB m ps) := by
  have e : kstB m ps = m := funext fun z => kstB_eq hk fun _ => rfl
  rw [e]; exact F
theorem fr_X {h₀ h : Heap} {L : Addr} {m : Str → Option Value} {ps : List (Str × Value)} {x : Str} {v : Value} (F : Fr h₀ L h (fun y => if y = x then some v else m y)) (hk : ∀ p ∈ ps, m p.1 = some p.2) :
    Fr h₀ L h (fun y => if y = x then some v else kstB m ps y) := by
  have e : (fun y => if y = x then some v else kstB m ps y) = fun y => if y = x then some v else m y := funext fun z => by
    rw [kstB_eq hk fun _ => rfl]
  rw [e]; exact F
section
variable {σ : Type} {prog : Program} {w : World} {A : Around} {E : Value → Shared → Prop} {s : Shared} {env : Env} {h₀ : Heap} {x : Str} {body : List Stmt} {Q : Flow → Shared → Prop}
set_option maxHeartbeats 3200000 in
/-- over a list in the ledger -/
theorem loop_N {l : Addr} {vs : List Value} {nn : Nat} {m₀ : Str → Option Value} {news : List (Addr × Obj)} (L : σ → List (Addr × Obj)) (ps : σ → List (Str × Value)) (P : Nat → σ → Prop) (c₀ : σ)
    (hh : A.handled = none) (hl : ∀ c, (l, listOf vs.toArray nn) ∈ L c) (F : Fr h₀ env.locals s.heap m₀) (N : News h₀ env.locals s.heap news) (hn : ∀ p ∈ L c₀, p ∈ news) (hk : ∀ p ∈ ps c₀, m₀ p.1 = some p.2) (hp : P 0 c₀)
    (turn : ∀ (i : Nat) (v : Value) (c : σ) (u : Str → Option Value) h tk own, vs[i]? = some v → P i c → OwnOff own ((L c).map (·.1)) →
      Fr h₀ env.locals h (fun y => if y = x then some v else kstB u (ps c) y) → News h₀ env.locals h (L c ++ own) →
      wpAny (model prog w) A (execs body env) (InvPostG h₀ env.locals (JS L ps P (i + 1)) own { s with heap := h, toks := tk } Q) E { s with heap := h, toks := tk })
    (done : ∀ (c : σ) (u : Str → Option Value) h tk, P vs.length c → Fr h₀ env.locals h (kstB u (ps c)) → News h₀ env.locals h (L c) → Q .next { s with heap := h, toks := tk }) :
    wpAny (model prog w) A (pyIter (.ref l)) (fun it s₂ => LoopAtV prog w A h₀ env x body Q E it s₂) E s := by
  refine kdl_iter (news := L c₀) (fun i m nx => JS L ps P i m nx) hh (hl c₀) F (fun p hp => N p (hn p hp)) ⟨c₀, rfl, hk, hp⟩ ?_ ?_
  · rintro i v m₁ nx h tk own hv hoff _ ⟨c, rfl, h1, hp'⟩ F₁ N₁
    refine wpAny_mono (turn i v c m₁ h tk own hv hp' hoff (fr_X F₁ h1) N₁) (fun f s₂ p => ?_) fun _ _ x => x
    have up : InvEndG h₀ env.locals (JS L ps P (i + 1)) own { s with heap := h, toks := tk } s₂ →
        InvEndG h₀ env.locals (fun m' nx => (l, listOf vs.toArray nn) ∈ nx ∧ JS L ps P (i + 1) m' nx) own { s with heap := h, toks := tk } s₂ := by
      intro zz0
      with_reducible refine hideG ?_
      intro G0 hG0
      obtain ⟨h', tk', m', news', nx', e', F', N', hn', ho', ha, hS⟩ := zz0
      with_reducible refine hG0 ?_
      clear hG0 G0
      refine ⟨h', tk', m', news', nx', e', F', N', hn', ho', ha, ?_, hS⟩
      obtain ⟨c', rfl, _⟩ := hS
      exact hl c'
    cases f with
    | ret v => exact p
    | brk => exact p
    | next => exact up p
    | cont => exact up p
  · rintro m₁ nx h tk ⟨c, rfl, h1, hp'⟩ F₁ N₁
    exact done c m₁ h tk hp' (fr_B F₁ h1) N₁
set_option maxHeartbeats 3200000 in
/-- over a list that stands below -/
theorem loop_B {l : Addr} {vs : List Value} {m₀ : Str → Option Value} {news : List (Addr × Obj)} (L : σ → List (Addr × Obj)) (ps : σ → List (Str × Value)) (P : Nat → σ → Prop) (c₀ : σ)
    (hh : A.handled = none) (hl : h₀.IsList l vs.toArray) (F : Fr h₀ env.locals s.heap m₀) (N : News h₀ env.locals s.heap news) (hn : ∀ p ∈ L c₀, p ∈ news) (hk : ∀ p ∈ ps c₀, m₀ p.1 = some p.2) (hp : P 0 c₀)
    (turn : ∀ (i : Nat) (v : Value) (c : σ) (u : Str → Option Value) h tk own, vs[i]? = some v → P i c → OwnOff own ((L c).map (·.1)) →
      Fr h₀ env.locals h (fun y => if y = x then some v else kstB u (ps c) y) → News h₀ env.locals h (L c ++ own) →
      wpAny (model prog w) A (execs body env) (InvPostG h₀ env.locals (JS L ps P (i + 1)) own { s with heap := h, toks := tk } Q) E { s with heap := h, toks := tk })
    (done : ∀ (c : σ) (u : Str → Option Value) h tk, P vs.length c → Fr h₀ env.locals h (kstB u (ps c)) → News h₀ env.locals h (L c) → Q .next { s with heap := h, toks := tk }) :
    wpAny (model prog w) A (pyIter (.ref l)) (fun it s₂ => LoopAtV prog w A h₀ env x body Q E it s₂) E s := by
  have hls : s.heap.IsList l vs.toArray := hl.at fun o e => F.keep l o e
  obtain ⟨ol, hol, _⟩ := id hl
  have hlt : l < h₀.objs.size := Heap.lt_size hol
  have hne : l ≠ s.heap.objs.size := Nat.ne_of_lt (Nat.lt_trans (Nat.lt_of_lt_of_le hlt F.above) F.ns.lt)
  refine wpAny_pyIter_list hls ?_
  have W := Walks.list (prog := prog) (w := w) hh s.heap.objs.size l hne vs.toArray
  have hlen : vs.toArray.size = vs.length := by simp
  rw [hlen] at W
  have N0 : News h₀ env.locals s.heap (L c₀) := fun p hp => N p (hn p hp)
  refine ⟨_, _, _, vs.length, _, _, m₀, L c₀, (fun i m nx => JS L ps P i m nx), rfl, W, ?_, ?_, ?_, ⟨⟨_, Heap.get?_push_size _ rfl, rfl, rfl⟩, hls.at fun o e => Heap.get?_push_of_some _ e⟩, F.push _, (fun p hp => ⟨Heap.get?_push_of_some _ (N0 p hp).1, (N0 p hp).2⟩), ⟨c₀, rfl, hk, hp⟩, ?_, ?_⟩
  · intro hm
    rcases List.mem_cons.mp hm with e | hm
    · exact absurd F.ns.lt (e ▸ Nat.lt_irrefl _)
    · exact absurd (Nat.lt_of_lt_of_le hlt F.above) ((List.mem_singleton.mp hm) ▸ Nat.lt_irrefl _)
  · intro b hb
    rw [List.mem_singleton.mp hb]
    exact next_is_new F
  · intro p hp hI
    exact absurd (Heap.lt_size (N0 p hp).1) ((List.mem_singleton.mp hI) ▸ Nat.lt_irrefl _)
  · intro i v m₁ news₁ s₁ own zz6 hin hP zz9 hoff hown _ hfp hst F₁ N₁
    with_reducible refine hideG ?_
    intro G0 hG0
    obtain ⟨hh', tk', rfl⟩ := zz6
    obtain ⟨c, rfl, h1, hp'⟩ := zz9
    with_reducible refine hG0 ?_
    clear hG0 G0
    have hI0 : h₀.get? s.heap.objs.size = none := next_is_new F
    obtain ⟨⟨oI, hoI, _⟩, _⟩ := id hst
    have hIown : (s.heap.objs.size, oI) ∈ own := hfp _ (List.mem_cons.mpr (.inl rfl)) hI0 _ hoI
    have hsep : OwnOff own ((L c).map (·.1)) := by
      intro p hp b hb e
      obtain ⟨q, hq, rfl⟩ := List.mem_map.mp hb
      rcases List.mem_cons.mp (hown p hp) with h1 | h1
      · exact hoff q hq (List.mem_singleton.mpr (e ▸ h1))
      · have h2 := List.mem_singleton.mp h1
        have h3 := (N₁ q (List.mem_append.mpr (.inr hq))).2.2
        rw [← e, h2, hol] at h3
        cases h3
    have hP' : vs[i]? = some v := by simpa using hP
    have N₂ : News h₀ env.locals hh' (L c ++ own) := fun p hp => N₁ p ((List.mem_append.mp hp).elim (fun h => List.mem_append.mpr (.inr h)) fun h => List.mem_append.mpr (.inl h))
    refine wpAny_mono (turn i v c m₁ hh' tk' own hP' hp' hsep (fr_X F₁ h1) N₂) (fun f s₂ p => ?_) fun _ _ e => e
    cases f with
    | ret v => exact .ret p
    | brk => exact .brk p
    | next => exact .next (inv_step hIown p)
    | cont => exact .cont (inv_step hIown p)
  · rintro h' tk m' news' F' N' _ ⟨c, rfl, h1, hp'⟩
    exact done c m' h' tk hp' (fr_B F' h1) N'
set_option maxHeartbeats 3200000 in
/-- over a range by ones -/
theorem loop_R {r : Addr} {a₀ b₀ : Int} {t₀ u₀ v₀ : Tok} {n : Nat} {m₀ : Str → Option Value} {news : List (Addr × Obj)} (L : σ → List (Addr × Obj)) (ps : σ → List (Str × Value)) (P : Nat → σ → Prop) (c₀ : σ)
    (hh : A.handled = none) (hr : IsRange s.heap r a₀ b₀ 1 t₀ u₀ v₀) (hsmall : Builtin.Range.small a₀ b₀ 1 = true) (hsz : Builtin.Range.rangeSize a₀ b₀ 1 = (n : Int)) (F : Fr h₀ env.locals s.heap m₀) (N : News h₀ env.locals s.heap news) (hn : ∀ p ∈ L c₀, p ∈ news) (hk : ∀ p ∈ ps c₀, m₀ p.1 = some p.2) (hp : P 0 c₀)
    (turn : ∀ (i : Nat) (t : Tok) (c : σ) (u : Str → Option Value) h tk own, i < n → P i c → OwnOff own ((L c).map (·.1)) →
      Fr h₀ env.locals h (fun y => if y = x then some (.int (a₀ + (i : Int)) t) else kstB u (ps c) y) → News h₀ env.locals h (L c ++ own) →
      wpAny (model prog w) A (execs body env) (InvPostG h₀ env.locals (JS L ps P (i + 1)) own { s with heap := h, toks := tk } Q) E { s with heap := h, toks := tk })
    (done : ∀ (c : σ) (u : Str → Option Value) h tk, P n c → Fr h₀ env.locals h (kstB u (ps c)) → News h₀ env.locals h (L c) → Q .next { s with heap := h, toks := tk }) :
    wpAny (model prog w) A (pyIter (.ref r)) (fun it s₂ => LoopAtV prog w A h₀ env x body Q E it s₂) E s := by
  refine wpAny_pyIter_range hr hsmall ?_
  have W : Walks prog w A s.heap.objs.size [s.heap.objs.size] [s.heap.objs.size] n (fun i v => i < n ∧ ∃ t, v = .int (a₀ + i * 1) t)
      (fun i h => IsRangeIter h s.heap.objs.size (a₀ + (i : Nat) * 1) ((n : Int) - (i : Nat)) 1) := (Walks.range hh _ a₀ 1 n).bound
  have N0 : News h₀ env.locals s.heap (L c₀) := fun p hp => N p (hn p hp)
  refine kdr_loop (news := L c₀) (fun i m nx => JS L ps P i m nx) W (fun _ h => h) (fun _ h => h) ?_ ?_ ?_ ?_ (by show IsRangeIter _ _ _ _ _; rw [hsz]; simpa using Heap.get?_push_size _ rfl) (F.push _) (fun p hp => ⟨Heap.get?_push_of_some _ (N0 p hp).1, (N0 p hp).2⟩) ⟨c₀, rfl, hk, hp⟩ ?_ ?_
  · intro i h hi b hb
    rw [List.mem_singleton.mp hb]
    exact ⟨_, hi⟩
  · intro hm
    exact absurd F.ns.lt ((List.mem_singleton.mp hm) ▸ Nat.lt_irrefl _)
  · intro b hb
    rw [List.mem_singleton.mp hb]
    exact next_is_new F
  · intro p hp hI
    exact absurd (Heap.lt_size (N0 p hp).1) ((List.mem_singleton.mp hI) ▸ Nat.lt_irrefl _)
  · intro i v m₁ nx h tk own hi zz8 hoff zz10 F₁ N₁
    with_reducible refine hideG ?_
    intro G0 hG0
    obtain ⟨_, t, rfl⟩ := zz8
    obtain ⟨c, rfl, h1, hp'⟩ := zz10
    with_reducible refine hG0 ?_
    clear hG0 G0
    have e1 : a₀ + (i : Int) * 1 = a₀ + (i : Int) := by omega
    rw [e1] at F₁
    exact turn i t c m₁ h tk own hi hp' hoff (fr_X F₁ h1) N₁
  · rintro m₁ nx h tk ⟨c, rfl, h1, hp'⟩ F₁ N₁
    exact done c m₁ h tk hp' (fr_B F₁ h1) N₁
/-- a turn's end -/
theorem js_end {L : σ → List (Addr × Obj)} {ps : σ → List (Str × Value)} {P : Nat → σ → Prop} {i : Nat} (c : σ) {l : Addr} {m' : Str → Option Value} {own news' : List (Addr × Obj)} {s₁ : Shared} {h' : Heap} {tk : Nat}
    (F : Fr h₀ l h' m') (N : News h₀ l h' news') (hn : ∀ p ∈ L c, p ∈ news') (ho : ∀ p ∈ own, p ∈ news') (ha : OwnOff own ((L c).map (·.1))) (hk : ∀ p ∈ ps c, m' p.1 = some p.2) (hp : P i c) :
    InvEndG h₀ l (JS L ps P i) own s₁ { s₁ with heap := h', toks := tk } := ⟨h', tk, m', news', L c, rfl, F, N, hn, ho, ha, c, rfl, hk, hp⟩
end
end Mine
namespace Mine
section
variable {prog : Program} {w : World} {A : Around} {E : Value → Shared → Prop} {s : Shared} {h₀ : Heap} {L : Addr} {news : List (Addr × Obj)} {value slice : Expr} {a : Addr} {l : List Value} {n : Nat} {u : Tok} {x : Value} {Q : Value → Shared → Prop}
theorem last_item (N : News h₀ L s.heap news) (hm : (a, listOf (l ++ [x]).toArray n) ∈ news) (h : Q x s)
    (hs : subscripted slice false (.ref a) (.int (-1) u) = operate [.ref a, .int (-1) u] (getItem (.ref a) (.int (-1) u))) (hg : ∀ r, letTemporaryGo value (.ref a) r = pure ()) :
    wpAny (model prog w) A (subscriptTail value slice (.ref a) (.int (-1) u)) Q E s :=
  kim_back N hm rfl rfl (by decide) (by rw [List.length_append, List.length_singleton]; exact Int.neg_le_neg (Int.ofNat_le.mpr (Nat.succ_le_succ (Nat.zero_le _)))) (by decide) (by
    have e : ((-1 : Int) + ((l ++ [x]).length : Int)).toNat = l.length := by
      rw [List.length_append, List.length_singleton]
      show ((-1 : Int) + ((l.length : Int) + 1)).toNat = l.length
      rw [Int.add_comm, Int.add_neg_cancel_right]; rfl
    rw [e]; simp) h hs hg
end
end Mine
end
section
open PySem PySem.W PySem.Calls PyProof.Rows
set_option maxRecDepth 100000
set_option maxHeartbeats 8000000
namespace Mine
section
variable {prog : Program} {w : World} {A : Around} {R : GenEnd} {Y : Protocol} {n : Nat} {s₀ : Shared} {c : Code} {fs : List PySem.Frame} {s : Shared}
theorem wrap_bind {α β : Type} (m : Sem α) (g : α → Sem β) (K : β → Sem PySem.Fin) (H : Value → Sem PySem.Fin) (gd : Bool → Bool) (lv : List Value → List Value) :
    (m >>= g).wrap K H gd lv = m.wrap (fun b => (g b).wrap K H gd lv) H gd lv := by
  rw [Sem.bind_eq_wrap', Sem.wrap_wrap]; rfl
noncomputable def konY (K : Flow → Sem PySem.Fin) (H : Value → Sem PySem.Fin) (gd : Bool → Bool) (lv : List Value → List Value) (e : Expr) (p pos : Pos) : Result → Sem PySem.Fin :=
  fun r => (((match r with | .ok f => .pure f | .error e => .raise e : Sem Flow) >>= fun f => match f with | .ret v => pure v | _ => unsupported "internal:call-without-return-value").wrap
    (fun b => (dropValue (.YieldFrom e p) pos b).wrap K H gd lv) H gd lv)
theorem seg_yfrom {e : Expr} {p pos : Pos} {env : Env} {K : Flow → Sem PySem.Fin} {H : Value → Sem PySem.Fin} {gd : Bool → Bool} {lv : List Value → List Value} (hi : interactive env = false)
    (h : wpAny (model prog w) (A.over c fs) (eval e env) (fun v s₁ => ∃ T, s₁.TypeIs v T ∧ (Value.type T == Value.type "coroutine") = false ∧ wpAny (model prog w) (A.over c fs) (pyIter v) (fun it s₂ => ∀ p',
      Seg (model prog w) A R Y n s₀ (yfC it) ((model prog w).den (yfC it)) (.ret (konY K H gd lv e p pos) none (gd false) (lv []) c p' [] :: fs) s₂) (fun _ _ => False) s₁) (fun _ _ => False) s) :
    Seg (model prog w) A R Y n s₀ c ((exec (.Expr (.YieldFrom e p) pos) env).wrap K H gd lv) fs s := by
  rw [exec_Expr env _ pos hi rfl]
  refine seg_bindW (wpAny_standAt ?_)
  rw [wrap_bind, arm_eval_YieldFrom]
  refine seg_bindW (wpAny_mono h (fun v s₁ h₁ => ?_) fun _ _ q => q.elim)
  obtain ⟨T, hT, hne, h₁⟩ := h₁
  refine seg_bindW (wpAny_standAt ?_)
  unfold yieldFrom
  refine seg_bindW (wpAny_typeOf hT ?_)
  rw [if_neg (by rw [hne]; decide)]
  refine seg_bindW (wpAny_holding (wpAny_mono h₁ (fun it s₂ h₂ => ?_) fun _ _ q => q.elim))
  exact seg_call h₂
end
noncomputable def gScope : Scope := { kind := .function, names := [(Str.ofString "self", NameKind.local), (Str.ofString "ns_stack", NameKind.local), (Str.ofString "_reversed", NameKind.local), (Str.ofString "namespaces", NameKind.local)], isGenerator := true, isCoroutine := false }
noncomputable def gEnv (L : Addr) : Env := envOf (Str.ofString "C14NWriterTarget._iter_namespaces") gScope L 94 (.ref 93)
noncomputable def gBody : List Stmt := [.If (.Name (Str.ofString "namespaces") { line := 57, col := 15, endLine := 57, endCol := 25 })
  [.Expr (.YieldFrom (.Name (Str.ofString "namespaces") { line := 58, col := 27, endLine := 58, endCol := 37 }) { line := 58, col := 16, endLine := 58, endCol := 37 }) { line := 58, col := 16, endLine := 58, endCol := 37 }]
  [] { line := 57, col := 12, endLine := 58, endCol := 37 }]
noncomputable def gT : Expr := .Name (Str.ofString "namespaces") { line := 56, col := 12, endLine := 56, endCol := 22 }
noncomputable def gFor : Stmt := .For gT (.Call (.Name (Str.ofString "_reversed") { line := 56, col := 26, endLine := 56, endCol := 35 })
    [.Name (Str.ofString "ns_stack") { line := 56, col := 36, endLine := 56, endCol := 44 }] [] { line := 56, col := 26, endLine := 56, endCol := 45 })
  gBody [] { line := 56, col := 8, endLine := 58, endCol := 37 }
/-- what the stack of namespaces is: a list with one pair below, empty lists above -/
structure NsStack (h : Heap) (stk xl tx : Addr) (es : List Addr) : Prop where
  stack : ∃ ep, h.get? stk = some (listOf ((Value.ref xl :: es.map Value.ref).toArray) ep)
  xml : ∃ ep, h.get? xl = some (listOf #[.ref tx] ep)
  empty : ∀ e ∈ es, ∃ ep, h.get? e = some (listOf #[] ep)
theorem NsStack.keeps {h h' : Heap} {stk xl tx : Addr} {es : List Addr} (x : NsStack h stk xl tx es) (hk : ∀ b, b = stk ∨ b = xl ∨ b ∈ es → ∀ o, h.get? b = some o → h'.get? b = some o) : NsStack h' stk xl tx es :=
  ⟨x.stack.imp fun _ e => hk _ (.inl rfl) _ e, x.xml.imp fun _ e => hk _ (.inr (.inl rfl)) _ e, fun e he => (x.empty e he).imp fun _ q => hk _ (.inr (.inr he)) _ q⟩
noncomputable def gK0 : Flow → Sem PySem.Fin := fun f => .pure (.done (.ret (match f with | .ret v => v | _ => .none)))
noncomputable def gH0 (env : Env) : Value → Sem PySem.Fin := fun e => (leaving env e).wrap (fun _ => .raise e) .raise id id
noncomputable def gK1 (env : Env) : Flow → Sem PySem.Fin := fun f => match f with | .next => (execs [] env).wrap gK0 (gH0 env) id id | f => gK0 f
noncomputable def gLoop (L Rv : Addr) : Code := .forLoop gT (.ref Rv) gBody [] (gEnv L)
noncomputable def gTK (L Rv : Addr) : Flow → Sem PySem.Fin := turnK gT (.ref Rv) gBody (gEnv L)
noncomputable def gK2 (L Rv : Addr) : Flow → Sem PySem.Fin := fun f => match f with | .next => (execs [] (gEnv L)).wrap (gTK L Rv) (turnH (gEnv L)) id id | f => gTK L Rv f
noncomputable def gK3 (L Rv : Addr) : Flow → Sem PySem.Fin := fun f => match f with | .next => (execs [] (gEnv L)).wrap (gK2 L Rv) (turnH (gEnv L)) id id | f => gK2 L Rv f
noncomputable def gF1 (L : Addr) (p : Pos) : PySem.Frame := .ret (konT (gK1 (gEnv L)) (gH0 (gEnv L)) id id (gEnv L)) none false [] (.func [gFor] (gEnv L)) p []
noncomputable def gF2 (L Rv : Addr) (p : Pos) : PySem.Frame := .ret (konY (gK3 L Rv) (turnH (gEnv L)) id id (.Name (Str.ofString "namespaces") { line := 58, col := 27, endLine := 58, endCol := 37 }) { line := 58, col := 16, endLine := 58, endCol := 37 } { line := 58, col := 16, endLine := 58, endCol := 37 }) none false [] (gLoop L Rv) p []
section
variable {prog : Program} {w : World} {A : Around} {R : GenEnd} {Y : Protocol} {s₀ s : Shared} {Lg Rv stk xl tx I : Addr} {es : List Addr} {m : Str → Option Value}
theorem gen_rest (hA : A.handled = none) {p1 p2 : Pos} (hr : IsRev s.heap Rv stk (-1)) (hi : s.heap.IsListIter I xl 1) (hx : ∃ ep, s.heap.get? xl = some (listOf #[.ref tx] ep)) (hne : Rv ≠ I)
    (hR : ∀ h', (∀ b o, b ≠ Rv → b ≠ I → s.heap.get? b = some o → h'.get? b = some o) → R 0 s₀ (.ok (.ret .none)) { s with heap := h' }) :
    Seg (model prog w) A R Y 0 s₀ (yfC (.ref I)) ((model prog w).den (yfC (.ref I))) [gF2 Lg Rv p2, gF1 Lg p1] s := by
  obtain ⟨ep, hx⟩ := hx
  refine seg_yf_end (items := #[.ref tx]) hA hi ⟨_, hx, rfl, _, rfl⟩ rfl fun h1 e1 => ?_
  refine seg_leaf _ ?_
  show Seg _ A R Y 0 s₀ (gLoop Lg Rv) (.pure (.again (gLoop Lg Rv))) _ _
  refine seg_again rfl ?_
  refine seg_turn ?_
  have hr1 : IsRev h1 Rv stk (-1) := by obtain ⟨o, ho, r⟩ := hr; exact ⟨o, e1 _ _ hne ho, r⟩
  refine pyNext_rev_end (s := ⟨_, _, _, _, _⟩) hA hr1 fun h2 e2 => ?_
  refine seg_leaf (.ok .next) ?_
  show Seg _ A R Y 0 s₀ _ (leafOf (.ok (.ret .none))) [] _
  refine seg_end _ ?_
  exact hR h2 fun b o n1 n2 e => e2 b o n1 (e1 b o n2 e)
end
noncomputable def gP (Lg : Addr) : Nat → Shared → Shared → Prop := fun n s₀ s₁ => n = 0 ∧ ∃ h', s₁ = { s₀ with heap := h' } ∧ ∀ b o, s₀.heap.get? b = some o → (b < Lg ∨ (o.cls ≠ .type "list_iterator" ∧ o.cls ≠ .type "list_reverseiterator")) → h'.get? b = some o
noncomputable def gR (Lg : Addr) : GenEnd := fun n s₀ r s₁ => r = .ok (.ret .none) ∧ gP Lg n s₀ s₁
/-- what the generator has done when it gives its one item -/
inductive GYield (Lg xl tx : Addr) (s₀ s₁ : Shared) (kap : Resume → Shared → Prop) : Prop
  | mk (h' : Heap) (tk' : Tok) (Rv I : Addr) (oR oI oL : Obj) (e : s₁ = { s₀ with heap := h', toks := tk' }) (hk : ∀ b o, b ≠ Lg → s₀.heap.get? b = some o → h'.get? b = some o) (hR : h'.get? Rv = some oR) (hI : h'.get? I = some oI) (hRn : s₀.heap.get? Rv = none) (hIn : s₀.heap.get? I = none)
      (hRI : Rv ≠ I) (hL : h'.get? Lg = some oL) (hkap : ∀ s'', s''.heap.get? Rv = some oR → s''.heap.get? I = some oI → (∃ ep, s''.heap.get? xl = some (listOf #[.ref tx] ep)) → kap (.send .none) s'')
noncomputable def gY (Lg xl tx : Addr) : Protocol := fun n s₀ v s₁ kap => n = 0 ∧ v = .ref tx ∧ GYield Lg xl tx s₀ s₁ kap
section
variable {prog : Program} {w : World} {A : Around} {s : Shared} {Lg Rv stk xl tx I : Addr} {es : List Addr}
theorem gen_loop (hA : A.handled = none) {p1 : Pos} (hes : es.length ≤ 1000) (hLs : Lg ≠ stk ∧ Lg ≠ xl ∧ Lg ∉ es) (hRs : Rv ≠ stk ∧ Rv ≠ xl ∧ Rv ∉ es ∧ Rv ≠ Lg) (hRn : s.heap.get? Rv = none) (hLR : Lg < Rv) : ∀ (j : Nat) (h : Heap) (tk : Nat) (m : Str → Option Value), j ≤ es.length → IsRev h Rv stk (j : Int) → h.Ns Lg m → NsStack h stk xl tx es →
    s.heap.objs.size ≤ h.objs.size → (∀ b o, b ≠ Lg → s.heap.get? b = some o → h.get? b = some o) →
    Seg (model prog w) A (gR Lg) (gY Lg xl tx) 1 s (gLoop Lg Rv) ((model prog w).den (gLoop Lg Rv)) [gF1 Lg p1] { s with heap := h, toks := tk } := by
  intro j
  induction j with
  | zero =>
    intro h tk m hj hr hn hs hz hk
    refine seg_turn ?_
    obtain ⟨eps, hst⟩ := hs.stack
    refine pyNext_rev_item (s := ⟨_, _, _, _, _⟩) (i := 0) (x := .ref xl) hr ⟨_, hst, rfl, _, rfl⟩ rfl fun h1 hr1 e1 => ?_
    refine wpAny_pure ?_
    have hn1 : h1.Ns Lg m := hn.sameBut e1 (Ne.symm hRs.2.2.2)
    refine wpAny_assign_Name (wpAny_storeName_local (m := m) (by rfl) hn1 (fun h2 hn2 e2 => ?_) (by rfl))
    have hs2 : NsStack h2 stk xl tx es := by
      refine hs.keeps fun b hb o e => ?_
      have hbL : b ≠ Lg := by rcases hb with rfl | rfl | hb; exact Ne.symm hLs.1; exact Ne.symm hLs.2.1; exact fun q => hLs.2.2 (q ▸ hb)
      have hbR : b ≠ Rv := by rcases hb with rfl | rfl | hb; exact Ne.symm hRs.1; exact Ne.symm hRs.2.1; exact fun q => hRs.2.2.1 (q ▸ hb)
      exact (e2.2 b hbL).trans ((e1.2 b hbR).trans e)
    have hr2 : IsRev h2 Rv stk (-1) := by obtain ⟨o, ho, r⟩ := hr1; exact ⟨o, (e2.2 _ hRs.2.2.2).trans ho, r⟩
    refine seg_execs_cons ?_
    refine seg_if ?_
    obtain ⟨epx, hx2⟩ := hs2.xml
    have hl2 : h2.IsList xl #[.ref tx] := ⟨_, hx2, rfl, _, rfl⟩
    refine wpAny_bind (wpAny_Name (wpAny_loadName_local (m := _) (v := .ref xl) (by rfl) (by rfl) hn2 (by rfl) ?_))
    refine wpAny_bind (wpAny_standAt (wpAny_holding (wpAny_truthy_list (s := ⟨_, _, _, _, _⟩) hl2 (by show (1 : Int) < 2 ^ 63; decide) ?_)))
    show Seg _ A (gR Lg) (gY Lg xl tx) 1 s _ ((execs _ _).wrap _ _ _ _) _ _
    refine seg_execs_cons ?_
    refine seg_yfrom rfl ?_
    refine wpAny_Name (wpAny_loadName_local (m := _) (v := .ref xl) (by rfl) (by rfl) hn2 (by rfl) ?_)
    refine ⟨"list", hl2.typeIs, by decide, ?_⟩
    refine wpAny_pyIter_list (s := ⟨_, _, _, _, _⟩) hl2 ?_
    intro p'
    refine seg_yf_item (i := 0) (items := #[.ref tx]) rfl rfl ⟨_, Heap.get?_push_size _ rfl, rfl, rfl⟩ (hl2.push _) rfl fun h3 hi3 e3 kap hkap => ?_
    have hk2 : ∀ b o, b ≠ Lg → s.heap.get? b = some o → h2.get? b = some o := fun b o n e => (e2.2 b n).trans ((e1.2 b (fun q => by rw [q, hRn] at e; cases e)).trans (hk b o n e))
    have hI0 : s.heap.get? h2.objs.size = none := by
      cases q : s.heap.get? h2.objs.size with
      | none => rfl
      | some o => have q1 : h2.objs.size < s.heap.objs.size := Heap.lt_size q; have z1 : h1.objs.size = h.objs.size := e1.1; have z2 : h2.objs.size = h1.objs.size := e2.1; omega
    have k3 : ∀ b o, h2.get? b = some o → h3.get? b = some o := fun b o e => (e3.2 b (Nat.ne_of_lt (Heap.lt_size e))).trans (Heap.get?_push_of_some _ e)
    obtain ⟨oR, hoR, hcR, hdR⟩ := id hr2
    obtain ⟨oI, hoI, hcI, hdI⟩ := id hi3
    with_reducible refine hideG ?_
    intro G0 hG0
    obtain ⟨oL, esL, epL, hoL, _⟩ := id hn2
    with_reducible refine hG0 ?_
    clear hG0 G0
    refine ⟨rfl, rfl, ⟨h3, _, Rv, h2.objs.size, oR, oI, oL, rfl, fun b o n e => k3 _ _ (hk2 b o n e), k3 _ _ hoR, hoI, hRn, hI0, Nat.ne_of_lt (Heap.lt_size hoR), k3 _ _ hoL, fun s'' qR qI qx => ?_⟩⟩
    refine hkap s'' ⟨oI, qI, hcI, hdI⟩ ?_
    refine gen_rest (stk := stk) (xl := xl) (tx := tx) hA ⟨oR, qR, hcR, hdR⟩ ⟨oI, qI, hcI, hdI⟩ qx (Nat.ne_of_lt (Heap.lt_size hoR)) fun h' hh => ⟨rfl, rfl, h', rfl, fun b o e n1 => hh b o (fun q => ?_) (fun q => ?_) e⟩
    · rcases n1 with n1 | n1
      · exact absurd hLR (Nat.lt_asymm (q ▸ n1))
      · rw [q, qR] at e; exact n1.2 (Option.some.inj e ▸ hcR)
    · rcases n1 with n1 | n1
      · have z3 : Rv < h2.objs.size := Heap.lt_size hoR
        exact absurd (Nat.lt_trans hLR z3) (Nat.lt_asymm (q ▸ n1))
      · rw [q, qI] at e; exact n1.1 (Option.some.inj e ▸ hcI)
  | succ j ih =>
    intro h tk m hj hr hn hs hz hk
    refine seg_turn ?_
    obtain ⟨eps, hst⟩ := hs.stack
    have hje : j < es.length := by omega
    have hit : (Value.ref xl :: es.map Value.ref).toArray[j + 1]? = some (.ref es[j]) := by simp [hje]
    refine pyNext_rev_item (s := ⟨_, _, _, _, _⟩) (i := j + 1) hr ⟨_, hst, rfl, _, rfl⟩ hit fun h1 hr1 e1 => ?_
    refine wpAny_pure ?_
    have hn1 : h1.Ns Lg m := hn.sameBut e1 (Ne.symm hRs.2.2.2)
    refine wpAny_assign_Name (wpAny_storeName_local (m := m) (by rfl) hn1 (fun h2 hn2 e2 => ?_) (by rfl))
    have hs2 : NsStack h2 stk xl tx es := by
      refine hs.keeps fun b hb o e => ?_
      have hbL : b ≠ Lg := by rcases hb with rfl | rfl | hb; exact Ne.symm hLs.1; exact Ne.symm hLs.2.1; exact fun q => hLs.2.2 (q ▸ hb)
      have hbR : b ≠ Rv := by rcases hb with rfl | rfl | hb; exact Ne.symm hRs.1; exact Ne.symm hRs.2.1; exact fun q => hRs.2.2.1 (q ▸ hb)
      exact (e2.2 b hbL).trans ((e1.2 b hbR).trans e)
    have hr2 : IsRev h2 Rv stk (j : Int) := by
      obtain ⟨o, ho, r1, r2⟩ := hr1
      refine ⟨o, (e2.2 _ hRs.2.2.2).trans ho, r1, ?_⟩
      rw [r2]
      have : ((j + 1 : Nat) : Int) - 1 = (j : Int) := by omega
      rw [this]
    refine seg_execs_cons ?_
    refine seg_if ?_
    obtain ⟨epx, hx2⟩ := hs2.empty es[j] (List.getElem_mem _)
    have hl2 : h2.IsList es[j] #[] := ⟨_, hx2, rfl, _, rfl⟩
    refine wpAny_bind (wpAny_Name (wpAny_loadName_local (m := _) (v := .ref es[j]) (by rfl) (by rfl) hn2 (by rfl) ?_))
    refine wpAny_bind (wpAny_standAt (wpAny_holding (wpAny_truthy_list (s := ⟨_, _, _, _, _⟩) hl2 (by decide) ?_)))
    show Seg _ A (gR Lg) (gY Lg xl tx) 1 s _ (.pure (.again (gLoop Lg Rv))) _ _
    refine seg_again rfl ?_
    exact ih h2 _ _ (by omega) hr2 hn2 hs2 (by have z1 : h1.objs.size = h.objs.size := e1.1; have z2 : h2.objs.size = h1.objs.size := e2.1; omega) fun b o n e => (e2.2 b n).trans ((e1.2 b (fun q => by rw [q, hRn] at e; cases e)).trans (hk b o n e))
theorem gen_body (hA : A.handled = none) (hes : es.length ≤ 1000) (hLs : Lg ≠ stk ∧ Lg ≠ xl ∧ Lg ∉ es) {m : Str → Option Value} (hn : s.heap.Ns Lg m) (hs : NsStack s.heap stk xl tx es) (h1 : m (Str.ofString "_reversed") = some (.type "reversed")) (h2 : m (Str.ofString "ns_stack") = some (.ref stk)) :
    Seg (model prog w) A (gR Lg) (gY Lg xl tx) 1 s (.func [gFor] (gEnv Lg)) ((model prog w).den (.func [gFor] (gEnv Lg))) [] s := by
  refine seg_func ?_
  refine seg_execs_cons ?_
  refine seg_for ?_ (by intro _; rfl)
  refine wpAny_Call_Name_kw (wpAny_Name (wpAny_loadName_local (m := m) (by rfl) (by rfl) hn h1 ?_))
  obtain ⟨eps, hst⟩ := hs.stack
  obtain ⟨epx, hx⟩ := hs.xml
  refine PySem.callWith_type (by rfl) ?_
  rw [show backTo { line := 56, col := 26, endLine := 56, endCol := 45 } (starEach [Expr.Name (Str.ofString "ns_stack") { line := 56, col := 36, endLine := 56, endCol := 44 }] (gEnv Lg)) = [(false, eval (Expr.Name (Str.ofString "ns_stack") { line := 56, col := 36, endLine := 56, endCol := 44 }) (gEnv Lg))] from rfl]
  refine evalArgs_plain (spliced_cons (wpAny_Name (wpAny_loadName_local (m := m) (by rfl) (by rfl) hn h2 (spliced_nil ?_))))
  show wpAny _ _ (call (.type "reversed") [.ref stk]) _ _ _
  have hLlt : Lg < s.heap.objs.size := hn.lt
  refine call_reversed hst ?_
  have hr : IsRev (s.heap.push { cls := .type "list_reverseiterator", data := .fields #[.ref stk, rawInt ((((Value.ref xl :: es.map Value.ref).toArray.size : Nat) : Int) - 1)] }) s.heap.objs.size stk (es.length : Int) := by
    refine ⟨_, Heap.get?_push_size _ rfl, rfl, ?_⟩
    have : ((((Value.ref xl :: es.map Value.ref).toArray.size : Nat) : Int) - 1) = (es.length : Int) := by simp
    rw [this]; rfl
  refine pyIter_rev (s := ⟨_, _, _, _, _⟩) hr ?_
  intro p
  have hk : ∀ b o, s.heap.get? b = some o → (s.heap.push { cls := .type "list_reverseiterator", data := .fields #[.ref stk, rawInt ((((Value.ref xl :: es.map Value.ref).toArray.size : Nat) : Int) - 1)] }).get? b = some o := fun b o e => Heap.get?_push_of_some _ e
  have hnone : s.heap.get? s.heap.objs.size = none := by
    cases q : s.heap.get? s.heap.objs.size with
    | none => rfl
    | some o => exact absurd (Heap.lt_size q) (Nat.lt_irrefl _)
  refine gen_loop (s := s) (m := m) hA hes hLs ⟨?_, ?_, ?_, ?_⟩ hnone hLlt es.length _ _ (Nat.le_refl _) hr (hn.push _) (hs.keeps fun b _ o e => hk b o e) (by rw [Heap.size_push]; omega) fun b o _ e => hk b o e
  · exact Nat.ne_of_gt (Heap.lt_size hst)
  · exact Nat.ne_of_gt (Heap.lt_size hx)
  · intro hm
    obtain ⟨ep, he⟩ := hs.empty _ hm
    exact absurd (Heap.lt_size he) (Nat.lt_irrefl _)
  · exact Nat.ne_of_gt hLlt
end
end Mine
end
section
open PySem PySem.W PySem.Calls PyProof.Rows
set_option maxRecDepth 100000
set_option maxHeartbeats 8000000
namespace Mine

noncomputable def dStep (ds : List Int) (c : Int) : List Int := ds ++ [1 + c % (ds.getLastD 0 + 1)]
noncomputable def depthsL (cs : List Int) : List Int := cs.tail.foldl dStep [0]
theorem ints_snoc {x : Int} {t : Tok} {vs : List Value} {ns : List Int} (h : IntsAre vs ns) : IntsAre (vs ++ [.int x t]) (ns ++ [x]) := by
  induction h with
  | nil => exact .cons _ _ .nil
  | cons n u _ ih => exact .cons n u ih
theorem ints_dat {tl : List (Addr × Obj)} {vs : List Value} {ns : List Int} (h : IntsAre vs ns) : DatAll tl vs (ns.map Dat.int) := by
  induction h with
  | nil => exact .nil
  | cons n t _ ih => exact .cons (.int n t) ih
theorem dStep_len (cs : List Int) : ∀ ds : List Int, (cs.foldl dStep ds).length = ds.length + cs.length := by
  induction cs with
  | nil => intro ds; rfl
  | cons c r ih => intro ds; rw [List.foldl_cons, ih, dStep]; simp only [List.length_append, List.length_cons, List.length_nil]; rw [Nat.zero_add, Nat.add_assoc, Nat.add_comm 1]
theorem dStep_snoc (d0 : List Int) (la n : Int) (h : 0 ≤ la) : dStep (d0 ++ [la]) n = (d0 ++ [la]) ++ [1 + n.fmod (la + 1)] := by
  unfold dStep
  rw [Int.fmod_eq_emod_of_nonneg n (Int.le_of_lt (Int.lt_add_one_of_le h))]
  simp
section
theorem S3_w1 : True := by
  k_with_none
  k_with "exec For" => ((k_here; (with_reducible rename Fr _ _ _ _ => lF'); (with_unfolding_all refine' For_invVF lF' ?k1 ?k2 ?_); (case k1 => exact rfl); (case k2 => exact rfl)))
  k_with "pyIter ref" => ((with_reducible refine Stop.out ?_))
  k_with "InvEndG" => ((with_reducible refine Stop.out ?_))
  k_with "subscriptTail" => ((k_here; refine last_item (by k_asm) (by k_mem) ?_ (by with_unfolding_all rfl) (by intro _; with_unfolding_all rfl)))
  k_with "Halt" => ((with_reducible refine Stop.out ?_))
  k_with "execs cons" => (k_here; first | with_reducible refine th_one ?_ | with_reducible refine th_cons ?_)
  k_with "Th" => (first | ((with_reducible refine' th_next (s₀ := s) ?F ?_ ?e); (case F => assumption); (case e => with_reducible rfl); (try clear tk9); intro tk9) | with_reducible refine th_ret ?_)
  trivial
theorem depths_spec (w : World) (loose : List Str) (mean : ExcName → Option Value) (mg mb : Str → Option Value) (A : Around) (s : Shared) (Q E : Value → Shared → Prop) (a : Addr) (vs : List Value) (ns : List Int) :
    Room 5 40 A → (Mine.hd0.heap_1_1 w.params).In s.heap → Top topProg loose mean mg mb s.heap → s.heap.IsList a vs.toArray → IntsAre vs ns → ns.length ≤ 6 → 1 ≤ ns.length →
    Ends s Q (fun v h => DatNew s.heap h v (dInts (depthsL ns))) →
    wpAny (model PySem.Challenge.rw_if0001_01.row.prog w) A (call (.ref 199) [.ref a]) Q E s := by
  k_fill
  intro R X T h0 h1 h2 h3 ret
  obtain ⟨hh, dp, fr, gd, un⟩ := A
  obtain ⟨hA, hdp, hun⟩ := R
  cases hA
  dsimp only at hdp hun
  refine' pcall (binds := [(Str.ofString "cells", .ref a)]) (by assumption) (by assumption) ?hd ?ho ?hcd ?hb ?hl ?hc ?h1 ?h2 ?h3 ?_
  (case ho => k_is)
  (case hcd => k_is)
  (case hd => ((try dsimp only); (try simp only [recursionLimit]); omega))
  (case hb => first | exact BindsTo.of_eq rfl | exact binds_K (by assumption) rfl (by k_is) rfl rfl rfl)
  (case hc => decide)
  (case hl => exact locs rfl)
  (case h1 => exact rfl)
  (case h2 => exact rfl)
  (case h3 => exact rfl)
  k_whole
  intro L' h' F' N'
  (try dsimp only)
  (try k_fold)
  refine (let ev : Env := _; let ae : Around := _; (?_ : wpAny _ ae (execs _ ev) _ _ _))
  with_reducible refine hide1 ?_; intro QF hQF
  k_steps
  refine Stop.mk ?_

  rename_i lD _ _ _ DD ws hh F N hI hC hL l1
  refine loop_N (σ := List Value × Int × Tok × Nat × List Int) (fun c => [(DD, listOf ws.toArray 0), (lD, listOf (c.1 ++ [Value.int c.2.1 c.2.2.1]).toArray c.2.2.2.1)]) (fun _ => [(Str.ofString "depths", .ref lD)])
    (fun i c => IntsAre c.1 c.2.2.2.2 ∧ 0 ≤ c.2.1 ∧ (ns.tail.take i).foldl dStep [0] = c.2.2.2.2 ++ [c.2.1]) ([], 0, s.toks + [(Str.ofString "cells", Value.ref a)].length, 0, []) rfl (fun _ => .head _) F N ?hn ?hk ?hp ?turn ?done
  case hn => intro p hp; simpa using hp
  case hk => intro p hp; rw [List.mem_singleton.mp hp]; rfl
  case hp => exact ⟨.nil, Int.le_refl _, rfl⟩
  case turn =>
    rintro i v ⟨v0, la, tl, ep, d0⟩ u h tk own hv ⟨p1, p2, p3⟩ ho F N
    (first | with_reducible refine hide2 ?_ | with_reducible refine hide1 ?_); intro QT hQT
    dsimp only at p1 p2 p3
    have hi : i < ns.tail.length := by
      have h9 := (List.getElem?_eq_some_iff.mp hv).1
      rw [hI.length] at h9
      simpa using h9
    obtain ⟨t, hx⟩ := hI.get i ns.tail[i] (by rw [List.drop_one, List.getElem?_eq_getElem hi])
    have e9 : v = .int ns.tail[i] t := by rw [hx] at hv; exact (Option.some.inj hv).symm
    subst e9
    have hlen : v0.length ≤ 10 := by
      have h8 := congrArg List.length p3
      rw [dStep_len, List.length_append, List.length_take] at h8
      rw [p1.length]
      simp only [List.length_singleton, List.length_tail] at h8 hi
      have h7 : d0.length = min i (ns.length - 1) := Nat.succ.inj (h8.symm.trans (Nat.add_comm 1 _))
      exact Nat.le_trans (Nat.le_of_eq h7) (Nat.le_trans (Nat.min_le_right _ _) (Nat.le_trans (Nat.sub_le _ _) (Nat.le_trans h2 (by decide))))
    have hfm : 0 ≤ Int.fmod ns.tail[i] (la + 1) := Int.fmod_nonneg_of_pos _ (Int.lt_add_one_of_le p2)
    dsimp only [List.map] at *
    k_steps
    refine Stop.mk ?_
    (with_reducible rename Fr _ _ _ _ => F9)
    (with_reducible rename News _ _ _ _ => N9)
    simp only [List.push_toArray] at N9
    refine hQT _ _ ?_
    refine js_end (c := (v0 ++ [.int la tl], 1 + Int.fmod ns.tail[i] (la + 1), _, ep + 1, d0 ++ [la])) F9 N9 (fun p hp => (List.mem_append (s := [_, _]) (t := own)).mpr (.inl hp)) (fun p hp => (List.mem_append (s := [_, _]) (t := own)).mpr (.inr hp)) ho ?_ ⟨ints_snoc p1, Int.add_nonneg (by decide) hfm, ?_⟩
    · intro p hp; rw [List.mem_singleton.mp hp]; rfl
    · dsimp only
      rw [List.take_add_one, List.getElem?_eq_getElem hi, List.foldl_append, p3]
      exact dStep_snoc _ _ _ p2
  case done =>
    rintro ⟨v0, la, tl, ep, d0⟩ u h tk ⟨p1, p2, p3⟩ F N
    dsimp only at p1 p2 p3 F N
    k_steps
    (with_reducible rename Fr _ _ _ _ => F9)
    (with_reducible rename News _ _ _ _ => N9)
    have e9 : depthsL ns = d0 ++ [la] := by
      rw [← p3, hI.length, List.drop_one, List.take_length]; rfl
    (try refine Stop.mk ?_)
    refine hQF _ _ (ret _ _ _ (Fr.keep F9) ⟨[(lD, listOf (v0 ++ [Value.int la tl]).toArray ep)], fun p hp => ?_, e9 ▸ .list (.head _) (ints_dat (ints_snoc p1))⟩)
    rw [List.mem_singleton.mp hp]
    have h9 := N9 _ (.tail _ (.head _))
    exact ⟨h9.1, h9.2.2⟩
end
theorem S3_w2 : True := by
  k_with_none
  trivial
end Mine
end
theorem Mine.Rl_w0 : True := by
  k_with_none
  trivial
section
open PySem PySem.W PySem.Calls PyProof.Rows
set_option maxRecDepth 100000
set_option maxHeartbeats 8000000
namespace Mine
section
variable {prog : Program} {w : World} {A : Around} {E : Value → Shared → Prop} {s : Shared} {h₀ : Heap} {L D l b : Addr} {m : Str → Option Value} {news : List (Addr × Obj)} {value slice : Expr} {vs ws : List Value} {n n' : Nat} {u : Tok} {x : Value} {k : Int} {Q : Value → Shared → Prop}
theorem isList_N (N : News h₀ L s.heap news) (hm : (l, listOf vs.toArray n) ∈ news) : s.heap.IsList l vs.toArray := ⟨_, (N _ hm).1, rfl, _, rfl⟩
theorem pick_upto (hk : 0 ≤ k) : slicePick vs.toArray none (some k) none = (vs.take k.toNat).toArray := by
  rw [kms_pick_eq]
  congr 1
  unfold kms_pick kms_lo kms_hi
  dsimp only
  rw [if_neg (by omega), Nat.sub_zero, List.drop_zero, kmk_take_min]
/-- xs[:k] -/
theorem sl_upto (F : Fr h₀ L s.heap m) (N : News h₀ L s.heap news) (hm : (l, listOf vs.toArray n) ∈ news) (hk : 0 ≤ k) (hz : vs.length ≤ 1000)
    (h : ∀ D h', Fr h₀ L h' m → News h₀ L h' ((D, listOf (vs.take k.toNat).toArray 0) :: news) → (∀ p ∈ news, p.1 < D) → Q (.ref D) { s with heap := h' })
    (hs : subscripted slice false (.ref l) (.ref s.heap.objs.size) = operate [.ref s.heap.objs.size, .ref l] (getItem (.ref l) (.ref s.heap.objs.size))) (ht : ∀ r, letTemporaryGo value (.ref l) r = pure ()) :
    wpAny (model prog w) A (subscriptTail value slice (.ref l) (.ref s.heap.objs.size)) Q E { s with heap := s.heap.push { cls := .type "slice", data := .fields #[.none, .int k u, .none] } } := by
  refine kmk_slice F N (isList_N N hm) .none (.int k u) (fun D h' F' N' l1 => h D h' F' ?_ l1) hs ht (by rw [List.size_toArray]; show _ ≤ 16777216; omega)
  rw [pick_upto hk] at N'
  exact N'
/-- xs.append(x), the rest of the ledger apart -/
theorem app_any (rest : List (Addr × Obj)) (F : Fr h₀ L s.heap m) (N : News h₀ L s.heap news) (hm : (D, listOf vs.toArray n) ∈ news) (hsub : ∀ p ∈ rest, p ∈ news) (hne : ∀ p ∈ rest, p.1 ≠ D) (hz : vs.length ≤ 1000)
    (h : ∀ h', Fr h₀ L h' m → News h₀ L h' ((D, listOf (vs ++ [x]).toArray (n + 1)) :: rest) → Q .none { s with heap := h' }) :
    wpAny (model prog w) A (call (.builtin "list.append") [.ref D, x]) Q E s := by
  have N1 : News h₀ L s.heap ((D, listOf vs.toArray n) :: rest) := fun p hp => by
    rcases List.mem_cons.mp hp with rfl | hp
    · exact N _ hm
    · exact N _ (hsub p hp)
  refine append_K F N1 (.head hne) (fun h' F' N' => h h' F' ?_) (by rw [List.size_toArray]; show _ ≤ 16777216; omega)
  rw [List.push_toArray] at N'
  exact N'
/-- xs + ys -/
theorem cat_any (F : Fr h₀ L s.heap m) (N : News h₀ L s.heap news) (hl : s.heap.IsList l vs.toArray) (hb : s.heap.IsList b ws.toArray) (hz : vs.length + ws.length ≤ 1000)
    (h : ∀ D h', Fr h₀ L h' m → News h₀ L h' ((D, listOf (vs ++ ws).toArray 0) :: news) → (∀ p ∈ news, p.1 < D) → Q (.ref D) { s with heap := h' }) :
    wpAny (model prog w) A (binaryOp .Add (.ref l) (.ref b)) Q E s := by
  refine add_arrays F N hl hb (fun h' F' N' => h _ h' F' ?_ fun p hp => Heap.lt_size (N p hp).1) (by rw [List.size_toArray, List.size_toArray]; show _ ≤ 16777216; omega)
  exact N'
end
theorem strs_take {vs : List Value} {ss : List Str} (h : StrsAre vs ss) : ∀ k : Nat, StrsAre (vs.take k) (ss.take k) := by
  induction h with
  | nil => intro k; rw [List.take_nil, List.take_nil]; exact .nil
  | cons y t _ ih =>
    intro k
    cases k with
    | zero => exact .nil
    | succ k => exact .cons y t (ih k)
theorem strs_snoc {x : Str} {t : Tok} {vs : List Value} {ss : List Str} (h : StrsAre vs ss) : StrsAre (vs ++ [.str x t]) (ss ++ [x]) := by
  induction h with
  | nil => exact .cons _ _ .nil
  | cons y u _ ih => exact .cons y u ih
theorem strs_dat {tl : List (Addr × Obj)} {vs : List Value} {ss : List Str} (h : StrsAre vs ss) : DatAll tl vs (ss.map Dat.str) := by
  induction h with
  | nil => exact .nil
  | cons y t _ ih => exact .cons (.str y t) ih
end Mine
end
section
open PySem PySem.W PySem.Calls PyProof.Rows
set_option maxRecDepth 100000
set_option maxHeartbeats 8000000
namespace Mine
open Builtin Builtin._codecs
theorem road_utf8 (x : Str) (t : Tok) : encodeRoad "str.encode" (.str x t) x (Str.ofString "utf-8") none = (encodeNarrow "str.encode" utf8Codec none (.str x t) x >>= fun b => mkBytes b) := by kernel_rfl
noncomputable def utf8L (x : Str) : Array UInt8 := x.cps.foldl (fun acc c => acc ++ (Str.utf8Of c).toArray) #[]
theorem utf8Of_len (c : Nat) : (Str.utf8Of c).length ≤ 4 := by unfold Str.utf8Of; (repeat' split) <;> simp only [List.length_cons, List.length_nil] <;> omega
theorem utf8L_list (x : Str) : (utf8L x).toList = x.cps.toList.flatMap Str.utf8Of := by
  have h : ∀ (l : List Nat) (acc : Array UInt8), (l.foldl (fun acc c => acc ++ (Str.utf8Of c).toArray) acc).toList = acc.toList ++ l.flatMap Str.utf8Of := by
    intro l
    induction l with
    | nil => intro acc; simp
    | cons c r ih => intro acc; rw [List.foldl_cons, ih]; simp
  unfold utf8L
  rw [← Array.foldl_toList, h]; simp
theorem utf8L_size (x : Str) : (utf8L x).size ≤ 4 * x.length := by
  have h : ∀ l : List Nat, (l.flatMap Str.utf8Of).length ≤ 4 * l.length := by
    intro l
    induction l with
    | nil => simp
    | cons c r ih => have := utf8Of_len c; rw [List.flatMap_cons, List.length_append, List.length_cons]; omega
  have := h x.cps.toList
  rw [← utf8L_list] at this
  simpa [Str.length] using this
theorem forIn_two {β : Type} (k : Nat) (l : List Nat) (f : Nat → β → Sem (ForInStep β)) (a b : β) (h1 : ∀ k, f k a = pure (.yield b)) (h2 : ∀ k, f k b = pure (.done b)) : forIn (k :: l) a f = (pure b : Sem β) := by
  rw [List.forIn_cons, h1]
  cases l with
  | nil => rfl
  | cons k' l' =>
    show forIn (k' :: l') b f = _
    rw [List.forIn_cons, h2]; rfl
theorem narrow_utf8 (x : Str) (t : Tok) (hs : ∀ c ∈ x.cps, Str.isSurrogate c = false) (hz : x.length ≤ 100000) : encodeNarrow "str.encode" utf8Codec none (.str x t) x = pure (utf8L x) := by
  have hf : x.cps.findIdx? utf8Codec.bad = none := by
    rw [Array.findIdx?_eq_none_iff]
    intro c hc
    exact hs c hc
  have hfold : (x.cps.extract 0 x.cps.size).foldl (fun acc y => acc ++ (utf8Codec.bytesOf y).toArray) #[] = utf8L x := by
    rw [Array.extract_size]; rfl
  have hsz := utf8L_size x
  unfold encodeNarrow
  dsimp only
  rw [Std.Legacy.Range.forIn_eq_forIn_range']; dsimp only [Std.Legacy.Range.size]
  match hn : x.length with
  | 0 =>
    have e : x.cps = #[] := Array.eq_empty_of_size_eq_zero hn
    simp [utf8L, e]
  | n + 1 =>
    have hn' : x.cps.size = n + 1 := hn
    have hx0 : x.cps[0]? = some x.cps[0] := by rw [Array.getElem?_eq_getElem]
    have hb0 : utf8Codec.bad x.cps[0] = false := hs _ (Array.getElem_mem _)
    rw [show (n + 1 - 0 + 1 - 1) / 1 = n + 1 by omega, List.range'_succ]
    rw [forIn_two (β := Nat × Array UInt8 × Faults) 0 _ _ (0, #[], {}) (x.cps.size, utf8L x, {})]
    · rfl
    · intro k
      rw [hx0]
      dsimp only
      refine Eq.trans (if_neg (by decide)) ?_
      refine Eq.trans (if_pos (by rw [hb0]; rfl)) ?_
      rw [Array.extract_size, hf, Option.getD_none, hfold, Nat.zero_add]
    · intro k
      have hx1 : x.cps[x.cps.size]? = none := by simp
      rw [hx1]
      dsimp only
      exact Eq.trans (if_neg (by show ¬ (utf8L x).size > 16777216; omega)) rfl
theorem encode_ {prog : Program} {w : World} {A : Around} {E : Value → Shared → Prop} {s : Shared} {x : Str} {t : Tok} {Q : Value → Shared → Prop} (hs : ∀ c ∈ x.cps, Str.isSurrogate c = false) (hz : x.length ≤ 100000)
    (h : Q (.bytes (utf8L x) s.toks) { s with toks := s.toks + 1 }) : wpAny (model prog w) A (call (.builtin "str.encode") [.str x t]) Q E s := by
  have hsz := utf8L_size x
  refine wpAny_call_entry F.slot_str_encode (typeIs_str _ _ _) F.entry_str_encode ?_ (F.args_str_encode_1 _)
  rw [encode_tree, road_utf8, narrow_utf8 x t hs hz]
  show wpAny _ _ (mkBytes (utf8L x) >>= fun v => ret v) _ _ _
  refine wpAny_bind ?_
  unfold mkBytes
  rw [if_neg (by show ¬ (utf8L x).size > 16777216; omega)]
  exact wpAny_bind (wpAny_fresh (wpAny_pure (wpAny_pure ⟨_, rfl, h⟩)))
theorem encode_m {prog : Program} {w : World} {A : Around} {E : Value → Shared → Prop} {s : Shared} {x : Str} {t : Tok} {pl : Sem Bool} {Q : Value × List Value → Shared → Prop} (h : Q (.builtin "str.encode", [.str x t]) s) :
    wpAny (model prog w) A (getMethod (.str x t) "encode" pl) Q E s :=
  getMethod_builtin (typeIs_str _ _ _) F.plainAttrs_str F.slot_str_encode F.type_str_encode (fun a e => nomatch e) h
end Mine
end
section
open PySem PySem.W PySem.Calls PyProof.Rows
set_option maxRecDepth 100000
set_option maxHeartbeats 8000000
namespace Mine

theorem addb {prog : Program} {w : World} {A : Around} {E : Value → Shared → Prop} {s : Shared} {b c : Array UInt8} {t u : Tok} {Q : Value → Shared → Prop} (hsz : b.size + c.size ≤ 16777216) (h : ∀ t' k, Q (.bytes (b ++ c) t') { s with toks := k }) :
    wpAny (model prog w) A (binaryOp .Add (.bytes b t) (.bytes c u)) Q E s := KBy.add_bytes hsz h
noncomputable def bHead : Array UInt8 := #[32, 69, 78, 86, 69, 76, 79, 80, 69, 32, 34]
noncomputable def bTail : Array UInt8 := #[34, 32, 123, 55, 125]
noncomputable def behindL (x : Str) : Array UInt8 := bHead ++ utf8L x ++ bTail
section
theorem S5_w1 : True := by
  k_with_none
  k_with "binaryOp Add bytes bytes" => (((refine addb ?hz9 ?_); (case hz9 => (simp only [Array.size_append, List.size_toArray, List.length_cons, List.length_nil]; omega)); intro t9 k9))
  k_with "getMethod str" => ((refine encode_m ?_))
  k_with "call builtin:str.encode" => ((refine encode_ (by assumption) (by omega) ?_))
  trivial
theorem behind_spec (w : World) (loose : List Str) (mean : ExcName → Option Value) (mg mb : Str → Option Value) (A : Around) (s : Shared) (Q E : Value → Shared → Prop) (x : Str) (t : Tok) :
    Room 5 40 A → (Mine.hd0.heap_1_1 w.params).In s.heap → Top topProg loose mean mg mb s.heap → (x.length ≤ 20) → (∀ c ∈ x.cps, Str.isSurrogate c = false) →
    Ends s Q (fun v h => ∃ t, v = .bytes (behindL x) t) →
    wpAny (model PySem.Challenge.rw_if0001_01.row.prog w) A (call (.ref 232) [.str x t]) Q E s := by
  k_fill
  intro R X T h0 h1 ret
  obtain ⟨hh, dp, fr, gd, un⟩ := A
  obtain ⟨hA, hdp, hun⟩ := R
  cases hA
  dsimp only at hdp hun
  refine' pcall (binds := [(Str.ofString "text", .str x t)]) (by assumption) (by assumption) ?hd ?ho ?hcd ?hb ?hl ?hc ?h1 ?h2 ?h3 ?_
  (case ho => k_is)
  (case hcd => k_is)
  (case hd => ((try dsimp only); (try simp only [recursionLimit]); omega))
  (case hb => first | exact BindsTo.of_eq rfl | exact binds_K (by assumption) rfl (by k_is) rfl rfl rfl)
  (case hc => decide)
  (case hl => exact locs rfl)
  (case h1 => exact rfl)
  (case h2 => exact rfl)
  (case h3 => exact rfl)
  k_whole
  intro L' h' F' N'
  (try dsimp only)
  (try k_fold)
  have hz := utf8L_size x
  k_steps
  exact ret _ _ _ (Fr.keep (by assumption)) ⟨_, rfl⟩
end
theorem S5_w2 : True := by
  k_with_none
  trivial
end Mine
end
theorem Mine.Bj_w0 : True := by
  k_with_none
  trivial
section
open PySem PySem.W PySem.Calls PyProof.Rows
set_option maxRecDepth 100000
set_option maxHeartbeats 8000000
namespace Mine
open Builtin Builtin.Bytes
theorem look_buf : typeLookup (.type "bytes") "__buffer__" = pure (some (.builtin "bytes.__buffer__")) := by rw [typeLookup_type, builtinLookup_eq_fast]; kernel_rfl
theorem look_rel : typeLookup (.type "bytes") "__release_buffer__" = pure none := by rw [typeLookup_type, builtinLookup_eq_fast]; kernel_rfl
theorem spec_buf (b : Array UInt8) (t : Tok) : specialOf (.bytes b t) "__buffer__" = pure (some (.builtin "bytes.__buffer__")) := look_buf
theorem spec_rel (b : Array UInt8) (t : Tok) : specialOf (.bytes b t) "__release_buffer__" = pure none := look_rel
theorem inst_bytes (b : Array UInt8) (t : Tok) : isInstance (.bytes b t) (.type "bytes") = pure true := by kernel_rfl
theorem own_rel (b : Array UInt8) (t : Tok) : ownRelease (.bytes b t) = pure false := by
  unfold ownRelease slotIsOwn
  rw [show (("__release_buffer__" : String) : Str) = Str.ofString "__release_buffer__" from rfl, spec_rel]
  rfl
theorem own_buf (b : Array UInt8) (t : Tok) : slotIsOwn (.bytes b t) "__buffer__" = pure true := by
  unfold slotIsOwn
  rw [spec_buf]
  show (if (!("bytes.__buffer__" : String).endsWith ("." ++ "__buffer__")) = true then pure false else isInstance (.bytes b t) (.type (("bytes.__buffer__" : String).dropRight (("__buffer__" : String).length + 1)))) = _
  rw [if_neg (by decide +kernel), show (("bytes.__buffer__" : String).dropRight (("__buffer__" : String).length + 1)) = "bytes" by decide +kernel]
  exact inst_bytes b t
theorem buf_bytes (id : String) (b : Array UInt8) (t : Tok) : buffer? id (.bytes b t) false = pure (some b) := by
  unfold buffer?
  rw [spec_buf]
  rw [pure_bind]
  rw [own_buf, own_rel]
  rfl
theorem quiet_bytes (id : String) (b : Array UInt8) (t : Tok) : bufferQuiet? id (.bytes b t) = pure (some b) := by
  unfold bufferQuiet?
  rw [buf_bytes]
  rfl
theorem take_bytes (id : String) (b : Array UInt8) (t : Tok) : takeBufferQuiet? id (.bytes b t) 0 = pure (some (b, none)) := by
  unfold takeBufferQuiet? takeBuffer?
  rw [spec_buf]
  rw [pure_bind]
  rw [own_buf, show ((0 : Int) == fullReadOnly) = false by decide +kernel, buf_bytes]
  rfl
end Mine
end
section
open PySem PySem.W PySem.Calls PyProof.Rows
set_option maxRecDepth 100000
set_option maxHeartbeats 8000000
namespace Mine
open Builtin Builtin.Bytes
inductive BytesAre : List Value → List (Array UInt8) → Prop
  | nil : BytesAre [] []
  | cons (b : Array UInt8) (t : Tok) {vs bs} : BytesAre vs bs → BytesAre (.bytes b t :: vs) (b :: bs)
theorem BytesAre.length : ∀ {vs : List Value} {bs : List (Array UInt8)}, BytesAre vs bs → vs.length = bs.length
  | _, _, .nil => rfl
  | _, _, .cons _ _ h => congrArg (· + 1) h.length
theorem BytesAre.get {vs : List Value} {bs : List (Array UInt8)} (h : BytesAre vs bs) : ∀ (i : Nat) (b : Array UInt8), bs[i]? = some b → ∃ t, vs[i]? = some (.bytes b t) := by
  induction h with
  | nil => intro i b e; cases e
  | cons y t r ih =>
    intro i b e
    cases i with
    | zero => cases e; exact ⟨t, rfl⟩
    | succ i => exact ih i b e
theorem BytesAre.dat {tl : List (Addr × Obj)} {vs : List Value} {bs : List (Array UInt8)} (h : BytesAre vs bs) : DatAll tl vs (bs.map Dat.bytes) := by
  induction h with
  | nil => exact .nil
  | cons b t _ ih => exact .cons (.bytes b t) ih
theorem BytesAre.ofDat {tl : List (Addr × Obj)} {vs : List Value} {bs : List (Array UInt8)} (h : DatAll tl vs (bs.map Dat.bytes)) : BytesAre vs bs := by
  induction bs generalizing vs with
  | nil => cases h; exact .nil
  | cons x xs ih => cases h with | cons a r => cases a; exact .cons _ _ (ih r)
theorem wp_range {M : Model} {A : Around} {E : Value → Shared → Prop} {s : Shared} {β : Type} (f : Nat → β → Sem (ForInStep β)) (I : Nat → β → Prop) {Q : β → Shared → Prop} :
    ∀ (n i : Nat) (b : β), I i b → (∀ j c, j < i + n → I j c → wpAny M A (f j c) (fun r s' => s' = s ∧ ∃ c', r = .yield c' ∧ I (j + 1) c') E s) → (∀ c, I (i + n) c → Q c s) → wpAny M A (forIn (List.range' i n) b f) Q E s := by
  intro z0
  induction z0 with
  | zero =>
    rintro i b h _ hQ
    exact wpAny_pure (hQ b h)
  | succ n ih0 =>
    rintro i b h st hQ
    rw [List.range'_succ, List.forIn_cons]
    refine wpAny_bind (wpAny_mono (st i b (by omega) h) (fun r s' hr => ?_) fun _ _ e => e)
    obtain ⟨rfl, c', rfl, hc⟩ := hr
    exact ih0 (i + 1) c' hc (fun j c hj => st j c (by omega)) (fun c hc => hQ c (by rwa [show i + (n + 1) = i + 1 + n by omega]))
section
variable {prog : Program} {w : World} {A : Around} {E : Value → Shared → Prop} {s : Shared}
theorem seqItems_ {M : Model} {l : Addr} {its : Array Value} {Q : Option (Array Value) → Shared → Prop} (hl : s.heap.IsList l its) (h : Q (some its) s) : wpAny M A (seqItems? (.ref l)) Q E s := by
  obtain ⟨o, ho, hc, n, hd⟩ := hl
  unfold seqItems?
  refine wpAny_bind (wpAny_load ho ?_)
  rw [hd]
  exact wpAny_pure h
theorem letGo_join {M : Model} {keep : List Value} {Q : Unit → Shared → Prop} : ∀ (vs : List Value), Q () s → wpAny M A (joinLetGo (vs.map fun v => (v, none)) keep) Q E s
  | [], h => wpAny_pure h
  | v :: vs, h => by
    show wpAny M A (letGo [v] _ >>= fun _ => joinLetGo (vs.map fun v => (v, none)) keep) Q E s
    exact wpAny_bind (wpAny_letGo (letGo_join vs h))
theorem slot_join : Slot "bytes" "join" "bytes.join" :=
  .of (owner := "bytes") (n := "join") (by rw [typeLookup_type, builtinLookup_eq_fast]; kernel_rfl) (by decide +kernel) (by decide +kernel) (by decide +kernel)
    (by first | exact .inl (by decide +kernel) | exact .inr (by decide +kernel)) (by rw [isSubtype_type]; kernel_rfl)
theorem type_join : typeOf (.builtin "bytes.join") = pure (.type "method_descriptor") := by show builtinType _ = _; rw [builtinType_eq_fast]; kernel_rfl
theorem entry_join : entryFor table "bytes.join" = some Builtin.«bytes.join» := entryFor_of_tree (by kernel_rfl)
theorem args_join (a b : Value) : argsOk "bytes.join" ⟨[a, b], []⟩ := by
  unfold argsOk; rw [signature?_of (id := "bytes.join") (n := ['n', 'i', 'o', 'j']) (o := ['s', 'e', 't', 'y', 'b']) (by kernel_rfl) FB.owner_bytes]; kernel_rfl
theorem join_m {b : Array UInt8} {t : Tok} {pl : Sem Bool} {Q : Value × List Value → Shared → Prop} (h : Q (.builtin "bytes.join", [.bytes b t]) s) :
    wpAny (model prog w) A (getMethod (.bytes b t) "join" pl) Q E s :=
  getMethod_builtin (typeIs_bytes _ _ _) FB.plainAttrs_bytes slot_join type_join (fun _ e => nomatch e) h
theorem joinItems_ {M : Model} {l : Addr} {its : Array Value} {Q : Value → Shared → Prop} (hl : s.heap.IsList l its) (h : Q (.ref l) s) : wpAny M A (joinItems (.ref l)) Q E s := by
  unfold joinItems
  refine wpAny_bind (wpAny_typeOf hl.typeIs ?_)
  exact wpAny_pure h
end
end Mine
end
section
open PySem PySem.W PySem.Calls PyProof.Rows
set_option maxRecDepth 100000
set_option maxHeartbeats 8000000
namespace Mine
open Builtin Builtin.Bytes
section
variable {prog : Program} {w : World} {A : Around} {E : Value → Shared → Prop} {s : Shared}
theorem join_two {α : Type} {M : Model} {vs : List Value} {a : Value → Sem α} {b : Sem α} {Q : α → Shared → Prop} (h : vs.length ≠ 1) (k : wpAny M A b Q E s) : wpAny M A (match vs.toArray with | #[x] => a x | _ => b) Q E s := by
  rcases vs with _ | ⟨x, _ | ⟨y, r⟩⟩
  · exact k
  · exact absurd rfl h
  · exact k
theorem join_ {sep : Array UInt8} {l : Addr} {vs : List Value} {bs : List (Array UInt8)} {t : Tok} {Q : Value → Shared → Prop} (hl : s.heap.IsList l vs.toArray) (hb : BytesAre vs bs)
    (h1 : ∀ b t, bs = [b] → vs = [.bytes b t] → Q (.bytes b t) s)
    (hz : bs.foldl (· + ·.size) (sep.size * (bs.length - 1)) ≤ 10000) (hz2 : (joined sep bs).size ≤ 10000) (h : bs.length ≠ 1 → Q (.bytes (joined sep bs) s.toks) { s with toks := s.toks + 1 }) :
    wpAny (model prog w) A (call (.builtin "bytes.join") [.bytes sep t, .ref l]) Q E s := by
  refine wpAny_call_entry slot_join (typeIs_bytes _ _ _) entry_join ?_ (args_join _ _)
  show wpAny _ _ (joinM .bytes ⟨[.bytes sep t, .ref l], []⟩) _ _ _
  unfold joinM
  refine wpAny_bind (wpAny_of_eq (show selfAndOne _ ⟨[.bytes sep t, .ref l], []⟩ = pure (.bytes sep t, .ref l) from rfl) ?_)
  dsimp only
  rw [if_pos (by rfl)]
  refine wpAny_bind (joinItems_ hl ?_)
  refine wpAny_bind (seqItems_ hl ?_)
  dsimp only
  rw [if_pos (by rfl)]
  have hne : vs.length ≠ 1 → bs.length ≠ 1 := fun e => by rw [← hb.length]; exact e
  by_cases h9 : vs.length = 1
  · obtain ⟨x, rfl⟩ : ∃ x, vs = [x] := by
      rcases vs with _ | ⟨x, _ | ⟨y, r⟩⟩
      · cases h9
      · exact ⟨x, rfl⟩
      · cases h9
    cases hb with
    | cons b t' h9 =>
      cases h9
      refine wpAny_bind (wpAny_typeOf (typeIs_bytes _ _ _) ?_)
      rw [if_pos (by rfl)]
      exact wpAny_bind (wpAny_rule (wpAny_pure ⟨_, rfl, h1 _ _ rfl rfl⟩))
  · replace hne := hne h9
    refine join_two h9 ?_
    refine (wpAny_bind (m := forIn _ _ _) ?_)
    clear h1
    rw [Std.Legacy.Range.forIn_eq_forIn_range']; dsimp only [Std.Legacy.Range.size]
    rw [show (vs.toArray.size - 0 + 1 - 1) / 1 = bs.length by rw [List.size_toArray, hb.length]; omega]
    refine (wp_range _ (fun i st => st.1.toList = bs.take i ∧ st.2 = (vs.take i).map fun v => (v, none)) bs.length 0 _ ⟨rfl, rfl⟩ ?step ?fin)
    case step =>
      rintro i ⟨parts, taken⟩ hi ⟨i1, i2⟩
      dsimp only at i1 i2 ⊢
      subst i2
      have hib : i < bs.length := by have q := hi; rwa [Nat.zero_add] at q
      obtain ⟨ti, hti⟩ := hb.get i bs[i] (List.getElem?_eq_getElem hib)
      refine wpAny_bind (seqItems_ hl ?_)
      dsimp only
      have e0 : vs.toArray.getD i Value.none = .bytes bs[i] ti := by
        simp [Array.getD_eq_getD_getElem?, hti]
      rw [e0]
      rw [if_neg (by
        rw [Bool.not_eq_true, List.any_map, Bool.or_eq_false_iff]
        refine ⟨rfl, ?_⟩
        rw [List.any_eq_false]
        intro v hv
        obtain ⟨j, hj⟩ := List.mem_iff_getElem?.mp hv
        have hjl : j < bs.length := by
          have := (List.getElem?_eq_some_iff.mp hj).1
          rw [List.length_take] at this; exact Nat.lt_trans (Nat.lt_of_lt_of_le this (Nat.min_le_left _ _)) hib
        obtain ⟨tj, htj⟩ := hb.get j bs[j] (List.getElem?_eq_getElem hjl)
        have : v = .bytes bs[j] tj := by
          have h8 : (vs.take i)[j]? = vs[j]? := by
            rw [List.getElem?_take_of_lt]
            have := (List.getElem?_eq_some_iff.mp hj).1
            rw [List.length_take] at this; exact Nat.lt_of_lt_of_le this (Nat.min_le_left _ _)
          rw [h8, htj] at hj
          exact (Option.some.inj hj).symm
        subst this
        first | rfl | exact Bool.false_ne_true | (intro q; cases q) | simp [Value.onHeap])]
      rw [take_bytes]
      refine wpAny_bind (wpAny_holding (wpAny_pure ?_))
      dsimp only
      refine wpAny_bind (seqItems_ hl ?_)
      dsimp only
      rw [if_neg (by simp)]
      refine wpAny_pure ⟨rfl, _, rfl, ?_, ?_⟩
      · rw [Array.toList_push, i1, List.take_add_one, List.getElem?_eq_getElem hib]; rfl
      · simp [List.take_add_one, hti]
    case fin =>
      rintro ⟨parts, taken⟩ ⟨i1, i2⟩
      dsimp only at i1 i2 ⊢
      subst i2
      rw [Nat.zero_add, List.take_length] at i1
      rw [Nat.zero_add, ← hb.length, List.take_length]
      refine wpAny_bind (wpAny_of_eq (show payload (.bytes sep t) = pure sep from rfl) ?_)
      have hs : Array.foldl (fun x1 x2 => x1 + x2.size) (sep.size * (parts.size - 1)) parts = bs.foldl (· + ·.size) (sep.size * (bs.length - 1)) := by
        have hp : parts.size = bs.length := by rw [← Array.length_toList, i1]
        rw [← Array.foldl_toList, i1, hp]
      rw [hs]
      rw [if_neg (by rw [Bool.not_eq_true]; unfold tooLong; exact decide_eq_false (by show ¬ _ > 16777216; omega))]
      rw [i1]
      refine wpAny_bind (m := mkBytes (joined sep bs)) ?_
      unfold mkBytes
      rw [if_neg (by show ¬ _ > 16777216; omega)]
      exact wpAny_bind (wpAny_fresh (wpAny_pure (wpAny_bind (wpAny_holding (wpAny_point (wpAny_bind (letGo_join (M := model prog w) vs (wpAny_pure ⟨_, rfl, h hne⟩))))))))
end
end Mine
end
section
open PySem
set_option maxRecDepth 100000
set_option maxHeartbeats 8000000
namespace Mine
namespace Rx
open PySem.Sre
noncomputable def code : Array Nat := #[14, 4, 0, 8, 4294967295, 24, 5, 0, 4294967295, 2, 1, 16, 70, 16, 76, 16, 65, 16, 71, 16, 83, 16, 32, 16, 40, 17, 0, 24, 6, 0, 4294967295, 20, 41, 1, 17, 1, 16, 41, 1]
noncomputable abbrev st (tx : Array Nat) (pc pos handed : Nat) (om : Bool) (marks : Array (Option Nat)) (lm li : Int) (fr : List PySem.Sre.Frame) (wt : Nat) (an : Option Bool) (se : Seen) (oc : Option PySem.Sre.Outcome) : M :=
  { code := code, text := tx, lim := tx.size, start := 0, pc := pc, pos := pos, handed := handed, outermost := om, marks := marks, lastmark := lm, lastindex := li, frames := fr, weight := wt, answer := an, seen := se, outcome := oc }
theorem step_exec (m : M) (ho : m.outcome = none) (ha : m.answer = none) (hp : m.pc < m.code.size) : m.step = m.exec := by
  unfold M.step
  rw [ho, ha, if_neg (by simp)]
  exact if_pos hp
theorem step_back (m : M) (yes : Bool) (f : PySem.Sre.Frame) (rest : List PySem.Sre.Frame) (ho : m.outcome = none) (ha : m.answer = some yes) (hf : m.frames = f :: rest) :
    m.step = M.resume { m with answer := none, frames := rest, weight := m.weight - (1 + f.kept.marks.size), pc := f.pc, pos := f.pos, outermost := f.outermost } f yes := by
  unfold M.step
  rw [ho, ha, hf, if_neg (by simp)]
theorem step_end (m : M) (yes : Bool) (ho : m.outcome = none) (ha : m.answer = some yes) (hf : m.frames = []) : m.step = { m with outcome := some (if yes then .matched else .failed) } := by
  unfold M.step
  rw [ho, ha, hf, if_neg (by simp)]
section
variable {tx : Array Nat} {pos hd : Nat} {om : Bool} {marks : Array (Option Nat)} {lm li : Int} {fr : List PySem.Sre.Frame} {wt : Nat} {se : Seen}
/-- one literal -/
theorem acc_lit (pc c x : Nat) (se : Seen) (hop : code.getD pc 0 = 16) (hc : code.getD (pc + 1) 0 = c) : accepts code pc x se = .ok (x == c, se) := by
  unfold accepts
  rw [hop]
  show Except.ok (x == code.getD (pc + 1) 0, se) = _
  rw [hc]
theorem width_lit (pc : Nat) (hop : code.getD pc 0 = 16) : itemWidth code pc = 2 := by
  unfold itemWidth
  rw [hop]
  rfl
theorem lit_step (pc c : Nat) (hpc : pc < 39) (hop : code.getD pc 0 = 16) (hc : code.getD (pc + 1) 0 = c) :
    (st tx pc pos hd om marks lm li fr wt none se none).step = if pos ≥ tx.size then st tx pc pos hd om marks lm li fr wt (some false) (se.add 16) none else
      if (tx.getD pos 0 == c) = true then st tx (pc + 2) (pos + 1) hd om marks lm li fr wt none (se.add 16) none else st tx pc pos hd om marks lm li fr wt (some false) (se.add 16) none := by
  rw [step_exec _ rfl rfl hpc]
  unfold M.exec
  have hw : M.word (st tx pc pos hd om marks lm li fr wt none se none) 0 = 16 := hop
  rw [hw]
  show (if pos ≥ tx.size then _ else match accepts code pc (tx.getD pos 0) (se.add 16) with | .error why => _ | .ok (false, seen) => _ | .ok (true, seen) => _) = _
  rw [acc_lit pc c _ _ hop hc]
  cases tx.getD pos 0 == c with
  | false => rfl
  | true =>
    show (if pos ≥ tx.size then _ else st tx (pc + itemWidth code pc) (pos + 1) hd om marks lm li fr wt none (se.add 16) none) = _
    rw [width_lit pc hop]; rfl
theorem lit_ok (pc c : Nat) (hpc : pc < 39) (hop : code.getD pc 0 = 16) (hc : code.getD (pc + 1) 0 = c) (h : pos < tx.size) (hx : tx.getD pos 0 = c) :
    (st tx pc pos hd om marks lm li fr wt none se none).step = st tx (pc + 2) (pos + 1) hd om marks lm li fr wt none (se.add 16) none := by
  rw [lit_step pc c hpc hop hc, if_neg (Nat.not_le.mpr h), if_pos (beq_iff_eq.mpr hx)]
theorem lit_no (pc c : Nat) (hpc : pc < 39) (hop : code.getD pc 0 = 16) (hc : code.getD (pc + 1) 0 = c) (h : ¬ (pos < tx.size ∧ tx.getD pos 0 = c)) :
    (st tx pc pos hd om marks lm li fr wt none se none).step = st tx pc pos hd om marks lm li fr wt (some false) (se.add 16) none := by
  rw [lit_step pc c hpc hop hc]
  by_cases h1 : pos < tx.size
  · rw [if_neg (Nat.not_le.mpr h1), if_neg (fun e => h ⟨h1, beq_iff_eq.mp e⟩)]
  · rw [if_pos (Nat.not_lt.mp h1)]

/-- a plain kept row -/
noncomputable abbrev kp (lm li : Int) : PySem.Sre.Kept := { lastmark := lm, lastindex := li, whole := false, marks := #[] }
noncomputable abbrev gb (pc pos : Nat) (c : Int) (lm li : Int) : PySem.Sre.Frame := { wait := .giveBack, pc := pc, pos := pos, outermost := true, count := c, kept := kp lm li }
/-- how many signs from p on satisfy f -/
noncomputable def cnt (f : Nat → Bool) (tx : Array Nat) : Nat → Nat → Nat
  | 0, _ => 0
  | n + 1, p => if f (tx.getD p 0) then cnt f tx n (p + 1) + 1 else 0
theorem cnt_succ (f : Nat → Bool) (tx : Array Nat) (n p : Nat) : cnt f tx (n + 1) p = if f (tx.getD p 0) then cnt f tx n (p + 1) + 1 else 0 := rfl
theorem run_any (tx : Array Nat) : ∀ (n p found : Nat) (se : Seen), Sre.run code tx 9 n p found se = .ok (found + cnt (· != 10) tx n p, se) := by
  intro z0
  induction z0 with
  | zero =>
    rintro _ _ _
    exact rfl
  | succ n ih0 =>
    rintro p found se
    rw [cnt_succ]
    show (if (tx.getD p 0 != 10) = true then Sre.run code tx 9 n (p + 1) (found + 1) se else .ok (found, se)) = _
    by_cases h : (tx.getD p 0 != 10) = true
    · rw [if_pos h, if_pos h, ih0, Nat.add_assoc, Nat.add_comm 1]
    · rw [if_neg h, if_neg h]; rfl
theorem run_not (tx : Array Nat) : ∀ (n p found : Nat) (se : Seen), Sre.run code tx 31 n p found se = .ok (found + cnt (· != 41) tx n p, se) := by
  intro z0
  induction z0 with
  | zero =>
    rintro _ _ _
    exact rfl
  | succ n ih0 =>
    rintro p found se
    rw [cnt_succ]
    show (if (tx.getD p 0 != 41) = true then Sre.run code tx 31 n (p + 1) (found + 1) se else .ok (found, se)) = _
    by_cases h : (tx.getD p 0 != 41) = true
    · rw [if_pos h, if_pos h, ih0, Nat.add_assoc, Nat.add_comm 1]
    · rw [if_neg h, if_neg h]; rfl
theorem cnt_le (f : Nat → Bool) (tx : Array Nat) (n : Nat) : ∀ p, cnt f tx n p ≤ n := by
  induction n with
  | zero => exact fun _ => Nat.le_refl _
  | succ n ih =>
    intro p
    rw [cnt_succ]
    by_cases h : f (tx.getD p 0) = true
    · rw [if_pos h]; exact Nat.succ_le_succ (ih _)
    · rw [if_neg h]; exact Nat.zero_le _
theorem cnt_all (f : Nat → Bool) (tx : Array Nat) (n : Nat) : ∀ p j, p ≤ j → j < p + cnt f tx n p → f (tx.getD j 0) = true := by
  induction n with
  | zero => exact fun p j h1 h2 => absurd (show j < p from h2) (Nat.not_lt.mpr h1)
  | succ n ih =>
    intro p j h1 h2
    rw [cnt_succ] at h2
    by_cases h : f (tx.getD p 0) = true
    · rw [if_pos h] at h2
      rcases Nat.eq_or_lt_of_le h1 with rfl | h1
      · exact h
      · exact ih (p + 1) j h1 (by rwa [← Nat.add_assoc, Nat.add_right_comm] at h2)
    · rw [if_neg h] at h2; exact absurd h2 (Nat.not_lt.mpr h1)
theorem cnt_stop (f : Nat → Bool) (tx : Array Nat) (n : Nat) : ∀ p, cnt f tx n p < n → f (tx.getD (p + cnt f tx n p) 0) = false := by
  induction n with
  | zero => exact fun _ h => absurd h (Nat.not_lt_zero _)
  | succ n ih =>
    intro p h
    rw [cnt_succ] at h ⊢
    by_cases h1 : f (tx.getD p 0) = true
    · rw [if_pos h1] at h ⊢
      have := ih (p + 1) (Nat.lt_of_succ_lt_succ h)
      rwa [Nat.add_right_comm, Nat.add_assoc] at this
    · rw [if_neg h1]
      exact Bool.eq_false_iff.mpr h1
/-- the first star -/
theorem rep_any (hsz : tx.size < 4294967295) (hpos : pos ≤ tx.size) (hw : wt < 1000) :
    ∃ se', (st tx 5 pos hd true marks lm li fr wt none se none).step =
      st tx 11 (pos + cnt (· != 10) tx (tx.size - pos) pos) (pos + cnt (· != 10) tx (tx.size - pos) pos) true marks lm li (gb 5 (pos + cnt (· != 10) tx (tx.size - pos) pos) (cnt (· != 10) tx (tx.size - pos) pos) lm li :: fr) (wt + 1) none se' none := by
  refine ⟨(se.add 24).add 2, ?_⟩
  rw [step_exec _ rfl rfl (by show 5 < 39; decide)]
  show (if ((0 : Nat) : Int) > (tx.size : Int) - (pos : Int) then _ else match Sre.run code tx 9 (min 4294967295 ((tx.size : Int) - (pos : Int)).toNat) pos 0 ((se.add 24).add 2) with | .error why => _ | .ok (n, seen) => _) = _
  rw [if_neg (show ¬ (((0 : Nat) : Int) > (tx.size : Int) - (pos : Int)) from Int.not_lt.mpr (Int.sub_nonneg_of_le (Int.ofNat_le.mpr hpos))), Int.toNat_sub, Nat.min_eq_right (Nat.le_of_lt (Nat.lt_of_le_of_lt (Nat.sub_le _ _) hsz)), run_any, Nat.zero_add]
  show (if cnt (· != 10) tx (tx.size - pos) pos < 0 then _ else M.afterRun _ _ _ _) = _
  rw [if_neg (Nat.not_lt_zero _)]
  unfold M.afterRun M.attempt
  rw [if_neg (by show ¬ (wt + 1 + 0 > 16777216); exact Nat.not_lt.mpr (Nat.le_trans hw (by decide)))]
  rfl
theorem rep_not (hsz : tx.size < 4294967295) (hpos : pos ≤ tx.size) (hw : wt < 1000) :
    ∃ se', (st tx 27 pos hd true marks lm li fr wt none se none).step =
      st tx 34 (pos + cnt (· != 41) tx (tx.size - pos) pos) (pos + cnt (· != 41) tx (tx.size - pos) pos) true marks lm li (gb 27 (pos + cnt (· != 41) tx (tx.size - pos) pos) (cnt (· != 41) tx (tx.size - pos) pos) lm li :: fr) (wt + 1) none se' none := by
  refine ⟨(se.add 24).add 20, ?_⟩
  rw [step_exec _ rfl rfl (by show 27 < 39; decide)]
  show (if ((0 : Nat) : Int) > (tx.size : Int) - (pos : Int) then _ else match Sre.run code tx 31 (min 4294967295 ((tx.size : Int) - (pos : Int)).toNat) pos 0 ((se.add 24).add 20) with | .error why => _ | .ok (n, seen) => _) = _
  rw [if_neg (show ¬ (((0 : Nat) : Int) > (tx.size : Int) - (pos : Int)) from Int.not_lt.mpr (Int.sub_nonneg_of_le (Int.ofNat_le.mpr hpos))), Int.toNat_sub, Nat.min_eq_right (Nat.le_of_lt (Nat.lt_of_le_of_lt (Nat.sub_le _ _) hsz)), run_not, Nat.zero_add]
  show (if cnt (· != 41) tx (tx.size - pos) pos < 0 then _ else M.afterRun _ _ _ _) = _
  rw [if_neg (Nat.not_lt_zero _)]
  unfold M.afterRun M.attempt
  rw [if_neg (by show ¬ (wt + 1 + 0 > 16777216); exact Nat.not_lt.mpr (Nat.le_trans hw (by decide)))]
  rfl
/-- marks -/
theorem mark0 : (st tx 25 pos hd true marks (-1) (-1) fr wt none se none).step = st tx 27 pos hd true (marks.setIfInBounds 0 (some pos)) 0 (-1) fr wt none (se.add 17) none := by
  rw [step_exec _ rfl rfl (by show 25 < 39; decide)]
  rfl
theorem mark1 : (st tx 34 pos hd true marks 0 (-1) fr wt none se none).step = st tx 36 pos hd true (marks.setIfInBounds 1 (some pos)) 1 1 fr wt none (se.add 17) none := by
  rw [step_exec _ rfl rfl (by show 34 < 39; decide)]
  show M.mark _ 1 = _
  unfold M.mark
  rw [if_pos (by show ((1 : Nat) : Int) ≤ 0 + 1; decide)]
  rfl
theorem success : (st tx 38 pos hd true marks lm li fr wt none se none).step = st tx 38 pos pos true marks lm li fr wt (some true) (se.add 1) none := by
  rw [step_exec _ rfl rfl (by show 38 < 39; decide)]
  rfl
/-- giving back -/
theorem back_no (pc pc' p' : Nat) (c : Int) (hpc : pc = 5 ∨ pc = 27) (hc : c ≤ 0) {lm' li' : Int} {k1 k2 : Int} :
    (st tx pc' p' hd om marks lm' li' (gb pc pos c k1 k2 :: fr) (wt + 1) (some false) se none).step = st tx pc pos hd true marks k1 k2 fr wt (some false) se none := by
  rw [step_back _ false _ _ rfl rfl rfl]
  unfold M.resume
  refine Eq.trans (if_neg Bool.false_ne_true) ?_
  rcases hpc with rfl | rfl
  · exact Eq.trans (if_pos (show c - 1 < ((0 : Nat) : Int) from Int.lt_of_lt_of_le (Int.sub_lt_self c (by decide)) hc)) rfl
  · exact Eq.trans (if_pos (show c - 1 < ((0 : Nat) : Int) from Int.lt_of_lt_of_le (Int.sub_lt_self c (by decide)) hc)) rfl
theorem back_go (pc pc' p' : Nat) (c : Int) (hpc : pc = 5 ∨ pc = 27) (hc : 0 < c) (hw : wt < 1000) {lm' li' : Int} {k1 k2 : Int} :
    (st tx pc' p' hd om marks lm' li' (gb pc pos c k1 k2 :: fr) (wt + 1) (some false) se none).step = st tx (pc + 1 + code.getD (pc + 1) 0) (pos - 1) (pos - 1) true marks k1 k2 (gb pc (pos - 1) (c - 1) k1 k2 :: fr) (wt + 1) none se none := by
  rw [step_back _ false _ _ rfl rfl rfl]
  unfold M.resume
  refine Eq.trans (if_neg Bool.false_ne_true) ?_
  rcases hpc with rfl | rfl
  · refine Eq.trans (if_neg (show ¬ (c - 1 < ((0 : Nat) : Int)) from Int.not_lt.mpr (Int.sub_nonneg_of_le (Int.add_one_le_of_lt hc)))) ?_
    unfold M.afterRun M.attempt
    exact Eq.trans (if_neg (show ¬ (wt + 1 > 16777216) from Nat.not_lt.mpr (Nat.le_trans hw (by decide)))) rfl
  · refine Eq.trans (if_neg (show ¬ (c - 1 < ((0 : Nat) : Int)) from Int.not_lt.mpr (Int.sub_nonneg_of_le (Int.add_one_le_of_lt hc)))) ?_
    unfold M.afterRun M.attempt
    exact Eq.trans (if_neg (show ¬ (wt + 1 > 16777216) from Nat.not_lt.mpr (Nat.le_trans hw (by decide)))) rfl
theorem back_yes (pc pc' p' : Nat) (c : Int) {lm' li' : Int} {k1 k2 : Int} :
    (st tx pc' p' hd om marks lm' li' (gb pc pos c k1 k2 :: fr) (wt + 1) (some true) se none).step = st tx pc pos hd true marks lm' li' fr wt (some true) se none := by
  rw [step_back _ true _ _ rfl rfl rfl]
  rfl
end
/-- k steps lead from one to the other -/
noncomputable def Go (m m' : M) (k : Nat) : Prop := ∀ n, M.runFor (k + n) m = M.runFor n m'
theorem Go.refl (m : M) : Go m m 0 := fun n => by rw [Nat.zero_add]
theorem Go.one {m m' : M} (h : m.outcome = none) (e : m.step = m') : Go m m' 1 := fun n => by
  rw [Nat.add_comm]
  show (if m.outcome.isSome = true then m else M.runFor n m.step) = _
  rw [h, if_neg (by simp), e]
theorem Go.trans {m m' m'' : M} {k l : Nat} (h : Go m m' k) (g : Go m' m'' l) : Go m m'' (k + l) := fun n => by rw [Nat.add_assoc, h, g]
noncomputable def F7 (tx : Array Nat) (p : Nat) : Prop := p + 7 ≤ tx.size ∧ tx.getD p 0 = 70 ∧ tx.getD (p + 1) 0 = 76 ∧ tx.getD (p + 2) 0 = 65 ∧ tx.getD (p + 3) 0 = 71 ∧ tx.getD (p + 4) 0 = 83 ∧ tx.getD (p + 5) 0 = 32 ∧ tx.getD (p + 6) 0 = 40
section
variable {tx : Array Nat} {hd : Nat} {marks : Array (Option Nat)} {lm li : Int} {fr : List PySem.Sre.Frame} {wt : Nat} {se : Seen}
/-- a row of literals: all stand there, or one fails -/
theorem lits : ∀ (cs : List Nat) (pc p : Nat) (se : Seen), (∀ i c, cs[i]? = some c → pc + 2 * i < 39 ∧ code.getD (pc + 2 * i) 0 = 16 ∧ code.getD (pc + 2 * i + 1) 0 = c) →
    ((∀ i c, cs[i]? = some c → p + i < tx.size ∧ tx.getD (p + i) 0 = c) → ∃ se', Go (st tx pc p hd true marks lm li fr wt none se none) (st tx (pc + 2 * cs.length) (p + cs.length) hd true marks lm li fr wt none se' none) cs.length) ∧
    ((¬ ∀ i c, cs[i]? = some c → p + i < tx.size ∧ tx.getD (p + i) 0 = c) → ∃ pc' p' se' k, k ≤ cs.length ∧ Go (st tx pc p hd true marks lm li fr wt none se none) (st tx pc' p' hd true marks lm li fr wt (some false) se' none) k) := by
  intro z0
  induction z0 with
  | nil =>
    rintro pc p se _
    exact ⟨fun _ => ⟨se, Go.refl _⟩, fun h => absurd (fun i c e => by simp at e) h⟩
  | cons c r ih0 =>
    rintro pc p se hl
    obtain ⟨a1, a2, a3⟩ := hl 0 c rfl
    have ih := ih0 (pc + 2) (p + 1) (se.add 16) fun i d e => by
      have := hl (i + 1) d (by simpa using e)
      rw [Nat.mul_succ, ← Nat.add_assoc, Nat.add_right_comm] at this
      exact this
    have sh : (∀ i d, (c :: r)[i]? = some d → p + i < tx.size ∧ tx.getD (p + i) 0 = d) ↔ (p < tx.size ∧ tx.getD p 0 = c) ∧ ∀ i d, r[i]? = some d → p + 1 + i < tx.size ∧ tx.getD (p + 1 + i) 0 = d := by
      constructor
      · intro h
        refine ⟨h 0 c rfl, fun i d e => ?_⟩
        rw [Nat.add_assoc, Nat.add_comm 1]
        exact h (i + 1) d (by simpa using e)
      · rintro ⟨h0, h1⟩ i d e
        cases i with
        | zero => cases e; exact h0
        | succ i =>
          rw [Nat.add_comm i, ← Nat.add_assoc]
          exact h1 i d (by simpa using e)
    rw [sh, List.length_cons, show pc + 2 * (r.length + 1) = pc + 2 + 2 * r.length from by rw [Nat.mul_succ, ← Nat.add_assoc, Nat.add_right_comm], show p + (r.length + 1) = p + 1 + r.length from by rw [Nat.add_comm r.length, ← Nat.add_assoc]]
    by_cases h0 : p < tx.size ∧ tx.getD p 0 = c
    · have one := Go.one (m := st tx pc p hd true marks lm li fr wt none se none) rfl (lit_ok pc c a1 a2 a3 h0.1 h0.2)
      refine ⟨fun h => ?_, fun h => ?_⟩
      · obtain ⟨se', g⟩ := ih.1 h.2
        refine ⟨se', ?_⟩
        rw [show r.length + 1 = 1 + r.length from Nat.add_comm _ _]
        exact one.trans g
      · obtain ⟨pc', p', se', k, hk, g⟩ := ih.2 fun q => h ⟨h0, q⟩
        exact ⟨pc', p', se', 1 + k, by rw [Nat.add_comm]; exact Nat.succ_le_succ hk, one.trans g⟩
    · exact ⟨fun h => absurd h.1 h0, fun _ => ⟨_, _, _, 1, Nat.succ_le_succ (Nat.zero_le _), Go.one rfl (lit_no pc c a1 a2 a3 h0)⟩⟩
theorem word7 : ∀ i c, [70, 76, 65, 71, 83, 32, 40][i]? = some c → 11 + 2 * i < 39 ∧ code.getD (11 + 2 * i) 0 = 16 ∧ code.getD (11 + 2 * i + 1) 0 = c := by
  intro i c e
  have h := (by decide +kernel : ∀ i, i < 7 → 11 + 2 * i < 39 ∧ code.getD (11 + 2 * i) 0 = 16 ∧ [70, 76, 65, 71, 83, 32, 40][i]? = some (code.getD (11 + 2 * i + 1) 0)) i (List.getElem?_eq_some_iff.mp e).1
  exact ⟨h.1, h.2.1, Option.some.inj (h.2.2.symm.trans e)⟩
theorem f7_all {p : Nat} : F7 tx p ↔ ∀ i c, [70, 76, 65, 71, 83, 32, 40][i]? = some c → p + i < tx.size ∧ tx.getD (p + i) 0 = c := by
  constructor
  · rintro ⟨h, a0, a1, a2, a3, a4, a5, a6⟩ i c e
    have hi : i < 7 := (List.getElem?_eq_some_iff.mp e).1
    have : i = 0 ∨ i = 1 ∨ i = 2 ∨ i = 3 ∨ i = 4 ∨ i = 5 ∨ i = 6 := (by decide : ∀ i, i < 7 → i = 0 ∨ i = 1 ∨ i = 2 ∨ i = 3 ∨ i = 4 ∨ i = 5 ∨ i = 6) i hi
    refine ⟨Nat.lt_of_lt_of_le (Nat.add_lt_add_left hi p) h, ?_⟩
    rcases this with rfl | rfl | rfl | rfl | rfl | rfl | rfl <;> cases e <;> assumption
  · intro h
    exact ⟨(h 6 40 rfl).1, (h 0 70 rfl).2, (h 1 76 rfl).2, (h 2 65 rfl).2, (h 3 71 rfl).2, (h 4 83 rfl).2, (h 5 32 rfl).2, (h 6 40 rfl).2⟩
theorem lit_yes {p : Nat} (f : F7 tx p) : ∃ se', Go (st tx 11 p hd true marks lm li fr wt none se none) (st tx 25 (p + 7) hd true marks lm li fr wt none se' none) 7 := (lits _ 11 p se word7).1 (f7_all.mp f)
theorem lit_fail {p : Nat} (f : ¬ F7 tx p) : ∃ pc' p' se' k, k ≤ 7 ∧ Go (st tx 11 p hd true marks lm li fr wt none se none) (st tx pc' p' hd true marks lm li fr wt (some false) se' none) k := (lits _ 11 p se word7).2 (fun h => f (f7_all.mpr h))
theorem p3 (x : Nat) : 1 + (1 + (1 + x)) ≤ x + 4 := by omega
theorem p9 (x : Nat) : 7 + (1 + (1 + (x + 4))) ≤ x + 20 := by omega
/-- no bracket: all is given back -/
theorem inner_no {f1 : PySem.Sre.Frame} : ∀ (c q : Nat) (marks : Array (Option Nat)) (se : Seen), marks.size = 2 → c ≤ q → (∀ j, q - c ≤ j → j ≤ q → ¬ (j < tx.size ∧ tx.getD j 0 = 41)) →
    ∃ pc' p' hd' marks' lm' li' se' k, marks'.size = 2 ∧ k ≤ 4 * (c + 1) ∧ Go (st tx 34 q q true marks 0 (-1) [gb 27 q (c : Int) 0 (-1), f1] 2 none se none) (st tx pc' p' hd' true marks' lm' li' [f1] 1 (some false) se' none) k := by
  intro z0
  induction z0 with
  | zero =>
    rintro q marks se hm _ hn
    refine ⟨_, _, _, _, _, _, _, 1 + (1 + 1), ?_, (by decide), (Go.one rfl mark1).trans ((Go.one rfl (lit_no 36 41 (by decide) rfl rfl (hn q (Nat.sub_le _ _) (Nat.le_refl _)))).trans (Go.one rfl (back_no 27 36 q _ (.inr rfl) (Int.le_refl _))))⟩
    simpa using hm
  | succ c ih0 =>
    rintro q marks se hm hc hn
    obtain ⟨pc', p', hd', marks', lm', li', se', k, h1, h2, h3⟩ := ih0 (q - 1) (marks.setIfInBounds 1 (some q)) ((se.add 17).add 16) (by simpa using hm) (Nat.le_sub_of_add_le hc) fun j h1 h2 => hn j (by rw [Nat.add_comm, ← Nat.sub_sub]; exact h1) (Nat.le_trans h2 (Nat.sub_le _ _))
    refine ⟨pc', p', hd', marks', lm', li', se', 1 + (1 + (1 + k)), h1, Nat.le_trans (Nat.add_le_add_left (Nat.add_le_add_left (Nat.add_le_add_left h2 1) 1) 1) (p3 _), ?_⟩
    refine (Go.one rfl mark1).trans ((Go.one rfl (lit_no 36 41 (by decide) rfl rfl (hn q (Nat.sub_le _ _) (Nat.le_refl _)))).trans ((Go.one rfl (back_go 27 36 q _ (.inr rfl) (Int.ofNat_lt.mpr (Nat.succ_pos c)) (by decide))).trans ?_))
    rw [show (((c + 1 : Nat) : Int) - 1) = (c : Int) from (show (c : Int) + 1 - 1 = (c : Int) from Int.add_sub_cancel _ 1)]
    exact h3
/-- a place where the word stands and no bracket follows, or where it does not stand -/
theorem outer_no {f1 : PySem.Sre.Frame} (hsz : tx.size ≤ 100000) {p : Nat} {marks : Array (Option Nat)} {se : Seen} (hm : marks.size = 2) (hn : F7 tx p → ∀ j, p + 7 ≤ j → j < tx.size → tx.getD j 0 ≠ 41) :
    ∃ pc' p' hd' marks' lm' li' se' k, marks'.size = 2 ∧ k ≤ 4 * tx.size + 20 ∧ Go (st tx 11 p p true marks (-1) (-1) [f1] 1 none se none) (st tx pc' p' hd' true marks' lm' li' [f1] 1 (some false) se' none) k := by
  by_cases f : F7 tx p
  · obtain ⟨se1, g1⟩ := lit_yes (hd := p) (marks := marks) (lm := -1) (li := -1) (fr := [f1]) (wt := 1) (se := se) f
    have hp : p + 7 ≤ tx.size := f.1
    obtain ⟨se2, g2⟩ := rep_not (tx := tx) (pos := p + 7) (hd := p) (marks := marks.setIfInBounds 0 (some (p + 7))) (lm := 0) (li := -1) (fr := [f1]) (wt := 1) (se := se1.add 17) (Nat.lt_of_le_of_lt hsz (by decide)) hp (by decide)
    have hcl := cnt_le (· != 41) tx (tx.size - (p + 7)) (p + 7)
    obtain ⟨pc', p', hd', marks', lm', li', se', k, h1, h2, h3⟩ := inner_no (tx := tx) (f1 := f1) (cnt (· != 41) tx (tx.size - (p + 7)) (p + 7)) (p + 7 + cnt (· != 41) tx (tx.size - (p + 7)) (p + 7)) (marks.setIfInBounds 0 (some (p + 7))) se2 (by simpa using hm) (Nat.le_add_left _ _) (fun j h1 h2 h3 => hn f j (by rwa [Nat.add_sub_cancel] at h1) h3.1 h3.2)
    exact ⟨pc', p', hd', marks', lm', li', se', 7 + (1 + (1 + k)), h1, Nat.le_trans (Nat.add_le_add_left (Nat.add_le_add_left (Nat.add_le_add_left (Nat.le_trans h2 (Nat.mul_le_mul_left 4 (Nat.succ_le_succ (Nat.le_trans hcl (Nat.sub_le _ _))))) 1) 1) 7) (p9 _), g1.trans ((Go.one rfl mark0).trans ((Go.one rfl g2).trans h3))⟩
  · obtain ⟨pc', p', se', k, h1, h2⟩ := lit_fail (hd := p) (marks := marks) (lm := -1) (li := -1) (fr := [f1]) (wt := 1) (se := se) f
    exact ⟨pc', p', p, marks, -1, -1, se', k, hm, Nat.le_trans h1 (Nat.le_trans (by decide : 7 ≤ 20) (Nat.le_add_left _ _)), h2⟩
/-- down from n to p -/
theorem down (hsz : tx.size ≤ 100000) (p : Nat) : ∀ (d : Nat) (marks : Array (Option Nat)) (se : Seen), marks.size = 2 → (∀ p', p < p' → p' ≤ p + d → F7 tx p' → ∀ j, p' + 7 ≤ j → j < tx.size → tx.getD j 0 ≠ 41) →
    ∃ marks' se' k, marks'.size = 2 ∧ k ≤ d * (4 * tx.size + 21) ∧ Go (st tx 11 (p + d) (p + d) true marks (-1) (-1) [gb 5 (p + d) ((p + d : Nat) : Int) (-1) (-1)] 1 none se none) (st tx 11 p p true marks' (-1) (-1) [gb 5 p (p : Int) (-1) (-1)] 1 none se' none) k := by
  intro z0
  induction z0 with
  | zero =>
    rintro marks se hm _
    exact ⟨marks, se, 0, hm, Nat.zero_le _, Go.refl _⟩
  | succ d ih0 =>
    rintro marks se hm hn
    obtain ⟨pc', p', hd', m1, lm', li', se1, k1, h1, h2, h3⟩ := outer_no (tx := tx) (f1 := gb 5 (p + (d + 1)) ((p + (d + 1) : Nat) : Int) (-1) (-1)) hsz (p := p + (d + 1)) (marks := marks) (se := se) hm (hn _ (Nat.lt_add_of_pos_right (Nat.succ_pos d)) (Nat.le_refl _))
    obtain ⟨m2, se2, k2, g1, g2, g3⟩ := ih0 m1 se1 h1 fun p' a b => hn p' a (Nat.le_succ_of_le b)
    refine ⟨m2, se2, k1 + (1 + k2), g1, by (rw [Nat.succ_mul, ← Nat.add_assoc, Nat.add_comm (d * _)]; exact Nat.add_le_add (Nat.succ_le_succ h2) g2), h3.trans ((Go.one rfl (back_go 5 pc' p' ((p + (d + 1) : Nat) : Int) (.inl rfl) (Int.ofNat_lt.mpr (Nat.succ_pos _)) (by decide))).trans ?_)⟩
    rw [show p + (d + 1) - 1 = p + d from rfl, show ((p + (d + 1) : Nat) : Int) - 1 = ((p + d : Nat) : Int) from (show ((p + d : Nat) : Int) + 1 - 1 = ((p + d : Nat) : Int) from Int.add_sub_cancel _ 1)]
    exact g3
/-- the match -/
theorem hit (hsz : tx.size ≤ 100000) {p q : Nat} {marks : Array (Option Nat)} {se : Seen} (hm : marks.size = 2) (f : F7 tx p) (hq : p + 7 ≤ q) (hq2 : q < tx.size) (hc : tx.getD q 0 = 41) (hn : ∀ j, p + 7 ≤ j → j < q → tx.getD j 0 ≠ 41) :
    ∃ m', Go (st tx 11 p p true marks (-1) (-1) [gb 5 p (p : Int) (-1) (-1)] 1 none se none) m' 15 ∧ m'.outcome = some .matched ∧ m'.handed = q + 1 ∧ m'.start = 0 ∧ m'.lastmark = 1 ∧ m'.lastindex = 1 ∧ m'.marks = #[some (p + 7), some q] := by
  obtain ⟨se1, g1⟩ := lit_yes (hd := p) (marks := marks) (lm := -1) (li := -1) (fr := [gb 5 p (p : Int) (-1) (-1)]) (wt := 1) (se := se) f
  obtain ⟨se2, g2⟩ := rep_not (tx := tx) (pos := p + 7) (hd := p) (marks := marks.setIfInBounds 0 (some (p + 7))) (lm := 0) (li := -1) (fr := [gb 5 p (p : Int) (-1) (-1)]) (wt := 1) (se := se1.add 17) (Nat.lt_of_le_of_lt hsz (by decide)) (Nat.le_trans hq (Nat.le_of_lt hq2)) (by decide)
  have e : p + 7 + cnt (· != 41) tx (tx.size - (p + 7)) (p + 7) = q := by
    rcases Nat.lt_trichotomy (p + 7 + cnt (· != 41) tx (tx.size - (p + 7)) (p + 7)) q with h | h | h
    · have h9 := cnt_stop (· != 41) tx (tx.size - (p + 7)) (p + 7) (Nat.lt_sub_of_add_lt (by rw [Nat.add_comm]; exact Nat.lt_trans h hq2))
      exact absurd (by simpa using h9) (hn _ (Nat.le_add_right _ _) h)
    · exact h
    · have h9 := cnt_all (· != 41) tx (tx.size - (p + 7)) (p + 7) q hq h
      rw [hc] at h9; cases h9
  rw [e] at g2
  refine ⟨_, g1.trans (l := 8) ((Go.one rfl mark0).trans (l := 7) ((Go.one rfl g2).trans (l := 6) ((Go.one rfl mark1).trans (l := 5) ((Go.one rfl (lit_ok 36 41 (by decide) rfl rfl hq2 hc)).trans (l := 4) ((Go.one rfl success).trans (l := 3) ((Go.one rfl (back_yes 27 38 (q + 1) _)).trans (l := 2) ((Go.one rfl (back_yes 5 27 q _)).trans (l := 1) (Go.one rfl (step_end _ true rfl rfl rfl))))))))), rfl, rfl, rfl, rfl, rfl, ?_⟩
  show (marks.setIfInBounds 0 (some (p + 7))).setIfInBounds 1 (some q) = _
  obtain ⟨l⟩ := marks
  rcases l with _ | ⟨a, _ | ⟨b, _ | ⟨c, l⟩⟩⟩ <;> first | rfl | (simp at hm)
/-- no match -/
theorem miss (hsz : tx.size ≤ 100000) {marks : Array (Option Nat)} {se : Seen} (n : Nat) (hm : marks.size = 2) (hn : ∀ p', p' ≤ n → F7 tx p' → ∀ j, p' + 7 ≤ j → j < tx.size → tx.getD j 0 ≠ 41) :
    ∃ m' k, k ≤ (n + 1) * (4 * tx.size + 21) + 2 ∧ Go (st tx 11 n n true marks (-1) (-1) [gb 5 n (n : Int) (-1) (-1)] 1 none se none) m' k ∧ m'.outcome = some .failed := by
  obtain ⟨m1, se1, k1, h1, h2, h3⟩ := down hsz 0 n marks se hm fun p' _ b => hn p' (by rwa [Nat.zero_add] at b)
  simp only [Nat.zero_add] at h3
  obtain ⟨pc', p', hd', m2, lm', li', se2, k2, g1, g2, g3⟩ := outer_no (tx := tx) (f1 := gb 5 0 ((0 : Nat) : Int) (-1) (-1)) hsz (p := 0) (marks := m1) (se := se1) h1 (hn 0 (Nat.zero_le _))
  exact ⟨_, k1 + (k2 + (1 + 1)), by (rw [Nat.succ_mul, ← Nat.add_assoc]; exact Nat.add_le_add_right (Nat.add_le_add h2 (Nat.le_succ_of_le g2)) 2), h3.trans (g3.trans ((Go.one rfl (back_no 5 pc' p' _ (.inl rfl) (Int.le_refl _))).trans (Go.one rfl (step_end _ false rfl rfl rfl)))), rfl⟩
end
end Rx
end Mine
end
section
open PySem PySem.W PySem.Calls PyProof.Rows
set_option maxRecDepth 100000
set_option maxHeartbeats 8000000
namespace Mine
open Builtin Builtin.Bytes Builtin.Re
theorem re_named (b : Array UInt8) (t : Tok) : reNamed "re.Pattern.match" "match" ["string", "pos", "endpos"] 1 [.bytes b t] [] = pure [some (.bytes b t), none, none] := by kernel_rfl
theorem re_text (b : Array UInt8) (t : Tok) : reTextOf (.bytes b t) = pure (b.map (·.toNat), 1) := by
  unfold reTextOf
  rw [show asStr? (.bytes b t) = pure none from rfl, quiet_bytes]
  rfl
theorem re_quiet (b : Array UInt8) (t : Tok) : reNoCollectionInside (.bytes b t) 1 = pure () := by
  unfold reNoCollectionInside
  rw [inst_bytes]
  rfl
section
variable {prog : Program} {w : World} {A : Around} {E : Value → Shared → Prop} {s : Shared}
theorem m_stay : ∀ n (x : Sre.M), x.outcome.isSome = true → x.runFor n = x := by
  intro n x hx
  cases n with
  | zero => rfl
  | succ n =>
    show (if x.outcome.isSome = true then x else (x.step).runFor n) = x
    rw [if_pos hx]
theorem m_add : ∀ a b (x : Sre.M), x.runFor (a + b) = (x.runFor a).runFor b := by
  intro a
  induction a with
  | zero => intro b x; rw [Nat.zero_add]; rfl
  | succ a ih =>
    intro b x
    rw [Nat.succ_add]
    show (if x.outcome.isSome = true then x else (x.step).runFor (a + b)) = (if x.outcome.isSome = true then x else (x.step).runFor a).runFor b
    by_cases hx : x.outcome.isSome = true
    · rw [if_pos hx, if_pos hx, m_stay b x hx]
    · rw [if_neg hx, if_neg hx]; exact ih b _
/-- the engine's turns -/
theorem drive {M : Model} {m' : Sre.M} {Q : Sre.M → Shared → Prop} (ho : m'.outcome.isSome = true) (h : Q m' s) (T : Nat) : ∀ (k : Nat) (m : Sre.M), Rx.Go m m' k → k < 4 * T → wpAny M A (reDrive T m) Q E s := by
  induction T with
  | zero => exact fun k m _ hk => absurd hk (Nat.not_lt_zero _)
  | succ T ih =>
    intro k m g hk
    have hgo : m.runFor k = m' := by have := g 0; rwa [Nat.add_zero] at this
    show wpAny M A (if (m.runFor 4).outcome.isSome = true then pure (m.runFor 4) else rule "sre.turn" >>= fun _ => reDrive T (m.runFor 4)) Q E s
    by_cases hk4 : k ≤ 4
    · have e : m.runFor 4 = m' := by
        have := g (4 - k)
        rwa [Nat.add_sub_cancel' hk4, m_stay _ _ ho] at this
      rw [e, if_pos ho]
      exact wpAny_pure h
    · obtain ⟨j, rfl⟩ : ∃ j, k = 4 + j := ⟨k - 4, (Nat.add_sub_cancel' (Nat.le_of_lt (Nat.lt_of_not_le hk4))).symm⟩
      by_cases h4 : (m.runFor 4).outcome.isSome = true
      · rw [if_pos h4]
        have e : m.runFor 4 = m' := by rw [m_add, m_stay _ _ h4] at hgo; exact hgo
        rw [e]
        exact wpAny_pure h
      · rw [if_neg h4]
        refine wpAny_bind (wpAny_rule ?_)
        refine ih j (m.runFor 4) (fun n => ?_) (Nat.lt_of_add_lt_add_left (n := 4) (by rw [Nat.mul_succ, Nat.add_comm (4 * T)] at hk; exact hk))
        rw [← m_add, ← Nat.add_assoc]
        exact g n
theorem rules_ {M : Model} {α : Type} (p : α → Bool) (f : α → String) {Q : PUnit → Shared → Prop} (h : Q ⟨⟩ s) (l : List α) : wpAny M A (forIn l PUnit.unit fun i (_ : PUnit) => if p i = true then (rule (f i) >>= fun _ => pure (ForInStep.yield PUnit.unit)) else pure (ForInStep.yield PUnit.unit)) Q E s := by
  induction l with
  | nil => exact wpAny_pure h
  | cons a l ih =>
    rw [List.forIn_cons]
    refine wpAny_bind ?_
    by_cases hp : p a = true
    · rw [if_pos hp]; exact wpAny_bind (wpAny_rule (wpAny_pure ih))
    · rw [if_neg hp]; exact wpAny_pure ih
theorem to_end {M : Model} {m m' : Sre.M} {k : Nat} {Q : Option Sre.M → Shared → Prop} (g : Rx.Go m m' k) (hk : k < 1000000000000) (ho : m'.outcome.isSome = true) (h : match m'.outcome with | some .matched => Q (some m') s | some .failed => Q none s | _ => False) :
    wpAny M A (reRunToEnd m) Q E s := by
  unfold reRunToEnd
  refine wpAny_bind (drive ho ?_ (2 ^ 64) k m g (by omega))
  refine wpAny_bind ?_
  refine rules_ (fun i => m'.seen.has i) (fun i => Sre.names.getD i "") ?_ _
  revert h
  cases m'.outcome with
  | none => exact fun h => h.elim
  | some o =>
    cases o with
    | matched => exact fun h => wpAny_pure h
    | failed => exact fun h => wpAny_pure h
    | stuck _ => exact fun h => h.elim
end
end Mine
end
section
open PySem PySem.W PySem.Calls PyProof.Rows
set_option maxRecDepth 100000
set_option maxHeartbeats 8000000
namespace Mine
open Builtin Builtin.Bytes Builtin.Re
theorem attrs_pat : PlainAttrs "re.Pattern" :=
  ⟨⟨"object.__getattribute__", by rw [typeLookup_type, builtinLookup_eq_fast]; kernel_rfl, by decide +kernel⟩, by rw [typeLookup_type, builtinLookup_eq_fast]; kernel_rfl⟩
theorem slot_match : Slot "re.Pattern" "match" "re.Pattern.match" :=
  .of (owner := "re.Pattern") (n := "match") (by rw [typeLookup_type, builtinLookup_eq_fast]; kernel_rfl) (by decide +kernel) (by decide +kernel) (by decide +kernel)
    (by first | exact .inl (by decide +kernel) | exact .inr (by decide +kernel)) (by rw [isSubtype_type]; kernel_rfl)
theorem type_match : typeOf (.builtin "re.Pattern.match") = pure (.type "method_descriptor") := by show builtinType _ = _; rw [builtinType_eq_fast]; kernel_rfl
theorem entry_match : entryFor table "re.Pattern.match" = some Builtin.«re.Pattern.match» := entryFor_of_tree (by kernel_rfl)
theorem attrs_mat : PlainAttrs "re.Match" :=
  ⟨⟨"object.__getattribute__", by rw [typeLookup_type, builtinLookup_eq_fast]; kernel_rfl, by decide +kernel⟩, by rw [typeLookup_type, builtinLookup_eq_fast]; kernel_rfl⟩
theorem slot_group : Slot "re.Match" "group" "re.Match.group" :=
  .of (owner := "re.Match") (n := "group") (by rw [typeLookup_type, builtinLookup_eq_fast]; kernel_rfl) (by decide +kernel) (by decide +kernel) (by decide +kernel)
    (by first | exact .inl (by decide +kernel) | exact .inr (by decide +kernel)) (by rw [isSubtype_type]; kernel_rfl)
theorem type_group : typeOf (.builtin "re.Match.group") = pure (.type "method_descriptor") := by show builtinType _ = _; rw [builtinType_eq_fast]; kernel_rfl
theorem entry_group : entryFor table "re.Match.group" = some Builtin.«re.Match.group» := entryFor_of_tree (by kernel_rfl)
theorem slot_split : Slot "bytes" "split" "bytes.split" :=
  .of (owner := "bytes") (n := "split") (by rw [typeLookup_type, builtinLookup_eq_fast]; kernel_rfl) (by decide +kernel) (by decide +kernel) (by decide +kernel)
    (by first | exact .inl (by decide +kernel) | exact .inr (by decide +kernel)) (by rw [isSubtype_type]; kernel_rfl)
theorem type_split : typeOf (.builtin "bytes.split") = pure (.type "method_descriptor") := by show builtinType _ = _; rw [builtinType_eq_fast]; kernel_rfl
theorem entry_split : entryFor table "bytes.split" = some Builtin.«bytes.split» := entryFor_of_tree (by kernel_rfl)
theorem args_split (a : Value) : argsOk "bytes.split" ⟨[a], []⟩ := by
  unfold argsOk; rw [signature?_of (id := "bytes.split") (n := ['t', 'i', 'l', 'p', 's']) (o := ['s', 'e', 't', 'y', 'b']) (by kernel_rfl) FB.owner_bytes]; kernel_rfl
theorem owner_pat : Manifest.owners.lookup (String.ofList ['n', 'r', 'e', 't', 't', 'a', 'P', '.', 'e', 'r'].reverse) = some Manifest.sig_re_Pattern := by kernel_rfl
theorem owner_mat : Manifest.owners.lookup (String.ofList ['h', 'c', 't', 'a', 'M', '.', 'e', 'r'].reverse) = some Manifest.sig_re_Match := by kernel_rfl
theorem args_match (a b : Value) : argsOk "re.Pattern.match" ⟨[a, b], []⟩ := by
  unfold argsOk; rw [signature?_of (id := "re.Pattern.match") (n := ['h', 'c', 't', 'a', 'm']) (o := ['n', 'r', 'e', 't', 't', 'a', 'P', '.', 'e', 'r']) (by kernel_rfl) owner_pat]; kernel_rfl
theorem args_group (a b : Value) : argsOk "re.Match.group" ⟨[a, b], []⟩ := by
  unfold argsOk; rw [signature?_of (id := "re.Match.group") (n := ['p', 'u', 'o', 'r', 'g']) (o := ['h', 'c', 't', 'a', 'M', '.', 'e', 'r']) (by kernel_rfl) owner_mat]; kernel_rfl
end Mine
end
section
open PySem PySem.W PySem.Calls PyProof.Rows
set_option maxRecDepth 100000
set_option maxHeartbeats 8000000
namespace Mine
open Builtin Builtin.Bytes Builtin.Re
section
variable {prog : Program} {w : World} {A : Around} {E : Value → Shared → Prop} {s : Shared}
noncomputable abbrev codeVals : List Value := Rx.code.toList.map fun (n : Nat) => Value.int (Int.ofNat n) 0
/-- the pattern's object and its code's -/
structure PatAt (h : Heap) (a : Addr) : Prop where
  pat : ∃ o b t i ti d e c n sl, h.get? a = some o ∧ o.cls = .type "re.Pattern" ∧ o.dict = none ∧ o.data = .fields #[.bytes b t, .int i ti, .int 1 0, .ref d, e, .ref c, .int 1 0] ∧ h.get? c = some ⟨.type "tuple", none, .seq codeVals.toArray n, sl⟩ ∧
    ∃ f, h.MapOf (strKind prog w) d f ∧ f (Str.ofString "flags") = some (.int 1 335)
theorem re_items {M : Model} {c : Addr} {o : Obj} {n : Nat} {its : Array Value} {Q : Array Int → Shared → Prop} (ho : s.heap.get? c = some o) (hd : o.data = .seq its n) (h : Q (its.map reRawOf) s) : wpAny M A (reRawItems (.ref c)) Q E s := by
  unfold reRawItems
  exact wpAny_bind (wpAny_seqItems ho hd (wpAny_pure h))
theorem re_target {a : Addr} {b : Array UInt8} {t : Tok} {Q : ReTarget → Shared → Prop} (hp : PatAt (prog := prog) (w := w) s.heap a) (hz : b.size ≤ 100000)
    (h : Q { pattern := .ref a, string := .bytes b t, code := Rx.code, text := b.map (·.toNat), kind := 1, groups := 1, pos := 0, lim := (b.map (·.toNat)).size } s) :
    wpAny (model prog w) A (reTarget "re.Pattern.match" "match" ⟨[.ref a, .bytes b t], []⟩) Q E s := by
  with_reducible refine hideG ?_
  intro G0 hG0
  obtain ⟨o, pb, pt, i, ti, d, e, c, n, sl, ho, hc, hdn, hd, hco, _⟩ := hp.pat
  with_reducible refine hG0 ?_
  clear hG0 G0
  unfold reTarget
  dsimp only
  refine wpAny_bind (wpAny_of_eq (re_named b t) ?_)
  dsimp only
  refine wpAny_bind (wpAny_pure ?_)
  refine wpAny_bind (wpAny_pure ?_)
  refine wpAny_bind (wpAny_fieldsOf ho hd ?_)
  refine wpAny_bind (wpAny_of_eq (re_text b t) ?_)
  dsimp only
  refine wpAny_bind (wpAny_of_eq (re_quiet b t) ?_)
  refine wpAny_bind (re_items hco rfl ?_)
  refine wpAny_pure ?_
  have e1 : min (0 : Int).toNat (b.map (·.toNat)).size = 0 := by simp
  have e2 : min ((2 : Int) ^ 63 - 1).toNat (b.map (·.toNat)).size = (b.map (·.toNat)).size := by
    rw [Array.size_map]
    have : ((2 : Int) ^ 63 - 1).toNat = 9223372036854775807 := by decide
    rw [this]; omega
  have e3 : (codeVals.toArray.map reRawOf).map (·.toNat) = Rx.code := by decide +kernel
  rw [← e3] at h
  rw [e1, e2]
  exact h
/-- a span of the machine's marks -/
theorem new_match {h₀ : Heap} {L : Addr} {m : Str → Option Value} {news : List (Addr × Obj)} {a : Addr} {b : Array UInt8} {t : Tok} {pos lim : Nat} {x : Sre.M} {i j : Nat} {Q : Value → Shared → Prop} (F : Fr h₀ L s.heap m) (N : News h₀ L s.heap news)
    (hm : x.marks = #[some i, some j]) (hij : i ≤ j) (hl : x.lastmark = 1)
    (h : ∀ T D h', Fr h₀ L h' m → News h₀ L h' ((D, { cls := .type "re.Match", data := .fields #[.bytes b t, .ref a, rawInt pos, rawInt lim, rawInt x.lastindex, .ref T] }) :: (T, { cls := .type "tuple", data := .seq #[rawInt x.start, rawInt x.handed, rawInt i, rawInt j] }) :: news) → (∀ p ∈ news, p.1 < T) → T < D → Q (.ref D) { s with heap := h' }) :
    wpAny (model prog w) A (reNewMatch (.ref a) (.bytes b t) 1 pos lim x) Q E s := by
  unfold reNewMatch
  rw [hm, hl]
  show wpAny (model prog w) A (if ((decide ((1 : Int) ≤ 1) && decide (j < i)) || false) = true then _ else (newTuple [rawInt x.start, rawInt x.handed, rawInt i, rawInt j] >>= fun v => newFields "re.Match" [.bytes b t, .ref a, rawInt pos, rawInt lim, rawInt x.lastindex, v])) Q E s
  rw [if_neg (by rw [decide_eq_false (by omega : ¬ j < i)]; simp)]
  refine wpAny_bind (newTuple_N F N (fun h1 F1 N1 => ?_) (by show 4 ≤ 16777216; omega))
  unfold newFields
  exact wpAny_newObj_type (h _ _ _ (F1.push _) (N1.push F1 _) (fun p hp => Heap.lt_size (N p hp).1) (Heap.lt_size (N1 _ (.head _)).1))
end
noncomputable def Hit (tx : Array Nat) (p q : Nat) : Prop := Rx.F7 tx p ∧ p + 7 ≤ q ∧ q < tx.size ∧ tx.getD q 0 = 41 ∧ (∀ j, p + 7 ≤ j → j < q → tx.getD j 0 ≠ 41) ∧ (∀ j, j < p → tx.getD j 0 ≠ 10) ∧ ∀ p', p < p' → Rx.F7 tx p' → ∀ j, p' + 7 ≤ j → j < tx.size → tx.getD j 0 ≠ 41
noncomputable def Miss (tx : Array Nat) : Prop := ∀ p', Rx.F7 tx p' → ∀ j, p' + 7 ≤ j → j < tx.size → tx.getD j 0 ≠ 41
theorem for_match (tx : Array Nat) : ∃ se, Sre.forMatch Rx.code tx 1 0 tx.size false false = if tx.size < 8 then Rx.st tx 5 0 0 true (Array.replicate 2 none) (-1) (-1) [] 0 (some false) se none else Rx.st tx 5 0 0 true (Array.replicate 2 none) (-1) (-1) [] 0 none se none := by
  refine ⟨(({} : Sre.Seen).add 14), ?_⟩
  unfold Sre.forMatch
  show (if ((8 : Nat) != 0 && decide (0 ≤ tx.size) && decide (tx.size - 0 < 8)) = true then _ else _) = _
  by_cases h : tx.size < 8
  · rw [if_pos h, if_pos (by simp; omega)]; rfl
  · rw [if_neg h, if_neg (by simp; omega)]; rfl
theorem bound_ {k n z : Nat} (hz : z ≤ 10000) (hn : n ≤ z) (hk : k ≤ (n + 1) * (4 * z + 21) + 2) : k ≤ 500000000 := by
  have h1 : (n + 1) * (4 * z + 21) ≤ 10001 * 40021 := Nat.mul_le_mul (Nat.succ_le_succ (Nat.le_trans hn hz)) (Nat.add_le_add_right (Nat.mul_le_mul_left 4 hz) 21)
  exact Nat.le_trans hk (Nat.le_trans (Nat.add_le_add_right h1 2) (by decide))
theorem machine_hit {tx : Array Nat} {p q : Nat} (hz : tx.size ≤ 10000) (H : Hit tx p q) :
    ∃ m' k, k < 1000000000000 ∧ Rx.Go (Sre.forMatch Rx.code tx 1 0 tx.size false false) m' k ∧ m'.outcome = some .matched ∧ m'.handed = q + 1 ∧ m'.start = 0 ∧ m'.lastmark = 1 ∧ m'.lastindex = 1 ∧ m'.marks = #[some (p + 7), some q] := by
  with_reducible refine hideG ?_
  intro G0 hG0
  obtain ⟨h1, h2, h3, h4, h5, h6, h7⟩ := H
  with_reducible refine hG0 ?_
  clear hG0 G0
  obtain ⟨se, e⟩ := for_match tx
  rw [if_neg (show ¬ tx.size < 8 from Nat.not_lt.mpr (Nat.le_trans (Nat.succ_le_succ (Nat.le_trans (Nat.le_add_left 7 p) h2)) h3))] at e
  rw [e]
  obtain ⟨se1, g1⟩ := Rx.rep_any (tx := tx) (pos := 0) (hd := 0) (marks := Array.replicate 2 none) (lm := -1) (li := -1) (fr := []) (wt := 0) (se := se) (Nat.lt_of_le_of_lt hz (by decide)) (Nat.zero_le _) (by decide)
  simp only [Nat.zero_add, Nat.sub_zero] at g1
  have hcl := Rx.cnt_le (· != 10) tx tx.size 0
  have hpn : p ≤ Rx.cnt (· != 10) tx tx.size 0 := by
    refine Nat.le_of_not_lt fun hlt => ?_
    have h9 := Rx.cnt_stop (· != 10) tx tx.size 0 (Nat.lt_trans hlt (Nat.lt_of_le_of_lt (Nat.le_trans (Nat.le_add_right p 7) h2) h3))
    rw [Nat.zero_add] at h9
    exact h6 _ hlt (by simpa using h9)
  with_reducible refine hideG ?_
  intro G0 hG0
  obtain ⟨m1, se2, k2, a1, a2, a3⟩ := Rx.down (tx := tx) (Nat.le_trans hz (by decide)) p (Rx.cnt (· != 10) tx tx.size 0 - p) (Array.replicate 2 none) se1 (by simp) (fun p' u v => h7 p' u)
  with_reducible refine hG0 ?_
  clear hG0 G0
  rw [Nat.add_sub_cancel' hpn] at a3
  obtain ⟨m', b1, b2⟩ := Rx.hit (tx := tx) (Nat.le_trans hz (by decide)) (marks := m1) (se := se2) a1 h1 h2 h3 h4 h5
  have hb : k2 ≤ 500000000 := bound_ (n := Rx.cnt (· != 10) tx tx.size 0 - p) hz (Nat.le_trans (Nat.sub_le _ _) hcl) (Nat.le_trans a2 (Nat.le_trans (Nat.mul_le_mul_right _ (Nat.le_succ _)) (Nat.le_add_right _ 2)))
  exact ⟨m', 1 + (k2 + 15), Nat.lt_of_le_of_lt (Nat.add_le_add_left (Nat.add_le_add_right hb 15) 1) (by decide), (Rx.Go.one rfl g1).trans (a3.trans b1), b2⟩
theorem machine_miss {tx : Array Nat} (hz : tx.size ≤ 10000) (H : Miss tx) :
    ∃ m' k, k < 1000000000000 ∧ Rx.Go (Sre.forMatch Rx.code tx 1 0 tx.size false false) m' k ∧ m'.outcome = some .failed := by
  obtain ⟨se, e⟩ := for_match tx
  rw [e]
  by_cases h8 : tx.size < 8
  · rw [if_pos h8]
    exact ⟨_, 1, (by decide), Rx.Go.one rfl (Rx.step_end _ false rfl rfl rfl), rfl⟩
  · rw [if_neg h8]
    obtain ⟨se1, g1⟩ := Rx.rep_any (tx := tx) (pos := 0) (hd := 0) (marks := Array.replicate 2 none) (lm := -1) (li := -1) (fr := []) (wt := 0) (se := se) (Nat.lt_of_le_of_lt hz (by decide)) (Nat.zero_le _) (by decide)
    simp only [Nat.zero_add, Nat.sub_zero] at g1
    have hcl := Rx.cnt_le (· != 10) tx tx.size 0
    with_reducible refine hideG ?_
    intro G0 hG0
    obtain ⟨m', k, a1, a2, a3⟩ := Rx.miss (tx := tx) (marks := Array.replicate 2 none) (se := se1) (Nat.le_trans hz (by decide)) (Rx.cnt (· != 10) tx tx.size 0) (by simp) (fun p' _ => H p')
    with_reducible refine hG0 ?_
    clear hG0 G0
    have hb : k ≤ 500000000 := bound_ hz hcl a1
    exact ⟨m', 1 + k, Nat.lt_of_le_of_lt (Nat.add_le_add_left hb 1) (by decide), (Rx.Go.one rfl g1).trans a2, a3⟩
section
variable {prog : Program} {w : World} {A : Around} {E : Value → Shared → Prop} {s : Shared}
theorem match_hit {h₀ : Heap} {L : Addr} {m : Str → Option Value} {news : List (Addr × Obj)} {a : Addr} {b : Array UInt8} {t : Tok} {p q : Nat} {Q : Value → Shared → Prop} (hp : PatAt (prog := prog) (w := w) s.heap a) (F : Fr h₀ L s.heap m) (N : News h₀ L s.heap news)
    (hz : b.size ≤ 10000) (H : Hit (b.map (·.toNat)) p q)
    (h : ∀ T D h', Fr h₀ L h' m → News h₀ L h' ((D, { cls := .type "re.Match", data := .fields #[.bytes b t, .ref a, rawInt 0, rawInt b.size, rawInt 1, .ref T] }) :: (T, { cls := .type "tuple", data := .seq #[rawInt 0, rawInt (q + 1 : Nat), rawInt (p + 7 : Nat), rawInt q] }) :: news) → (∀ p ∈ news, p.1 < T) → T < D → Q (.ref D) { s with heap := h' }) :
    wpAny (model prog w) A (call (.builtin "re.Pattern.match") [.ref a, .bytes b t]) Q E s := by
  with_reducible refine hideG ?_
  intro G0 hG0
  obtain ⟨o, pb, pt, i, ti, d, e, c, n, sl, ho, hc, hdn, hd, hco, hr⟩ := hp.pat
  with_reducible refine hG0 ?_
  clear hG0 G0
  refine wpAny_call_entry slot_match ⟨o, ho, hc⟩ entry_match ?_ (args_match _ _)
  unfold Builtin.«re.Pattern.match»
  refine wpAny_bind (re_target hp (by omega) ?_)
  unfold reAnswer
  dsimp only
  have hsz : (b.map (·.toNat)).size = b.size := Array.size_map ..
  with_reducible refine hideG ?_
  intro G0 hG0
  obtain ⟨m', k, hk, g, o1, o2, o3, o4, o5, o6⟩ := machine_hit (by rw [hsz]; exact hz) H
  with_reducible refine hG0 ?_
  clear hG0 G0
  refine wpAny_bind (to_end g hk (by rw [o1]; rfl) ?_)
  rw [o1]
  dsimp only
  refine wpAny_bind (new_match F N o6 H.2.1 o4 fun T D h' F' N' l1 l2 => wpAny_pure ⟨_, rfl, h T D h' F' ?_ l1 l2⟩)
  rw [o2, o3, o5, hsz] at N'
  exact N'
theorem match_miss {a : Addr} {b : Array UInt8} {t : Tok} {Q : Value → Shared → Prop} (hp : PatAt (prog := prog) (w := w) s.heap a)
    (hz : b.size ≤ 10000) (H : Miss (b.map (·.toNat))) (h : Q .none s) :
    wpAny (model prog w) A (call (.builtin "re.Pattern.match") [.ref a, .bytes b t]) Q E s := by
  with_reducible refine hideG ?_
  intro G0 hG0
  obtain ⟨o, pb, pt, i, ti, d, e, c, n, sl, ho, hc, hdn, hd, hco, hr⟩ := hp.pat
  with_reducible refine hG0 ?_
  clear hG0 G0
  refine wpAny_call_entry slot_match ⟨o, ho, hc⟩ entry_match ?_ (args_match _ _)
  unfold Builtin.«re.Pattern.match»
  refine wpAny_bind (re_target hp (by omega) ?_)
  unfold reAnswer
  dsimp only
  have hsz : (b.map (·.toNat)).size = b.size := Array.size_map ..
  with_reducible refine hideG ?_
  intro G0 hG0
  obtain ⟨m', k, hk, g, o1⟩ := machine_miss (by rw [hsz]; exact hz) H
  with_reducible refine hG0 ?_
  clear hG0 G0
  refine wpAny_bind (to_end g hk (by rw [o1]; rfl) ?_)
  rw [o1]
  exact wpAny_pure ⟨_, rfl, h⟩
theorem match_m {a : Addr} {pl : Sem Bool} {Q : Value × List Value → Shared → Prop} (hp : PatAt (prog := prog) (w := w) s.heap a) (h : Q (.builtin "re.Pattern.match", [.ref a]) s) :
    wpAny (model prog w) A (getMethod (.ref a) "match" pl) Q E s := by
  with_reducible refine hideG ?_
  intro G0 hG0
  obtain ⟨o, pb, pt, i, ti, d, e, c, n, sl, ho, hc, hdn, hd, hco, hr⟩ := hp.pat
  with_reducible refine hG0 ?_
  clear hG0 G0
  exact getMethod_builtin ⟨o, ho, hc⟩ attrs_pat slot_match type_match (fun x e => by cases e; exact ⟨o, ho, hdn⟩) h
end
end Mine
end
section
open PySem PySem.W PySem.Calls PyProof.Rows
set_option maxRecDepth 100000
set_option maxHeartbeats 8000000
namespace Mine
open Builtin Builtin.Bytes Builtin.Re
theorem look_idx : typeLookup (.type "str") "__index__" = pure none := by rw [typeLookup_type, builtinLookup_eq_fast]; kernel_rfl
theorem spec_idx (x : Str) (t : Tok) : specialOf (.str x t) "__index__" = pure none := look_idx
theorem asint_str (x : Str) (t : Tok) : asInt? (.str x t) = pure none := rfl
theorem bindopt (id name : String) : bindOptional id name ["sep", "maxsplit"] [] [] = pure [none, none] := by rfl
theorem pay (b : Array UInt8) (t : Tok) : payload (.bytes b t) = pure b := rfl
theorem samek (b : Array UInt8) (t : Tok) : Kind.bytes.same (.bytes b t) = pure (.bytes b t) := rfl
theorem nokw (n : String) (l : List Value) : noKeywords n ⟨l, []⟩ = pure () := rfl
section
variable {prog : Program} {w : World} {A : Around} {E : Value → Shared → Prop} {s : Shared}
noncomputable abbrev matObj (b : Array UInt8) (t : Tok) (a T : Addr) (n : Nat) : Obj := { cls := .type "re.Match", data := .fields #[.bytes b t, .ref a, rawInt 0, rawInt n, rawInt 1, .ref T] }
noncomputable abbrev spanObj (p q : Nat) : Obj := { cls := .type "tuple", data := .seq #[rawInt 0, rawInt (q + 1 : Nat), rawInt (p + 7 : Nat), rawInt q] }
theorem group_m {D a T : Addr} {b : Array UInt8} {t : Tok} {n : Nat} {pl : Sem Bool} {Q : Value × List Value → Shared → Prop} (ho : s.heap.get? D = some (matObj b t a T n)) (h : Q (.builtin "re.Match.group", [.ref D]) s) :
    wpAny (model prog w) A (getMethod (.ref D) "group" pl) Q E s :=
  getMethod_builtin ⟨_, ho, rfl⟩ attrs_mat slot_group type_group (fun x e => by cases e; exact ⟨_, ho, rfl⟩) h
theorem group_ {D a T : Addr} {b : Array UInt8} {t u : Tok} {n p q : Nat} {Q : Value → Shared → Prop} (hp : PatAt (prog := prog) (w := w) s.heap a) (ho : s.heap.get? D = some (matObj b t a T n)) (hT : s.heap.get? T = some (spanObj p q))
    (hz : b.size ≤ 10000) (h : ∀ t' k, Q (.bytes (((b.map (·.toNat)).extract (p + 7) q).map (·.toUInt8)) t') { s with toks := k }) :
    wpAny (model prog w) A (call (.builtin "re.Match.group") [.ref D, .str (Str.ofString "flags") u]) Q E s := by
  with_reducible refine hideG ?_
  intro G0 hG0
  obtain ⟨o, pb, pt, i, ti, d, e, c, n', sl, ho', hc, hdn, hd, hco, f, hf, hfl⟩ := hp.pat
  with_reducible refine hG0 ?_
  clear hG0 G0
  refine wpAny_call_entry slot_group ⟨_, ho, rfl⟩ entry_group ?_ (args_group _ _)
  unfold Builtin.«re.Match.group»
  refine wpAny_bind (wpAny_of_eq (nokw _ _) ?_)
  dsimp only
  unfold reFound
  refine wpAny_bind (wpAny_bind (wpAny_fieldsOf ho rfl ?_))
  refine wpAny_bind (re_items hT rfl ?_)
  have eS : Array.map reRawOf #[rawInt 0, rawInt ((q + 1 : Nat) : Int), rawInt ((p + 7 : Nat) : Int), rawInt (q : Int)] = #[0, ((q + 1 : Nat) : Int), ((p + 7 : Nat) : Int), (q : Int)] := by simp only [List.map_toArray, List.map_cons, List.map_nil]; rfl
  rw [eS]
  refine wpAny_pure ?_
  refine wpAny_bind ?_
  unfold reGroupNumber
  refine wpAny_bind (wpAny_of_eq (asint_str _ _) ?_)
  rw [if_neg (by simp)]
  refine wpAny_bind (wpAny_of_eq (spec_idx _ _) ?_)
  rw [if_neg (by simp)]
  refine wpAny_bind (wpAny_fieldsOf (a := a) ho' hd ?_)
  show wpAny _ _ (dictGet d (.str (Str.ofString "flags") u) >>= _) _ _ _
  refine wpAny_bind (wpAny_dictGet_of (strKind_is prog w (Str.ofString "flags") u) hf ?_)
  rw [hfl]
  dsimp only
  refine wpAny_bind (wpAny_of_eq (show asInt? (.int 1 335) = pure (some 1) from rfl) ?_)
  refine wpAny_bind (wpAny_pure ?_)
  rw [if_neg (by show ¬ ((decide ((1 : Int) < 0) || decide (2 * (1 : Int) ≥ 4)) = true); decide)]
  refine wpAny_pure ?_
  refine wpAny_bind ?_
  unfold reGroupText
  show wpAny _ _ (if (decide (((p + 7 : Nat) : Int) < 0) || decide (((q : Nat) : Int) < 0)) = true then _ else _) _ _ _
  rw [if_neg (by rw [decide_eq_false (Int.not_lt.mpr (Int.natCast_nonneg _)), decide_eq_false (Int.not_lt.mpr (Int.natCast_nonneg _))]; decide)]
  refine wpAny_bind (wpAny_of_eq (re_text b t) ?_)
  dsimp only
  show wpAny _ _ (mkBytes (((b.map (·.toNat)).extract ((p + 7 : Nat) : Int).toNat ((q : Nat) : Int).toNat).map (·.toUInt8))) _ _ _
  unfold mkBytes
  rw [if_neg (by
    show ¬ _ > 16777216
    simp only [Array.size_map, Array.size_extract]; exact Nat.not_lt.mpr (Nat.le_trans (Nat.sub_le _ _) (Nat.le_trans (Nat.min_le_right _ _) (Nat.le_trans hz (by decide)))))]
  exact wpAny_bind (wpAny_fresh (wpAny_pure (wpAny_pure ⟨_, rfl, h _ _⟩)))
theorem words_ {M : Model} {R : List Value → Shared → Prop} : ∀ (ws : List (List UInt8)) (s : Shared), (∀ w ∈ ws, w.length ≤ 10000) → (∀ vs tk, BytesAre vs (ws.map List.toArray) → R vs { s with toks := tk }) → wpAny M A (ws.mapM fun w => Kind.bytes.new w.toArray) R E s := by
  intro z0
  induction z0 generalizing R with
  | nil =>
    rintro s _ h
    rw [List.mapM_nil]; exact wpAny_pure (h [] s.toks .nil)
  | cons x ws ih0 =>
    rintro s hz h
    rw [List.mapM_cons]
    refine wpAny_bind (m := mkBytes x.toArray) ?_
    unfold mkBytes
    have := hz x (List.mem_cons_self ..)
    rw [if_neg (by rw [List.size_toArray]; show ¬ _ > 16777216; omega)]
    refine wpAny_bind (wpAny_fresh (wpAny_pure ?_))
    refine wpAny_bind (ih0 _ (fun w hw => hz w (List.mem_cons_of_mem _ hw)) fun vs tk hv => wpAny_pure ?_)
    exact h _ tk (.cons _ _ hv)
noncomputable def wordsL (b : Array UInt8) : List (Array UInt8) := (words (b.size + 1) (b.size + 1) b.toList).map List.toArray
theorem dw_len {α : Type} (p : α → Bool) (l : List α) : (l.dropWhile p).length ≤ l.length := (List.dropWhile_suffix p).length_le
theorem tw_len {α : Type} (p : α → Bool) (l : List α) : (l.takeWhile p).length ≤ l.length := (List.takeWhile_prefix p).length_le
theorem tw_all {α : Type} (p : α → Bool) : ∀ l : List α, (∀ c ∈ l, p c = true) → l.takeWhile p = l := by
  intro z0
  induction z0 with
  | nil =>
    rintro _
    exact rfl
  | cons a r ih0 =>
    rintro h
    rw [List.takeWhile_cons, h a (List.mem_cons_self ..), if_pos rfl]
    exact congrArg (List.cons a) (ih0 fun c hc => h c (List.mem_cons_of_mem _ hc))
theorem dw_all {α : Type} (p : α → Bool) (l : List α) : (∀ c ∈ l, p c = true) → l.dropWhile p = [] := by
  induction l with
  | nil => exact fun _ => rfl
  | cons a r ih =>
    intro h
    rw [List.dropWhile_cons, h a (List.mem_cons_self ..), if_pos rfl]
    exact ih fun c hc => h c (List.mem_cons_of_mem _ hc)
theorem words_len (f : Nat) : ∀ (l : Nat) (t : List UInt8) (w : List UInt8), w ∈ words f l t → w.length ≤ t.length := by
  induction f with
  | zero => exact fun _ _ _ h => nomatch h
  | succ f ih =>
    intro l t w
    have h0 : (t.dropWhile Builtin.Bytes.isSpace).length ≤ t.length := dw_len _ _
    show w ∈ (match t.dropWhile Builtin.Bytes.isSpace with | [] => [] | rest => if (l == 0) = true then [rest] else rest.takeWhile (fun c => !Builtin.Bytes.isSpace c) :: words f (l - 1) (rest.dropWhile fun c => !Builtin.Bytes.isSpace c)) → _
    revert h0
    cases t.dropWhile Builtin.Bytes.isSpace with
    | nil => exact fun _ h => nomatch h
    | cons x q =>
      intro h0
      show w ∈ (if (l == 0) = true then [x :: q] else (x :: q).takeWhile (fun c => !Builtin.Bytes.isSpace c) :: words f (l - 1) ((x :: q).dropWhile fun c => !Builtin.Bytes.isSpace c)) → _
      by_cases hl : (l == 0) = true
      · rw [if_pos hl]; intro h; rw [List.mem_singleton.mp h]; exact h0
      · rw [if_neg hl]; intro h
        rcases List.mem_cons.mp h with rfl | h
        · exact Nat.le_trans (tw_len _ _) h0
        · exact Nat.le_trans (ih _ _ _ h) (Nat.le_trans (dw_len _ _) h0)
theorem words_plain (b : Array UInt8) (h1 : b.isEmpty = false) (h2 : b.any Builtin.Bytes.isSpace = false) : wordsL b = [b] := by
  obtain ⟨l⟩ := b
  have h2' : ∀ c ∈ l, Builtin.Bytes.isSpace c = false := by
    intro c hc
    cases q : Builtin.Bytes.isSpace c with
    | false => rfl
    | true =>
      have : (l.any Builtin.Bytes.isSpace) = true := List.any_eq_true.mpr ⟨c, hc, q⟩
      rw [List.any_toArray] at h2
      rw [this] at h2; cases h2
  have d1 : l.dropWhile Builtin.Bytes.isSpace = l := by
    cases l with
    | nil => rfl
    | cons a r => rw [List.dropWhile_cons, h2' a (List.mem_cons_self ..)]; rfl
  have d2 : l.takeWhile (fun c => !Builtin.Bytes.isSpace c) = l := tw_all _ l fun c hc => by rw [h2' c hc]; rfl
  have d3 : l.dropWhile (fun c => !Builtin.Bytes.isSpace c) = [] := dw_all _ l fun c hc => by rw [h2' c hc]; rfl
  unfold wordsL
  cases l with
  | nil => simp at h1
  | cons a r =>
    show ((words ((a :: r).length + 1) ((a :: r).length + 1) (a :: r)).map List.toArray) = _
    show ((match (a :: r).dropWhile Builtin.Bytes.isSpace with | [] => [] | rest => if ((a :: r).length + 1 == 0) = true then [rest] else rest.takeWhile (fun c => !Builtin.Bytes.isSpace c) :: words ((a :: r).length) ((a :: r).length + 1 - 1) (rest.dropWhile fun c => !Builtin.Bytes.isSpace c)).map List.toArray) = _
    rw [d1]
    show List.map List.toArray (if ((a :: r).length + 1 == 0) = true then [a :: r] else (a :: r).takeWhile (fun c => !Builtin.Bytes.isSpace c) :: words ((a :: r).length) _ ((a :: r).dropWhile fun c => !Builtin.Bytes.isSpace c)) = _
    rw [if_neg (by simp), d2, d3]
    rfl
theorem split_m {b : Array UInt8} {t : Tok} {pl : Sem Bool} {Q : Value × List Value → Shared → Prop} (h : Q (.builtin "bytes.split", [.bytes b t]) s) :
    wpAny (model prog w) A (getMethod (.bytes b t) "split" pl) Q E s :=
  getMethod_builtin (typeIs_bytes _ _ _) FB.plainAttrs_bytes slot_split type_split (fun _ e => nomatch e) h
theorem split_ {h₀ : Heap} {L : Addr} {m : Str → Option Value} {news : List (Addr × Obj)} {b : Array UInt8} {t : Tok} {Q : Value → Shared → Prop} (F : Fr h₀ L s.heap m) (N : News h₀ L s.heap news) (hz : b.size ≤ 10000) (hn : (wordsL b).length ≤ 1000)
    (h : ∀ D vs h' tk, Fr h₀ L h' m → News h₀ L h' ((D, listOf vs.toArray 0) :: news) → (∀ p ∈ news, p.1 < D) → BytesAre vs (wordsL b) → Q (.ref D) { s with heap := h', toks := tk }) :
    wpAny (model prog w) A (call (.builtin "bytes.split") [.bytes b t]) Q E s := by
  refine wpAny_call_entry slot_split (typeIs_bytes _ _ _) entry_split ?_ (args_split _)
  show wpAny _ _ (splitM .bytes "split" false ⟨[.bytes b t], []⟩) _ _ _
  unfold splitM
  dsimp only
  refine wpAny_bind (wpAny_of_eq (bindopt _ _) ?_)
  dsimp only
  refine wpAny_bind (wpAny_pure ?_)
  refine wpAny_bind (wpAny_of_eq (pay _ _) ?_)
  refine wpAny_bind (wpAny_rule ?_)
  have e : (decide ((if (-1 : Int) < 0 then b.size + 1 else (-1 : Int).toNat) > 0) && !b.isEmpty && !b.any Builtin.Bytes.isSpace) = (!b.isEmpty && !b.any Builtin.Bytes.isSpace) := by simp
  rw [e]
  by_cases hc : (!b.isEmpty && !b.any Builtin.Bytes.isSpace) = true
  · rw [if_pos hc]
    simp only [Bool.and_eq_true, Bool.not_eq_true'] at hc
    refine wpAny_bind (wpAny_of_eq (samek _ _) ?_)
    refine wpAny_bind (newList_K F N (fun D h' F' N' l1 => wpAny_pure ⟨_, rfl, h D _ h' _ F' N' l1 ?_⟩) (by show 1 ≤ 16777216; omega))
    rw [words_plain b hc.1 hc.2]
    exact .cons _ _ .nil
  · rw [if_neg hc]
    show wpAny _ _ ((words (b.size + 1) (b.size + 1) b.toList).mapM (fun w => Kind.bytes.new w.toArray) >>= fun vs => newList vs >>= ret) _ _ _
    refine wpAny_bind (words_ _ _ (fun w hw => ?_) fun vs tk hv => ?_)
    · have := words_len _ _ _ _ hw
      have e9 : b.toList.length = b.size := Array.length_toList ..
      omega
    · refine wpAny_bind (newList_K F N (fun D h' F' N' l1 => wpAny_pure ⟨_, rfl, h D vs h' tk F' N' l1 hv⟩) ?_)
      rw [hv.length]
      show _ ≤ 16777216
      unfold wordsL at hn
      omega
end
end Mine
end
section
open PySem PySem.W PySem.Calls PyProof.Rows
set_option maxRecDepth 100000
set_option maxHeartbeats 8000000
namespace Mine

theorem pat_intro {prog : Program} {w : World} {K : Frag} {h : Heap} {a d c : Addr} {b : Array UInt8} {t ti : Tok} {i : Int} {e : Value} {n n' : Nat} {sl sl' : Array (Option Value)} {es : Array DictEntry} (X : K.In h)
    (h1 : K.lookup a = some ⟨.type "re.Pattern", none, .fields #[.bytes b t, .int i ti, .int 1 0, .ref d, e, .ref c, .int 1 0], sl⟩)
    (h2 : K.lookup c = some ⟨.type "tuple", none, .seq codeVals.toArray n, sl'⟩)
    (h3 : K.lookup d = some ⟨.type "dict", none, .dict es n', #[]⟩) (hk : KeysLit w.params es.toList) (hf : findBy Value.isStrOf es (Str.ofString "flags") = some (.int 1 335)) : PatAt (prog := prog) (w := w) h a :=
  ⟨⟨_, _, _, _, _, _, _, _, _, _, X _ _ h1, rfl, rfl, rfl, X _ _ h2, _, mapOf_K X h3 hk, hf⟩⟩
theorem PatAt.keeps {prog : Program} {w : World} {h h' : Heap} {a : Addr} (H : PatAt (prog := prog) (w := w) h a) (k : ∀ b o, h.get? b = some o → h'.get? b = some o) : PatAt (prog := prog) (w := w) h' a := by
  obtain ⟨o, b, t, i, ti, d, e, c, n, sl, h1, h2, h3, h4, h5, f, ⟨o', es, ep, h6, r⟩, h7⟩ := H.pat
  exact ⟨⟨o, b, t, i, ti, d, e, c, n, sl, k _ _ h1, h2, h3, h4, k _ _ h5, f, ⟨o', es, ep, k _ _ h6, r⟩, h7⟩⟩
theorem mat_noBool : typeLookup (.type "re.Match") (Str.ofString "__bool__") = pure none := by rw [typeLookup_type, builtinLookup_eq_fast]; kernel_rfl
theorem mat_noLen : typeLookup (.type "re.Match") (Str.ofString "__len__") = pure none := by rw [typeLookup_type, builtinLookup_eq_fast]; kernel_rfl
theorem truthy_mat {prog : Program} {w : World} {A : Around} {E : Value → Shared → Prop} {s : Shared} {D : Addr} {Q : Bool → Shared → Prop} (hT : s.TypeIs (.ref D) "re.Match") (h : Q true s) : wpAny (model prog w) A (truthy (.ref D)) Q E s := by
  unfold truthy
  first
    | refine wpAny_bind (wpAny_callSpecial?_none (name := Str.ofString "__bool__") hT mat_noBool ?_)
    | refine wpAny_bind (wpAny_pure (wpAny_bind (wpAny_callSpecial?_none (name := Str.ofString "__bool__") hT mat_noBool ?_)))
  first
    | refine wpAny_bind (wpAny_specialOf (name := Str.ofString "__len__") hT mat_noLen ?_)
    | refine wpAny_bind (wpAny_pure (wpAny_bind (wpAny_specialOf (name := Str.ofString "__len__") hT mat_noLen ?_)))
  first
    | exact wpAny_pure h
    | exact wpAny_bind (wpAny_pure (wpAny_pure h))
theorem bytes_dat {tl : List (Addr × Obj)} {vs : List Value} {bs : List (Array UInt8)} (h : BytesAre vs bs) : DatAll tl vs (bs.map Dat.bytes) := h.dat
section
theorem S6_w1 : True := by
  k_with_none
  k_with "getMethod ref" => (first | (refine match_m (PatAt.keeps (by assumption) (Fr.keep (by assumption))) ?_) | (refine group_m (News.get (by assumption) (by k_mem)) ?_))
  k_with "getMethod bytes" => ((refine split_m ?_))
  k_with "call builtin:re.Pattern.match" => ((with_reducible refine Stop.out ?_))
  k_with "call builtin:re.Match.group" => ((with_reducible refine Stop.out ?_))
  k_with "call builtin:bytes.split" => ((with_reducible refine Stop.out ?_))
  trivial
theorem parse_hit (w : World) (loose : List Str) (mean : ExcName → Option Value) (mg mb : Str → Option Value) (A : Around) (s : Shared) (Q E : Value → Shared → Prop) (b : Array UInt8) (t : Tok) (p q : Nat) :
    Room 5 40 A → (Mine.hd0.heap_1_1 w.params).In s.heap → Top topProg loose mean mg mb s.heap → (b.size ≤ 1000) → (Hit (b.map (·.toNat)) p q) → ((wordsL (((b.map (·.toNat)).extract (p + 7) q).map (·.toUInt8))).length ≤ 1000) →
    Ends s Q (fun v h => DatNew s.heap h v (.tuple ((wordsL (((b.map (·.toNat)).extract (p + 7) q).map (·.toUInt8))).map Dat.bytes))) →
    wpAny (model PySem.Challenge.rw_if0001_01.row.prog w) A (call (.ref 50) [.bytes b t]) Q E s := by
  k_fill
  intro R X T h0 h1 h2 ret
  obtain ⟨hh, dp, fr, gd, un⟩ := A
  obtain ⟨hA, hdp, hun⟩ := R
  cases hA
  dsimp only at hdp hun
  refine' pcall (binds := [(Str.ofString "resp", .bytes b t)]) (by assumption) (by assumption) ?hd ?ho ?hcd ?hb ?hl ?hc ?h1 ?h2 ?h3 ?_
  (case ho => k_is)
  (case hcd => k_is)
  (case hd => ((try dsimp only); (try simp only [recursionLimit]); omega))
  (case hb => first | exact BindsTo.of_eq rfl | exact binds_K (by assumption) rfl (by k_is) rfl rfl rfl)
  (case hc => decide)
  (case hl => exact locs rfl)
  (case h1 => exact rfl)
  (case h2 => exact rfl)
  (case h3 => exact rfl)
  k_whole
  intro L' h' F' N'
  (try dsimp only)
  (try k_fold)
  have hp : PatAt (prog := PySem.Challenge.rw_if0001_01.row.prog) (w := w) s.heap 43 := by
    refine' pat_intro X ?h1 ?h2 ?h3 ?hk ?hf
    case h1 => k_is
    case h2 => k_is
    case h3 => k_is
    case hk => k_keys
    case hf => rfl
  k_steps
  refine Stop.mk ?_
  (with_reducible rename Fr _ _ _ _ => F1)
  (with_reducible rename News _ _ _ _ => N1)
  refine match_hit (hp.keeps F1.keep) F1 N1 (by omega) h1 (fun T1 D1 hh2 F2 N2 l1 l2 => ?_)
  k_steps
  (with_reducible rename News _ _ _ _ => N3)
  refine truthy_mat ⟨_, N3.get (.head _), rfl⟩ ?_
  k_steps
  refine Stop.mk ?_
  (with_reducible rename Fr _ _ _ _ => F4)
  (with_reducible rename News _ _ _ _ => N4)
  refine group_ (hp.keeps F4.keep) (N4.get (.head _)) (N4.get (.tail _ (.head _))) (by omega) (fun t' tk' => ?_)
  k_steps
  refine Stop.mk ?_
  (with_reducible rename Fr _ _ _ _ => F5)
  (with_reducible rename News _ _ _ _ => N5)
  refine split_ F5 N5 (by simp only [Array.size_map, Array.size_extract]; exact Nat.le_trans (Nat.sub_le _ _) (Nat.le_trans (Nat.min_le_right _ _) (Nat.le_trans h0 (by decide)))) h2 (fun D2 vs hh3 tk3 F6 N6 l3 hb => ?_)
  k_steps
  have hvz : vs.length ≤ 1000 := by rw [hb.length]; exact h2
  refine kde_tupleOf F6 N6 (items := vs.toArray) (zs := vs) (isList_N (s := { s with heap := hh3, toks := tk3 }) N6 (.head _)) (by rw [List.size_toArray]; omega) rfl (fun D3 hh4 F7 N7 l4 => ?_)
  have h9 := N7 _ (.head _)
  refine ret _ _ _ (Fr.keep F7) ⟨[(D3, { cls := .type "tuple", data := .seq vs.toArray 0 })], fun p hp => ?_, .tuple (.head _) (bytes_dat hb)⟩
  rw [List.mem_singleton.mp hp]
  exact ⟨h9.1, h9.2.2⟩
theorem parse_miss (w : World) (loose : List Str) (mean : ExcName → Option Value) (mg mb : Str → Option Value) (A : Around) (s : Shared) (Q E : Value → Shared → Prop) (b : Array UInt8) (t : Tok) :
    Room 5 40 A → (Mine.hd0.heap_1_1 w.params).In s.heap → Top topProg loose mean mg mb s.heap → (b.size ≤ 1000) → (Miss (b.map (·.toNat))) →
    Ends s Q (fun v h => DatNew s.heap h v (.tuple [])) →
    wpAny (model PySem.Challenge.rw_if0001_01.row.prog w) A (call (.ref 50) [.bytes b t]) Q E s := by
  k_fill
  intro R X T h0 h1 ret
  obtain ⟨hh, dp, fr, gd, un⟩ := A
  obtain ⟨hA, hdp, hun⟩ := R
  cases hA
  dsimp only at hdp hun
  refine' pcall (binds := [(Str.ofString "resp", .bytes b t)]) (by assumption) (by assumption) ?hd ?ho ?hcd ?hb ?hl ?hc ?h1 ?h2 ?h3 ?_
  (case ho => k_is)
  (case hcd => k_is)
  (case hd => ((try dsimp only); (try simp only [recursionLimit]); omega))
  (case hb => first | exact BindsTo.of_eq rfl | exact binds_K (by assumption) rfl (by k_is) rfl rfl rfl)
  (case hc => decide)
  (case hl => exact locs rfl)
  (case h1 => exact rfl)
  (case h2 => exact rfl)
  (case h3 => exact rfl)
  k_whole
  intro L' h' F' N'
  (try dsimp only)
  (try k_fold)
  have hp : PatAt (prog := PySem.Challenge.rw_if0001_01.row.prog) (w := w) s.heap 43 := by
    refine' pat_intro X ?h1 ?h2 ?h3 ?hk ?hf
    case h1 => k_is
    case h2 => k_is
    case h3 => k_is
    case hk => k_keys
    case hf => rfl
  k_steps
  refine Stop.mk ?_
  (with_reducible rename Fr _ _ _ _ => F1)
  refine match_miss (hp.keeps F1.keep) (by omega) h1 ?_
  k_steps
  (with_reducible rename Fr _ _ _ _ => F7)
  (with_reducible rename News _ _ _ _ => N7)
  have h9 := N7 _ (.head _)
  refine ret _ _ _ (Fr.keep F7) ⟨[(_, { cls := .type "tuple", data := .seq [].toArray 0 })], fun p hp => ?_, .tuple (.head _) .nil⟩
  rw [List.mem_singleton.mp hp]
  exact ⟨h9.1, h9.2.2⟩
end
theorem S6_w2 : True := by
  k_with_none
  trivial
end Mine
end
theorem Mine.Cp_w0 : True := by
  k_with_none
  trivial
section
open PySem PySem.W PySem.Calls PyProof.Rows
set_option maxRecDepth 100000
set_option maxHeartbeats 8000000
namespace Mine

open LCg in
theorem comp_turns {σ : Type} {prog : Program} {w : World} {A : Around} {h₀ : Heap} {Lc : Addr} {m : Str → Option Value} {env : Env} {elt : Expr} {x : Str} {scope : Scope} {cl : List (Str × Addr)} {s : Shared} {S : List (Addr × Obj) → Prop} {Pv : Nat → Value → Prop} {Fin : List Value → List (Addr × Obj) → Prop} {n : Nat}
    (L : σ → Led) (P : Nat → List Value → σ → Prop)
    (turn : ∀ i ys c v I oI C oC D m₂ h tk (E' : Value → Shared → Prop), i < n → P i ys c → Pv i v → NsObj oC m₂ → m₂ x = some v → Fr h₀ Lc h m → News h₀ Lc h ((I, oI) :: (C, oC) :: (D, lst ys) :: L c) → Off3 I C D (L c) → ((@Ne Nat I C) ∧ (@Ne Nat I D) ∧ (@Ne Nat C D)) →
      wpAny (model prog w) A (eval elt (compEnvC scope cl C env)) (CompEnd h₀ Lc m { s with heap := h, toks := tk } I oI C oC D (lst ys) S (fun y news' => ∃ c', news' = L c' ∧ P (i + 1) (ys ++ [y]) c')) E' { s with heap := h, toks := tk })
    (fin : ∀ ys c, P n ys c → Fin ys (L c)) :
    ∀ (k i : Nat) (ys : List Value) (c : σ), i + k = n → P i ys c → CompRest prog w A h₀ Lc m env elt x scope cl s S Pv Fin k i ys (L c) := by
  intro z0
  induction z0 with
  | zero =>
    rintro i ys c e hp
    obtain rfl : i = n := by omega
    exact fin ys c hp
  | succ k ih0 =>
    rintro i ys c e hp
    intro v I oI C oC D m₂ h tk E' hv hC hx F N off ne
    refine wpAny_mono (turn i ys c v I oI C oC D m₂ h tk E' (by omega) hp hv hC hx F N off ne) (fun y s₂ q => ?_) fun _ _ z => z
    with_reducible refine hideG ?_
    intro G0 hG0
    obtain ⟨h', tk', news', e', F', N', off', hS, c', rfl, hp'⟩ := q
    with_reducible refine hG0 ?_
    clear hG0 G0
    exact ⟨h', tk', _, e', F', N', off', hS, ih0 (i + 1) _ c' (by omega) hp'⟩
theorem dat_new {h₀ h' : Heap} {L : Addr} {news : Led} {v : Value} {d : Dat} (N : News h₀ L h' news) (D : DatIn news v d) : DatNew h₀ h' v d := ⟨news, fun p hp => ⟨(N p hp).1, (N p hp).2.2⟩, D⟩
theorem news_fresh {h₀ h h' : Heap} {L : Addr} {m : Str → Option Value} {tl : Led} (F : Fr h₀ L h m) (H : Fresh h h' tl) : News h₀ L h' tl := by
  intro p hp
  obtain ⟨a, b⟩ := H p hp
  refine ⟨a, ?_, ?_⟩
  · intro e
    obtain ⟨o, e1, _⟩ := LCg.ns_obj F.ns
    rw [e, e1] at b; cases b
  · cases q : h₀.get? p.1 with
    | none => rfl
    | some o => have := F.keep _ _ q; rw [this] at b; cases b
theorem news_more {h₀ h h' : Heap} {L : Addr} {m : Str → Option Value} {tl news : Led} (F : Fr h₀ L h m) (N : News h₀ L h news) (k : h.StaysIn h') (H : Fresh h h' tl) : News h₀ L h' (tl ++ news) := by
  intro p hp
  rcases List.mem_append.mp hp with hp | hp
  · exact news_fresh F H p hp
  · exact ⟨k _ _ (N p hp).1, (N p hp).2⟩
theorem fresh_ne {h₀ h h' : Heap} {L : Addr} {tl news : Led} (N : News h₀ L h news) (H : Fresh h h' tl) : ∀ p ∈ tl, ∀ q ∈ news, p.1 ≠ q.1 := by
  intro p hp q hq e
  have := (N q hq).1
  rw [← e, (H p hp).2] at this; cases this
theorem strs_of {ns : Led} {vs : List Value} {xs : List Str} (h : DatAll ns vs (xs.map Dat.str)) : StrsAre vs xs := by
  induction xs generalizing vs with
  | nil => cases h; exact .nil
  | cons x xs ih => cases h with | cons a r => cases a; exact .cons _ _ (ih r)
theorem bytes_of {ns : Led} {vs : List Value} {xs : List (Array UInt8)} (h : DatAll ns vs (xs.map Dat.bytes)) : BytesAre vs xs := BytesAre.ofDat h
theorem strs_get {vs : List Value} {xs : List Str} (h : StrsAre vs xs) : ∀ (i : Nat) (v : Value), vs[i]? = some v → ∃ x t, xs[i]? = some x ∧ v = .str x t := by
  induction h with
  | nil => intro i v e; cases e
  | cons y t r ih =>
    intro i v e
    cases i with
    | zero => cases e; exact ⟨y, t, rfl, rfl⟩
    | succ i => exact ih i v e
theorem bytes_snoc {vs : List Value} {xs : List (Array UInt8)} {b : Array UInt8} {t : Tok} (h : BytesAre vs xs) : BytesAre (vs ++ [.bytes b t]) (xs ++ [b]) := by
  induction h with
  | nil => exact .cons b t .nil
  | cons c u r ih => exact .cons c u ih
theorem bytes_rev {vs : List Value} {xs : List (Array UInt8)} (h : BytesAre vs xs) : BytesAre vs.reverse xs.reverse := by
  induction h with
  | nil => exact .nil
  | cons b t r ih => rw [List.reverse_cons, List.reverse_cons]; exact bytes_snoc ih
open Builtin.Bytes in
theorem join__ {prog : Program} {w : World} {A : Around} {E : Value → Shared → Prop} {s : Shared} {sep : Array UInt8} {l : Addr} {vs : List Value} {bs : List (Array UInt8)} {t : Tok} {Q : Value → Shared → Prop} (hl : s.heap.IsList l vs.toArray) (hb : BytesAre vs bs)
    (hz : bs.foldl (· + ·.size) (sep.size * (bs.length - 1)) ≤ 10000) (hz2 : (joined sep bs).size ≤ 10000) (h : ∀ t' k, Q (.bytes (joined sep bs) t') { s with toks := k }) :
    wpAny (model prog w) A (call (.builtin "bytes.join") [.bytes sep t, .ref l]) Q E s := by
  refine join_ hl hb (fun b t e _ => ?_) hz hz2 (fun _ => h _ _)
  have : joined sep bs = b := by rw [e]; simp [joined]
  rw [← this]
  exact h t s.toks
noncomputable def toldL (xs : List Str) (f : Int) : List (Array UInt8) := if Int.fmod f 2 = 1 then (xs.map utf8L).reverse else xs.map utf8L
section
theorem Cp_w1 : True := by
  k_with_none
  k_with "CompSrc" => ((with_reducible refine Stop.out ?_))
  k_with "FinA" => ((with_reducible refine Stop.out ?_))
  k_with "CompEnd" => ((with_reducible refine Stop.out ?_))
  k_with "subscriptTail Name Slice ref ref" => ((k_here; k_dflt (refine' krv_lit ?F ?N ?l ?k ?e ?_ ?s ?t ?z; (case F => k_asm); (case N => k_asm); (case l => exact isList_N (by assumption) (.head _)); (case k => exact IsPart.int _ _); (case e => exact rfl); (case s => with_unfolding_all rfl); (case t => kmk_pure); (case z => assumption)); intro D' h' F' N' l1; (try k_lt l1); (try k_sweep)))
  k_with "getMethod str" => ((refine encode_m ?_))
  k_with "call builtin:str.encode" => ((refine encode_ (by assumption) (by assumption) ?_))
  trivial
theorem told_spec (w : World) (loose : List Str) (mean : ExcName → Option Value) (mg mb : Str → Option Value) (A : Around) (s : Shared) (Q E : Value → Shared → Prop) (l : Addr) (xs : List Str) (f : Int) (t : Tok) :
    Room 5 40 A → (Mine.hd0.heap_1_1 w.params).In s.heap → Top topProg loose mean mg mb s.heap → (DatAt s.heap (.ref l) (dStrs xs)) → (xs.length ≤ 6) → (∀ x ∈ xs, x.length ≤ 20 ∧ ∀ c ∈ x.cps, Str.isSurrogate c = false) → (0 ≤ f ∧ f < 4) →
    Ends s Q (fun v h => DatNew s.heap h v (dBytes (toldL xs f))) →
    wpAny (model PySem.Challenge.rw_if0001_01.row.prog w) A (call (.ref 225) [.ref l, .int f t]) Q E s := by
  k_fill
  intro R X T h0 h1 h2 h3 ret
  with_reducible refine hideG ?_
  intro G0 hG0
  obtain ⟨hh, dp, fr, gd, un⟩ := A
  with_reducible refine hG0 ?_
  clear hG0 G0
  obtain ⟨hA, hdp, hun⟩ := R
  cases hA
  dsimp only at hdp hun
  refine' pcall (binds := [(Str.ofString "names", .ref l), (Str.ofString "form", .int f t)]) (by assumption) (by assumption) ?hd ?ho ?hcd ?hb ?hl ?hc ?h1 ?h2 ?h3 ?_
  (case ho => k_is)
  (case hcd => k_is)
  (case hd => ((try dsimp only); (try simp only [recursionLimit]); omega))
  (case hb => first | exact BindsTo.of_eq rfl | exact binds_K (by assumption) rfl (by k_is) rfl rfl rfl)
  (case hc => decide)
  (case hl => exact locs rfl)
  (case h1 => exact rfl)
  (case h2 => exact rfl)
  (case h3 => exact rfl)
  k_whole
  intro L' h' F' N'
  (try dsimp only)
  (try k_fold)
  with_reducible refine hideG ?_
  intro G0 hG0
  obtain ⟨ns, vs, hO, hA, hL⟩ := h0.list
  with_reducible refine hG0 ?_
  clear hG0 G0
  have hS := strs_of hA
  have hlen := hS.length
  have hl9 : (xs.map utf8L).length = xs.length := List.length_map ..
  k_steps
  refine Stop.mk ?_
  refine LCg.CompSrc.base (by rfl) (by assumption) (by assumption) hL (by rw [List.size_toArray]; exact Nat.le_trans (by omega : vs.length ≤ 100) (by rw [sizeLine_eq]; omega)) ?_
  intro g'
  refine comp_turns (σ := Unit) (fun _ => []) (fun i ys _ => BytesAre ys ((xs.take i).map utf8L)) ?turn ?fin _ 0 [] () (Nat.zero_add _) .nil
  case turn =>
    intro i ys _ v I oI C oC D m₂ h tk E' hi hP hv hC hx F N off ne
    simp only [List.getElem?_toArray] at hv
    obtain ⟨x, u, hx1, rfl⟩ := strs_get hS i v hv
    obtain ⟨hz, hsu⟩ := h2 x (List.mem_of_getElem? hx1)
    have hz' : x.length ≤ 100000 := by omega
    dsimp only at N off ⊢
    k_steps
    refine Stop.mk ?_
    refine LCg.CompEnd.intro (by assumption) N [] (fun p hp => hp) trivial (.inl hL) ⟨(), rfl, ?_⟩
    rw [List.take_add_one, hx1, List.map_append]
    exact bytes_snoc hP
  case fin =>
    intro ys _ hP
    rw [List.size_toArray, hlen, List.take_length] at hP
    intro D h tk F N off
    have N2 : News s.heap L' h [(D, listOf ys.toArray ys.length)] := N
    have hyl := hP.length
    have hfr : DatNew s.heap h (.ref D) (dBytes (xs.map utf8L)) := ⟨_, fun p hp => ⟨(N2 p hp).1, (N2 p hp).2.2⟩, .list (.head _) (bytes_dat hP)⟩
    have hz8 : ys.toArray.size ≤ sizeLine := by rw [List.size_toArray, hyl, hl9, sizeLine_eq]; omega
    have hrv : BytesAre ys.reverse (xs.map utf8L).reverse := bytes_rev hP
    clear N off hP hS hA hl9
    have hf : f = 0 ∨ f = 1 ∨ f = 2 ∨ f = 3 := by omega
    rcases hf with rfl | rfl | rfl | rfl
    case inl =>
      k_steps
      exact ret _ _ _ (Fr.keep F) (by rw [show toldL xs 0 = xs.map utf8L from rfl]; exact hfr)
    case inr.inl =>
      k_steps
      (with_reducible rename Fr _ _ _ _ => F9)
      (with_reducible rename News _ _ _ _ => N9)
      exact ret _ _ _ (Fr.keep F9) (dat_new N9 (.list (.head _) (bytes_dat hrv)))
    case inr.inr.inl =>
      k_steps
      exact ret _ _ _ (Fr.keep F) (by rw [show toldL xs 2 = xs.map utf8L from rfl]; exact hfr)
    case inr.inr.inr =>
      k_steps
      (with_reducible rename Fr _ _ _ _ => F9)
      (with_reducible rename News _ _ _ _ => N9)
      exact ret _ _ _ (Fr.keep F9) (dat_new N9 (.list (.head _) (bytes_dat hrv)))
end
theorem Cp_w2 : True := by
  k_with_none
  trivial
end Mine
end
theorem Mine.S7_w0 : True := by
  k_with_none
  trivial
section
open PySem PySem.W PySem.Calls PyProof.Rows
set_option maxRecDepth 100000
set_option maxHeartbeats 8000000
namespace Mine

open Builtin.Bytes
noncomputable def headB (f : Int) : Array UInt8 := if f = 0 then #[70, 76, 65, 71, 83, 32, 40] else if f = 1 then #[80, 69, 82, 77, 65, 78, 69, 78, 84, 70, 76, 65, 71, 83, 32, 40, 103, 32, 98, 41, 32, 70, 76, 65, 71, 83, 32, 40] else if f = 2 then #[70, 76, 65, 71, 83, 32, 40, 98, 32, 70, 76, 65, 71, 83, 32, 40] else #[79, 75, 32, 70, 76, 65, 71, 83, 32, 40, 41, 32, 40, 70, 76, 65, 71, 83, 32, 40]
noncomputable def blankB (f : Int) : Array UInt8 := if f = 0 then #[32] else if f = 1 then #[32, 32] else if f = 2 then #[9] else #[32, 11, 32]
noncomputable def answerL (bs : List (Array UInt8)) (x : Str) (f : Int) : Array UInt8 := headB f ++ joined (blankB f) bs ++ #[41] ++ behindL x
theorem fold_le {c : Nat} : ∀ (bs : List (Array UInt8)) (a : Nat), (∀ b ∈ bs, b.size ≤ c) → bs.foldl (· + ·.size) a ≤ a + c * bs.length := by
  intro z0
  induction z0 with
  | nil =>
    rintro a _
    simp
  | cons b r ih0 =>
    rintro a h
    have h1 := h b (List.mem_cons_self ..)
    have h2 := ih0 (a + b.size) fun x hx => h x (List.mem_cons_of_mem _ hx)
    rw [List.foldl_cons, List.length_cons, Nat.mul_succ]
    exact Nat.le_trans h2 (by rw [Nat.add_comm (c * _), ← Nat.add_assoc]; exact Nat.add_le_add_right (Nat.add_le_add_left h1 a) _)
theorem joined_le {sep : Array UInt8} {c : Nat} (bs : List (Array UInt8)) (h : ∀ b ∈ bs, b.size ≤ c) : (joined sep bs).size ≤ (sep.size + c) * bs.length := by
  unfold joined
  have key : ∀ (l : List (Array UInt8 × Nat)) (a : Array UInt8), (∀ p ∈ l, p.1.size ≤ c) → (l.foldl (fun out (p, i) => (if i > 0 then out ++ sep else out) ++ p) a).size ≤ a.size + (sep.size + c) * l.length := by
    intro l
    induction l with
    | nil => intro a _; simp
    | cons p r ih =>
      intro a hp
      have h1 := hp p (List.mem_cons_self ..)
      have h2 := ih ((if p.2 > 0 then a ++ sep else a) ++ p.1) fun q hq => hp q (List.mem_cons_of_mem _ hq)
      rw [List.foldl_cons, List.length_cons, Nat.mul_succ]
      have h3 : ((if p.2 > 0 then a ++ sep else a) ++ p.1).size ≤ a.size + sep.size + p.1.size := by
        rw [Array.size_append]
        split
        · rw [Array.size_append]; exact Nat.le_refl _
        · exact Nat.add_le_add_right (Nat.le_add_right _ _) _
      refine Nat.le_trans h2 ?_
      rw [Nat.add_comm ((sep.size + c) * _), ← Nat.add_assoc, ← Nat.add_assoc]
      exact Nat.add_le_add_right (Nat.le_trans h3 (Nat.add_le_add_left h1 _)) _
  have := key bs.zipIdx #[] fun p hp => h p.1 (List.fst_mem_of_mem_zipIdx hp)
  simpa using this
/-- the value known, the tokens forgotten -/
theorem val_mono {M : Model} {A : Around} {E Q : Value → Shared → Prop} {tree : Sem Value} {P : Value → Prop} {h : Heap} {G : Array GenState} {D : _} {k : Tok} {O : _} (a : wpAny M A tree (fun v s' => P v ∧ ∃ k', s' = ⟨h, G, D, k', O⟩) E ⟨h, G, D, k, O⟩) (q : ∀ v k', P v → Q v ⟨h, G, D, k', O⟩) : wpAny M A tree Q E ⟨h, G, D, k, O⟩ :=
  wpAny_mono a (fun v s' ⟨p, k', e⟩ => e ▸ q v k' p) fun _ _ e => e
theorem headB_size (f : Int) : (headB f).size ≤ 28 := by
  unfold headB
  by_cases h0 : f = 0
  · rw [if_pos h0]; decide
  by_cases h1 : f = 1
  · rw [if_neg h0, if_pos h1]; decide
  by_cases h2 : f = 2
  · rw [if_neg h0, if_neg h1, if_pos h2]; decide
  · rw [if_neg h0, if_neg h1, if_neg h2]; decide
theorem blankB_size (f : Int) : (blankB f).size ≤ 3 := by
  unfold blankB
  by_cases h0 : f = 0
  · rw [if_pos h0]; decide
  by_cases h1 : f = 1
  · rw [if_neg h0, if_pos h1]; decide
  by_cases h2 : f = 2
  · rw [if_neg h0, if_neg h1, if_pos h2]; decide
  · rw [if_neg h0, if_neg h1, if_neg h2]; decide
noncomputable def SubMark : Prop := True
section
theorem S7_w1 : True := by
  k_with_none
  k_with "binaryOp Add bytes bytes" => (((refine addb ?hz9 ?_); (case hz9 => ((try simp only [Array.size_append, List.size_toArray, List.length_cons, List.length_nil]); omega)); intro t9 k9))
  k_with "subscriptTail" => ((with_reducible rename SubMark => sm9); (with_reducible refine Stop.out ?_))
  k_with "getMethod bytes" => ((refine join_m ?_))
  k_with "call builtin:bytes.join" => ((with_reducible refine Stop.out ?_))
  k_with "call ref" => ((with_reducible refine Stop.out ?_))
  k_with "Halt" => ((with_reducible refine Stop.out ?_))
  k_with "execs cons" => (k_here; first | with_reducible refine th_one ?_ | with_reducible refine th_cons ?_)
  k_with "Th" => (first | ((with_reducible refine' th_next (s₀ := s) ?F ?_ ?e); (case F => assumption); (case e => with_reducible rfl); (try clear tk9); intro tk9) | with_reducible refine th_ret ?_)
  trivial
theorem answer_spec (w : World) (loose : List Str) (mean : ExcName → Option Value) (mg mb : Str → Option Value) (A : Around) (s : Shared) (Q E : Value → Shared → Prop) (l : Addr) (bs : List (Array UInt8)) (x : Str) (u : Tok) (f : Int) (t : Tok) :
    Room 10 80 A → (Mine.hd0.heap_1_1 w.params).In s.heap → Top topProg loose mean mg mb s.heap → (DatAt s.heap (.ref l) (dBytes bs)) → (bs.length ≤ 6) → (∀ b ∈ bs, b.size ≤ 100) → (x.length ≤ 20) → (∀ c ∈ x.cps, Str.isSurrogate c = false) → (0 ≤ f ∧ f < 4) →
    Ends s Q (fun v h => ∃ t, v = .bytes (answerL bs x f) t) →
    wpAny (model PySem.Challenge.rw_if0001_01.row.prog w) A (call (.ref 239) [.ref l, .str x u, .int f t]) Q E s := by
  k_fill
  intro R X T h0 h1 h2 h3 h4 h5 ret
  obtain ⟨hh, dp, fr, gd, un⟩ := A
  obtain ⟨hA, hdp, hun⟩ := R
  cases hA
  dsimp only at hdp hun
  refine' pcall (binds := [(Str.ofString "told", .ref l), (Str.ofString "text", .str x u), (Str.ofString "form", .int f t)]) (by assumption) (by assumption) ?hd ?ho ?hcd ?hb ?hl ?hc ?h1 ?h2 ?h3 ?_
  (case ho => k_is)
  (case hcd => k_is)
  (case hd => ((try dsimp only); (try simp only [recursionLimit]); omega))
  (case hb => first | exact BindsTo.of_eq rfl | exact binds_K (by assumption) rfl (by k_is) rfl rfl rfl)
  (case hc => decide)
  (case hl => exact locs rfl)
  (case h1 => exact rfl)
  (case h2 => exact rfl)
  (case h3 => exact rfl)
  k_whole
  intro L' h' F' N'
  (try dsimp only)
  (try k_fold)
  refine (let ev : Env := _; (?_ : wpAny _ _ (execs _ ev) _ _ _))
  with_reducible refine hide1 ?_; intro QF hQF
  obtain ⟨ns, vs, hO, hA, hL⟩ := h0.list
  have hS := bytes_of hA
  have hlen := hS.length
  have hf : f = 0 ∨ f = 1 ∨ f = 2 ∨ f = 3 := by omega
  clear hA hO h0
  have hbz := blankB_size f
  have hhz := headB_size f
  have hj : (joined (blankB f) bs).size ≤ 1000 := Nat.le_trans (joined_le (sep := blankB f) bs h2) (by
    exact Nat.le_trans (Nat.mul_le_mul (Nat.add_le_add_right hbz 100) h1) (by decide))
  have hj2 : bs.foldl (· + ·.size) ((blankB f).size * (bs.length - 1)) ≤ 1000 := Nat.le_trans (fold_le bs ((blankB f).size * (bs.length - 1)) h2) (by
    exact Nat.le_trans (Nat.add_le_add (Nat.mul_le_mul hbz (Nat.sub_le_sub_right h1 1)) (Nat.mul_le_mul_left 100 h1)) (by decide))
  have hz := utf8L_size x
  have hb1 : (behindL x).size ≤ 100 := by (show (bHead ++ utf8L x ++ bTail).size ≤ 100); simp only [Array.size_append, show bHead.size = 11 from rfl, show bTail.size = 5 from rfl]; omega
  clear hlen
  have sm : SubMark := True.intro
  k_steps
  refine Stop.mk ?_
  refine val_mono (P := fun v => ∃ t, v = .bytes (headB f) t) ?c1 (fun v k1 hv => ?_)
  case c1 =>
    clear sm9
    rcases hf with rfl | rfl | rfl | rfl
    all_goals k_steps
  obtain ⟨t1, rfl⟩ := hv
  k_steps
  refine Stop.mk ?_
  refine val_mono (P := fun v => ∃ t, v = .bytes (blankB f) t) ?c2 (fun v k1 hv => ?_)
  case c2 =>
    clear sm9
    rcases hf with rfl | rfl | rfl | rfl
    all_goals k_steps
  obtain ⟨t2, rfl⟩ := hv
  k_steps
  refine Stop.mk ?_
  (with_reducible rename Fr _ _ _ _ => F1)
  refine join__ (hL.at fun o e => F1.keep l o e) hS (by omega) (by omega) fun t7 k7 => ?_
  k_steps
  refine Stop.mk ?_
  (with_reducible rename Fr _ _ _ _ => F2)
  refine' behind_spec w loose mean mg mb _ _ _ _ x u ?R9 ?X9 ?T9 h3 h4 ?_
  case R9 => exact ⟨rfl, Nat.lt_of_le_of_lt (by show dp + 1 + 5 ≤ dp + 10; omega) hdp, Nat.lt_of_le_of_lt (by show un + _ + 40 ≤ un + 80; omega) hun⟩
  case X9 => exact X.keeps F2.keep
  case T9 => exact T.keeps F2.keep
  rintro _ h8 tk8 hk ⟨t8, rfl⟩
  k_steps
  (try refine Stop.mk ?_)
  exact hQF _ _ (ret _ _ _ (fun b o e => hk _ _ (F2.keep b o e)) ⟨_, rfl⟩)
end
theorem S7t_w2 : True := by
  k_with_none
  trivial
end Mine
end
theorem Mine.Tu_w0 : True := by
  k_with_none
  trivial
section
open PySem PySem.W PySem.Calls PyProof.Rows
set_option maxRecDepth 100000
set_option maxHeartbeats 8000000
namespace Mine
section
variable {σ : Type} {prog : Program} {w : World} {A : Around} {E : Value → Shared → Prop} {s : Shared} {env : Env} {h₀ : Heap} {target : Expr} {body : List Stmt} {Q : Flow → Shared → Prop}
theorem items_turns {ws : List (Addr × String)} {keep : Led} {xs : List Itm} (L : σ → Led) (ps : σ → List (Str × Value)) (P : Nat → σ → Prop) (hk : ∀ c, SubL keep (L c))
    (turn : ∀ (i : Nat) (a : Itm) (v : Value) (c : σ) (u : Str → Option Value) h tk its, xs[i]? = some a → a.Is v h → P i c → Objs ws its → Fr h₀ env.locals h (kstB u (ps c)) → News h₀ env.locals h (its ++ L c) →
      wpAny (model prog w) A (assign target env v) (fun _ s₂ => wpAny (model prog w) A (execs body env) (UnrPostW h₀ env.locals { s with heap := h, toks := tk } its (fun m' n' => ∃ c', n' = L c' ∧ (∀ p ∈ ps c', m' p.1 = some p.2) ∧ P (i + 1) c') Q) E s₂) E { s with heap := h, toks := tk })
    (done : ∀ (c : σ) (u : Str → Option Value) h tk, P xs.length c → Fr h₀ env.locals h (kstB u (ps c)) → News h₀ env.locals h (L c) → Q .next { s with heap := h, toks := tk }) :
    ∀ (k i : Nat) (c : σ) (m : Str → Option Value), i + k = xs.length → P i c → (∀ p ∈ ps c, m p.1 = some p.2) → ItemsRest prog w A E h₀ env target body Q s ws keep (xs.drop i) m (L c) := by
  intro z0
  induction z0 with
  | zero =>
    rintro i c m e hp hm
    obtain rfl : i = xs.length := by omega
    rw [List.drop_length]
    intro h tk F N
    exact done c m h tk hp (fr_B F hm) N
  | succ k ih0 =>
    rintro i c m e hp hm
    have hi : i < xs.length := by omega
    rw [List.drop_eq_getElem_cons hi]
    intro v h tk hv F
    have all : ∀ its, Objs ws its → News h₀ env.locals h (its ++ L c) →
        wpAny (model prog w) A (assign target env v) (fun _ s₂ => wpAny (model prog w) A (execs body env) (UnrPostW h₀ env.locals { s with heap := h, toks := tk } its (fun m' n' => SubL keep n' ∧ ItemsRest prog w A E h₀ env target body Q s ws keep (xs.drop (i + 1)) m' n') Q) E s₂) E { s with heap := h, toks := tk } := by
      intro its hits N
      refine wpAny_mono (turn i _ v c m h tk its (List.getElem?_eq_getElem hi) hv hp hits (fr_B F hm) N) (fun _ s₂ h₂ => wpAny_mono h₂ (fun f s₃ p => ?_) fun _ _ e => e) fun _ _ e => e
      have up : ∀ {s₃}, UnrEndW h₀ env.locals { s with heap := h, toks := tk } its (fun m' n' => ∃ c', n' = L c' ∧ (∀ p ∈ ps c', m' p.1 = some p.2) ∧ P (i + 1) c') s₃ →
          UnrEndW h₀ env.locals { s with heap := h, toks := tk } its (fun m' n' => SubL keep n' ∧ ItemsRest prog w A E h₀ env target body Q s ws keep (xs.drop (i + 1)) m' n') s₃ := by
        intro s₃ zz1
        with_reducible refine hideG ?_
        intro G0 hG0
        obtain ⟨h', tk', m', news', e', F', N', off', c', rfl, hm', hp'⟩ := zz1
        with_reducible refine hG0 ?_
        clear hG0 G0
        exact ⟨h', tk', m', _, e', F', N', off', hk c', ih0 (i + 1) c' m' (by omega) hp' hm'⟩
      cases f with
      | ret v => exact p
      | brk => exact p
      | next => exact up p
      | cont => exact up p
    clear hv turn done hp hm hi e hk
    have go : ∀ (ws : List (Addr × String)) (K : Led → Prop), (∀ its, Objs ws its → K its) → AllObj ws K := by
      intro ws
      induction ws with
      | nil => intro K h; exact h [] trivial
      | cons x r ih => intro K h o ho; exact ih _ fun its hits => h _ ⟨⟨rfl, ho⟩, hits⟩
    exact go ws _ all
theorem objs2 {a b : Addr} {x y : String} {its : Led} (h : Objs [(a, x), (b, y)] its) : ∃ po qo, its = [(a, po), (b, qo)] ∧ po.cls = .type x ∧ qo.cls = .type y := by
  cases its with
  | nil => exact h.elim
  | cons p r =>
    obtain ⟨⟨h1, h2⟩, h⟩ := h
    cases r with
    | nil => exact h.elim
    | cons q r =>
      obtain ⟨⟨h3, h4⟩, h⟩ := h
      cases r with
      | cons _ _ => exact h.elim
      | nil =>
        obtain ⟨pa, po⟩ := p
        obtain ⟨qa, qo⟩ := q
        dsimp only at h1 h2 h3 h4
        subst h1 h3
        exact ⟨po, qo, rfl, h2, h4⟩
/-- for k, x in enumerate(list of the ledger) -/
theorem turns_enum {elts : List Expr} {k : Nat} {pos : Pos} {l : Addr} {vs : List Value} {n : Nat} {m₀ : Str → Option Value} {news : Led} (L : σ → Led) (ps : σ → List (Str × Value)) (P : Nat → σ → Prop) (c₀ : σ)
    (hh : A.handled = none) (hl : ∀ c, (l, listOf vs.toArray n) ∈ L c) (F : Fr h₀ env.locals s.heap m₀) (N : News h₀ env.locals s.heap news) (hn : ∀ p ∈ L c₀, p ∈ news) (hk : ∀ p ∈ ps c₀, m₀ p.1 = some p.2) (hp : P 0 c₀)
    (turn : ∀ (i : Nat) (x : Value) (T : Addr) (t : Tok) (c : σ) (u : Str → Option Value) h tk I oe oi, vs[i]? = some x → IsTup h T #[.int (i : Int) t, x] → P i c → Fr h₀ env.locals h (kstB u (ps c)) → News h₀ env.locals h ((I + 1, oe) :: (I, oi) :: L c) →
      (∀ p ∈ L c₀, p.1 < I) → oe.cls = .type "enumerate" → oi.cls = .type "list_iterator" →
      wpAny (model prog w) A (assign (.Tuple elts k pos) env (.ref T)) (fun _ s₂ => wpAny (model prog w) A (execs body env) (UnrPostW h₀ env.locals { s with heap := h, toks := tk } [(I + 1, oe), (I, oi)] (fun m' n' => ∃ c', n' = L c' ∧ (∀ p ∈ ps c', m' p.1 = some p.2) ∧ P (i + 1) c') Q) E s₂) E { s with heap := h, toks := tk })
    (done : ∀ (c : σ) (u : Str → Option Value) h tk, P vs.length c → Fr h₀ env.locals h (kstB u (ps c)) → News h₀ env.locals h (L c) → Q .next { s with heap := h, toks := tk }) :
    wpAny (model prog w) A (call (.type "enumerate") [.ref l]) (fun xv s₁ => wpAny (model prog w) A (pyIter xv) (fun it s₂ => TurnsAt prog w A h₀ env (.Tuple elts k pos) body Q E it s₂) E s₁) E s := by
  refine ktu_enum (news := L c₀) hh F (fun p hp => N p (hn p hp)) (hl c₀) rfl rfl rfl fun I hI => ?_
  have z := items_turns (prog := prog) (w := w) (A := A) (E := E) (s := s) (env := env) (h₀ := h₀) (target := .Tuple elts k pos) (body := body) (Q := Q) (ws := [(I + 1, "enumerate"), (I, "list_iterator")]) (keep := [(l, listOf vs.toArray n)]) (xs := enumItems 0 vs) L ps P (fun c => And.intro (hl c) trivial) ?_ ?_ (enumItems 0 vs).length 0 c₀ m₀ (Nat.zero_add _) hp hk
  · rw [List.drop_zero] at z; exact z
  · intro i a v c u h tk its hx ha hP hits F' N'
    have hi : i < (enumItems 0 vs).length := (List.getElem?_eq_some_iff.mp hx).1
    rw [enumItems_length] at hi
    have hv : vs[i]? = some vs[i] := List.getElem?_eq_getElem hi
    have e := enumItems_get vs 0 i hv
    rw [hx] at e
    cases e
    obtain ⟨T, t, rfl, hT⟩ := ha
    rw [Nat.zero_add] at hT
    with_reducible refine hideG ?_
    intro G0 hG0
    obtain ⟨po, qo, rfl, h2, h4⟩ := objs2 hits
    with_reducible refine hG0 ?_
    clear hG0 G0
    exact turn i _ T t c u h tk I po qo hv hT hP F' N' hI h2 h4
  · rw [enumItems_length]
    exact done
/-- over a list that stands below, any target -/
theorem turns_B {l : Addr} {vs : List Value} {m₀ : Str → Option Value} {news : Led} (L : σ → Led) (ps : σ → List (Str × Value)) (P : Nat → σ → Prop) (c₀ : σ)
    (hh : A.handled = none) (hl : h₀.IsList l vs.toArray) (F : Fr h₀ env.locals s.heap m₀) (N : News h₀ env.locals s.heap news) (hn : ∀ p ∈ L c₀, p ∈ news) (hk : ∀ p ∈ ps c₀, m₀ p.1 = some p.2) (hp : P 0 c₀)
    (turn : ∀ (i : Nat) (v : Value) (c : σ) (u : Str → Option Value) h tk own, vs[i]? = some v → P i c → OwnOff own ((L c).map (·.1)) →
      Fr h₀ env.locals h (kstB u (ps c)) → News h₀ env.locals h (L c ++ own) →
      wpAny (model prog w) A (assign target env v) (fun _ s₂ => wpAny (model prog w) A (execs body env) (InvPostG h₀ env.locals (JS L ps P (i + 1)) own { s with heap := h, toks := tk } Q) E s₂) E { s with heap := h, toks := tk })
    (done : ∀ (c : σ) (u : Str → Option Value) h tk, P vs.length c → Fr h₀ env.locals h (kstB u (ps c)) → News h₀ env.locals h (L c) → Q .next { s with heap := h, toks := tk }) :
    wpAny (model prog w) A (pyIter (.ref l)) (fun it s₂ => TurnsAt prog w A h₀ env target body Q E it s₂) E s := by
  have hls : s.heap.IsList l vs.toArray := hl.at fun o e => F.keep l o e
  obtain ⟨ol, hol, _⟩ := id hl
  have hlt : l < h₀.objs.size := Heap.lt_size hol
  have hne : l ≠ s.heap.objs.size := Nat.ne_of_lt (Nat.lt_trans (Nat.lt_of_lt_of_le hlt F.above) F.ns.lt)
  refine wpAny_pyIter_list hls ?_
  have W := KTurns.ofWalks (target := target) (Walks.list (prog := prog) (w := w) hh s.heap.objs.size l hne vs.toArray) fun i v s Q E st q => letGo_listiter st.1 q
  have hlen : vs.toArray.size = vs.length := by simp
  rw [hlen] at W
  have N0 : News h₀ env.locals s.heap (L c₀) := fun p hp => N p (hn p hp)
  refine ⟨_, _, _, vs.length, _, _, _, m₀, L c₀, (fun i m nx => JS L ps P i m nx), rfl, W, ?_, ?_, ?_, ⟨⟨_, Heap.get?_push_size _ rfl, rfl, rfl⟩, hls.at fun o e => Heap.get?_push_of_some _ e⟩, F.push _, (fun p hp => ⟨Heap.get?_push_of_some _ (N0 p hp).1, (N0 p hp).2⟩), ⟨c₀, rfl, hk, hp⟩, ?_, ?_⟩
  · intro hm
    rcases List.mem_cons.mp hm with e | hm
    · exact absurd F.ns.lt (e ▸ Nat.lt_irrefl _)
    · exact absurd (Nat.lt_of_lt_of_le hlt F.above) ((List.mem_singleton.mp hm) ▸ Nat.lt_irrefl _)
  · intro b hb
    rw [List.mem_singleton.mp hb]
    exact next_is_new F
  · intro p hp hI
    exact absurd (Heap.lt_size (N0 p hp).1) ((List.mem_singleton.mp hI) ▸ Nat.lt_irrefl _)
  · rintro i v m₁ news₁ hh' tk' own hin hP ⟨c, rfl, h1, hp'⟩ hoff hown _ hfp hst F₁ N₁
    have hI0 : h₀.get? s.heap.objs.size = none := next_is_new F
    obtain ⟨⟨oI, hoI, _⟩, _⟩ := id hst
    have hIown : (s.heap.objs.size, oI) ∈ own := hfp _ (List.mem_cons.mpr (.inl rfl)) hI0 _ hoI
    have hsep : OwnOff own ((L c).map (·.1)) := by
      intro p hp b hb e
      obtain ⟨q, hq, rfl⟩ := List.mem_map.mp hb
      rcases List.mem_cons.mp (hown p hp) with h1 | h1
      · exact hoff q hq (List.mem_singleton.mpr (e ▸ h1))
      · have h2 := List.mem_singleton.mp h1
        have h3 := (N₁ q (List.mem_append.mpr (.inr hq))).2.2
        rw [← e, h2, hol] at h3
        cases h3
    have hP' : vs[i]? = some v := by simpa using hP
    have N₂ : News h₀ env.locals hh' (L c ++ own) := fun p hp => N₁ p ((List.mem_append.mp hp).elim (fun h => List.mem_append.mpr (.inr h)) fun h => List.mem_append.mpr (.inl h))
    refine wpAny_mono (turn i v c m₁ hh' tk' own hP' hp' hsep (fr_B F₁ h1) N₂) (fun _ s₂ h₂ => wpAny_mono h₂ (fun f s₃ p => ?_) fun _ _ e => e) fun _ _ e => e
    cases f with
    | ret v => exact .ret p
    | brk => exact .brk p
    | next => exact .next (inv_step hIown p)
    | cont => exact .cont (inv_step hIown p)
  · rintro h' tk m' news' F' N' _ ⟨c, rfl, h1, hp'⟩
    exact done c m' h' tk hp' (fr_B F' h1) N'
end
end Mine
end
section
open PySem PySem.W PySem.Calls PyProof.Rows
set_option maxRecDepth 100000
set_option maxHeartbeats 8000000
namespace Mine

section
variable {prog : Program} {w : World} {A : Around} {E : Value → Shared → Prop} {s : Shared} {h₀ : Heap} {L D l : Addr} {m : Str → Option Value} {news news' : List (Addr × Obj)} {vs : List Value} {ns : List Int} {n : Nat} {k x : Int} {t u : Tok} {value slice : Expr}
/-- xs[:k] -/
theorem sl_uptoB {Q : Value → Shared → Prop} (F : Fr h₀ L s.heap m) (N : News h₀ L s.heap news) (hl : s.heap.IsList l vs.toArray) (hk : 0 ≤ k) (hz : vs.length ≤ 1000)
    (h : ∀ D h', Fr h₀ L h' m → News h₀ L h' ((D, listOf (vs.take k.toNat).toArray 0) :: news) → (∀ p ∈ news, p.1 < D) → Q (.ref D) { s with heap := h' })
    (hs : subscripted slice false (.ref l) (.ref s.heap.objs.size) = operate [.ref s.heap.objs.size, .ref l] (getItem (.ref l) (.ref s.heap.objs.size))) (ht : ∀ r, letTemporaryGo value (.ref l) r = pure ()) :
    wpAny (model prog w) A (subscriptTail value slice (.ref l) (.ref s.heap.objs.size)) Q E { s with heap := s.heap.push { cls := .type "slice", data := .fields #[.none, .int k u, .none] } } := by
  refine kmk_slice F N hl .none (.int k u) (fun D h' F' N' l1 => h D h' F' ?_ l1) hs ht (by rw [List.size_toArray]; exact Nat.le_trans hz (show 1000 ≤ 16777216 by decide))
  rw [pick_upto hk] at N'
  exact N'
/-- xs[k] = x, the rest of the ledger apart -/
theorem set_any {Q : Unit → Shared → Prop} (rest : List (Addr × Obj)) (F : Fr h₀ L s.heap m) (N : News h₀ L s.heap news) (hm : (D, listOf vs.toArray n) ∈ news) (hsub : ∀ p ∈ rest, p ∈ news) (hne : ∀ p ∈ rest, p.1 ≠ D) (hi : IntsAre vs ns) (h0 : 0 ≤ k) (h1 : k < ns.length) (hfit : k < 2 ^ 63)
    (h : ∀ h' v2 i2, Fr h₀ L h' m → News h₀ L h' ((D, listOf (List.toArray v2) n) :: rest) → IntsAre v2 i2 → i2 = ns.set k.toNat x → Q () { s with heap := h' }) :
    wpAny (model prog w) A (setItem (.ref D) (.int k t) (.int x u)) Q E s := by
  have N1 : News h₀ L s.heap ((D, listOf vs.toArray n) :: rest) := fun p hp => by
    rcases List.mem_cons.mp hp with rfl | hp
    · exact N _ hm
    · exact N _ (hsub p hp)
  exact ksa_set F N1 (.head hne) hi h0 h1 hfit fun h' F' N' hi' _ _ => h h' _ _ F' N' hi' rfl
end
noncomputable def IfMark : Prop := True
section
theorem S8_w1 : True := by
  k_with_none
  k_with "exec For Tuple Call cons nil" => ((k_here; (with_reducible rename Fr _ _ _ _ => lF'); (with_unfolding_all refine' For_turns lF' ?_)))
  k_with "call type:enumerate" => ((with_reducible refine Stop.out ?_))
  k_with "UnrEndW" => ((with_reducible refine Stop.out ?_))
  k_with "exec If" => ((with_reducible rename IfMark => sm9); (with_reducible refine Stop.out ?_))
  k_with "CompSrc" => ((with_reducible refine Stop.out ?_))
  k_with "FinE" => ((with_reducible refine Stop.out ?_))
  k_with "CompEnd" => ((with_reducible refine Stop.out ?_))
  k_with "call builtin:len" => ((with_reducible refine Stop.out ?_))
  k_with "setItem" => ((with_reducible refine Stop.out ?_))
  k_with "getItem" => ((with_reducible refine Stop.out ?_))
  k_with "subscriptTail Name Slice" => ((with_reducible refine Stop.out ?_))
  k_with "subscriptTail Name Slice ref ref" => ((with_reducible refine Stop.out ?_))
  k_with "Halt" => ((with_reducible refine Stop.out ?_))
  k_with "execs cons" => (k_here; first | with_reducible refine th_one ?_ | with_reducible refine th_cons ?_)
  k_with "Th" => (first | ((with_reducible refine' th_next (s₀ := s) ?F ?_ ?e); (case F => assumption); (case e => with_reducible rfl); (try clear tk9); intro tk9) | with_reducible refine th_ret ?_)
  trivial
theorem cells_spec (w : World) (loose : List Str) (mean : ExcName → Option Value) (mg mb : Str → Option Value) (A : Around) (s : Shared) (Q E : Value → Shared → Prop) (l : Addr) (vs : List Value) (ns : List Int) :
    Room 10 80 A → (Mine.hd0.heap_1_1 w.params).In s.heap → Top topProg loose mean mg mb s.heap → (s.heap.IsList l vs.toArray) → (IntsAre vs ns) → (vs.length ≤ 1000) →
    Ends s Q (fun v h => ∃ cs : List Int, (cs.length = 5 ∨ cs.length = 6) ∧ (∀ c ∈ cs, 0 ≤ c ∧ c < 1000000) ∧ DatNew s.heap h v (dInts cs)) →
    wpAny (model PySem.Challenge.rw_if0001_01.row.prog w) A (call (.ref 192) [.ref l]) Q E s := by
  k_fill
  intro R X T h0 h1 h2 ret
  with_reducible refine hideG ?_
  intro G0 hG0
  obtain ⟨hh, dp, fr, gd, un⟩ := A
  with_reducible refine hG0 ?_
  clear hG0 G0
  obtain ⟨hA, hdp, hun⟩ := R
  cases hA
  dsimp only at hdp hun
  refine' pcall (binds := [(Str.ofString "script", .ref l)]) (by assumption) (by assumption) ?hd ?ho ?hcd ?hb ?hl ?hc ?h1 ?h2 ?h3 ?_
  (case ho => k_is)
  (case hcd => k_is)
  (case hd => ((try dsimp only); (try simp only [recursionLimit]); omega))
  (case hb => first | exact BindsTo.of_eq rfl | exact binds_K (by assumption) rfl (by k_is) rfl rfl rfl)
  (case hc => decide)
  (case hl => exact locs rfl)
  (case h1 => exact rfl)
  (case h2 => exact rfl)
  (case h3 => exact rfl)
  k_whole
  intro L' h' F' N'
  (try dsimp only)
  (try k_fold)
  refine (let ev : Env := _; let ae : Around := _; (?_ : wpAny _ ae (execs _ ev) _ _ _))
  with_reducible refine hide1 ?_; intro QF hQF
  have sm : IfMark := True.intro
  k_steps
  refine Stop.mk ?_
  (with_reducible rename Fr _ _ _ _ => F1)
  (with_reducible rename IfMark => sm9)
  clear sm9
  have hvn := h1.length
  have hsz : (vs.toArray.size : Int) = (vs.length : Int) := by simp
  refine wpAny_mono (Q := Halt fun f s' => f = .next ∧ ∃ (lC : Addr) (cv : List Value) (ep : Nat) (ci : List Int) (h2 : Heap) (k2 : Tok), s' = ⟨h2, s.gens, s.drawn, k2, s.os⟩ ∧ (ci.length = 5 ∨ ci.length = 6) ∧ IntsAre cv ci ∧ Fr s.heap L' h2 (fun y => if y = Str.ofString "cells" then some (Value.ref lC) else List.lookup y [(Str.ofString "script", Value.ref l)].reverse) ∧ News s.heap L' h2 [(lC, listOf cv.toArray ep)]) ?ifp ?rest (fun _ _ e => e)
  case ifp =>
    k_steps
    refine Stop.mk ?_
    refine Calls.call_len_list (h0.at fun o e => F1.keep l o e) (by rw [List.size_toArray]; omega) ?_
    rw [hsz]
    by_cases hb : 1 < vs.length
    all_goals k_steps
    all_goals (with_reducible rename Fr _ _ _ _ => F3)
    all_goals (with_reducible rename News _ _ _ _ => N3)
    all_goals (try simp only [List.push_toArray, List.cons_append, List.nil_append] at N3)
    all_goals refine Stop.mk ?_
    all_goals unfold Halt
    all_goals (first | exact ⟨rfl, _, _, _, [1500, 10800, 20341, 12241, 29220, 22680], _, _, rfl, .inr rfl, .cons _ _ (.cons _ _ (.cons _ _ (.cons _ _ (.cons _ _ (.cons _ _ .nil))))), F3, N3⟩ | exact ⟨rfl, _, _, _, [1500, 10800, 20341, 12241, 29220], _, _, rfl, .inl rfl, .cons _ _ (.cons _ _ (.cons _ _ (.cons _ _ (.cons _ _ .nil)))), F3, N3⟩)
  clear F1
  (with_reducible rename News _ _ _ _ => N1)
  clear N1
  rintro _ _ ⟨rfl, lC, cv, ep, ci, hh0, k2, rfl, hcl, hcv, F2, N2⟩
  k_steps
  refine Stop.mk ?_
  (with_reducible rename Fr _ _ _ _ => F2)
  (with_reducible rename News _ _ _ _ => N2)
  refine sl_uptoB (s := ⟨_, _, _, _, _⟩) F2 N2 (h0.at fun o e => F2.keep l o e) (by decide) h2 (fun D1 hh1 F4 N4 l3 => ?_) (by with_unfolding_all rfl) (by intro _; with_unfolding_all rfl)
  have hlD : lC < D1 := l3 _ (.head _)
  clear F2 N2 l3
  k_steps
  refine Stop.mk ?_
  have hx5 : ci.length ≤ 6 ∧ 5 ≤ ci.length := by rcases hcl with q | q <;> rw [q] <;> decide
  refine turns_enum (σ := List Value × Nat × List Int) (fun c => [(D1, listOf (vs.take 60).toArray 0), (lC, listOf c.1.toArray c.2.1)]) (fun _ => [(Str.ofString "cells", .ref lC)])
    (fun i c => IntsAre c.1 c.2.2 ∧ (c.2.2.length = 5 ∨ c.2.2.length = 6)) (cv, ep, ci) rfl (fun _ => .head _) F4 N4 ?hn ?hk ?hp ?turn ?done
  case hn => intro p hp; exact hp
  case hk => intro p hp; rw [List.mem_singleton.mp hp]; rfl
  case hp => exact ⟨hcv, hcl⟩
  case turn =>
    intro i x TT tt zz4 u h tk I oe oi hx hT zz13 F N hI hoe hoi
    (first | with_reducible refine hide2 ?_ | with_reducible refine hide1 ?_); intro QT hQT
    with_reducible refine hideG ?_
    intro G0 hG0
    obtain ⟨v1, e1, i1⟩ := zz4
    obtain ⟨p1, p2⟩ := zz13
    with_reducible refine hG0 ?_
    clear hG0 G0
    dsimp only at p1 p2 F N
    obtain ⟨y, ty, hy, rfl⟩ : ∃ y ty, (ns.take 60)[i]? = some y ∧ x = .int y ty := by
      have hI := (h1.take 60)
      have hi : i < (ns.take 60).length := by
        have h9 := (List.getElem?_eq_some_iff.mp hx).1
        rw [hI.length] at h9; exact h9
      obtain ⟨t9, h9⟩ := hI.get i _ (List.getElem?_eq_getElem hi)
      rw [hx] at h9
      exact ⟨_, t9, List.getElem?_eq_getElem hi, Option.some.inj h9⟩
    k_steps
    refine Stop.mk ?_
    (with_reducible rename News _ _ _ _ => N6)
    refine Calls.call_len_list (isList_N (s := ⟨_, _, _, _, _⟩) N6 (.tail _ (.tail _ (.tail _ (.head _))))) (by rw [List.size_toArray, p1.length]; omega) ?_
    have hl1 : v1.toArray.size = i1.length := by rw [List.size_toArray, p1.length]
    rw [hl1]
    have hm0 : (0 : Int) < (i1.length : Int) := by rcases p2 with q | q <;> rw [q] <;> decide
    have hm1 : 0 ≤ Int.fmod ((i : Int) + 2) (i1.length : Int) := Int.fmod_nonneg_of_pos _ hm0
    have hm2 : Int.fmod ((i : Int) + 2) (i1.length : Int) < (i1.length : Int) := Int.fmod_lt_of_pos _ hm0
    have hm3 : (i1.length : Int) ≠ 0 := Int.ne_of_gt hm0
    k_steps
    refine Stop.mk ?_
    (with_reducible rename Fr _ _ _ _ => F7)
    (with_reducible rename News _ _ _ _ => N7)
    have hlI : lC < I := hI _ (.tail _ (.head _))
    have hDI : D1 < I := hI _ (.head _)
    refine set_any (s := ⟨_, _, _, _, _⟩) [(I + 1, oe), (I, oi), (D1, listOf (vs.take 60).toArray 0)] F7 N7 (.tail _ (.tail _ (.tail _ (.head _)))) ?hs ?hne p1 hm1 hm2 (Int.lt_trans hm2 (by rcases p2 with q | q <;> rw [q] <;> decide)) (fun hh8 v2 i2 F8 N8 p8 q8 => ?_)
    case hs =>
      intro p hp
      rcases List.mem_cons.mp hp with rfl | hp
      · exact .head _
      · rcases List.mem_cons.mp hp with rfl | hp
        · exact .tail _ (.head _)
        · rw [List.mem_singleton.mp hp]; exact .tail _ (.tail _ (.head _))
    case hne =>
      intro p hp
      rcases List.mem_cons.mp hp with rfl | hp
      · exact Nat.ne_of_gt (Nat.lt_succ_of_lt hlI)
      · rcases List.mem_cons.mp hp with rfl | hp
        · exact Nat.ne_of_gt hlI
        · rw [List.mem_singleton.mp hp]; exact Nat.ne_of_gt hlD
    have q9 : i2.length = i1.length := by rw [q8, List.length_set]
    clear q8
    k_steps
    refine Stop.mk ?_
    (with_reducible rename Fr _ _ _ _ => F9)
    (with_reducible rename News _ _ _ _ => N9)
    refine hQT _ _ ?_
    refine ⟨_, _, _, [(D1, listOf (vs.take 60).toArray 0), (lC, listOf v2.toArray e1)], rfl, F9, ?hN, ?hoff, (v2, e1, i2), rfl, ?hps, p8, by dsimp only; rw [q9]; exact p2⟩
    case hN =>
      intro p hp
      rcases List.mem_cons.mp hp with rfl | hp
      · exact N9 _ (.tail _ (.head _))
      rcases List.mem_cons.mp hp with rfl | hp
      · exact N9 _ (.tail _ (.tail _ (.head _)))
      rcases List.mem_cons.mp hp with rfl | hp
      · exact N9 _ (.tail _ (.tail _ (.tail _ (.head _))))
      rw [List.mem_singleton.mp hp]
      exact N9 _ (.head _)
    case hoff =>
      intro p hp q hq
      have h7 : p.1 < I := by
        rcases List.mem_cons.mp hp with rfl | hp
        · exact hDI
        · rw [List.mem_singleton.mp hp]; exact hlI
      rcases List.mem_cons.mp hq with rfl | hq
      · exact Nat.ne_of_lt (Nat.lt_succ_of_lt h7)
      · rw [List.mem_singleton.mp hq]; exact Nat.ne_of_lt h7
    case hps => intro p hp; rw [List.mem_singleton.mp hp]; rfl
  case done =>
    intro zz0 u h tk zz4 F N
    with_reducible refine hideG ?_
    intro G0 hG0
    obtain ⟨v1, e1, i1⟩ := zz0
    obtain ⟨p1, p2⟩ := zz4
    with_reducible refine hG0 ?_
    clear hG0 G0
    dsimp only at p1 p2 F N
    k_steps
    refine Stop.mk ?_
    refine LCg.CompSrc.ledger (by rfl) (by assumption) (by assumption) (.tail _ (.head _)) (by rw [List.size_toArray, p1.length]; exact size_n (by rcases p2 with q | q <;> rw [q] <;> decide)) ?_
    intro g'
    refine comp_turns (σ := Unit) (fun _ => [(D1, listOf (vs.take 60).toArray 0), (lC, listOf v1.toArray e1)]) (fun i ys _ => ∃ is : List Int, IntsAre ys is ∧ is.length = i ∧ ∀ c ∈ is, 0 ≤ c ∧ c < 1000000) ?turn ?fin _ 0 [] () (Nat.zero_add _) ⟨[], .nil, rfl, fun c hc => nomatch hc⟩
    case turn =>
      rintro i ys _ v I oI C oC D m₂ h tk E' hi ⟨is, q1, q2, q3⟩ hv hC hx F N off ne
      simp only [List.getElem?_toArray] at hv
      have hi' : i < i1.length := by rw [List.size_toArray, p1.length] at hi; exact hi
      obtain ⟨t9, h9⟩ := p1.get i _ (List.getElem?_eq_getElem hi')
      rw [h9] at hv
      obtain rfl := Option.some.inj hv
      have hr1 : 0 ≤ Int.fmod i1[i] 1000000 := Int.fmod_nonneg_of_pos _ (by decide)
      have hr2 : Int.fmod i1[i] 1000000 < 1000000 := Int.fmod_lt_of_pos _ (by decide)
      dsimp only at N off ⊢
      k_steps
      refine Stop.mk ?_
      refine LCg.CompEnd.intro F N _ (fun p hp => hp) off (.inr ⟨_, .tail _ (.head _), rfl, _, rfl⟩) ⟨(), rfl, is ++ [_], ints_snoc q1, by rw [List.length_append, q2]; rfl, fun c hc => ?_⟩
      rcases List.mem_append.mp hc with hc | hc
      · exact q3 c hc
      · rw [List.mem_singleton.mp hc]; exact ⟨hr1, hr2⟩
    case fin =>
      rintro ys _ ⟨is, q1, q2, q3⟩
      intro D h tk F N off
      dsimp only at *
      k_steps
      (try refine Stop.mk ?_)
      exact hQF _ _ (ret _ _ _ (Fr.keep F) ⟨is, by rw [q2, List.size_toArray, p1.length]; exact p2, q3, dat_new N (.list (vs := ys) (n := ys.length) (.head _) (ints_dat q1))⟩)
end
theorem S8_w2 : True := by
  k_with_none
  trivial
end Mine
end
theorem Mine.S9_w0 : True := by
  k_with_none
  trivial
section
open PySem PySem.W PySem.Calls PyProof.Rows
set_option maxRecDepth 100000
set_option maxHeartbeats 8000000
namespace Mine

section
variable {σ : Type} {prog : Program} {w : World} {A : Around} {E : Value → Shared → Prop} {s : Shared} {env : Env} {h₀ : Heap} {body : List Stmt} {Q : Flow → Shared → Prop} {Lc : Addr}
/-- a while loop, by a measure -/
theorem while_J {test : Expr} {pos : Pos} {m₀ : Str → Option Value} {news : Led} (L : σ → Led) (ps : σ → List (Str × Value)) (P : Nat → σ → Prop) (n₀ : Nat) (c₀ : σ)
    (F : Fr h₀ Lc s.heap m₀) (N : News h₀ Lc s.heap news) (hn : ∀ p ∈ L c₀, p ∈ news) (hk : ∀ p ∈ ps c₀, m₀ p.1 = some p.2) (hp : P n₀ c₀)
    (turn : ∀ (n : Nat) (c : σ) (u : Str → Option Value) h tk, P n c → Fr h₀ Lc h (kstB u (ps c)) → News h₀ Lc h (L c) →
      wpAny (model prog w) A (isTrue test env (eval test env)) (fun b s₂ => WhlIf b (wpAny (model prog w) A (execs body env) (WhileStep h₀ Lc s (fun n m nx => JS L ps P n m nx) n) E s₂) (Q .next s₂)) E { s with heap := h, toks := tk })
    (hE : PassesOwn (model prog w) A env E) :
    wpAny (model prog w) A (exec (.While test body [] pos) env) Q E s := by
  refine While_inv (news := L c₀) (fun n m nx => JS L ps P n m nx) F (fun p hp => N p (hn p hp)) ⟨c₀, rfl, hk, hp⟩ ?_ hE
  rintro n m₁ nx h tk F₁ N₁ ⟨c, rfl, h1, hp'⟩
  exact turn n c m₁ h tk hp' (fr_B F₁ h1) N₁
theorem while_end {L : σ → Led} {ps : σ → List (Str × Value)} {P : Nat → σ → Prop} {n n' : Nat} (c : σ) {m' : Str → Option Value} {news' : Led} {h' : Heap} {tk : Nat}
    (F : Fr h₀ Lc h' m') (N : News h₀ Lc h' news') (hn : ∀ p ∈ L c, p ∈ news') (hk : ∀ p ∈ ps c, m' p.1 = some p.2) (hlt : n' < n) (hp : P n' c) :
    WhileStep h₀ Lc s (fun n m nx => JS L ps P n m nx) n .next { s with heap := h', toks := tk } :=
  ⟨rfl, h', tk, m', L c, n', rfl, F, fun p hp => N p (hn p hp), hlt, c, rfl, hk, hp⟩
end
section
variable {prog : Program} {w : World} {A : Around} {E : Value → Shared → Prop} {s : Shared} {h₀ : Heap} {L D : Addr} {m : Str → Option Value} {news : Led} {vs : List Value} {n : Nat} {y : Value}
/-- xs.pop(), the rest of the ledger apart -/
theorem pop_any {Q : Value → Shared → Prop} (rest : Led) (F : Fr h₀ L s.heap m) (N : News h₀ L s.heap news) (hm : (D, listOf (vs ++ [y]).toArray n) ∈ news) (hsub : ∀ p ∈ rest, p ∈ news) (hne : ∀ p ∈ rest, p.1 ≠ D) (hz : vs.length ≤ 1000)
    (h : ∀ h', Fr h₀ L h' m → News h₀ L h' ((D, listOf vs.toArray (n + 1)) :: rest) → Q y { s with heap := h' }) :
    wpAny (model prog w) A (call (.builtin "list.pop") [.ref D]) Q E s := by
  have N1 : News h₀ L s.heap ((D, listOf (vs ++ [y]).toArray n) :: rest) := fun p hp => by
    rcases List.mem_cons.mp hp with rfl | hp
    · exact N _ hm
    · exact N _ (hsub p hp)
  exact kl_pop F N1 (p := vs) (y := y) (kpa_last y vs) (.head hne) (by rw [List.length_append, List.length_singleton, sizeLine_eq]; omega) h
end
theorem alllt_at {a : Addr} : ∀ {l : Led}, AllLt a l → ∀ p ∈ l, p.1 < a := fun h => kst_ltOf h
theorem datall_snoc {ns : Led} {v : Value} {d : Dat} {vs : List Value} {ds : List Dat} (a : DatAll ns vs ds) (h : DatIn ns v d) : DatAll ns (vs ++ [v]) (ds ++ [d]) := by
  induction ds generalizing vs with
  | nil => cases a; exact .cons h .nil
  | cons x ds ih => cases a with | cons a r => exact .cons a (ih r)
theorem ints_last {k : Int} {l : List Int} {vs : List Value} (h : IntsAre vs (l ++ [k])) : ∃ us t, vs = us ++ [.int k t] ∧ IntsAre us l := by
  induction l generalizing vs with
  | nil =>
    cases h with | cons _ t h => cases h; exact ⟨[], t, rfl, .nil⟩
  | cons x l ih =>
    cases h with
    | cons x t h =>
      obtain ⟨us, t', rfl, h2⟩ := ih h
      exact ⟨.int x t :: us, t', rfl, .cons x t h2⟩
/-- what is closed before a row of depth d; the stack's top stands first -/
noncomputable def unwind (d : Nat) : List Int → List (Int × Bool) × List Int
  | [] => ([], [])
  | k :: r => if d < r.length + 1 then ((k, false) :: (unwind d r).1, (unwind d r).2) else ([], k :: r)
noncomputable def cRow (st : List (Int × Bool) × List Int) (k : Int) (d : Nat) : List (Int × Bool) × List Int := (st.1 ++ (unwind d st.2).1 ++ [(k, true)], k :: (unwind d st.2).2)
noncomputable def callsF : Nat → List Int → List (Int × Bool) × List Int → List (Int × Bool) × List Int
  | _, [], st => st
  | i, d :: r, st => callsF (i + 1) r (cRow st i d.toNat)
noncomputable def callsL (ds : List Int) : List (Int × Bool) := let st := callsF 0 ds ([], []); st.1 ++ st.2.map fun k => (k, false)
theorem callsF_snoc (d : Int) (ds : List Int) : ∀ (i : Nat) st, callsF i (ds ++ [d]) st = cRow (callsF i ds st) ((i + ds.length : Nat) : Int) d.toNat := by
  induction ds with
  | nil => exact fun i st => rfl
  | cons x r ih =>
    intro i st
    show callsF (i + 1) (r ++ [d]) _ = _
    rw [ih (i + 1) _, Nat.add_assoc, Nat.add_comm 1]
    rfl
noncomputable abbrev dCall (p : Int × Bool) : Dat := .tuple [.int p.1, .bool p.2]
noncomputable abbrev dCalls (cs : List (Int × Bool)) : Dat := .list (cs.map dCall)
theorem unwind_len (d : Nat) (l : List Int) : (unwind d l).1.length + (unwind d l).2.length = l.length := by
  induction l with
  | nil => rfl
  | cons k r ih =>
    show (if d < r.length + 1 then ((k, false) :: (unwind d r).1, (unwind d r).2) else ([], k :: r)).1.length + (if d < r.length + 1 then ((k, false) :: (unwind d r).1, (unwind d r).2) else ([], k :: r)).2.length = _
    by_cases h : d < r.length + 1
    · rw [if_pos h, List.length_cons, List.length_cons, ← ih, Nat.add_right_comm]
    · rw [if_neg h, List.length_nil, Nat.zero_add]
theorem callsF_len (ds : List Int) : ∀ (i : Nat) st, (callsF i ds st).1.length + (callsF i ds st).2.length = st.1.length + st.2.length + 2 * ds.length := by
  induction ds with
  | nil => exact fun i st => rfl
  | cons d r ih =>
    intro i st
    show (callsF (i + 1) r (cRow st i d.toNat)).1.length + (callsF (i + 1) r (cRow st i d.toNat)).2.length = _
    rw [ih (i + 1)]
    have := unwind_len d.toNat st.2
    show (st.1 ++ (unwind d.toNat st.2).1 ++ [((i : Int), true)]).length + ((i : Int) :: (unwind d.toNat st.2).2).length + _ = _
    rw [List.length_append, List.length_append, List.length_cons, List.length_cons, List.length_cons, List.length_nil]
    omega
structure CSt where
  cvs : List Value
  cep : Nat
  tl : Led
  cds : List (Int × Bool)
  ivs : List Value
  iep : Nat
  rins : List Int
section
theorem S9_w1 : True := by
  k_with_none
  k_with "exec For" => ((k_here; (with_reducible rename Fr _ _ _ _ => lF'); (with_unfolding_all refine' For_invVF lF' ?k1 ?k2 ?_); (case k1 => exact rfl); (case k2 => exact rfl)))
  k_with "exec For Name Call cons nil" => ((k_here; (with_reducible rename Fr _ _ _ _ => lF'); (with_unfolding_all refine' For_invVF lF' ?k1 ?k2 ?_); (case k1 => exact rfl); (case k2 => exact rfl)))
  k_with "pyIter ref" => ((with_reducible refine Stop.out ?_))
  k_with "call type:range" => ((with_reducible refine Stop.out ?_))
  k_with "InvEndG" => ((with_reducible refine Stop.out ?_))
  k_with "WhileStep" => ((with_reducible refine Stop.out ?_))
  k_with "exec While" => ((with_reducible refine Stop.out ?_))
  k_with "exec While Compare" => ((with_reducible refine Stop.out ?_))
  k_with "WhlIf" => ((with_reducible refine Stop.out ?_))
  k_with "call builtin:len" => ((with_reducible refine Stop.out ?_))
  k_with "call builtin:list.pop" => ((with_reducible refine Stop.out ?_))
  k_with "call builtin:list.append" => ((with_reducible refine Stop.out ?_))
  k_with "Halt" => ((with_reducible refine Stop.out ?_))
  k_with "execs cons" => (k_here; first | with_reducible refine th_one ?_ | with_reducible refine th_cons ?_)
  k_with "Th" => (first | ((with_reducible refine' th_next (s₀ := s) ?F ?_ ?e); (case F => assumption); (case e => with_reducible rfl); (try clear tk9); intro tk9) | with_reducible refine th_ret ?_)
  trivial
theorem calls_spec (w : World) (loose : List Str) (mean : ExcName → Option Value) (mg mb : Str → Option Value) (A : Around) (s : Shared) (Q E : Value → Shared → Prop) (a : Addr) (vs : List Value) (ns : List Int) :
    Room 10 80 A → (Mine.hd0.heap_1_1 w.params).In s.heap → Top topProg loose mean mg mb s.heap → (s.heap.IsList a vs.toArray) → (IntsAre vs ns) → (ns.length ≤ 6) → (∀ d ∈ ns, 0 ≤ d) →
    Ends s Q (fun v h => DatNew s.heap h v (dCalls (callsL ns))) →
    wpAny (model PySem.Challenge.rw_if0001_01.row.prog w) A (call (.ref 246) [.ref a]) Q E s := by
  k_fill
  intro R X T h0 h1 h2 h3 ret
  with_reducible refine hideG ?_
  intro G0 hG0
  obtain ⟨hh, dp, fr, gd, un⟩ := A
  with_reducible refine hG0 ?_
  clear hG0 G0
  obtain ⟨hA, hdp, hun⟩ := R
  cases hA
  dsimp only at hdp hun
  refine' pcall (binds := [(Str.ofString "depths", .ref a)]) (by assumption) (by assumption) ?hd ?ho ?hcd ?hb ?hl ?hc ?h1 ?h2 ?h3 ?_
  (case ho => k_is)
  (case hcd => k_is)
  (case hd => ((try dsimp only); (try simp only [recursionLimit]); omega))
  (case hb => first | exact BindsTo.of_eq rfl | exact binds_K (by assumption) rfl (by k_is) rfl rfl rfl)
  (case hc => decide)
  (case hl => exact locs rfl)
  (case h1 => exact rfl)
  (case h2 => exact rfl)
  (case h3 => exact rfl)
  k_whole
  intro L' h' F' N'
  (try dsimp only)
  (try k_fold)
  refine (let ev : Env := _; (?_ : wpAny _ _ (execs _ ev) _ _ _))
  with_reducible refine hide1 ?_; intro QF hQF
  have hvn := h1.length
  k_steps
  refine Stop.mk ?_
  (with_reducible rename Fr _ _ _ _ => F1)
  refine Calls.call_len_list (h0.at fun o e => F1.keep a o e) (by rw [List.size_toArray]; omega) ?_
  have hsz : (vs.toArray.size : Int) = (ns.length : Int) := by rw [List.size_toArray, hvn]
  rw [hsz]
  k_steps
  refine Stop.mk ?_

  rename_i lC _ _ _ lI _ l1 _ _
  (with_reducible rename Fr _ _ _ _ => lF)
  (with_reducible rename News _ _ _ _ => N)
  refine range1_rows lF N fun hr tkr t1 u1 v1 R F N kp => ?_
  clear lF
  dsimp only at *
  have hCI : lC < lI := l1
  refine loop_R (n := ns.length) (σ := CSt) (fun c => (lC, listOf c.cvs.toArray c.cep) :: (lI, listOf c.ivs.toArray c.iep) :: c.tl) (fun c => [(Str.ofString "depths", .ref a), (Str.ofString "calls", .ref lC), (Str.ofString "inside", .ref lI)])
    (fun i c => callsF 0 (ns.take i) ([], []) = (c.cds, c.rins) ∧ DatAll c.tl c.cvs (c.cds.map dCall) ∧ IntsAre c.ivs c.rins.reverse ∧ (∀ p ∈ c.tl, p.1 ≠ lC ∧ p.1 ≠ lI)) ⟨[], 0, [], [], [], 0, []⟩ rfl R ?sm ?sz F N ?hn ?hk ?hp ?turn ?done
  case sm => exact small_n (Nat.le_trans h2 (by decide))
  case sz => exact rsize_n _
  case hn => intro p hp; rcases List.mem_cons.mp hp with rfl | hp; exact .tail _ (.head _); rw [List.mem_singleton.mp hp]; exact .head _
  case hk => intro p hp; simp only [List.mem_cons, List.not_mem_nil, or_false] at hp; rcases hp with rfl | rfl | rfl <;> rfl
  case hp => exact ⟨rfl, .nil, .nil, fun p hp => nomatch hp⟩
  case turn =>
    intro i t zz2 u h tk own hi zz8 ho F N
    (first | with_reducible refine hide2 ?_ | with_reducible refine hide1 ?_); intro QT hQT
    with_reducible refine hideG ?_
    intro G0 hG0
    obtain ⟨cvs, cep, tl, cds, ivs, iep, rins⟩ := zz2
    obtain ⟨p1, p2, p3, p4⟩ := zz8
    with_reducible refine hG0 ?_
    clear hG0 G0
    dsimp only at p1 p2 p3 p4 F N
    dsimp only [List.map] at *
    have e0 : (0 : Int) + (i : Int) = (i : Int) := Int.zero_add _
    rw [e0] at F
    have hd : 0 ≤ ns.getD i 0 := by
      rw [List.getD_eq_getElem?_getD, List.getElem?_eq_getElem hi]
      exact h3 _ (List.getElem_mem hi)
    have hlen := callsF_len (ns.take i) 0 ([], [])
    rw [p1, List.length_take] at hlen
    dsimp only [List.length_nil] at hlen
    have hlen2 : cds.length + rins.length ≤ 12 := by omega
    clear hlen
    k_steps
    refine Stop.mk ?_
    refine while_J (σ := CSt) (fun c => (lC, listOf c.cvs.toArray c.cep) :: (lI, listOf c.ivs.toArray c.iep) :: (c.tl ++ own)) (fun _ => [(Str.ofString "depths", .ref a), (Str.ofString "calls", .ref lC), (Str.ofString "inside", .ref lI), (Str.ofString "k", .int (i : Int) t)])
      (fun n c => n = c.rins.length ∧ c.cds ++ (unwind (ns.getD i 0).toNat c.rins).1 = cds ++ (unwind (ns.getD i 0).toNat rins).1 ∧ (unwind (ns.getD i 0).toNat c.rins).2 = (unwind (ns.getD i 0).toNat rins).2 ∧ c.cds.length + c.rins.length = cds.length + rins.length ∧ DatAll c.tl c.cvs (c.cds.map dCall) ∧ IntsAre c.ivs c.rins.reverse ∧ (∀ p ∈ c.tl, p.1 ≠ lC ∧ p.1 ≠ lI) ∧ (∀ p ∈ own, ∀ q ∈ c.tl, p.1 ≠ q.1)) rins.length ⟨cvs, cep, tl, cds, ivs, iep, rins⟩ F N ?wn ?wk ?wp ?wt ?we
    case we => first | passes_own | with_unfolding_all passes_own
    case wn => intro p hp; simpa using hp
    case wk => intro p hp; simp only [List.mem_cons, List.not_mem_nil, or_false] at hp; rcases hp with rfl | rfl | rfl | rfl <;> rfl
    case wp => exact ⟨rfl, rfl, rfl, rfl, p2, p3, p4, fun p hp q hq => ho p hp _ (.tail _ (.tail _ (List.mem_map.mpr ⟨q, hq, rfl⟩)))⟩
    case wt =>
      intro n zz1 u2 h9 tk9 zz5 F N
      with_reducible refine hideG ?_
      intro G0 hG0
      obtain ⟨cv2, ce2, tl2, cd2, iv2, ie2, ri2⟩ := zz1
      obtain ⟨q1, q2, q3, q4, q5, q6, q7, q8⟩ := zz5
      with_reducible refine hG0 ?_
      clear hG0 G0
      dsimp only at q1 q2 q3 q4 q5 q6 q7 q8 F N
      subst q1
      have hil : iv2.length = ri2.length := by rw [q6.length, List.length_reverse]
      k_steps
      refine Stop.mk ?_
      (with_reducible rename News _ _ _ _ => N1)
      refine Calls.call_len_list (isList_N (s := ⟨_, _, _, _, _⟩) N1 (.tail _ (.head _))) (by rw [List.size_toArray, hil]; omega) ?_
      have hz2 : (iv2.toArray.size : Int) = (ri2.length : Int) := by rw [List.size_toArray, hil]
      rw [hz2]
      k_steps
      simp only [Int.toNat_natCast]
      by_cases hw : ns.getD i 0 < (ri2.length : Int)
      · refine WhlIf.yes (decide_eq_true hw) ?_
        obtain ⟨kk, rr, rfl⟩ : ∃ kk rr, ri2 = kk :: rr := by
          cases ri2 with
          | nil => exact absurd hw (by simp only [List.length_nil]; omega)
          | cons x r => exact ⟨x, r, rfl⟩
        rw [List.reverse_cons] at q6
        obtain ⟨iv3, t3, rfl, q6'⟩ := ints_last q6
        have hu : unwind (ns.getD i 0).toNat (kk :: rr) = ((kk, false) :: (unwind (ns.getD i 0).toNat rr).1, (unwind (ns.getD i 0).toNat rr).2) := by
          have : (ns.getD i 0).toNat < rr.length + 1 := by rw [List.length_cons] at hw; omega
          show (if _ then _ else _) = _
          rw [if_pos this]
        rw [hu] at q2 q3
        dsimp only at q2 q3
        have hcl : cv2.length = cd2.length := by
          have := q5.length
          rw [List.length_map] at this; exact this
        rw [List.length_cons] at q4
        k_steps
        refine Stop.mk ?_
        (with_reducible rename Fr _ _ _ _ => F3)
        (with_reducible rename News _ _ _ _ => N3)
        refine pop_any ((lC, listOf cv2.toArray ce2) :: (tl2 ++ own)) F3 N3 (.tail _ (.head _)) ?ps ?pn ?pz (fun hh4 F4 N4 => ?_)
        case ps => intro p hp; rcases List.mem_cons.mp hp with rfl | hp; exact .head _; exact .tail _ (.tail _ hp)
        case pn =>
          intro p hp
          rcases List.mem_cons.mp hp with rfl | hp
          · exact Nat.ne_of_lt hCI
          rcases List.mem_append.mp hp with hp | hp
          · exact (q7 p hp).2
          · exact ho p hp _ (.tail _ (.head _))
        case pz =>
          have h8 := q6'.length
          rw [List.length_reverse] at h8
          omega
        k_steps
        refine Stop.mk ?_
        rename_i TT _ _ _ l5
        (with_reducible rename Fr _ _ _ _ => F5)
        (with_reducible rename News _ _ _ _ => N5)
        have hTl : ∀ p ∈ tl2 ++ own, p.1 < TT := alllt_at l5.2.2
        refine app_any ((TT, { cls := .type "tuple", data := .seq #[.int kk t3, .bool false] }) :: (lI, listOf iv3.toArray (ie2 + 1)) :: (tl2 ++ own)) F5 N5 (.tail _ (.tail _ (.head _))) ?as1 ?an1 (by omega) (fun hh6 F6 N6 => ?_)
        case as1 =>
          intro p hp
          rcases List.mem_cons.mp hp with rfl | hp
          · exact .head _
          rcases List.mem_cons.mp hp with rfl | hp
          · exact .tail _ (.head _)
          · exact .tail _ (.tail _ (.tail _ hp))
        case an1 =>
          intro p hp
          rcases List.mem_cons.mp hp with rfl | hp
          · exact Nat.ne_of_gt l5.2.1
          rcases List.mem_cons.mp hp with rfl | hp
          · exact Nat.ne_of_gt hCI
          rcases List.mem_append.mp hp with hp | hp
          · exact (q7 p hp).1
          · exact ho p hp _ (.head _)
        k_steps
        refine Stop.mk ?_
        (with_reducible rename Fr _ _ _ _ => F7)
        (with_reducible rename News _ _ _ _ => N7)
        refine while_end (n' := rr.length) ⟨cv2 ++ [.ref TT], ce2 + 1, (TT, { cls := .type "tuple", data := .seq #[.int kk t3, .bool false] }) :: tl2, cd2 ++ [(kk, false)], iv3, ie2 + 1, rr⟩ F7 N7 ?en ?ek (Nat.lt_succ_self _) ⟨rfl, by dsimp only; rw [List.append_assoc]; exact q2, q3, by simp only [List.length_append, List.length_cons, List.length_nil]; omega, ?ed, q6', ?e7, ?e8⟩
        case en =>
          intro p hp
          rcases List.mem_cons.mp hp with rfl | hp
          · exact .head _
          rcases List.mem_cons.mp hp with rfl | hp
          · exact .tail _ (.tail _ (.head _))
          rcases List.mem_cons.mp hp with rfl | hp
          · exact .tail _ (.head _)
          · exact .tail _ (.tail _ (.tail _ hp))
        case ek => intro p hp; simp only [List.mem_cons, List.not_mem_nil, or_false] at hp; rcases hp with rfl | rfl | rfl | rfl <;> rfl
        case ed =>
          dsimp only
          rw [List.map_append]
          exact datall_snoc (DatAll.mono (fun p hp => .tail _ hp) q5) (.tuple (vs := [.int kk t3, .bool false]) (n := 0) (.head _) (.cons (.int _ _) (.cons (.bool _) .nil)))
        case e7 =>
          intro p hp
          rcases List.mem_cons.mp hp with rfl | hp
          · exact ⟨Nat.ne_of_gt l5.2.1, Nat.ne_of_gt l5.1⟩
          · exact q7 p hp
        case e8 =>
          intro p hp q hq
          rcases List.mem_cons.mp hq with rfl | hq
          · exact Nat.ne_of_lt (hTl p (List.mem_append.mpr (.inr hp)))
          · exact q8 p hp q hq
      · refine WhlIf.no (decide_eq_false hw) ?_
        have hu : unwind (ns.getD i 0).toNat ri2 = ([], ri2) := by
          cases ri2 with
          | nil => rfl
          | cons x r =>
            show (if _ then _ else _) = _
            rw [if_neg (by rw [List.length_cons] at hw; omega)]
        rw [hu] at q2 q3
        dsimp only at q2 q3
        rw [List.append_nil] at q2
        have hcl : cv2.length = cd2.length := by
          have := q5.length
          rw [List.length_map] at this; exact this
        k_steps
        refine Stop.mk ?_
        rename_i TT _ _ _ l5
        (with_reducible rename Fr _ _ _ _ => F5)
        (with_reducible rename News _ _ _ _ => N5)
        have hTl : ∀ p ∈ tl2 ++ own, p.1 < TT := alllt_at l5.2.2
        refine app_any ((TT, { cls := .type "tuple", data := .seq #[.int (i : Int) t, .bool true] }) :: (lI, listOf iv2.toArray ie2) :: (tl2 ++ own)) F5 N5 (.tail _ (.head _)) ?as2 ?an2 (by omega) (fun hh6 F6 N6 => ?_)
        case as2 =>
          intro p hp
          rcases List.mem_cons.mp hp with rfl | hp
          · exact .head _
          rcases List.mem_cons.mp hp with rfl | hp
          · exact .tail _ (.tail _ (.head _))
          · exact .tail _ (.tail _ (.tail _ hp))
        case an2 =>
          intro p hp
          rcases List.mem_cons.mp hp with rfl | hp
          · exact Nat.ne_of_gt l5.1
          rcases List.mem_cons.mp hp with rfl | hp
          · exact Nat.ne_of_gt hCI
          rcases List.mem_append.mp hp with hp | hp
          · exact (q7 p hp).1
          · exact ho p hp _ (.head _)
        k_steps
        refine Stop.mk ?_
        (with_reducible rename Fr _ _ _ _ => F7)
        (with_reducible rename News _ _ _ _ => N7)
        refine app_any ((lC, listOf (cv2 ++ [Value.ref TT]).toArray (ce2 + 1)) :: (TT, { cls := .type "tuple", data := .seq #[.int (i : Int) t, .bool true] }) :: (tl2 ++ own)) F7 N7 (.tail _ (.tail _ (.head _))) ?bs2 ?bn2 (by omega) (fun hh8 F8 N8 => ?_)
        case bs2 =>
          intro p hp
          rcases List.mem_cons.mp hp with rfl | hp
          · exact .head _
          rcases List.mem_cons.mp hp with rfl | hp
          · exact .tail _ (.head _)
          · exact .tail _ (.tail _ (.tail _ hp))
        case bn2 =>
          intro p hp
          rcases List.mem_cons.mp hp with rfl | hp
          · exact Nat.ne_of_lt hCI
          rcases List.mem_cons.mp hp with rfl | hp
          · exact Nat.ne_of_gt l5.2.1
          rcases List.mem_append.mp hp with hp | hp
          · exact (q7 p hp).2
          · exact ho p hp _ (.tail _ (.head _))
        k_steps
        refine Stop.mk ?_
        (with_reducible rename Fr _ _ _ _ => F9)
        (with_reducible rename News _ _ _ _ => N9)
        refine hQT _ _ ?_
        refine js_end (c := (⟨cv2 ++ [.ref TT], ce2 + 1, (TT, { cls := .type "tuple", data := .seq #[.int (i : Int) t, .bool true] }) :: tl2, cd2 ++ [((i : Int), true)], iv2 ++ [.int (i : Int) t], ie2 + 1, (i : Int) :: ri2⟩ : CSt)) F9 N9 ?jn ?jo ?ja ?jk ⟨?jc, ?jd, ?ji, ?jt⟩
        case jn =>
          intro p hp
          rcases List.mem_cons.mp hp with rfl | hp
          · exact .tail _ (.head _)
          rcases List.mem_cons.mp hp with rfl | hp
          · exact .head _
          rcases List.mem_cons.mp hp with rfl | hp
          · exact .tail _ (.tail _ (.head _))
          · exact .tail _ (.tail _ (.tail _ (List.mem_append.mpr (.inl hp))))
        case jo => intro p hp; exact .tail _ (.tail _ (.tail _ (List.mem_append.mpr (.inr hp))))
        case ja =>
          intro p hp b hb
          rcases List.mem_cons.mp hb with rfl | hb
          · exact ho p hp _ (.head _)
          rcases List.mem_cons.mp hb with rfl | hb
          · exact ho p hp _ (.tail _ (.head _))
          rcases List.mem_cons.mp hb with rfl | hb
          · exact Nat.ne_of_lt (hTl p (List.mem_append.mpr (.inr hp)))
          · obtain ⟨q, hq, rfl⟩ := List.mem_map.mp hb
            exact q8 p hp q hq
        case jk => intro p hp; simp only [List.mem_cons, List.not_mem_nil, or_false] at hp; rcases hp with rfl | rfl | rfl <;> rfl
        case jc =>
          dsimp only
          rw [List.take_add_one, List.getElem?_eq_getElem hi]
          show callsF 0 (ns.take i ++ [ns[i]]) _ = _
          rw [callsF_snoc, p1]
          have e9 : ns.getD i 0 = ns[i] := by rw [List.getD_eq_getElem?_getD, List.getElem?_eq_getElem hi]; rfl
          have e8 : 0 + (ns.take i).length = i := by rw [Nat.zero_add, List.length_take]; exact Nat.min_eq_left (Nat.le_of_lt hi)
          rw [e8, ← e9]
          show (cds ++ _ ++ _, _ :: _) = _
          rw [← q2, ← q3]
        case jd =>
          dsimp only
          rw [List.map_append]
          exact datall_snoc (DatAll.mono (fun p hp => .tail _ hp) q5) (.tuple (vs := [.int (i : Int) t, .bool true]) (n := 0) (.head _) (.cons (.int _ _) (.cons (.bool _) .nil)))
        case ji => dsimp only; rw [List.reverse_cons]; exact ints_snoc q6
        case jt =>
          intro p hp
          rcases List.mem_cons.mp hp with rfl | hp
          · exact ⟨Nat.ne_of_gt l5.1, Nat.ne_of_gt l5.2.1⟩
          · exact q7 p hp
  case done =>
    intro zz0 u h tk zz4 F N
    with_reducible refine hideG ?_
    intro G0 hG0
    obtain ⟨cvs, cep, tl, cds, ivs, iep, rins⟩ := zz0
    obtain ⟨p1, p2, p3, p4⟩ := zz4
    with_reducible refine hG0 ?_
    clear hG0 G0
    dsimp only at p1 p2 p3 p4 F N
    have hlen := callsF_len ns 0 ([], [])
    rw [List.take_length] at p1
    rw [p1] at hlen
    dsimp only [List.length_nil] at hlen
    have hlen2 : cds.length + rins.length ≤ 12 := by omega
    clear hlen
    k_steps
    refine Stop.mk ?_
    refine while_J (σ := CSt) (fun c => (lC, listOf c.cvs.toArray c.cep) :: (lI, listOf c.ivs.toArray c.iep) :: c.tl) (fun _ => [(Str.ofString "calls", .ref lC), (Str.ofString "inside", .ref lI)])
      (fun n c => n = c.rins.length ∧ c.cds ++ c.rins.map (fun k => (k, false)) = cds ++ rins.map (fun k => (k, false)) ∧ c.cds.length + c.rins.length = cds.length + rins.length ∧ DatAll c.tl c.cvs (c.cds.map dCall) ∧ IntsAre c.ivs c.rins.reverse ∧ (∀ p ∈ c.tl, p.1 ≠ lC ∧ p.1 ≠ lI)) rins.length ⟨cvs, cep, tl, cds, ivs, iep, rins⟩ F N ?wn ?wk ?wp ?wt ?we
    case we => first | passes_own | with_unfolding_all passes_own
    case wn => intro p hp; exact hp
    case wk => intro p hp; simp only [List.mem_cons, List.not_mem_nil, or_false] at hp; rcases hp with rfl | rfl <;> rfl
    case wp => exact ⟨rfl, rfl, rfl, p2, p3, p4⟩
    case wt =>
      intro n zz1 u2 h9 tk9 zz5 F N
      with_reducible refine hideG ?_
      intro G0 hG0
      obtain ⟨cv2, ce2, tl2, cd2, iv2, ie2, ri2⟩ := zz1
      obtain ⟨q1, q2, q4, q5, q6, q7⟩ := zz5
      with_reducible refine hG0 ?_
      clear hG0 G0
      dsimp only at q1 q2 q4 q5 q6 q7 F N
      subst q1
      k_steps
      refine Stop.mk ?_
      rename_i l2 _ _ _ l6
      (with_reducible rename Fr _ _ _ _ => F1)
      (with_reducible rename News _ _ _ _ => N0)
      have hcl : cv2.length = cd2.length := by
        have := q5.length
        rw [List.length_map] at this; exact this
      have N1 : News s.heap L' _ ((lC, listOf cv2.toArray ce2) :: (lI, listOf iv2.toArray ie2) :: tl2) := fun p hp => N0 p (.tail _ hp)
      clear N0 l6

      cases ri2 with
      | nil =>
        refine WhlIf.no rfl ?_
        k_steps
        have e9 : callsL ns = cd2 := by
          have e8 : callsL ns = cds ++ rins.map (fun k => (k, false)) := by
            show (callsF 0 ns ([], [])).1 ++ (callsF 0 ns ([], [])).2.map _ = _
            rw [p1]
          rw [e8, ← q2, List.map_nil, List.append_nil]
        (try refine Stop.mk ?_)
        exact hQF _ _ (ret _ _ _ (Fr.keep F1) (dat_new N1 (e9 ▸ .list (vs := cv2) (n := ce2) (.head _) (DatAll.mono (fun p hp => .tail _ (.tail _ hp)) q5))))
      | cons kk rr =>
        refine WhlIf.yes (by simp) ?_
        rw [List.reverse_cons] at q6
        obtain ⟨iv3, t3, rfl, q6'⟩ := ints_last q6
        rw [List.length_cons] at q4
        k_steps
        refine Stop.mk ?_
        (with_reducible rename Fr _ _ _ _ => F3)
        (with_reducible rename News _ _ _ _ => N3)
        refine pop_any ((lC, listOf cv2.toArray ce2) :: tl2) F3 N3 (.tail _ (.head _)) ?ps3 ?pn3 ?pz3 (fun hh4 F4 N4 => ?_)
        case ps3 => intro p hp; rcases List.mem_cons.mp hp with rfl | hp; exact .head _; exact .tail _ (.tail _ hp)
        case pn3 =>
          intro p hp
          rcases List.mem_cons.mp hp with rfl | hp
          · exact Nat.ne_of_lt hCI
          · exact (q7 p hp).2
        case pz3 =>
          have h8 := q6'.length
          rw [List.length_reverse] at h8
          omega
        k_steps
        refine Stop.mk ?_
        rename_i TT _ _ _ l5
        (with_reducible rename Fr _ _ _ _ => F5)
        (with_reducible rename News _ _ _ _ => N5)
        refine app_any ((TT, { cls := .type "tuple", data := .seq #[.int kk t3, .bool false] }) :: (lI, listOf iv3.toArray (ie2 + 1)) :: tl2) F5 N5 (.tail _ (.tail _ (.head _))) ?as3 ?an3 (by omega) (fun hh6 F6 N6 => ?_)
        case as3 =>
          intro p hp
          rcases List.mem_cons.mp hp with rfl | hp
          · exact .head _
          rcases List.mem_cons.mp hp with rfl | hp
          · exact .tail _ (.head _)
          · exact .tail _ (.tail _ (.tail _ hp))
        case an3 =>
          intro p hp
          rcases List.mem_cons.mp hp with rfl | hp
          · exact Nat.ne_of_gt l5.2.1
          rcases List.mem_cons.mp hp with rfl | hp
          · exact Nat.ne_of_gt hCI
          · exact (q7 p hp).1
        k_steps
        refine Stop.mk ?_
        (with_reducible rename Fr _ _ _ _ => F7)
        (with_reducible rename News _ _ _ _ => N7)
        refine while_end (n' := rr.length) ⟨cv2 ++ [.ref TT], ce2 + 1, (TT, { cls := .type "tuple", data := .seq #[.int kk t3, .bool false] }) :: tl2, cd2 ++ [(kk, false)], iv3, ie2 + 1, rr⟩ F7 N7 ?en3 ?ek3 (Nat.lt_succ_self _) ⟨rfl, ?e2, by simp only [List.length_append, List.length_cons, List.length_nil]; omega, ?ed3, q6', ?e73⟩
        case e2 => dsimp only; rw [← q2]; simp
        case en3 =>
          intro p hp
          rcases List.mem_cons.mp hp with rfl | hp
          · exact .head _
          rcases List.mem_cons.mp hp with rfl | hp
          · exact .tail _ (.tail _ (.head _))
          rcases List.mem_cons.mp hp with rfl | hp
          · exact .tail _ (.head _)
          · exact .tail _ (.tail _ (.tail _ hp))
        case ek3 => intro p hp; simp only [List.mem_cons, List.not_mem_nil, or_false] at hp; rcases hp with rfl | rfl <;> rfl
        case ed3 =>
          dsimp only
          rw [List.map_append]
          exact datall_snoc (DatAll.mono (fun p hp => .tail _ hp) q5) (.tuple (vs := [.int kk t3, .bool false]) (n := 0) (.head _) (.cons (.int _ _) (.cons (.bool _) .nil)))
        case e73 =>
          intro p hp
          rcases List.mem_cons.mp hp with rfl | hp
          · exact ⟨Nat.ne_of_gt l5.2.1, Nat.ne_of_gt l5.1⟩
          · exact q7 p hp
end
theorem S9_w2 : True := by
  k_with_none
  trivial
end Mine
end
theorem Mine.En_w0 : True := by
  k_with_none
  trivial
section
open PySem PySem.W PySem.Calls PyProof.Rows
set_option maxRecDepth 100000
set_option maxHeartbeats 8000000
namespace Mine
section
variable {prog : Program} {w : World} {A : Around} {s : Shared} {E Q : Value → Shared → Prop} {p : Program} {loose : List Str} {mean : ExcName → Option Value} {mg mb : Str → Option Value} {K : Frag}
    {name qual : Str} {params : Arguments} {body : List Stmt} {scope : Scope} {dV kV doc pm cdv ct oc : Value} {an od : Option Addr} {osl : Array (Option Value)} {f : Addr} {pos : List Value} {kw : List (Str × Value)} {binds : List (Str × Value)}
/-- entering a def with cells as a pure call -/
theorem pcallC (X : K.In s.heap) (T : Top p loose mean mg mb s.heap) (hd : A.depth < recursionLimit)
    (ho : K.lookup f = some ⟨oc, od, .func (fnOf name qual params body scope dV kV doc pm an cdv ct), osl⟩) (hcd : codeIn K cdv qual = true)
    (hbind : BindsTo s (fnOf name qual params body scope dV kV doc pm an cdv ct) ⟨pos, kw⟩ binds)
    (hkind : (binds.all fun y => scope.names.lookup y.1 == some .local || scope.names.lookup y.1 == some .cell) = true)
    (hnd : ((cellsFrom 0 scope.names []).map (·.1)).Nodup)
    (hco : scope.isCoroutine = false) (hgen : scope.isGenerator = false) (hk : scope.kind = .function)
    (h : ∀ L h₁ tk cells, Fr s.heap L h₁ (bindL (envOfC qual scope L f cdv).kindOf binds fun _ => none) → News s.heap L h₁ cells →
      CellsAre (bindC (envOfC qual scope L f cdv).kindOf binds fun _ => none) (cellsFrom (L + 1) scope.names []) cells →
      wpAny (model prog w) (A.deeper (envOfC qual scope L f cdv)) (execs body (envOfC qual scope L f cdv))
        (fun fl s' => Q (match fl with | .ret v => v | _ => .none) s') (fun _ _ => False)
        { s with heap := h₁, toks := tk }) :
    wpAny (model prog w) A (call (.ref f) pos kw) Q E s := by
  refine wpAny_call ?_
  refine codeAny_call_function hd (X _ _ ho) rfl hco hgen rfl (codeRec_of X hcd) (hbind _ _ _ _ ?_)
  refine wpAny_newFunctionEnv_cells hk (kindsX hkind _) fun env' he s' x => ?_
  subst he
  refine ⟨T.nolimit.keeps x.toInCall.keep, codeAny_func ?_⟩
  obtain ⟨h₁, tk, rfl, _⟩ := x.done
  have hk₁ := x.toInCall.keep
  obtain ⟨cells, NC, Y⟩ := Cl.news (h₀ := s.heap) (Nat.le_refl _) fun n c hm => ⟨x.cell n c (lookup_of_mem_nodup (cellsFrom_names scope.names 0 (s.heap.objs.size + 1) [] [] rfl ▸ hnd) hm), x.above n c hm⟩
  exact wpAny_mono (h _ h₁ tk cells ⟨x.toInCall.ns, hk₁, Nat.le_refl _⟩ NC Y) (fun fl s' q => q) fun _ _ q => q.elim
/-- what a call with a ledger may count on: the ledger's objects hidden from its base -/
theorem hide_base {h₀ h : Heap} {L : Addr} {m : Str → Option Value} {news : Led} (F : Fr h₀ L h m) (N : News h₀ L h news) :
    h₀.StaysIn (hideAll h (news.map (·.1))) ∧ Fr h₀ L (hideAll h (news.map (·.1))) m ∧
      ∀ L' h' m' news', Fr (hideAll h (news.map (·.1))) L' h' m' → News (hideAll h (news.map (·.1))) L' h' news' → Fr h₀ L h' m ∧ News h₀ L h' news' := by
  have nm : ∀ b o, h₀.get? b = some o → b ∉ news.map (·.1) := fun b o e q => by
    obtain ⟨p, hp, rfl⟩ := List.mem_map.mp q
    rw [(N p hp).2.2] at e; cases e
  have st : h₀.StaysIn (hideAll h (news.map (·.1))) := fun b o e => hideAll_get _ (F.keep b o e) (nm b o e)
  obtain ⟨oL, es, ep, hL, hLd, hLk, hLf⟩ := F.ns
  have nL : L ∉ news.map (·.1) := fun q => by
    obtain ⟨p, hp, e⟩ := List.mem_map.mp q
    exact (N p hp).2.1 e
  have hLg := hideAll_get (news.map (·.1)) hL nL
  refine ⟨st, ⟨⟨oL, es, ep, hLg, hLd, hLk, hLf⟩, st, F.above⟩, fun L' h' m' news' F' N' => ⟨⟨⟨oL, es, ep, F'.keep L oL hLg, hLd, hLk, hLf⟩, fun b o e => F'.keep b o (st b o e), F.above⟩, fun p hp => ⟨(N' p hp).1, fun q => ?_, ?_⟩⟩⟩
  · have := (N' p hp).2.2; rw [q, hLg] at this; cases this
  · cases q : h₀.get? p.1 with
    | none => rfl
    | some o => have := (N' p hp).2.2; rw [st _ _ q] at this; cases this
/-- entering a def with a ledger -/
theorem mcall {h₀ : Heap} {L : Addr} {m : Str → Option Value} {news : Led} (F : Fr h₀ L s.heap m) (N : News h₀ L s.heap news) (X : K.In h₀) (T : Top p loose mean mg mb h₀) (hd : A.depth < recursionLimit)
    (ho : K.lookup f = some ⟨oc, od, .func (fnOf name qual params body scope dV kV doc pm an cdv ct), osl⟩) (hcd : codeIn K cdv qual = true)
    (hbind : BindsTo s (fnOf name qual params body scope dV kV doc pm an cdv ct) ⟨pos, kw⟩ binds) (hloc : ∀ y ∈ binds, scope.names.lookup y.1 = some .local)
    (hcell : ∀ x ∈ scope.names, x.2 ≠ .cell) (hco : scope.isCoroutine = false) (hgen : scope.isGenerator = false) (hk : scope.kind = .function)
    (h : ∀ g L' h₁, K.In g → Top p loose mean mg mb g → Fr g L' h₁ (fun y => binds.reverse.lookup y) → News g L' h₁ news → (∀ p ∈ news, p.1 < L') →
      (∀ h' m' news', Fr g L' h' m' → News g L' h' news' → Fr h₀ L h' m ∧ News h₀ L h' news') →
      wpAny (model prog w) (A.deeper (envOf qual scope L' f cdv)) (execs body (envOf qual scope L' f cdv))
        (fun fl s' => Q (match fl with | .ret v => v | _ => .none) s') (fun _ _ => False)
        { s with heap := h₁, toks := s.toks + binds.length }) :
    wpAny (model prog w) A (call (.ref f) pos kw) Q E s := by
  obtain ⟨st, FG, lv⟩ := hide_base F N
  refine wpAny_call ?_
  refine codeAny_call_def (fd := fnOf name qual params body scope dV kV doc pm an cdv ct) (body := body) (binds := binds) hd (F.keep _ _ (X _ _ ho)) rfl (T.nolimit.keeps F.keep) (codeRec_of (X.keeps F.keep) hcd) rfl hbind hcell hloc (fun h₁ hns hk₁ => ?_) hco hgen hk
  exact wpAny_mono (h _ s.heap.objs.size h₁ (X.keeps st) (T.keeps st) ⟨hns, fun b o e => hk₁ b o (of_hideAll _ e), Nat.le_of_eq (hideAll_size _ _)⟩
    (fun p hp => ⟨hk₁ _ _ (N p hp).1, Nat.ne_of_lt (Heap.lt_size (N p hp).1), hideAll_none _ (List.mem_map_of_mem hp)⟩) (fun p hp => Heap.lt_size (N p hp).1) (fun h' m' news' F' N' => lv _ h' m' news' F' N')) (fun fl s' q => q) fun _ _ q => q.elim
/-- the same, a def with cells -/
theorem mcallC {h₀ : Heap} {L : Addr} {m : Str → Option Value} {news : Led} (F : Fr h₀ L s.heap m) (N : News h₀ L s.heap news) (X : K.In h₀) (T : Top p loose mean mg mb h₀) (hd : A.depth < recursionLimit)
    (ho : K.lookup f = some ⟨oc, od, .func (fnOf name qual params body scope dV kV doc pm an cdv ct), osl⟩) (hcd : codeIn K cdv qual = true)
    (hbind : BindsTo s (fnOf name qual params body scope dV kV doc pm an cdv ct) ⟨pos, kw⟩ binds)
    (hkind : (binds.all fun y => scope.names.lookup y.1 == some .local || scope.names.lookup y.1 == some .cell) = true)
    (hnd : ((cellsFrom 0 scope.names []).map (·.1)).Nodup)
    (hco : scope.isCoroutine = false) (hgen : scope.isGenerator = false) (hk : scope.kind = .function)
    (h : ∀ g L' h₁ tk cells, K.In g → Top p loose mean mg mb g → Fr g L' h₁ (bindL (envOfC qual scope L' f cdv).kindOf binds fun _ => none) → News g L' h₁ (cells ++ news) → (∀ p ∈ news, p.1 < L') →
      CellsAre (bindC (envOfC qual scope L' f cdv).kindOf binds fun _ => none) (cellsFrom (L' + 1) scope.names []) cells →
      (∀ h' m' news', Fr g L' h' m' → News g L' h' news' → Fr h₀ L h' m ∧ News h₀ L h' news') →
      wpAny (model prog w) (A.deeper (envOfC qual scope L' f cdv)) (execs body (envOfC qual scope L' f cdv))
        (fun fl s' => Q (match fl with | .ret v => v | _ => .none) s') (fun _ _ => False)
        { s with heap := h₁, toks := tk }) :
    wpAny (model prog w) A (call (.ref f) pos kw) Q E s := by
  obtain ⟨st, FG, lv⟩ := hide_base F N
  refine wpAny_call ?_
  refine codeAny_call_function hd (F.keep _ _ (X _ _ ho)) rfl hco hgen rfl (codeRec_of (X.keeps F.keep) hcd) (hbind _ _ _ _ ?_)
  refine wpAny_newFunctionEnv_cells hk (kindsX hkind _) fun env' he s' x => ?_
  subst he
  refine ⟨(T.nolimit.keeps F.keep).keeps x.toInCall.keep, codeAny_func ?_⟩
  obtain ⟨h₁, tk, rfl, _⟩ := x.done
  have hk₁ := x.toInCall.keep
  obtain ⟨cells, NC, Y⟩ := Cl.news (h₀ := s.heap) (Nat.le_refl _) fun n c hm => ⟨x.cell n c (lookup_of_mem_nodup (cellsFrom_names scope.names 0 (s.heap.objs.size + 1) [] [] rfl ▸ hnd) hm), x.above n c hm⟩
  refine wpAny_mono (h _ s.heap.objs.size h₁ tk cells (X.keeps st) (T.keeps st) ⟨x.toInCall.ns, fun b o e => hk₁ b o (of_hideAll _ e), Nat.le_of_eq (hideAll_size _ _)⟩ (fun p hp => ?_) (fun p hp => Heap.lt_size (N p hp).1) Y (fun h' m' news' F' N' => lv _ h' m' news' F' N')) (fun fl s' q => q) fun _ _ q => q.elim
  rcases List.mem_append.mp hp with hp | hp
  · refine ⟨(NC p hp).1, (NC p hp).2.1, ?_⟩
    cases q : (hideAll s.heap (news.map (·.1))).get? p.1 with
    | none => rfl
    | some o => have := of_hideAll _ q; rw [(NC p hp).2.2] at this; cases this
  · exact ⟨hk₁ _ _ (N p hp).1, Nat.ne_of_lt (Heap.lt_size (N p hp).1), hideAll_none _ (List.mem_map_of_mem hp)⟩
end
end Mine
end
section
open PySem PySem.W PySem.Calls PyProof.Rows
set_option maxRecDepth 100000
set_option maxHeartbeats 8000000
namespace Mine
/-- generators come to be, and end bare -/
noncomputable def Grown (a b : Array GenState) : Prop := ∀ y ∈ b, y ∈ a ∨ y.bare = true
theorem Grown.refl (a : Array GenState) : Grown a a := fun _ h => .inl h
theorem Grown.trans {a b c : Array GenState} (x : Grown a b) (y : Grown b c) : Grown a c := fun z hz => (y z hz).elim (fun h => x z h) .inr
noncomputable def gBinds (x stk : Addr) : List (Str × Value) := [(Str.ofString "self", .ref x), (Str.ofString "ns_stack", .ref stk), (Str.ofString "_reversed", .type "reversed")]
section
variable {prog : Program} {w : World} {A : Around} {s : Shared} {E Q : Value → Shared → Prop} {K : Frag}
    {name qual : Str} {params : Arguments} {body : List Stmt} {scope : Scope} {dV kV doc pm cdv ct oc : Value} {an od : Option Addr} {osl : Array (Option Value)} {f : Addr} {pos : List Value} {kw : List (Str × Value)} {binds : List (Str × Value)}
/-- calling a generator's def -/
theorem gcall (X : K.In s.heap) (hlim : s.heap.NoLimit) (hd : A.depth < recursionLimit)
    (ho : K.lookup f = some ⟨oc, od, .func (fnOf name qual params body scope dV kV doc pm an cdv ct), osl⟩) (hcd : codeIn K cdv qual = true)
    (hbind : BindsTo s (fnOf name qual params body scope dV kV doc pm an cdv ct) ⟨pos, kw⟩ binds) (hloc : ∀ y ∈ binds, scope.names.lookup y.1 = some .local)
    (hcell : ∀ x ∈ scope.names, x.2 ≠ .cell) (hco : scope.isCoroutine = false) (hgen : scope.isGenerator = true) (hk : scope.kind = .function)
    (h : ∀ h₁ tk G, h₁.Ns s.heap.objs.size (fun y => binds.reverse.lookup y) → (∀ b o, s.heap.get? b = some o → h₁.get? b = some o) → h₁.IsGen G s.gens.size → s.heap.objs.size < G →
      Q (.ref G) ⟨h₁, s.gens.push (.fresh (.func body (envOf qual scope s.heap.objs.size f cdv))), s.drawn, tk, s.os⟩) :
    wpAny (model prog w) A (call (.ref f) pos kw) Q E s := by
  refine wpAny_call ?_
  refine codeAny_call_generator (fd := fnOf name qual params body scope dV kV doc pm an cdv ct) (body := body) hd (X _ _ ho) rfl hco hgen rfl (codeRec_of X hcd) (hbind _ _ _ _ ?_)
  refine wpAny_newFunctionEnv hcell hloc (fun h₀ hns₀ hsb₀ => ⟨hlim.fresh _ hsb₀, ?_⟩) hk
  refine h _ _ _ (hns₀.push _) (fun b o e => Heap.get?_push_of_some _ (hsb₀.extBut b o (Nat.ne_of_lt (Heap.lt_size e)) (Heap.get?_push_of_some _ e))) ?_ ?_
  · exact ⟨_, _, _, Heap.get?_push_size _ rfl, rfl, rfl, rfl⟩
  · exact hns₀.lt
end
section
variable {w : World} {A : Around} {s : Shared} {E Q : Value → Shared → Prop} {x stk : Addr}
theorem call_gen (X : (Mine.hd0.heap_1_1 w.params).In s.heap) (hlim : s.heap.NoLimit) (hroom : A.depth < recursionLimit)
    (h : ∀ h₁ tk G, h₁.Ns s.heap.objs.size (fun y => (gBinds x stk).reverse.lookup y) → (∀ b o, s.heap.get? b = some o → h₁.get? b = some o) → h₁.IsGen G s.gens.size → s.heap.objs.size < G →
      Q (.ref G) ⟨h₁, s.gens.push (.fresh (.func [gFor] (gEnv s.heap.objs.size))), s.drawn, tk, s.os⟩) :
    wpAny (model PySem.Challenge.rw_if0001_01.row.prog w) A (call (.ref 94) [.ref x, .ref stk]) Q E s := by
  k_fill
  revert X hlim hroom h
  k_fill
  intro X hlim hroom h
  refine' gcall (binds := gBinds x stk) X hlim hroom ?ho ?hcd ?hb ?hl ?hc ?h1 ?h2 ?h3 ?_
  (case ho => k_is)
  (case hcd => k_is)
  (case hb => exact binds_K X rfl (by k_is) rfl rfl rfl)
  (case hc => decide)
  (case hl => exact locs rfl)
  (case h1 => exact rfl)
  (case h2 => exact rfl)
  (case h3 => exact rfl)
  exact h
end
theorem push_set {α : Type} (a : Array α) (x y : α) : (a.push x).setIfInBounds a.size y = a.push y := by
  apply Array.ext
  · simp
  · intro i h1 h2
    simp only [Array.size_setIfInBounds, Array.size_push] at h1
    rw [Array.getElem_setIfInBounds (by simpa using h1)]
    by_cases e : a.size = i
    · subst e; simp
    · rw [if_neg e, Array.getElem_push, Array.getElem_push]
      have : i < a.size := by omega
      rw [dif_pos this, dif_pos this]
theorem Grown.push {a : Array GenState} {y : GenState} (h : y.bare = true) : Grown a (a.push y) := fun z hz => by
  rcases Array.mem_push.mp hz with h1 | h1
  · exact .inl h1
  · exact .inr (h1 ▸ h)
/-- behind the loop -/
noncomputable def NsFin (Lg : Addr) (gens0 : Array GenState) (Q : Flow → Shared → Prop) (s : Shared) (h3 : Heap) (tk3 : Tok) : Prop :=
  ∀ h4 G4, Grown gens0 G4 → (∀ b o, h3.get? b = some o → (b < Lg ∨ (o.cls ≠ .type "list_iterator" ∧ o.cls ≠ .type "list_reverseiterator")) → h4.get? b = some o) → Q .next ⟨h4, G4, s.drawn, tk3, s.os⟩
/-- the turn's end -/
inductive NsEnd (G Lg xl tx Rv I : Addr) (oR oI : Obj) (gens0 G1 : Array GenState) (Q : Flow → Shared → Prop) (s s₃ : Shared) : Prop
  | mk (h3 : Heap) (tk3 : Tok) (e : s₃ = ⟨h3, G1, s.drawn, tk3, s.os⟩) (a1 : h3.get? Rv = some oR) (a2 : h3.get? I = some oI) (a3 : ∃ ep, h3.get? xl = some (listOf #[.ref tx] ep)) (a4 : h3.IsGen G gens0.size) (a5 : h3.NoLimit) (a6 : NsFin Lg gens0 Q s h3 tk3)
noncomputable def NsFlow (P : Shared → Prop) (f : Flow) (s₃ : Shared) : Prop := match f with
  | .brk => False
  | .ret _ => False
  | _ => P s₃
/-- the loop's state behind its one turn -/
inductive NsInv (prog : Program) (w : World) (A : Around) (G Lg xl tx : Addr) (gens0 : Array GenState) (Q : Flow → Shared → Prop) (s s' : Shared) : Prop
  | mk (h3 : Heap) (tk3 : Tok) (gs : GenState) (e : s' = ⟨h3, gens0.push gs, s.drawn, tk3, s.os⟩) (hx : ∃ ep, h3.get? xl = some (listOf #[.ref tx] ep)) (hG : h3.IsGen G gens0.size) (hl : h3.NoLimit)
      (hgo : gs.Goes (model prog w) A.in1 (gR Lg) (gY Lg xl tx) 0 (.send .none) (Shared.setGen ⟨h3, gens0.push gs, s.drawn, tk3, s.os⟩ gens0.size .running)) (fin : NsFin Lg gens0 Q s h3 tk3)
/-- what a loop over the generator asks for -/
inductive NsLoop (prog : Program) (w : World) (A : Around) (env : Env) (target : Expr) (body : List Stmt) (Q : Flow → Shared → Prop) (E : Value → Shared → Prop) (xv : Value) (s : Shared) : Prop
  | mk (G Lg stk xl tx : Addr) (es : List Addr) (gens0 : Array GenState) (m : Str → Option Value) (e : xv = .ref G) (hG : s.heap.IsGen G gens0.size) (hgens : s.gens = gens0.push (.fresh (.func [gFor] (gEnv Lg)))) (hlim : s.heap.NoLimit) (hes : es.length ≤ 1000)
    (hLs : Lg ≠ stk ∧ Lg ≠ xl ∧ Lg ∉ es) (hLG : Lg ≠ G) (hLc : Lg ≠ cStatics) (hn : s.heap.Ns Lg m) (hst : NsStack s.heap stk xl tx es) (hm1 : m (Str.ofString "_reversed") = some (.type "reversed")) (hm2 : m (Str.ofString "ns_stack") = some (.ref stk))
    (turn : ∀ h1 tk1 G1 Rv I oR oI oL, (∀ b o, b ≠ Lg → s.heap.get? b = some o → h1.get? b = some o) → h1.get? Rv = some oR → h1.get? I = some oI → s.heap.get? Rv = none → s.heap.get? I = none → Rv ≠ I → h1.get? Lg = some oL →
      wpAny (model prog w) A (letOwnedTupleGo target (.ref G) (.ref tx)) (fun _ s₁ => wpAny (model prog w) A (assign target env (.ref tx)) (fun _ s₂ => wpAny (model prog w) A (execs body env) (NsFlow (NsEnd G Lg xl tx Rv I oR oI gens0 G1 Q s)) E s₂) E s₁) E ⟨h1, G1, s.drawn, tk1, s.os⟩)
section
variable {prog : Program} {w : World} {A : Around} {s : Shared} {env : Env} {E : Value → Shared → Prop} {Q : Flow → Shared → Prop} {target : Expr} {body : List Stmt}
theorem For_ns {iter : Expr} {pos : Pos} (hh : A.handled = none) (hd : A.depth < recursionLimit)
    (h : wpAny (model prog w) A (eval iter env) (fun xv s₁ => NsLoop prog w A env target body Q E xv s₁) E s)
    (hs : ∀ x, foldedSetIterable iter env x = pure x)
    (hE : PassesOwn (model prog w) A env E) :
    wpAny (model prog w) A (exec (.For target iter body [] pos) env) Q E s := by
  refine wpAny_For (wpAny_mono h (fun xv s₁ h₁ => ?_) fun _ _ e => e) hs
  with_reducible refine hideG ?_
  intro G0 hG0
  obtain ⟨G, Lg, stk, xl, tx, es, gens0, m, rfl, hG, hgens, hlim, hes, hLs, hLG, hLc, hn, hst, hm1, hm2, turn⟩ := h₁
  with_reducible refine hG0 ?_
  clear hG0 G0
  refine wpAny_pyIter_gen hG ?_
  have hg0 : s₁.gens[gens0.size]? = some (.fresh (.func [gFor] (gEnv Lg))) := by rw [hgens]; simp
  refine codeAny_forLoop_any (fun n s' => (n = 2 ∧ s' = s₁) ∨ (n = 1 ∧ NsInv prog w A G Lg xl tx gens0 Q s₁ s')) ?_ 2 (.inl ⟨rfl, rfl⟩)
  intro n s' zz
  rcases zz with zz | zz
  · obtain ⟨rfl, rfl⟩ := zz
    refine wpAny_pyNext_gen (P := gP Lg) (Y := gY Lg xl tx) (n := 1) hh hlim hd hG hg0 ⟨rfl, gen_body (s := Shared.setGen _ _ _) hh hes hLs hn hst hm1 hm2⟩ (fun v s₂ gs' hy => ?_) (fun s₂ hpp => ?_)
    · with_reducible refine hideG ?_
      intro G0 hG0
      obtain ⟨_, rfl, ⟨h', tk', Rv, I, oR, oI, oL, rfl, hk, hR, hI, hRn, hIn, hRI, hoL, hkap⟩⟩ := hy
      with_reducible refine hG0 ?_
      clear hG0 G0
      have eg : ((Shared.setGen { Shared.setGen s' gens0.size .running with heap := h', toks := tk' } gens0.size gs')) = ⟨h', gens0.push gs', s'.drawn, tk', s'.os⟩ := by
        simp only [Shared.setGen, hgens, push_set]
      rw [eg]
      refine wpAny_mono (turn h' tk' (gens0.push gs') Rv I oR oI oL hk hR hI hRn hIn hRI hoL) (fun _ s₂ x => wpAny_mono x (fun _ s₃ y => wpAny_mono y (fun f s₄ z => ?_) hE) hE) hE
      have key : NsEnd G Lg xl tx Rv I oR oI gens0 (gens0.push gs') Q s' s₄ → ∃ m, m < 2 ∧ ((m = 2 ∧ s₄ = s') ∨ (m = 1 ∧ NsInv prog w A G Lg xl tx gens0 Q s' s₄)) := by
        intro zz0
        obtain ⟨h3, tk3, rfl, a1, a2, a3, a4, a5, a6⟩ := zz0
        exact ⟨1, by decide, .inr ⟨rfl, ⟨h3, tk3, gs', rfl, a3, a4, a5, hkap _ a1 a2 a3, a6⟩⟩⟩
      cases f with
      | next => exact key z
      | cont => exact key z
      | brk => exact z.elim
      | ret v => exact z.elim
    · exact absurd hpp.1 (by decide)
  · with_reducible refine hideG ?_
    intro G0 hG0
    obtain ⟨rfl, ⟨h3, tk3, gs, rfl, ⟨epx, hx3⟩, hG3, hl3, hgo3, fin⟩⟩ := zz
    with_reducible refine hG0 ?_
    clear hG0 G0
    have hg3 : (gens0.push gs)[gens0.size]? = some gs := by simp
    refine wpAny_pyNext_gen (P := gP Lg) (Y := gY Lg xl tx) (n := 0) hh hl3 hd hG3 hg3 hgo3 (fun v s₂ gs' hy => ?_) (fun s₂ hpp => ?_)
    · with_reducible refine hideG ?_
      intro G0 hG0
      obtain ⟨_, rfl, ⟨h', tk', Rv, I, oR, oI, oL, rfl, hk, hR, hI, hRn, hIn, hRI, hoL, hkap⟩⟩ := hy
      with_reducible refine hG0 ?_
      clear hG0 G0
      exact (hkap ⟨h', gens0, s₁.drawn, tk', s₁.os⟩ hR hI ⟨epx, hk xl _ (Ne.symm hLs.2.1) hx3⟩).elim
    · obtain ⟨_, h', rfl, hk⟩ := hpp
      intro h'' hk2
      refine wpAny_execs_nil ?_
      have eg : ({ Shared.setGen { Shared.setGen ⟨h3, gens0.push gs, s₁.drawn, tk3, s₁.os⟩ gens0.size .running with heap := h' } gens0.size .finished with heap := h'' } : Shared) = ⟨h'', gens0.push .finished, s₁.drawn, tk3, s₁.os⟩ := by
        simp only [Shared.setGen, push_set]
      rw [eg]
      exact fin h'' _ (Grown.push rfl) fun b o e n1 => hk2 b o (hk b o e n1)
end
end Mine
end
section
open PySem PySem.W PySem.Calls PyProof.Rows
set_option maxRecDepth 100000
set_option maxHeartbeats 8000000
namespace Mine
theorem look_list_ga2 : typeLookup (.type "list") "__getattribute__" = pure (some (.builtin "list.__getattribute__")) := by rw [typeLookup_type, builtinLookup_eq_fast]; kernel_rfl
theorem look_list_append : typeLookup (.type "list") "append" = pure (some (.builtin "list.append")) := by rw [typeLookup_type, builtinLookup_eq_fast]; kernel_rfl
theorem look_md_get : typeLookup (.type "method_descriptor") "__get__" = pure (some (.builtin "method_descriptor.__get__")) := by rw [typeLookup_type, builtinLookup_eq_fast]; kernel_rfl
theorem look_md_set : typeLookup (.type "method_descriptor") "__set__" = pure none := by rw [typeLookup_type, builtinLookup_eq_fast]; kernel_rfl
theorem look_md_del : typeLookup (.type "method_descriptor") "__delete__" = pure none := by rw [typeLookup_type, builtinLookup_eq_fast]; kernel_rfl
theorem slot_md_get : Slot "method_descriptor" "__get__" "method_descriptor.__get__" :=
  .of (owner := "method_descriptor") (n := "__get__") look_md_get (by decide +kernel) (by decide +kernel) (by decide +kernel)
    (by first | exact .inl (by decide +kernel) | exact .inr (by decide +kernel)) (by rw [isSubtype_type]; kernel_rfl)
theorem entry_md_get : entryFor table "method_descriptor.__get__" = some Builtin.«method_descriptor.__get__» := entryFor_of_tree (by kernel_rfl)
theorem args_md_get (a b c : Value) : argsOk "method_descriptor.__get__" ⟨[a, b, c], []⟩ := by unfold argsOk; kernel_rfl
theorem slot_list_ga : Slot "list" "__getattribute__" "list.__getattribute__" :=
  .of (owner := "list") (n := "__getattribute__") look_list_ga2 (by decide +kernel) (by decide +kernel) (by decide +kernel)
    (by first | exact .inl (by decide +kernel) | exact .inr (by decide +kernel)) (by rw [isSubtype_type]; kernel_rfl)
theorem entry_object_ga : entryFor table "list.__getattribute__" = some Builtin.«object.__getattribute__» :=
  entryFor_alias (id' := "object.__getattribute__") (by rw [fastTable_eq_tree]; kernel_rfl) (by first | rfl | decide +kernel | (unfold String.splitOn; simp +decide [String.splitOnAux])) (by decide +kernel) (by rw [fastTable_eq_tree]; kernel_rfl)
theorem args_object_ga (a b : Value) : argsOk "list.__getattribute__" ⟨[a, b], []⟩ := by unfold argsOk; kernel_rfl
noncomputable def boundApp (l : Addr) : Obj := { cls := .type "builtin_function_or_method", data := .fields #[.builtin "list.append", .ref l] }
section
variable {prog : Program} {w : World} {A : Around} {E : Value → Shared → Prop} {s : Shared}
theorem get_append {l : Addr} {items : Array Value} {n : Nat} {Q : Value → Shared → Prop} (hl : s.heap.get? l = some (listOf items n)) (h : ∀ tk, Q (.ref s.heap.objs.size) { s with heap := s.heap.push (boundApp l), toks := tk }) :
    wpAny (model prog w) A (getAttr (.ref l) (Str.ofString "append") true) Q E s := by
  have hT : ({ s with toks := s.toks + 1 } : Shared).TypeIs (.ref l) "list" := ⟨_, hl, rfl⟩
  unfold getAttr getAttrBy getAttrByItsOwn
  refine wpAny_bind (wpAny_mkText ?_)
  refine wpAny_holding (wpAny_bind (wpAny_typeOf (s := ⟨_, _, _, _, _⟩) hT ?_))
  refine wpAny_bind (wpAny_of_eq look_list_ga2 ?_)
  dsimp only
  rw [if_neg (by decide)]
  refine wpAny_bind (wpAny_of_eq (a := none) rfl ?_)
  refine wpAny_bind (wpAny_attempt (wpAny_holding ?_))
  unfold callGetattribute
  rw [if_neg (by decide)]
  unfold boundAndCalled
  refine wpAny_bind (wpAny_of_eq (slot_list_ga.bind (.ref l)) ?_)
  refine wpAny_call_entry slot_list_ga (s := ⟨_, _, _, _, _⟩) hT entry_object_ga ?_ (args_object_ga _ _)
  have k1 := look_list_append
  have k2 := look_md_get
  have k3 := PySem.F.type_list_append
  have k4 := look_md_set
  have k5 := look_md_del
  unfold Builtin.«object.__getattribute__»
  repeat (any_goals (first | assumption | wp_step))
  have hcall : codeAny (model prog w) A.in1 (Code.call (Value.builtin "method_descriptor.__get__") ⟨[.builtin "list.append", .ref l, .type "list"], []⟩)
      (fun r s' => r = .ok (.ret (.ref s.heap.objs.size)) ∧ ∃ tk, s' = { s with heap := s.heap.push (boundApp l), toks := tk }) ⟨s.heap, s.gens, s.drawn, s.toks + 1, s.os⟩ := by
    refine codeAny_call_builtin slot_md_get.plain entry_md_get (slot_md_get.check _ _ _ _ (.builtin "list.append") _ _ _ k3 (args_md_get _ _ _) ?_)
    unfold Builtin.«method_descriptor.__get__»
    repeat (any_goals (first | assumption | wp_step))
    rw [show ".".intercalate ("list.append".cutAt '.').dropLast = "list" by first | decide +kernel | kernel_rfl]
    refine wpAny_of_eq (a := true) (by rw [isSubtype_type]; kernel_rfl) ?_
    rw [if_neg (by decide)]
    refine wpAny_pure ?_
    refine wpAny_bind (wpAny_newObj_type (wpAny_pure ⟨rfl, _, rfl⟩))
  refine codeAny_mono hcall fun r s₁ hr => ?_
  obtain ⟨rfl, tk, rfl⟩ := hr
  repeat (any_goals (first | assumption | wp_step))
  exact ⟨_, rfl, wpAny_pure (h tk)⟩
theorem args_app2 (a b : Value) : (match Manifest.signature? "list.append" with | some sig => Bind.checkArgs "list.append" { sig with full := s!"{Bind.lastOf "list"}.{Bind.lastOf "list.append"}" } ⟨[a, b], []⟩ | none => pure ()) = pure () := by kernel_rfl
theorem kind_app : builtinKind "list.append" = some .method := by kernel_rfl
theorem sub_list_module : isSubtype (.type "list") (.type "module") = pure false := by rw [isSubtype_type]; kernel_rfl
theorem sub_list_type : isSubtype (.type "list") (.type "type") = pure false := by rw [isSubtype_type]; kernel_rfl
theorem check_app {l : Addr} {items : Array Value} {n : Nat} {x : Value} {Q : Unit → Shared → Prop} (hl : s.heap.get? l = some (listOf items n)) (h : Q () s) : wpAny (model prog w) A (checkBoundCall "list.append" ⟨[.ref l, x], []⟩) Q E s := by
  have hT : s.TypeIs (.ref l) "list" := ⟨_, hl, rfl⟩
  unfold checkBoundCall
  have ha := args_app2 (.ref l) x
  cases hsig : Manifest.signature? "list.append" with
  | none => exact wpAny_pure h
  | some sig =>
    rw [hsig] at ha
    rw [kind_app]
    dsimp only
    rw [if_neg (by decide)]
    refine wpAny_bind (wpAny_isInstance hT sub_list_module ?_)
    rw [if_neg (by decide +kernel)]
    unfold isType
    dsimp only
    refine wpAny_bind (wpAny_bind (PySem.wpAny_loadPart hl ?_))
    refine wpAny_pure ?_
    show wpAny _ _ (if false = true then _ else _) _ _ _
    rw [if_neg Bool.false_ne_true]
    refine wpAny_bind (wpAny_typeOf hT ?_)
    dsimp only at ha ⊢
    rw [ha]
    exact wpAny_pure h
theorem quiet_app {as : Args} : (Code.builtin "list.append" as).quiet = true := Code.quiet_builtin _ (by decide +kernel)
theorem bound_tree {b l : Addr} {items : Array Value} {n : Nat} {x : Value} {Q : Value → Shared → Prop} (hb : s.heap.get? b = some (boundApp l)) (hl : s.heap.get? l = some (listOf items n)) (hsz : items.size ≤ sizeLine)
    (h : Q .none { s with heap := s.heap.update l (Obj.mapSeq fun xs => xs.push x) }) : wpAny (model prog w) A (call (.ref b) [x]) Q E s := by
  refine wpAny_call (codeAny_of_tree ?_)
  show wpAny _ A.in1 (callAny (.ref b) ⟨[x], []⟩) _ _ s
  refine wpAny_bind (wpAny_load hb ?_)
  dsimp only [boundApp]
  rw [if_pos (by decide)]
  refine KFB.if_so (by decide) ?_
  refine wpAny_bind (check_app hl ?_)
  refine wpAny_bind (wpAny_pure (wpAny_pure ?_))
  refine ⟨quiet_app, codeAny_builtin entry_list_append ?_⟩
  show wpAny _ _ (updateSeq l (·.push x) >>= fun _ => ret .none) _ _ s
  refine wpAny_bind ?_
  exact wpAny_updateSeq (hz := hsz) hl rfl (wpAny_pure h)
end
section
variable {prog : Program} {w : World} {A : Around} {E : Value → Shared → Prop} {s : Shared} {h₀ : Heap} {L : Addr} {m : Str → Option Value} {news : Led}
theorem get_append_N {l : Addr} {items : Array Value} {n : Nat} {Q : Value → Shared → Prop} (F : Fr h₀ L s.heap m) (N : News h₀ L s.heap news) (hm : (l, listOf items n) ∈ news)
    (h : ∀ b h' tk, Fr h₀ L h' m → News h₀ L h' ((b, boundApp l) :: news) → (∀ p ∈ news, p.1 < b) → Q (.ref b) { s with heap := h', toks := tk }) :
    wpAny (model prog w) A (getAttr (.ref l) (Str.ofString "append") true) Q E s :=
  get_append (N _ hm).1 fun tk => h _ _ tk (F.push _) (News.push F N _) fun p hp => Heap.lt_size (N p hp).1
theorem bapp {b l : Addr} {vs : List Value} {n : Nat} {x : Value} {Q : Value → Shared → Prop} (rest : Led) (F : Fr h₀ L s.heap m) (N : News h₀ L s.heap news) (hb : (b, boundApp l) ∈ news) (hm : (l, listOf vs.toArray n) ∈ news) (hsub : ∀ p ∈ rest, p ∈ news) (hne : ∀ p ∈ rest, p.1 ≠ l) (hz : vs.length ≤ 1000)
    (h : ∀ h', Fr h₀ L h' m → News h₀ L h' ((l, listOf (vs ++ [x]).toArray (n + 1)) :: rest) → Q .none { s with heap := h' }) :
    wpAny (model prog w) A (call (.ref b) [x]) Q E s := by
  have N1 : News h₀ L s.heap ((l, listOf vs.toArray n) :: rest) := fun p hp => by
    rcases List.mem_cons.mp hp with rfl | hp
    · exact N _ hm
    · exact N _ (hsub p hp)
  have z := N _ hm
  refine bound_tree (N _ hb).1 z.1 (by rw [List.size_toArray, sizeLine_eq]; omega) ?_
  have hs : Heap.SameBut l s.heap (s.heap.update l (Obj.mapSeq fun xs => xs.push x)) := Heap.SameBut.update ..
  have ho' : (s.heap.update l (Obj.mapSeq fun xs => xs.push x)).get? l = some (listOf (vs.toArray.push x) (n + 1)) := by
    rw [Heap.get?_update_self _ z.1 (by rw [mapSeq_push]; rfl), mapSeq_push]
  have e : vs.toArray.push x = (vs ++ [x]).toArray := by rw [List.push_toArray]
  rw [e] at ho'
  exact h _ (F.change hs z.2.1 z.2.2) (news_set (pre := []) N1 (by intro p hp; exact nomatch hp) hne hs ho')
theorem callWith_app {b l : Addr} {pos : Pos} {first : List Value} {args : List (Bool × Sem Value)} {Q : Value → Shared → Prop} (hplain : args.any (·.1) = false)
    (h : wpAny (model prog w) A (evalArgs (.ref b) true args []) (fun x s₁ => s₁.heap.get? b = some (boundApp l) ∧ wpAny (model prog w) A (call (.ref b) (first ++ x.pos) x.kw) Q E s₁) E s) : wpAny (model prog w) A (callWith pos (.ref b) first args []) Q E s := by
  unfold callWith
  refine wpAny_bind (wpAny_holding (wpAny_mono h (fun x s₁ h₁ => wpAny_bind (wpAny_standAt ?_)) fun _ _ x => x))
  obtain ⟨ho, hcall⟩ := h₁
  rw [hplain]
  refine wpAny_bind (m := keeperOf (.ref b)) ?_
  unfold keeperOf
  refine wpAny_bind (wpAny_load ho ?_)
  dsimp only [boundApp]
  rw [if_pos (by decide), if_pos (by decide)]
  refine wpAny_pure ?_
  exact wpAny_bind (wpAny_mono hcall (fun r s₂ hr => wpAny_bind (wpAny_holding (wpAny_point (wpAny_pure hr)))) fun _ _ x => x)
end
end Mine
end
section
open PySem PySem.W PySem.Calls PyProof.Rows
set_option maxRecDepth 100000
set_option maxHeartbeats 8000000
namespace Mine
section
variable {prog : Program} {w : World} {A : Around} {R : Result → Shared → Prop} {E : Value → Shared → Prop} {s : Shared} {x : Str} {t : Tok}
noncomputable def hasOne (x : Str) : Str → Bool := fun k => decide (k = x)
theorem set_loop_one {S I l : Addr} (hh : A.handled = none) (hSI : S ≠ I) (hSl : S ≠ l) (hIl : I ≠ l)
    (hI : s.heap.IsListIter I l 0) (hl : s.heap.IsList l #[.str x t]) (hS : s.heap.SetOf (strKind prog w) S (fun _ => false) 0)
    (hR : ∀ h' tk, (∀ b o, b ≠ S → b ≠ I → s.heap.get? b = some o → h'.get? b = some o) → h'.SetOf (strKind prog w) S (hasOne x) 1 → R (.ok (.ret .none)) { s with heap := h', toks := tk }) :
    codeAny (model prog w) A (.builtin "set.update.loop" ⟨[.ref S, .ref I], []⟩) R s := by
  refine codeAny_builtin F.entry_set_update_loop ?_
  rw [Around.under_plainId F.plain_set_update_loop _]
  show wpAny _ A.in1 (pyNext (.ref I) >>= _) _ _ s
  refine wpAny_bind (wpAny_pyNext_list_item hI hl (x := .str x t) rfl fun h1 hI1 e1 => ?_)
  show wpAny _ A.in1 (holding [Value.str x t] (setAdd S (.str x t)) >>= _) _ _ _
  have hS1 : h1.SetOf (strKind prog w) S (fun _ => false) 0 := by
    obtain ⟨o, es, ep, tb, ho, rest⟩ := hS
    exact ⟨o, es, ep, tb, (e1.2 S hSI).trans ho, rest⟩
  refine wpAny_bind (wpAny_holding ?_)
  unfold setAdd
  refine wpAny_holding ?_
  refine wpAny_bind ((strKind prog w).pyHash (k := x) (strKind_is _ _ _ _) ?_)
  refine wpAny_setAddHashed_of (knd := strKind prog w) (s := { s with heap := h1, toks := s.toks + 1 }) (strKind_is _ _ _ _) rfl hS1 (by unfold scanBound; omega) fun h2 hsb hS2 => ?_
  have hS3 : h2.SetOf (strKind prog w) S (hasOne x) 1 := SetOf_congr hS2 (fun k' => by unfold hasOne; simp) (by simp)
  refine wpAny_pure ⟨plainId_quiet F.plain_set_update_loop _, ?_⟩
  refine codeAny_builtin F.entry_set_update_loop ?_
  rw [Around.under_plainId F.plain_set_update_loop _]
  have hI2 : h2.IsListIter I l 1 := by obtain ⟨o, ho, r⟩ := hI1; exact ⟨o, (hsb.2 I (Ne.symm hSI)).trans ho, r⟩
  have hl2 : h2.IsList l #[.str x t] := by obtain ⟨o, ho, r⟩ := hl; exact ⟨o, (hsb.2 l (Ne.symm hSl)).trans ((e1.2 l (Ne.symm hIl)).trans ho), r⟩
  show wpAny _ A.in1 (pyNext (.ref I) >>= _) _ _ _
  refine wpAny_bind (wpAny_pyNext_list_end (s := ⟨_, _, _, _, _⟩) (by simp [hh]) hI2 hl2 rfl fun h3 e3 => ?_)
  show wpAny _ A.in1 (ret Value.none) _ _ _
  refine wpAny_pure (hR h3 _ (fun b o n1 n2 e => e3 b o n2 ((hsb.2 b n1).trans ((e1.2 b n2).trans e))) ?_)
  obtain ⟨o, es, ep, tb, ho, rest⟩ := hS3
  exact ⟨o, es, ep, tb, e3 S o hSI ho, rest⟩
theorem call_set_one {l : Addr} {Q : Value → Shared → Prop} (hh : A.handled = none) (hl : s.heap.IsList l #[.str x t])
    (h : ∀ (h' : Heap) (tk : Nat), h'.SetOf (strKind prog w) s.heap.objs.size (hasOne x) 1 → (∀ b o, b < s.heap.objs.size → s.heap.get? b = some o → h'.get? b = some o) → Q (.ref s.heap.objs.size) { s with heap := h', toks := tk }) :
    wpAny (model prog w) A (call (.type "set") [.ref l]) Q E s := by
  obtain ⟨c, tl, hmro⟩ := F.called_set.mro
  have hmade := F.called_set.made
  have hsub := F.called_set.sub
  refine wpAny_call (codeAny_of_tree ?_)
  show wpAny _ _ (callAny (.type "set") _) _ _ _
  refine wpAny_pure ⟨Code.quiet_builtin _ (by decide +kernel), codeAny_builtin F.entry_type_call ?_⟩
  rw [Around.under_plain (weight_type_call_type "set" [.ref l] []) rfl]
  have h1 := F.called_set.notType
  have h2 := F.called_set.canCreate
  have hct := F.typeCall_set_1 (.ref l)
  repeat (any_goals (first | assumption | wp_step))
  refine codeAny_mono (code_set_new_1 (.ref l) (E := E) (Q₁ := fun obj s₁ => ∃ led : Bool, obj = .ref s.heap.objs.size ∧ s₁ = { s with heap := s.heap.push { cls := .type "set", dict := none, data := .set #[] 0 (.fresh 0 0 led) } }) fun led => ⟨led, rfl, rfl⟩) fun r s₁ hr => ?_
  cases r with
  | error e => exact hr
  | ok fl =>
    cases fl with
    | ret obj =>
      obtain ⟨led, rfl, rfl⟩ := hr
      have hS : (s.heap.push { cls := .type "set", dict := none, data := .set #[] 0 (.fresh 0 0 led) }).get? s.heap.objs.size = some { cls := .type "set", dict := none, data := .set #[] 0 (.fresh 0 0 led) } := Heap.get?_push_size _ rfl
      have hT : Shared.TypeIs { s with heap := s.heap.push { cls := .type "set", dict := none, data := .set #[] 0 (.fresh 0 0 led) } } (.ref s.heap.objs.size) "set" := ⟨_, hS, rfl⟩
      have hli := F.called_set.init.lookup
      have hbi := F.called_set.init.bind (.ref s.heap.objs.size)
      repeat (any_goals (first | assumption | wp_step))
      refine codeAny_mono (codeAny_call_builtin (R := wants (fun r s₂ => r = .none ∧ ∃ h' tk, s₂ = { s with heap := h', toks := tk } ∧
          h'.SetOf (strKind prog w) s.heap.objs.size (hasOne x) 1 ∧ (∀ b o, b < s.heap.objs.size → s.heap.get? b = some o → h'.get? b = some o)) E) F.called_set.init.plain F.entry_set_init (check_set_init_1 hT ?_)) fun r₂ s₂ hr₂ => ?_
      · obtain ⟨ol, hol, hcl, nl, hdl⟩ := hl
        obtain ⟨ocls, odict, odata, oslots⟩ := ol
        simp only at hcl hdl
        subst hcl; subst hdl
        have hol' : (s.heap.push { cls := .type "set", dict := none, data := .set #[] 0 (.fresh 0 0 led) }).get? l = some { cls := .type "list", dict := odict, data := .seq #[.str x t] nl, slots := oslots } := Heap.get?_push_of_some _ hol
        have hsls := F.sub_list_set
        have hslf := F.sub_list_frozenset
        have hne : (Value.type "list" == Value.type "dict") = false := by decide
        have hl1 : (s.heap.push { cls := .type "set", dict := none, data := .set #[] 0 (.fresh 0 0 led) }).IsList l #[.str x t] := ⟨_, hol', rfl, nl, rfl⟩
        unfold Builtin.«set.__init__» noKeywords Builtin.Frozenset.updateFrom
        generalize hPI : pyIter = PI
        wp_walk
        subst hPI
        refine wpAny_pyIter_list hl1 ?_
        refine wpAny_bind (wpAny_runValue ?_)
        have hlS : l < s.heap.objs.size := Heap.lt_size hol
        have hz : (s.heap.push { cls := .type "set", dict := none, data := .set #[] 0 (.fresh 0 0 led) }).objs.size = s.heap.objs.size + 1 := Heap.size_push ..
        refine set_loop_one (x := x) (t := t) (l := l) (by simp [hh]) (by rw [hz]; exact Nat.ne_of_lt (Nat.lt_succ_self _)) (Nat.ne_of_gt hlS) (by rw [hz]; exact Nat.ne_of_gt (Nat.lt_succ_of_lt hlS))
          ⟨_, Heap.get?_push_size _ rfl, rfl, rfl⟩ (hl1.push _) ?_ fun h' tk hk hS' => ?_
        · exact SetOf_congr ((setObjOf_fresh (knd := strKind prog w) led).setOf (Heap.get?_push_of_some _ hS) (by unfold scanBound; omega)) (fun _ => rfl) rfl
        · show wpAny _ _ _ _ _ _
          refine wpAny_pure ?_
          show wpAny _ _ (ret Value.none) _ _ _
          refine wpAny_pure ⟨rfl, h', tk, rfl, hS', fun b o hb e => ?_⟩
          exact hk b o (Nat.ne_of_lt hb) (by rw [hz]; exact Nat.ne_of_lt (Nat.lt_succ_of_lt hb)) (Heap.get?_push_of_some _ (Heap.get?_push_of_some _ e))
      · cases r₂ with
        | error e => exact hr₂
        | ok fl₂ =>
          cases fl₂ with
          | ret r =>
            obtain ⟨rfl, h', tk, rfl, hS', hk'⟩ := hr₂
            repeat (any_goals (first | assumption | wp_step))
            exact h _ _ hS' hk'
          | _ => exact hr₂.elim
    | _ => exact hr.elim
theorem set_one_N {h₀ : Heap} {L : Addr} {m : Str → Option Value} {news : Led} {l : Addr} {n : Nat} {Q : Value → Shared → Prop} (F : Fr h₀ L s.heap m) (N : News h₀ L s.heap news) (hh : A.handled = none) (hm : (l, listOf #[.str x t] n) ∈ news)
    (h : ∀ D h' (tk : Nat) o, Fr h₀ L h' m → News h₀ L h' ((D, o) :: news) → (∀ p ∈ news, p.1 < D) → o.SetObjOf (strKind prog w) (hasOne x) 1 → Q (.ref D) { s with heap := h', toks := tk }) :
    wpAny (model prog w) A (call (.type "set") [.ref l]) Q E s := by
  refine call_set_one hh ⟨_, (N _ hm).1, rfl, _, rfl⟩ fun h' tk hS hk => ?_
  obtain ⟨o, ho, hso⟩ := hS.objOf
  obtain ⟨oL, _, _, hL, _⟩ := F.ns
  have hLlt : L < s.heap.objs.size := Heap.lt_size hL
  refine h _ h' tk o ⟨F.ns.at' fun o' e => hk L o' hLlt e, fun b o' e => hk b o' (Heap.lt_size (F.keep b o' e)) (F.keep b o' e), F.above⟩ (fun p hp => ?_) (fun p hp => Heap.lt_size (N p hp).1) hso
  rcases List.mem_cons.mp hp with rfl | hp
  · refine ⟨ho, Nat.ne_of_gt hLlt, ?_⟩
    cases hq : h₀.get? s.heap.objs.size with
    | none => rfl
    | some o' => exact absurd (Heap.lt_size (F.keep _ _ hq)) (Nat.lt_irrefl _)
  · exact ⟨hk _ _ (Heap.lt_size (N p hp).1) (N p hp).1, (N p hp).2.1, (N p hp).2.2⟩
end
end Mine
end
section
open PySem PySem.W PySem.Calls PyProof.Rows
set_option maxRecDepth 100000
set_option maxHeartbeats 8000000
namespace Mine
noncomputable def prs : List DictEntry → List (Str × Value)
  | [] => []
  | e :: r => ((match e.key with | .str k _ => k | _ => Str.empty), e.val) :: prs r
theorem prs_ok {prog : Program} {w : World} : ∀ es : List DictEntry, (∀ e ∈ es, ∃ k t, e.key = .str k t) → Pairs (strKind prog w) es (prs es) := by
  intro z0
  induction z0 with
  | nil =>
    rintro _
    exact .nil
  | cons e r ih0 =>
    rintro h
    obtain ⟨k, t, he⟩ := h e (.head _)
    refine Pairs.cons ?_ rfl (ih0 fun x hx => h x (.tail _ hx))
    rw [he]; exact strKind_is _ _ _ _
theorem prs_len : ∀ es : List DictEntry, (prs es).length = es.length
  | [] => rfl
  | _ :: r => by show (prs r).length + 1 = r.length + 1; rw [prs_len r]
section
variable {w : World} {A : Around} {s : Shared} {E : Value → Shared → Prop}
theorem map_at {h : Heap} (X : (Mine.hd0.heap_1_1 w.params).In h) : ∃ kvs ep, h.DictAt (strKind PySem.Challenge.rw_if0001_01.row.prog w) 63 kvs ep ∧ kvs.length = 7 := by
  revert X
  k_fill
  intro X
  refine' ⟨prs (Array.toList ?es), _, ⟨_, _, X _ _ (by k_is), ?a, rfl, ?b, prs_ok _ ?c, ?d⟩, ?e⟩
  case c =>
    intro e he
    simp only [List.mem_cons, List.not_mem_nil, or_false] at he
    rcases he with rfl | rfl | rfl | rfl | rfl | rfl | rfl <;> exact ⟨_, _, rfl⟩
  case a => exact ⟨rfl, rfl, rfl⟩
  case b =>
    intro e he
    simp only [List.mem_toArray, List.mem_cons, List.not_mem_nil, or_false] at he
    rcases he with rfl | rfl | rfl | rfl | rfl | rfl | rfl <;> exact ⟨_, strKind_is _ _ _ _, rfl⟩
  case d =>
    simp only [prs, List.map_cons, List.map_nil]
    decide +kernel
  case e => rw [prs_len]; rfl
theorem map_of {h : Heap} (X : (Mine.hd0.heap_1_1 w.params).In h) : ∃ kvs, h.DictOf (strKind PySem.Challenge.rw_if0001_01.row.prog w) 63 kvs := by
  obtain ⟨kvs, ep, ⟨o, es, r⟩, _⟩ := map_at X
  exact ⟨kvs, o, es, ep, r⟩
theorem map_method {pl : Sem Bool} {Q : Value × List Value → Shared → Prop} (X : (Mine.hd0.heap_1_1 w.params).In s.heap) (h : Q (.builtin "dict.items", [.ref 63]) s) :
    wpAny (model PySem.Challenge.rw_if0001_01.row.prog w) A (getMethod (.ref 63) (Str.ofString "items") pl) Q E s := by
  obtain ⟨kvs, hD⟩ := map_of X
  exact getMethod_builtin hD.typeIs PySem.F.plainAttrs_dict PySem.F.slot_dict_items PySem.F.type_dict_items hD.mapOf.noDict h
noncomputable def viewMap : Obj := { cls := .type "dict_items", data := .fields #[.ref 63] }
variable {h₀ : Heap} {L : Addr} {m : Str → Option Value} {news : Led}
theorem map_view {Q : Value → Shared → Prop} (X : (Mine.hd0.heap_1_1 w.params).In s.heap) (F : Fr h₀ L s.heap m) (N : News h₀ L s.heap news)
    (h : ∀ (D : Addr) h', Fr h₀ L h' m → News h₀ L h' ((D, viewMap) :: news) → (∀ q ∈ news, q.1 < D) → Q (.ref D) { s with heap := h' }) :
    wpAny (model PySem.Challenge.rw_if0001_01.row.prog w) A (call (.builtin "dict.items") [.ref 63]) Q E s := by
  obtain ⟨kvs, hD⟩ := map_of X
  exact call_meetsIn PySem.F.slot_dict_items hD.typeIs PySem.F.entry_dict_items (PySem.F.args_dict_items_1 _) (meets_dict_items (strKind _ w) 63 (by decide)) ⟨⟨kvs, hD⟩, h _ _ (F.push _) (News.push F N _) fun q hq => Heap.lt_size (N q hq).1⟩
theorem map_list {D : Addr} {Q : Value → Shared → Prop} (hh : A.handled = none) (X : (Mine.hd0.heap_1_1 w.params).In s.heap) (F : Fr h₀ L s.heap m) (N : News h₀ L s.heap news) (hm : (D, viewMap) ∈ news)
    (h : ∀ (l : Addr) h' tk acc c, Fr h₀ L h' m → News h₀ L h' ((l, listOf acc c) :: news) → (∀ q ∈ news, q.1 < l) → Q (.ref l) { s with heap := h', toks := tk }) :
    wpAny (model PySem.Challenge.rw_if0001_01.row.prog w) A (call (.type "list") [.ref D]) Q E s := by
  obtain ⟨kvs, ep, hD, hl⟩ := map_at X
  refine kdx_call hh ⟨_, (N _ hm).1, rfl, rfl⟩ hD (by rw [hl, sizeLine_eq]; decide) fun h' tk acc c as hk hS _ _ _ => ?_
  refine h _ h' tk acc c ⟨F.ns.at' fun o e => hk _ _ e, fun b o e => hk b o (F.keep b o e), F.above⟩ (fun p hp => ?_) fun q hq => Heap.lt_size (N q hq).1
  rcases List.mem_cons.mp hp with rfl | hp
  · refine ⟨hS, Nat.ne_of_gt F.ns.lt, next_is_new F⟩
  · exact ⟨hk _ _ (N p hp).1, (N p hp).2⟩
end
end Mine
end
section
open PySem PySem.W PySem.Calls PyProof.Rows
set_option maxRecDepth 100000
set_option maxHeartbeats 8000000
namespace Mine
open LCg
section
variable {prog : Program} {w : World} {A : Around} {E : Value → Shared → Prop} {s : Shared} {h₀ : Heap} {L : Addr} {m : Str → Option Value} {env : Env}
/-- a str as the source of a comprehension -/
noncomputable def SrcS (prog : Program) (w : World) (A : Around) (h₀ : Heap) (L : Addr) (m : Str → Option Value) (env : Env) (elt : Expr) (x : Str) (scope : Scope) (cl : List (Str × Addr)) (Fin : Shared → List Value → List (Addr × Obj) → Prop) (xv : Value) (s₁ : Shared) : Prop :=
  ∃ y t news, xv = .str y t ∧ A.handled = none ∧ Fr h₀ L s₁.heap m ∧ News h₀ L s₁.heap news ∧ y.cps.size ≤ sizeLine ∧
    ∀ s₂ : Shared, (∃ h, s₂ = { s₁ with heap := h }) → CompRest prog w A h₀ L m env elt x scope cl s₂ (fun _ => True) (SignAt y) (Fin s₂) y.cps.size 0 [] news
theorem SrcS.mk {elt : Expr} {x : Str} {scope : Scope} {cl : List (Str × Addr)} {Fin : Shared → List Value → List (Addr × Obj) → Prop} {y : Str} {t : Tok} {news : Led} {s₁ : Shared}
    (hh : A.handled = none) (F : Fr h₀ L s₁.heap m) (N : News h₀ L s₁.heap news) (hsz : y.cps.size ≤ sizeLine)
    (h : ∀ g, CompRest prog w A h₀ L m env elt x scope cl { s₁ with heap := g } (fun _ => True) (SignAt y) (Fin { s₁ with heap := g }) y.cps.size 0 [] news) :
    SrcS prog w A h₀ L m env elt x scope cl Fin (.str y t) s₁ := ⟨y, t, news, rfl, hh, F, N, hsz, fun _ ⟨g, e⟩ => e ▸ h g⟩
theorem striter_st {I : Addr} {nm : String} {y : Str} {t : Tok} {h₀ : Heap} {L : Addr} : ∀ i (h h' : Heap) (o : Obj) (nw : List (Addr × Obj)), h.IsStrIter I nm y t i → h.get? I = some o → h'.get? I = some o → (∀ b o, h₀.get? b = some o → h'.get? b = some o) → News h₀ L h' nw → True → h'.IsStrIter I nm y t i :=
  fun i h h' o nw st e e' _ _ _ => by obtain ⟨o', q, r⟩ := st; rw [e] at q; cases q; exact ⟨o, e', r⟩
theorem ListComp_S {elt iter : Expr} {x : Str} {px : Pos} {scope : Scope} {cl : List (Str × Addr)} {pos : Pos} {Q : Value → Shared → Prop} (_F₀ : Fr h₀ L s.heap m)
    (hclos : closureFor scope env = pure cl) (hcell : ∀ y ∈ scope.names, y.2 ≠ .cell) (hkind : scope.kind = .function)
    (hnames : ∀ y ∈ scope.names, y.2 = .local → scope.names.lookup y.1 = some .local) (hx : scope.names.lookup x = some .local)
    (h : wpAny (model prog w) A (eval iter env) (SrcS prog w A h₀ L m env elt x scope cl (fun s₂ => FinE h₀ L m s₂ Q)) E s)
    (hs : ∀ x, foldedSetIterable iter env x = pure x) :
    wpAny (model prog w) A (eval (.ListComp elt [⟨.Name x px, iter, [], 0⟩] scope pos) env) Q E s := by
  rw [eval_ListComp]
  refine wpAny_comprehension_free (use := none) rfl hs hclos hkind hnames (wpAny_mono h (fun xv s₁ h₁ => ?_) fun _ _ e => e)
  obtain ⟨y, t, news, rfl, hh, F, N, hsz, R⟩ := h₁
  have last : ∀ (s₂ : Shared) D C h tk m' ys news', Fr h₀ L h m → News h₀ L h ((D, lst ys) :: news') → Off1 D news' → h.Ns C m' → h₀.get? C = none → h₀.get? D = none → C ≠ L → D ≠ L → C ≠ D → (∀ p ∈ news', p.1 ≠ C) → FinE h₀ L m s₂ Q ys news' →
      h.Ns C m' ∧ ∀ h'', Heap.SameBut C h h'' → Q (.ref D) { s₂ with heap := h'', toks := tk } := by
    intro s₂ D C h tk m' ys news' F' N' o1 hn hC₀ hD₀ hCL hDL hCD offC fin
    refine ⟨hn, fun h'' hs'' => fin D h'' tk (F'.change hs'' hCL hC₀) (fun p hp => ?_) o1⟩
    refine ⟨hs''.extBut _ _ ?_ (N' p hp).1, (N' p hp).2⟩
    rcases List.mem_cons.mp hp with rfl | hp
    · exact Ne.symm hCD
    · exact offC p hp
  cases ha : y.cps.all (· < 128)
  · refine wpAny_pyIter_wide ha ?_
    refine block_U (Walks.strWide hh _ y t) hsz (fun i h st => by obtain ⟨o, e, _⟩ := st; exact ⟨o, e⟩) striter_st hcell hkind hx ⟨_, Heap.get?_push_size _ rfl, rfl, rfl⟩ (fun b hb => ?_)
      (F.keeps fun _ _ e => Heap.get?_push_of_some _ e) (N.grown fun _ _ e => Heap.get?_push_of_some _ e) (Nat.ne_of_lt F.ns.lt) (next_is_new F) (fun p hp => Nat.ne_of_lt (Heap.lt_size (N p hp).1)) trivial (R _ ⟨_, rfl⟩) ?_
    · rw [List.mem_singleton.mp hb]
      show s₁.heap.objs.size < (s₁.heap.push _).objs.size
      rw [Heap.size_push]; exact Nat.lt_succ_self _
    · intro D C h tk m' ys news' F' N' o1 hn hC₀ hD₀ hCL hDL hCD offC fin
      exact ⟨m', last _ D C h tk m' ys news' F' N' o1 hn hC₀ hD₀ hCL hDL hCD offC fin⟩
  · refine wpAny_pyIter_ascii ha ?_
    refine block_U (Walks.strAscii hh _ y t) hsz (fun i h st => by obtain ⟨o, e, _⟩ := st; exact ⟨o, e⟩) striter_st hcell hkind hx ⟨_, Heap.get?_push_size _ rfl, rfl, rfl⟩ (fun b hb => ?_)
      (F.keeps fun _ _ e => Heap.get?_push_of_some _ e) (N.grown fun _ _ e => Heap.get?_push_of_some _ e) (Nat.ne_of_lt F.ns.lt) (next_is_new F) (fun p hp => Nat.ne_of_lt (Heap.lt_size (N p hp).1)) trivial (R _ ⟨_, rfl⟩) ?_
    · rw [List.mem_singleton.mp hb]
      show s₁.heap.objs.size < (s₁.heap.push _).objs.size
      rw [Heap.size_push]; exact Nat.lt_succ_self _
    · intro D C h tk m' ys news' F' N' o1 hn hC₀ hD₀ hCL hDL hCD offC fin
      exact ⟨m', last _ D C h tk m' ys news' F' N' o1 hn hC₀ hD₀ hCL hDL hCD offC fin⟩
end
end Mine
end
section
open PySem PySem.W PySem.Calls PyProof.Rows
set_option maxRecDepth 100000
set_option maxHeartbeats 8000000
namespace Mine

noncomputable def refOf (c : Nat) : Str := if c = 38 then Str.ofString "&amp;" else if c = 60 then Str.ofString "&lt;" else if c = 62 then Str.ofString "&gt;" else if c = 13 then Str.ofString "&#xD;" else ⟨#[c]⟩
noncomputable def refsL (x : Str) : Str := Txt.join (Str.ofString "") (x.cps.toList.map refOf)
theorem join_cps : ∀ l : List Str, (Txt.join (Str.ofString "") l).cps.toList = l.flatMap fun a => a.cps.toList := by
  intro l
  show (Builtin.Str.glued (Str.ofString "") l).cps.toList = _
  rw [StrLaws.glued_eq_join]
  induction l with
  | nil => rfl
  | cons a r ih =>
    cases r with
    | nil => simp [Str.join]
    | cons b r =>
      show ((a ++ Str.ofString "" ++ Str.join (Str.ofString "") (b :: r)) : Str).cps.toList = _
      rw [Str.cps_append, Str.cps_append, Array.toList_append, Array.toList_append, ih]
      simp [show (Str.ofString "").cps.toList = [] from rfl]
theorem refOf_le (c : Nat) : (refOf c).length ≤ 5 := by
  unfold refOf
  split
  · decide
  split
  · decide
  split
  · decide
  split
  · decide
  · show 1 ≤ 5; omega
theorem flat_le {α : Type} (f : α → List Nat) (n : Nat) (h : ∀ a, (f a).length ≤ n) : ∀ l : List α, (l.flatMap f).length ≤ n * l.length := by
  intro z0
  induction z0 with
  | nil =>
    simp
  | cons a r ih0 =>
    have := ih0
    have h1 := h a
    rw [List.flatMap_cons, List.length_append, List.length_cons, Nat.mul_succ, Nat.add_comm]
    exact Nat.add_le_add this h1
theorem refsL_le (x : Str) : (refsL x).length ≤ 5 * x.length := by
  have e : (refsL x).length = (refsL x).cps.toList.length := by rw [Array.length_toList]; rfl
  rw [e]
  unfold refsL
  rw [join_cps]
  have := flat_le (fun a : Nat => (refOf a).cps.toList) 5 (fun a => by rw [Array.length_toList]; exact refOf_le a) x.cps.toList
  rw [Array.length_toList] at this
  rw [List.flatMap_map]
  exact this
theorem item_len {k : Int} (h0 : 0 ≤ k) (h6 : k < 6) : (Txt.item (Str.ofString "abcdef") k).length = 1 := by
  obtain ⟨n, rfl⟩ := Int.eq_ofNat_of_zero_le h0
  exact (by decide +kernel : ∀ n, n < 6 → (Txt.item (Str.ofString "abcdef") ((n : Nat) : Int)).length = 1) n (Int.ofNat_lt.mp h6)
noncomputable def leftS (xs : List Str) (ks : List Int) (pg : Str) (p : Int × Bool) : Str :=
  if (ks.any fun x => x == p.1) = true then (if p.2 = true then pg ++ (Str.ofString "<" ++ Txt.item (Str.ofString "abcdef") p.1 ++ Str.ofString ">" ++ refsL (xs.getD p.1.toNat Str.empty)) else pg ++ (Str.ofString "</" ++ Txt.item (Str.ofString "abcdef") p.1 ++ Str.ofString ">")) else pg
noncomputable def leftL (cs : List (Int × Bool)) (xs : List Str) (ks : List Int) : Str := cs.foldl (leftS xs ks) (Str.ofString "")
theorem look_ref (c : Nat) : ((PySem.Spec.lookup (.str ⟨#[c]⟩) [(.str (Str.ofString "&"), .str (Str.ofString "&amp;")), (.str (Str.ofString "<"), .str (Str.ofString "&lt;")), (.str (Str.ofString ">"), .str (Str.ofString "&gt;")), (.str (Str.ofString "\r"), .str (Str.ofString "&#xD;"))]).getD (.str ⟨#[c]⟩)) = PyData.str (refOf c) := by
  have key : ∀ (k : Nat) (y : Str) (hy : y = ⟨#[k]⟩), PySem.Spec.same (.str y) (.str ⟨#[c]⟩) = decide (c = k) := by
    intro k y hy
    subst hy
    by_cases e : c = k
    · subst e; rw [decide_eq_true rfl]; exact PySem.Spec.same_self _
    · rw [decide_eq_false e]
      cases q : PySem.Spec.same (.str ⟨#[k]⟩) (.str ⟨#[c]⟩) with
      | false => rfl
      | true =>
        have h : ((⟨#[k]⟩ : Str) == ⟨#[c]⟩) = true := q
        have h2 : (⟨#[k]⟩ : Str) = ⟨#[c]⟩ := eq_of_beq h
        injection h2 with h3
        simp at h3
        exact absurd h3.symm e
  unfold refOf
  simp only [PySem.Spec.lookup, key 38 (Str.ofString "&") rfl, key 60 (Str.ofString "<") rfl, key 62 (Str.ofString ">") rfl, key 13 (Str.ofString "\r") rfl, decide_eq_true_eq]
  by_cases h1 : c = 38
  · rw [if_pos h1, if_pos h1]; rfl
  rw [if_neg h1, if_neg h1]
  by_cases h2 : c = 60
  · rw [if_pos h2, if_pos h2]; rfl
  rw [if_neg h2, if_neg h2]
  by_cases h3 : c = 62
  · rw [if_pos h3, if_pos h3]; rfl
  rw [if_neg h3, if_neg h3]
  by_cases h4 : c = 13
  · rw [if_pos h4, if_pos h4]; rfl
  rw [if_neg h4, if_neg h4]
  rfl
theorem sum_le_len {α : Type} (f : α → Str) (n : Nat) (h : ∀ a, (f a).length ≤ n) : ∀ l : List α, ((l.map f).map (·.length)).sum ≤ n * l.length := by
  intro z0
  induction z0 with
  | nil =>
    simp
  | cons a r ih0 =>
    have h1 := ih0
    have h2 := h a
    rw [List.map_cons, List.map_cons, List.sum_cons, List.length_cons, Nat.mul_succ, Nat.add_comm]
    exact Nat.add_le_add h1 h2
theorem leftL_snoc {xs : List Str} {ks : List Int} (cs : List (Int × Bool)) (p : Int × Bool) : leftL (cs ++ [p]) xs ks = leftS xs ks (leftL cs xs ks) p := by unfold leftL; rw [List.foldl_append]; rfl
section
theorem S10_w1 : True := by
  k_with_none
  k_with "exec For Tuple Name cons nil" => ((k_here; (with_reducible rename Fr _ _ _ _ => lF'); (with_unfolding_all refine' For_turns lF' ?_)))
  k_with "pyIter ref" => ((with_reducible refine Stop.out ?_))
  k_with "InvEndG" => ((with_reducible refine Stop.out ?_))
  k_with "CompEnd" => ((with_reducible refine Stop.out ?_))
  k_with "SrcS" => ((with_reducible refine Stop.out ?_))
  k_with "call builtin:dict.get" => ((with_reducible refine Stop.out ?_))
  k_with "call builtin:str.join" => ((with_reducible refine Stop.out ?_))
  k_with "eval ListComp" => ((with_reducible refine Stop.out ?_))
  k_with "Halt" => ((with_reducible refine Stop.out ?_))
  k_with "execs cons" => (k_here; first | with_reducible refine th_one ?_ | with_reducible refine th_cons ?_)
  k_with "Th" => (first | ((with_reducible refine' th_next (s₀ := s) ?F ?_ ?e); (case F => assumption); (case e => with_reducible rfl); (try clear tk9); intro tk9) | with_reducible refine th_ret ?_)
  trivial
theorem left_spec (w : World) (loose : List Str) (mean : ExcName → Option Value) (mg mb : Str → Option Value) (A : Around) (s : Shared) (Q E : Value → Shared → Prop) (lc lt lk : Addr) (cs : List (Int × Bool)) (xs : List Str) (ks : List Int) :
    Room 10 80 A → (Mine.hd0.heap_1_1 w.params).In s.heap → Top topProg loose mean mg mb s.heap → (DatAt s.heap (.ref lc) (dCalls cs)) → (DatAt s.heap (.ref lt) (dStrs xs)) → (DatAt s.heap (.ref lk) (dInts ks)) → (cs.length ≤ 12) → (xs.length ≤ 6) → (ks.length ≤ 6) → (∀ p ∈ cs, 0 ≤ p.1 ∧ p.1 < xs.length) → (∀ x ∈ xs, x.length ≤ 20) → (1 ≤ s.toks) →
    Ends s Q (fun v h => ∃ t, v = .str (leftL cs xs ks) t) →
    wpAny (model PySem.Challenge.rw_if0001_01.row.prog w) A (call (.ref 258) [.ref lc, .ref lt, .ref lk]) Q E s := by
  k_fill
  intro R X T h0 h1 h2 h3 h4 h5 h6 h7 h8 ret
  obtain ⟨hh, dp, fr, gd, un⟩ := A
  obtain ⟨hA, hdp, hun⟩ := R
  cases hA
  dsimp only at hdp hun
  refine' pcallC (binds := [(Str.ofString "calls", .ref lc), (Str.ofString "texts", .ref lt), (Str.ofString "kept", .ref lk)]) (by assumption) (by assumption) ?hd ?ho ?hcd ?hb ?hkd ?hnd ?h1 ?h2 ?h3 ?_
  (case ho => k_is)
  (case hcd => k_is)
  (case hd => ((try dsimp only); (try simp only [recursionLimit]); omega))
  (case hb => first | exact BindsTo.of_eq rfl | exact binds_K (by assumption) rfl (by k_is) rfl rfl rfl)
  (case hkd => exact rfl)
  (case hnd => decide +kernel)
  (case h1 => exact rfl)
  (case h2 => exact rfl)
  (case h3 => exact rfl)
  k_whole
  intro L' h' tk' cells' F' N' Y'
  k_cells Y'
  (try simp only [List.cons_append, List.nil_append] at N')
  (try dsimp only)
  (try k_fold)
  refine (let ev : Env := _; let ae : Around := _; (?_ : wpAny _ ae (execs _ ev) _ _ _))
  with_reducible refine hide1 ?_; intro QF hQF
  obtain ⟨nsc, vc, hOc, hAc, hLc⟩ := h0.list
  obtain ⟨nst, vt, hOt, hAt, hLt⟩ := h1.list
  obtain ⟨nsk, vk, hOk, hAk, hLk⟩ := h2.list
  have hSt := strs_of hAt
  have hIk := ints_of hAk
  have hzt := hSt.length
  have hzk := hIk.length
  k_steps
  refine Stop.mk ?_
  rename_i hh0 oR loR hdR hfR apR l1 hh1 oC dC zz hh2 N
  have lF := lF'
  obtain ⟨dR, edR⟩ : ∃ dR, dR = h'.objs.size := ⟨_, rfl⟩
  have tab : ∀ h : Heap, h.get? dR = some oR → TabAt (PySem.strKind PySem.Challenge.rw_if0001_01.row.prog w) PyData.str h dR [(.str (Str.ofString "&"), .str (Str.ofString "&amp;")), (.str (Str.ofString "<"), .str (Str.ofString "&lt;")), (.str (Str.ofString ">"), .str (Str.ofString "&gt;")), (.str (Str.ofString "\r"), .str (Str.ofString "&#xD;"))] := fun h e => ⟨edR ▸ loR, _, Heap.dictOf_iff.mpr ⟨oR, e, hdR⟩, hfR⟩
  have dC' : oC.data = .cell (some (.ref dR)) := by rw [dC, edR]
  rw [← edR] at N l1 loR
  clear hdR hfR loR apR dC edR
  refine' turns_B (σ := Str × Tok) (fun _ => [(dR, oR), (L' + 1, oC)]) (fun c => [(Str.ofString "texts", .ref lt), (Str.ofString "kept", .ref lk), (Str.ofString "page", .str c.1 c.2)])
    (fun i c => c.1 = leftL (cs.take i) xs ks ∧ c.1.length ≤ 110 * i) (Str.ofString "", _) rfl hLc lF N ?hn ?hk ?hp ?turn ?done
  case hn => intro p hp; exact hp
  case hk => intro p hp; simp only [List.mem_cons, List.not_mem_nil, or_false] at hp; rcases hp with rfl | rfl | rfl <;> rfl
  case hp => exact ⟨rfl, Nat.le_refl _⟩
  case turn =>
    rintro i v ⟨pg, pt⟩ u h tk own hv hP ho F N
    dsimp only at hP F N
    (first | with_reducible refine hide2 ?_ | with_reducible refine hide1 ?_); intro QT hQT
    obtain ⟨hP, hpl⟩ := hP
    have hi12 : i < 12 := by
      have := (List.getElem?_eq_some_iff.mp hv).1
      have h9 := hAc.length
      rw [List.length_map] at h9
      omega
    have hpl2 : pg.length ≤ 1400 := Nat.le_trans hpl (Nat.le_trans (Nat.mul_le_mul_left 110 (Nat.le_of_lt hi12)) (by decide))
    obtain ⟨k, b, hcs, TT, kt, rfl, hT⟩ : ∃ k b, cs[i]? = some (k, b) ∧ ∃ TT kt, v = .ref TT ∧ IsTup s.heap TT #[.int k kt, .bool b] := by
      have hi : i < (cs.map dCall).length := by
        rw [← hAc.length]; exact (List.getElem?_eq_some_iff.mp hv).1
      obtain ⟨v', h1, h2⟩ := hAc.get hi
      rw [hv] at h1
      cases h1
      have hi' : i < cs.length := by simpa using hi
      rw [List.getElem_map] at h2
      generalize hp : cs[i] = pp at h2
      obtain ⟨k, b⟩ := pp
      cases h2 with
      | tuple hm hall =>
        cases hall with
        | cons a r => cases a with
          | int k t =>
            cases r with
            | cons a r =>
              cases a with
              | bool b =>
                cases r
                exact ⟨k, b, by rw [List.getElem?_eq_getElem hi', hp], _, t, rfl, _, hOc _ hm, rfl, _, rfl⟩
    have hT' : IsTup h TT #[.int k kt, .bool b] := hT.keeps F.keep
    have hkk := h6 (k, b) (List.mem_of_getElem? hcs)
    dsimp only at hkk
    obtain ⟨hk0, hkx⟩ := hkk
    have hk6 : k < 6 := by omega
    by_cases hm : (ks.any fun x => x == k) = true
    · cases b
      · k_steps
        refine Stop.mk ?_
        have e9 : leftS xs ks pg (k, false) = pg ++ (Str.ofString "</" ++ Txt.item (Str.ofString "abcdef") k ++ Str.ofString ">") := by unfold leftS; rw [if_pos hm, if_neg (by simp)]
        (with_reducible rename Fr _ _ _ _ => F9)
        (with_reducible rename News _ _ _ _ => N9)
        refine hQT _ _ ?_
        refine' js_end (c := (leftS xs ks pg (k, false), _)) F9 N9 (fun p hp => List.mem_append.mpr (.inl hp)) (fun p hp => List.mem_append.mpr (.inr hp)) ho ?jk1 ⟨?jp1, ?jl1⟩
        case jk1 => intro p hp; simp only [List.mem_cons, List.not_mem_nil, or_false] at hp; rcases hp with rfl | rfl | rfl; rfl; rfl; (show _ = some (Value.str (leftS xs ks pg (k, false)) _)); rw [e9]; rfl
        case jp1 => dsimp only; rw [List.take_add_one, hcs]; show _ = leftL (cs.take i ++ [(k, _)]) xs ks; rw [leftL_snoc, ← hP]
        case jl1 => dsimp only; rw [e9]; simp only [Str.length_append, item_len hk0 hk6, show (Str.ofString "</").length = 2 from rfl, show (Str.ofString ">").length = 1 from rfl]; exact Nat.add_le_add hpl (show 2 + 1 + 1 ≤ 110 by decide)
      · k_steps
        refine Stop.mk ?_
        (with_reducible rename Fr _ _ _ _ => F3)
        (with_reducible rename News _ _ _ _ => N3)
        refine ListComp_S F3 (by with_unfolding_all rfl) (by decide) (by rfl) (by decide) (by rfl) ?_ (by intro _; rfl)
        k_steps
        refine Stop.mk ?_
        have hxm : xs.getD k.toNat Str.empty ∈ xs := by
          rw [List.getD_eq_getElem?_getD, List.getElem?_eq_getElem (by omega)]
          exact List.getElem_mem _
        have hxl := h7 _ hxm
        have hrl := refsL_le (xs.getD k.toNat Str.empty)
        refine SrcS.mk (by rfl) F3 N3 (by rw [sizeLine_eq]; show (xs.getD k.toNat Str.empty).length ≤ _; omega) ?_
        intro g'
        refine comp_turns (σ := Unit) (fun _ => [(dR, oR), (L' + 1, oC)] ++ own) (fun j ys _ => StrsAre ys (((xs.getD k.toNat Str.empty).cps.toList.take j).map refOf)) ?turn ?fin _ 0 [] () (Nat.zero_add _) .nil
        case turn =>
          intro j ys _ v I oI C oC2 D m₂ h tk E' hj hP2 hv2 hC hx2 F4 N4 off ne
          obtain ⟨c, u2, hc, rfl⟩ := hv2
          dsimp only at N4 off ⊢
          have hT4 := tab h (N4 _ (.tail _ (.tail _ (.tail _ (.head _))))).1
          k_steps
          refine Stop.mk ?_
          refine call_get2_strTab (x := ⟨#[c]⟩) (dd := .str ⟨#[c]⟩) (by exact hT4) (.str _ _) fun v hv => ?_
          rw [look_ref] at hv
          obtain ⟨t9, rfl⟩ := hv.str_inv
          k_steps
          refine Stop.mk ?_
          refine LCg.CompEnd.intro F4 N4 _ (fun p hp => hp) off trivial ⟨(), rfl, ?_⟩
          rw [List.take_add_one, Array.getElem?_toList, hc, List.map_append]
          exact strs_snoc hP2
        case fin =>
          intro ys _ hP2
          intro D h tk F4 N4 off
          dsimp only at *
          have hP3 : StrsAre ys ((xs.getD k.toNat Str.empty).cps.toList.map refOf) := by
            rw [List.take_of_length_le (by rw [Array.length_toList]; exact Nat.le_refl _)] at hP2; exact hP2
          k_steps
          refine Stop.mk ?_
          refine join_listW (items := ys.toArray) (isList_N (s := ⟨_, _, _, _, _⟩) (n := ys.length) (vs := ys) N4 (.head _)) hP3 (by decide) (by
            have h9 := sum_le_len refOf 5 refOf_le (xs.getD k.toNat Str.empty).cps.toList
            rw [List.length_map, Array.length_toList]
            have h8 : (xs.getD k.toNat Str.empty).cps.size ≤ 20 := hxl
            rw [Array.length_toList] at h9
            omega) fun t7 k7 => ?_
          have hjl : (Txt.join (Str.ofString "") ((xs.getD k.toNat Str.empty).cps.toList.map refOf)).length ≤ 100 := Nat.le_trans hrl (by omega)
          k_steps
          refine Stop.mk ?_
          have e9 : leftS xs ks pg (k, true) = pg ++ (Str.ofString "<" ++ Txt.item (Str.ofString "abcdef") k ++ Str.ofString ">" ++ refsL (xs.getD k.toNat Str.empty)) := by unfold leftS; rw [if_pos hm, if_pos rfl]
          (with_reducible rename Fr _ _ _ _ => F9)
          (with_reducible rename News _ _ _ _ => N9)
          refine hQT _ _ ?_
          refine' js_end (c := (leftS xs ks pg (k, true), _)) F9 N9 (fun p hp => .tail _ (List.mem_append.mpr (.inl hp))) (fun p hp => .tail _ (List.mem_append.mpr (.inr hp))) ho ?jk2 ⟨?jp2, ?jl2⟩
          case jk2 => intro p hp; simp only [List.mem_cons, List.not_mem_nil, or_false] at hp; rcases hp with rfl | rfl | rfl; rfl; rfl; (show _ = some (Value.str (leftS xs ks pg (k, true)) _)); rw [e9]; rfl
          case jp2 => dsimp only; rw [List.take_add_one, hcs]; show _ = leftL (cs.take i ++ [(k, _)]) xs ks; rw [leftL_snoc, ← hP]
          case jl2 => dsimp only; rw [e9]; simp only [Str.length_append, item_len hk0 hk6, show (Str.ofString "<").length = 1 from rfl, show (Str.ofString ">").length = 1 from rfl]; exact Nat.add_le_add hpl (Nat.le_trans (Nat.add_le_add_left (show (refsL (xs.getD k.toNat Str.empty)).length ≤ 100 from hjl) _) (by decide))
    · k_steps
      refine Stop.mk ?_
      have e9 : leftS xs ks pg (k, b) = pg := by unfold leftS; rw [if_neg hm]
      (with_reducible rename Fr _ _ _ _ => F9)
      (with_reducible rename News _ _ _ _ => N9)
      refine hQT _ _ ?_
      refine' js_end (c := (leftS xs ks pg (k, b), _)) F9 N9 (fun p hp => List.mem_append.mpr (.inl hp)) (fun p hp => List.mem_append.mpr (.inr hp)) ho ?jk3 ⟨?jp3, ?jl3⟩
      case jk3 => intro p hp; simp only [List.mem_cons, List.not_mem_nil, or_false] at hp; rcases hp with rfl | rfl | rfl; rfl; rfl; (show _ = some (Value.str (leftS xs ks pg (k, b)) _)); rw [e9]; rfl
      case jp3 => dsimp only; rw [List.take_add_one, hcs]; show _ = leftL (cs.take i ++ [(k, _)]) xs ks; rw [leftL_snoc, ← hP]
      case jl3 => dsimp only; rw [e9]; exact Nat.le_trans hpl (Nat.le_add_right _ 110)
  case done =>
    rintro ⟨pg, pt⟩ u h tk ⟨hP, hpl⟩ F N
    dsimp only at hP F N
    k_steps
    have hvl : vc.length = cs.length := by rw [hAc.length, List.length_map]
    rw [hvl, List.take_length] at hP
    (try refine Stop.mk ?_)
    exact hQF _ _ (ret _ _ _ (Fr.keep F) ⟨pt, by rw [hP]⟩)
end
theorem S10_w2 : True := by
  k_with_none
  trivial
end Mine
end
theorem Mine.Tr_w0 : True := by
  k_with_none
  trivial
section
open PySem PySem.W PySem.Calls PyProof.Rows
set_option maxRecDepth 100000
set_option maxHeartbeats 8000000
namespace Mine
section
variable {σ : Type} {prog : Program} {w : World} {A : Around} {E : Value → Shared → Prop} {s : Shared} {env : Env} {h₀ : Heap} {body : List Stmt} {Q : Flow → Shared → Prop}
/-- over a range by ones, the name of the turn stored as the walk stores it (a cell too) -/
theorem turns_R {x : Str} {px : Pos} {r : Addr} {a₀ b₀ : Int} {t₀ u₀ v₀ : Tok} {n : Nat} {m₀ : Str → Option Value} {news : Led} (L : σ → Led) (ps : σ → List (Str × Value)) (P : Nat → σ → Prop) (c₀ : σ)
    (hh : A.handled = none) (hr : IsRange s.heap r a₀ b₀ 1 t₀ u₀ v₀) (hsmall : Builtin.Range.small a₀ b₀ 1 = true) (hsz : Builtin.Range.rangeSize a₀ b₀ 1 = (n : Int)) (F : Fr h₀ env.locals s.heap m₀) (N : News h₀ env.locals s.heap news) (hn : ∀ p ∈ L c₀, p ∈ news) (hk : ∀ p ∈ ps c₀, m₀ p.1 = some p.2) (hp : P 0 c₀)
    (turn : ∀ (i : Nat) (t : Tok) (c : σ) (u : Str → Option Value) h tk own, i < n → P i c → OwnOff own ((L c).map (·.1)) →
      Fr h₀ env.locals h (kstB u (ps c)) → News h₀ env.locals h (L c ++ own) →
      wpAny (model prog w) A (assign (.Name x px) env (.int (a₀ + (i : Int)) t)) (fun _ s₂ => wpAny (model prog w) A (execs body env) (InvPostG h₀ env.locals (JS L ps P (i + 1)) own { s with heap := h, toks := tk } Q) E s₂) E { s with heap := h, toks := tk })
    (done : ∀ (c : σ) (u : Str → Option Value) h tk, P n c → Fr h₀ env.locals h (kstB u (ps c)) → News h₀ env.locals h (L c) → Q .next { s with heap := h, toks := tk }) :
    wpAny (model prog w) A (pyIter (.ref r)) (fun it s₂ => TurnsAt prog w A h₀ env (.Name x px) body Q E it s₂) E s := by
  refine wpAny_pyIter_range hr hsmall ?_
  have W0 : Walks prog w A s.heap.objs.size [s.heap.objs.size] [s.heap.objs.size] n (fun i v => i < n ∧ ∃ t, v = .int (a₀ + i * 1) t)
      (fun i h => IsRangeIter h s.heap.objs.size (a₀ + (i : Nat) * 1) ((n : Int) - (i : Nat)) 1) := (Walks.range hh _ a₀ 1 n).bound
  have W := KTurns.ofWalks (target := .Name x px) W0 fun i v s Q E st q => by unfold letOwnedTupleGo; exact wpAny_pure q
  have N0 : News h₀ env.locals s.heap (L c₀) := fun p hp => N p (hn p hp)
  refine ⟨_, _, _, n, _, _, _, m₀, L c₀, (fun i m nx => JS L ps P i m nx), rfl, W, ?_, ?_, ?_, (by show IsRangeIter _ _ _ _ _; rw [hsz]; simpa using Heap.get?_push_size _ rfl), F.push _, (fun p hp => ⟨Heap.get?_push_of_some _ (N0 p hp).1, (N0 p hp).2⟩), ⟨c₀, rfl, hk, hp⟩, ?_, ?_⟩
  · intro hm
    exact absurd F.ns.lt ((List.mem_singleton.mp hm) ▸ Nat.lt_irrefl _)
  · intro b hb
    rw [List.mem_singleton.mp hb]
    exact next_is_new F
  · intro p hp hI
    exact absurd (Heap.lt_size (N0 p hp).1) ((List.mem_singleton.mp hI) ▸ Nat.lt_irrefl _)
  · intro i v m₁ news₁ hh' tk' own hin zz8 zz9 hoff hown _ hfp hst F₁ N₁
    with_reducible refine hideG ?_
    intro G0 hG0
    obtain ⟨_, t, rfl⟩ := zz8
    obtain ⟨c, rfl, h1, hp'⟩ := zz9
    with_reducible refine hG0 ?_
    clear hG0 G0
    have hI0 : h₀.get? s.heap.objs.size = none := next_is_new F
    have hoI := id hst
    unfold IsRangeIter at hoI
    have hIown := hfp _ (List.mem_cons.mpr (.inl rfl)) hI0 _ hoI
    have hsep : OwnOff own ((L c).map (·.1)) := by
      intro p hp b hb e
      obtain ⟨q, hq, rfl⟩ := List.mem_map.mp hb
      exact hoff q hq (List.mem_singleton.mpr (e ▸ List.mem_singleton.mp (hown p hp)))
    have N₂ : News h₀ env.locals hh' (L c ++ own) := fun p hp => N₁ p ((List.mem_append.mp hp).elim (fun h => List.mem_append.mpr (.inr h)) fun h => List.mem_append.mpr (.inl h))
    have e1 : a₀ + (i : Int) * 1 = a₀ + (i : Int) := by omega
    rw [e1]
    refine wpAny_mono (turn i t c m₁ hh' tk' own hin hp' hsep (fr_B F₁ h1) N₂) (fun _ s₂ h₂ => wpAny_mono h₂ (fun f s₃ p => ?_) fun _ _ e => e) fun _ _ e => e
    cases f with
    | ret v => exact .ret p
    | brk => exact .brk p
    | next => exact .next (inv_step hIown p)
    | cont => exact .cont (inv_step hIown p)
  · rintro h' tk m' news' F' N' _ ⟨c, rfl, h1, hp'⟩
    exact done c m' h' tk hp' (fr_B F' h1) N'
end
end Mine
end
section
open PySem PySem.W PySem.Calls PyProof.Rows
set_option maxRecDepth 100000
set_option maxHeartbeats 8000000
namespace Mine
noncomputable def boundOf (id : String) (v : Value) : Obj := { cls := .type "builtin_function_or_method", data := .fields #[.builtin id, v] }
theorem args_join2 (a b : Value) : (match Manifest.signature? "str.join" with | some sig => Bind.checkArgs "str.join" { sig with full := s!"{Bind.lastOf "str"}.{Bind.lastOf "str.join"}" } ⟨[a, b], []⟩ | none => pure ()) = pure () := by kernel_rfl
theorem kind_join : builtinKind "str.join" = some .method := by kernel_rfl
theorem sub_str_module : isSubtype (.type "str") (.type "module") = pure false := by rw [isSubtype_type]; kernel_rfl
section
variable {prog : Program} {w : World} {A : Around} {E : Value → Shared → Prop} {s : Shared}
theorem check_join {z : Str} {zt : Tok} {v : Value} {Q : Unit → Shared → Prop} (h : Q () s) : wpAny (model prog w) A (checkBoundCall "str.join" ⟨[.str z zt, v], []⟩) Q E s := by
  have hT : s.TypeIs (.str z zt) "str" := typeIs_str _ _ _
  unfold checkBoundCall
  have ha := args_join2 (.str z zt) v
  cases hsig : Manifest.signature? "str.join" with
  | none => exact wpAny_pure h
  | some sig =>
    rw [hsig] at ha
    rw [kind_join]
    dsimp only
    rw [if_neg (by decide)]
    refine wpAny_bind (wpAny_isInstance hT sub_str_module ?_)
    rw [if_neg (by decide +kernel)]
    unfold isType
    dsimp only
    refine wpAny_bind (wpAny_of_eq (a := false) rfl ?_)
    show wpAny _ _ (if false = true then _ else _) _ _ _
    rw [if_neg Bool.false_ne_true]
    refine wpAny_bind (wpAny_typeOf hT ?_)
    dsimp only at ha ⊢
    rw [ha]
    exact wpAny_pure h
theorem quiet_join {as : Args} : (Code.builtin "str.join" as).quiet = true := Code.quiet_builtin _ (by decide +kernel)
theorem join_bound {b l : Addr} {items : Array Value} {ys : List Str} {z : Str} {zt : Tok} {Q : Value → Shared → Prop} (hb : s.heap.get? b = some (boundOf "str.join" (.str z zt))) (hl : s.heap.IsList l items) (hi : StrsAre items.toList ys) (hok : (ys.map (·.length)).sum + ys.length * z.length ≤ 16777216)
    (h : ∀ t' k, Q (.str (Txt.join z ys) t') { s with toks := k }) : wpAny (model prog w) A (call (.ref b) [.ref l]) Q E s := by
  obtain ⟨ll, hv, ht⟩ := strsAre_values hi
  have e : items = (strValues ll).toArray := by rw [← hv]
  subst e
  refine wpAny_call (codeAny_of_tree ?_)
  show wpAny _ A.in1 (callAny (.ref b) ⟨[.ref l], []⟩) _ _ s
  refine wpAny_bind (wpAny_load hb ?_)
  dsimp only [boundOf]
  rw [if_pos (by decide)]
  refine KFB.if_so (by decide) ?_
  refine wpAny_bind (check_join ?_)
  refine wpAny_bind (wpAny_pure (wpAny_pure ?_))
  refine ⟨quiet_join, codeAny_builtin PySem.F.entry_str_join ?_⟩
  have hok' := joinOk_of hok
  subst ht
  unfold JoinOk at hok'
  rw [Bool.not_eq_true'] at hok'
  rw [Around.under_plainId (show plainId "str.join" = true by decide +kernel) _]
  exact meets_str_join_list z zt l ll hok' prog w A (fun r s' => match r with | .ok (.ret v) => Q v s' | .ok _ => False | .error e => E e s') s ⟨hl, post_join ll ⟨joinFit_length hok', h⟩⟩
theorem callWith_bo {b : Addr} {id : String} {v : Value} {pos : Pos} {first : List Value} {args : List (Bool × Sem Value)} {Q : Value → Shared → Prop} (hplain : args.any (·.1) = false)
    (h : wpAny (model prog w) A (evalArgs (.ref b) true args []) (fun x s₁ => s₁.heap.get? b = some (boundOf id v) ∧ wpAny (model prog w) A (call (.ref b) (first ++ x.pos) x.kw) Q E s₁) E s) : wpAny (model prog w) A (callWith pos (.ref b) first args []) Q E s := by
  unfold callWith
  refine wpAny_bind (wpAny_holding (wpAny_mono h (fun x s₁ h₁ => wpAny_bind (wpAny_standAt ?_)) fun _ _ x => x))
  obtain ⟨ho, hcall⟩ := h₁
  simp only [hplain, List.any_nil, Bool.or_false]
  refine wpAny_bind (m := keeperOf (.ref b)) ?_
  unfold keeperOf
  refine wpAny_bind (wpAny_load ho ?_)
  dsimp only [boundOf]
  rw [if_pos (by decide), if_pos (by decide)]
  refine wpAny_pure ?_
  exact wpAny_bind (wpAny_mono hcall (fun r s₂ hr => wpAny_bind (wpAny_holding (wpAny_point (wpAny_pure hr)))) fun _ _ x => x)
end
end Mine
end
section
open PySem PySem.W PySem.Calls PyProof.Rows
set_option maxRecDepth 100000
set_option maxHeartbeats 8000000
namespace Mine
theorem look_slice_index : typeLookup (.type "slice") "__index__" = pure none := by rw [typeLookup_type, builtinLookup_eq_fast]; kernel_rfl
section
variable {prog : Program} {w : World} {A : Around} {E : Value → Shared → Prop} {s : Shared}
noncomputable def sliceAll : Obj := { cls := .type "slice", data := .fields #[.none, .none, .none] }
theorem del_tree {l S : Addr} {v : Value} {n : Nat} {P : PySem.Fin → Shared → Prop} (hl : s.heap.get? l = some (listOf #[v] n)) (hS : s.heap.get? S = some sliceAll)
    (h : ∀ h' tk, s.toks ≤ tk → Heap.SameBut l s.heap h' → h'.get? l = some (listOf #[] (n + 1)) → P (.done (.ret .none)) { s with heap := h', toks := tk }) :
    wpAny (model prog w) A (Builtin.«list.__delitem__» ⟨[.ref l, .ref S], []⟩) P E s := by
  have hT : s.TypeIs (.ref l) "list" := ⟨_, hl, rfl⟩
  have hTS : s.TypeIs (.ref S) "slice" := ⟨_, hS, rfl⟩
  have k1 := look_slice_index
  unfold Builtin.«list.__delitem__»
  repeat (any_goals (first | assumption | wp_step))
  all_goals (try (unfold Builtin.List.listSliceParts))
  repeat (any_goals (first | assumption | wp_step))
  refine h _ s.toks (Nat.le_refl _) (Heap.SameBut.update ..) ?_
  rw [Heap.get?_update_self _ hl (by rfl)]
  rfl
theorem del_all {h₀ : Heap} {L : Addr} {m : Str → Option Value} {news news' : Led} {l : Addr} {v : Value} {n : Nat} {Q : Unit → Shared → Prop} (F : Fr h₀ L s.heap m) (N : News h₀ L s.heap news) (U : Upd l (listOf #[v] n) (listOf #[] (n + 1)) news news')
    (h : ∀ h' tk, Fr h₀ L h' m → News h₀ L h' news' → s.toks ≤ tk → Q () { s with heap := h', toks := tk }) :
    wpAny (model prog w) A (delItem (.ref l) (.ref s.heap.objs.size)) Q E { s with heap := s.heap.push sliceAll } := by
  obtain ⟨pre, post, rfl, rfl, a, c⟩ := U.split
  have z := N (l, listOf #[v] n) (List.mem_append.mpr (.inr (.head _)))
  have hS : (s.heap.push sliceAll).get? s.heap.objs.size = some sliceAll := Heap.get?_push_size _ rfl
  have hl : (s.heap.push sliceAll).get? l = some (listOf #[v] n) := Heap.get?_push_of_some _ z.1
  have F1 : Fr h₀ L (s.heap.push sliceAll) m := F.push _
  have N1 : News h₀ L (s.heap.push sliceAll) (pre ++ (l, listOf #[v] n) :: post) := fun p hp => ⟨Heap.get?_push_of_some _ (N _ hp).1, (N _ hp).2⟩
  refine wpAny_delItem_slot (s := ⟨_, _, _, _, _⟩) ⟨_, hl, rfl⟩ (by decide) PySem.F.slot_list_delitem ?_
  refine wpAny_call_entry PySem.F.slot_list_delitem (s := ⟨_, _, _, _, _⟩) ⟨_, hl, rfl⟩ PySem.F.entry_list_delitem ?_ (PySem.F.args_list_delitem_2 _ _)
  refine del_tree hl hS fun h' tk ht hs ho' => ⟨_, rfl, ?_⟩
  exact h h' tk (F1.change hs z.2.1 z.2.2) (news_set N1 a c hs ho') ht
end
end Mine
end
section
open PySem PySem.W PySem.Calls PyProof.Rows
set_option maxRecDepth 100000
set_option maxHeartbeats 8000000
namespace Mine
/-- the names of a writer and what they hold -/
noncomputable def wEs (P : Params) (k : Nat → Tok) (bm ld et dn ns pm ps : Nat) (seen done : Bool) (ig : Int) (igt : Tok) : List DictEntry := [{ hash := PyData.keyHash P (Str.ofString "_write"), key := .str (Str.ofString "_write") (k 0), val := .ref bm },
  { hash := PyData.keyHash P (Str.ofString "_data"), key := .str (Str.ofString "_data") (k 1), val := .ref ld },
  { hash := PyData.keyHash P (Str.ofString "_with_comments"), key := .str (Str.ofString "_with_comments") (k 2), val := .bool false },
  { hash := PyData.keyHash P (Str.ofString "_strip_text"), key := .str (Str.ofString "_strip_text") (k 3), val := .bool false },
  { hash := PyData.keyHash P (Str.ofString "_exclude_attrs"), key := .str (Str.ofString "_exclude_attrs") (k 4), val := .none },
  { hash := PyData.keyHash P (Str.ofString "_exclude_tags"), key := .str (Str.ofString "_exclude_tags") (k 5), val := .ref et },
  { hash := PyData.keyHash P (Str.ofString "_rewrite_prefixes"), key := .str (Str.ofString "_rewrite_prefixes") (k 6), val := .bool false },
  { hash := PyData.keyHash P (Str.ofString "_qname_aware_tags"), key := .str (Str.ofString "_qname_aware_tags") (k 7), val := .none },
  { hash := PyData.keyHash P (Str.ofString "_find_qname_aware_attrs"), key := .str (Str.ofString "_find_qname_aware_attrs") (k 8), val := .none },
  { hash := PyData.keyHash P (Str.ofString "_declared_ns_stack"), key := .str (Str.ofString "_declared_ns_stack") (k 9), val := .ref dn },
  { hash := PyData.keyHash P (Str.ofString "_ns_stack"), key := .str (Str.ofString "_ns_stack") (k 10), val := .ref ns },
  { hash := PyData.keyHash P (Str.ofString "_prefix_map"), key := .str (Str.ofString "_prefix_map") (k 11), val := .ref pm },
  { hash := PyData.keyHash P (Str.ofString "_preserve_space"), key := .str (Str.ofString "_preserve_space") (k 12), val := .ref ps },
  { hash := PyData.keyHash P (Str.ofString "_pending_start"), key := .str (Str.ofString "_pending_start") (k 13), val := .none },
  { hash := PyData.keyHash P (Str.ofString "_root_seen"), key := .str (Str.ofString "_root_seen") (k 14), val := .bool seen },
  { hash := PyData.keyHash P (Str.ofString "_root_done"), key := .str (Str.ofString "_root_done") (k 15), val := .bool done },
  { hash := PyData.keyHash P (Str.ofString "_ignored_depth"), key := .str (Str.ofString "_ignored_depth") (k 16), val := .int ig igt }]

/-- the frame of the caller while a generator rests -/
theorem ns_view {g hA h3 h1 : Heap} {L Lg Rv I : Addr} {oR oI oL : Obj} {m : Str → Option Value} {news : Led} (F : Fr g L hA m) (N : News g L hA news) (eL : Lg = hA.objs.size) (k3 : ∀ b o, hA.get? b = some o → h3.get? b = some o)
    (k1 : ∀ b o, b ≠ Lg → h3.get? b = some o → h1.get? b = some o) (hR : h1.get? Rv = some oR) (hI : h1.get? I = some oI) (nR : h3.get? Rv = none) (nI : h3.get? I = none) (hL : h1.get? Lg = some oL) :
    Fr g L h1 m ∧ News g L h1 ((Rv, oR) :: (I, oI) :: (Lg, oL) :: news) := by
  have kk : ∀ b o, hA.get? b = some o → h1.get? b = some o := fun b o e => k1 b o (by rw [eL]; exact Nat.ne_of_lt (Heap.lt_size e)) (k3 b o e)
  have old : ∀ b, h3.get? b = none → b ≠ L ∧ g.get? b = none := fun b hb => by
    refine ⟨fun q => ?_, ?_⟩
    · obtain ⟨o, _, _, ho, _⟩ := F.ns
      rw [q, k3 _ _ ho] at hb; cases hb
    · cases q : g.get? b with
      | none => rfl
      | some o => rw [k3 _ _ (F.keep _ _ q)] at hb; cases hb
  refine ⟨⟨F.ns.keeps kk, fun b o e => kk b o (F.keep b o e), F.above⟩, fun p hp => ?_⟩
  rcases List.mem_cons.mp hp with rfl | hp
  · exact ⟨hR, old _ nR⟩
  rcases List.mem_cons.mp hp with rfl | hp
  · exact ⟨hI, old _ nI⟩
  rcases List.mem_cons.mp hp with rfl | hp
  · exact ⟨hL, by rw [eL]; exact Nat.ne_of_gt F.ns.lt, by rw [eL]; exact next_is_new F⟩
  · exact ⟨kk _ _ (N p hp).1, (N p hp).2⟩
/-- the caller's frame at the loop's end -/
theorem ns_back {g h3 h4 : Heap} {L Lg : Addr} {m : Str → Option Value} {news : Led} (F : Fr g L h3 m) (N : News g L h3 news) (hb : ∀ p ∈ news, p.1 < Lg) (hL : L < Lg)
    (k : ∀ b o, h3.get? b = some o → (b < Lg ∨ (o.cls ≠ .type "list_iterator" ∧ o.cls ≠ .type "list_reverseiterator")) → h4.get? b = some o) : Fr g L h4 m ∧ News g L h4 news := by
  refine ⟨⟨?_, fun b o e => k b o (F.keep b o e) (.inl (Nat.lt_trans (Nat.lt_of_lt_of_le (Heap.lt_size e) F.above) hL)), F.above⟩, fun p hp => ⟨k _ _ (N p hp).1 (.inl (hb p hp)), (N p hp).2⟩⟩
  exact F.ns.at' fun o e => k _ _ e (.inl hL)
theorem owned_go {prog : Program} {w : World} {A : Around} {E : Value → Shared → Prop} {s : Shared} {G T : Addr} {g : Nat} {els : List Expr} {c : Nat} {p : Pos} {Q : Unit → Shared → Prop} (hG : s.heap.IsGen G g) (h : Q () s) :
    wpAny (model prog w) A (letOwnedTupleGo (.Tuple els c p) (.ref G) (.ref T)) Q E s := by
  obtain ⟨o, nm, qn, ho, hc, hd, _⟩ := hG
  unfold letOwnedTupleGo
  refine wpAny_bind (wpAny_load ho ?_)
  rw [hc, hd]
  exact wpAny_pure h

noncomputable def tupObj (vs : Array Value) : Obj := { cls := .type "tuple", data := .seq vs }
theorem fr_stay {h₀ h h' : Heap} {L : Addr} {m : Str → Option Value} (F : Fr h₀ L h m) (k : h.StaysIn h') : Fr h₀ L h' m := ⟨F.ns.keeps k, fun b o e => k b o (F.keep b o e), F.above⟩
theorem news_stay {h₀ h h' : Heap} {L : Addr} {news : Led} (N : News h₀ L h news) (k : h.StaysIn h') : News h₀ L h' news := fun p hp => ⟨k _ _ (N p hp).1, (N p hp).2⟩
section
variable {prog : Program} {w : World} {A : Around} {E : Value → Shared → Prop} {s : Shared}
theorem callWith_bo1 {b : Addr} {id : String} {v : Value} {pos : Pos} {e : Expr} {env : Env} {Q : Value → Shared → Prop}
    (h : wpAny (model prog w) A (eval e env) (fun x s₁ => s₁.heap.get? b = some (boundOf id v) ∧ wpAny (model prog w) A (call (.ref b) [x]) Q E s₁) E s) (ht : backTo pos (starEach [e] env) = [(false, eval e env)] := by rfl) :
    wpAny (model prog w) A (callWith pos (.ref b) [] (backTo pos (starEach [e] env)) []) Q E s := by
  rw [ht]
  exact callWith_bo rfl (evalArgs_plain (spliced_cons (wpAny_mono h (fun x s₁ q => spliced_nil q) fun _ _ q => q)))
end
section
variable {prog : Program} {w : World} {A : Around} {E : Value → Shared → Prop} {s : Shared}
theorem news_tl {h₀ h : Heap} {L : Addr} {a : Addr × Obj} {l : Led} (N : News h₀ L h (a :: l)) : News h₀ L h l := fun p hp => N p (List.mem_cons_of_mem _ hp)
theorem popU {h₀ : Heap} {L D : Addr} {m : Str → Option Value} {news news' : Led} {vs : List Value} {y : Value} {n : Nat} {Q : Value → Shared → Prop} (F : Fr h₀ L s.heap m) (N : News h₀ L s.heap news) (U : Upd D (listOf (vs ++ [y]).toArray n) (listOf vs.toArray (n + 1)) news news') (hz : vs.length ≤ 1000)
    (h : ∀ h', Fr h₀ L h' m → News h₀ L h' news' → Q y { s with heap := h' }) :
    wpAny (model prog w) A (call (.builtin "list.pop") [.ref D]) Q E s :=
  kl_pop F N (p := vs) (y := y) (kpa_last y vs) U (by rw [List.length_append, List.length_singleton, sizeLine_eq]; omega) h
end
end Mine
end
section
open PySem PySem.W PySem.Calls PyProof.Rows
set_option maxRecDepth 100000
set_option maxHeartbeats 8000000
namespace Mine
section
variable {σ : Type} {prog : Program} {w : World} {A : Around} {E : Value → Shared → Prop} {s : Shared} {env : Env} {h₀ : Heap} {target : Expr} {body : List Stmt} {Q : Flow → Shared → Prop}
/-- a turn's end, generators and all -/
inductive TurnEndC (h₀ : Heap) (Lc : Addr) (G₀ : Array GenState) (D : Drawn) (O : OsState) (I : Addr) (oI : Obj) (L : σ → Led) (ps : σ → List (Str × Value)) (P : σ → Prop) (f : Flow) (s₃ : Shared) : Prop
  | mk (ef : f = .next) (h' : Heap) (tk' : Tok) (G' : Array GenState) (m' : Str → Option Value) (c' : σ) (e : s₃ = ⟨h', G', D, tk', O⟩) (hg : Grown G₀ G') (F : Fr h₀ Lc h' m') (hk : ∀ p ∈ ps c', m' p.1 = some p.2) (N : News h₀ Lc h' ((I, oI) :: L c')) (off : ∀ p ∈ L c', p.1 ≠ I) (hp : P c')
noncomputable abbrev TurnEnd (h₀ : Heap) (Lc : Addr) (s : Shared) (I : Addr) (oI : Obj) (L : σ → Led) (ps : σ → List (Str × Value)) (P : σ → Prop) (f : Flow) (s₃ : Shared) : Prop := TurnEndC h₀ Lc s.gens s.drawn s.os I oI L ps P f s₃
/-- the loop's state -/
inductive LoopInv (h₀ : Heap) (Lc : Addr) (s : Shared) (I : Addr) (L : σ → Led) (ps : σ → List (Str × Value)) (P : Nat → σ → Prop) (St : Nat → Heap → Prop) (n k : Nat) (s' : Shared) : Prop
  | mk (h : Heap) (tk : Tok) (G : Array GenState) (m : Str → Option Value) (c : σ) (i : Nat) (e : s' = ⟨h, G, s.drawn, tk, s.os⟩) (hst : St i h) (F : Fr h₀ Lc h m) (hk : ∀ p ∈ ps c, m p.1 = some p.2) (N : News h₀ Lc h (L c)) (off : ∀ p ∈ L c, p.1 ≠ I) (hp : P i c) (hg : Grown s.gens G) (hi : i ≤ n) (ek : k = n + 1 - i)
theorem loop_G {R : Result → Shared → Prop} {I : Addr} {fp : List Addr} {n : Nat} {Pv : Nat → Value → Prop} {St : Nat → Heap → Prop} {m₀ : Str → Option Value} (L : σ → Led) (ps : σ → List (Str × Value)) (P : Nat → σ → Prop) (c₀ : σ)
    (W : Walks prog w A I fp [I] n Pv St)
    (hgo : ∀ i v (s : Shared) (Q : Unit → Shared → Prop) (E : Value → Shared → Prop), St i s.heap → Q () s → wpAny (model prog w) A (letOwnedTupleGo target (.ref I) v) Q E s)
    {C : Obj → Prop} (hIo : ∀ i h, St i h → ∃ o, h.get? I = some o ∧ C o) (hfp : ∀ b ∈ fp, b ≠ I → ∃ o, h₀.get? b = some o) (hI0 : h₀.get? I = none) (hIL : I ≠ env.locals)
    (hst : St 0 s.heap) (F : Fr h₀ env.locals s.heap m₀) (N : News h₀ env.locals s.heap (L c₀)) (hoff : ∀ p ∈ L c₀, p.1 ≠ I) (hk : ∀ p ∈ ps c₀, m₀ p.1 = some p.2) (hp : P 0 c₀)
    (turn : ∀ (i : Nat) (v : Value) (c : σ) (u : Str → Option Value) h tk G oI, C oI → i < n → Pv i v → P i c → Grown s.gens G → (∀ p ∈ L c, p.1 ≠ I) → Fr h₀ env.locals h (kstB u (ps c)) → News h₀ env.locals h ((I, oI) :: L c) →
      wpAny (model prog w) A (assign target env v) (fun _ s₂ => wpAny (model prog w) A (execs body env) (TurnEnd h₀ env.locals s I oI L ps (P (i + 1))) (notedBy (model prog w) A env fun e s' => R (.error e) s') s₂) (notedBy (model prog w) A env fun e s' => R (.error e) s') ⟨h, G, s.drawn, tk, s.os⟩)
    (done : ∀ (c : σ) (u : Str → Option Value) h tk G, P n c → Grown s.gens G → Fr h₀ env.locals h (kstB u (ps c)) → News h₀ env.locals h (L c) → R (.ok .next) ⟨h, G, s.drawn, tk, s.os⟩) :
    codeAny (model prog w) A (.forLoop target (.ref I) body [] env) R s := by
  refine codeAny_forLoop_any (LoopInv h₀ env.locals s I L ps P St n) ?_ (n + 1)
    ⟨s.heap, s.toks, s.gens, m₀, c₀, 0, rfl, hst, F, hk, N, hoff, hp, Grown.refl _, Nat.zero_le _, rfl⟩
  intro k s' zz2
  with_reducible refine hideG ?_
  intro G0 hG0
  obtain ⟨h, tk, G, m, c, i, rfl, hst', F', hk', N', hoff', hp', hg', hi, rfl⟩ := zz2
  with_reducible refine hG0 ?_
  clear hG0 G0
  have next : ∀ h₁ : Heap, (∀ b o, b ∉ [I] → h.get? b = some o → h₁.get? b = some o) → Fr h₀ env.locals h₁ m ∧ News h₀ env.locals h₁ (L c) := fun h₁ hk₁ =>
    ⟨⟨F'.ns.at' fun o e => hk₁ _ o (by simpa using Ne.symm hIL) e, fun b o e => hk₁ b o (by simp only [List.mem_singleton]; rintro rfl; rw [hI0] at e; cases e) (F'.keep b o e), F'.above⟩, fun p hp => ⟨hk₁ _ _ (by simpa using hoff' p hp) (N' p hp).1, (N' p hp).2⟩⟩
  by_cases hlt : i < n
  · refine W.item i _ _ _ hlt hst' fun v h₁ tk₁ hPv st₁ hk₁ => ?_
    refine hgo (i + 1) v _ _ _ st₁ ?_
    obtain ⟨F₁, N₁⟩ := next h₁ hk₁
    obtain ⟨oI, heI, hCI⟩ := hIo _ _ st₁
    refine wpAny_mono (turn i v c m h₁ tk₁ G oI hCI hlt hPv hp' hg' hoff' (fr_B F₁ hk') (fun p hp => ?_)) (fun _ s₂ h₂ => wpAny_mono h₂ (fun f s₃ q => ?_) fun _ _ e => e) fun _ _ e => e
    · rcases List.mem_cons.mp hp with rfl | hp
      · exact ⟨heI, hIL, hI0⟩
      · exact N₁ p hp
    · with_reducible refine hideG ?_
      intro G0 hG0
      obtain ⟨rfl, h', tk', G', m', c', rfl, hg2, F2, hk2, N2, hoff2, hp2⟩ := q
      with_reducible refine hG0 ?_
      clear hG0 G0
      refine ⟨n + 1 - (i + 1), Nat.sub_lt_sub_left (Nat.lt_succ_of_lt hlt) (Nat.lt_succ_self i), h', tk', G', m', c', i + 1, rfl, ?_, F2, hk2, fun p hp => N2 p (.tail _ hp), hoff2, hp2, hg2, hlt, rfl⟩
      refine W.frame _ _ _ st₁ fun b hb o e => ?_
      by_cases q : b = I
      · subst q
        rw [heI] at e; cases e
        exact (N2 _ (.head _)).1
      · obtain ⟨o', e'⟩ := hfp b hb q
        have := F₁.keep b o' e'
        rw [e] at this; cases this
        exact F2.keep b _ e'
  · have hin : i = n := Nat.le_antisymm hi (Nat.le_of_not_lt hlt)
    subst hin
    refine W.done _ _ _ hst' fun h₁ tk₁ hk₁ => wpAny_execs_nil ?_
    obtain ⟨F₁, N₁⟩ := next h₁ hk₁
    exact done c m h₁ tk₁ G hp' hg' (fr_B F₁ hk') N₁
/-- for .. in a list that stands below -/
theorem For_G {iter : Expr} {pos : Pos} {l : Addr} {vs : List Value} {m₀ : Str → Option Value} (L : σ → Led) (ps : σ → List (Str × Value)) (P : Nat → σ → Prop) (c₀ : σ)
    (hh : A.handled = none) (hl : h₀.IsList l vs.toArray) (F : Fr h₀ env.locals s.heap m₀) (N : News h₀ env.locals s.heap (L c₀)) (hk : ∀ p ∈ ps c₀, m₀ p.1 = some p.2) (hp : P 0 c₀)
    (hit : wpAny (model prog w) A (eval iter env) (fun xv s₁ => xv = .ref l ∧ s₁ = s) E s)
    (turn : ∀ (i : Nat) (v : Value) (c : σ) (u : Str → Option Value) h tk G I oI, oI.cls = .type "list_iterator" → (∃ j, oI.data = .fields #[.ref l, .int j 0]) → vs[i]? = some v → P i c → Grown s.gens G → (∀ p ∈ L c, p.1 ≠ I) → Fr h₀ env.locals h (kstB u (ps c)) → News h₀ env.locals h ((I, oI) :: L c) →
      wpAny (model prog w) A (assign target env v) (fun _ s₂ => wpAny (model prog w) A (execs body env) (TurnEnd h₀ env.locals s I oI L ps (P (i + 1))) E s₂) E ⟨h, G, s.drawn, tk, s.os⟩)
    (done : ∀ (c : σ) (u : Str → Option Value) h tk G, P vs.length c → Grown s.gens G → Fr h₀ env.locals h (kstB u (ps c)) → News h₀ env.locals h (L c) → Q .next ⟨h, G, s.drawn, tk, s.os⟩)
    (hs : ∀ x, foldedSetIterable iter env x = pure x)
    (hE : PassesOwn (model prog w) A env E) :
    wpAny (model prog w) A (exec (.For target iter body [] pos) env) Q E s := by
  refine wpAny_For (wpAny_mono hit (fun xv s₁ h₁ => ?_) fun _ _ e => e) hs
  obtain ⟨rfl, rfl⟩ := h₁
  have hls : s₁.heap.IsList l vs.toArray := hl.at fun o e => F.keep l o e
  obtain ⟨ol, hol, _⟩ := id hl
  have hlt : l < h₀.objs.size := Heap.lt_size hol
  have hne : l ≠ s₁.heap.objs.size := Nat.ne_of_lt (Nat.lt_trans (Nat.lt_of_lt_of_le hlt F.above) F.ns.lt)
  refine wpAny_pyIter_list hls ?_
  have W := Walks.list (prog := prog) (w := w) hh s₁.heap.objs.size l hne vs.toArray
  rw [show vs.toArray.size = vs.length from by simp] at W
  refine loop_G (s := { s₁ with heap := s₁.heap.push { cls := .type "list_iterator", data := .fields #[.ref l, .int 0 0] } }) L ps P c₀ W (fun i v s Q E st q => letGo_listiter st.1 q) (C := fun o => o.cls = .type "list_iterator" ∧ ∃ j, o.data = .fields #[.ref l, .int j 0]) (fun i h st => let ⟨o, e, a, b⟩ := st.1; ⟨o, e, a, _, b⟩) (fun b hb q => ?_) (next_is_new F) (Nat.ne_of_gt F.ns.lt)
    ⟨⟨_, Heap.get?_push_size _ rfl, rfl, rfl⟩, hls.at fun o e => Heap.get?_push_of_some _ e⟩ (F.push _) (fun p hp => ⟨Heap.get?_push_of_some _ (N p hp).1, (N p hp).2⟩) (fun p hp => Nat.ne_of_lt (Heap.lt_size (N p hp).1)) hk hp ?_ ?_
  · rcases List.mem_cons.mp hb with e | hb
    · exact absurd e q
    · rw [List.mem_singleton.mp hb]; exact ⟨_, hol⟩
  · intro i v c u h tk G oI hC hi hv hP hg hoff F1 N1
    exact wpAny_mono (turn i v c u h tk G _ oI hC.1 hC.2 (by simpa using hv) hP hg hoff F1 N1) (fun _ _ x => wpAny_passesOwn hE x) hE
  · exact done
end
end Mine
end
section
open PySem PySem.W PySem.Calls PyProof.Rows
set_option maxRecDepth 100000
set_option maxHeartbeats 8000000
namespace Mine
/-- what a writer has told: how deep in the element left out, the text that waits, whether the page has begun, the pieces, how many elements are open -/
structure WS where
  ig : Nat
  dat : Option Str
  seen : Bool
  parts : List Str
  dep : Nat
noncomputable def tagL (k : Int) : Str := Txt.item (Str.ofString "abcdef") k
noncomputable def WS.flushed (s : WS) : List Str := match s.dat with
  | some y => if y = Str.ofString "" ∨ s.seen = false then s.parts else s.parts ++ [escL y]
  | none => s.parts
noncomputable def wStep (gone : Str) (xs : List Str) (s : WS) (p : Int × Bool) : WS :=
  if p.2 = true then
    if s.ig ≠ 0 ∨ tagL p.1 = gone then { s with ig := s.ig + 1 }
    else { ig := 0, dat := some (xs.getD p.1.toNat Str.empty), seen := true, parts := s.flushed ++ [Str.ofString "<" ++ tagL p.1] ++ [Str.ofString ">"], dep := s.dep + 1 }
  else if s.ig ≠ 0 then { s with ig := s.ig - 1 }
  else { s with dat := none, parts := s.flushed ++ [Str.ofString "</" ++ tagL p.1 ++ Str.ofString ">"], dep := s.dep - 1 }
noncomputable def wStart : WS := { ig := 0, dat := none, seen := false, parts := [], dep := 0 }
noncomputable def wRun (gone : Str) (xs : List Str) (cs : List (Int × Bool)) : WS := cs.foldl (wStep gone xs) wStart
noncomputable def writtenL (gone : Str) (xs : List Str) (cs : List (Int × Bool)) : Str := Txt.join (Str.ofString "") (wRun gone xs cs).parts
/-- each end ends an element that was begun -/
noncomputable def wFair (gone : Str) (xs : List Str) (cs : List (Int × Bool)) : Prop :=
  ∀ i p, cs[i]? = some p → p.2 = false → (wRun gone xs (cs.take i)).ig = 0 → 1 ≤ (wRun gone xs (cs.take i)).dep
theorem wRun_snoc (gone : Str) (xs : List Str) (cs : List (Int × Bool)) (p : Int × Bool) : wRun gone xs (cs ++ [p]) = wStep gone xs (wRun gone xs cs) p := by
  unfold wRun; rw [List.foldl_append]; rfl
theorem flushed_le (s : WS) : s.flushed.length ≤ s.parts.length + 1 := by
  unfold WS.flushed
  split
  · split
    · exact Nat.le_succ _
    · rw [List.length_append, List.length_singleton]; exact Nat.le_refl _
  · exact Nat.le_succ _
theorem wStep_le (gone : Str) (xs : List Str) (s : WS) (p : Int × Bool) : (wStep gone xs s p).parts.length ≤ s.parts.length + 3 ∧ (wStep gone xs s p).dep ≤ s.dep + 1 ∧ (wStep gone xs s p).ig ≤ s.ig + 1 := by
  have := flushed_le s
  unfold wStep
  split
  · split
    · exact ⟨Nat.le_add_right _ 3, Nat.le_succ _, Nat.le_refl _⟩
    · refine ⟨?_, Nat.le_refl _, Nat.zero_le _⟩
      rw [List.length_append, List.length_append]
      exact Nat.add_le_add_right (Nat.add_le_add_right this 1) 1
  · split
    · exact ⟨Nat.le_add_right _ 3, Nat.le_succ _, Nat.le_trans (Nat.sub_le _ _) (Nat.le_succ _)⟩
    · refine ⟨?_, Nat.le_trans (Nat.sub_le _ _) (Nat.le_succ _), Nat.le_succ _⟩
      rw [List.length_append]
      exact Nat.le_trans (Nat.add_le_add_right this 1) (Nat.le_succ _)
theorem wRun_le (gone : Str) (xs : List Str) : ∀ cs : List (Int × Bool), ∀ s : WS, (cs.foldl (wStep gone xs) s).parts.length ≤ s.parts.length + 3 * cs.length ∧ (cs.foldl (wStep gone xs) s).dep ≤ s.dep + cs.length ∧ (cs.foldl (wStep gone xs) s).ig ≤ s.ig + cs.length := by
  intro z0
  induction z0 with
  | nil =>
    rintro s
    simp
  | cons p r ih0 =>
    rintro s
    have h1 := wStep_le gone xs s p
    have h2 := ih0 (wStep gone xs s p)
    rw [List.foldl_cons, List.length_cons]
    have e1 : ∀ {x y c l : Nat}, x ≤ y + l → y ≤ c + 1 → x ≤ c + (l + 1) := fun a b => Nat.le_trans a (by rw [Nat.add_comm _ 1, ← Nat.add_assoc]; exact Nat.add_le_add_right b _)
    refine ⟨Nat.le_trans h2.1 ?_, e1 h2.2.1 h1.2.1, e1 h2.2.2 h1.2.2⟩
    rw [Nat.mul_succ, Nat.add_comm (3 * _), ← Nat.add_assoc]
    exact Nat.add_le_add_right h1.1 _
theorem wRun_at (gone : Str) (xs : List Str) (cs : List (Int × Bool)) (i : Nat) (hi : i ≤ 12) : (wRun gone xs (cs.take i)).parts.length ≤ 36 ∧ (wRun gone xs (cs.take i)).dep ≤ 12 ∧ (wRun gone xs (cs.take i)).ig ≤ 12 := by
  have h := wRun_le gone xs (cs.take i) wStart
  have hl : (cs.take i).length ≤ 12 := Nat.le_trans (List.length_take_le _ _) hi
  have e1 : ∀ {x l : Nat}, x ≤ 0 + l → l ≤ 12 → x ≤ 12 := fun a b => Nat.le_trans a (by rw [Nat.zero_add]; exact b)
  exact ⟨Nat.le_trans h.1 (show 0 + 3 * _ ≤ 36 by rw [Nat.zero_add]; exact Nat.mul_le_mul_left 3 hl), e1 h.2.1 hl, e1 h.2.2 hl⟩
theorem wStep_dat (gone : Str) (xs : List Str) (hx : ∀ x ∈ xs, x.length ≤ 20) (s : WS) (p : Int × Bool) (hs : ∀ y, s.dat = some y → y.length ≤ 20) : ∀ y, (wStep gone xs s p).dat = some y → y.length ≤ 20 := by
  intro y
  unfold wStep
  split
  · split
    · exact hs y
    · intro e
      injection e with e
      rw [← e, List.getD_eq_getElem?_getD]
      cases q : xs[p.1.toNat]? with
      | none => exact Nat.zero_le _
      | some z => exact hx z (List.mem_of_getElem? q)
  · split
    · exact hs y
    · intro e; cases e
theorem wRun_dat (gone : Str) (xs : List Str) (hx : ∀ x ∈ xs, x.length ≤ 20) (cs : List (Int × Bool)) : ∀ s : WS, (∀ y, s.dat = some y → y.length ≤ 20) → ∀ y, (cs.foldl (wStep gone xs) s).dat = some y → y.length ≤ 20 := by
  induction cs with
  | nil => exact fun s h => h
  | cons p r ih => exact fun s h => ih _ (wStep_dat gone xs hx s p h)
theorem escL_len (x : Str) : (escL x).length ≤ 625 * x.length := by
  have h1 := subS_len 38 (Str.ofString "&amp;") x (by decide)
  have h2 := subS_len 60 (Str.ofString "&lt;") (subS 38 (Str.ofString "&amp;") x) (by decide)
  have h3 := subS_len 62 (Str.ofString "&gt;") (subS 60 (Str.ofString "&lt;") (subS 38 (Str.ofString "&amp;") x)) (by decide)
  have h4 := subS_len 13 (Str.ofString "&#xD;") (subS 62 (Str.ofString "&gt;") (subS 60 (Str.ofString "&lt;") (subS 38 (Str.ofString "&amp;") x))) (by decide)
  unfold escL
  exact Nat.le_trans h4 (Nat.le_trans (Nat.mul_le_mul_left 5 (Nat.le_trans h3 (Nat.mul_le_mul_left 5 (Nat.le_trans h2 (Nat.mul_le_mul_left 5 h1))))) (by rw [← Nat.mul_assoc, ← Nat.mul_assoc, ← Nat.mul_assoc]; exact Nat.le_refl _))
theorem flushed_pl (s : WS) (hd : ∀ y, s.dat = some y → y.length ≤ 20) (hs : ∀ q ∈ s.parts, q.length ≤ 12500) : ∀ q ∈ s.flushed, q.length ≤ 12500 := by
  intro q hq
  unfold WS.flushed at hq
  split at hq
  · rename_i y hy
    split at hq
    · exact hs q hq
    · rcases List.mem_append.mp hq with hq | hq
      · exact hs q hq
      · rw [List.mem_singleton.mp hq]
        exact Nat.le_trans (escL_len y) (Nat.mul_le_mul_left 625 (hd y hy))
  · exact hs q hq
theorem wStep_pl (gone : Str) (xs : List Str) (s : WS) (p : Int × Bool) (ht : (tagL p.1).length ≤ 1) (hd : ∀ y, s.dat = some y → y.length ≤ 20) (hs : ∀ q ∈ s.parts, q.length ≤ 12500) : ∀ q ∈ (wStep gone xs s p).parts, q.length ≤ 12500 := by
  intro q
  have hf := flushed_pl s hd hs
  unfold wStep
  split
  · split
    · exact hs q
    · intro hq
      rcases List.mem_append.mp hq with hq | hq
      · rcases List.mem_append.mp hq with hq | hq
        · exact hf q hq
        · rw [List.mem_singleton.mp hq, Str.length_append]
          exact Nat.le_trans (Nat.add_le_add_left ht _) (show 1 + 1 ≤ 12500 by decide)
      · rw [List.mem_singleton.mp hq]
        exact (show 1 ≤ 12500 by decide)
  · split
    · exact hs q
    · intro hq
      rcases List.mem_append.mp hq with hq | hq
      · exact hf q hq
      · rw [List.mem_singleton.mp hq, Str.length_append, Str.length_append]
        exact Nat.le_trans (Nat.add_le_add_right (Nat.add_le_add_left ht _) _) (show 2 + 1 + 1 ≤ 12500 by decide)
theorem wRun_pl (gone : Str) (xs : List Str) (hx : ∀ x ∈ xs, x.length ≤ 20) : ∀ (cs : List (Int × Bool)), (∀ p ∈ cs, (tagL p.1).length ≤ 1) → ∀ s : WS, (∀ y, s.dat = some y → y.length ≤ 20) → (∀ q ∈ s.parts, q.length ≤ 12500) → ∀ q ∈ (cs.foldl (wStep gone xs) s).parts, q.length ≤ 12500 := by
  intro z0
  induction z0 with
  | nil =>
    rintro _ _ _ hs
    exact hs
  | cons p r ih0 =>
    rintro ht s hd hs
    exact ih0 (fun q hq => ht q (.tail _ hq)) _ (wStep_dat gone xs hx s p hd) (wStep_pl gone xs s p (ht p (.head _)) hd hs)
theorem sum_pl (B : Nat) : ∀ l : List Str, (∀ q ∈ l, q.length ≤ B) → (l.map (·.length)).sum ≤ B * l.length := by
  intro z0
  induction z0 with
  | nil =>
    rintro _
    simp
  | cons q r ih0 =>
    rintro h
    have h1 := h q (.head _)
    have h2 := ih0 fun z hz => h z (.tail _ hz)
    rw [List.map_cons, List.sum_cons, List.length_cons, Nat.mul_succ, Nat.add_comm]
    exact Nat.add_le_add h2 h1
theorem wRun_next (gone : Str) (xs : List Str) (cs : List (Int × Bool)) {i : Nat} {p : Int × Bool} (h : cs[i]? = some p) : wRun gone xs (cs.take (i + 1)) = wStep gone xs (wRun gone xs (cs.take i)) p := by
  rw [List.take_add_one, h]
  exact wRun_snoc _ _ _ _
end Mine
end
section
open PySem PySem.W PySem.Calls PyProof.Rows
set_option maxRecDepth 100000
set_option maxHeartbeats 8000000
namespace Mine
section
variable {prog : Program} {w : World} {A : Around} {E : Value → Shared → Prop} {s : Shared}
noncomputable def tab1 (j : Nat) (led plain : Bool) : SetTable := { mask := 7, place := #[j], dummies := #[], finger := 0, led := led, moves := 0, plain := plain }
noncomputable def setObj0 (led : Bool) : Obj := { cls := .type "set", dict := none, data := .set #[] 0 (.fresh 0 0 led) }
noncomputable def setObj1 (H : Int) (x : Str) (t : Tok) (led : Bool) : Obj := { cls := .type "set", dict := none, data := .set #[(H, .str x t)] 1 (tab1 (SetTable.bits H % 8) led false) }
theorem tab1_fits (j : Nat) (led plain : Bool) : (tab1 j led plain).fits 1 = true := rfl
theorem tab1_full (j : Nat) (led plain : Bool) : (tab1 j led plain).tooFull = false := rfl
theorem lay_fresh (led : Bool) (H : Int) (v : Value) : layNew (.fresh 0 0 led) #[] H v = (#[(H, v)], tab1 (SetTable.bits H % 8) led true, false, false) := rfl
theorem scan_none (a : Addr) (x : Str) (t : Tok) (H : Int) : setScan a (.str x t) H true #[] = pure ScanMet.absent := by
  simp [setScan, setScanStrs]
theorem setAdd_fresh {a : Addr} {led : Bool} {x : Str} {t : Tok} {Q : Bool → Shared → Prop} (ho : s.heap.get? a = some (setObj0 led))
    (h : ∀ h' tk, h'.get? a = some (setObj1 ((strKind prog w).hash x) x t led) → Heap.SameBut a s.heap h' → Q true { s with heap := h', toks := tk }) :
    wpAny (model prog w) A (setAdd a (.str x t)) Q E s := by
  unfold setAdd
  refine wpAny_holding ?_
  refine wpAny_bind ((strKind prog w).pyHash (k := x) (strKind_is _ _ _ _) ?_)
  unfold setAddHashed setAddHashedIn
  refine wpAny_holding (wpAny_bind (wpAny_setState_of (s := { s with toks := s.toks + 1 }) ho rfl rfl ?_))
  dsimp only
  rw [show byScan (.str x t) #[] = true from by simp [byScan, scanBound, show (Value.str x t).scannable = true from rfl]]
  simp only [↓reduceIte]
  unfold setAddByScan
  refine wpAny_bind ?_
  refine wpAny_bind (wpAny_rule ?_)
  refine wpAny_bind ?_
  rw [scan_none]
  refine wpAny_pure ?_
  dsimp only
  rw [lay_fresh]
  dsimp only
  refine wpAny_bind (wpAny_pure ?_)
  rw [if_pos (show (tab1 (SetTable.bits ((strKind prog w).hash x) % 8) led true).plain = true from rfl)]
  refine wpAny_bind ?_
  rw [hashByValue_scannable 8 (show (Value.str x t).scannable = true from rfl)]
  refine wpAny_pure ?_
  rw [if_neg (show ¬ (plainKind (.str x t) = true) from Bool.false_ne_true)]
  refine wpAny_bind (wpAny_storeSet_of ho rfl ?_ (by show 1 ≤ sizeLine; rw [sizeLine_eq]; omega))
  rw [if_neg (by exact Bool.false_ne_true)]
  refine wpAny_pure (wpAny_pure ?_)
  refine h _ _ ?_ (Heap.SameBut.update _ a _)
  exact Heap.get?_update_self (Obj.putSet #[((strKind prog w).hash x, .str x t)] (tab1 (SetTable.bits ((strKind prog w).hash x) % 8) led false)) ho rfl

theorem owner_seti : Manifest.owners.lookup (String.ofList ['r', 'o', 't', 'a', 'r', 'e', 't', 'i', '_', 't', 'e', 's'].reverse) = some Manifest.sig_set_iterator := by kernel_rfl
theorem slot_seti_next : Slot "set_iterator" "__next__" "set_iterator.__next__" :=
  .of (owner := "set_iterator") (n := "__next__") (by rw [typeLookup_type, builtinLookup_eq_fast]; kernel_rfl) (by decide +kernel) (by decide +kernel) (by decide +kernel)
    (by first | exact .inl (by decide +kernel) | exact .inr (by decide +kernel)) (by rw [isSubtype_type]; kernel_rfl)
theorem args_seti_next (a : Value) : argsOk "set_iterator.__next__" ⟨[a], []⟩ := by
  unfold argsOk; rw [signature?_of (id := "set_iterator.__next__") (n := ['_', '_', 't', 'x', 'e', 'n', '_', '_']) (o := ['r', 'o', 't', 'a', 'r', 'e', 't', 'i', '_', 't', 'e', 's']) (by kernel_rfl) owner_seti]; kernel_rfl
theorem entry_seti_next : entryFor table "set_iterator.__next__" = some Builtin.«set_iterator.__next__» := entryFor_of_tree (by kernel_rfl)
theorem slot_seti_iter : Slot "set_iterator" "__iter__" "set_iterator.__iter__" :=
  .of (owner := "set_iterator") (n := "__iter__") (by rw [typeLookup_type, builtinLookup_eq_fast]; kernel_rfl) (by decide +kernel) (by decide +kernel) (by decide +kernel)
    (by first | exact .inl (by decide +kernel) | exact .inr (by decide +kernel)) (by rw [isSubtype_type]; kernel_rfl)
theorem args_seti_iter (a : Value) : argsOk "set_iterator.__iter__" ⟨[a], []⟩ := by
  unfold argsOk; rw [signature?_of (id := "set_iterator.__iter__") (n := ['_', '_', 'r', 'e', 't', 'i', '_', '_']) (o := ['r', 'o', 't', 'a', 'r', 'e', 't', 'i', '_', 't', 'e', 's']) (by kernel_rfl) owner_seti]; kernel_rfl
theorem entry_seti_iter : entryFor table "set_iterator.__iter__" = some Builtin.«dict_keyiterator.__iter__» :=
  entryFor_alias (id' := "dict_keyiterator.__iter__") (by kernel_rfl) rfl (by decide +kernel) (by kernel_rfl)
theorem entry_set_iter : entryFor table "set.__iter__" = some Builtin.«frozenset.__iter__» :=
  entryFor_alias (id' := "frozenset.__iter__") (by kernel_rfl) rfl (by decide +kernel) (by kernel_rfl)
theorem pick_one {α : Type} (next : Nat → Nat) (x : α) : pickOrder next #[x] = #[x] := by
  have e : next 0 % 1 = 0 := Nat.mod_one _
  show (match ([x] : List α)[next 0 % 1]? with | some y => pickOrder.go next 0 1 (([x] : List α).eraseIdx (next 0 % 1)) ((#[] : Array α).push y) | none => #[]) = #[x]
  rw [e]
  rfl
noncomputable def byTxt (w : World) : Bool := w.params.followText "set-order"
noncomputable def slot1 (w : World) (H : Int) : Nat := if byTxt w then 0 else SetTable.bits H % 8 + 1
theorem wpAny_setsByText {Q : Bool → Shared → Prop} (h : Q (byTxt w) s) : wpAny (model prog w) A setsByText Q E s := by
  unfold setsByText
  exact wpAny_bind (wpAny_askSetting (wpAny_pure h))
theorem below_one (j k : Nat) : SetTable.below #[j] k = if j < k then 1 else 0 := by
  show (if (0 : Nat) < 1 then (if (#[j] : Array Nat).getD ((0 + 1) / 2) k < k then (0 + 1) / 2 + 1 else 0) else 0) = if j < k then 1 else 0
  rw [if_pos (Nat.zero_lt_one)]
  rfl
theorem setNext_one {a : Addr} {H : Int} {x : Str} {t : Tok} {Q : Option (Value × Nat) → Shared → Prop} (ho : s.heap.get? a = some (setObj1 H x t (!byTxt w)))
    (h : Q (some (.str x t, slot1 w H)) s) : wpAny (model prog w) A (setNext a 0 0 1) Q E s := by
  unfold setNext
  refine wpAny_bind (wpAny_setState_of ho rfl rfl ?_)
  dsimp only
  refine wpAny_bind (wpAny_setsByText ?_)
  unfold slot1 at h
  cases hb : byTxt w with
  | true =>
    rw [hb] at h
    rw [if_pos rfl]
    unfold setWalk
    refine wpAny_bind ?_
    refine wpAny_bind (wpAny_setState_of ho rfl rfl ?_)
    dsimp only
    refine wpAny_bind (wpAny_setsByText ?_)
    rw [hb]
    rw [if_pos rfl]
    refine wpAny_bind (wpAny_askSetting (wpAny_pure ?_))
    rw [pick_one]
    exact wpAny_pure h
  | false =>
    rw [hb] at h ho
    rw [if_neg Bool.false_ne_true]
    refine wpAny_bind (wpAny_pure ?_)
    refine wpAny_bind (wpAny_pure ?_)
    have e : SetTable.below (tab1 (SetTable.bits H % 8) (!false) false).place 0 = 0 := (below_one _ _).trans (if_neg (Nat.not_lt_zero _))
    rw [e]
    exact wpAny_pure h
theorem setNext_none {a : Addr} {H : Int} {x : Str} {t : Tok} {Q : Option (Value × Nat) → Shared → Prop} (ho : s.heap.get? a = some (setObj1 H x t (!byTxt w)))
    (h : Q none s) : wpAny (model prog w) A (setNext a (slot1 w H) 1 1) Q E s := by
  unfold setNext
  refine wpAny_bind (wpAny_setState_of ho rfl rfl ?_)
  dsimp only
  refine wpAny_bind (wpAny_setsByText ?_)
  unfold slot1
  cases hb : byTxt w with
  | true =>
    rw [if_pos rfl]
    unfold setWalk
    refine wpAny_bind ?_
    refine wpAny_bind (wpAny_setState_of ho rfl rfl ?_)
    dsimp only
    refine wpAny_bind (wpAny_setsByText ?_)
    rw [hb]
    rw [if_pos rfl]
    refine wpAny_bind (wpAny_askSetting (wpAny_pure ?_))
    rw [pick_one]
    exact wpAny_pure h
  | false =>
    rw [hb] at ho
    repeat rw [if_neg Bool.false_ne_true]
    refine wpAny_bind (wpAny_pure ?_)
    refine wpAny_bind (wpAny_pure ?_)
    have e : SetTable.below (tab1 (SetTable.bits H % 8) (!false) false).place (SetTable.bits H % 8 + 1) = 1 := (below_one _ _).trans (if_pos (Nat.lt_succ_self _))
    rw [e]
    exact wpAny_pure h

noncomputable def SetIt (w : World) (I r : Addr) (H : Int) (i : Nat) (h : Heap) : Prop :=
  ∃ o, h.get? I = some o ∧ o.cls = .type "set_iterator" ∧ o.data = .fields #[rawInt (if i = 0 then 0 else slot1 w H), rawInt i, .ref r, rawInt 1, rawInt 1]
theorem SetIt.typeIs {I r : Addr} {H : Int} {i : Nat} (x : SetIt w I r H i s.heap) : s.TypeIs (.ref I) "set_iterator" := let ⟨o, ho, hc, _⟩ := x; ⟨o, ho, hc⟩

theorem iter_set {r : Addr} {H : Int} {x : Str} {t : Tok} {Q : Value → Shared → Prop} (ho : s.heap.get? r = some (setObj1 H x t (!byTxt w)))
    (h : Q (.ref s.heap.objs.size) { s with heap := s.heap.push { cls := .type "set_iterator", data := .fields #[rawInt 0, rawInt 0, .ref r, rawInt 1, rawInt 1] } }) :
    wpAny (model prog w) A (pyIter (.ref r)) Q E s := by
  have hT : s.TypeIs (.ref r) "set" := ⟨_, ho, rfl⟩
  refine wpAny_pyIter_slot hT F.slot_set_iter (wpAny_call_entry F.slot_set_iter hT entry_set_iter ?_ (F.args_set_iter_1 _))
  unfold Builtin.«frozenset.__iter__»
  refine wpAny_bind ?_
  unfold Builtin.Frozenset.slot0
  refine wpAny_bind (wpAny_pure ?_)
  show wpAny _ _ (pure r) _ _ s
  refine wpAny_pure ?_
  refine wpAny_bind ?_
  unfold Builtin.Frozenset.sizeOf
  refine wpAny_bind (wpAny_setEntries_of ho rfl rfl (wpAny_pure ?_))
  refine wpAny_bind ?_
  unfold setDrawn
  refine wpAny_bind (wpAny_setState_of ho rfl rfl ?_)
  dsimp only
  refine wpAny_bind (wpAny_setsByText (wpAny_pure ?_))
  rw [if_neg (show ¬ ((!byTxt w && _) = true) from by rw [Bool.and_comm]; exact Bool.false_ne_true)]
  refine wpAny_bind (wpAny_pure ?_)
  refine wpAny_bind (wpAny_setEpoch_of ho rfl rfl ?_)
  refine wpAny_bind (wpAny_newObj_type (wpAny_pure ⟨_, rfl, "set_iterator", _, ⟨_, Heap.get?_push_size _ rfl, rfl⟩, slot_seti_next.lookup, ?_⟩))
  exact h
theorem next_set_one {I r : Addr} {H : Int} {x : Str} {t : Tok} {Q : Option Value → Shared → Prop} (hI : SetIt w I r H 0 s.heap) (ho : s.heap.get? r = some (setObj1 H x t (!byTxt w)))
    (h : ∀ h', SetIt w I r H 1 h' → Heap.SameBut I s.heap h' → Q (some (.str x t)) { s with heap := h' }) :
    wpAny (model prog w) A (pyNext (.ref I)) Q E s := by
  obtain ⟨o, hoI, hc, hd⟩ := id hI
  unfold pyNext
  refine wpAny_bind (wpAny_attempt (wpAny_callSpecial?_slot (name := Str.ofString "__next__") hI.typeIs slot_seti_next
    (wpAny_call_entry slot_seti_next hI.typeIs entry_seti_next ?_ (args_seti_next _))))
  unfold Builtin.«set_iterator.__next__»
  refine wpAny_bind (wpAny_pure ?_)
  refine wpAny_bind (wpAny_fieldsOf hoI hd ?_)
  show wpAny _ _ (setEntries r >>= _) _ _ s
  refine wpAny_bind (wpAny_setEntries_of ho rfl rfl ?_)
  rw [if_neg (by simp)]
  show wpAny _ _ (setNext r 0 0 1 >>= _) _ _ s
  refine wpAny_bind (setNext_one ho ?_)
  dsimp only
  refine wpAny_bind (wpAny_setField hoI hd (by show 0 < 5; omega) ?_)
  have h1 := Heap.get?_update_self (Obj.mapFields (·.setIfInBounds 0 (rawInt (slot1 w H)))) hoI (Obj.isFreed_of_fields (Obj.data_mapFields hd _))
  refine wpAny_bind (wpAny_setField h1 (Obj.data_mapFields hd _) (by show 1 < 5; omega) ?_)
  refine wpAny_pure ⟨_, rfl, wpAny_pure (h _ ⟨_, Heap.get?_update_self _ h1 (Obj.isFreed_of_fields (Obj.data_mapFields (Obj.data_mapFields hd _) _)), (Obj.cls_mapFields ..).trans ((Obj.cls_mapFields ..).trans hc), ?_⟩ ((Heap.SameBut.update ..).trans (Heap.SameBut.update ..)))⟩
  exact (Obj.data_mapFields (Obj.data_mapFields hd _) _).trans rfl
theorem next_set_end {I r : Addr} {H : Int} {x : Str} {t : Tok} {Q : Option Value → Shared → Prop} (hh : A.handled = none) (hI : SetIt w I r H 1 s.heap) (ho : s.heap.get? r = some (setObj1 H x t (!byTxt w)))
    (h : ∀ h', Heap.ExtBut I s.heap h' → Q none { s with heap := h' }) :
    wpAny (model prog w) A (pyNext (.ref I)) Q E s := by
  obtain ⟨o, hoI, hc, hd⟩ := id hI
  unfold pyNext
  refine wpAny_bind (wpAny_attempt (wpAny_callSpecial?_slot (name := Str.ofString "__next__") hI.typeIs slot_seti_next
    (wpAny_call_entry slot_seti_next hI.typeIs entry_seti_next ?_ (args_seti_next _))))
  unfold Builtin.«set_iterator.__next__»
  refine wpAny_bind (wpAny_pure ?_)
  refine wpAny_bind (wpAny_fieldsOf hoI hd ?_)
  show wpAny _ _ (setEntries r >>= _) _ _ s
  refine wpAny_bind (wpAny_setEntries_of ho rfl rfl ?_)
  rw [if_neg (by simp)]
  show wpAny _ _ (setNext r (slot1 w H) 1 1 >>= _) _ _ s
  refine wpAny_bind (setNext_none ho ?_)
  dsimp only
  refine wpAny_bind (wpAny_setField hoI hd (by show 2 < 5; omega) ?_)
  show wpAny _ _ (newExc (.type "StopIteration") [] >>= _) _ _ _
  refine wpAny_bind ?_
  simp only [newExc, newTuple]
  refine wpAny_bind (wpAny_newObj_type ?_ (by size_fits))
  refine wpAny_bind (m := firstArgMember _ _) (wpAny_of_eq (a := Value.none) (by first | rfl | (simp only [firstArgMember]; rfl)) ?_)
  refine wpAny_newObj_type ?_ (by size_fits)
  unfold raiseNew
  refine wpAny_bind (wpAny_handled ?_)
  rw [show A.in1.handled = none from hh]
  refine wpAny_bind (wpAny_pure (wpAny_throw ?_))
  refine wpAny_bind (wpAny_isInstance (T := "StopIteration") (b := true) ⟨_, Heap.get?_push_size _ rfl, rfl⟩ isSubtype_stop ?_)
  exact wpAny_pure (h _ (((Heap.SameBut.update ..).extBut.push _).push _))
theorem iter_seti {I r : Addr} {H : Int} {i : Nat} {Q : Value → Shared → Prop} (hI : SetIt w I r H i s.heap) (h : Q (.ref I) s) : wpAny (model prog w) A (pyIter (.ref I)) Q E s := by
  refine wpAny_pyIter_slot hI.typeIs slot_seti_iter (wpAny_call_entry slot_seti_iter hI.typeIs entry_seti_iter ?_ (args_seti_iter _))
  show wpAny _ _ (ret (.ref I)) _ _ s
  exact wpAny_pure ⟨_, rfl, "set_iterator", _, hI.typeIs, slot_seti_next.lookup, h⟩
theorem hint_set {r : Addr} {Q : Bool → Shared → Prop} (hT : s.TypeIs (.ref r) "set") (h : Q false s) : wpAny (model prog w) A (Builtin.List.listLengthHint (.ref r)) Q E s := by
  unfold Builtin.List.listLengthHint
  refine wpAny_bind (wpAny_specialOf hT PySem.F.slot_set_len.lookup ?_)
  generalize hid : ("set.__len__" : String) = id0
  wp_delta
  rw [show splitId id0 = some ("set", "__len__") from by subst hid; decide +kernel]
  subst hid
  refine wpAny_bind (wpAny_isInstance (T := "set") (b := true) hT (by rw [isSubtype_type]; kernel_rfl) ?_)
  refine wpAny_ite_split (fun hab => absurd hab (by decide)) (fun _ => ?_)
  refine wpAny_ite_split (fun _ => ?_) (fun hab => absurd (by decide +kernel) hab)
  refine wpAny_bind (wpAny_typeOf hT ?_)
  exact wpAny_pure h
theorem walks_set (hh : A.handled = none) (I r : Addr) (hne : r ≠ I) (H : Int) (x : Str) (t : Tok) :
    Walks prog w A I [I, r] [I] 1 (fun _ v => v = .str x t) (fun i h => SetIt w I r H i h ∧ h.get? r = some (setObj1 H x t (!byTxt w))) where
  sub := fun b hb => by simp at hb; simp [hb]
  frame := fun _ _ _ st hk => ⟨let ⟨o, ho, x⟩ := st.1; ⟨o, hk I (by simp) o ho, x⟩, hk r (by simp) _ st.2⟩
  item := fun i s Q E hi st hQ => by
    obtain rfl : i = 0 := Nat.lt_one_iff.mp hi
    refine next_set_one st.1 st.2 fun h' hI' hs' => ?_
    exact hQ _ h' s.toks rfl ⟨hI', hs'.extBut r _ hne st.2⟩ fun b o hb e => hs'.extBut b o (fun h => hb (by simp [h])) e
  done := fun s Q E st hQ => next_set_end hh st.1 st.2 fun h' he' => hQ h' s.toks fun b o hb e => he' b o (fun h => hb (by simp [h])) e
  self := fun _ _ _ _ st hQ => iter_seti st.1 hQ
theorem src_set (r : Addr) (H : Int) (x : Str) (t : Tok) : KdlSrc prog w "set" r r 1 (fun _ v => v = .str x t) (fun h => h.get? r = some (setObj1 H x t (!byTxt w))) where
  type := fun _ hm => ⟨_, hm, rfl⟩
  there := fun _ hm => ⟨Heap.lt_size hm, Heap.lt_size hm⟩
  keep := fun _ _ hm hk => hk r (.inl rfl) _ hm
  notList := by decide
  notTuple := by decide
  hint := fun _ _ _ _ hm hq => hint_set ⟨_, hm, rfl⟩ hq
  iter := fun _ _ hh hm => ⟨_, _, (fun _ _ hq => iter_set hm hq), walks_set hh _ r (Nat.ne_of_lt (Heap.lt_size hm)) H x t, ⟨⟨_, Heap.get?_push_size _ rfl, rfl, rfl⟩, Heap.get?_push_of_some _ hm⟩⟩
end
end Mine
end
section
open PySem PySem.W PySem.Calls PyProof.Rows
set_option maxRecDepth 100000
set_option maxHeartbeats 8000000
namespace Mine
section
variable {prog : Program} {w : World} {A : Around} {E : Value → Shared → Prop} {s : Shared} {h₀ : Heap} {L a kS : Addr} {m : Str → Option Value} {news : List (Addr × Obj)} {v k : Value} {e e1 : Nat} {P : PySem.Fin → Shared → Prop}
theorem s1_tail (F : Fr h₀ L s.heap m) (N : News h₀ L s.heap (news ++ [(kS, seqObj "list" #[k] e), (a, seqObj "list" #[] e1)])) (hka : kS ≠ a) (hnk : ∀ p ∈ news, p.1 ≠ kS) (hna : ∀ p ∈ news, p.1 ≠ a)
    (h : ∀ h' tk c, Fr h₀ L h' m → News h₀ L h' ((a, seqObj "list" #[v] c) :: news) → P (.done (.ret .none)) { s with heap := h', toks := tk }) :
    wpAny (model prog w) A (ksk_tail a false e1 (.ref kS) (SortSt.mk' general' #[(k, v)] #[] 7 none)) P E s := by
  have nk := N (kS, seqObj "list" #[k] e) (List.mem_append_right _ (.head _))
  have na := N (a, seqObj "list" #[] e1) (List.mem_append_right _ (.tail _ (.head _)))
  have Nn : News h₀ L s.heap news := fun p hp => N p (List.mem_append_left _ hp)
  have s1 := Heap.SameBut.update s.heap kS (Obj.mapSeq fun _ => (#[] : Array Value))
  have na1 : (s.heap.update kS (Obj.mapSeq fun _ => (#[] : Array Value))).get? a = some (seqObj "list" #[] e1) := (s1.2 a hka.symm).trans na.1
  have s2 := Heap.SameBut.update (s.heap.update kS (Obj.mapSeq fun _ => (#[] : Array Value))) a (Obj.mapSeq fun _ => #[v])
  obtain ⟨c2, hc2⟩ : ∃ c2, ((s.heap.update kS (Obj.mapSeq fun _ => (#[] : Array Value))).update a (Obj.mapSeq fun _ => #[v])).get? a = some (seqObj "list" #[v] c2) :=
    ⟨_, get?_update_seq na1 fun _ => #[v]⟩
  have N2 := ksk_news (ksk_news Nn s1 hnk) s2 hna
  unfold ksk_tail
  dsimp only
  rw [show Array.map (fun x : Keyed => x.2) (arrOf (SortSt.mk' general' #[(k, v)] #[] 7 none)) = #[v] from by show Array.map (fun x : Keyed => x.2) #[(k, v)] = #[v]; simp]
  simp only [Bool.false_eq_true, if_false]
  refine wpAny_bind (listUpdate_at nk.1 rfl ?_ (by show 1 ≤ _; rw [sizeLine_eq]; omega) (Nat.zero_le _))
  refine wpAny_bind (wpAny_letGo ?_)
  refine wpAny_bind (seqEpoch_at na1 rfl ?_)
  refine wpAny_bind (listUpdate_at na1 rfl ?_ (Nat.zero_le _) (by show 1 ≤ _; rw [sizeLine_eq]; omega))
  simp only [bne_self_eq_false, Bool.false_eq_true, if_false]
  refine wpAny_pure (h _ _ c2 (ksk_fr (ksk_fr F s1 nk.2.1 nk.2.2) s2 na.2.1 na.2.2) (fun p hp => ?_))
  rcases List.mem_cons.mp hp with rfl | hp
  · exact ⟨hc2, na.2⟩
  · exact N2 p hp
noncomputable def KeyEnd (h₀ : Heap) (L : Addr) (m : Str → Option Value) (need : List (Addr × Obj)) (s₁ : Shared) (_ : Value) (s₂ : Shared) : Prop :=
  ∃ h' tk, s₂ = { s₁ with heap := h', toks := tk } ∧ Fr h₀ L h' m ∧ News h₀ L h' need
theorem s1_rest {f : Value} (F : Fr h₀ L s.heap m) (N : News h₀ L s.heap (news ++ [(kS, seqObj "list" #[] 0), (a, seqObj "list" #[] e1)])) (hka : kS ≠ a) (hnk : ∀ p ∈ news, p.1 ≠ kS) (hna : ∀ p ∈ news, p.1 ≠ a)
    (turn : ∀ (h : Heap) (tk : Nat) (own : List (Addr × Obj)), Fr h₀ L h m → News h₀ L h (news ++ own) →
      wpAny (model prog w) A (call f [v]) (KeyEnd h₀ L m (news ++ own) { s with heap := h, toks := tk }) (fun _ _ => False) { s with heap := h, toks := tk })
    (h : ∀ h' tk c, Fr h₀ L h' m → News h₀ L h' ((a, seqObj "list" #[v] c) :: news) → P (.done (.ret .none)) { s with heap := h', toks := tk }) :
    wpAny (model prog w) A (ksk_rest a f false #[v] e1 (.ref kS)) P E s := by
  unfold ksk_rest
  refine wpAny_bind (wpAny_rule ?_)
  rw [List.forIn_toArray]
  refine wpAny_bind ?_
  rw [List.forIn_cons]
  refine wpAny_bind ?_
  refine wpAny_bind (wpAny_attempt (wpAny_mono (turn s.heap s.toks _ F N) (fun k s'' he => ?_) fun _ _ hF => hF.elim))
  obtain ⟨g, tk2, rfl, F2, N2⟩ := he
  try dsimp only
  have nk := N2 (kS, seqObj "list" #[] 0) (List.mem_append_right _ (.head _))
  have na := N2 (a, seqObj "list" #[] e1) (List.mem_append_right _ (.tail _ (.head _)))
  have s1 := Heap.SameBut.update g kS (Obj.mapSeq (·.push k))
  obtain ⟨c2, hc2⟩ : ∃ c2, (g.update kS (Obj.mapSeq (·.push k))).get? kS = some (seqObj "list" #[k] c2) := ⟨_, get?_update_seq nk.1 (·.push k)⟩
  refine wpAny_bind (listUpdate_at nk.1 rfl ?_ (Nat.zero_le _) (by show 1 ≤ _; rw [sizeLine_eq]; omega))
  refine wpAny_pure ?_
  dsimp only
  rw [List.forIn_nil]
  refine wpAny_pure ?_
  refine wpAny_bind (listItems_at hc2 rfl ?_)
  unfold ksk_end
  dsimp only
  rw [if_neg Bool.false_ne_true, if_pos (by show 1 < 2; omega), if_pos (by show 1 < 2; omega), if_neg Bool.false_ne_true]
  refine wpAny_bind (wpAny_pure ?_)
  rw [StateT.run_pure]
  refine wpAny_bind (wpAny_pure ?_)
  dsimp only
  rw [show (#[k].zip #[v]) = #[(k, v)] from by simp]
  refine s1_tail (k := k) (v := v) (kS := kS) (e := c2) (s := ⟨g.update kS (Obj.mapSeq (·.push k)), s.gens, s.drawn, tk2, s.os⟩) (ksk_fr F2 s1 nk.2.1 nk.2.2) (fun p hp => ?_) hka hnk hna h
  rcases List.mem_append.mp hp with hp | hp
  · exact ksk_news (fun q hq => N2 q (List.mem_append_left _ hq)) s1 hnk p hp
  · rcases List.mem_cons.mp hp with rfl | hp
    · exact ⟨hc2, nk.2⟩
    · rw [List.mem_singleton.mp hp]
      exact ⟨(s1.2 a hka.symm).trans na.1, na.2⟩
theorem s1_sort {f : Value} {n : Nat} (F : Fr h₀ L s.heap m) (N : News h₀ L s.heap news) (ho : s.heap.get? a = some (seqObj "list" #[v] n)) (haL : a ≠ L) (ha0 : h₀.get? a = none) (hna : ∀ p ∈ news, p.1 ≠ a)
    (turn : ∀ (h : Heap) (tk : Nat) (own : List (Addr × Obj)), Fr h₀ L h m → News h₀ L h (news ++ own) →
      wpAny (model prog w) A (call f [v]) (KeyEnd h₀ L m (news ++ own) { s with heap := h, toks := tk }) (fun _ _ => False) { s with heap := h, toks := tk })
    (h : ∀ h' tk c, Fr h₀ L h' m → News h₀ L h' ((a, seqObj "list" #[v] c) :: news) → P (.done (.ret .none)) { s with heap := h', toks := tk }) :
    wpAny (model prog w) A (ksk_tree a f false) P E s := by
  have ha : a < s.heap.objs.size := Heap.lt_size ho
  have s1 := Heap.SameBut.update s.heap a (Obj.mapSeq fun _ => (#[] : Array Value))
  obtain ⟨e1, ho1⟩ : ∃ e1, (s.heap.update a (Obj.mapSeq fun _ => (#[] : Array Value))).get? a = some (seqObj "list" #[] e1) := ⟨_, get?_update_seq ho fun _ => #[]⟩
  have F1 := ksk_fr F s1 haL ha0
  have N1 := ksk_news N s1 hna
  have hkS : ((s.heap.update a (Obj.mapSeq fun _ => (#[] : Array Value))).push (seqObj "tuple" #[v] 0)).objs.size = s.heap.objs.size + 1 := by rw [size_push', Heap.size_update]
  have hLk : L < ((s.heap.update a (Obj.mapSeq fun _ => (#[] : Array Value))).push (seqObj "tuple" #[v] 0)).objs.size := (F1.push _).ns.lt
  unfold ksk_tree
  refine wpAny_bind (listItems_at ho rfl ?_)
  refine wpAny_bind (listUpdate_at ho rfl ?_ (by show 1 ≤ _; rw [sizeLine_eq]; omega) (Nat.zero_le _))
  refine wpAny_bind (seqEpoch_at ho1 rfl ?_)
  refine wpAny_bind (wpAny_newTuple ?_ (by show 1 ≤ _; rw [sizeLine_eq]; omega))
  refine wpAny_bind (wpAny_newList ?_ (Nat.zero_le _))
  refine wpAny_holding ?_
  refine s1_rest (s := { s with heap := ((s.heap.update a (Obj.mapSeq fun _ => (#[] : Array Value))).push (seqObj "tuple" #[v] 0)).push (seqObj "list" #[] 0) }) (kS := ((s.heap.update a (Obj.mapSeq fun _ => (#[] : Array Value))).push (seqObj "tuple" #[v] 0)).objs.size)
    ((F1.push _).push _) (fun p hp => ?_) (by rw [hkS]; exact Nat.ne_of_gt (Nat.lt_succ_of_lt ha)) (fun p hp => by rw [hkS]; exact Nat.ne_of_lt (Nat.lt_succ_of_lt (Heap.lt_size (N p hp).1))) hna turn h
  rcases List.mem_append.mp hp with hp | hp
  · exact ⟨Heap.get?_push_of_some _ (Heap.get?_push_of_some _ (N1 p hp).1), (N1 p hp).2⟩
  · rcases List.mem_cons.mp hp with rfl | hp
    · exact ⟨Heap.get?_push_size _ rfl, Nat.ne_of_gt hLk, Heap.get?_none_of_le (Nat.le_trans F.above (Nat.le_of_lt hLk))⟩
    · rw [List.mem_singleton.mp hp]
      exact ⟨Heap.get?_push_of_some _ (Heap.get?_push_of_some _ ho1), haL, ha0⟩
theorem sorted_set_one {r q : Addr} {H : Int} {x : Str} {t : Tok} {Q : Value → Shared → Prop} (hh : A.handled = none) (F : Fr h₀ L s.heap m) (N : News h₀ L s.heap news) (hr : s.heap.get? r = some (setObj1 H x t (!byTxt w)))
    (turn : ∀ (h : Heap) (tk : Nat) (own : List (Addr × Obj)), Fr h₀ L h m → News h₀ L h (news ++ own) →
      wpAny (model prog w) A.in1.in1 (call (.ref q) [.str x t]) (KeyEnd h₀ L m (news ++ own) { s with heap := h, toks := tk }) (fun _ _ => False) { s with heap := h, toks := tk })
    (h : ∀ D h' tk c, Fr h₀ L h' m → News h₀ L h' ((D, listOf #[.str x t] c) :: news) → (∀ p ∈ news, p.1 < D) → Q (.ref D) { s with heap := h', toks := tk }) :
    wpAny (model prog w) A (call (.builtin "sorted") [.ref r] [(Str.ofString "key", .ref q)]) Q E s := by
  refine call_function_entry_kw kind_sorted plain_sorted entry_sorted (ksk_s1 _ _) ?_
  unfold Builtin.«sorted»
  refine wpAny_bind (m := checkCount "sorted" 1 1 _) (wpAny_pure ?_)
  refine wpAny_bind (kdu_collect (A := A.in1) (src_set r H x t) hh hr (by rw [sizeLine_eq]; omega) fun h' tk acc hk hacc => ?_)
  have hl : acc.toList.length = 1 := by rw [Array.length_toList]; exact hacc.1
  obtain ⟨u, hu⟩ : ∃ u, acc.toList = [u] := by
    cases q : acc.toList with
    | nil => rw [q] at hl; cases hl
    | cons u r =>
      cases r with
      | nil => exact ⟨u, rfl⟩
      | cons _ _ => rw [q] at hl; cases hl
  have hue : u = .str x t := hacc.2 0 u (by rw [← Array.getElem?_toList, hu]; rfl)
  subst hue
  rw [hu]
  have F' : Fr h₀ L h' m := F.keeps hk
  have N' : News h₀ L h' news := fun p hp => ⟨hk _ _ (N p hp).1, (N p hp).2⟩
  refine wpAny_bind (wpAny_newList ?_ (by show 1 ≤ _; rw [sizeLine_eq]; omega))
  have hoL : (h'.push (seqObj "list" #[.str x t] 0)).get? h'.objs.size = some (seqObj "list" #[.str x t] 0) := Heap.get?_push_size _ rfl
  have hL : L < h'.objs.size := F'.ns.lt
  refine wpAny_bind (wpAny_holding (wpAny_call_entry_kw slot_list_sort ⟨_, hoL, rfl⟩ entry_list_sort ?_ (ksk_l1 _ _)))
  rw [ksk_t1]
  refine s1_sort (s := ⟨_, _, _, _, _⟩) (F'.push _) (fun p hp => ⟨Heap.get?_push_of_some _ (N' p hp).1, (N' p hp).2⟩) hoL (Nat.ne_of_gt hL) (Heap.get?_none_of_le (Nat.le_trans F'.above (Nat.le_of_lt hL))) (fun p hp => Nat.ne_of_lt (Heap.lt_size (N' p hp).1)) ?_ fun h3 tk3 c F3 N3 => ?_
  · intro h tk own F4 N4
    exact turn h tk own F4 N4
  · exact ⟨_, rfl, wpAny_pure ⟨_, rfl, h _ _ _ c F3 N3 fun p hp => Heap.lt_size (N' p hp).1⟩⟩

theorem update_loop_empty {S d : Addr} {R : Result → Shared → Prop} {kvs : List (Str × Value)} (hk : kvs = []) {ep : Nat} {I : Addr} (hh : A.handled = none) (hI : s.heap.IsKeyIter I d 0 kvs.length ep) (hm : s.heap.DictAt (strKind prog w) d kvs ep)
    (hR : ∀ h', Heap.ExtBut I s.heap h' → R (.ok (.ret .none)) { s with heap := h' }) :
    codeAny (model prog w) A (.builtin "set.update.loop" ⟨[.ref S, .ref I], []⟩) R s := by
  refine codeAny_builtin F.entry_set_update_loop ?_
  rw [Around.under_plainId F.plain_set_update_loop _]
  show wpAny _ A.in1 (pyNext (.ref I) >>= _) _ _ s
  refine wpAny_bind (wpAny_pyNext_dict_end (by simp [hh]) hI hm (by rw [hk]; rfl) fun h' e => ?_)
  show wpAny _ A.in1 (ret Value.none) _ _ _
  exact wpAny_pure (hR h' e)
theorem display_star {D d : Addr} {H : Int} {x : Str} {t : Tok} {led : Bool} {Q : Unit → Shared → Prop} (hh : A.handled = none) (hD : s.heap.get? D = some (setObj1 H x t led)) (hd : s.heap.DictOf (strKind prog w) d []) (lo : (d == sysModules) = false)
    (h : ∀ h', (∀ b o, s.heap.get? b = some o → h'.get? b = some o) → Q () { s with heap := h' }) :
    wpAny (model prog w) A (setDisplayStar D (.ref d)) Q E s := by
  have hT : s.TypeIs (.ref d) "dict" := hd.typeIs
  obtain ⟨ep, hat⟩ := hd.dictAt
  obtain ⟨o, es, ho, hc, hdat, hk, hp, hn⟩ := id hat
  have hsz : es.size = 0 := by have := hp.length; simpa using this
  unfold setDisplayStar
  refine wpAny_bind (wpAny_isInstance (T := "dict") (b := false) hT (by rw [isSubtype_type]; kernel_rfl) ?_)
  dsimp only
  rw [if_neg Bool.false_ne_true]
  refine wpAny_bind (wpAny_isInstance (T := "dict") (b := false) hT (by rw [isSubtype_type]; kernel_rfl) ?_)
  refine wpAny_bind (wpAny_askSetting ?_)
  cases hb : w.params.followText "set-display-star-reads-storage" with
  | true =>
    rw [show (model prog w).w.params.followText "set-display-star-reads-storage" = true from hb]
    rw [if_pos rfl]
    refine wpAny_bind (wpAny_pyIter_dict lo hat ?_)
    refine wpAny_bind (wpAny_runValue ?_)
    refine update_loop_empty (d := d) (kvs := []) rfl hh ⟨_, Heap.get?_push_size _ rfl, rfl, rfl⟩ (hat.push _) fun h' e => ?_
    refine wpAny_pure ?_
    refine h h' fun b o eb => ?_
    exact e b o (Nat.ne_of_lt (Heap.lt_size eb)) (Heap.get?_push_of_some _ eb)
  | false =>
    rw [show (model prog w).w.params.followText "set-display-star-reads-storage" = false from hb]
    rw [if_neg Bool.false_ne_true]
    refine wpAny_bind (wpAny_typeOf hT ?_)
    rw [if_pos (show (Value.type "dict" == Value.type "dict") = true by decide)]
    refine wpAny_bind (wpAny_rule ?_)
    rw [if_neg (by rw [lo]; exact Bool.false_ne_true)]
    refine wpAny_bind (wpAny_dictEpoch ho hdat ?_)
    refine wpAny_bind (wpAny_dictEntries ho hdat ?_)
    refine wpAny_bind ?_
    unfold setRoomFor
    refine wpAny_bind (wpAny_setState_of hD rfl rfl ?_)
    rw [hsz]
    show wpAny _ _ (pure ()) _ _ _
    refine wpAny_pure ?_
    refine wpAny_bind ?_
    first
      | rw [Std.Legacy.Range.forIn_eq_forIn_range']
      | rw [Std.Range.forIn_eq_forIn_range']
    show wpAny _ _ (pure PUnit.unit) _ _ _
    exact wpAny_pure (wpAny_pure (h s.heap fun _ _ e => e))
end
end Mine
end
section
open PySem PySem.W PySem.Calls PyProof.Rows
set_option maxRecDepth 100000
set_option maxHeartbeats 8000000
namespace Mine
section
variable {prog : Program} {w : World} {A : Around} {E : Value → Shared → Prop} {s : Shared} {h₀ : Heap} {L a kS : Addr} {m : Str → Option Value} {news : List (Addr × Obj)} {v k : Value} {e e1 : Nat} {P : PySem.Fin → Shared → Prop}
theorem set_star {K : Frag} {e1 e2 : PySem.Expr} {p1 pos : Pos} {env : Env} {d : Addr} {oD : Obj} {x : Str} {t : Tok} {Q : Value → Shared → Prop} (F : Fr h₀ L s.heap m) (N : News h₀ L s.heap news) (X : K.In h₀) (hc : kdsCode K env.code = true)
    (hh : A.handled = none) (hd : h₀.get? d = some oD) (hoD : oD.IsDictOf (strKind prog w) []) (lo : (d == sysModules) = false) (hp : kdsPlain e1 = true)
    (h1 : ∀ h' tk, Fr h₀ L h' m → News h₀ L h' news → wpAny (model prog w) A (eval e1 env) (fun v s' => v = .str x t ∧ s' = { s with heap := h', toks := tk }) E { s with heap := h', toks := tk })
    (h2 : ∀ h' tk, Fr h₀ L h' m → News h₀ L h' news → wpAny (model prog w) A (eval e2 env) (fun v s' => v = .ref d ∧ s' = { s with heap := h', toks := tk }) E { s with heap := h', toks := tk })
    (h : ∀ D h' tk, Fr h₀ L h' m → News h₀ L h' ((D, setObj1 ((strKind prog w).hash x) x t (!byTxt w)) :: news) → (∀ p ∈ news, p.1 < D) → Q (.ref D) { s with heap := h', toks := tk }) :
    wpAny (model prog w) A (eval (.Set [e1, .Starred e2 p1] 0 pos) env) Q E s := by
  rw [arm_eval_Set]
  refine wpAny_bind (wpAny_standAt ?_)
  refine wpAny_bind (kds_main (X.keeps F.keep) hc fun b => ?_)
  have hs : starEach [e1, .Starred e2 p1] env = [(false, eval e1 env), (true, eval e2 env)] := by
    cases e1 <;> first | rfl | exact absurd hp (by simp [kdsPlain])
  rw [hs]
  unfold setDisplay
  rw [if_neg (by show ¬ ((DisplayRoad.oneByOne == DisplayRoad.constants) = true); decide)]
  refine wpAny_bind ?_
  unfold newSet
  refine wpAny_bind (wpAny_setsByText ?_)
  unfold newObj
  refine wpAny_bind (wpAny_alloc (wpAny_pure ?_))
  dsimp only [List.map_cons, List.map_nil, List.length_cons, List.length_nil]
  have hS : (s.heap.push (setObj0 (!byTxt w))).get? s.heap.objs.size = some (setObj0 (!byTxt w)) := Heap.get?_push_size _ rfl
  have F1 : Fr h₀ L (s.heap.push (setObj0 (!byTxt w))) m := F.push _
  have N1 : News h₀ L (s.heap.push (setObj0 (!byTxt w))) ((s.heap.objs.size, setObj0 (!byTxt w)) :: news) := News.push F N _ rfl
  have lt1 : ∀ p ∈ news, p.1 < s.heap.objs.size := fun p hp => Heap.lt_size (N p hp).1
  refine wpAny_bind (wpAny_holding ?_)
  refine wpAny_bind ?_
  show wpAny _ _ (evalAll [do let v ← eval e1 env; standAt pos; pure v]) _ _ _
  show wpAny _ _ ((eval e1 env >>= fun v => standAt pos >>= fun _ => pure v) >>= fun v => holding [v] (evalAll []) >>= fun r => pure (v :: r)) _ _ _
  refine wpAny_bind (wpAny_bind (wpAny_mono (h1 _ s.toks F1 fun p hp => N1 p (.tail _ hp)) (fun v s' h' => ?_) fun _ _ x => x))
  obtain ⟨rfl, rfl⟩ := h'
  refine wpAny_bind (wpAny_standAt (wpAny_pure ?_))
  refine wpAny_bind (wpAny_holding ?_)
  show wpAny _ _ (pure []) _ _ _
  refine wpAny_pure (wpAny_pure ?_)
  refine wpAny_bind (wpAny_holding ?_)
  refine wpAny_bind ?_
  rw [List.forIn_cons]
  refine wpAny_bind ?_
  refine wpAny_bind (setAdd_fresh (s := ⟨_, _, _, _, _⟩) hS fun h2' tk2 hg hsb => ?_)
  refine wpAny_pure ?_
  dsimp only
  rw [List.forIn_nil]
  refine wpAny_pure ?_
  rw [if_neg (by show ¬ ((DisplayRoad.oneByOne == DisplayRoad.unsure) = true); decide)]
  refine wpAny_pure ?_
  have nD := N1 _ (.head _)
  have F2 : Fr h₀ L h2' m := ksk_fr F1 hsb nD.2.1 nD.2.2
  have N2 : News h₀ L h2' ((s.heap.objs.size, setObj1 ((strKind prog w).hash x) x t (!byTxt w)) :: news) := by
    intro p hp
    rcases List.mem_cons.mp hp with rfl | hp
    · exact ⟨hg, nD.2⟩
    · exact ksk_news (fun q hq => N1 q (.tail _ hq)) hsb (fun q hq => Nat.ne_of_lt (lt1 q hq)) p hp
  refine wpAny_bind ?_
  show wpAny _ _ (forIn [(true, do let v ← eval e2 env; standAt pos; pure v)] PUnit.unit _) _ _ _
  rw [List.forIn_cons]
  refine wpAny_bind ?_
  refine wpAny_bind ?_
  refine wpAny_bind (wpAny_mono (h2 _ tk2 F2 fun p hp => N2 p (.tail _ hp)) (fun v s' h' => ?_) fun _ _ x => x)
  obtain ⟨rfl, rfl⟩ := h'
  refine wpAny_bind (wpAny_standAt (wpAny_pure ?_))
  rw [if_pos rfl]
  refine wpAny_bind (wpAny_holding ?_)
  refine display_star (s := ⟨_, _, _, _, _⟩) hh hg (Heap.dictOf_iff.mpr ⟨oD, F2.keep _ _ hd, hoD⟩) lo fun h3 hk => ?_
  refine wpAny_pure ?_
  dsimp only
  rw [List.forIn_nil]
  refine wpAny_pure ?_
  exact wpAny_pure (wpAny_pure (h _ h3 tk2 (F2.keeps hk) (fun p hp => ⟨hk _ _ (N2 p hp).1, (N2 p hp).2⟩) lt1))
end
end Mine
end
section
open PySem PySem.W PySem.Calls PyProof.Rows
set_option maxRecDepth 100000
set_option maxHeartbeats 8000000
namespace Mine
open LCg
section
variable {prog : Program} {w : World} {A : Around} {E : Value → Shared → Prop} {s : Shared} {h₀ : Heap} {L : Addr} {m : Str → Option Value} {env : Env}
/-- what is done behind the value -/
noncomputable def DFin (prog : Program) (w : World) (h₀ : Heap) (L : Addr) (m : Str → Option Value) (y : Str) (Q : Flow → Shared → Prop) (s₁ : Shared) (D : Addr) (k : Str) (vv : Value) (G2 : Array GenState) (news2 : List (Addr × Obj)) : Prop :=
  ∀ h3 tk3 oD', Fr h₀ L h3 (fun z => if z = y then some (.ref D) else m z) → News h₀ L h3 ((D, oD') :: news2) → oD'.IsDictOf (strKind prog w) [(k, vv)] → Off1 D news2 → (D == sysModules) = false → Q .next ⟨h3, G2, s₁.drawn, tk3, s₁.os⟩
/-- where the value's turn ends -/
inductive DVal (prog : Program) (w : World) (h₀ : Heap) (L : Addr) (m : Str → Option Value) (y : Str) (Q : Flow → Shared → Prop) (s₁ : Shared) (I C D : Addr) (oI oC oD : Obj) (e1 : Addr × Obj) (k : Str) (vv : Value) (s₂ : Shared) : Prop
  | mk (h2 : Heap) (tk2 : Tok) (G2 : Array GenState) (news2 : List (Addr × Obj)) (e : s₂ = ⟨h2, G2, s₁.drawn, tk2, s₁.os⟩) (F : Fr h₀ L h2 m) (N : News h₀ L h2 ((I, oI) :: (C, oC) :: (D, oD) :: news2)) (off : Off3 I C D news2) (hm : e1 ∈ news2)
      (fin : DFin prog w h₀ L m y Q s₁ D k vv G2 news2)
/-- the loop's state behind its one turn -/
inductive DInv (prog : Program) (w : World) (h₀ : Heap) (L : Addr) (m : Str → Option Value) (y : Str) (Q : Flow → Shared → Prop) (s₁ : Shared) (I C D ax : Addr) (e1 : Addr × Obj) (k : Str) (s' : Shared) : Prop
  | mk (h' : Heap) (tk : Tok) (G' : Array GenState) (oD : Obj) (vv : Value) (m' : Str → Option Value) (news2 : List (Addr × Obj)) (e : s' = ⟨h', G', s₁.drawn, tk, s₁.os⟩) (F : Fr h₀ L h' m) (N : News h₀ L h' ((D, oD) :: news2)) (hn : h'.Ns C m') (hI : h'.IsListIter I ax 1) (off : Off3 I C D news2)
      (hm : e1 ∈ news2) (hd : oD.IsDictOf (strKind prog w) [(k, vv)]) (fin : DFin prog w h₀ L m y Q s₁ D k vv G' news2)
/-- what the iterable of a dict comprehension gives: a list of one text; and what the key and the value then do -/
inductive OneSrc (prog : Program) (w : World) (A : Around) (h₀ : Heap) (L : Addr) (m : Str → Option Value) (env : Env) (kx vx : Expr) (x y : Str) (scope : Scope) (cl : List (Str × Addr)) (Q : Flow → Shared → Prop) (xv : Value) (s₁ : Shared) : Prop
  | mk (ax : Addr) (c : Nat) (k : Str) (t : Tok) (news : List (Addr × Obj)) (e : xv = .ref ax) (hh : A.handled = none) (F : Fr h₀ L s₁.heap m) (N : News h₀ L s₁.heap news) (hm : (ax, listOf #[.str k t] c) ∈ news)
    (R : ∀ I oI C oC D oD m₂ h tk E', oI.cls = .type "list_iterator" → oD.cls = .type "dict" → NsObj oC m₂ → m₂ x = some (.str k t) → Fr h₀ L h m → News h₀ L h ((I, oI) :: (C, oC) :: (D, oD) :: news) → Off3 I C D news → ((@Ne Nat I C) ∧ (@Ne Nat I D) ∧ (@Ne Nat C D)) →
      wpAny (model prog w) A (eval kx (compEnvC scope cl C env)) (fun kv s₂ => kv = .str k t ∧ s₂ = { s₁ with heap := h, toks := tk }) E' { s₁ with heap := h, toks := tk } ∧
      wpAny (model prog w) A (eval vx (compEnvC scope cl C env)) (fun vv s₂ => DVal prog w h₀ L m y Q s₁ I C D oI oC oD (ax, listOf #[.str k t] c) k vv s₂) E' { s₁ with heap := h, toks := tk })
theorem Assign_DictComp_one {kx vx iter : Expr} {x y : Str} {px py : Pos} {scope : Scope} {cl : List (Str × Addr)} {pos spos : Pos} {Q : Flow → Shared → Prop} (_F : Fr h₀ L s.heap m)
    (hsw : swapsWith (.DictComp kx vx [⟨.Name x px, iter, [], 0⟩] scope pos) (some (.Name y py)) spos.line env = pure true) (hL : env.locals = L) (hbig : h₀.NoLimit)
    (hclos : closureFor scope env = pure cl) (hcell : ∀ z ∈ scope.names, z.2 ≠ .cell) (hkind : scope.kind = .function)
    (hnames : ∀ z ∈ scope.names, z.2 = .local → scope.names.lookup z.1 = some .local) (hx : scope.names.lookup x = some .local)
    (hy : env.kindOf y = some .local) (hp : (env.scope.kind == .class || (env.scope.kind == .module && env.locals != env.globals)) = false)
    (h : wpAny (model prog w) A (eval iter env) (OneSrc prog w A h₀ L m env kx vx x y scope cl Q) E s)
    (hs : ∀ x, foldedSetIterable iter env x = pure x) :
    wpAny (model prog w) A (exec (.Assign [.Name y py] (.DictComp kx vx [⟨.Name x px, iter, [], 0⟩] scope pos) spos) env) Q E s := by
  subst hL
  rw [exec_Assign_Name_used _ _ _ _ hsw]
  refine wpAny_bind (wpAny_standAt (wpAny_bind ?_))
  show wpAny _ A (do let _ ← comprehension (.DictComp kx vx [⟨.Name x px, iter, [], 0⟩] scope pos) scope env _ newDict false (eval iter env) (some (assign (.Name y py) env))) _ _ s
  refine wpAny_bind (wpAny_mono (wpAny_comprehension_free (use := some (assign (.Name y py) env)) (Q := fun _ s' => Q .next s') rfl hs hclos hkind hnames
    (wpAny_mono h (fun xv s₁ h₁ => ?_) fun _ _ e => e)) (fun _ s' hq => wpAny_pure (wpAny_pure hq)) fun _ _ e => e)
  with_reducible refine hideG ?_
  intro G0 hG0
  obtain ⟨ax, c, k, t, news, rfl, hh, F, N, hm, R⟩ := h₁
  with_reducible refine hG0 ?_
  clear hG0 G0
  have hl : s₁.heap.IsList ax #[.str k t] := ⟨_, (N _ hm).1, rfl, _, rfl⟩
  have hlt : ax < s₁.heap.objs.size := Heap.lt_size (N _ hm).1
  refine wpAny_pyIter_list hl ?_
  -- the iterator, the dict, the frame
  generalize hs2 : ({ s₁ with heap := s₁.heap.push { cls := .type "list_iterator", data := .fields #[.ref ax, .int 0 0] } } : Shared) = s₂
  have hI2 : s₂.heap.IsListIter s₁.heap.objs.size ax 0 := by rw [← hs2]; exact ⟨_, Heap.get?_push_size _ rfl, rfl, rfl⟩
  have old1 : ∀ b o, s₁.heap.get? b = some o → s₂.heap.get? b = some o := by rw [← hs2]; exact fun b o e => Heap.get?_push_of_some _ e
  have hz2 : s₂.heap.objs.size = s₁.heap.objs.size + 1 := by rw [← hs2]; exact Heap.size_push ..
  have es2 : s₂ = { s₁ with heap := s₂.heap } := by rw [← hs2]
  clear hs2
  as_aux_lemma =>
  have F2 : Fr h₀ env.locals s₂.heap m := F.keeps old1
  refine wpAny_newObj_type (wpAny_newFunctionEnv hcell (by intro y hy; simp at hy) (fun h₁ hns₁ hsb₁ => ?_) hkind)
  dsimp only at hns₁ hsb₁ ⊢
  have hnew : (s₂.heap.push { cls := .type "dict", dict := none, data := .dict #[] }).DictOf (strKind prog w) s₂.heap.objs.size [] := Heap.DictOf.new s₂.heap
  have hlo : (s₂.heap.objs.size == sysModules) = false := F2.notModules (modules_low hbig)
  generalize hH2 : s₂.heap.push { cls := .type "dict", dict := none, data := .dict #[] } = H2 at hns₁ hsb₁ hnew ⊢
  have hC : H2.objs.size = s₂.heap.objs.size + 1 := by rw [← hH2, Heap.size_push]
  have hDC : s₂.heap.objs.size ≠ H2.objs.size := by rw [hC]; exact Nat.ne_of_lt (Nat.lt_succ_self _)
  have below : ∀ b, b < s₂.heap.objs.size → b ≠ H2.objs.size ∧ b ≠ s₂.heap.objs.size := fun b hb => ⟨by rw [hC]; exact Nat.ne_of_lt (Nat.lt_succ_of_lt hb), Nat.ne_of_lt hb⟩
  have old : ∀ b o, s₂.heap.get? b = some o → h₁.get? b = some o := fun b o e => hsb₁.extBut b o (below b (Heap.lt_size e)).1 (Heap.get?_push_of_some _ (hH2 ▸ Heap.get?_push_of_some _ e))
  have hacc : h₁.DictOf (strKind prog w) s₂.heap.objs.size [] := hnew.at fun o e => hsb₁.extBut _ _ hDC (Heap.get?_push_of_some _ e)
  have hIlt : s₁.heap.objs.size < s₂.heap.objs.size := by rw [hz2]; exact Nat.lt_succ_self _
  have fresh₀ : ∀ a, s₁.heap.objs.size ≤ a → h₀.get? a = none := fun a ha => by
    cases e : h₀.get? a with
    | none => rfl
    | some o' => exact absurd (Heap.lt_size (F.keep a o' e)) (Nat.not_lt.mpr ha)
  have hLlt : env.locals < s₁.heap.objs.size := F.ns.lt
  generalize hIe : s₁.heap.objs.size = I at hI2 hz2 hIlt fresh₀ hLlt
  generalize hDe : s₂.heap.objs.size = D at hC hDC below hacc hIlt hlo hz2 hnew hsb₁
  generalize hCe : H2.objs.size = C at hC hDC below hns₁ hsb₁
  as_aux_lemma =>
  have hIC : I ≠ C := by rw [hC]; exact Nat.ne_of_lt (Nat.lt_succ_of_lt hIlt)
  have hID : I ≠ D := Nat.ne_of_lt hIlt
  have hCD : C ≠ D := Ne.symm hDC
  have hI₀ : h₀.get? I = none := fresh₀ I (Nat.le_refl _)
  have hD₀ : h₀.get? D = none := fresh₀ D (Nat.le_of_lt hIlt)
  have hC₀ : h₀.get? C = none := fresh₀ C (by rw [hC]; exact Nat.le_succ_of_le (Nat.le_of_lt hIlt))
  have hIL : I ≠ env.locals := Nat.ne_of_gt hLlt
  have hDL : D ≠ env.locals := Nat.ne_of_gt (Nat.lt_trans hLlt hIlt)
  have hCL : C ≠ env.locals := by rw [hC]; exact Nat.ne_of_gt (Nat.lt_succ_of_lt (Nat.lt_trans hLlt hIlt))
  have nlt : ∀ p ∈ news, p.1 < I := fun p hp => hIe ▸ Heap.lt_size (N p hp).1
  have off3 : Off3 I C D news := Off3.of fun p hp => ⟨Nat.ne_of_lt (nlt p hp), by rw [hC]; exact Nat.ne_of_lt (Nat.lt_succ_of_lt (Nat.lt_trans (nlt p hp) hIlt)), Nat.ne_of_lt (Nat.lt_trans (nlt p hp) hIlt)⟩
  have F1 : Fr h₀ env.locals h₁ m := F2.keeps old
  have N1 : News h₀ env.locals h₁ news := fun p hp => ⟨old _ _ (old1 _ _ (N p hp).1), (N p hp).2⟩
  have hI1 : h₁.IsListIter I ax 0 := by obtain ⟨o, ho, r⟩ := hI2; exact ⟨o, old _ _ ho, r⟩
  have loop : ∀ s₃ : Shared, s₃ = { s₂ with heap := h₁, toks := s₂.toks + ([] : List (Str × Value)).length } →
      codeAny (model prog w) A (.compLoop (.DictComp kx vx [⟨.Name x px, iter, [], 0⟩] scope pos) 0 (.ref I) (.ref D) (compEnvC scope cl C env))
        (compPost (model prog w) A E (some (assign (.Name y py) env)) (fun _ s' => Q .next s') (.ref D) C) s₃ := by
    intro s₃ e3
    refine codeAny_compLoop_testsD (fun n s' => (n = 2 ∧ s' = s₃) ∨ (n = 1 ∧ DInv prog w h₀ env.locals m y Q s₁ I C D ax (ax, listOf #[.str k t] c) k s'))
      ?_ 2 (.inl ⟨rfl, rfl⟩)
    intro n s' zz
    rcases zz with zz | zz
    · obtain ⟨rfl, rfl⟩ := zz
      have e3h : s'.heap = h₁ := by rw [e3]
      have e3r : s' = { s₁ with heap := h₁, toks := s'.toks } := by rw [e3, es2]
      rw [e3r]
      refine wpAny_pyNext_list_item (s := ⟨_, _, _, _, _⟩) hI1 (show h₁.IsList ax #[.str k t] from ⟨_, (N1 _ hm).1, rfl, _, rfl⟩) (x := .str k t) rfl fun h2 hI2 hs2 => ?_
      refine wpAny_assign_Name (wpAny_storeName_local (lookup_relabel_local hx) (hns₁.at' fun o e => hs2.extBut _ _ (Ne.symm hIC) e) (fun h₃ hn₃ hs₃ => ?_) (by simp [compEnvC, relabel, hkind]))
      refine wpAny_tests_nil ?_
      simp only [if_true]
      obtain ⟨oC, heC, hoC⟩ := ns_obj hn₃
      obtain ⟨oI, heI, rI⟩ := hI2
      have heI3 : h₃.get? I = some oI := hs₃.extBut _ _ hIC heI
      obtain ⟨oD, heD, hoD⟩ := Heap.dictOf_iff.mp (hacc.at fun o e => hs₃.extBut _ _ hDC (hs2.extBut _ _ (Ne.symm hID) e))
      have F3 : Fr h₀ env.locals h₃ m := (F1.change hs2 hIL hI₀).change hs₃ hCL hC₀
      have o3 := off3.mem
      have N3 : News h₀ env.locals h₃ ((I, oI) :: (C, oC) :: (D, oD) :: news) := fun p hp => by
        rcases List.mem_cons.mp hp with rfl | hp
        · exact ⟨heI3, hIL, hI₀⟩
        · rcases List.mem_cons.mp hp with rfl | hp
          · exact ⟨heC, hCL, hC₀⟩
          · rcases List.mem_cons.mp hp with rfl | hp
            · exact ⟨heD, hDL, hD₀⟩
            · exact ⟨hs₃.extBut _ _ (o3 p hp).2.1 (hs2.extBut _ _ (o3 p hp).1 (N1 p hp).1), (N1 p hp).2⟩
      have R1 := fun E' => R I oI C oC D oD _ h₃ (s'.toks + 1) E' rI.1 (let ⟨_, _, q, _⟩ := hoD; q.1) hoC (by simp) F3 N3 off3 ⟨hIC, hID, hCD⟩
      refine wpAny_mono (R1 _).1 (fun kv s4 h4 => ?_) fun _ _ e => e
      obtain ⟨rfl, rfl⟩ := h4
      refine wpAny_mono (R1 _).2 (fun vv s5 h5 => ?_) fun _ _ e => e
      with_reducible refine hideG ?_
      intro G0 hG0
      obtain ⟨h2', tk2, G2, news2, rfl, F5, N5, off5, hm5, fin⟩ := h5
      with_reducible refine hG0 ?_
      clear hG0 G0
      have o5 := off5.mem
      have zD := N5 (D, oD) (.tail _ (.tail _ (.head _)))
      refine wpAny_dictSet_pairs (knd := strKind prog w) (kvs := []) (s := ⟨_, _, _, _, _⟩) (hsz := Nat.zero_le _) (strKind_is _ _ _ _) (Heap.dictOf_iff.mpr ⟨oD, zD.1, hoD⟩) fun h₆ hl₆ hs₆ => ?_
      obtain ⟨oD6, heD6, hoD6⟩ := Heap.dictOf_iff.mp hl₆
      refine ⟨1, by decide, .inr ⟨rfl, ⟨h₆, _, G2, oD6, vv, _, news2, rfl, F5.change hs₆ hDL hD₀, fun p hp => ?_, (hoC.ns (N5 (C, oC) (.tail _ (.head _))).1).sameBut hs₆ hCD, ⟨oI, hs₆.extBut _ _ hID (N5 (I, oI) (.head _)).1, rI⟩, off5, hm5, hoD6, fin⟩⟩⟩
      rcases List.mem_cons.mp hp with rfl | hp
      · exact ⟨heD6, hDL, hD₀⟩
      · have z := N5 p (.tail _ (.tail _ (.tail _ hp)))
        exact ⟨hs₆.extBut _ _ (o5 p hp).2.2 z.1, z.2⟩
    · with_reducible refine hideG ?_
      intro G0 hG0
      obtain ⟨rfl, ⟨h', tk, G', oD, vv, m', news2, rfl, F', N', hn', hI', off', hm', hd', fin⟩⟩ := zz
      with_reducible refine hG0 ?_
      clear hG0 G0
      have o5 := off'.mem
      refine wpAny_pyNext_list_end (s := ⟨_, _, _, _, _⟩) hh hI' (show h'.IsList ax #[.str k t] from ⟨_, (N' _ (.tail _ hm')).1, rfl, _, rfl⟩) rfl fun h3 e3 => ?_
      show wpAny _ A (assign (.Name y py) env (.ref D)) _ _ _
      refine wpAny_assign_Name (wpAny_storeName_local hy (F'.ns.at' fun o e => e3 _ _ (Ne.symm hIL) e) (fun h4 hn4 hs4 => ?_) hp)
      have hnC : h4.Ns C m' := (hn'.at' fun o e => e3 _ _ (Ne.symm hIC) e).sameBut hs4 hCL
      refine ⟨m', hnC, fun h5 hs5 => ?_⟩
      have keep : ∀ b o, b ≠ I → b ≠ env.locals → b ≠ C → h'.get? b = some o → h5.get? b = some o := fun b o b1 b2 b3 e =>
        hs5.extBut _ _ b3 (hs4.extBut _ _ b2 (e3 _ _ b1 e))
      refine fin h5 _ oD ⟨hn4.sameBut hs5 (Ne.symm hCL), fun b o e => ?_, F'.above⟩ (fun p hp => ?_) hd' off'.one hlo
      · refine keep b o (fun q => ?_) (Nat.ne_of_lt (Nat.lt_of_lt_of_le (Heap.lt_size e) F'.above)) (fun q => ?_) (F'.keep b o e)
        · rw [q, hI₀] at e; cases e
        · rw [q, hC₀] at e; cases e
      · have z := N' p hp
        refine ⟨keep _ _ ?_ z.2.1 ?_ z.1, z.2⟩
        · rcases List.mem_cons.mp hp with rfl | hp
          · exact Ne.symm hID
          · exact (o5 p hp).1
        · rcases List.mem_cons.mp hp with rfl | hp
          · exact hDC
          · exact (o5 p hp).2.1
  exact codeAny_compStart_dict (loop _ rfl) ((Walks.list hh I ax (fun q => Nat.lt_irrefl _ (by rw [q] at hlt; rw [hIe] at hlt; exact hlt)) #[.str k t]).self 0 _ _ _ ⟨hI1, ⟨_, (N1 _ hm).1, rfl, _, rfl⟩⟩ (loop _ rfl))
end
end Mine
end
section
open PySem PySem.W PySem.Calls PyProof.Rows
set_option maxRecDepth 100000
set_option maxHeartbeats 8000000
namespace Mine
/-- the table of the codes that a def has made: empty, or the one lambda's -/
noncomputable def TabSt (line col : Nat) (qual : Str) (ps : Array Value) (rest : Led) : Prop :=
  ps = #[] ∨ ∃ c' oc vs t, ps = #[rawInt line, rawInt col, .ref c'] ∧ (c', oc) ∈ rest ∧ oc.data = .fields vs ∧ vs[1]? = some (.str qual t)
theorem TabSt.more {line col : Nat} {qual : Str} {ps : Array Value} {rest rest' : Led} (h : TabSt line col qual ps rest) (k : ∀ p ∈ rest, p ∈ rest') : TabSt line col qual ps rest' := by
  rcases h with h | ⟨c', oc, vs, t, e, hm, r⟩
  · exact .inl h
  · exact .inr ⟨c', oc, vs, t, e, k _ hm, r⟩
theorem updF_at {P : Addr} {o : Obj} : ∀ {front rest : Led}, (∀ p ∈ front, p.1 ≠ P) → (∀ p ∈ rest, p.1 ≠ P) → UpdF P o (front ++ (P, o) :: rest) (fun o' => front ++ (P, o') :: rest)
  | [], _, _, h2 => .head h2
  | q :: r, rest, h1, h2 => .tail (h1 q (.head _)) (updF_at (fun p hp => h1 p (.tail _ hp)) h2)
section
variable {prog : Program} {w : World} {A : Around} {E : Value → Shared → Prop} {s : Shared} {h₀ : Heap} {L a c P f : Addr} {m mg mb : Str → Option Value} {cn : Str} {cs : Scope} {ccd : Value} {cl : List (Str × Addr)} {news : Led} {g : Obj → Led}
  {p : Program} {loose : List Str} {mean : ExcName → Option Value} {name qual : Str} {params : Arguments} {body : Expr} {scope : Scope} {ps : Array Value} {pos : Pos} {clos : List (Str × Addr)} {K : Frag}
theorem lam_make {Q : Value → Shared → Prop} {front rest : Led} (F : Fr h₀ L s.heap m) (N : News h₀ L s.heap (front ++ (P, tabObj ps) :: rest)) (T : Top p loose mean mg mb h₀) (C : CodeHd h₀ c P) (hcd : ccd = .ref c) (n1 : ∀ p ∈ front, p.1 ≠ P) (n2 : ∀ p ∈ rest, p.1 ≠ P)
    (ht : TabSt pos.line pos.col ((envX cn cs L a ccd cl).qual ++ "<lambda>") ps rest)
    (hdef : defaultsOf params (envX cn cs L a ccd cl) = ([], []))
    (hcl : closureFor scope (envX cn cs L a ccd cl) = pure clos)
    (h : ∀ f c' oc vs t ctv ps' rest2 h' tk, Fr h₀ L h' m →
      News h₀ L h' ((f, kla_obj "<lambda>" ((envX cn cs L a ccd cl).qual ++ "<lambda>") params body scope clos ((mg "__name__").getD .none) c' ctv) :: (front ++ (P, tabObj ps') :: rest2)) →
      (c', oc) ∈ rest2 → oc.data = .fields vs → vs[1]? = some (.str ((envX cn cs L a ccd cl).qual ++ "<lambda>") t) → TabSt pos.line pos.col ((envX cn cs L a ccd cl).qual ++ "<lambda>") ps' rest2 →
      (∀ p ∈ rest, p ∈ rest2) → (∀ p ∈ rest2, p ∈ rest ∨ ∀ q ∈ front ++ (P, tabObj ps) :: rest, q.1 < p.1) → (∀ q ∈ front ++ (P, tabObj ps) :: rest2, q.1 < f) → Q (.ref f) { s with heap := h', toks := tk }) :
    wpAny M A (eval (.Lambda params body scope pos) (envX cn cs L a ccd cl)) Q E s := by
  refine kla_eval hdef ?_
  rcases ht with rfl | ⟨c', oc, vs, t, rfl, hm, hd, hv⟩
  · have U : UpdF P (tabObj #[]) (front ++ (P, tabObj #[]) :: rest) (fun o' => front ++ (P, o') :: rest) := updF_at n1 n2
    refine kla_nest (clos := clos) F N T C hcd U True.intro rfl hcl fun f c' oc vs t ctv h' tk F' N' hd hv l1 l2 => ?_
    refine h f c' oc vs t ctv _ ((c', oc) :: rest) h' tk F' (fun q hq => N' q ?_) (.head _) hd hv (.inr ⟨c', oc, vs, t, rfl, .head _, hd, hv⟩) (fun p hp => .tail _ hp) (fun p hp => ?_) fun q hq => ?_
    · rcases List.mem_cons.mp hq with rfl | hq
      · exact .head _
      · refine .tail _ ?_
        rcases List.mem_append.mp hq with hq | hq
        · exact .tail _ (List.mem_append_left _ hq)
        · rcases List.mem_cons.mp hq with rfl | hq
          · exact .tail _ (List.mem_append_right _ (.head _))
          · rcases List.mem_cons.mp hq with rfl | hq
            · exact .head _
            · exact .tail _ (List.mem_append_right _ (.tail _ hq))
    · rcases List.mem_cons.mp hp with rfl | hp
      · exact .inr l1
      · exact .inl hp
    · rcases List.mem_append.mp hq with hq | hq
      · exact Nat.lt_trans (l1 q (List.mem_append_left _ hq)) l2
      · rcases List.mem_cons.mp hq with rfl | hq
        · exact Nat.lt_trans (l1 (P, tabObj #[]) (List.mem_append_right _ (.head _))) l2
        · rcases List.mem_cons.mp hq with rfl | hq
          · exact l2
          · exact Nat.lt_trans (l1 q (List.mem_append_right _ (.tail _ hq))) l2
  · have hP : (P, tabObj #[rawInt pos.line, rawInt pos.col, .ref c']) ∈ front ++ (P, tabObj #[rawInt pos.line, rawInt pos.col, .ref c']) :: rest := List.mem_append_right _ (.head _)
    refine kla_hit (clos := clos) (c' := c') F N T C hcd hP (by simp [TriplesOk, rawInt]) (by simp [codeAmong, rawInt]) hcl fun f ctv h' tk F' N' l1 => ?_
    exact h f c' oc vs t ctv _ rest h' tk F' N' hm hd hv (.inr ⟨c', oc, vs, t, rfl, hm, hd, hv⟩) (fun p hp => hp) (fun p hp => .inl hp) l1
theorem lam_call {args : List Value} {kw : List (Str × Value)} {binds : List (Str × Value)} {pm ctv : Value} {c' : Addr} {oc : Obj} {vs : Array Value} {t : Tok} {Q : Value → Shared → Prop} (F : Fr h₀ L s.heap m) (N : News h₀ L s.heap news) (X : K.In h₀) (T : Top p loose mean mg mb h₀) (hroom : A.depth < recursionLimit)
    (ho : (f, kla_obj name qual params body scope cl pm c' ctv) ∈ news) (hc : (c', oc) ∈ news) (hd : oc.data = .fields vs) (hv : vs[1]? = some (.str qual t))
    (hbind : bindArgs (kla_fn name qual params body scope cl pm (.ref c') ctv) ⟨args, kw⟩ = pure binds) (hloc : ∀ y ∈ binds, scope.names.lookup y.1 = some .local)
    (hcell : ∀ x ∈ scope.names, x.2 ≠ .cell) (hco : scope.isCoroutine = false) (hgen : scope.isGenerator = false) (hk : scope.kind = .function)
    (h : ∀ g L' h₁, K.In g → Top p loose mean mg mb g → Fr g L' h₁ (fun y => binds.reverse.lookup y) → News g L' h₁ news → (∀ p ∈ news, p.1 < L') →
      (∀ h' m' news', Fr g L' h' m' → News g L' h' news' → Fr h₀ L h' m ∧ News h₀ L h' news') →
      wpAny (model prog w) (A.deeper (envX qual scope L' f (.ref c') cl)) (eval body (envX qual scope L' f (.ref c') cl)) Q (fun _ _ => False) { s with heap := h₁, toks := s.toks + binds.length }) :
    wpAny (model prog w) A (call (.ref f) args kw) Q E s := by
  obtain ⟨st, FG, lv⟩ := hide_base F N
  refine wpAny_call ?_
  refine kla_callFunE hroom (N _ ho).1 rfl hco hgen rfl (codeRec_news N hc hd hv) ?_
  rw [hbind]
  refine wpAny_pure (wpAny_newFunctionEnv hcell hloc (fun h₁ hns hsb => ⟨((T.nolimit).keeps F.keep).fresh _ hsb, ?_⟩) hk)
  show codeAny _ _ (.expr body (envX qual scope s.heap.objs.size f (.ref c') cl)) _ _
  have hk₁ : ∀ b o, s.heap.get? b = some o → h₁.get? b = some o := fun b o e => hsb.extBut b o (Nat.ne_of_lt (Heap.lt_size e)) (Heap.get?_push_of_some _ e)
  exact kla_codeExpr (wpAny_mono (h _ s.heap.objs.size h₁ (X.keeps st) (T.keeps st) ⟨hns, fun b o e => hk₁ b o (of_hideAll _ e), Nat.le_of_eq (hideAll_size _ _)⟩
    (fun p hp => ⟨hk₁ _ _ (N p hp).1, Nat.ne_of_lt (Heap.lt_size (N p hp).1), hideAll_none _ (List.mem_map_of_mem hp)⟩) (fun p hp => Heap.lt_size (N p hp).1) (fun h' m' news' F' N' => lv _ h' m' news' F' N')) (fun v s' hl => hl) fun _ _ q => q.elim)
theorem news_front {h : Heap} {front W rest : Led} (N : News h₀ L h (front ++ (W ++ rest))) : News h₀ L h (W ++ (front ++ rest)) := fun q hq => N q (by
  rcases List.mem_append.mp hq with hq | hq
  · exact List.mem_append_right _ (List.mem_append_left _ hq)
  · rcases List.mem_append.mp hq with hq | hq
    · exact List.mem_append_left _ hq
    · exact List.mem_append_right _ (List.mem_append_right _ hq))
theorem news_back {h : Heap} {q : Addr × Obj} {front W rest : Led} (N : News h₀ L h (q :: (W ++ (front ++ rest)))) : News h₀ L h (q :: (front ++ (W ++ rest))) := fun r hr => N r (by
  rcases List.mem_cons.mp hr with rfl | hr
  · exact .head _
  refine .tail _ ?_
  rcases List.mem_append.mp hr with hq | hq
  · exact List.mem_append_right _ (List.mem_append_left _ hq)
  · rcases List.mem_append.mp hq with hq | hq
    · exact List.mem_append_left _ hq
    · exact List.mem_append_right _ (List.mem_append_right _ hq))
theorem ownOff_cons {q : Addr × Obj} {r : Led} {bs : List Addr} (h : ∀ b ∈ bs, q.1 ≠ b) (k : OwnOff r bs) : OwnOff (q :: r) bs := fun p hp => by
  rcases List.mem_cons.mp hp with rfl | hp
  · exact h
  · exact k p hp
theorem news_swap3 {h : Heap} {q a b c : Addr × Obj} {r : Led} (N : News h₀ L h (q :: a :: b :: c :: r)) : News h₀ L h (a :: b :: c :: q :: r) := fun p hp => N p (by
  rcases List.mem_cons.mp hp with rfl | hp
  · exact .tail _ (.head _)
  rcases List.mem_cons.mp hp with rfl | hp
  · exact .tail _ (.tail _ (.head _))
  rcases List.mem_cons.mp hp with rfl | hp
  · exact .tail _ (.tail _ (.tail _ (.head _)))
  rcases List.mem_cons.mp hp with rfl | hp
  · exact .head _
  · exact .tail _ (.tail _ (.tail _ (.tail _ hp))))
theorem ne_of_cls {h : Heap} {a b : Addr} {o o' : Obj} (e : h.get? a = some o) (e' : h.get? b = some o') (hc : o.cls ≠ o'.cls) : a ≠ b := fun q => by
  rw [q, e'] at e; cases e; exact hc rfl
theorem ne_of_ns {h : Heap} {a b : Addr} {o o' : Obj} {m : Str → Option Value} {its : Array Value} {n : Nat} (e : h.get? a = some o) (e' : h.get? b = some o') (hd : o.data = .seq its n) (hc : LCg.NsObj o' m) : a ≠ b := fun q => by
  rw [q, e'] at e; cases e; obtain ⟨_, _, z, _⟩ := hc; rw [hd] at z; cases z
theorem item_last {value slice : Expr} {l : Addr} {vs : List Value} {v : Value} {u : Tok} {Q : Value → Shared → Prop} (hl : s.heap.IsList l (vs ++ [v]).toArray) (hz : vs.length ≤ 1000000) (h : Q v s)
    (hs : subscripted slice false (.ref l) (.int (-1) u) = operate [.ref l, .int (-1) u] (getItem (.ref l) (.int (-1) u)) := by with_unfolding_all rfl) :
    wpAny (model prog w) A (subscriptTail value slice (.ref l) (.int (-1) u)) Q E s :=
  subscriptTail_builtinR hl.typeIs slot_list_getitem.lookup (wpAny_getItem_list_neg (Q := fun r s' => r = v ∧ Q r s') hl (by decide) (by simp; omega) (by decide)
    (by have e : ((-1 : Int) + ((vs ++ [v]).toArray.size : Int)).toNat = vs.length := by simp; omega
        rw [e]; simp) ⟨rfl, h⟩) hs
theorem item_dict1 {value slice : Expr} {d : Addr} {x : Str} {v : Value} {t : Tok} {Q : Value → Shared → Prop} (hm : s.heap.DictOf (strKind prog w) d [(x, v)]) (h : Q v { s with toks := s.toks + 1 })
    (hs : subscripted slice false (.ref d) (.str x t) = operate [.ref d, .str x t] (getItem (.ref d) (.str x t)) := by with_unfolding_all rfl) :
    wpAny (model prog w) A (subscriptTail value slice (.ref d) (.str x t)) Q E s :=
  subscriptTail_builtinR hm.typeIs F.slot_dict_getitem.lookup (wpAny_getItem_of (Q := fun r s' => r = v ∧ Q r s') (strKind_is _ _ _ _) hm.mapOf (by simp [valueAt]) ⟨rfl, h⟩) hs
theorem appU {D : Addr} {vs : List Value} {n : Nat} {x : Value} {news' : Led} {Q : Value → Shared → Prop} (F : Fr h₀ L s.heap m) (N : News h₀ L s.heap news) (U : Upd D (listOf vs.toArray n) (listOf (vs ++ [x]).toArray (n + 1)) news news') (hz : vs.length ≤ 1000)
    (h : ∀ h', Fr h₀ L h' m → News h₀ L h' news' → Q .none { s with heap := h' }) :
    wpAny (model prog w) A (call (.builtin "list.append") [.ref D, x]) Q E s :=
  append_K F N (by rw [List.push_toArray]; exact U) h (by rw [List.size_toArray]; show _ ≤ 16777216; omega)
end
noncomputable def TabW (ps : Array Value) (rest : Led) : Prop := TabSt 149 71 (Str.ofString "C14NWriterTarget._start" ++ Str.ofString ".<locals>." ++ Str.ofString "<lambda>") ps rest
end Mine
end
section
open PySem PySem.W PySem.Calls PyProof.Rows
set_option maxRecDepth 100000
set_option maxHeartbeats 8000000
set_option linter.all false
namespace Mine
/-- a writer's addresses and what never changes of it -/
structure WP where
  x : Nat
  dx : Nat
  bm : Nat
  lp : Nat
  ld : Nat
  et : Nat
  dn : Nat
  xl : Nat
  tx : Nat
  ns : Nat
  pm : Nat
  ps : Nat
  k : Nat → Tok
  oe : Obj
  tu : Tok
  tv : Tok
/-- what it holds now -/
structure WX where
  ig : Nat
  dat : Option Str
  seen : Bool
  parts : List Str
  es : List Nat
  nn : Nat
  pn : Nat
  pt : Array Value
noncomputable def WX.sDat (c : WX) (d : Option Str) : WX := { c with dat := d }
noncomputable def WX.sParts (c : WX) (d : List Str) : WX := { c with parts := d }
noncomputable def WX.sEs (c : WX) (d : List Nat) : WX := { c with es := d }
noncomputable def WX.sNn (c : WX) (d : Nat) : WX := { c with nn := d }
noncomputable def WX.sPn (c : WX) (d : Nat) : WX := { c with pn := d }
noncomputable def WX.sSeen (c : WX) (d : Bool) : WX := { c with seen := d }
noncomputable def WX.sIg (c : WX) (d : Nat) : WX := { c with ig := d }
noncomputable def WX.sPt (c : WX) (d : Array Value) : WX := { c with pt := d }
noncomputable def adr (P : WP) : Nat → Addr
  | 0 => P.x | 1 => P.bm | 2 => P.et | 3 => P.xl | 4 => P.tx | 5 => P.dx | 6 => P.ld | 7 => P.dn | 8 => P.ns | 9 => P.ps | 10 => P.lp | _ => 142
noncomputable def datIs (d : Option Str) (vs : List Value) : Prop := match d with | none => vs = [] | some y => ∃ u, vs = [.str y u]
noncomputable def wDict (w : World) (P : WP) (c : WX) (dn : Bool) (it : Tok) : Obj := dictOf (wEs w.params P.k P.bm P.ld P.et P.dn P.ns P.pm P.ps c.seen dn (c.ig : Int) it) 17
noncomputable def wTup (P : WP) : Obj := tupObj #[.str (Str.ofString "http://www.w3.org/XML/1998/namespace") P.tu, .str (Str.ofString "xml") P.tv]
/-- what stands at each address -/
noncomputable def slotO (w : World) (P : WP) (c : WX) (i : Nat) (o : Obj) : Prop := match i with
  | 0 => o = instObj 169 P.dx
  | 1 => o = boundApp P.lp
  | 2 => o = P.oe
  | 3 => ∃ n, o = listOf #[.ref P.tx] n
  | 4 => o = wTup P
  | 5 => ∃ dn it, o = wDict w P c dn it
  | 6 => ∃ n vs, o = listOf (List.toArray vs) n ∧ datIs c.dat vs
  | 7 => ∃ n, o = listOf (List.toArray (Value.ref P.xl :: c.es.map Value.ref)) n
  | 8 => ∃ n vs, o = listOf (List.toArray vs) n ∧ vs.length = c.nn
  | 9 => ∃ n vs, o = listOf (List.toArray vs) n ∧ vs.length = c.pn
  | 10 => ∃ n vs, o = listOf (List.toArray vs) n ∧ StrsAre vs c.parts
  | _ => o = tabObj c.pt
noncomputable def WAt (n : Nat) (w : World) (P : WP) (c : WX) (R : Addr → Obj → Prop) : Prop := ∀ i, i < n → ∃ o, slotO w P c i o ∧ R (adr P i) o
noncomputable def Mut (P : WP) (b : Addr) : Prop := ∃ i, 5 ≤ i ∧ i < 12 ∧ adr P i = b
noncomputable def Moves (P : WP) (h h' : Heap) : Prop := ∀ b o, ¬ Mut P b → h.get? b = some o → h'.get? b = some o
/-- a writer that stands in a heap; B is what never changes, h0 the heap at the start -/
structure WB (n : Nat) (w : World) (B : Heap) (P : WP) (c : WX) (h0 g : Heap) : Prop where
  base : B.StaysIn g
  new : ∀ i, i < 12 → B.get? (adr P i) = none
  inj : ∀ i j, i < 12 → j < 12 → adr P i = adr P j → i = j
  hn : 11 ≤ n
  hm : n ≤ 12
  at_ : WAt n w P c fun a o => g.get? a = some o
  moves : Moves P h0 g
section
variable {n : Nat} {w : World} {B h0 g h h' : Heap} {P : WP} {c c' : WX} {L : Addr} {m : Str → Option Value} {news : Led}
theorem Moves.refl : Moves P h h := fun _ _ _ e => e
theorem Moves.trans {h'' : Heap} (a : Moves P h h') (b : Moves P h' h'') : Moves P h h'' := fun x o n e => b x o n (a x o n e)
theorem WAt.mono {R R' : Addr → Obj → Prop} (a : WAt n w P c R) (k : ∀ b o, R b o → R' b o) : WAt n w P c R' := fun i hi => let ⟨o, x, y⟩ := a i hi; ⟨o, x, k _ _ y⟩
theorem WB.up (W : WB n w B P c h0 g) (k : g.StaysIn h) : WB n w B P c h0 h := ⟨fun b o e => k _ _ (W.base _ _ e), W.new, W.inj, W.hn, W.hm, W.at_.mono fun _ _ e => k _ _ e, fun b o n e => k _ _ (W.moves b o n e)⟩
theorem WB.here (W : WB n w B P c h0 g) : WB n w B P c g g := ⟨W.base, W.new, W.inj, W.hn, W.hm, W.at_, Moves.refl⟩
theorem WB.now (W : WB n w B P c h0 g) (F : Fr g L h m) : WB n w B P c h h := (W.up F.keep).here
theorem WB.end_ (W : WB n w B P c h0 g) (F : Fr g L h m) : WB n w B P c h0 h := W.up F.keep
theorem notFreed {a : Addr} {o : Obj} (e : h.get? a = some o) : o.isFreed = false := (Heap.get?_some_iff.mp e).2
/-- an object of the base handed to the ledger -/
theorem lend {d : Addr} {o : Obj} (F : Fr g L h m) (N : News g L h news) (e : g.get? d = some o) : Fr (g.hide d) L h m ∧ News (g.hide d) L h ((d, o) :: news) := by
  refine ⟨⟨F.ns, fun b x q => F.keep b x (Heap.of_hide q), Nat.le_trans (Nat.le_of_eq (Heap.hide_size _ _)) F.above⟩, fun p hp => ?_⟩
  rcases List.mem_cons.mp hp with rfl | hp
  · exact ⟨F.keep _ _ e, fun q => Nat.lt_irrefl L (Nat.lt_of_lt_of_le (by have := Heap.lt_size e; dsimp only at q; rw [q] at this; exact this) F.above), Heap.hide_self _ _⟩
  · refine ⟨(N p hp).1, (N p hp).2.1, ?_⟩
    cases q : (g.hide d).get? p.1 with
    | none => rfl
    | some x => have := Heap.of_hide q; rw [(N p hp).2.2] at this; cases this
/-- and given back: a new base -/
theorem give {d : Addr} {o o' : Obj} {m' : Str → Option Value} {news' : Led} (e : g.get? d = some o) (F : Fr (g.hide d) L h' m') (N : News (g.hide d) L h' ((d, o') :: news')) (off : ∀ p ∈ news', p.1 ≠ d) :
    ∃ g', Fr g' L h' m' ∧ News g' L h' news' ∧ g'.get? d = some o' ∧ ∀ b, b ≠ d → g'.get? b = g.get? b := by
  have z := (N _ (.head _)).1
  have hd : (g.update d fun _ => o').get? d = some o' := Heap.get?_update_self _ e (notFreed z)
  have ho : ∀ b, b ≠ d → (g.update d fun _ => o').get? b = g.get? b := fun b n => Heap.get?_update_other _ _ (Ne.symm n)
  refine ⟨g.update d fun _ => o', ⟨F.ns, fun b x q => ?_, ?_⟩, fun p hp => ⟨(N p (.tail _ hp)).1, (N p (.tail _ hp)).2.1, ?_⟩, hd, ho⟩
  · by_cases n : b = d
    · rw [n, hd] at q; cases q; rw [n]; exact z
    · rw [ho b n] at q
      exact F.keep _ _ ((Heap.hide_ne g n).trans q)
  · rw [Heap.size_after_update]; exact Nat.le_trans (Nat.le_of_eq (Heap.hide_size g d).symm) F.above
  · rw [ho _ (off p hp), ← Heap.hide_ne g (off p hp)]; exact (N p (.tail _ hp)).2.2
theorem off_base {d : Addr} {o : Obj} (N : News g L h news) (e : g.get? d = some o) : ∀ p ∈ news, p.1 ≠ d := fun p hp q => by have := (N p hp).2.2; rw [q, e] at this; cases this
/-- one object of the writer changed -/
theorem WB.put {g' : Heap} {o' : Obj} (j : Nat) (W : WB n w B P c h0 g) (hj : 5 ≤ j ∧ j < 11) (ho' : g'.get? (adr P j) = some o') (hb : ∀ b, b ≠ adr P j → g'.get? b = g.get? b)
    (hs : ∀ i, i < n → i ≠ j → ∀ o, slotO w P c i o → slotO w P c' i o) (hn : slotO w P c' j o') : WB n w B P c' h0 g' := by
  have hj12 : j < 12 := Nat.lt_succ_of_lt hj.2
  refine ⟨fun b o e => ?_, W.new, W.inj, W.hn, W.hm, fun i hi => ?_, fun b o nm e => ?_⟩
  · refine (hb b fun q => ?_).trans (W.base _ _ e)
    rw [q, W.new j hj12] at e; cases e
  · by_cases q : i = j
    · exact ⟨o', q ▸ hn, q ▸ ho'⟩
    · obtain ⟨o, a, e⟩ := W.at_ i hi
      exact ⟨o, hs i hi q o a, (hb _ fun z => q (W.inj i j (Nat.lt_of_lt_of_le hi W.hm) hj12 z)).trans e⟩
  · exact (hb b fun q => nm ⟨j, hj.1, hj12, q.symm⟩).trans (W.moves b o nm e)
/-- the base behind a call that moved the writer -/
theorem le3 {a b c d : Nat} (h : b + c ≤ d) : a + b + c ≤ a + d := by rw [Nat.add_assoc]; exact Nat.add_le_add_left h a
theorem overs {g h' : Heap} : ∀ ds : List Addr, (∀ d ∈ ds, (∃ o, g.get? d = some o) ∧ ∃ o, h'.get? d = some o) → ∃ g' : Heap, g'.objs.size = g.objs.size ∧ (∀ d ∈ ds, g'.get? d = h'.get? d) ∧ ∀ b, b ∉ ds → g'.get? b = g.get? b := by
  intro z0
  induction z0 with
  | nil =>
    rintro _
    exact ⟨g, rfl, (fun _ h => nomatch h), fun _ _ => rfl⟩
  | cons d r ih0 =>
    rintro k
    obtain ⟨g1, a, b, c⟩ := ih0 fun x hx => k x (.tail _ hx)
    by_cases q : d ∈ r
    · exact ⟨g1, a, fun x hx => (List.mem_cons.mp hx).elim (fun e => e ▸ b _ q) (b x), fun x hx => c x fun z => hx (.tail _ z)⟩
    · obtain ⟨⟨o, e⟩, o', e'⟩ := k d (.head _)
      have e1 : g1.get? d = some o := (c d q).trans e
      refine ⟨g1.update d fun _ => o', by rw [Heap.size_after_update]; exact a, fun x hx => ?_, fun x hx => ?_⟩
      · rcases List.mem_cons.mp hx with rfl | hx
        · rw [Heap.get?_update_self _ e1 (notFreed e')]; exact e'.symm
        · rw [Heap.get?_update_other _ _ (fun z : d = x => q (by rw [z]; exact hx))]; exact b x hx
      · rw [Heap.get?_update_other _ _ (fun z : d = x => hx (by rw [z]; exact .head _))]; exact c x fun z => hx (.tail _ z)
theorem WB.back (F : Fr g L h m) (N : News g L h news) (W : WB 12 w B P c h0 g) (W2 : WB 12 w B P c' h h') : ∃ g', Fr g' L h' m ∧ News g' L h' news ∧ WB 12 w B P c' h0 g' := by
  have inG : ∀ i, i < 12 → ∃ o, g.get? (adr P i) = some o := fun i hi => let ⟨o, _, e⟩ := W.at_ i hi; ⟨o, e⟩
  obtain ⟨g', hz, h1, h2⟩ := overs (g := g) (h' := h') ((List.range' 5 7).map (adr P)) (fun d hd => by
    obtain ⟨i, hi, rfl⟩ := List.mem_map.mp hd
    have hi' : i < 12 := by have := (List.mem_range'_1.mp hi).2; omega
    exact ⟨inG i hi', let ⟨o, _, e⟩ := W2.at_ i hi'; ⟨o, e⟩⟩)
  have mm : ∀ b, b ∈ (List.range' 5 7).map (adr P) ↔ Mut P b := fun b => by
    constructor
    · intro hb; obtain ⟨i, hi, rfl⟩ := List.mem_map.mp hb; have := List.mem_range'_1.mp hi; exact ⟨i, this.1, by omega, rfl⟩
    · rintro ⟨i, a, b', rfl⟩; exact List.mem_map_of_mem (List.mem_range'_1.mpr ⟨a, by omega⟩)
  have hm : ∀ b, Mut P b → ∃ o, g.get? b = some o := fun b ⟨i, _, hi, q⟩ => q ▸ inG i hi
  have key : ∀ b o, ¬ Mut P b → h.get? b = some o → h'.get? b = some o := W2.moves
  have k' : ∀ b o, g'.get? b = some o → h'.get? b = some o := fun b o e => by
    by_cases q : Mut P b
    · rw [h1 b ((mm b).mpr q)] at e; exact e
    · rw [h2 b fun z => q ((mm b).mp z)] at e; exact key b o q (F.keep b o e)
  refine ⟨g', ⟨?_, k', by rw [hz]; exact F.above⟩, fun p hp => ⟨key _ _ (fun q => ?_) (N p hp).1, (N p hp).2.1, ?_⟩, ?_⟩
  · refine F.ns.at' fun o e => key L o (fun q => ?_) e
    obtain ⟨o', e'⟩ := hm L q
    exact Nat.lt_irrefl L (Nat.lt_of_lt_of_le (Heap.lt_size e') F.above)
  · obtain ⟨o', e'⟩ := hm _ q; rw [(N p hp).2.2] at e'; cases e'
  · rw [h2 _ fun z => ?_]
    · exact (N p hp).2.2
    · obtain ⟨o', e'⟩ := hm _ ((mm _).mp z); rw [(N p hp).2.2] at e'; cases e'
  · refine ⟨fun b o e => ?_, W.new, W.inj, W.hn, W.hm, fun i hi => ?_, fun b o n e => ?_⟩
    · have e1 := W.base b o e
      refine (h2 b fun z => ?_).trans e1
      obtain ⟨i, a, b', rfl⟩ := (mm b).mp z
      rw [W.new i b'] at e; cases e
    · obtain ⟨o, a, e⟩ := W2.at_ i hi
      refine ⟨o, a, ?_⟩
      by_cases q : Mut P (adr P i)
      · exact (h1 _ ((mm _).mpr q)).trans e
      · obtain ⟨o0, e0⟩ := inG i hi
        have := key _ _ q (F.keep _ _ e0)
        rw [this] at e; cases e
        exact (h2 _ fun z => q ((mm _).mp z)).trans e0
    · exact (h2 b fun z => n ((mm b).mp z)).trans (W.moves b o n e)
end
end Mine
end
section
open PySem PySem.W PySem.Calls PyProof.Rows
set_option maxRecDepth 100000
set_option maxHeartbeats 8000000
set_option linter.all false
namespace Mine
theorem eqs_fill : PySem.Challenge.rw_if0001_01 = PySem.Challenge.rw_if0001_01 → Mine.hd0.heap_1_1 = Mine.hd0.heap_1_1 := by
  k_fill
  exact fun _ => rfl
section
variable {n : Nat} {w : World} {A : Around} {E : Value → Shared → Prop} {s : Shared} {B h0 g : Heap} {P : WP} {c : WX} {L : Addr} {m : Str → Option Value} {news : Led} {loose : List Str} {mean : ExcName → Option Value} {mg mb : Str → Option Value}
theorem WB.hidden (W : WB n w B P c h0 g) (i : Nat) (hi : i < 12) : B.StaysIn (g.hide (adr P i)) := fun b o e => (Heap.hide_ne g fun q => by rw [q, W.new i hi] at e; cases e).trans (W.base _ _ e)
theorem WB.slot (W : WB n w B P c h0 g) (i : Nat) (hi : i < 11) : ∃ o, slotO w P c i o ∧ g.get? (adr P i) = some o := W.at_ i (Nat.lt_of_lt_of_le hi W.hn)
theorem w_inst (F : Fr g L s.heap m) (W : WB n w B P c h0 g) : ∃ dn it, g.get? P.dx = some (wDict w P c dn it) ∧ InstAt s.heap P.x (instObj 169 P.dx) 169 (some (wDict w P c dn it)) := by
  obtain ⟨o, rfl, e⟩ := W.slot 0 (by decide)
  with_reducible refine hideG ?_
  intro G0 hG0
  obtain ⟨o, ⟨dn, it, rfl⟩, e2⟩ := W.slot 5 (by decide)
  with_reducible refine hG0 ?_
  clear hG0 G0
  exact ⟨dn, it, e2, ⟨F.keep _ _ e, rfl, rfl, F.keep _ _ e2⟩⟩
theorem w_attr {name : Str} {v : Value} {attr : Option Value} {expr : Bool} {Q : Value → Shared → Prop} (F : Fr g L s.heap m) (X : (Mine.hd0.heap_1_1 w.params).In g) (W : WB n w B P c h0 g) (hg : plainGet (Mine.hd0.heap_1_1 w.params) 169 name = true) (hh : hasDictIn (Mine.hd0.heap_1_1 w.params) 169 = true)
    (ha : findIn (Mine.hd0.heap_1_1 w.params) (.ref 169) name = some attr) (hn : noGet (Mine.hd0.heap_1_1 w.params) attr = true) (hv : handedIn v = true)
    (hl : ∀ dn it, getL name (wEs w.params P.k P.bm P.ld P.et P.dn P.ns P.pm P.ps c.seen dn (c.ig : Int) it) = some (some v)) (h : Q v { s with toks := s.toks + 1 }) :
    wpAny (model PySem.Challenge.rw_if0001_01.row.prog w) A (getAttr (.ref P.x) name expr) Q E s := by
  obtain ⟨dn, it, _, I⟩ := w_inst F W
  exact get_own F X I hg hh ha hn (hl dn it) hv h
theorem w_meth {name : Str} {f : Addr} {pl : Sem Bool} {Q : Value × List Value → Shared → Prop} (F : Fr g L s.heap m) (X : (Mine.hd0.heap_1_1 w.params).In g) (W : WB n w B P c h0 g) (hg : plainGet (Mine.hd0.heap_1_1 w.params) 169 name = true)
    (ha : findIn (Mine.hd0.heap_1_1 w.params) (.ref 169) name = some (some (.ref f))) (ht : isFn (Mine.hd0.heap_1_1 w.params) (.ref f) = true)
    (hl : ∀ dn it, getL name (wEs w.params P.k P.bm P.ld P.et P.dn P.ns P.pm P.ps c.seen dn (c.ig : Int) it) = some none) (h : Q (.ref f, [.ref P.x]) s) :
    wpAny (model PySem.Challenge.rw_if0001_01.row.prog w) A (getMethod (.ref P.x) name pl) Q E s := by
  obtain ⟨dn, it, _, I⟩ := w_inst F W
  exact method_inst F X I hg ha ht (hl dn it) h
theorem w_get_data {expr : Bool} {Q : Value → Shared → Prop} (F : Fr g L s.heap m) (X : (Mine.hd0.heap_1_1 w.params).In g) (W : WB n w B P c h0 g) (h : Q (.ref P.ld) { s with toks := s.toks + 1 }) :
    wpAny (model PySem.Challenge.rw_if0001_01.row.prog w) A (getAttr (.ref P.x) (Str.ofString "_data") expr) Q E s :=
  w_attr F X W (by k_is) (by k_is) (by k_is) (by k_is) rfl (fun _ _ => by k_get) h
theorem w_get_strip_text {expr : Bool} {Q : Value → Shared → Prop} (F : Fr g L s.heap m) (X : (Mine.hd0.heap_1_1 w.params).In g) (W : WB n w B P c h0 g) (h : Q (.bool false) { s with toks := s.toks + 1 }) :
    wpAny (model PySem.Challenge.rw_if0001_01.row.prog w) A (getAttr (.ref P.x) (Str.ofString "_strip_text") expr) Q E s :=
  w_attr F X W (by k_is) (by k_is) (by k_is) (by k_is) rfl (fun _ _ => by k_get) h
theorem w_get_exclude_attrs {expr : Bool} {Q : Value → Shared → Prop} (F : Fr g L s.heap m) (X : (Mine.hd0.heap_1_1 w.params).In g) (W : WB n w B P c h0 g) (h : Q (.none) { s with toks := s.toks + 1 }) :
    wpAny (model PySem.Challenge.rw_if0001_01.row.prog w) A (getAttr (.ref P.x) (Str.ofString "_exclude_attrs") expr) Q E s :=
  w_attr F X W (by k_is) (by k_is) (by k_is) (by k_is) rfl (fun _ _ => by k_get) h
theorem w_get_exclude_tags {expr : Bool} {Q : Value → Shared → Prop} (F : Fr g L s.heap m) (X : (Mine.hd0.heap_1_1 w.params).In g) (W : WB n w B P c h0 g) (h : Q (.ref P.et) { s with toks := s.toks + 1 }) :
    wpAny (model PySem.Challenge.rw_if0001_01.row.prog w) A (getAttr (.ref P.x) (Str.ofString "_exclude_tags") expr) Q E s :=
  w_attr F X W (by k_is) (by k_is) (by k_is) (by k_is) rfl (fun _ _ => by k_get) h
theorem w_get_rewrite_prefixes {expr : Bool} {Q : Value → Shared → Prop} (F : Fr g L s.heap m) (X : (Mine.hd0.heap_1_1 w.params).In g) (W : WB n w B P c h0 g) (h : Q (.bool false) { s with toks := s.toks + 1 }) :
    wpAny (model PySem.Challenge.rw_if0001_01.row.prog w) A (getAttr (.ref P.x) (Str.ofString "_rewrite_prefixes") expr) Q E s :=
  w_attr F X W (by k_is) (by k_is) (by k_is) (by k_is) rfl (fun _ _ => by k_get) h
theorem w_get_qname_aware_tags {expr : Bool} {Q : Value → Shared → Prop} (F : Fr g L s.heap m) (X : (Mine.hd0.heap_1_1 w.params).In g) (W : WB n w B P c h0 g) (h : Q (.none) { s with toks := s.toks + 1 }) :
    wpAny (model PySem.Challenge.rw_if0001_01.row.prog w) A (getAttr (.ref P.x) (Str.ofString "_qname_aware_tags") expr) Q E s :=
  w_attr F X W (by k_is) (by k_is) (by k_is) (by k_is) rfl (fun _ _ => by k_get) h
theorem w_get_find_qname_aware_attrs {expr : Bool} {Q : Value → Shared → Prop} (F : Fr g L s.heap m) (X : (Mine.hd0.heap_1_1 w.params).In g) (W : WB n w B P c h0 g) (h : Q (.none) { s with toks := s.toks + 1 }) :
    wpAny (model PySem.Challenge.rw_if0001_01.row.prog w) A (getAttr (.ref P.x) (Str.ofString "_find_qname_aware_attrs") expr) Q E s :=
  w_attr F X W (by k_is) (by k_is) (by k_is) (by k_is) rfl (fun _ _ => by k_get) h
theorem w_get_declared_ns_stack {expr : Bool} {Q : Value → Shared → Prop} (F : Fr g L s.heap m) (X : (Mine.hd0.heap_1_1 w.params).In g) (W : WB n w B P c h0 g) (h : Q (.ref P.dn) { s with toks := s.toks + 1 }) :
    wpAny (model PySem.Challenge.rw_if0001_01.row.prog w) A (getAttr (.ref P.x) (Str.ofString "_declared_ns_stack") expr) Q E s :=
  w_attr F X W (by k_is) (by k_is) (by k_is) (by k_is) rfl (fun _ _ => by k_get) h
theorem w_get_ns_stack {expr : Bool} {Q : Value → Shared → Prop} (F : Fr g L s.heap m) (X : (Mine.hd0.heap_1_1 w.params).In g) (W : WB n w B P c h0 g) (h : Q (.ref P.ns) { s with toks := s.toks + 1 }) :
    wpAny (model PySem.Challenge.rw_if0001_01.row.prog w) A (getAttr (.ref P.x) (Str.ofString "_ns_stack") expr) Q E s :=
  w_attr F X W (by k_is) (by k_is) (by k_is) (by k_is) rfl (fun _ _ => by k_get) h
theorem w_get_preserve_space {expr : Bool} {Q : Value → Shared → Prop} (F : Fr g L s.heap m) (X : (Mine.hd0.heap_1_1 w.params).In g) (W : WB n w B P c h0 g) (h : Q (.ref P.ps) { s with toks := s.toks + 1 }) :
    wpAny (model PySem.Challenge.rw_if0001_01.row.prog w) A (getAttr (.ref P.x) (Str.ofString "_preserve_space") expr) Q E s :=
  w_attr F X W (by k_is) (by k_is) (by k_is) (by k_is) rfl (fun _ _ => by k_get) h
theorem w_get_pending_start {expr : Bool} {Q : Value → Shared → Prop} (F : Fr g L s.heap m) (X : (Mine.hd0.heap_1_1 w.params).In g) (W : WB n w B P c h0 g) (h : Q (.none) { s with toks := s.toks + 1 }) :
    wpAny (model PySem.Challenge.rw_if0001_01.row.prog w) A (getAttr (.ref P.x) (Str.ofString "_pending_start") expr) Q E s :=
  w_attr F X W (by k_is) (by k_is) (by k_is) (by k_is) rfl (fun _ _ => by k_get) h
theorem w_get_root_seen {expr : Bool} {Q : Value → Shared → Prop} (F : Fr g L s.heap m) (X : (Mine.hd0.heap_1_1 w.params).In g) (W : WB n w B P c h0 g) (h : Q (.bool c.seen) { s with toks := s.toks + 1 }) :
    wpAny (model PySem.Challenge.rw_if0001_01.row.prog w) A (getAttr (.ref P.x) (Str.ofString "_root_seen") expr) Q E s :=
  w_attr F X W (by k_is) (by k_is) (by k_is) (by k_is) rfl (fun _ _ => by k_get) h
theorem w_get_write {expr : Bool} {Q : Value → Shared → Prop} (F : Fr g L s.heap m) (X : (Mine.hd0.heap_1_1 w.params).In g) (W : WB n w B P c h0 g) (h : Q (.ref P.bm) { s with toks := s.toks + 1 }) :
    wpAny (model PySem.Challenge.rw_if0001_01.row.prog w) A (getAttr (.ref P.x) (Str.ofString "_write") expr) Q E s :=
  w_attr F X W (by k_is) (by k_is) (by k_is) (by k_is) rfl (fun _ _ => by k_get) h
theorem w_get_ignored_depth {expr : Bool} {Q : Value → Shared → Prop} (F : Fr g L s.heap m) (X : (Mine.hd0.heap_1_1 w.params).In g) (W : WB n w B P c h0 g) (h : ∀ it, Q (.int (c.ig : Int) it) { s with toks := s.toks + 1 }) :
    wpAny (model PySem.Challenge.rw_if0001_01.row.prog w) A (getAttr (.ref P.x) (Str.ofString "_ignored_depth") expr) Q E s := by
  obtain ⟨dn, it, _, I⟩ := w_inst F W
  exact get_own F X I (by k_is) (by k_is) (by k_is) (by k_is) (by k_get) rfl (h it)
theorem w_m_flush {pl : Sem Bool} {Q : Value × List Value → Shared → Prop} (F : Fr g L s.heap m) (X : (Mine.hd0.heap_1_1 w.params).In g) (W : WB n w B P c h0 g) (h : Q (.ref 125, [.ref P.x]) s) :
    wpAny (model PySem.Challenge.rw_if0001_01.row.prog w) A (getMethod (.ref P.x) (Str.ofString "_flush") pl) Q E s :=
  w_meth F X W (by k_is) (by k_is) (by k_is) (fun _ _ => by k_get) h
theorem w_m_start {pl : Sem Bool} {Q : Value × List Value → Shared → Prop} (F : Fr g L s.heap m) (X : (Mine.hd0.heap_1_1 w.params).In g) (W : WB n w B P c h0 g) (h : Q (.ref 145, [.ref P.x]) s) :
    wpAny (model PySem.Challenge.rw_if0001_01.row.prog w) A (getMethod (.ref P.x) (Str.ofString "_start") pl) Q E s :=
  w_meth F X W (by k_is) (by k_is) (by k_is) (fun _ _ => by k_get) h
theorem w_m_qname {pl : Sem Bool} {Q : Value × List Value → Shared → Prop} (F : Fr g L s.heap m) (X : (Mine.hd0.heap_1_1 w.params).In g) (W : WB n w B P c h0 g) (h : Q (.ref 109, [.ref P.x]) s) :
    wpAny (model PySem.Challenge.rw_if0001_01.row.prog w) A (getMethod (.ref P.x) (Str.ofString "_qname") pl) Q E s :=
  w_meth F X W (by k_is) (by k_is) (by k_is) (fun _ _ => by k_get) h
theorem w_m_iter_namespaces {pl : Sem Bool} {Q : Value × List Value → Shared → Prop} (F : Fr g L s.heap m) (X : (Mine.hd0.heap_1_1 w.params).In g) (W : WB n w B P c h0 g) (h : Q (.ref 94, [.ref P.x]) s) :
    wpAny (model PySem.Challenge.rw_if0001_01.row.prog w) A (getMethod (.ref P.x) (Str.ofString "_iter_namespaces") pl) Q E s :=
  w_meth F X W (by k_is) (by k_is) (by k_is) (fun _ _ => by k_get) h
theorem w_m_write {pl : Sem Bool} {Q : Value × List Value → Shared → Prop} (F : Fr g L s.heap m) (X : (Mine.hd0.heap_1_1 w.params).In g) (W : WB n w B P c h0 g) (h : Q (.ref P.bm, []) { s with toks := s.toks + 1 }) :
    wpAny (model PySem.Challenge.rw_if0001_01.row.prog w) A (getMethod (.ref P.x) (Str.ofString "_write") pl) Q E s := by
  obtain ⟨dn, it, _, I⟩ := w_inst F W
  exact kmu_own F X I (by k_is) (by k_is) (w_get_write F X W h)
theorem w_bound {expr : Bool} {Q : Value → Shared → Prop} (F : Fr g L s.heap m) (N : News g L s.heap news) (X : (Mine.hd0.heap_1_1 w.params).In g) (W : WB n w B P c h0 g)
    (h : ∀ q h', Fr g L h' m → News g L h' ((q, methodObj (.ref 109) (.ref P.x)) :: news) → (∀ p ∈ news, p.1 < q) → Q (.ref q) { s with heap := h', toks := s.toks + 1 }) :
    wpAny (model PySem.Challenge.rw_if0001_01.row.prog w) A (getAttr (.ref P.x) (Str.ofString "_qname") expr) Q E s := by
  obtain ⟨dn, it, _, I⟩ := w_inst F W
  exact kbm_bound F X N I (by k_is) (by k_is) (by k_is) (by k_is) (by k_is) (by k_is) (by decide +kernel) (by k_get) fun q h' F' N' l => h q h' F' N' l
theorem w_list (F : Fr g L s.heap m) (W : WB n w B P c h0 g) (i : Nat) (hi : 6 ≤ i ∧ i < 11) : ∃ its n, s.heap.get? (adr P i) = some (listOf its n) := by
  obtain ⟨o, hs, e⟩ := W.slot i hi.2
  have e := F.keep _ _ e
  obtain ⟨k, rfl⟩ := Nat.exists_eq_add_of_le' hi.1
  rcases k with _ | _ | _ | _ | _ | k
  · obtain ⟨n, vs, rfl, _⟩ := hs; exact ⟨_, _, e⟩
  · obtain ⟨n, rfl⟩ := hs; exact ⟨_, _, e⟩
  · obtain ⟨n, vs, rfl, _⟩ := hs; exact ⟨_, _, e⟩
  · obtain ⟨n, vs, rfl, _⟩ := hs; exact ⟨_, _, e⟩
  · obtain ⟨n, vs, rfl, _⟩ := hs; exact ⟨_, _, e⟩
  · exact absurd hi.2 (Nat.not_lt.mpr (Nat.le_add_left 11 k))
theorem w_lmeth {name : Str} {id : String} {pl : Sem Bool} {Q : Value × List Value → Shared → Prop} (i : Nat) (hi : 6 ≤ i ∧ i < 11) (F : Fr g L s.heap m) (W : WB n w B P c h0 g) (slot : Slot "list" name id) (hty : typeOf (.builtin id) = pure (.type "method_descriptor"))
    (h : Q (.builtin id, [.ref (adr P i)]) s) : wpAny (model PySem.Challenge.rw_if0001_01.row.prog w) A (getMethod (.ref (adr P i)) name pl) Q E s := by
  obtain ⟨its, n, e⟩ := w_list F W i hi
  exact getMethod_builtin ⟨_, e, rfl⟩ PySem.F.plainAttrs_list slot hty (fun a q => by cases q; exact ⟨_, e, rfl⟩) h
theorem len_of_datIs {d : Option Str} {vs : List Value} (h : datIs d vs) : vs.length ≤ 1 := by
  cases d with
  | none => rw [show vs = [] from h]; decide
  | some y => obtain ⟨u, rfl⟩ := h; exact Nat.le_refl _
theorem w_truthy_ld {Q : Bool → Shared → Prop} (F : Fr g L s.heap m) (W : WB n w B P c h0 g) (h : Q c.dat.isSome { s with toks := s.toks + 1 + 1 }) : wpAny (model PySem.Challenge.rw_if0001_01.row.prog w) A (truthy (.ref P.ld)) Q E s := by
  with_reducible refine hideG ?_
  intro G0 hG0
  obtain ⟨o, ⟨n, vs, rfl, hd⟩, e⟩ := W.slot 6 (by decide)
  with_reducible refine hG0 ?_
  clear hG0 G0
  refine wpAny_truthy_list (items := vs.toArray) ⟨_, F.keep _ _ e, rfl, _, rfl⟩ (by have := len_of_datIs hd; rw [List.size_toArray]; omega) ?_
  have : (!vs.toArray.isEmpty) = c.dat.isSome := by
    unfold datIs at hd
    split at hd
    · rename_i q; rw [hd, q]; rfl
    · rename_i y q; obtain ⟨u, rfl⟩ := hd; rw [q]; rfl
  rw [this]; exact h
theorem w_len_ps {Q : Value → Shared → Prop} (F : Fr g L s.heap m) (W : WB n w B P c h0 g) (hz : c.pn ≤ 900) (h : Q (.int (c.pn : Int) (s.toks + 1)) { s with toks := s.toks + 1 + 1 }) : wpAny (model PySem.Challenge.rw_if0001_01.row.prog w) A (call (.builtin "len") [.ref P.ps]) Q E s := by
  with_reducible refine hideG ?_
  intro G0 hG0
  obtain ⟨o, ⟨n, vs, rfl, hl⟩, e⟩ := W.slot 9 (by decide)
  with_reducible refine hG0 ?_
  clear hG0 G0
  refine Calls.call_len_list (items := vs.toArray) ⟨_, F.keep _ _ e, rfl, _, rfl⟩ (by rw [List.size_toArray]; omega) ?_
  rw [List.size_toArray, hl]; exact h
theorem w_last_ps {value slice : PySem.Expr} {u : Tok} {Q : Value → Shared → Prop} (F : Fr g L s.heap m) (W : WB n w B P c h0 g) (h1 : 1 ≤ c.pn) (hz : c.pn ≤ 900) (h : ∀ v, Q v s)
    (hs : subscripted slice false (.ref P.ps) (.int (-1) u) = operate [.ref P.ps, .int (-1) u] (getItem (.ref P.ps) (.int (-1) u))) :
    wpAny (model PySem.Challenge.rw_if0001_01.row.prog w) A (subscriptTail value slice (.ref P.ps) (.int (-1) u)) Q E s := by
  with_reducible refine hideG ?_
  intro G0 hG0
  obtain ⟨o, ⟨n, vs, rfl, hl⟩, e⟩ := W.slot 9 (by decide)
  with_reducible refine hG0 ?_
  clear hG0 G0
  obtain ⟨vs', v, rfl, hl'⟩ : ∃ vs' v, vs = vs' ++ [v] ∧ vs'.length ≤ 900 := by
    have hne : vs ≠ [] := fun q => by rw [q] at hl; simp at hl; omega
    exact ⟨vs.dropLast, vs.getLast hne, (List.dropLast_concat_getLast hne).symm, by rw [List.length_dropLast]; omega⟩
  exact item_last ⟨_, F.keep _ _ e, rfl, _, rfl⟩ (by omega) (h v) hs
theorem so_other {c c' : WX} {j : Nat} (h5 : j = 5 ∨ (c'.ig = c.ig ∧ c'.seen = c.seen)) (h6 : j = 6 ∨ c'.dat = c.dat) (h7 : j = 7 ∨ c'.es = c.es) (h8 : j = 8 ∨ c'.nn = c.nn) (h9 : j = 9 ∨ c'.pn = c.pn) (h10 : j = 10 ∨ c'.parts = c.parts) (h11 : j = 11 ∨ c'.pt = c.pt) :
    ∀ i, i < 12 → i ≠ j → ∀ o, slotO w P c i o → slotO w P c' i o := by
  intro i hi hj o
  rcases i with _ | _ | _ | _ | _ | _ | _ | _ | _ | _ | _ | _ | i
  · exact id
  · exact id
  · exact id
  · exact id
  · exact id
  · obtain ⟨a, b⟩ := h5.resolve_left (Ne.symm hj)
    show (∃ dn it, o = wDict w P c dn it) → ∃ dn it, o = wDict w P c' dn it
    unfold wDict; rw [a, b]; exact id
  · show (∃ n vs, o = listOf (List.toArray vs) n ∧ datIs c.dat vs) → ∃ n vs, o = listOf (List.toArray vs) n ∧ datIs c'.dat vs
    rw [h6.resolve_left (Ne.symm hj)]; exact id
  · show (∃ n, o = listOf (List.toArray (Value.ref P.xl :: c.es.map Value.ref)) n) → ∃ n, o = listOf (List.toArray (Value.ref P.xl :: c'.es.map Value.ref)) n
    rw [h7.resolve_left (Ne.symm hj)]; exact id
  · show (∃ n vs, o = listOf (List.toArray vs) n ∧ vs.length = c.nn) → ∃ n vs, o = listOf (List.toArray vs) n ∧ vs.length = c'.nn
    rw [h8.resolve_left (Ne.symm hj)]; exact id
  · show (∃ n vs, o = listOf (List.toArray vs) n ∧ vs.length = c.pn) → ∃ n vs, o = listOf (List.toArray vs) n ∧ vs.length = c'.pn
    rw [h9.resolve_left (Ne.symm hj)]; exact id
  · show (∃ n vs, o = listOf (List.toArray vs) n ∧ StrsAre vs c.parts) → ∃ n vs, o = listOf (List.toArray vs) n ∧ StrsAre vs c'.parts
    rw [h10.resolve_left (Ne.symm hj)]; exact id
  · show o = tabObj c.pt → o = tabObj c'.pt
    rw [h11.resolve_left (Ne.symm hj)]; exact id
  · exact absurd hi (Nat.not_lt.mpr (Nat.le_add_left _ _))
theorem so_lt {c c' : WX} {j : Nat} (hm : n ≤ 12) (h : ∀ i, i < 12 → i ≠ j → ∀ o, slotO w P c i o → slotO w P c' i o) : ∀ i, i < n → i ≠ j → ∀ o, slotO w P c i o → slotO w P c' i o := fun i hi => h i (Nat.lt_of_lt_of_le hi hm)
/-- what an operation on the writer hands on -/
noncomputable def Nxt (n : Nat) (w : World) (B : Heap) (P : WP) (h0 : Heap) (L : Addr) (m : Str → Option Value) (news : Led) (loose : List Str) (mean : ExcName → Option Value) (mg mb : Str → Option Value) (c' : WX) (R : Heap → Prop) : Prop :=
  ∀ g' h', Fr g' L h' m → News g' L h' news → (Mine.hd0.heap_1_1 w.params).In g' → Top topProg loose mean mg mb g' → WB n w B P c' h0 g' → R h'
theorem nxt_of {c' : WX} {h' : Heap} {o o' : Obj} {R : Heap → Prop} (j : Nat) (hj : 5 ≤ j ∧ j < 11) (N : News g L s.heap news) (W : WB n w B P c h0 g) (XB : (Mine.hd0.heap_1_1 w.params).In B) (TB : Top topProg loose mean mg mb B) (e : g.get? (adr P j) = some o)
    (F' : Fr (g.hide (adr P j)) L h' m) (N' : News (g.hide (adr P j)) L h' ((adr P j, o') :: news)) (hs : ∀ i, i < n → i ≠ j → ∀ o, slotO w P c i o → slotO w P c' i o) (hn : slotO w P c' j o')
    (K : Nxt n w B P h0 L m news loose mean mg mb c' R) : R h' := by
  with_reducible refine hideG ?_
  intro G0 hG0
  obtain ⟨g', F3, N3, e3, hb⟩ := give e F' N' (off_base N e)
  with_reducible refine hG0 ?_
  clear hG0 G0
  have W' : WB n w B P c' h0 g' := W.put j hj e3 hb hs hn
  exact K g' h' F3 N3 (XB.keeps W'.base) (TB.keeps W'.base) W'
theorem w_app_ld {y : Str} {u : Tok} {Q : Value → Shared → Prop} (F : Fr g L s.heap m) (N : News g L s.heap news) (W : WB n w B P c h0 g) (XB : (Mine.hd0.heap_1_1 w.params).In B) (TB : Top topProg loose mean mg mb B) (hd : c.dat = none)
    (h : Nxt n w B P h0 L m news loose mean mg mb (c.sDat (some y)) fun h' => Q .none { s with heap := h' }) :
    wpAny (model PySem.Challenge.rw_if0001_01.row.prog w) A (call (.builtin "list.append") [.ref P.ld, .str y u]) Q E s := by
  with_reducible refine hideG ?_
  intro G0 hG0
  obtain ⟨o, ⟨n, vs, rfl, hd2⟩, e⟩ := W.slot 6 (by decide)
  with_reducible refine hG0 ?_
  clear hG0 G0
  obtain ⟨F1, N1⟩ := lend F N e
  refine append_K F1 N1 (.head (off_base N e)) (fun h' F2 N2 => ?_) (by have := len_of_datIs hd2; rw [List.size_toArray, sizeLine_eq]; omega)
  exact nxt_of 6 (by decide) N W XB TB e F2 N2 (so_lt W.hm <| so_other (by first | exact .inl rfl | exact .inr rfl | exact .inr ⟨rfl, rfl⟩) (by first | exact .inl rfl | exact .inr rfl | exact .inr ⟨rfl, rfl⟩) (by first | exact .inl rfl | exact .inr rfl | exact .inr ⟨rfl, rfl⟩) (by first | exact .inl rfl | exact .inr rfl | exact .inr ⟨rfl, rfl⟩) (by first | exact .inl rfl | exact .inr rfl | exact .inr ⟨rfl, rfl⟩) (by first | exact .inl rfl | exact .inr rfl | exact .inr ⟨rfl, rfl⟩) (by first | exact .inl rfl | exact .inr rfl | exact .inr ⟨rfl, rfl⟩)) ⟨n + 1, vs ++ [.str y u], by rw [List.push_toArray], by rw [hd] at hd2; rw [show vs = [] from hd2]; exact ⟨u, rfl⟩⟩ h
theorem w_app_dn {e1 : Nat} {Q : Value → Shared → Prop} (F : Fr g L s.heap m) (N : News g L s.heap news) (W : WB n w B P c h0 g) (XB : (Mine.hd0.heap_1_1 w.params).In B) (TB : Top topProg loose mean mg mb B) (hz : c.es.length ≤ 900)
    (h : Nxt n w B P h0 L m news loose mean mg mb (c.sEs (c.es ++ [e1])) fun h' => Q .none { s with heap := h' }) :
    wpAny (model PySem.Challenge.rw_if0001_01.row.prog w) A (call (.builtin "list.append") [.ref P.dn, .ref e1]) Q E s := by
  obtain ⟨o, ⟨n, rfl⟩, e⟩ := W.slot 7 (by decide)
  obtain ⟨F1, N1⟩ := lend F N e
  refine append_K F1 N1 (.head (off_base N e)) (fun h' F2 N2 => ?_) (by rw [List.size_toArray, sizeLine_eq, List.length_cons, List.length_map]; omega)
  exact nxt_of 7 (by decide) N W XB TB e F2 N2 (so_lt W.hm <| so_other (by first | exact .inl rfl | exact .inr rfl | exact .inr ⟨rfl, rfl⟩) (by first | exact .inl rfl | exact .inr rfl | exact .inr ⟨rfl, rfl⟩) (by first | exact .inl rfl | exact .inr rfl | exact .inr ⟨rfl, rfl⟩) (by first | exact .inl rfl | exact .inr rfl | exact .inr ⟨rfl, rfl⟩) (by first | exact .inl rfl | exact .inr rfl | exact .inr ⟨rfl, rfl⟩) (by first | exact .inl rfl | exact .inr rfl | exact .inr ⟨rfl, rfl⟩) (by first | exact .inl rfl | exact .inr rfl | exact .inr ⟨rfl, rfl⟩)) ⟨n + 1, by rw [List.push_toArray]; simp [WX.sEs]⟩ h
theorem w_app_ns {v : Value} {Q : Value → Shared → Prop} (F : Fr g L s.heap m) (N : News g L s.heap news) (W : WB n w B P c h0 g) (XB : (Mine.hd0.heap_1_1 w.params).In B) (TB : Top topProg loose mean mg mb B) (hz : c.nn ≤ 900)
    (h : Nxt n w B P h0 L m news loose mean mg mb (c.sNn (c.nn + 1)) fun h' => Q .none { s with heap := h' }) :
    wpAny (model PySem.Challenge.rw_if0001_01.row.prog w) A (call (.builtin "list.append") [.ref P.ns, v]) Q E s := by
  with_reducible refine hideG ?_
  intro G0 hG0
  obtain ⟨o, ⟨n, vs, rfl, hl⟩, e⟩ := W.slot 8 (by decide)
  with_reducible refine hG0 ?_
  clear hG0 G0
  obtain ⟨F1, N1⟩ := lend F N e
  refine append_K F1 N1 (.head (off_base N e)) (fun h' F2 N2 => ?_) (by rw [List.size_toArray, sizeLine_eq]; omega)
  exact nxt_of 8 (by decide) N W XB TB e F2 N2 (so_lt W.hm <| so_other (by first | exact .inl rfl | exact .inr rfl | exact .inr ⟨rfl, rfl⟩) (by first | exact .inl rfl | exact .inr rfl | exact .inr ⟨rfl, rfl⟩) (by first | exact .inl rfl | exact .inr rfl | exact .inr ⟨rfl, rfl⟩) (by first | exact .inl rfl | exact .inr rfl | exact .inr ⟨rfl, rfl⟩) (by first | exact .inl rfl | exact .inr rfl | exact .inr ⟨rfl, rfl⟩) (by first | exact .inl rfl | exact .inr rfl | exact .inr ⟨rfl, rfl⟩) (by first | exact .inl rfl | exact .inr rfl | exact .inr ⟨rfl, rfl⟩)) ⟨n + 1, vs ++ [v], by rw [List.push_toArray], by rw [List.length_append, hl]; rfl⟩ h
theorem w_app_ps {v : Value} {Q : Value → Shared → Prop} (F : Fr g L s.heap m) (N : News g L s.heap news) (W : WB n w B P c h0 g) (XB : (Mine.hd0.heap_1_1 w.params).In B) (TB : Top topProg loose mean mg mb B) (hz : c.pn ≤ 900)
    (h : Nxt n w B P h0 L m news loose mean mg mb (c.sPn (c.pn + 1)) fun h' => Q .none { s with heap := h' }) :
    wpAny (model PySem.Challenge.rw_if0001_01.row.prog w) A (call (.builtin "list.append") [.ref P.ps, v]) Q E s := by
  with_reducible refine hideG ?_
  intro G0 hG0
  obtain ⟨o, ⟨n, vs, rfl, hl⟩, e⟩ := W.slot 9 (by decide)
  with_reducible refine hG0 ?_
  clear hG0 G0
  obtain ⟨F1, N1⟩ := lend F N e
  refine append_K F1 N1 (.head (off_base N e)) (fun h' F2 N2 => ?_) (by rw [List.size_toArray, sizeLine_eq]; omega)
  exact nxt_of 9 (by decide) N W XB TB e F2 N2 (so_lt W.hm <| so_other (by first | exact .inl rfl | exact .inr rfl | exact .inr ⟨rfl, rfl⟩) (by first | exact .inl rfl | exact .inr rfl | exact .inr ⟨rfl, rfl⟩) (by first | exact .inl rfl | exact .inr rfl | exact .inr ⟨rfl, rfl⟩) (by first | exact .inl rfl | exact .inr rfl | exact .inr ⟨rfl, rfl⟩) (by first | exact .inl rfl | exact .inr rfl | exact .inr ⟨rfl, rfl⟩) (by first | exact .inl rfl | exact .inr rfl | exact .inr ⟨rfl, rfl⟩) (by first | exact .inl rfl | exact .inr rfl | exact .inr ⟨rfl, rfl⟩)) ⟨n + 1, vs ++ [v], by rw [List.push_toArray], by rw [List.length_append, hl]; rfl⟩ h
theorem w_pop_dn {n1 : List Nat} {e1 : Nat} {Q : Value → Shared → Prop} (F : Fr g L s.heap m) (N : News g L s.heap news) (W : WB n w B P c h0 g) (XB : (Mine.hd0.heap_1_1 w.params).In B) (TB : Top topProg loose mean mg mb B) (he : c.es = n1 ++ [e1]) (hz : n1.length ≤ 900)
    (h : Nxt n w B P h0 L m news loose mean mg mb (c.sEs n1) fun h' => ∀ v, Q v { s with heap := h' }) :
    wpAny (model PySem.Challenge.rw_if0001_01.row.prog w) A (call (.builtin "list.pop") [.ref P.dn]) Q E s := by
  obtain ⟨o, ⟨n, rfl⟩, e⟩ := W.slot 7 (by decide)
  have q : (Value.ref P.xl :: c.es.map Value.ref) = (Value.ref P.xl :: n1.map Value.ref) ++ [.ref e1] := by rw [he]; simp
  rw [q] at e
  obtain ⟨F1, N1⟩ := lend F N e
  refine popU F1 N1 (.head (off_base N e)) (by first | (rw [List.length_cons, List.length_map]; omega) | omega) (fun h' F2 N2 => ?_)
  exact nxt_of 7 (by decide) N W XB TB e F2 N2 (so_lt W.hm <| so_other (by first | exact .inl rfl | exact .inr rfl | exact .inr ⟨rfl, rfl⟩) (by first | exact .inl rfl | exact .inr rfl | exact .inr ⟨rfl, rfl⟩) (by first | exact .inl rfl | exact .inr rfl | exact .inr ⟨rfl, rfl⟩) (by first | exact .inl rfl | exact .inr rfl | exact .inr ⟨rfl, rfl⟩) (by first | exact .inl rfl | exact .inr rfl | exact .inr ⟨rfl, rfl⟩) (by first | exact .inl rfl | exact .inr rfl | exact .inr ⟨rfl, rfl⟩) (by first | exact .inl rfl | exact .inr rfl | exact .inr ⟨rfl, rfl⟩)) ⟨n + 1, rfl⟩ h _
theorem w_pop_ns {n1 : Nat} {e1 : Nat} {Q : Value → Shared → Prop} (F : Fr g L s.heap m) (N : News g L s.heap news) (W : WB n w B P c h0 g) (XB : (Mine.hd0.heap_1_1 w.params).In B) (TB : Top topProg loose mean mg mb B) (he : c.nn = n1 + 1) (hz : n1 ≤ 900)
    (h : Nxt n w B P h0 L m news loose mean mg mb (c.sNn n1) fun h' => ∀ v, Q v { s with heap := h' }) :
    wpAny (model PySem.Challenge.rw_if0001_01.row.prog w) A (call (.builtin "list.pop") [.ref P.ns]) Q E s := by
  with_reducible refine hideG ?_
  intro G0 hG0
  obtain ⟨o, ⟨n, vs, rfl, hl⟩, e⟩ := W.slot 8 (by decide)
  with_reducible refine hG0 ?_
  clear hG0 G0
  obtain ⟨vs', v, rfl, hl'⟩ : ∃ vs' v, vs = vs' ++ [v] ∧ vs'.length = n1 := by
    have hne : vs ≠ [] := fun q => by rw [q, he] at hl; simp at hl
    exact ⟨vs.dropLast, vs.getLast hne, (List.dropLast_concat_getLast hne).symm, by rw [List.length_dropLast, hl, he]; rfl⟩
  obtain ⟨F1, N1⟩ := lend F N e
  refine popU F1 N1 (.head (off_base N e)) (by first | (rw [List.length_cons, List.length_map]; omega) | omega) (fun h' F2 N2 => ?_)
  exact nxt_of 8 (by decide) N W XB TB e F2 N2 (so_lt W.hm <| so_other (by first | exact .inl rfl | exact .inr rfl | exact .inr ⟨rfl, rfl⟩) (by first | exact .inl rfl | exact .inr rfl | exact .inr ⟨rfl, rfl⟩) (by first | exact .inl rfl | exact .inr rfl | exact .inr ⟨rfl, rfl⟩) (by first | exact .inl rfl | exact .inr rfl | exact .inr ⟨rfl, rfl⟩) (by first | exact .inl rfl | exact .inr rfl | exact .inr ⟨rfl, rfl⟩) (by first | exact .inl rfl | exact .inr rfl | exact .inr ⟨rfl, rfl⟩) (by first | exact .inl rfl | exact .inr rfl | exact .inr ⟨rfl, rfl⟩)) ⟨n + 1, vs', rfl, hl'⟩ h _
theorem w_pop_ps {n1 : Nat} {e1 : Nat} {Q : Value → Shared → Prop} (F : Fr g L s.heap m) (N : News g L s.heap news) (W : WB n w B P c h0 g) (XB : (Mine.hd0.heap_1_1 w.params).In B) (TB : Top topProg loose mean mg mb B) (he : c.pn = n1 + 1) (hz : n1 ≤ 900)
    (h : Nxt n w B P h0 L m news loose mean mg mb (c.sPn n1) fun h' => ∀ v, Q v { s with heap := h' }) :
    wpAny (model PySem.Challenge.rw_if0001_01.row.prog w) A (call (.builtin "list.pop") [.ref P.ps]) Q E s := by
  with_reducible refine hideG ?_
  intro G0 hG0
  obtain ⟨o, ⟨n, vs, rfl, hl⟩, e⟩ := W.slot 9 (by decide)
  with_reducible refine hG0 ?_
  clear hG0 G0
  obtain ⟨vs', v, rfl, hl'⟩ : ∃ vs' v, vs = vs' ++ [v] ∧ vs'.length = n1 := by
    have hne : vs ≠ [] := fun q => by rw [q, he] at hl; simp at hl
    exact ⟨vs.dropLast, vs.getLast hne, (List.dropLast_concat_getLast hne).symm, by rw [List.length_dropLast, hl, he]; rfl⟩
  obtain ⟨F1, N1⟩ := lend F N e
  refine popU F1 N1 (.head (off_base N e)) (by first | (rw [List.length_cons, List.length_map]; omega) | omega) (fun h' F2 N2 => ?_)
  exact nxt_of 9 (by decide) N W XB TB e F2 N2 (so_lt W.hm <| so_other (by first | exact .inl rfl | exact .inr rfl | exact .inr ⟨rfl, rfl⟩) (by first | exact .inl rfl | exact .inr rfl | exact .inr ⟨rfl, rfl⟩) (by first | exact .inl rfl | exact .inr rfl | exact .inr ⟨rfl, rfl⟩) (by first | exact .inl rfl | exact .inr rfl | exact .inr ⟨rfl, rfl⟩) (by first | exact .inl rfl | exact .inr rfl | exact .inr ⟨rfl, rfl⟩) (by first | exact .inl rfl | exact .inr rfl | exact .inr ⟨rfl, rfl⟩) (by first | exact .inl rfl | exact .inr rfl | exact .inr ⟨rfl, rfl⟩)) ⟨n + 1, vs', rfl, hl'⟩ h _
theorem strs_len {vs : List Value} {xs : List Str} (h : StrsAre vs xs) : vs.length = xs.length := h.length
theorem strs_snoc1 {x : Str} {t : Tok} {vs : List Value} {xs : List Str} (h : StrsAre vs xs) : StrsAre (vs ++ [.str x t]) (xs ++ [x]) := by
  induction h with
  | nil => exact .cons _ _ .nil
  | cons a b _ ih => exact .cons a b ih
theorem w_write {y : Str} {u : Tok} {Q : Value → Shared → Prop} (F : Fr g L s.heap m) (N : News g L s.heap news) (W : WB n w B P c h0 g) (XB : (Mine.hd0.heap_1_1 w.params).In B) (TB : Top topProg loose mean mg mb B) (hz : c.parts.length ≤ 900)
    (h : Nxt n w B P h0 L m news loose mean mg mb (c.sParts (c.parts ++ [y])) fun h' => Q .none { s with heap := h' }) :
    wpAny (model PySem.Challenge.rw_if0001_01.row.prog w) A (call (.ref P.bm) [.str y u]) Q E s := by
  obtain ⟨o, rfl, eb⟩ := W.slot 1 (by decide)
  with_reducible refine hideG ?_
  intro G0 hG0
  obtain ⟨o, ⟨n, vs, rfl, hp⟩, e⟩ := W.slot 10 (by decide)
  with_reducible refine hG0 ?_
  clear hG0 G0
  obtain ⟨F1, N1⟩ := lend F N e
  have z := (N1 _ (.head _)).1
  have hl := strs_len hp
  refine bound_tree (F.keep _ _ eb) z (by rw [List.size_toArray, sizeLine_eq]; omega) ?_
  have hs : Heap.SameBut (adr P 10) s.heap (s.heap.update (adr P 10) (Obj.mapSeq fun xs => xs.push (.str y u))) := Heap.SameBut.update ..
  have ho' : (s.heap.update (adr P 10) (Obj.mapSeq fun xs => xs.push (.str y u))).get? (adr P 10) = some (listOf (vs.toArray.push (.str y u)) (n + 1)) := by
    rw [Heap.get?_update_self _ z (by rw [mapSeq_push]; rfl), mapSeq_push]
  rw [List.push_toArray] at ho'
  exact nxt_of (R := fun h' => Q .none { s with heap := h' }) 10 (by decide) N W XB TB e (F1.change hs (N1 _ (.head _)).2.1 (N1 _ (.head _)).2.2) (news_set (pre := []) N1 (by intro p hp; exact nomatch hp) (off_base N e) hs ho')
    (so_lt W.hm <| so_other (by first | exact .inl rfl | exact .inr rfl | exact .inr ⟨rfl, rfl⟩) (by first | exact .inl rfl | exact .inr rfl | exact .inr ⟨rfl, rfl⟩) (by first | exact .inl rfl | exact .inr rfl | exact .inr ⟨rfl, rfl⟩) (by first | exact .inl rfl | exact .inr rfl | exact .inr ⟨rfl, rfl⟩) (by first | exact .inl rfl | exact .inr rfl | exact .inr ⟨rfl, rfl⟩) (by first | exact .inl rfl | exact .inr rfl | exact .inr ⟨rfl, rfl⟩) (by first | exact .inl rfl | exact .inr rfl | exact .inr ⟨rfl, rfl⟩)) ⟨n + 1, vs ++ [.str y u], rfl, strs_snoc1 hp⟩ h
theorem w_write_at (F : Fr g L s.heap m) (W : WB n w B P c h0 g) : s.heap.get? P.bm = some (boundOf "list.append" (.ref P.lp)) := by
  obtain ⟨o, rfl, e⟩ := W.slot 1 (by decide)
  exact F.keep _ _ e
theorem w_set {name : Str} {v : Value} {c' : WX} {Q : Unit → Shared → Prop} (F : Fr g L s.heap m) (N : News g L s.heap news) (W : WB n w B P c h0 g) (XB : (Mine.hd0.heap_1_1 w.params).In B) (TB : Top topProg loose mean mg mb B)
    (ht : takerIn (Mine.hd0.heap_1_1 w.params) 169 name = some none)
    (hc : c' = { c with seen := c'.seen, ig := c'.ig })
    (e : ∀ dn it, ∃ dn' it', (getL name (wEs w.params P.k P.bm P.ld P.et P.dn P.ns P.pm P.ps c.seen dn (c.ig : Int) it)).isSome = true ∧ (putL name (PyData.keyHash w.params name) (.str name (s.toks + 1)) v (wEs w.params P.k P.bm P.ld P.et P.dn P.ns P.pm P.ps c.seen dn (c.ig : Int) it), putN name (wEs w.params P.k P.bm P.ld P.et P.dn P.ns P.pm P.ps c.seen dn (c.ig : Int) it) 17) = (wEs w.params P.k P.bm P.ld P.et P.dn P.ns P.pm P.ps c'.seen dn' (c'.ig : Int) it', 17))
    (h : Nxt n w B P h0 L m news loose mean mg mb c' fun h' => Q () { s with heap := h', toks := s.toks + 2 }) :
    wpAny (model PySem.Challenge.rw_if0001_01.row.prog w) A (setAttr (.ref P.x) name v) Q E s := by
  obtain ⟨dn, it, e5, I⟩ := w_inst F W
  obtain ⟨dn', it', hl, ep⟩ := e dn it
  obtain ⟨F1, N1⟩ := lend F N e5
  refine set_dict F1 (XB.keeps (W.hidden 5 (by decide))) N1 I rfl (by k_is) (by k_is) ht (by k_is) hl ep (.head (off_base N e5)) (by exact Nat.le_of_ble_eq_true rfl) (fun h' F2 N2 => ?_)
  refine nxt_of (c' := c') 5 (by decide) N W XB TB e5 F2 N2 (so_lt W.hm <| so_other (.inl rfl) ?_ ?_ ?_ ?_ ?_ ?_) ⟨dn', it', rfl⟩ h
  all_goals (right; rw [hc])
theorem w_set_seen {Q : Unit → Shared → Prop} (F : Fr g L s.heap m) (N : News g L s.heap news) (W : WB n w B P c h0 g) (XB : (Mine.hd0.heap_1_1 w.params).In B) (TB : Top topProg loose mean mg mb B)
    (h : Nxt n w B P h0 L m news loose mean mg mb (c.sSeen true) fun h' => Q () { s with heap := h', toks := s.toks + 2 }) :
    wpAny (model PySem.Challenge.rw_if0001_01.row.prog w) A (setAttr (.ref P.x) (Str.ofString "_root_seen") (.bool true)) Q E s :=
  w_set F N W XB TB (by k_is) rfl (fun dn it => ⟨dn, it, rfl, rfl⟩) h
theorem w_set_done {b : Bool} {Q : Unit → Shared → Prop} (F : Fr g L s.heap m) (N : News g L s.heap news) (W : WB n w B P c h0 g) (XB : (Mine.hd0.heap_1_1 w.params).In B) (TB : Top topProg loose mean mg mb B)
    (h : Nxt n w B P h0 L m news loose mean mg mb c fun h' => Q () { s with heap := h', toks := s.toks + 2 }) :
    wpAny (model PySem.Challenge.rw_if0001_01.row.prog w) A (setAttr (.ref P.x) (Str.ofString "_root_done") (.bool b)) Q E s :=
  w_set F N W XB TB (by k_is) rfl (fun dn it => ⟨b, it, rfl, rfl⟩) h
theorem w_set_ig {i : Int} {k : Nat} {t : Tok} {Q : Unit → Shared → Prop} (F : Fr g L s.heap m) (N : News g L s.heap news) (W : WB n w B P c h0 g) (XB : (Mine.hd0.heap_1_1 w.params).In B) (TB : Top topProg loose mean mg mb B) (hi : i = (k : Int))
    (h : Nxt n w B P h0 L m news loose mean mg mb (c.sIg k) fun h' => Q () { s with heap := h', toks := s.toks + 2 }) :
    wpAny (model PySem.Challenge.rw_if0001_01.row.prog w) A (setAttr (.ref P.x) (Str.ofString "_ignored_depth") (.int i t)) Q E s := by
  subst hi
  exact w_set F N W XB TB (by k_is) rfl (fun dn it => ⟨dn, t, rfl, rfl⟩) h
theorem w_del {Q : Unit → Shared → Prop} {y : Str} (F : Fr g L s.heap m) (N : News g L s.heap news) (W : WB n w B P c h0 g) (XB : (Mine.hd0.heap_1_1 w.params).In B) (TB : Top topProg loose mean mg mb B) (hd : c.dat = some y) (ht1 : 1 ≤ s.toks)
    (h : Nxt n w B P h0 L m news loose mean mg mb (c.sDat none) fun h' => ∀ tk, 1 ≤ tk → Q () { s with heap := h', toks := tk }) :
    wpAny (model PySem.Challenge.rw_if0001_01.row.prog w) A (delItem (.ref P.ld) (.ref s.heap.objs.size)) Q E { s with heap := s.heap.push sliceAll } := by
  with_reducible refine hideG ?_
  intro G0 hG0
  obtain ⟨o, ⟨n, vs, rfl, hd2⟩, e⟩ := W.slot 6 (by decide)
  with_reducible refine hG0 ?_
  clear hG0 G0
  rw [hd] at hd2
  obtain ⟨u, rfl⟩ := hd2
  obtain ⟨F1, N1⟩ := lend F N e
  refine del_all F1 N1 (.head (off_base N e)) fun h' tk F2 N2 ht => ?_
  exact nxt_of (c' := c.sDat none) (R := fun h' => ∀ tk, 1 ≤ tk → Q () { s with heap := h', toks := tk }) 6 (by decide) N W XB TB e F2 N2 (so_lt W.hm <| so_other (by first | exact .inl rfl | exact .inr rfl | exact .inr ⟨rfl, rfl⟩) (by first | exact .inl rfl | exact .inr rfl | exact .inr ⟨rfl, rfl⟩) (by first | exact .inl rfl | exact .inr rfl | exact .inr ⟨rfl, rfl⟩) (by first | exact .inl rfl | exact .inr rfl | exact .inr ⟨rfl, rfl⟩) (by first | exact .inl rfl | exact .inr rfl | exact .inr ⟨rfl, rfl⟩) (by first | exact .inl rfl | exact .inr rfl | exact .inr ⟨rfl, rfl⟩) (by first | exact .inl rfl | exact .inr rfl | exact .inr ⟨rfl, rfl⟩)) ⟨n + 1, [], rfl, (show datIs none [] from rfl)⟩ h tk (Nat.le_trans ht1 ht)
theorem w_dat (F : Fr g L s.heap m) (W : WB n w B P c h0 g) {y : Str} (hd : c.dat = some y) : ∃ u, s.heap.IsList P.ld #[.str y u] := by
  with_reducible refine hideG ?_
  intro G0 hG0
  obtain ⟨o, ⟨n, vs, rfl, hd2⟩, e⟩ := W.slot 6 (by decide)
  with_reducible refine hG0 ?_
  clear hG0 G0
  rw [hd] at hd2
  obtain ⟨u, rfl⟩ := hd2
  exact ⟨u, _, F.keep _ _ e, rfl, _, rfl⟩
end
end Mine
end
section
open PySem PySem.W PySem.Calls PyProof.Rows
set_option maxRecDepth 100000
set_option maxHeartbeats 8000000
set_option linter.all false
namespace Mine
/-- what stands behind a statement -/
noncomputable def Then (M : Model) (A : Around) (rest : List Stmt) (env : Env) (Q : Flow → Shared → Prop) (E : Value → Shared → Prop) (f : Flow) (s : Shared) : Prop := 1 ≤ s.toks → match f with | .next => wpAny M A (execs rest env) Q E s | f => Q f s
section
variable {M : Model} {A : Around} {E : Value → Shared → Prop} {s : Shared} {env : Env} {st : Stmt} {rest : List Stmt} {Q : Flow → Shared → Prop}
theorem then_cons (hn : 1 ≤ s.toks) (h : wpAny M A (exec st env) (Then M A rest env Q E) E s) : wpAny M A (execs (st :: rest) env) Q E s := wpAny_execs_cons (wpAny_with_toks hn (wpAny_mono h (fun _ _ q => q) fun _ _ q _ => q))
theorem then_one (h : wpAny M A (exec st env) Q E s) : wpAny M A (execs [st] env) Q E s := wpAny_execs_cons (wpAny_mono h (fun f s q => by cases f <;> first | exact wpAny_execs_nil q | exact q) fun _ _ q => q)
theorem then_next (h : ∀ k, 1 ≤ k → wpAny M A (execs rest env) Q E ⟨s.heap, s.gens, s.drawn, k, s.os⟩) : Then M A rest env Q E .next s := fun k => h _ k
theorem then_ret {v : Value} (h : Q (.ret v) s) : Then M A rest env Q E (.ret v) s := fun _ => h
end
/-- a def's own names at its start -/
noncomputable def bindM (binds : List (Str × Value)) : Str → Option Value := fun y => binds.reverse.lookup y
theorem pcallW {prog : Program} {w : World} {A : Around} {s : Shared} {E Q : Value → Shared → Prop} {p : Program} {loose : List Str} {mean : ExcName → Option Value} {mg mb : Str → Option Value} {K : Frag}
    {name qual : Str} {params : Arguments} {body : List Stmt} {scope : Scope} {dV kV doc pm cdv ct oc : Value} {an od : Option Addr} {osl : Array (Option Value)} {f : Addr} {pos : List Value} {kw : List (Str × Value)} {binds : List (Str × Value)}
    (X : K.In s.heap) (T : Top p loose mean mg mb s.heap) (hd : A.depth < recursionLimit)
    (ho : K.lookup f = some ⟨oc, od, .func (fnOf name qual params body scope dV kV doc pm an cdv ct), osl⟩) (hcd : codeIn K cdv qual = true)
    (hbind : BindsTo s (fnOf name qual params body scope dV kV doc pm an cdv ct) ⟨pos, kw⟩ binds) (hloc : ∀ y ∈ binds, scope.names.lookup y.1 = some .local)
    (hcell : ∀ x ∈ scope.names, x.2 ≠ .cell) (hco : scope.isCoroutine = false) (hgen : scope.isGenerator = false) (hk : scope.kind = .function)
    (h : ∀ L h₁, Fr s.heap L h₁ (bindM binds) → News s.heap L h₁ [] →
      wpAny (model prog w) (A.deeper (envOf qual scope L f cdv)) (execs body (envOf qual scope L f cdv))
        (fun fl s' => Q (match fl with | .ret v => v | _ => .none) s') (fun _ _ => False)
        { s with heap := h₁, toks := s.toks + binds.length }) :
    wpAny (model prog w) A (call (.ref f) pos kw) Q E s := pcall X T hd ho hcd hbind hloc hcell hco hgen hk h
theorem V3_words : True := by
  k_with_none
  k_with "getAttr ref" => ((with_reducible rename Fr _ _ _ _ => wF); (with_reducible rename WB _ _ _ _ _ _ _ => wW); (with_reducible rename Frag.In _ _ => wX); first | with_reducible refine w_get_data wF wX wW ?_ | with_reducible refine w_get_strip_text wF wX wW ?_ | with_reducible refine w_get_exclude_attrs wF wX wW ?_ | with_reducible refine w_get_exclude_tags wF wX wW ?_ | with_reducible refine w_get_rewrite_prefixes wF wX wW ?_ | with_reducible refine w_get_qname_aware_tags wF wX wW ?_ | with_reducible refine w_get_find_qname_aware_attrs wF wX wW ?_ | with_reducible refine w_get_declared_ns_stack wF wX wW ?_ | with_reducible refine w_get_ns_stack wF wX wW ?_ | with_reducible refine w_get_preserve_space wF wX wW ?_ | with_reducible refine w_get_pending_start wF wX wW ?_ | with_reducible refine w_get_root_seen wF wX wW ?_ | with_reducible refine w_get_write wF wX wW ?_ | (with_reducible refine w_get_ignored_depth wF wX wW ?_; intro wt))
  k_with "getMethod ref" => ((with_reducible rename Fr _ _ _ _ => wF); (with_reducible rename WB _ _ _ _ _ _ _ => wW); (with_reducible rename Frag.In _ _ => wX); first | with_reducible refine w_m_write wF wX wW ?_ | with_reducible refine w_m_flush wF wX wW ?_ | with_reducible refine w_m_start wF wX wW ?_ | with_reducible refine w_m_qname wF wX wW ?_ | with_reducible refine w_m_iter_namespaces wF wX wW ?_)
  k_with "getMethod ref" => ((with_reducible show wpAny _ _ (getMethod (Value.ref _) (Str.ofString "append") _) _ _ _); (with_reducible rename Fr _ _ _ _ => wF); (with_reducible rename WB _ _ _ _ _ _ _ => wW); first | refine w_lmeth 6 (by decide) wF wW PySem.F.slot_list_append PySem.F.type_list_append ?_ | refine w_lmeth 7 (by decide) wF wW PySem.F.slot_list_append PySem.F.type_list_append ?_ | refine w_lmeth 8 (by decide) wF wW PySem.F.slot_list_append PySem.F.type_list_append ?_ | refine w_lmeth 9 (by decide) wF wW PySem.F.slot_list_append PySem.F.type_list_append ?_)
  k_with "getMethod ref" => ((with_reducible show wpAny _ _ (getMethod (Value.ref _) (Str.ofString "pop") _) _ _ _); (with_reducible rename Fr _ _ _ _ => wF); (with_reducible rename WB _ _ _ _ _ _ _ => wW); first | refine w_lmeth 7 (by decide) wF wW PySem.F.slot_list_pop PySem.F.type_list_pop ?_ | refine w_lmeth 8 (by decide) wF wW PySem.F.slot_list_pop PySem.F.type_list_pop ?_ | refine w_lmeth 9 (by decide) wF wW PySem.F.slot_list_pop PySem.F.type_list_pop ?_)
  k_with "call builtin:list.append" => ((with_reducible refine Stop.out ?_))
  k_with "call builtin:list.pop" => ((with_reducible refine Stop.out ?_))
  k_with "call builtin:len" => ((with_reducible refine Stop.out ?_))
  k_with "setAttr ref" => ((with_reducible refine Stop.out ?_))
  k_with "truthy ref" => ((with_reducible refine Stop.out ?_))
  k_with "call ref" => ((with_reducible refine Stop.out ?_))
  k_with "And" => ((with_reducible show Heap.get? _ _ = _ ∧ _); (with_reducible refine Stop.out ?_))
  k_with "storeName" => (k_here; k_dflt (refine' st_put ?F ?N ?_ ?a ?b; (case F => k_asm); (case N => k_asm); (case a => rfl); (case b => rfl); k_whole; intro h' F' N'; (try k_sweep)))
  k_with "execs cons" => (k_here; first | with_reducible refine then_one ?_ | ((with_reducible refine then_cons ?hn ?_); (case hn => first | assumption | (dsimp only; omega))))
  k_with "Then" => (first | ((with_reducible refine then_next ?_); intro tk9 htk9; (try dsimp only)) | with_reducible refine then_ret ?_)
  trivial
theorem wdata_spec (w : World) (loose : List Str) (mean : ExcName → Option Value) (mg mb : Str → Option Value) (A : Around) (s : Shared) (Q E : Value → Shared → Prop) (n : Nat) (B : Heap) (P : WP) (c : WX) (y : Str) (u : Tok) :
    Room 10 80 A → (Mine.hd0.heap_1_1 w.params).In B → Top topProg loose mean mg mb B → WB n w B P c s.heap s.heap → 1 ≤ s.toks → (c.ig = 0 → c.dat = none) →
    (∀ h' tk, WB n w B P (if c.ig = 0 then c.sDat (some y) else c) s.heap h' → Q .none { s with heap := h', toks := tk }) →
    wpAny (model PySem.Challenge.rw_if0001_01.row.prog w) A (call (.ref 116) [.ref P.x, .str y u]) Q E s := by
  k_fill
  intro RR XB TB W htk0 z0 ret
  obtain ⟨hh, dp, fr, gd, un⟩ := A
  obtain ⟨hA, hdp, hun⟩ := RR
  cases hA
  dsimp only at hdp hun
  have X := XB.keeps W.base
  have T := TB.keeps W.base
  refine wpAny_with_toks (n := 1) htk0 ?_
  refine' pcallW (binds := [(Str.ofString "self", .ref P.x), (Str.ofString "data", .str y u)]) X T ?hd ?ho ?hcd ?hb ?hl ?hc ?h1 ?h2 ?h3 ?_
  (case ho => k_is)
  (case hcd => k_is)
  (case hd => (show dp < 1000; exact Nat.lt_of_le_of_lt (Nat.le_add_right _ _) (Nat.lt_trans hdp (by decide))))
  (case hb => first | exact BindsTo.of_eq rfl | exact binds_K X rfl (by k_is) rfl rfl rfl)
  (case hc => decide)
  (case hl => exact locs rfl)
  (case h1 => exact rfl)
  (case h2 => exact rfl)
  (case h3 => exact rfl)
  k_whole
  intro L' h' F' N'
  (try dsimp only)
  (try k_fold)
  refine (let ev : Env := _; let ae : Around := _; (?_ : wpAny _ ae (execs _ ev) _ _ _))
  k_steps
  · have q9 : ¬ (c.ig : Int) = 0 := by assumption
    (with_reducible rename Fr _ _ _ _ => F1); (with_reducible rename News _ _ _ _ => N1); (with_reducible rename WB _ _ _ _ _ _ _ => W1); (with_reducible rename Frag.In _ _ => X)
    exact ret _ _ (by rw [if_neg (fun q => q9 (by rw [q]; rfl))]; exact W1.end_ F1)
  · have q9 : (c.ig : Int) = 0 := by assumption
    have q8 : c.ig = 0 := Int.ofNat.inj q9
    refine Stop.mk ?_
    (with_reducible rename Fr _ _ _ _ => F1); (with_reducible rename News _ _ _ _ => N1); (with_reducible rename WB _ _ _ _ _ _ _ => W1); (with_reducible rename Frag.In _ _ => X)
    refine w_app_ld F1 N1 W1 XB TB (z0 q8) fun g2 h2 F2 N2 X2 T2 W2 => ?_
    dsimp only
    clear F1 N1 W1
    k_steps
    (with_reducible rename Fr _ _ _ _ => F1); (with_reducible rename News _ _ _ _ => N1); (with_reducible rename WB _ _ _ _ _ _ _ => W1); (with_reducible rename Frag.In _ _ => X)
    exact ret _ _ (by rw [if_pos q8]; exact W1.end_ F1)
end Mine
end
theorem Mine.V4_w0 : True := by
  k_with_none
  trivial
section
open PySem PySem.W PySem.Calls PyProof.Rows
set_option maxRecDepth 100000
set_option maxHeartbeats 8000000
set_option linter.all false
namespace Mine
section
variable {prog : Program} {w : World} {A : Around} {s : Shared} {p : Program} {loose : List Str} {mean : ExcName → Option Value} {mg mb : Str → Option Value} {K : Frag} {R : Result → Shared → Prop} {g h h' : Heap} {L : Addr} {m : Str → Option Value} {news : Led}
    {name qual : Str} {params : Arguments} {body : List Stmt} {scope : Scope} {dV kV doc pm cdv ct oc : Value} {an od : Option Addr} {osl : Array (Option Value)} {f : Addr} {pos : List Value} {kw : List (Str × Value)} {binds : List (Str × Value)}
/-- entering a def as code: all that stands is kept -/
theorem pcode (X : K.In s.heap) (T : Top p loose mean mg mb s.heap) (hd : A.depth < recursionLimit)
    (ho : K.lookup f = some ⟨oc, od, .func (fnOf name qual params body scope dV kV doc pm an cdv ct), osl⟩) (hcd : codeIn K cdv qual = true)
    (hbind : BindsTo s (fnOf name qual params body scope dV kV doc pm an cdv ct) ⟨pos, kw⟩ binds) (hloc : ∀ y ∈ binds, scope.names.lookup y.1 = some .local)
    (hcell : ∀ x ∈ scope.names, x.2 ≠ .cell) (hco : scope.isCoroutine = false) (hgen : scope.isGenerator = false) (hk : scope.kind = .function)
    (h : ∀ L h₁, Fr s.heap L h₁ (bindM binds) → News s.heap L h₁ [] →
      wpAny (model prog w) (A.deeper (envOf qual scope L f cdv)) (execs body (envOf qual scope L f cdv))
        (fun fl s' => R (.ok (.ret (match fl with | .ret v => v | _ => .none))) s') (fun _ _ => False)
        { s with heap := h₁, toks := s.toks + binds.length }) :
    codeAny (model prog w) A (.call (.ref f) ⟨pos, kw⟩) R s := by
  refine codeAny_call_def (fd := fnOf name qual params body scope dV kV doc pm an cdv ct) (body := body) (binds := binds) hd (X _ _ ho) rfl T.nolimit (codeRec_of X hcd) rfl hbind hcell hloc (fun h₁ hns hk₁ => ?_) hco hgen hk
  exact wpAny_mono (h _ h₁ ⟨hns, hk₁, Nat.le_refl _⟩ News.nil) (fun fl s' q => q) fun _ _ q => q.elim
theorem unlend {d : Addr} {o : Obj} (e : g.get? d = some o) (F : Fr (g.hide d) L h m) (N : News (g.hide d) L h ((d, o) :: news)) (off : ∀ p ∈ news, p.1 ≠ d) : Fr g L h m ∧ News g L h news := by
  refine ⟨⟨F.ns, fun b x q => ?_, by have := F.above; rw [Heap.hide_size] at this; exact this⟩, fun p hp => ⟨(N p (.tail _ hp)).1, (N p (.tail _ hp)).2.1, ?_⟩⟩
  · by_cases n : b = d
    · rw [n, e] at q; cases q; rw [n]; exact (N _ (.head _)).1
    · exact F.keep _ _ ((Heap.hide_ne g n).trans q)
  · rw [← Heap.hide_ne g (off p hp)]; exact (N p (.tail _ hp)).2.2
theorem off_keys {d : Addr} : ∀ {a b : Led}, a.map (·.1) = b.map (·.1) → (∀ p ∈ a, p.1 ≠ d) → ∀ p ∈ b, p.1 ≠ d := fun e k p hp => by
  obtain ⟨q, hq, z⟩ := List.mem_map.mp (e ▸ List.mem_map_of_mem hp)
  exact z ▸ k q hq
theorem news_new {TT : Addr} {o : Obj} (F : Fr g L h m) (N : News g L h news) (k : h.StaysIn h') (n : h.get? TT = none) (e : h'.get? TT = some o) : News g L h' ((TT, o) :: news) := fun p hp => by
  rcases List.mem_cons.mp hp with rfl | hp
  · refine ⟨e, fun q => ?_, ?_⟩
    · with_reducible refine hideG ?_
      intro G0 hG0
      obtain ⟨oL, _, _, hL, _⟩ := F.ns
      with_reducible refine hG0 ?_
      clear hG0 G0
      dsimp only at q
      rw [← q, n] at hL; cases hL
    · cases q : g.get? TT with
      | none => rfl
      | some x => rw [F.keep _ _ q] at n; cases n
  · exact news_stay N k p hp
end
section
variable {w : World} {A : Around} {s : Shared} {env : Env} {E : Value → Shared → Prop} {Q : Flow → Shared → Prop} {body : List Stmt} {els : List Expr} {c : Nat} {p : Pos}
inductive NsEnd2 (g : Heap) (L : Addr) (G1 : Array GenState) (Rv I Lg G : Addr) (oR oI oG : Obj) (s : Shared) (Q : Flow → Shared → Prop) (s₃ : Shared) : Prop
  | mk (h3 : Heap) (tk3 : Tok) (m3 : Str → Option Value) (news3 : Led) (e : s₃ = ⟨h3, G1, s.drawn, tk3, s.os⟩) (F : Fr g L h3 m3) (N : News g L h3 news3) (a1 : (Rv, oR) ∈ news3) (a2 : (I, oI) ∈ news3) (a3 : (G, oG) ∈ news3)
      (fin : ∀ news4, (∀ p ∈ news3, p.1 < Lg → p ∈ news4) → ∀ h4 G4, Grown s.gens G4 → Fr g L h4 m3 → News g L h4 news4 → Q .next ⟨h4, G4, s.drawn, tk3, s.os⟩)
theorem ns_end2 {g h3 : Heap} {L Rv I Lg G dS : Addr} {oR oI oG oL oS oS' : Obj} {tl : Led} {m3 : Str → Option Value} {G1 : Array GenState} {tk3 : Nat} {s : Shared} {Q : Flow → Shared → Prop}
    (F9 : Fr g L h3 m3) (N9 : News g L h3 ((Rv, oR) :: (I, oI) :: (Lg, oL) :: (G, oG) :: (dS, oS') :: tl)) (lL : ∀ p ∈ (dS, oS) :: tl, p.1 < Lg)
    (fin : ∀ h4 G4, Grown s.gens G4 → Fr g L h4 m3 → News g L h4 ((dS, oS') :: tl) → Q .next ⟨h4, G4, s.drawn, tk3, s.os⟩) : NsEnd2 g L G1 Rv I Lg G oR oI oG s Q ⟨h3, G1, s.drawn, tk3, s.os⟩ := by
  refine ⟨h3, tk3, m3, _, rfl, F9, N9, .head _, .tail _ (.head _), .tail _ (.tail _ (.tail _ (.head _))), fun news4 sub h4 G4 hg F4 N4 => fin h4 G4 hg F4 fun p hp => ?_⟩
  rcases List.mem_cons.mp hp with rfl | hp
  · exact N4 _ (sub _ (.tail _ (.tail _ (.tail _ (.tail _ (.head _))))) (show dS < Lg from lL (dS, oS) (.head _)))
  · exact N4 _ (sub _ (.tail _ (.tail _ (.tail _ (.tail _ (.tail _ hp))))) (lL _ (.tail _ hp)))
theorem ns_call2 {g : Heap} {L x stk xl tx : Addr} {es : List Addr} {m : Str → Option Value} {news : Led} {dep xe : Nat} (hroom : A.depth < recursionLimit) (X : (Mine.hd0.heap_1_1 w.params).In g) (hlim : g.NoLimit) (F : Fr g L s.heap m) (N : News g L s.heap news)
    (h1 : g.get? stk = some (listOf (List.toArray (Value.ref xl :: List.map Value.ref es)) dep)) (h2 : g.get? xl = some (listOf #[.ref tx] xe)) (h3 : ∀ e ∈ es, ∃ ep, s.heap.get? e = some (listOf #[] ep)) (hes : es.length ≤ 1000)
    (turn : ∀ h1 tk1 G1 Rv I Lg G oR oI oL oG, Fr g L h1 m → News g L h1 ((Rv, oR) :: (I, oI) :: (Lg, oL) :: (G, oG) :: news) → (∀ p ∈ news, p.1 < Lg) → Lg < G → Lg ≠ Rv → Lg ≠ I → G ≠ Rv → G ≠ I → (∀ p ∈ news, p.1 ≠ Rv ∧ p.1 ≠ I) →
      wpAny (model PySem.Challenge.rw_if0001_01.row.prog w) A (assign (.Tuple els c p) env (.ref tx)) (fun _ s₂ => wpAny (model PySem.Challenge.rw_if0001_01.row.prog w) A (execs body env) (NsFlow (NsEnd2 g L G1 Rv I Lg G oR oI oG s Q)) E s₂) E ⟨h1, G1, s.drawn, tk1, s.os⟩) :
    wpAny (model PySem.Challenge.rw_if0001_01.row.prog w) A (call (.ref 94) [.ref x, .ref stk]) (fun xv s₁ => NsLoop PySem.Challenge.rw_if0001_01.row.prog w A env (.Tuple els c p) body Q E xv s₁) E s := by
  refine call_gen (X.keeps F.keep) (hlim.keeps F.keep) hroom fun h' tk G hn hk hG hlt => ?_
  with_reducible refine hideG ?_
  intro G0 hG0
  obtain ⟨oG, nm, qn, hoG, hcG, hdG, hsG⟩ := id hG
  with_reducible refine hG0 ?_
  clear hG0 G0
  have lt : ∀ p ∈ news, p.1 < s.heap.objs.size := fun p hp => Heap.lt_size (N p hp).1
  have hLlt : L < s.heap.objs.size := F.ns.lt
  have hlim' : h'.NoLimit := (hlim.keeps F.keep).keeps hk
  have hG0 : s.heap.get? G = none := by
    cases q : s.heap.get? G with
    | none => rfl
    | some o => exact absurd (Heap.lt_size q) (Nat.lt_asymm hlt)
  refine ⟨G, s.heap.objs.size, stk, xl, tx, es, s.gens, _, rfl, hG, rfl, hlim', hes, ⟨Nat.ne_of_gt (Heap.lt_size (F.keep _ _ h1)), Nat.ne_of_gt (Heap.lt_size (F.keep _ _ h2)), fun hm => ?_⟩, Nat.ne_of_lt hlt, ?_, hn, ⟨⟨_, hk _ _ (F.keep _ _ h1)⟩, ⟨_, hk _ _ (F.keep _ _ h2)⟩, fun e he => (h3 e he).imp fun ep hp => hk _ _ hp⟩, rfl, rfl, ?_⟩
  · obtain ⟨ep, hp⟩ := h3 _ hm
    exact absurd (Heap.lt_size hp) (Nat.lt_irrefl _)
  · obtain ⟨mc, hc, _⟩ := hlim.keeps F.keep
    exact Nat.ne_of_gt hc.lt
  · intro h1' tk1 G1 Rv I oR oI oL k1 hR hI nR nI hRI hL
    have hG1 : h1'.IsGen G s.gens.size := ⟨oG, nm, qn, k1 _ _ (Nat.ne_of_gt hlt) hoG, hcG, hdG, hsG⟩
    refine owned_go (s := ⟨_, _, _, _, _⟩) hG1 ?_
    obtain ⟨F1, N1⟩ := ns_view F N rfl hk k1 hR hI nR nI hL
    have N2 : News g L h1' ((Rv, oR) :: (I, oI) :: (s.heap.objs.size, oL) :: (G, oG) :: news) := fun p hp => by
      rcases List.mem_cons.mp hp with rfl | hp
      · exact N1 _ (.head _)
      rcases List.mem_cons.mp hp with rfl | hp
      · exact N1 _ (.tail _ (.head _))
      rcases List.mem_cons.mp hp with rfl | hp
      · exact N1 _ (.tail _ (.tail _ (.head _)))
      rcases List.mem_cons.mp hp with rfl | hp
      · refine ⟨k1 _ _ (Nat.ne_of_gt hlt) hoG, ?_, ?_⟩
        · exact Nat.ne_of_gt (Nat.lt_trans hLlt hlt)
        · cases q : g.get? G with
          | none => rfl
          | some o => rw [F.keep _ _ q] at hG0; cases hG0
      · exact N1 _ (.tail _ (.tail _ (.tail _ hp)))
    have nn : ∀ b o, h'.get? b = some o → b ≠ Rv ∧ b ≠ I := fun b o e => ⟨fun q => (by rw [q, nR] at e; cases e), fun q => (by rw [q, nI] at e; cases e)⟩
    have hLn := hn
    with_reducible refine hideG ?_
    intro G0 hG0
    obtain ⟨oLn, _, _, hoLn, _⟩ := hLn
    with_reducible refine hG0 ?_
    clear hG0 G0
    refine wpAny_mono (turn h1' tk1 G1 Rv I s.heap.objs.size G oR oI oL oG F1 N2 lt hlt (nn _ _ hoLn).1 (nn _ _ hoLn).2 (nn _ _ hoG).1 (nn _ _ hoG).2 fun p hp => nn _ _ (hk _ _ (N p hp).1)) (fun _ s₂ x => wpAny_mono x (fun f s₃ y => ?_) fun _ _ z => z) fun _ _ z => z
    have key : NsEnd2 g L G1 Rv I s.heap.objs.size G oR oI oG s Q s₃ → NsEnd G s.heap.objs.size xl tx Rv I oR oI s.gens G1 Q ⟨h', s.gens.push (.fresh (.func [gFor] (gEnv s.heap.objs.size))), s.drawn, tk, s.os⟩ s₃ := by
      intro zz0
      with_reducible refine hideG ?_
      intro G0 hG0
      obtain ⟨h3, tk3, m3, news3, rfl, F3, N3, a1, a2, a3, fin⟩ := zz0
      with_reducible refine hG0 ?_
      clear hG0 G0
      refine ⟨h3, tk3, rfl, (N3 _ a1).1, (N3 _ a2).1, ⟨xe, F3.keep _ _ h2⟩, ⟨oG, nm, qn, (N3 _ a3).1, hcG, hdG, hsG⟩, hlim.keeps F3.keep, fun h4 G4 hg hk4 => ?_⟩
      classical
      have N4 : News g L h3 (news3.filter fun p => decide (p.1 < s.heap.objs.size)) := fun p hp => N3 p (List.mem_filter.mp hp).1
      obtain ⟨F5, N5⟩ := ns_back (Lg := s.heap.objs.size) F3 N4 (fun p hp => by simpa using (List.mem_filter.mp hp).2) hLlt hk4
      exact fin _ (fun p hp hl => List.mem_filter.mpr ⟨hp, by simpa using hl⟩) h4 G4 hg F5 N5
    cases f with
    | next => exact key y
    | cont => exact key y
    | brk => exact y.elim
    | ret v => exact y.elim
end
/-- what stands behind a statement, plain -/
noncomputable def Then0 (M : Model) (A : Around) (rest : List Stmt) (env : Env) (Q : Flow → Shared → Prop) (E : Value → Shared → Prop) (f : Flow) (s : Shared) : Prop := match f with | .next => wpAny M A (execs rest env) Q E s | f => Q f s
section
variable {M : Model} {A : Around} {E : Value → Shared → Prop} {s : Shared} {env : Env} {st : Stmt} {rest : List Stmt} {Q : Flow → Shared → Prop}
theorem then0_cons (h : wpAny M A (exec st env) (Then0 M A rest env Q E) E s) : wpAny M A (execs (st :: rest) env) Q E s := wpAny_execs_cons h
theorem then0_next (h : ∀ k, wpAny M A (execs rest env) Q E ⟨s.heap, s.gens, s.drawn, k, s.os⟩) : Then0 M A rest env Q E .next s := h _
theorem then0_ret {v : Value} (h : Q (.ret v) s) : Then0 M A rest env Q E (.ret v) s := h
end
theorem V4_words : True := by
  k_with_none
  k_with "getAttr ref" => ((with_reducible rename Fr _ _ _ _ => wF); (with_reducible rename WB _ _ _ _ _ _ _ => wW); (with_reducible rename Frag.In _ _ => wX); first | with_reducible refine w_get_data wF wX wW ?_ | with_reducible refine w_get_strip_text wF wX wW ?_ | with_reducible refine w_get_exclude_attrs wF wX wW ?_ | with_reducible refine w_get_exclude_tags wF wX wW ?_ | with_reducible refine w_get_rewrite_prefixes wF wX wW ?_ | with_reducible refine w_get_qname_aware_tags wF wX wW ?_ | with_reducible refine w_get_find_qname_aware_attrs wF wX wW ?_ | with_reducible refine w_get_declared_ns_stack wF wX wW ?_ | with_reducible refine w_get_ns_stack wF wX wW ?_ | with_reducible refine w_get_preserve_space wF wX wW ?_ | with_reducible refine w_get_pending_start wF wX wW ?_ | with_reducible refine w_get_root_seen wF wX wW ?_ | with_reducible refine w_get_write wF wX wW ?_ | (with_reducible refine w_get_ignored_depth wF wX wW ?_; intro wt))
  k_with "getMethod ref" => ((with_reducible rename Fr _ _ _ _ => wF); (with_reducible rename WB _ _ _ _ _ _ _ => wW); (with_reducible rename Frag.In _ _ => wX); first | with_reducible refine w_m_write wF wX wW ?_ | with_reducible refine w_m_flush wF wX wW ?_ | with_reducible refine w_m_start wF wX wW ?_ | with_reducible refine w_m_qname wF wX wW ?_ | with_reducible refine w_m_iter_namespaces wF wX wW ?_)
  k_with "getMethod ref" => ((with_reducible show wpAny _ _ (getMethod (Value.ref _) (Str.ofString "append") _) _ _ _); (with_reducible rename Fr _ _ _ _ => wF); (with_reducible rename WB _ _ _ _ _ _ _ => wW); first | refine w_lmeth 6 (by decide) wF wW PySem.F.slot_list_append PySem.F.type_list_append ?_ | refine w_lmeth 7 (by decide) wF wW PySem.F.slot_list_append PySem.F.type_list_append ?_ | refine w_lmeth 8 (by decide) wF wW PySem.F.slot_list_append PySem.F.type_list_append ?_ | refine w_lmeth 9 (by decide) wF wW PySem.F.slot_list_append PySem.F.type_list_append ?_)
  k_with "getMethod ref" => ((with_reducible show wpAny _ _ (getMethod (Value.ref _) (Str.ofString "pop") _) _ _ _); (with_reducible rename Fr _ _ _ _ => wF); (with_reducible rename WB _ _ _ _ _ _ _ => wW); first | refine w_lmeth 7 (by decide) wF wW PySem.F.slot_list_pop PySem.F.type_list_pop ?_ | refine w_lmeth 8 (by decide) wF wW PySem.F.slot_list_pop PySem.F.type_list_pop ?_ | refine w_lmeth 9 (by decide) wF wW PySem.F.slot_list_pop PySem.F.type_list_pop ?_)
  k_with "call builtin:list.append" => ((with_reducible refine Stop.out ?_))
  k_with "call builtin:list.pop" => ((with_reducible refine Stop.out ?_))
  k_with "call builtin:len" => ((with_reducible refine Stop.out ?_))
  k_with "setAttr ref" => ((with_reducible refine Stop.out ?_))
  k_with "truthy ref" => ((with_reducible refine Stop.out ?_))
  k_with "call ref" => ((with_reducible refine Stop.out ?_))
  k_with "And" => ((with_reducible show Heap.get? _ _ = _ ∧ _); (with_reducible refine Stop.out ?_))
  k_with "storeName" => (k_here; k_dflt (refine' st_put ?F ?N ?_ ?a ?b; (case F => k_asm); (case N => k_asm); (case a => rfl); (case b => rfl); k_whole; intro h' F' N'; (try k_sweep)))
  k_with "execs cons" => (k_here; first | with_reducible refine then_one ?_ | ((with_reducible refine then_cons ?hn ?_); (case hn => first | assumption | (dsimp only; omega))))
  k_with "Then" => (first | ((with_reducible refine then_next ?_); intro tk9 htk9; (try dsimp only)) | with_reducible refine then_ret ?_)
  k_with "exec For Tuple Call cons nil" => ((with_reducible refine Stop.out ?_))
  k_with "execs cons" => (k_here; first | with_reducible refine then_one ?_ | with_reducible refine then0_cons ?_)
  k_with "Then0" => (first | ((with_reducible refine then0_next ?_); intro tk9; (try dsimp only)) | with_reducible refine then0_ret ?_)
  trivial
theorem wqname_code (w : World) (loose : List Str) (mean : ExcName → Option Value) (mg mb : Str → Option Value) (A : Around) (s : Shared) (R : Result → Shared → Prop) (n : Nat) (B : Heap) (P : WP) (c : WX) (tag : Str) (u : Tok) :
    Room 10 80 A → (Mine.hd0.heap_1_1 w.params).In B → Top topProg loose mean mg mb B → WB n w B P c s.heap s.heap → (∀ e ∈ c.es, ∃ ep, s.heap.get? e = some (listOf #[] ep)) → (c.es.length ≤ 1000) → (Txt.slice tag none (some 1) ≠ Str.ofString "{") → (tag.length = 1) →
    (∀ h' tk G2 TT u2, Grown s.gens G2 → s.heap.StaysIn h' → s.heap.get? TT = none → h'.get? TT = some (tupObj #[.str tag u, .str tag u, .str (Str.ofString "") u2]) → R (.ok (.ret (.ref TT))) ⟨h', G2, s.drawn, tk, s.os⟩) →
    codeAny (model PySem.Challenge.rw_if0001_01.row.prog w) A (.call (.ref 109) ⟨[.ref P.x, .str tag u], []⟩) R s := by
  k_fill
  intro RR XB TB W z0 z1 z2 z3 ret
  with_reducible refine hideG ?_
  intro G0 hG0
  obtain ⟨hh, dp, fr, gd, un⟩ := A
  with_reducible refine hG0 ?_
  clear hG0 G0
  obtain ⟨hA, hdp, hun⟩ := RR
  cases hA
  dsimp only at hdp hun
  have X := XB.keeps W.base
  have T := TB.keeps W.base
  refine' pcode (binds := [(Str.ofString "self", .ref P.x), (Str.ofString "qname", .str tag u), (Str.ofString "uri", .none)]) X T ?hd ?ho ?hcd ?hb ?hl ?hc ?h1 ?h2 ?h3 ?_
  (case ho => k_is)
  (case hcd => k_is)
  (case hd => (show dp < 1000; exact Nat.lt_of_le_of_lt (Nat.le_add_right _ _) (Nat.lt_trans hdp (by decide))))
  (case hb => first | exact BindsTo.of_eq rfl | exact binds_K X rfl (by k_is) rfl rfl rfl)
  (case hc => decide)
  (case hl => exact locs rfl)
  (case h1 => exact rfl)
  (case h2 => exact rfl)
  (case h3 => exact rfl)
  k_whole
  intro L' h' F' N'
  (try dsimp only)
  (try k_fold)
  refine (let ev : Env := _; let ae : Around := _; (?_ : wpAny _ ae (execs _ ev) _ _ _))
  k_steps
  all_goals (try exact absurd (eq_of_beq (by assumption)) z2)
  refine Stop.mk ?_
  rename_i dS hS ledS hsI hsS lD
  (with_reducible rename Fr _ _ _ _ => F1)
  (with_reducible rename News _ _ _ _ => N1)
  replace N1 : News s.heap L' _ [(dS, _)] := fun p hp => N1 p (by rw [List.mem_singleton.mp hp]; exact .head _)
  refine' For_ns rfl ?nsd ?_ ?nss ?nse
  case nsd => exact (show dp + 1 < 1000 from Nat.lt_of_le_of_lt (Nat.add_le_add_left (by decide) dp) (Nat.lt_trans hdp (by decide)))
  case nss => intro _; rfl
  case nse => first | passes_own | with_unfolding_all passes_own
  k_steps
  refine Stop.mk ?_
  (with_reducible rename WB _ _ _ _ _ _ _ => W1)
  (with_reducible rename Frag.In _ _ => X)
  (with_reducible rename Fr _ _ _ _ => F1)
  with_reducible refine hideG ?_
  intro G0 hG0
  obtain ⟨_, ⟨dep, rfl⟩, e7⟩ := W1.slot 7 (by decide)
  with_reducible refine hG0 ?_
  clear hG0 G0
  with_reducible refine hideG ?_
  intro G0 hG0
  obtain ⟨_, ⟨xe, rfl⟩, e3⟩ := W1.slot 3 (by decide)
  with_reducible refine hG0 ?_
  clear hG0 G0
  obtain ⟨_, rfl, e4⟩ := W1.slot 4 (by decide)
  refine ns_call2 (s := ⟨_, _, _, _, _⟩) (es := c.es) (stk := P.dn) (xl := P.xl) (tx := P.tx) (xe := xe) (dep := dep) (show dp + 1 < 1000 from Nat.lt_of_le_of_lt (Nat.add_le_add_left (by decide) dp) (Nat.lt_trans hdp (by decide))) X T.nolimit F1 N1 e7 e3 (fun e he => (z0 e he).imp fun ep hp => F1.keep _ _ hp) z1 fun h5 tk5 G5 Rv I Lg G oR oI oL oG F5 N5 lL lG n1 n2 n3 n4 n5 => ?_
  (try k_fold)
  clear N1
  have e1 : @LT.lt Nat _ dS Lg := lL _ (.head _)
  have e2 : @Ne Nat dS Rv := (n5 _ (.head _)).1
  have e5 : @Ne Nat dS I := (n5 _ (.head _)).2
  have e6 : @LT.lt Nat _ Lg G := lG
  have e8 := off_base N5 e4
  have e9 : @Ne Nat dS (adr P 4) := e8 _ (.tail _ (.tail _ (.tail _ (.tail _ (.head _)))))
  obtain ⟨F6, N6⟩ := lend F5 N5 e4
  have X6 := XB.keeps (W1.hidden 4 (by decide))
  unfold wTup tupObj at N6
  clear F5 N5
  k_steps
  (with_reducible rename Fr _ _ _ _ => F9)
  (with_reducible rename News _ _ _ _ => N9)
  show NsEnd2 _ _ _ _ _ _ _ _ _ _ _ _ _
  obtain ⟨F5, N5⟩ := unlend e4 F9 N9 (off_keys (by rfl) e8)
  clear F9 N9
  (try clear F6)
  (try clear N6)
  refine ns_end2 F5 N5 lL fun h6 G6 hg F6 N6 => ?_
  clear F5 N5 X6 e1 e2 e5 e6 e8 e9 n1 n2 n3 n4 n5 lL lG e7 e3 e4
  dsimp only
  k_steps
  (with_reducible rename Fr _ _ _ _ => F9)
  (with_reducible rename News _ _ _ _ => N9)
  exact ret _ _ _ _ _ hg F9.keep (N9 _ (.head _)).2.2 (N9 _ (.head _)).1
end Mine
end
theorem Mine.V5_w0 : True := by
  k_with_none
  trivial
section
open PySem PySem.W PySem.Calls PyProof.Rows
set_option maxRecDepth 100000
set_option maxHeartbeats 8000000
set_option linter.all false
namespace Mine
theorem V5_words : True := by
  k_with_none
  k_with "getAttr ref" => ((with_reducible rename Fr _ _ _ _ => wF); (with_reducible rename WB _ _ _ _ _ _ _ => wW); (with_reducible rename Frag.In _ _ => wX); first | with_reducible refine w_get_data wF wX wW ?_ | with_reducible refine w_get_strip_text wF wX wW ?_ | with_reducible refine w_get_exclude_attrs wF wX wW ?_ | with_reducible refine w_get_exclude_tags wF wX wW ?_ | with_reducible refine w_get_rewrite_prefixes wF wX wW ?_ | with_reducible refine w_get_qname_aware_tags wF wX wW ?_ | with_reducible refine w_get_find_qname_aware_attrs wF wX wW ?_ | with_reducible refine w_get_declared_ns_stack wF wX wW ?_ | with_reducible refine w_get_ns_stack wF wX wW ?_ | with_reducible refine w_get_preserve_space wF wX wW ?_ | with_reducible refine w_get_pending_start wF wX wW ?_ | with_reducible refine w_get_root_seen wF wX wW ?_ | with_reducible refine w_get_write wF wX wW ?_ | (with_reducible refine w_get_ignored_depth wF wX wW ?_; intro wt))
  k_with "getMethod ref" => ((with_reducible rename Fr _ _ _ _ => wF); (with_reducible rename WB _ _ _ _ _ _ _ => wW); (with_reducible rename Frag.In _ _ => wX); first | with_reducible refine w_m_write wF wX wW ?_ | with_reducible refine w_m_flush wF wX wW ?_ | with_reducible refine w_m_start wF wX wW ?_ | with_reducible refine w_m_qname wF wX wW ?_ | with_reducible refine w_m_iter_namespaces wF wX wW ?_)
  k_with "getMethod ref" => ((with_reducible show wpAny _ _ (getMethod (Value.ref _) (Str.ofString "append") _) _ _ _); (with_reducible rename Fr _ _ _ _ => wF); (with_reducible rename WB _ _ _ _ _ _ _ => wW); first | refine w_lmeth 6 (by decide) wF wW PySem.F.slot_list_append PySem.F.type_list_append ?_ | refine w_lmeth 7 (by decide) wF wW PySem.F.slot_list_append PySem.F.type_list_append ?_ | refine w_lmeth 8 (by decide) wF wW PySem.F.slot_list_append PySem.F.type_list_append ?_ | refine w_lmeth 9 (by decide) wF wW PySem.F.slot_list_append PySem.F.type_list_append ?_)
  k_with "getMethod ref" => ((with_reducible show wpAny _ _ (getMethod (Value.ref _) (Str.ofString "pop") _) _ _ _); (with_reducible rename Fr _ _ _ _ => wF); (with_reducible rename WB _ _ _ _ _ _ _ => wW); first | refine w_lmeth 7 (by decide) wF wW PySem.F.slot_list_pop PySem.F.type_list_pop ?_ | refine w_lmeth 8 (by decide) wF wW PySem.F.slot_list_pop PySem.F.type_list_pop ?_ | refine w_lmeth 9 (by decide) wF wW PySem.F.slot_list_pop PySem.F.type_list_pop ?_)
  k_with "call builtin:list.append" => ((with_reducible refine Stop.out ?_))
  k_with "call builtin:list.pop" => ((with_reducible refine Stop.out ?_))
  k_with "call builtin:len" => ((with_reducible refine Stop.out ?_))
  k_with "setAttr ref" => ((with_reducible refine Stop.out ?_))
  k_with "truthy ref" => ((with_reducible refine Stop.out ?_))
  k_with "call ref" => ((with_reducible refine Stop.out ?_))
  k_with "And" => ((with_reducible show Heap.get? _ _ = _ ∧ _); (with_reducible refine Stop.out ?_))
  k_with "storeName" => (k_here; k_dflt (refine' st_put ?F ?N ?_ ?a ?b; (case F => k_asm); (case N => k_asm); (case a => rfl); (case b => rfl); k_whole; intro h' F' N'; (try k_sweep)))
  k_with "execs cons" => (k_here; first | with_reducible refine then_one ?_ | ((with_reducible refine then_cons ?hn ?_); (case hn => first | assumption | (dsimp only; omega))))
  k_with "Then" => (first | ((with_reducible refine then_next ?_); intro tk9 htk9; (try dsimp only)) | with_reducible refine then_ret ?_)
  trivial
/-- the writer when the text that waits has been written -/
noncomputable def WX.flush (c : WX) : WX := match c.dat with
  | some y => (c.sDat none).sParts (if y = Str.ofString "" ∨ c.seen = false then c.parts else c.parts ++ [escL y])
  | none => c
theorem eq_empty_of_len {y : Str} (h : ((y.length : Nat) : Int) = 0) : y = Str.ofString "" := by
  have : y.cps.size = 0 := Int.ofNat.inj h
  obtain ⟨c⟩ := y
  have h9 : c = #[] := Array.eq_empty_of_size_eq_zero this
  rw [h9]; rfl
theorem wflush_spec (w : World) (loose : List Str) (mean : ExcName → Option Value) (mg mb : Str → Option Value) (A : Around) (s : Shared) (Q E : Value → Shared → Prop) (n : Nat) (B : Heap) (P : WP) (c : WX) (y : Str) :
    Room 20 160 A → (Mine.hd0.heap_1_1 w.params).In B → Top topProg loose mean mg mb B → WB n w B P c s.heap s.heap → 1 ≤ s.toks → (c.dat = some y) → (y.length ≤ 20) → (c.parts.length ≤ 900) →
    (∀ h' tk, 1 ≤ tk → WB n w B P c.flush s.heap h' → Q .none ⟨h', s.gens, s.drawn, tk, s.os⟩) →
    wpAny (model PySem.Challenge.rw_if0001_01.row.prog w) A (call (.ref 125) [.ref P.x]) Q E s := by
  k_fill
  intro RR XB TB W htk0 z0 z1 z2 ret
  obtain ⟨hh, dp, fr, gd, un⟩ := A
  obtain ⟨hA, hdp, hun⟩ := RR
  cases hA
  dsimp only at hdp hun
  have X := XB.keeps W.base
  have T := TB.keeps W.base
  refine wpAny_with_toks (n := 1) htk0 ?_
  refine' pcallW (binds := [(Str.ofString "self", .ref P.x), (Str.ofString "_join_text", .ref 117)]) X T ?hd ?ho ?hcd ?hb ?hl ?hc ?h1 ?h2 ?h3 ?_
  (case ho => k_is)
  (case hcd => k_is)
  (case hd => (show dp < 1000; exact Nat.lt_of_le_of_lt (Nat.le_add_right _ _) (Nat.lt_trans hdp (by decide))))
  (case hb => first | exact BindsTo.of_eq rfl | exact binds_K X rfl (by k_is) rfl rfl rfl)
  (case hc => decide)
  (case hl => exact locs rfl)
  (case h1 => exact rfl)
  (case h2 => exact rfl)
  (case h3 => exact rfl)
  k_whole
  intro L' h' F' N'
  (try dsimp only)
  (try k_fold)
  refine (let ev : Env := _; let ae : Around := _; (?_ : wpAny _ ae (execs _ ev) _ _ _))
  k_steps
  refine callWith_bo1 (id := "str.join") (v := .str (Str.ofString "") 505) ?_ (by rfl)
  k_steps
  refine Stop.mk ?_
  (with_reducible rename Fr _ _ _ _ => F1); (with_reducible rename News _ _ _ _ => N1); (with_reducible rename WB _ _ _ _ _ _ _ => W1); (with_reducible rename Frag.In _ _ => X)
  refine ⟨X.keeps F1.keep 117 _ (by k_is), ?_⟩
  obtain ⟨t0, hl⟩ := w_dat (s := ⟨_, _, _, _, _⟩) F1 W1 z0
  refine join_bound (ys := [y]) (X.keeps F1.keep 117 _ (by k_is)) hl (.cons _ _ .nil) (by have e0 : (Str.ofString "").length = 0 := rfl; simp [e0]; omega) fun t7 k7 => ?_
  clear hl
  have hj : Txt.join (Str.ofString "") [y] = y := by rfl
  rw [hj]
  clear hj t0
  k_steps
  (with_reducible rename Fr _ _ _ _ => F1); (with_reducible rename News _ _ _ _ => N1); (with_reducible rename WB _ _ _ _ _ _ _ => W1); (with_reducible rename Frag.In _ _ => X)
  refine w_del (s := ⟨_, _, _, _, _⟩) F1 N1 W1 XB TB z0 (by (try dsimp only); omega) fun g2 h2 F2 N2 X2 T2 W2 tk8 ht8 => ?_
  dsimp only
  clear F1 N1 W1
  k_steps
  · refine callWith_bo1 (id := "list.append") (v := .ref P.lp) ?_ (by rfl)
    k_steps
    refine Stop.mk ?_
    (with_reducible rename Fr _ _ _ _ => F1); (with_reducible rename News _ _ _ _ => N1); (with_reducible rename WB _ _ _ _ _ _ _ => W1); (with_reducible rename Frag.In _ _ => X)
    refine' esc_spec w loose mean mg mb _ _ _ _ y t7 ?R9 (X.keeps F1.keep) (T2.keeps F1.keep) ?K9 z1 ?_
    case R9 => exact ⟨rfl, Nat.lt_of_le_of_lt (by show dp + 1 + 5 ≤ dp + 20; exact le3 (by decide)) hdp, Nat.lt_of_le_of_lt (by show un + _ + 40 ≤ un + 160; exact le3 (by decide)) hun⟩
    case K9 => (try dsimp only); omega
    rintro _ h8' tk8' hk ⟨t8, rfl⟩
    have F5 := fr_stay F1 hk
    have N5 := news_stay N1 hk
    clear F1 N1 hk
    refine ⟨w_write_at (s := ⟨_, _, _, _, _⟩) F5 W1, ?_⟩
    refine w_write (s := ⟨_, _, _, _, _⟩) F5 N5 W1 XB TB z2 fun g3 h3 F2 N2 X3 T3 W2 => ?_
    dsimp only
    clear F5 N5 W1
    k_steps
    have y0 : ¬ ((y.length : Nat) : Int) = 0 := by assumption
    have s0 : c.seen = true := by assumption
    refine ret _ _ (by assumption) ?_
    have e0 : c.flush = (c.sDat none).sParts ((c.sDat none).parts ++ [escL y]) := by
      unfold WX.flush; rw [z0]
      show (c.sDat none).sParts (if _ then _ else _) = _
      rw [if_neg]; rfl
      rintro (q | q)
      · exact y0 (by rw [q]; rfl)
      · rw [s0] at q; cases q
    rw [e0]; exact W2.end_ F2
  · (with_reducible rename Fr _ _ _ _ => F1); (with_reducible rename News _ _ _ _ => N1); (with_reducible rename WB _ _ _ _ _ _ _ => W1); (with_reducible rename Frag.In _ _ => X)
    have s0 : c.seen = false := by assumption
    refine ret _ _ (by assumption) ?_
    have e0 : c.flush = c.sDat none := by
      unfold WX.flush; rw [z0]
      show (c.sDat none).sParts (if _ then _ else _) = _
      rw [if_pos (.inr s0)]; rfl
    rw [e0]; exact W1.end_ F1
  · (with_reducible rename Fr _ _ _ _ => F1); (with_reducible rename News _ _ _ _ => N1); (with_reducible rename WB _ _ _ _ _ _ _ => W1); (with_reducible rename Frag.In _ _ => X)
    have y0 : ((y.length : Nat) : Int) = 0 := by assumption
    refine ret _ _ (by assumption) ?_
    have e0 : c.flush = c.sDat none := by
      unfold WX.flush; rw [z0]
      show (c.sDat none).sParts (if _ then _ else _) = _
      rw [if_pos (.inl (eq_empty_of_len y0))]; rfl
    rw [e0]; exact W1.end_ F1
end Mine
end
theorem Mine.V6_w0 : True := by
  k_with_none
  trivial
section
open PySem PySem.W PySem.Calls PyProof.Rows
set_option maxRecDepth 100000
set_option maxHeartbeats 8000000
set_option linter.all false
namespace Mine
theorem size_end {tag : Str} (h : tag.length = 1) : Str.empty.length + (Str.ofString "</").length + tag.length + (Str.ofString ">").length ≤ sizeLine := by
  rw [sizeLine_eq, h]
  have q1 : (Str.ofString "</").length = 2 := rfl
  have q2 : (Str.ofString ">").length = 1 := rfl
  have q3 : Str.empty.length = 0 := rfl
  omega
theorem V6_words : True := by
  k_with_none
  k_with "getAttr ref" => ((with_reducible rename Fr _ _ _ _ => wF); (with_reducible rename WB _ _ _ _ _ _ _ => wW); (with_reducible rename Frag.In _ _ => wX); first | with_reducible refine w_get_data wF wX wW ?_ | with_reducible refine w_get_strip_text wF wX wW ?_ | with_reducible refine w_get_exclude_attrs wF wX wW ?_ | with_reducible refine w_get_exclude_tags wF wX wW ?_ | with_reducible refine w_get_rewrite_prefixes wF wX wW ?_ | with_reducible refine w_get_qname_aware_tags wF wX wW ?_ | with_reducible refine w_get_find_qname_aware_attrs wF wX wW ?_ | with_reducible refine w_get_declared_ns_stack wF wX wW ?_ | with_reducible refine w_get_ns_stack wF wX wW ?_ | with_reducible refine w_get_preserve_space wF wX wW ?_ | with_reducible refine w_get_pending_start wF wX wW ?_ | with_reducible refine w_get_root_seen wF wX wW ?_ | with_reducible refine w_get_write wF wX wW ?_ | (with_reducible refine w_get_ignored_depth wF wX wW ?_; intro wt))
  k_with "getMethod ref" => ((with_reducible rename Fr _ _ _ _ => wF); (with_reducible rename WB _ _ _ _ _ _ _ => wW); (with_reducible rename Frag.In _ _ => wX); first | with_reducible refine w_m_write wF wX wW ?_ | with_reducible refine w_m_flush wF wX wW ?_ | with_reducible refine w_m_start wF wX wW ?_ | with_reducible refine w_m_qname wF wX wW ?_ | with_reducible refine w_m_iter_namespaces wF wX wW ?_)
  k_with "getMethod ref" => ((with_reducible show wpAny _ _ (getMethod (Value.ref _) (Str.ofString "append") _) _ _ _); (with_reducible rename Fr _ _ _ _ => wF); (with_reducible rename WB _ _ _ _ _ _ _ => wW); first | refine w_lmeth 6 (by decide) wF wW PySem.F.slot_list_append PySem.F.type_list_append ?_ | refine w_lmeth 7 (by decide) wF wW PySem.F.slot_list_append PySem.F.type_list_append ?_ | refine w_lmeth 8 (by decide) wF wW PySem.F.slot_list_append PySem.F.type_list_append ?_ | refine w_lmeth 9 (by decide) wF wW PySem.F.slot_list_append PySem.F.type_list_append ?_)
  k_with "getMethod ref" => ((with_reducible show wpAny _ _ (getMethod (Value.ref _) (Str.ofString "pop") _) _ _ _); (with_reducible rename Fr _ _ _ _ => wF); (with_reducible rename WB _ _ _ _ _ _ _ => wW); first | refine w_lmeth 7 (by decide) wF wW PySem.F.slot_list_pop PySem.F.type_list_pop ?_ | refine w_lmeth 8 (by decide) wF wW PySem.F.slot_list_pop PySem.F.type_list_pop ?_ | refine w_lmeth 9 (by decide) wF wW PySem.F.slot_list_pop PySem.F.type_list_pop ?_)
  k_with "call builtin:list.append" => ((with_reducible refine Stop.out ?_))
  k_with "call builtin:list.pop" => ((with_reducible refine Stop.out ?_))
  k_with "call builtin:len" => ((with_reducible refine Stop.out ?_))
  k_with "setAttr ref" => ((with_reducible refine Stop.out ?_))
  k_with "truthy ref" => ((with_reducible refine Stop.out ?_))
  k_with "call ref" => ((with_reducible refine Stop.out ?_))
  k_with "And" => ((with_reducible show Heap.get? _ _ = _ ∧ _); (with_reducible refine Stop.out ?_))
  k_with "storeName" => (k_here; k_dflt (refine' st_put ?F ?N ?_ ?a ?b; (case F => k_asm); (case N => k_asm); (case a => rfl); (case b => rfl); k_whole; intro h' F' N'; (try k_sweep)))
  k_with "execs cons" => (k_here; first | with_reducible refine then_one ?_ | ((with_reducible refine then_cons ?hn ?_); (case hn => first | assumption | (dsimp only; omega))))
  k_with "Then" => (first | ((with_reducible refine then_next ?_); intro tk9 htk9; (try dsimp only)) | with_reducible refine then_ret ?_)
  k_with "exec If Attribute" => ((with_reducible show wpAny _ _ (exec (Stmt.If (Expr.Attribute _ (Str.ofString "_data") _) _ _ _) _) _ _ _); (with_reducible refine Stop.out ?_))
  k_with "And" => (with_reducible refine ⟨size_end (by assumption), ?_⟩)
  trivial
/-- the empty lists of names in scope -/
noncomputable def ESt (P : WP) (es : List Nat) (h : Heap) : Prop := ∀ e ∈ es, ¬ Mut P e ∧ ∃ ep, h.get? e = some (listOf #[] ep)
theorem ESt.moves {P : WP} {es : List Nat} {h h' : Heap} (x : ESt P es h) (k : Moves P h h') : ESt P es h' := fun e he => ⟨(x e he).1, (x e he).2.imp fun _ q => k _ _ (x e he).1 q⟩
/-- what stands behind «if self._data: self._flush()» -/
noncomputable def Flushed (w : World) (B : Heap) (P : WP) (c : WX) (h0 : Heap) (L : Addr) (m : Str → Option Value) (loose : List Str) (mean : ExcName → Option Value) (mg mb : Str → Option Value) (s : Shared) (f : Flow) (s' : Shared) : Prop :=
  f = .next ∧ ∃ g' h' tk, s' = ⟨h', s.gens, s.drawn, tk, s.os⟩ ∧ Fr g' L h' m ∧ News g' L h' [] ∧ (Mine.hd0.heap_1_1 w.params).In g' ∧ Top topProg loose mean mg mb g' ∧ WB 12 w B P c.flush h0 g'
theorem flush_dat (c : WX) : c.flush.dat = none := by
  unfold WX.flush
  split
  · rfl
  · assumption
theorem flush_none {c : WX} (h : c.dat = none) : c.flush = c := by unfold WX.flush; rw [h]
theorem flush_same (c : WX) : c.flush.ig = c.ig ∧ c.flush.seen = c.seen ∧ c.flush.es = c.es ∧ c.flush.nn = c.nn ∧ c.flush.pn = c.pn ∧ c.flush.pt = c.pt ∧ c.flush.parts.length ≤ c.parts.length + 1 := by
  unfold WX.flush
  split
  · refine ⟨rfl, rfl, rfl, rfl, rfl, rfl, ?_⟩
    show (if _ then _ else _ : List Str).length ≤ _
    split
    · exact Nat.le_succ _
    · rw [List.length_append]; exact Nat.le_refl _
  · exact ⟨rfl, rfl, rfl, rfl, rfl, rfl, Nat.le_succ _⟩
/-- the writer when an element ends -/
noncomputable def WX.endd (c : WX) (tag : Str) : WX := if c.ig = 0 then ((((c.flush.sParts (c.flush.parts ++ [Str.ofString "</" ++ tag ++ Str.ofString ">"])).sPn (c.pn - 1)).sEs c.es.dropLast).sNn (c.nn - 1)) else c.sIg (c.ig - 1)
theorem wend_spec (w : World) (loose : List Str) (mean : ExcName → Option Value) (mg mb : Str → Option Value) (A : Around) (s : Shared) (Q E : Value → Shared → Prop) (B : Heap) (P : WP) (c : WX) (tag : Str) (u : Tok) (es1 : List Nat) (e1 n1 k1 : Nat) :
    Room 40 320 A → (Mine.hd0.heap_1_1 w.params).In B → Top topProg loose mean mg mb B → WB 12 w B P c s.heap s.heap → 1 ≤ s.toks → (c.ig = 0 → c.es = es1 ++ [e1] ∧ c.nn = n1 + 1 ∧ c.pn = k1 + 1) → (ESt P c.es s.heap) → (c.es.length ≤ 800 ∧ c.nn ≤ 800 ∧ c.pn ≤ 800 ∧ c.parts.length ≤ 800) → (Txt.slice tag none (some 1) ≠ Str.ofString "{") → (tag.length = 1) → (∀ y, c.dat = some y → y.length ≤ 20) →
    (∀ h' tk G2, 1 ≤ tk → Grown s.gens G2 → WB 12 w B P (c.endd tag) s.heap h' → Q .none ⟨h', G2, s.drawn, tk, s.os⟩) →
    wpAny (model PySem.Challenge.rw_if0001_01.row.prog w) A (call (.ref 152) [.ref P.x, .str tag u]) Q E s := by
  k_fill
  intro RR XB TB W htk0 z0 z1 z2 z3 z4 z5 ret
  obtain ⟨hh, dp, fr, gd, un⟩ := A
  obtain ⟨hA, hdp, hun⟩ := RR
  cases hA
  dsimp only at hdp hun
  have X := XB.keeps W.base
  have T := TB.keeps W.base
  refine wpAny_with_toks (n := 1) htk0 ?_
  refine' pcallW (binds := [(Str.ofString "self", .ref P.x), (Str.ofString "tag", .str tag u)]) X T ?hd ?ho ?hcd ?hb ?hl ?hc ?h1 ?h2 ?h3 ?_
  (case ho => k_is)
  (case hcd => k_is)
  (case hd => (show dp < 1000; exact Nat.lt_of_le_of_lt (Nat.le_add_right _ _) (Nat.lt_trans hdp (by decide))))
  (case hb => first | exact BindsTo.of_eq rfl | exact binds_K X rfl (by k_is) rfl rfl rfl)
  (case hc => decide)
  (case hl => exact locs rfl)
  (case h1 => exact rfl)
  (case h2 => exact rfl)
  (case h3 => exact rfl)
  k_whole
  intro L' h' F' N'
  (try dsimp only)
  (try k_fold)
  refine (let ev : Env := _; let ae : Around := _; (?_ : wpAny _ ae (execs _ ev) _ _ _))
  k_steps
  · refine Stop.mk ?_
    (with_reducible rename Fr _ _ _ _ => F1); (with_reducible rename News _ _ _ _ => N1); (with_reducible rename WB _ _ _ _ _ _ _ => W1); (with_reducible rename Frag.In _ _ => X)
    have i0 : ¬ (c.ig : Int) = 0 := by assumption
    have i1 : ¬ c.ig = 0 := fun q => i0 (by rw [q]; rfl)
    refine w_set_ig (s := ⟨_, _, _, _, _⟩) (k := c.ig - 1) F1 N1 W1 XB TB (Int.ofNat_sub (Nat.pos_of_ne_zero i1)).symm fun g2 h2 F2 N2 X2 T2 W2 => ?_
    dsimp only
    clear F1 N1 W1
    k_steps
    (with_reducible rename Fr _ _ _ _ => F1); (with_reducible rename News _ _ _ _ => N1); (with_reducible rename WB _ _ _ _ _ _ _ => W1); (with_reducible rename Frag.In _ _ => X)
    refine ret _ _ _ (by assumption) (Grown.refl _) ?_
    have e0 : c.endd tag = c.sIg (c.ig - 1) := if_neg i1
    rw [e0]; exact W1.end_ F1
  · refine Stop.mk ?_
    refine wpAny_with_toks (n := 1) (by (try dsimp only); omega) ?_
    refine wpAny_mono (Q := Flushed w B P c s.heap L' (bindM [(Str.ofString "self", .ref P.x), (Str.ofString "tag", .str tag u)]) loose mean mg mb s) (E := fun _ _ => False) ?A (fun f s' q => ?_) (fun _ _ e => e.elim)
    case A =>
      refine wpAny_If ?_
      k_steps
      refine Stop.mk ?_
      (with_reducible rename Fr _ _ _ _ => F1); (with_reducible rename News _ _ _ _ => N1); (with_reducible rename WB _ _ _ _ _ _ _ => W1); (with_reducible rename Frag.In _ _ => X)
      refine w_truthy_ld (s := ⟨_, _, _, _, _⟩) F1 W1 ?_
      cases hd : c.dat with
      | none =>
        dsimp only [Option.isSome]
        k_steps
        (with_reducible rename Fr _ _ _ _ => F1); (with_reducible rename News _ _ _ _ => N1); (with_reducible rename WB _ _ _ _ _ _ _ => W1); (with_reducible rename Frag.In _ _ => X)
        exact ⟨rfl, _, _, _, rfl, F1, N1, X, TB.keeps W1.base, by rw [flush_none hd]; exact W1⟩
      | some y9 =>
        dsimp only [Option.isSome]
        k_steps
        refine Stop.mk ?_
        (with_reducible rename Fr _ _ _ _ => F1); (with_reducible rename News _ _ _ _ => N1); (with_reducible rename WB _ _ _ _ _ _ _ => W1); (with_reducible rename Frag.In _ _ => X)
        refine' wflush_spec w loose mean mg mb _ ⟨_, _, _, _, _⟩ _ _ _ B P c y9 ?R8 XB TB (W1.now F1) ?K8 hd (z5 y9 hd) (by omega) ?_
        case R8 => exact ⟨rfl, Nat.lt_of_le_of_lt (by show dp + 1 + 20 ≤ dp + 40; exact le3 (by decide)) hdp, Nat.lt_of_le_of_lt (by show un + _ + 160 ≤ un + 320; exact le3 (by decide)) hun⟩
        case K8 => (try dsimp only); omega
        intro h13 tk13 ht13 W13
        obtain ⟨g3, F3, N3, W3⟩ := WB.back F1 N1 W1 W13
        exact ⟨rfl, _, _, _, rfl, F3, N3, XB.keeps W3.base, TB.keeps W3.base, W3⟩
    (with_reducible rename Fr _ _ _ _ => F1); (with_reducible rename News _ _ _ _ => N1); (with_reducible rename WB _ _ _ _ _ _ _ => W1); (with_reducible rename Frag.In _ _ => X)
    clear F1 N1 W1
    obtain ⟨rfl, g4, h4, tk4, rfl, F4, N4, X4, T4, W4⟩ := q
    intro ht4
    dsimp only at ht4

    have i0 : c.ig = 0 := Int.ofNat.inj (by assumption : (c.ig : Int) = 0)
    obtain ⟨d1, d2, d3⟩ := z0 i0
    obtain ⟨f1, f2, f3, f4, f5, f6, f7⟩ := flush_same c
    k_steps
    refine callWith_bo1 (id := "list.append") (v := .ref P.lp) ?_ (by rfl)
    k_steps
    refine Stop.mk ?_
    (with_reducible rename Fr _ _ _ _ => F1); (with_reducible rename News _ _ _ _ => N1); (with_reducible rename WB _ _ _ _ _ _ _ => W1); (with_reducible rename Frag.In _ _ => X)
    refine wpAny_with_toks (n := 1) (by (try dsimp only); omega) ?_
    refine wpAny_call ?_
    refine' wqname_code w loose mean mg mb _ ⟨_, _, _, _, _⟩ _ _ B P c.flush tag u ?R9 XB TB (W1.now F1) ?S9 (by rw [f3]; omega) z3 z4 ?_
    case R9 => exact ⟨rfl, Nat.lt_of_le_of_lt (by show dp + 1 + 10 ≤ dp + 40; exact le3 (by decide)) hdp, Nat.lt_of_le_of_lt (by show un + _ + 80 ≤ un + 320; exact le3 (by decide)) hun⟩
    case S9 => rw [f3]; exact fun e he => ((z1.moves (W1.end_ F1).moves) e he).2
    intro h7 tk7 G7 TT u7 hg7 hk7 n7 e7 ht7
    dsimp only at ht7 hg7
    have F5 := fr_stay F1 hk7
    have N5 := news_new F1 N1 hk7 n7 e7
    clear F1 N1 hk7 n7 e7
    unfold tupObj at N5
    dsimp only
    k_steps
    refine Stop.mk ?_
    (with_reducible rename Fr _ _ _ _ => F1); (with_reducible rename News _ _ _ _ => N1); (with_reducible rename WB _ _ _ _ _ _ _ => W1); (with_reducible rename Frag.In _ _ => X)
    refine ⟨w_write_at (s := ⟨_, _, _, _, _⟩) F1 W1, ?_⟩
    refine w_write (s := ⟨_, _, _, _, _⟩) F1 News.nil W1 XB TB (by omega) fun g5 h5 F5 N5 X5 T5 W5 => ?_
    dsimp only
    clear F1 N1 W1
    k_steps
    refine Stop.mk ?_
    (with_reducible rename Fr _ _ _ _ => F1); (with_reducible rename News _ _ _ _ => N1); (with_reducible rename WB _ _ _ _ _ _ _ => W1); (with_reducible rename Frag.In _ _ => X)
    refine w_pop_ps (s := ⟨_, _, _, _, _⟩) (n1 := k1) (e1 := 0) F1 News.nil W1 XB TB (f5.trans d3) (by omega) fun g5 h5 F5 N5 X5 T5 W5 v => ?_
    dsimp only
    clear F1 N1 W1
    k_steps
    refine Stop.mk ?_
    (with_reducible rename Fr _ _ _ _ => F1); (with_reducible rename News _ _ _ _ => N1); (with_reducible rename WB _ _ _ _ _ _ _ => W1); (with_reducible rename Frag.In _ _ => X)
    refine w_len_ps (s := ⟨_, _, _, _, _⟩) F1 W1 (by show k1 ≤ 900; omega) ?_
    k_steps
    refine Stop.mk ?_
    (with_reducible rename Fr _ _ _ _ => F1); (with_reducible rename News _ _ _ _ => N1); (with_reducible rename WB _ _ _ _ _ _ _ => W1); (with_reducible rename Frag.In _ _ => X)
    refine w_set_done (s := ⟨_, _, _, _, _⟩) F1 News.nil W1 XB TB fun g5 h5 F5 N5 X5 T5 W5 => ?_
    dsimp only
    clear F1 N1 W1
    k_steps
    refine Stop.mk ?_
    (with_reducible rename Fr _ _ _ _ => F1); (with_reducible rename News _ _ _ _ => N1); (with_reducible rename WB _ _ _ _ _ _ _ => W1); (with_reducible rename Frag.In _ _ => X)
    refine w_pop_dn (s := ⟨_, _, _, _, _⟩) (n1 := es1) (e1 := e1) F1 News.nil W1 XB TB (f3.trans d1) (by have := z2.1; rw [d1, List.length_append] at this; omega) fun g5 h5 F5 N5 X5 T5 W5 v => ?_
    dsimp only
    clear F1 N1 W1
    k_steps
    refine Stop.mk ?_
    (with_reducible rename Fr _ _ _ _ => F1); (with_reducible rename News _ _ _ _ => N1); (with_reducible rename WB _ _ _ _ _ _ _ => W1); (with_reducible rename Frag.In _ _ => X)
    refine w_pop_ns (s := ⟨_, _, _, _, _⟩) (n1 := n1) (e1 := 0) F1 News.nil W1 XB TB (f4.trans d2) (by omega) fun g5 h5 F5 N5 X5 T5 W5 v => ?_
    dsimp only
    clear F1 N1 W1
    k_steps
    (with_reducible rename Fr _ _ _ _ => F1); (with_reducible rename News _ _ _ _ => N1); (with_reducible rename WB _ _ _ _ _ _ _ => W1); (with_reducible rename Frag.In _ _ => X)
    refine ret _ _ _ (by assumption) hg7 ?_
    have e0 : c.endd tag = ((((c.flush.sParts (c.flush.parts ++ [Str.ofString "</" ++ tag ++ Str.ofString ">"])).sPn k1).sEs es1).sNn n1) := by
      unfold WX.endd
      rw [if_pos i0, d1, d2, d3, List.dropLast_concat]; rfl
    rw [e0]; exact W1.end_ F1
end Mine
end
theorem Mine.V7_w0 : True := by
  k_with_none
  trivial
section
open PySem PySem.W PySem.Calls PyProof.Rows
set_option maxRecDepth 100000
set_option maxHeartbeats 8000000
set_option linter.all false
namespace Mine
section
variable {g h h' g9 : Heap} {L : Addr} {m : Str → Option Value} {news tail : Led}
theorem fr_hide2 {as : List Addr} (F : Fr g L h m) : Fr (hideAll g as) L h m :=
  ⟨F.ns, fun b o e => F.keep b o (of_hideAll _ e), Nat.le_trans (Nat.le_of_eq (hideAll_size _ _)) F.above⟩
theorem news_hide2 (F : Fr g L h m) (N : News g L h news) (ht : ∀ p ∈ tail, g.get? p.1 = some p.2) : News (hideAll g (tail.map (·.1))) L h (news ++ tail) := fun p hp => by
  rcases List.mem_append.mp hp with hp | hp
  · refine ⟨(N p hp).1, (N p hp).2.1, ?_⟩
    cases q : (hideAll g (tail.map (·.1))).get? p.1 with
    | none => rfl
    | some o => have := of_hideAll _ q; rw [(N p hp).2.2] at this; cases this
  · refine ⟨F.keep _ _ (ht p hp), fun q => ?_, hideAll_none _ (List.mem_map_of_mem hp)⟩
    have := Heap.lt_size (ht p hp)
    rw [q] at this
    exact Nat.lt_irrefl _ (Nat.lt_of_lt_of_le this F.above)
end
noncomputable def Own (P : WP) (b : Addr) : Prop := ∃ i, i < 12 ∧ adr P i = b
theorem Mut.own {P : WP} {b : Addr} (h : Mut P b) : Own P b := let ⟨i, _, a, e⟩ := h; ⟨i, a, e⟩
/-- the table of the lambda's code and what it names -/
noncomputable def TabH (B : Heap) (P : WP) (pt : Array Value) (h : Heap) : Prop := ∃ rest : Led, TabW pt rest ∧ ∀ p ∈ rest, h.get? p.1 = some p.2 ∧ ¬ Own P p.1 ∧ B.get? p.1 = none ∧ ∃ vs, p.2.data = .fields vs
section
variable {w : World} {B h0 g g1 h h' : Heap} {P : WP} {c c' : WX} {L : Addr} {m : Str → Option Value} {news rest : Led} {pt : Array Value}
theorem TabH.moves (x : TabH B P pt h) (k : Moves P h h') : TabH B P pt h' := let ⟨rest, a, b⟩ := x; ⟨rest, a, fun p hp => ⟨k _ _ (fun q => (b p hp).2.1 q.own) (b p hp).1, (b p hp).2⟩⟩
theorem mut142 : Mut P 142 := ⟨11, by decide, by decide, rfl⟩
theorem TabW.min (h : TabW pt rest) : ∃ r : Led, TabW pt r ∧ (∀ p ∈ r, p ∈ rest) ∧ ∀ p ∈ r, ∃ vs, p.2.data = .fields vs := by
  rcases h with h | ⟨c', oc, vs, t, e, hm, hd, hv⟩
  · exact ⟨[], .inl h, (fun _ h => nomatch h), fun _ h => nomatch h⟩
  · refine ⟨[(c', oc)], .inr ⟨c', oc, vs, t, e, .head _, hd, hv⟩, fun p hp => ?_, fun p hp => ?_⟩
    · rw [List.mem_singleton.mp hp]; exact hm
    · rw [List.mem_singleton.mp hp]; exact ⟨vs, hd⟩
/-- the table handed to the ledger -/
theorem tab_in (F : Fr h L h' m) (N : News h L h' news) (W : WB 12 w B P c h h) (x : TabH B P c.pt h) : ∃ g1 rest, TabW c.pt rest ∧ OwnOff rest [142] ∧ Fr g1 L h' m ∧ News g1 L h' (news ++ (142, tabObj c.pt) :: rest) ∧ WB 11 w B P c g1 g1 ∧
    (∀ b o, b ≠ 142 → (∀ p ∈ rest, p.1 ≠ b) → h.get? b = some o → g1.get? b = some o) ∧ (∀ p ∈ rest, h.get? p.1 = some p.2) ∧ (∀ b o, (∀ vs, o.data ≠ .fields vs) → h.get? b = some o → g1.get? b = some o) ∧ ∀ p ∈ rest, ∃ vs, p.2.data = .fields vs := by
  obtain ⟨rest, hT, hr⟩ := x
  obtain ⟨_, rfl, e⟩ := W.at_ 11 (by decide)
  have ht : ∀ p ∈ (142, tabObj c.pt) :: rest, h.get? p.1 = some p.2 := fun p hp => by
    rcases List.mem_cons.mp hp with rfl | hp
    · exact e
    · exact (hr p hp).1
  have keep : ∀ b o, b ≠ 142 → (∀ p ∈ rest, p.1 ≠ b) → h.get? b = some o → (hideAll h (((142, tabObj c.pt) :: rest).map (·.1))).get? b = some o := fun b o h1 h2 q => hideAll_get _ q fun z => by
    rcases List.mem_cons.mp z with z | z
    · exact h1 z
    · obtain ⟨p, hp, z⟩ := List.mem_map.mp z; exact h2 p hp z
  refine ⟨_, rest, hT, fun p hp b hb q => ?_, fr_hide2 F, news_hide2 (tail := (142, tabObj c.pt) :: rest) F N ht, ⟨fun b o q => keep b o (fun z => ?_) (fun p hp z => ?_) (W.base _ _ q), W.new, W.inj, Nat.le_refl _, by decide, fun i hi => ?_, Moves.refl⟩, keep, fun p hp => (hr p hp).1, fun b o h1 q => keep b o (fun z => ?_) (fun p hp z => ?_) q, fun p hp => (hr p hp).2.2.2⟩
  · rw [List.mem_singleton.mp hb] at q
    exact (hr p hp).2.1 (q ▸ mut142.own)
  · have := W.new 11 (by decide); rw [show adr P 11 = 142 from rfl, ← z, q] at this; cases this
  · have := (hr p hp).2.2.1; rw [z, q] at this; cases this
  · obtain ⟨o, a, q⟩ := W.at_ i (Nat.lt_succ_of_lt hi)
    refine ⟨o, a, keep _ _ (fun z => ?_) (fun p hp z => ?_) q⟩
    · have := W.inj i 11 (Nat.lt_succ_of_lt hi) (by decide) z
      rw [this] at hi; exact absurd hi (by decide)
    · exact (hr p hp).2.1 ⟨i, Nat.lt_succ_of_lt hi, z.symm⟩
  · rw [z] at q; rw [show adr P 11 = 142 from rfl] at e; rw [e] at q; cases q; exact h1 _ rfl
  · have := (hr p hp).1; rw [z, q] at this; cases this
    obtain ⟨vs, k⟩ := (hr p hp).2.2.2; exact h1 vs k
/-- and back -/
theorem tab_out {g9 h9 : Heap} {m9 : Str → Option Value} {news9 rest2 : Led} {pt2 : Array Value} (keep : ∀ b o, b ≠ 142 → (∀ p ∈ rest, p.1 ≠ b) → h.get? b = some o → g1.get? b = some o) (hold : ∀ p ∈ rest, h.get? p.1 = some p.2)
    (W : WB 11 w B P c' g1 g9) (F : Fr g9 L h9 m9) (N : News g9 L h9 news9) (ht : (142, tabObj pt2) ∈ news9) (hr : ∀ p ∈ rest2, p ∈ news9) (hs : ∀ p ∈ rest, p ∈ news9) (hT : TabW pt2 rest2) (off : OwnOff rest2 [142]) :
    WB 12 w B P (c'.sPt pt2) h h9 ∧ TabH B P pt2 h9 := by
  obtain ⟨rest2, hT, hr, off, hf⟩ : ∃ r : Led, TabW pt2 r ∧ (∀ p ∈ r, p ∈ news9) ∧ OwnOff r [142] ∧ ∀ p ∈ r, ∃ vs, p.2.data = .fields vs := by
    obtain ⟨r, a, b, d⟩ := hT.min
    exact ⟨r, a, fun p hp => hr p (b p hp), fun p hp => off p (b p hp), d⟩
  have notMut : ∀ p ∈ rest2, ¬ Own P p.1 := fun p hp ⟨i, h12, q⟩ => by
    by_cases h11 : i = 11
    · subst h11; exact off p hp 142 (List.mem_singleton.mpr rfl) q.symm
    · obtain ⟨o, _, e⟩ := W.at_ i (Nat.lt_of_le_of_ne (Nat.le_of_lt_succ h12) h11)
      rw [q, (N p (hr p hp)).2.2] at e; cases e
  refine ⟨⟨fun b o e => F.keep _ _ (W.base _ _ e), W.new, W.inj, by decide, by decide, fun i hi => ?_, fun b o nm e => ?_⟩, rest2, hT, fun p hp => ⟨(N p (hr p hp)).1, notMut p hp, ?_, hf p hp⟩⟩
  · by_cases h11 : i = 11
    · subst h11; exact ⟨_, rfl, (N _ ht).1⟩
    · have hi' : i < 11 := Nat.lt_of_le_of_ne (Nat.le_of_lt_succ hi) h11
      obtain ⟨o, a, e⟩ := W.at_ i hi'
      exact ⟨o, so_other (c := c') (c' := c'.sPt pt2) (j := 11) (.inr ⟨rfl, rfl⟩) (.inr rfl) (.inr rfl) (.inr rfl) (.inr rfl) (.inr rfl) (.inl rfl) i hi h11 o a, F.keep _ _ e⟩
  · by_cases q : ∃ p ∈ rest, p.1 = b
    · obtain ⟨p, hp, rfl⟩ := q
      rw [hold p hp] at e; cases e
      exact (N p (hs p hp)).1
    · exact F.keep _ _ (W.moves b o nm (keep b o (fun z => nm (z ▸ mut142)) (fun p hp z => q ⟨p, hp, z⟩) e))
  · cases q : B.get? p.1 with
    | none => rfl
    | some o => have := W.base _ _ q; rw [(N p (hr p hp)).2.2] at this; cases this
end
end Mine
end
section
open PySem PySem.W PySem.Calls PyProof.Rows
set_option maxRecDepth 100000
set_option maxHeartbeats 8000000
set_option linter.all false
namespace Mine
theorem V8_words : True := by
  k_with_none
  k_with "getAttr ref" => ((with_reducible rename Fr _ _ _ _ => wF); (with_reducible rename WB _ _ _ _ _ _ _ => wW); (with_reducible rename Frag.In _ _ => wX); first | with_reducible refine w_get_data wF wX wW ?_ | with_reducible refine w_get_strip_text wF wX wW ?_ | with_reducible refine w_get_exclude_attrs wF wX wW ?_ | with_reducible refine w_get_exclude_tags wF wX wW ?_ | with_reducible refine w_get_rewrite_prefixes wF wX wW ?_ | with_reducible refine w_get_qname_aware_tags wF wX wW ?_ | with_reducible refine w_get_find_qname_aware_attrs wF wX wW ?_ | with_reducible refine w_get_declared_ns_stack wF wX wW ?_ | with_reducible refine w_get_ns_stack wF wX wW ?_ | with_reducible refine w_get_preserve_space wF wX wW ?_ | with_reducible refine w_get_pending_start wF wX wW ?_ | with_reducible refine w_get_root_seen wF wX wW ?_ | with_reducible refine w_get_write wF wX wW ?_ | (with_reducible refine w_get_ignored_depth wF wX wW ?_; intro wt))
  k_with "getMethod ref" => ((with_reducible rename Fr _ _ _ _ => wF); (with_reducible rename WB _ _ _ _ _ _ _ => wW); (with_reducible rename Frag.In _ _ => wX); first | with_reducible refine w_m_write wF wX wW ?_ | with_reducible refine w_m_flush wF wX wW ?_ | with_reducible refine w_m_start wF wX wW ?_ | with_reducible refine w_m_qname wF wX wW ?_ | with_reducible refine w_m_iter_namespaces wF wX wW ?_)
  k_with "getMethod ref" => ((with_reducible show wpAny _ _ (getMethod (Value.ref _) (Str.ofString "append") _) _ _ _); (with_reducible rename Fr _ _ _ _ => wF); (with_reducible rename WB _ _ _ _ _ _ _ => wW); first | refine w_lmeth 6 (by decide) wF wW PySem.F.slot_list_append PySem.F.type_list_append ?_ | refine w_lmeth 7 (by decide) wF wW PySem.F.slot_list_append PySem.F.type_list_append ?_ | refine w_lmeth 8 (by decide) wF wW PySem.F.slot_list_append PySem.F.type_list_append ?_ | refine w_lmeth 9 (by decide) wF wW PySem.F.slot_list_append PySem.F.type_list_append ?_)
  k_with "getMethod ref" => ((with_reducible show wpAny _ _ (getMethod (Value.ref _) (Str.ofString "pop") _) _ _ _); (with_reducible rename Fr _ _ _ _ => wF); (with_reducible rename WB _ _ _ _ _ _ _ => wW); first | refine w_lmeth 7 (by decide) wF wW PySem.F.slot_list_pop PySem.F.type_list_pop ?_ | refine w_lmeth 8 (by decide) wF wW PySem.F.slot_list_pop PySem.F.type_list_pop ?_ | refine w_lmeth 9 (by decide) wF wW PySem.F.slot_list_pop PySem.F.type_list_pop ?_)
  k_with "call builtin:list.append" => ((with_reducible refine Stop.out ?_))
  k_with "call builtin:list.pop" => ((with_reducible refine Stop.out ?_))
  k_with "call builtin:len" => ((with_reducible refine Stop.out ?_))
  k_with "setAttr ref" => ((with_reducible refine Stop.out ?_))
  k_with "truthy ref" => ((with_reducible refine Stop.out ?_))
  k_with "call ref" => ((with_reducible refine Stop.out ?_))
  k_with "And" => ((with_reducible show Heap.get? _ _ = _ ∧ _); (with_reducible refine Stop.out ?_))
  k_with "storeName" => (k_here; k_dflt (refine' st_put ?F ?N ?_ ?a ?b; (case F => k_asm); (case N => k_asm); (case a => rfl); (case b => rfl); k_whole; intro h' F' N'; (try k_sweep)))
  k_with "execs cons" => (k_here; first | with_reducible refine then_one ?_ | ((with_reducible refine then_cons ?hn ?_); (case hn => first | assumption | (dsimp only; omega))))
  k_with "Then" => (first | ((with_reducible refine then_next ?_); intro tk9 htk9; (try dsimp only)) | with_reducible refine then_ret ?_)
  k_with "exec Assign cons DictComp" => ((with_reducible refine Stop.out ?_))
  k_with "call builtin:sorted" => ((with_reducible refine Stop.out ?_))
  k_with "getAttr ref" => ((with_reducible show wpAny _ _ (getAttr _ (Str.ofString "_qname") _) _ _ _); (with_reducible refine Stop.out ?_))
  k_with "storeName" => ((with_reducible show wpAny _ _ (storeName _ (Str.ofString "parse_qname") _) _ _ _); (with_reducible refine Stop.out ?_))
  k_with "And" => ((with_reducible show MethP _ _ _ _ _ ∧ _); k_dflt (refine ⟨by k_meth, ?_⟩); (try dsimp only [List.nil_append, List.cons_append]))
  trivial
/-- the writer when an element has begun -/
noncomputable def WX.startd (c : WX) (tag : Str) (pt : Array Value) : WX := (((((c.sPn (c.pn + 1)).sParts (c.parts ++ [Str.ofString "<" ++ tag] ++ [Str.ofString ">"])).sSeen true).sNn (c.nn + 1)).sPt pt)
theorem off_c2 {L : Nat} {o2 : Obj} {l : Led} (h : ∀ p ∈ l, @LT.lt Nat _ p.1 L) : ∀ p ∈ ((L + 1 : Nat), o2) :: l, p.1 ≠ L + 1 + 1 := fun p hp => by
  rcases List.mem_cons.mp hp with rfl | hp
  · exact Nat.ne_of_lt (Nat.lt_succ_self _)
  · exact Nat.ne_of_lt (Nat.lt_succ_of_lt (Nat.lt_succ_of_lt (h p hp)))
theorem wsstart_spec (w : World) (loose : List Str) (mean : ExcName → Option Value) (mg mb : Str → Option Value) (A : Around) (s : Shared) (Q E : Value → Shared → Prop) (B : Heap) (P : WP) (c : WX) (tag : Str) (u : Tok) (e ad : Nat) (oA : Obj) :
    Room 40 320 A → (Mine.hd0.heap_1_1 w.params).In B → Top topProg loose mean mg mb B → WB 12 w B P c s.heap s.heap → 1 ≤ s.toks → (ESt P c.es s.heap) → (c.es.length ≤ 900 ∧ c.nn ≤ 900 ∧ c.pn ≤ 900 ∧ 1 ≤ c.pn ∧ c.parts.length ≤ 800) → (Txt.slice tag none (some 1) ≠ Str.ofString "{") → (tag.length = 1) → (∃ ep, s.heap.get? e = some (listOf #[] ep)) → (s.heap.get? ad = some oA ∧ oA.IsDictOf (strKind PySem.Challenge.rw_if0001_01.row.prog w) [] ∧ (ad == sysModules) = false) → (TabH B P c.pt s.heap) →
    (∀ h' tk G2 pt2, 1 ≤ tk → Grown s.gens G2 → WB 12 w B P (c.startd tag pt2) s.heap h' → TabH B P pt2 h' → Q .none ⟨h', G2, s.drawn, tk, s.os⟩) →
    wpAny (model PySem.Challenge.rw_if0001_01.row.prog w) A (call (.ref 145) [.ref P.x, .str tag u, .ref ad, .ref e]) Q E s := by
  k_fill
  intro RR XB TB W htk0 z0 z1 z2 z3 z4 z5 z6 ret
  obtain ⟨hh, dp, fr, gd, un⟩ := A
  obtain ⟨hA, hdp, hun⟩ := RR
  cases hA
  dsimp only at hdp hun
  have X := XB.keeps W.base
  have T := TB.keeps W.base
  refine wpAny_with_toks (n := 1) htk0 ?_
  refine' pcallC (binds := [(Str.ofString "self", .ref P.x), (Str.ofString "tag", .str tag u), (Str.ofString "attrs", .ref ad), (Str.ofString "new_namespaces", .ref e), (Str.ofString "qname_text", .none)]) X T ?hd ?ho ?hcd ?hb ?hkd ?hnd ?h1 ?h2 ?h3 ?_
  (case ho => k_is)
  (case hcd => k_is)
  (case hd => (show dp < 1000; exact Nat.lt_of_le_of_lt (Nat.le_add_right _ _) (Nat.lt_trans hdp (by decide))))
  (case hb => first | exact BindsTo.of_eq rfl | exact binds_K X rfl (by k_is) rfl rfl rfl)
  (case hkd => exact rfl)
  (case hnd => decide +kernel)
  (case h1 => exact rfl)
  (case h2 => exact rfl)
  (case h3 => exact rfl)
  k_whole
  intro L' h' tk0 cells0 F' N' Y0
  k_cells Y0
  (try dsimp only)
  (try k_fold)
  refine (let ev : Env := _; let ae : Around := _; (?_ : wpAny _ ae (execs _ ev) _ _ _))
  rename_i o1 o2 d1 d2
  replace d1 : o1.data = .cell none := d1
  replace d2 : o2.data = .cell (some (.ref P.x)) := d2
  replace F' : Fr s.heap L' h' (put (put (put (put (fun _ => none) (Str.ofString "tag") (.str tag u)) (Str.ofString "attrs") (.ref ad)) (Str.ofString "new_namespaces") (.ref e)) (Str.ofString "qname_text") .none) := F'
  obtain ⟨g1, rest, hT, hoff, F1, N1, W1, keep, hold, keepD, hfl⟩ := tab_in F' N' W z6
  have hab : s.heap.objs.size ≤ L' := F'.above
  have hlo : ∀ p ∈ (142, tabObj c.pt) :: rest, s.heap.get? p.1 = some p.2 := fun p hp => by
    rcases List.mem_cons.mp hp with rfl | hp
    · obtain ⟨_, rfl, q⟩ := W.at_ 11 (by decide); exact q
    · exact hold p hp
  clear F' N' X T
  simp only [List.cons_append, List.nil_append] at N1
  have X := XB.keeps W1.base
  have T := TB.keeps W1.base
  obtain ⟨y1, y2, y3⟩ := z5
  have eA : g1.get? ad = some oA := keepD _ _ (fun vs q => by obtain ⟨a, b, k, q2, _⟩ := y2; rw [q] at q2; cases q2) y1
  obtain ⟨ep, eE⟩ : ∃ ep, g1.get? e = some (listOf #[] ep) := z4.imp fun ep q => keepD _ _ (fun vs k => by cases k) q
  k_steps
  (with_reducible rename Fr _ _ _ _ => F1); (with_reducible rename News _ _ _ _ => N1); (with_reducible rename WB _ _ _ _ _ _ _ => W1); (with_reducible rename Frag.In _ _ => X)
  refine' set_star (x := tag) (t := u) (d := ad) (oD := oA) F1 N1 X ?c rfl eA y2 y3 rfl ?q1 ?q2 ?_
  case c => first | k_is | kernel_rfl!
  case q1 => (intro h' tk' F' N'; k_steps)
  case q2 => (intro h' tk' F' N'; k_steps)
  intro dS h9 tk9 F9 N9 l9
  clear F1 N1
  k_steps
  refine Stop.mk ?_
  (with_reducible rename Fr _ _ _ _ => F1); (with_reducible rename News _ _ _ _ => N1); (with_reducible rename WB _ _ _ _ _ _ _ => W1); (with_reducible rename Frag.In _ _ => X)
  replace N1 : News g1 L' _ ((dS, _) :: (L' + 1 + 1, o1) :: (L' + 1, o2) :: (142, tabObj c.pt) :: rest) := fun p hp => N1 p (.tail _ hp)
  have lo : ∀ p ∈ (142, tabObj c.pt) :: rest, p.1 < L' := fun p hp => Nat.lt_of_lt_of_le (Heap.lt_size (hlo p hp)) hab
  refine w_bound (s := ⟨_, _, _, _, _⟩) F1 N1 X W1 fun q h2 F2 N2 lq => ?_
  clear F1 N1
  k_steps
  refine Stop.mk ?_
  (with_reducible rename Fr _ _ _ _ => F1); (with_reducible rename News _ _ _ _ => N1); (with_reducible rename WB _ _ _ _ _ _ _ => W1); (with_reducible rename Frag.In _ _ => X)
  refine storeX_C (s := ⟨_, _, _, _, _⟩) F1 N1 (by rfl) (.tail (Nat.ne_of_gt (lq _ (.tail _ (.head _)))) (.tail (Nat.ne_of_gt (l9 _ (.head _))) (.head (off_c2 lo)))) d1 (fun h3 o3 F3 N3 d3 => ?_) (by rfl) (by rfl)
  dsimp only at N3
  clear F1 N1 d1
  k_steps
  refine Stop.mk ?_
  (with_reducible rename Fr _ _ _ _ => F1); (with_reducible rename News _ _ _ _ => N1); (with_reducible rename WB _ _ _ _ _ _ _ => W1); (with_reducible rename Frag.In _ _ => X)
  refine' Assign_DictComp_one F1 ?hsw ?hL (Top.nolimit T) ?hclos ?hcell ?hkind ?hnames ?hx ?hy ?hp ?_ ?hs
  (case hsw => with_unfolding_all rfl)
  (case hL => with_unfolding_all rfl)
  (case hclos => with_unfolding_all rfl)
  (case hcell => decide)
  (case hkind => with_unfolding_all rfl)
  (case hnames => decide)
  (case hx => with_unfolding_all rfl)
  (case hy => with_unfolding_all rfl)
  (case hp => with_unfolding_all rfl)
  (case hs => intro _; with_unfolding_all rfl)
  k_steps
  have C0 : CodeHd g1 144 142 := codeHd_of_K X (by kernel_rfl)
  have h142 : @LT.lt Nat _ 142 L' := lo _ (.head _)
  refine' lam_make (c := 144) (P := 142) (front := [_, _, _, _]) (rest := rest) F1 N1 T C0 rfl ?n1 (fun p hp => hoff p hp 142 (List.mem_singleton.mpr rfl)) hT rfl rfl ?_
  case n1 =>
    intro p hp
    rcases List.mem_cons.mp hp with rfl | hp
    · exact Nat.ne_of_gt (lq _ (.tail _ (.tail _ (.tail _ (.head _)))))
    rcases List.mem_cons.mp hp with rfl | hp
    · exact Nat.ne_of_gt (l9 _ (.tail _ (.tail _ (.head _))))
    rcases List.mem_cons.mp hp with rfl | hp
    · exact Nat.ne_of_gt (Nat.lt_succ_of_lt (Nat.lt_succ_of_lt h142))
    · rw [List.mem_singleton.mp hp]; exact Nat.ne_of_gt (Nat.lt_succ_of_lt h142)
  clear C0 lo lq l9
  intro fL c2 oc2 vs2 t2 ct2 ps2 rest2 h3 tk3 F3 N3 hc3 hd3 hv3 hT3 hsub l3 l4
  have off2 : OwnOff rest2 [142] := fun p hp b hb => by
    rw [List.mem_singleton.mp hb]
    rcases l3 p hp with hq | hq
    · exact hoff p hq 142 (List.mem_singleton.mpr rfl)
    · exact Nat.ne_of_gt (hq (142, tabObj c.pt) (List.mem_append_right _ (.head _)))
  simp only [List.cons_append, List.nil_append] at N3
  replace hT3 : TabW ps2 rest2 := hT3
  clear F1 N1 l3 l4
  k_steps
  refine Stop.mk ?_
  show wpAny _ _ (call (.builtin "sorted") [.ref dS] [(Str.ofString "key", .ref fL)]) _ _ _
  refine sorted_set_one (s := ⟨_, _, _, _, _⟩) (x := tag) (t := u) rfl F3 N3 (N3 (dS, setObj1 ((strKind PySem.Challenge.rw_if0001_01.row.prog w).hash tag) tag u (!byTxt w)) (by k_mem)).1 ?turn ?_
  case turn =>
    intro h tk own F' N'
    refine' lam_call (binds := [(Str.ofString "n", .str tag u)]) F' N' X T ?room (List.mem_append_left _ (.head _)) ?hc hd3 hv3 rfl (locs rfl) (by decide) rfl rfl rfl ?_
    (case room => (show dp + 1 < 1000; omega))
    (case hc => refine List.mem_append_left _ ?_; (repeat (first | exact hc3 | apply List.mem_cons_of_mem)))
    intro g3 L3 h3 X3 T3 F9 N9 l9 lv3
    clear F' N' F3 N3 X T
    k_steps
    (with_reducible rename Fr _ _ _ _ => F7)
    (with_reducible rename News _ _ _ _ => N7)
    obtain ⟨F6, N6⟩ := lv3 _ _ _ F7 N7
    exact ⟨_, _, rfl, F6, fun p hp => N6 p (by first | exact hp | exact List.mem_cons_of_mem _ hp)⟩
  intro D9 h9 tk9 c9 F9 N9 l9
  clear F3 N3
  refine ⟨D9, c9, tag, u, _, rfl, rfl, F9, N9, .head _, ?_⟩
  intro I oI C oC D oD m2 h' tk' E' hoI hoD hC hm2 F8 N8 o3 ne
  clear F9 N9
  refine ⟨?key, ?val⟩
  case key => k_steps
  clear hc3 hd3 hv3 l9
  k_steps
  refine Stop.mk ?_
  (with_reducible rename Fr _ _ _ _ => F1); (with_reducible rename News _ _ _ _ => N1); (with_reducible rename WB _ _ _ _ _ _ _ => W1); (with_reducible rename Frag.In _ _ => X)
  have l8 := o3.mem
  refine call_meth N1 (by k_mem) ?_
  refine' wqname_code w loose mean mg mb _ ⟨_, _, _, _, _⟩ _ _ B P c tag u ?RQ XB TB (W1.now F1) ?SQ (by omega) z2 z3 ?_
  case RQ => exact ⟨rfl, Nat.lt_of_le_of_lt (by show dp + 1 + 10 ≤ dp + 40; exact le3 (by decide)) hdp, Nat.lt_of_le_of_lt (by show un + _ + 80 ≤ un + 320; exact le3 (by decide)) hun⟩
  case SQ => exact fun e he => (z0 e he).2.imp fun ep hp => F1.keep _ _ (keepD _ _ (fun vs q => by cases q) hp)
  intro h7' tk7 G7 TT u7 hg7 hk7 n7 e7
  have F5 := fr_stay F1 hk7
  have N5 := news_swap3 (news_new F1 N1 hk7 n7 e7)
  clear F1 N1 hk7 n7 e7
  unfold tupObj at N5
  have zT := (N5 (TT, _) (by k_mem)).1
  refine ⟨h7', tk7, G7, _, rfl, F5, N5, ⟨⟨?nI, ?nC, ?nD⟩, o3⟩, .tail _ (.head _), ?_⟩
  case nI => exact ne_of_cls zT (N5 (I, oI) (by k_mem)).1 (by rw [hoI]; exact fun q => by injection q with q; exact absurd q (by decide))
  case nC => exact ne_of_ns zT (N5 (C, oC) (by k_mem)).1 rfl hC
  case nD => exact ne_of_cls zT (N5 (D, oD) (by k_mem)).1 (by rw [hoD]; exact fun q => by injection q with q; exact absurd q (by decide))
  intro h3' tk3' oD' F10 N10 hD' o1' loD
  replace N10 : News g1 L' h3' ((D, oD') :: (TT, _) :: (L' + 1, o2) :: (142, tabObj ps2) :: rest2) := fun p hp => N10 p (by
    rcases List.mem_cons.mp hp with rfl | hp
    · exact .head _
    rcases List.mem_cons.mp hp with rfl | hp
    · exact .tail _ (.head _)
    · exact .tail _ (.tail _ (.tail _ (.tail _ (.tail _ (.tail _ (.tail _ hp)))))))
  clear zT F5 N5 o3 l8 o1' hoI hoD hC hm2 ne
  intro htk3
  dsimp only at htk3
  have X := XB.keeps W1.base
  k_steps
  refine Stop.mk ?_
  (with_reducible rename Fr _ _ _ _ => F1); (with_reducible rename News _ _ _ _ => N1); (with_reducible rename WB _ _ _ _ _ _ _ => W1); (with_reducible rename Frag.In _ _ => X)
  refine wpAny_truthy_list (s := ⟨_, _, _, _, _⟩) (items := #[]) ⟨_, F1.keep _ _ eE, rfl, _, rfl⟩ (by decide) ?_
  rw [show (!(#[] : Array Value).isEmpty) = false from rfl]
  k_steps
  refine Stop.mk ?_
  (with_reducible rename Fr _ _ _ _ => F1); (with_reducible rename News _ _ _ _ => N1); (with_reducible rename WB _ _ _ _ _ _ _ => W1); (with_reducible rename Frag.In _ _ => X)
  refine wpAny_truthy_dict (s := ⟨_, _, _, _, _⟩) (knd := strKind PySem.Challenge.rw_if0001_01.row.prog w) (kvs := []) y3 (Heap.dictOf_iff.mpr ⟨oA, F1.keep _ _ eA, y2⟩) (by decide) ?_
  rw [show (!([] : List (Str × Value)).isEmpty) = false from rfl]
  k_steps
  (with_reducible rename Fr _ _ _ _ => F1); (with_reducible rename News _ _ _ _ => N1); (with_reducible rename WB _ _ _ _ _ _ _ => W1); (with_reducible rename Frag.In _ _ => X)
  refine kdg_method (s := ⟨_, _, _, _, _⟩) (o := oA) (knd := strKind PySem.Challenge.rw_if0001_01.row.prog w) (lend F1 N1 eA).2 (.head _) y2 ?_
  k_steps
  refine kdg_get1 (s := ⟨_, _, _, _, _⟩) (o := oA) (knd := strKind PySem.Challenge.rw_if0001_01.row.prog w) (lend F1 N1 eA).2 (.head _) y2 y3 (strKind_is _ _ _ _) none rfl ?_
  rw [show (none : Option Value).getD Value.none = Value.none from rfl]
  k_steps
  (with_reducible rename Fr _ _ _ _ => F1); (with_reducible rename News _ _ _ _ => N1); (with_reducible rename WB _ _ _ _ _ _ _ => W1); (with_reducible rename Frag.In _ _ => X)
  refine w_last_ps (s := ⟨_, _, _, _, _⟩) F1 W1 z1.2.2.2.1 z1.2.2.1 (fun pv => ?_) (by with_unfolding_all rfl)
  k_steps
  refine Stop.mk ?_
  (with_reducible rename Fr _ _ _ _ => F1); (with_reducible rename News _ _ _ _ => N1); (with_reducible rename WB _ _ _ _ _ _ _ => W1); (with_reducible rename Frag.In _ _ => X)
  refine w_app_ps (s := ⟨_, _, _, _, _⟩) F1 N1 W1 XB TB z1.2.2.1 fun g2 h2 F2 N2 X2 T2 W2 => ?_
  dsimp only
  clear F1 N1 W1
  k_steps
  refine callWith_bo1 (id := "list.append") (v := .ref P.lp) ?_ (by rfl)
  k_steps
  (with_reducible rename Fr _ _ _ _ => F1); (with_reducible rename News _ _ _ _ => N1); (with_reducible rename WB _ _ _ _ _ _ _ => W1); (with_reducible rename Frag.In _ _ => X)
  refine item_dict1 (s := ⟨_, _, _, _, _⟩) (v := .ref TT) (Heap.dictOf_iff.mpr ⟨oD', (N1 (D, oD') (by k_mem)).1, hD'⟩) ?_
  k_steps
  refine Stop.mk ?_
  (with_reducible rename Fr _ _ _ _ => F1); (with_reducible rename News _ _ _ _ => N1); (with_reducible rename WB _ _ _ _ _ _ _ => W1); (with_reducible rename Frag.In _ _ => X)
  refine ⟨w_write_at (s := ⟨_, _, _, _, _⟩) F1 W1, ?_⟩
  refine w_write (s := ⟨_, _, _, _, _⟩) F1 N1 W1 XB TB (Nat.le_trans z1.2.2.2.2 (by decide)) fun g3 h3 F2 N2 X2 T2 W2 => ?_
  dsimp only
  clear F1 N1 W1
  k_steps
  refine Stop.mk ?_
  (with_reducible rename Fr _ _ _ _ => F1); (with_reducible rename News _ _ _ _ => N1); (with_reducible rename WB _ _ _ _ _ _ _ => W1); (with_reducible rename Frag.In _ _ => X)
  refine wpAny_truthy_list (s := ⟨_, _, _, _, _⟩) (isList_N (s := ⟨_, _, _, _, _⟩) (vs := []) N1 (by k_mem)) (by decide) ?_
  rw [show (!([] : List Value).toArray.isEmpty) = false from rfl]
  k_steps
  refine callWith_bo1 (id := "list.append") (v := .ref P.lp) ?_ (by rfl)
  k_steps
  refine Stop.mk ?_
  (with_reducible rename Fr _ _ _ _ => F1); (with_reducible rename News _ _ _ _ => N1); (with_reducible rename WB _ _ _ _ _ _ _ => W1); (with_reducible rename Frag.In _ _ => X)
  refine ⟨w_write_at (s := ⟨_, _, _, _, _⟩) F1 W1, ?_⟩
  refine w_write (s := ⟨_, _, _, _, _⟩) F1 N1 W1 XB TB (by show (c.parts ++ [_]).length ≤ 900; rw [List.length_append]; exact Nat.le_trans (Nat.add_le_add_right z1.2.2.2.2 1) (by decide)) fun g3 h3 F2 N2 X2 T2 W2 => ?_
  dsimp only
  clear F1 N1 W1
  k_steps
  refine Stop.mk ?_
  (with_reducible rename Fr _ _ _ _ => F1); (with_reducible rename News _ _ _ _ => N1); (with_reducible rename WB _ _ _ _ _ _ _ => W1); (with_reducible rename Frag.In _ _ => X)
  refine w_set_seen (s := ⟨_, _, _, _, _⟩) F1 N1 W1 XB TB fun g3 h3 F2 N2 X2 T2 W2 => ?_
  dsimp only
  clear F1 N1 W1
  k_steps
  refine Stop.mk ?_
  (with_reducible rename Fr _ _ _ _ => F1); (with_reducible rename News _ _ _ _ => N1); (with_reducible rename WB _ _ _ _ _ _ _ => W1); (with_reducible rename Frag.In _ _ => X)
  refine w_app_ns (s := ⟨_, _, _, _, _⟩) F1 N1 W1 XB TB z1.2.1 fun g3 h3 F2 N2 X2 T2 W2 => ?_
  dsimp only
  clear F1 N1 W1
  k_steps
  (with_reducible rename Fr _ _ _ _ => F1); (with_reducible rename News _ _ _ _ => N1); (with_reducible rename WB _ _ _ _ _ _ _ => W1); (with_reducible rename Frag.In _ _ => X)
  obtain ⟨WF, HF⟩ := tab_out (pt2 := ps2) (rest2 := rest2) keep hold W1 F1 N1 (by k_mem) (fun p hp => by (repeat (first | exact hp | apply List.mem_cons_of_mem))) (fun p hp => by (have hp := hsub p hp); (repeat (first | exact hp | apply List.mem_cons_of_mem))) hT3 off2
  exact ret _ _ _ ps2 (by assumption) hg7 WF HF
end Mine
end
theorem Mine.V9_w0 : True := by
  k_with_none
  trivial
section
open PySem PySem.W PySem.Calls PyProof.Rows
set_option maxRecDepth 100000
set_option maxHeartbeats 8000000
set_option linter.all false
namespace Mine
theorem V9_words : True := by
  k_with_none
  k_with "getAttr ref" => ((with_reducible rename Fr _ _ _ _ => wF); (with_reducible rename WB _ _ _ _ _ _ _ => wW); (with_reducible rename Frag.In _ _ => wX); first | with_reducible refine w_get_data wF wX wW ?_ | with_reducible refine w_get_strip_text wF wX wW ?_ | with_reducible refine w_get_exclude_attrs wF wX wW ?_ | with_reducible refine w_get_exclude_tags wF wX wW ?_ | with_reducible refine w_get_rewrite_prefixes wF wX wW ?_ | with_reducible refine w_get_qname_aware_tags wF wX wW ?_ | with_reducible refine w_get_find_qname_aware_attrs wF wX wW ?_ | with_reducible refine w_get_declared_ns_stack wF wX wW ?_ | with_reducible refine w_get_ns_stack wF wX wW ?_ | with_reducible refine w_get_preserve_space wF wX wW ?_ | with_reducible refine w_get_pending_start wF wX wW ?_ | with_reducible refine w_get_root_seen wF wX wW ?_ | with_reducible refine w_get_write wF wX wW ?_ | (with_reducible refine w_get_ignored_depth wF wX wW ?_; intro wt))
  k_with "getMethod ref" => ((with_reducible rename Fr _ _ _ _ => wF); (with_reducible rename WB _ _ _ _ _ _ _ => wW); (with_reducible rename Frag.In _ _ => wX); first | with_reducible refine w_m_write wF wX wW ?_ | with_reducible refine w_m_flush wF wX wW ?_ | with_reducible refine w_m_start wF wX wW ?_ | with_reducible refine w_m_qname wF wX wW ?_ | with_reducible refine w_m_iter_namespaces wF wX wW ?_)
  k_with "getMethod ref" => ((with_reducible show wpAny _ _ (getMethod (Value.ref _) (Str.ofString "append") _) _ _ _); (with_reducible rename Fr _ _ _ _ => wF); (with_reducible rename WB _ _ _ _ _ _ _ => wW); first | refine w_lmeth 6 (by decide) wF wW PySem.F.slot_list_append PySem.F.type_list_append ?_ | refine w_lmeth 7 (by decide) wF wW PySem.F.slot_list_append PySem.F.type_list_append ?_ | refine w_lmeth 8 (by decide) wF wW PySem.F.slot_list_append PySem.F.type_list_append ?_ | refine w_lmeth 9 (by decide) wF wW PySem.F.slot_list_append PySem.F.type_list_append ?_)
  k_with "getMethod ref" => ((with_reducible show wpAny _ _ (getMethod (Value.ref _) (Str.ofString "pop") _) _ _ _); (with_reducible rename Fr _ _ _ _ => wF); (with_reducible rename WB _ _ _ _ _ _ _ => wW); first | refine w_lmeth 7 (by decide) wF wW PySem.F.slot_list_pop PySem.F.type_list_pop ?_ | refine w_lmeth 8 (by decide) wF wW PySem.F.slot_list_pop PySem.F.type_list_pop ?_ | refine w_lmeth 9 (by decide) wF wW PySem.F.slot_list_pop PySem.F.type_list_pop ?_)
  k_with "call builtin:list.append" => ((with_reducible refine Stop.out ?_))
  k_with "call builtin:list.pop" => ((with_reducible refine Stop.out ?_))
  k_with "call builtin:len" => ((with_reducible refine Stop.out ?_))
  k_with "setAttr ref" => ((with_reducible refine Stop.out ?_))
  k_with "truthy ref" => ((with_reducible refine Stop.out ?_))
  k_with "call ref" => ((with_reducible refine Stop.out ?_))
  k_with "And" => ((with_reducible show Heap.get? _ _ = _ ∧ _); (with_reducible refine Stop.out ?_))
  k_with "storeName" => (k_here; k_dflt (refine' st_put ?F ?N ?_ ?a ?b; (case F => k_asm); (case N => k_asm); (case a => rfl); (case b => rfl); k_whole; intro h' F' N'; (try k_sweep)))
  k_with "execs cons" => (k_here; first | with_reducible refine then_one ?_ | ((with_reducible refine then_cons ?hn ?_); (case hn => first | assumption | (dsimp only; omega))))
  k_with "Then" => (first | ((with_reducible refine then_next ?_); intro tk9 htk9; (try dsimp only)) | with_reducible refine then_ret ?_)
  k_with "exec If Attribute" => ((with_reducible show wpAny _ _ (exec (Stmt.If (Expr.Attribute _ (Str.ofString "_data") _) _ _ _) _) _ _ _); (with_reducible refine Stop.out ?_))
  k_with "compareOp In str ref" => ((with_reducible refine Stop.out ?_))
  trivial
theorem WB.trans {n : Nat} {w : World} {B h0 h h' : Heap} {P : WP} {c c' : WX} (a : WB n w B P c h0 h) (b : WB n w B P c' h h') : WB n w B P c' h0 h' := ⟨b.base, b.new, b.inj, b.hn, b.hm, b.at_, a.moves.trans b.moves⟩
theorem notMut {w : World} {B h0 g h : Heap} {P : WP} {c : WX} {L : Addr} {news : Led} {p : Addr × Obj} (W : WB 12 w B P c h0 g) (N : News g L h news) (hp : p ∈ news) : ¬ Mut P p.1 := fun ⟨i, _, hi, q⟩ => by
  obtain ⟨o, _, e⟩ := W.at_ i hi
  rw [q, (N p hp).2.2] at e; cases e
theorem ESt.snoc {P : WP} {es : List Nat} {e : Nat} {h : Heap} (x : ESt P es h) (m : ¬ Mut P e) (k : ∃ ep, h.get? e = some (listOf #[] ep)) : ESt P (es ++ [e]) h := fun a ha => (List.mem_append.mp ha).elim (x a) fun q => by rw [List.mem_singleton.mp q]; exact ⟨m, k⟩
/-- the writer when an element is told -/
noncomputable def WX.start (c : WX) (gone tag : Str) (e : Nat) (pt : Array Value) : WX := if c.ig ≠ 0 ∨ tag = gone then c.sIg (c.ig + 1) else ((c.flush.sEs (c.es ++ [e])).startd tag pt)
theorem wstart_spec (w : World) (loose : List Str) (mean : ExcName → Option Value) (mg mb : Str → Option Value) (A : Around) (s : Shared) (Q E : Value → Shared → Prop) (B : Heap) (P : WP) (c : WX) (tag gone : Str) (u : Tok) (ad : Nat) (oA : Obj) :
    Room 60 640 A → (Mine.hd0.heap_1_1 w.params).In B → Top topProg loose mean mg mb B → WB 12 w B P c s.heap s.heap → 1 ≤ s.toks → (ESt P c.es s.heap) → (c.es.length ≤ 800 ∧ c.nn ≤ 800 ∧ c.pn ≤ 800 ∧ 1 ≤ c.pn ∧ c.parts.length ≤ 700 ∧ c.ig ≤ 800) → (Txt.slice tag none (some 1) ≠ Str.ofString "{") → (tag.length = 1) → (Obj.SetObjOf (strKind PySem.Challenge.rw_if0001_01.row.prog w) P.oe (hasOne gone) 1) → (∀ y, c.dat = some y → y.length ≤ 20) → ((s.heap.get? ad = some oA ∧ oA.IsDictOf (strKind PySem.Challenge.rw_if0001_01.row.prog w) [] ∧ (ad == sysModules) = false) ∧ ¬ Mut P ad ∧ TabH B P c.pt s.heap) →
    (∀ h' tk G2 e pt2, 1 ≤ tk → Grown s.gens G2 → WB 12 w B P (c.start gone tag e pt2) s.heap h' → TabH B P (c.start gone tag e pt2).pt h' → ESt P (c.start gone tag e pt2).es h' → (∀ a ∈ (c.start gone tag e pt2).es, a ∈ c.es ∨ s.heap.get? a = none) → Q .none ⟨h', G2, s.drawn, tk, s.os⟩) →
    wpAny (model PySem.Challenge.rw_if0001_01.row.prog w) A (call (.ref 139) [.ref P.x, .str tag u, .ref ad]) Q E s := by
  k_fill
  intro RR XB TB W htk0 z0 z1 z2 z3 z4 z5 z6 ret
  obtain ⟨hh, dp, fr, gd, un⟩ := A
  obtain ⟨hA, hdp, hun⟩ := RR
  cases hA
  dsimp only at hdp hun
  have X := XB.keeps W.base
  have T := TB.keeps W.base
  refine wpAny_with_toks (n := 1) htk0 ?_
  refine' pcallW (binds := [(Str.ofString "self", .ref P.x), (Str.ofString "tag", .str tag u), (Str.ofString "attrs", .ref ad)]) X T ?hd ?ho ?hcd ?hb ?hl ?hc ?h1 ?h2 ?h3 ?_
  (case ho => k_is)
  (case hcd => k_is)
  (case hd => (show dp < 1000; exact Nat.lt_of_le_of_lt (Nat.le_add_right _ _) (Nat.lt_trans hdp (by decide))))
  (case hb => first | exact BindsTo.of_eq rfl | exact binds_K X rfl (by k_is) rfl rfl rfl)
  (case hc => decide)
  (case hl => exact locs rfl)
  (case h1 => exact rfl)
  (case h2 => exact rfl)
  (case h3 => exact rfl)
  k_whole
  intro L' h' F' N'
  (try dsimp only)
  (try k_fold)
  refine (let ev : Env := _; let ae : Around := _; (?_ : wpAny _ ae (execs _ ev) _ _ _))
  k_steps
  ·
    refine Stop.mk ?_
    (with_reducible rename Fr _ _ _ _ => F1); (with_reducible rename News _ _ _ _ => N1); (with_reducible rename WB _ _ _ _ _ _ _ => W1); (with_reducible rename Frag.In _ _ => X)
    have i1 : c.ig ≠ 0 ∨ tag = gone := .inl fun q => absurd (by assumption : ¬ (c.ig : Int) = 0) (fun z => z (by rw [q]; rfl))
    refine w_set_ig (s := ⟨_, _, _, _, _⟩) (k := c.ig + 1) F1 N1 W1 XB TB rfl fun g2 h2 F2 N2 X2 T2 W2 => ?_
    dsimp only
    clear F1 N1 W1
    k_steps
    (with_reducible rename Fr _ _ _ _ => F1); (with_reducible rename News _ _ _ _ => N1); (with_reducible rename WB _ _ _ _ _ _ _ => W1); (with_reducible rename Frag.In _ _ => X)
    have W3 := W1.end_ F1
    refine ret _ _ _ 0 c.pt (by assumption) (Grown.refl _) ?_ ?_ ?_ ?_
    all_goals rw [show c.start gone tag 0 c.pt = c.sIg (c.ig + 1) from if_pos i1]
    exact W3
    exact z6.2.2.moves W3.moves
    exact z0.moves W3.moves
    exact fun a ha => .inl ha
  · refine Stop.mk ?_
    (with_reducible rename Fr _ _ _ _ => F1); (with_reducible rename News _ _ _ _ => N1); (with_reducible rename WB _ _ _ _ _ _ _ => W1); (with_reducible rename Frag.In _ _ => X)
    obtain ⟨_, rfl, eE⟩ := W1.slot 2 (by decide)
    refine kse_in (s := ⟨_, _, _, _, _⟩) (knd := strKind PySem.Challenge.rw_if0001_01.row.prog w) (lend F1 N1 eE).2 (.head (off_base N1 eE)) z4 (by decide) (strKind_is _ _ _ _) rfl ?_
    clear eE
    by_cases hg : tag = gone
    · rw [show hasOne gone tag = true from decide_eq_true hg]
      k_steps
      refine Stop.mk ?_
      (with_reducible rename Fr _ _ _ _ => F1); (with_reducible rename News _ _ _ _ => N1); (with_reducible rename WB _ _ _ _ _ _ _ => W1); (with_reducible rename Frag.In _ _ => X)
      have i1 : c.ig ≠ 0 ∨ tag = gone := .inr hg
      refine w_set_ig (s := ⟨_, _, _, _, _⟩) (k := c.ig + 1) F1 N1 W1 XB TB rfl fun g2 h2 F2 N2 X2 T2 W2 => ?_
      dsimp only
      clear F1 N1 W1
      k_steps
      (with_reducible rename Fr _ _ _ _ => F1); (with_reducible rename News _ _ _ _ => N1); (with_reducible rename WB _ _ _ _ _ _ _ => W1); (with_reducible rename Frag.In _ _ => X)
      have W3 := W1.end_ F1
      refine ret _ _ _ 0 c.pt (by assumption) (Grown.refl _) ?_ ?_ ?_ ?_
      all_goals rw [show c.start gone tag 0 c.pt = c.sIg (c.ig + 1) from if_pos i1]
      exact W3
      exact z6.2.2.moves W3.moves
      exact z0.moves W3.moves
      exact fun a ha => .inl ha
    · rw [show hasOne gone tag = false from decide_eq_false hg]
      k_steps
      refine Stop.mk ?_
      refine wpAny_with_toks (n := 1) (by (try dsimp only); omega) ?_
      refine wpAny_mono (Q := Flushed w B P c s.heap L' (bindM [(Str.ofString "self", .ref P.x), (Str.ofString "tag", .str tag u), (Str.ofString "attrs", .ref ad)]) loose mean mg mb s) (E := fun _ _ => False) ?A (fun f s' q => ?_) (fun _ _ e => e.elim)
      case A =>
        refine wpAny_If ?_
        k_steps
        refine Stop.mk ?_
        (with_reducible rename Fr _ _ _ _ => F1); (with_reducible rename News _ _ _ _ => N1); (with_reducible rename WB _ _ _ _ _ _ _ => W1); (with_reducible rename Frag.In _ _ => X)
        refine w_truthy_ld (s := ⟨_, _, _, _, _⟩) F1 W1 ?_
        cases hd : c.dat with
        | none =>
          dsimp only [Option.isSome]
          k_steps
          (with_reducible rename Fr _ _ _ _ => F1); (with_reducible rename News _ _ _ _ => N1); (with_reducible rename WB _ _ _ _ _ _ _ => W1); (with_reducible rename Frag.In _ _ => X)
          exact ⟨rfl, _, _, _, rfl, F1, N1, X, TB.keeps W1.base, by rw [flush_none hd]; exact W1⟩
        | some y9 =>
          dsimp only [Option.isSome]
          k_steps
          refine Stop.mk ?_
          (with_reducible rename Fr _ _ _ _ => F1); (with_reducible rename News _ _ _ _ => N1); (with_reducible rename WB _ _ _ _ _ _ _ => W1); (with_reducible rename Frag.In _ _ => X)
          refine' wflush_spec w loose mean mg mb _ ⟨_, _, _, _, _⟩ _ _ _ B P c y9 ?R8 XB TB (W1.now F1) ?K8 hd (z5 y9 hd) (by omega) ?_
          case R8 => exact ⟨rfl, Nat.lt_of_le_of_lt (by show dp + 1 + 20 ≤ dp + 60; exact le3 (by decide)) hdp, Nat.lt_of_le_of_lt (by show un + _ + 160 ≤ un + 640; exact le3 (by decide)) hun⟩
          case K8 => (try dsimp only); omega
          intro h13 tk13 ht13 W13
          obtain ⟨g3, F3, N3, W3⟩ := WB.back F1 N1 W1 W13
          exact ⟨rfl, _, _, _, rfl, F3, N3, XB.keeps W3.base, TB.keeps W3.base, W3⟩
      (with_reducible rename Fr _ _ _ _ => F1); (with_reducible rename News _ _ _ _ => N1); (with_reducible rename WB _ _ _ _ _ _ _ => W1); (with_reducible rename Frag.In _ _ => X)
      clear F1 N1 W1
      obtain ⟨rfl, g4, h4, tk4, rfl, F4, N4, X4, T4, W4⟩ := q
      intro ht4
      dsimp only at ht4
      have i0 : c.ig = 0 := Int.ofNat.inj (by assumption : (c.ig : Int) = 0)
      have i1 : ¬ (c.ig ≠ 0 ∨ tag = gone) := fun q => q.elim (fun q => q i0) hg
      obtain ⟨f1, f2, f3, f4, f5, f6, f7⟩ := flush_same c
      k_steps
      refine Stop.mk ?_
      (with_reducible rename Fr _ _ _ _ => F1); (with_reducible rename News _ _ _ _ => N1); (with_reducible rename WB _ _ _ _ _ _ _ => W1); (with_reducible rename Frag.In _ _ => X)
      rename_i e9 _ _
      refine w_app_dn (s := ⟨_, _, _, _, _⟩) (e1 := e9) F1 N1 W1 XB TB (by rw [f3]; exact Nat.le_trans z1.1 (by decide)) fun g5 h5 F5 N5 X5 T5 W5 => ?_
      dsimp only
      clear F1 N1 W1
      rw [f3] at W5
      k_steps
      refine Stop.mk ?_
      (with_reducible rename Fr _ _ _ _ => F1); (with_reducible rename News _ _ _ _ => N1); (with_reducible rename WB _ _ _ _ _ _ _ => W1); (with_reducible rename Frag.In _ _ => X)
      have M1 := (W1.end_ F1).moves
      have hn9 : s.heap.get? e9 = none := by
        cases z : s.heap.get? e9 with
        | none => rfl
        | some o => have := W1.moves _ _ (notMut W1 N1 (.head _)) z; rw [(N1 _ (.head _)).2.2] at this; cases this
      have E1 : ESt P (c.es ++ [e9]) h5 := (z0.moves M1).snoc (notMut W1 N1 (.head _)) ⟨0, (N1 _ (.head _)).1⟩
      refine' wsstart_spec w loose mean mg mb _ ⟨_, _, _, _, _⟩ _ _ B P (c.flush.sEs (c.es ++ [e9])) tag u e9 ad oA ?R XB TB (W1.now F1) ?K E1 ?S1 z2 z3 ⟨0, (N1 _ (.head _)).1⟩ ⟨M1 _ _ z6.2.1 z6.1.1, z6.1.2⟩ ?T1 ?_
      case R => exact ⟨rfl, Nat.lt_of_le_of_lt (by show dp + 1 + 40 ≤ dp + 60; exact le3 (by decide)) hdp, Nat.lt_of_le_of_lt (by show un + _ + 320 ≤ un + 640; exact le3 (by decide)) hun⟩
      case K => (try dsimp only); omega
      case S1 => show (c.es ++ [e9]).length ≤ 900 ∧ c.flush.nn ≤ 900 ∧ c.flush.pn ≤ 900 ∧ 1 ≤ c.flush.pn ∧ c.flush.parts.length ≤ 800; rw [f4, f5, List.length_append]; (have l1 : [e9].length = 1 := rfl); omega
      case T1 => exact (show c.flush.pt = c.pt from f6) ▸ z6.2.2.moves M1
      intro h6 tk6 G6 pt2 ht6 hg6 W6 HT6
      have W7 := (W1.end_ F1).trans W6
      have M6 := W6.moves
      clear F1 N1 W1
      k_steps
      refine ret _ _ _ e9 pt2 (by assumption) hg6 ?_ ?_ ?_ ?_
      all_goals rw [show c.start gone tag e9 pt2 = (c.flush.sEs (c.es ++ [e9])).startd tag pt2 from if_neg i1]
      · exact W7
      · exact HT6
      · exact E1.moves M6
      · exact fun a ha => (List.mem_append.mp ha).imp_right fun q => by rw [List.mem_singleton.mp q]; exact hn9
end Mine
end
theorem Mine.V10_w0 : True := by
  k_with_none
  trivial
section
open PySem PySem.W PySem.Calls PyProof.Rows
set_option maxRecDepth 100000
set_option maxHeartbeats 8000000
set_option linter.all false
namespace Mine
/-- a writer in the making: its object and dict in the base -/
structure IB (B : Heap) (x dx : Nat) (es : List DictEntry) (n : Nat) (h0 g : Heap) : Prop where
  base : B.StaysIn g
  new : B.get? dx = none
  hx : g.get? x = some (instObj 169 dx)
  hdx : g.get? dx = some (dictOf es n)
  moves : ∀ b o, b ≠ dx → h0.get? b = some o → g.get? b = some o
section
variable {w : World} {A : Around} {E : Value → Shared → Prop} {s : Shared} {B h0 g : Heap} {x dx n n' : Nat} {es es' : List DictEntry} {L : Addr} {m : Str → Option Value} {news : Led} {loose : List Str} {mean : ExcName → Option Value} {mg mb : Str → Option Value}
theorem i_get {name : Str} {v : Value} {attr : Option Value} {expr : Bool} {Q : Value → Shared → Prop} (F : Fr g L s.heap m) (X : (Mine.hd0.heap_1_1 w.params).In g) (W : IB B x dx es n h0 g) (hg : plainGet (Mine.hd0.heap_1_1 w.params) 169 name = true) (hh : hasDictIn (Mine.hd0.heap_1_1 w.params) 169 = true)
    (ha : findIn (Mine.hd0.heap_1_1 w.params) (.ref 169) name = some attr) (hn : noGet (Mine.hd0.heap_1_1 w.params) attr = true) (hv : handedIn v = true)
    (hl : getL name es = some (some v)) (h : Q v { s with toks := s.toks + 1 }) :
    wpAny (model PySem.Challenge.rw_if0001_01.row.prog w) A (getAttr (.ref x) name expr) Q E s :=
  get_own F X ⟨F.keep _ _ W.hx, rfl, rfl, F.keep _ _ W.hdx⟩ hg hh ha hn hl hv h
theorem i_set {name : Str} {v : Value} {Q : Unit → Shared → Prop} (F : Fr g L s.heap m) (N : News g L s.heap news) (W : IB B x dx es n h0 g) (XB : (Mine.hd0.heap_1_1 w.params).In B) (TB : Top topProg loose mean mg mb B)
    (hs : findIn (Mine.hd0.heap_1_1 w.params) (.ref 169) "__setattr__" = some (some (.builtin "object.__setattr__"))) (hp : plainOver (Mine.hd0.heap_1_1 w.params) 169 = true) (ht : takerIn (Mine.hd0.heap_1_1 w.params) 169 name = some none) (hh : hasDictIn (Mine.hd0.heap_1_1 w.params) 169 = true)
    (hl : (getL name es).isSome = true) (e : (putL name (PyData.keyHash w.params name) (.str name (s.toks + 1)) v es, putN name es n) = (es', n')) (hz : es'.length ≤ 1000)
    (h : ∀ g' h', Fr g' L h' m → News g' L h' news → (Mine.hd0.heap_1_1 w.params).In g' → Top topProg loose mean mg mb g' → IB B x dx es' n' h0 g' → Q () { s with heap := h', toks := s.toks + 2 }) :
    wpAny (model PySem.Challenge.rw_if0001_01.row.prog w) A (setAttr (.ref x) name v) Q E s := by
  obtain ⟨F1, N1⟩ := lend F N W.hdx
  have hx : x ≠ dx := fun q => by have := W.hx; rw [q, W.hdx] at this; cases this
  have hB : B.StaysIn (g.hide dx) := fun b o q => (Heap.hide_ne g fun z => by rw [z, W.new] at q; cases q).trans (W.base _ _ q)
  refine set_dict F1 (XB.keeps hB) N1 ⟨F.keep _ _ W.hx, rfl, rfl, F.keep _ _ W.hdx⟩ rfl hs hp ht hh hl e (.head (off_base N W.hdx)) hz (fun h' F2 N2 => ?_)
  obtain ⟨g', F3, N3, e3, hb⟩ := give W.hdx F2 N2 (off_base N W.hdx)
  have base' : B.StaysIn g' := fun b o q => (hb b fun z => by rw [z, W.new] at q; cases q).trans (W.base _ _ q)
  exact h g' h' F3 N3 (XB.keeps base') (TB.keeps base') ⟨base', W.new, (hb _ hx).trans W.hx, e3, fun b o nb q => (hb b nb).trans (W.moves b o nb q)⟩
theorem i_setT {name : Str} {v : Value} {Q : Unit → Shared → Prop} {hp : Heap} {G : Array GenState} {D : _} {k : Tok} {O : _} {t : Tok} (et : t = k + 1) (F : Fr g L hp m) (N : News g L hp news) (W : IB B x dx es n h0 g) (XB : (Mine.hd0.heap_1_1 w.params).In B) (TB : Top topProg loose mean mg mb B)
    (hs : findIn (Mine.hd0.heap_1_1 w.params) (.ref 169) "__setattr__" = some (some (.builtin "object.__setattr__"))) (hp' : plainOver (Mine.hd0.heap_1_1 w.params) 169 = true) (ht : takerIn (Mine.hd0.heap_1_1 w.params) 169 name = some none) (hh : hasDictIn (Mine.hd0.heap_1_1 w.params) 169 = true)
    (hl : (getL name es).isSome = true) (e : (putL name (PyData.keyHash w.params name) (.str name t) v es, putN name es n) = (es', n')) (hz : es'.length ≤ 1000)
    (h : ∀ g' h', Fr g' L h' m → News g' L h' news → (Mine.hd0.heap_1_1 w.params).In g' → Top topProg loose mean mg mb g' → IB B x dx es' n' h0 g' → Q () ⟨h', G, D, k + 2, O⟩) :
    wpAny (model PySem.Challenge.rw_if0001_01.row.prog w) A (setAttr (.ref x) name v) Q E ⟨hp, G, D, k, O⟩ := by
  subst et
  exact i_set (s := ⟨hp, G, D, k, O⟩) F N W XB TB hs hp' ht hh hl e hz h
theorem tok_fresh {α : Type} {tree : Sem α} {Q : α → Shared → Prop} {M : Model} {hp : Heap} {G : Array GenState} {D : _} {k : Tok} {O : _} (h : ∀ k t : Tok, t = k + 1 → wpAny M A tree Q E ⟨hp, G, D, k, O⟩) : wpAny M A tree Q E ⟨hp, G, D, k, O⟩ := h k _ rfl
end
theorem news_sw {g h : Heap} {L : Addr} {a b : Addr × Obj} {l : Led} (N : News g L h (a :: b :: l)) : News g L h (b :: a :: l) := fun p hp => N p (by
  rcases List.mem_cons.mp hp with rfl | hp
  · exact .tail _ (.head _)
  rcases List.mem_cons.mp hp with rfl | hp
  · exact .head _
  · exact .tail _ (.tail _ hp))
theorem none_back {h g : Heap} {a dx : Addr} {o : Obj} (hdx : g.get? dx = some o) (k : ∀ b o, b ≠ dx → h.get? b = some o → g.get? b = some o) (q : g.get? a = none) : h.get? a = none := by
  cases z : h.get? a with
  | none => rfl
  | some o =>
    by_cases e : a = dx
    · rw [e, hdx] at q; cases q
    · rw [k _ _ e z] at q; cases q
theorem inj_of {P : WP} (S : List Nat) (hp : S.Nodup) (r : Nat → Nat) (hr : ∀ i, i < 12 → S[r i]? = some (adr P i)) (hi : ∀ i, i < 12 → ∀ j, j < 12 → r i = r j → i = j) : ∀ i j, i < 12 → j < 12 → adr P i = adr P j → i = j := fun i j h1 h2 e => by
  refine hi i h1 j h2 ?_
  obtain ⟨a1, a2⟩ := List.getElem?_eq_some_iff.mp (hr i h1)
  obtain ⟨b1, b2⟩ := List.getElem?_eq_some_iff.mp (hr j h2)
  rcases Nat.lt_trichotomy (r i) (r j) with q | q | q
  · exact absurd (a2.trans (e.trans b2.symm)) (List.pairwise_iff_getElem.mp hp _ _ a1 b1 q)
  · exact q
  · exact absurd (b2.trans (e.symm.trans a2.symm)) (List.pairwise_iff_getElem.mp hp _ _ b1 a1 q)
noncomputable def Inc : List Nat → Prop
  | [] => True
  | [_] => True
  | a :: b :: l => a < b ∧ Inc (b :: l)
theorem Inc.lt : ∀ {l : List Nat} {a : Nat}, Inc (a :: l) → ∀ x ∈ l, a < x
  | [], _, _, _, h => nomatch h
  | _ :: _, _, h, x, hx => (List.mem_cons.mp hx).elim (fun e => e ▸ h.1) fun q => Nat.lt_trans h.1 (h.2.lt x q)
theorem Inc.nodup : ∀ {l : List Nat}, Inc l → l.Nodup
  | [], _ => List.nodup_nil
  | [_], _ => List.nodup_cons.mpr ⟨fun h => (nomatch h), List.nodup_nil⟩
  | _ :: _ :: _, h => List.nodup_cons.mpr ⟨fun q => Nat.lt_irrefl _ (h.lt _ q), h.2.nodup⟩
noncomputable def kOf (l : List Tok) : Nat → Tok := fun i => l.getD i 0
theorem wdict_of {P : Params} {h : Heap} {dx bm ld et dn ns pm ps : Nat} {it t0 t1 t2 t3 t4 t5 t6 t7 t8 t9 t10 t11 t12 t13 t14 t15 t16 : Tok} (e : h.get? dx = some (dictOf [{ hash := PyData.keyHash P (Str.ofString "_write"), key := .str (Str.ofString "_write") t0, val := .ref bm }, { hash := PyData.keyHash P (Str.ofString "_data"), key := .str (Str.ofString "_data") t1, val := .ref ld }, { hash := PyData.keyHash P (Str.ofString "_with_comments"), key := .str (Str.ofString "_with_comments") t2, val := .bool false }, { hash := PyData.keyHash P (Str.ofString "_strip_text"), key := .str (Str.ofString "_strip_text") t3, val := .bool false }, { hash := PyData.keyHash P (Str.ofString "_exclude_attrs"), key := .str (Str.ofString "_exclude_attrs") t4, val := .none }, { hash := PyData.keyHash P (Str.ofString "_exclude_tags"), key := .str (Str.ofString "_exclude_tags") t5, val := .ref et }, { hash := PyData.keyHash P (Str.ofString "_rewrite_prefixes"), key := .str (Str.ofString "_rewrite_prefixes") t6, val := .bool false }, { hash := PyData.keyHash P (Str.ofString "_qname_aware_tags"), key := .str (Str.ofString "_qname_aware_tags") t7, val := .none }, { hash := PyData.keyHash P (Str.ofString "_find_qname_aware_attrs"), key := .str (Str.ofString "_find_qname_aware_attrs") t8, val := .none }, { hash := PyData.keyHash P (Str.ofString "_declared_ns_stack"), key := .str (Str.ofString "_declared_ns_stack") t9, val := .ref dn }, { hash := PyData.keyHash P (Str.ofString "_ns_stack"), key := .str (Str.ofString "_ns_stack") t10, val := .ref ns }, { hash := PyData.keyHash P (Str.ofString "_prefix_map"), key := .str (Str.ofString "_prefix_map") t11, val := .ref pm }, { hash := PyData.keyHash P (Str.ofString "_preserve_space"), key := .str (Str.ofString "_preserve_space") t12, val := .ref ps }, { hash := PyData.keyHash P (Str.ofString "_pending_start"), key := .str (Str.ofString "_pending_start") t13, val := .none }, { hash := PyData.keyHash P (Str.ofString "_root_seen"), key := .str (Str.ofString "_root_seen") t14, val := .bool false }, { hash := PyData.keyHash P (Str.ofString "_root_done"), key := .str (Str.ofString "_root_done") t15, val := .bool false }, { hash := PyData.keyHash P (Str.ofString "_ignored_depth"), key := .str (Str.ofString "_ignored_depth") t16, val := .int 0 it }] 17)) : ∃ k : Nat → Tok, h.get? dx = some (dictOf (wEs P k bm ld et dn ns pm ps false false 0 it) 17) :=
  ⟨kOf [t0, t1, t2, t3, t4, t5, t6, t7, t8, t9, t10, t11, t12, t13, t14, t15, t16], e⟩
theorem V10_words : True := by
  k_with_none
  k_with "storeName" => (k_here; k_dflt (refine' st_put ?F ?N ?_ ?a ?b; (case F => k_asm); (case N => k_asm); (case a => rfl); (case b => rfl); k_whole; intro h' F' N'; (try k_sweep)))
  k_with "execs cons" => (k_here; first | with_reducible refine then_one ?_ | ((with_reducible refine then_cons ?hn ?_); (case hn => first | assumption | (dsimp only; omega))))
  k_with "Then" => (first | ((with_reducible refine then_next ?_); intro tk9 htk9; (try dsimp only)) | with_reducible refine then_ret ?_)
  k_with "truthy ref" => ((with_reducible refine Stop.out ?_))
  k_with "call ref" => ((with_reducible refine Stop.out ?_))
  k_with "getAttr ref" => ((with_reducible rename Fr _ _ _ _ => wF); (with_reducible rename News _ _ _ _ => wN); (with_reducible rename IB _ _ _ _ _ _ _ => wW); (with_reducible rename Frag.In _ _ => wX); k_dflt (refine' i_get wF wX wW ?a ?b ?c ?d ?e ?f ?_; (case a => k_is); (case b => k_is); (case c => k_is); (case d => k_is); (case f => k_get); (case e => rfl); k_whole))
  k_with "setAttr ref" => ((with_reducible rename Fr _ _ _ _ => wF); (with_reducible rename News _ _ _ _ => wN); (with_reducible rename IB _ _ _ _ _ _ _ => wW); (with_reducible rename Frag.In _ _ => wX); (with_reducible refine tok_fresh ?_); intro k9 t9 et9; k_dflt (refine' i_setT et9 wF wN wW XB TB ?a ?b ?c ?d ?e ?f ?g ?_; (case a => k_is); (case b => k_is); (case c => k_is); (case d => k_is); (case e => k_get); (case f => k_put); (case g => exact Nat.le_of_ble_eq_true rfl); k_whole); clear wF wN wW wX et9; intro g' h' F' N' X' T' W')
  trivial
theorem winit_spec (w : World) (loose : List Str) (mean : ExcName → Option Value) (mg mb : Str → Option Value) (A : Around) (s : Shared) (R : Result → Shared → Prop) (B : Heap) (x dx le b lp : Nat) (gone : Str) (u : Tok) (pt : Array Value) (c0 n0 : Nat) :
    Room 10 80 A → (Mine.hd0.heap_1_1 w.params).In B → Top topProg loose mean mg mb B → B.StaysIn s.heap → (∀ a ∈ [x, b, dx, lp, 142], B.get? a = none) → s.heap.get? x = some (instObj 169 dx) → s.heap.get? dx = some (dictOf [] 0) → s.heap.get? le = some (listOf #[.str gone u] n0) → s.heap.get? b = some (boundApp lp) →
    s.heap.get? lp = some (listOf #[] c0) → s.heap.get? 142 = some (tabObj pt) → (@LT.lt Nat _ 142 lp ∧ lp < b ∧ b < dx ∧ dx < x) → 1 ≤ s.toks →
    (∀ h' tk P, P.x = x → P.bm = b → P.lp = lp → Obj.SetObjOf (strKind PySem.Challenge.rw_if0001_01.row.prog w) P.oe (hasOne gone) 1 → (∀ a o, a ≠ dx → s.heap.get? a = some o → h'.get? a = some o) → (∀ i, i < 12 → adr P i ∈ [x, b, dx, lp, 142] ∨ s.heap.get? (adr P i) = none) →
      WB 12 w B P ⟨0, none, false, [], [], 2, 1, pt⟩ h' h' → R (.ok (.ret .none)) ⟨h', s.gens, s.drawn, tk, s.os⟩) →
    codeAny (model PySem.Challenge.rw_if0001_01.row.prog w) A (.call (.ref 86) ⟨[.ref x, .ref b], [(Str.ofString "exclude_tags", .ref le)]⟩) R s := by
  k_fill
  intro RR XB TB hB hnew hx hdx hle hb hlp h142 ord htk0 ret
  obtain ⟨hh, dp, fr, gd, un⟩ := A
  obtain ⟨hA, hdp, hun⟩ := RR
  cases hA
  dsimp only at hdp hun
  have X := XB.keeps hB
  have T := TB.keeps hB
  have W : IB B x dx [] 0 s.heap s.heap := ⟨hB, hnew dx (by simp), hx, hdx, fun _ _ _ q => q⟩
  refine' pcode (binds := [(Str.ofString "self", .ref x), (Str.ofString "write", .ref b), (Str.ofString "with_comments", .bool false), (Str.ofString "strip_text", .bool false), (Str.ofString "rewrite_prefixes", .bool false), (Str.ofString "qname_aware_tags", .none), (Str.ofString "qname_aware_attrs", .none), (Str.ofString "exclude_attrs", .none), (Str.ofString "exclude_tags", .ref le)]) X T ?hd ?ho ?hcd ?hb ?hl ?hc ?h1 ?h2 ?h3 ?_
  (case ho => k_is)
  (case hcd => k_is)
  (case hd => (show dp < 1000; exact Nat.lt_of_le_of_lt (Nat.le_add_right _ _) (Nat.lt_trans hdp (by decide))))
  (case hb => exact kp_binds X (fun S => by with_unfolding_all rfl))
  (case hc => decide)
  (case hl => exact locs rfl)
  (case h1 => exact rfl)
  (case h2 => exact rfl)
  (case h3 => exact rfl)
  k_whole
  intro L' h' F' N'
  (try dsimp only)
  (try k_fold)
  refine (let ev : Env := _; let ae : Around := _; (?_ : wpAny _ ae (execs _ ev) _ _ _))
  k_steps
  refine Stop.mk ?_
  (with_reducible rename Fr _ _ _ _ => F1); (with_reducible rename News _ _ _ _ => N1); (with_reducible rename IB _ _ _ _ _ _ _ => W1); (with_reducible rename Frag.In _ _ => X)
  have hle2 := W1.moves le _ (fun q => by rw [q, hdx] at hle; injection hle with a; injection a with a; injection a with a; exact absurd a (by decide)) hle
  refine wpAny_truthy_list (s := ⟨_, _, _, _, _⟩) (items := #[.str gone u]) ⟨_, F1.keep _ _ hle2, rfl, _, rfl⟩ (by show (1 : Int) < 2 ^ 63; decide) ?_
  rw [show (!(#[Value.str gone u] : Array Value).isEmpty) = true from rfl]
  k_steps
  obtain ⟨Fl, Nl⟩ := lend F1 N1 hle2
  refine set_one_N (s := ⟨_, _, _, _, _⟩) (n := n0) Fl Nl rfl (.head _) fun et h3 tk3 oe F3 N3 l3 hso => ?_
  obtain ⟨F4, N4⟩ := unlend hle2 F3 (news_sw N3) (fun p hp => by
    rcases List.mem_cons.mp hp with rfl | hp
    · exact Nat.ne_of_gt (l3 _ (.head _))
    · exact off_base N1 hle2 p hp)
  have l4 := fun p hp => l3 p (.tail _ hp)
  k_lt l4
  clear l3 Fl Nl F3 N3 F1 N1 hle2
  k_steps
  (with_reducible rename Fr _ _ _ _ => F1); (with_reducible rename News _ _ _ _ => N1); (with_reducible rename IB _ _ _ _ _ _ _ => W1); (with_reducible rename Frag.In _ _ => X)
  refine map_method (s := ⟨_, _, _, _, _⟩) (X.keeps F1.keep) ?_
  k_steps
  refine map_view (s := ⟨_, _, _, _, _⟩) (X.keeps F1.keep) F1 N1 fun vw h5 F5 N5 l5 => ?_
  k_lt l5
  clear F1 N1
  k_steps
  (with_reducible rename Fr _ _ _ _ => F1); (with_reducible rename News _ _ _ _ => N1); (with_reducible rename IB _ _ _ _ _ _ _ => W1); (with_reducible rename Frag.In _ _ => X)
  refine map_list (s := ⟨_, _, _, _, _⟩) rfl (X.keeps F1.keep) F1 N1 (.head _) fun lm h6 tk6 acc cc F6 N6 l6 => ?_
  k_lt l6
  clear F1 N1
  k_steps
  rename_i ld _ _ _ _ _ _ _ _ _ _ _ _ _ _ _ _ _ _ _ _ _ _ _ _ _ _ _ _ _ _ _ _ _ _ _ _ _ _ _ _ _ _ _ _ _ _ _ _ _ _ _ _ _ _ _ _ _ _ tx _ o6 xl _ o5 dn _ o4 _ _ _ _ _ _ _ ns _ o3 _ _ _ _ _ _ _ _ _ _ l1e _ _ _ _ _ pm _ _ _ _ _ _ _ _ _ _ _ _ _ _ _ ps _ o1 _ _ _ _ _ _ _ _ _ _ _ _ _ _ _ _ _ _ _ _ _ _ _ _ _ _
  (with_reducible rename Fr _ _ _ _ => F1); (with_reducible rename News _ _ _ _ => N1); (with_reducible rename IB _ _ _ _ _ _ _ => W1)
  obtain ⟨k, e5⟩ := wdict_of W1.hdx
  have hn1 : ∀ a ∈ [ld, et, tx, xl, dn, ns, ps], g'.get? a = none := fun a ha => by
    simp only [List.mem_cons, List.not_mem_nil, or_false] at ha
    rcases ha with h | h | h | h | h | h | h
    · rw [h]; exact (N1 (ld, _) (by k_mem)).2.2
    · rw [h]; exact (N1 (et, _) (by k_mem)).2.2
    · rw [h]; exact (N1 (tx, _) (by k_mem)).2.2
    · rw [h]; exact (N1 (xl, _) (by k_mem)).2.2
    · rw [h]; exact (N1 (dn, _) (by k_mem)).2.2
    · rw [h]; exact (N1 (ns, _) (by k_mem)).2.2
    · rw [h]; exact (N1 (ps, _) (by k_mem)).2.2
  have hn2 : ∀ a ∈ [142, lp, b, dx, x], ∃ o, g'.get? a = some o := fun a ha => by
    simp only [List.mem_cons, List.not_mem_nil, or_false] at ha
    rcases ha with h | h | h | h | h
    all_goals rw [h]
    · exact ⟨_, W1.moves 142 _ (Nat.ne_of_lt (Nat.lt_trans ord.1 (Nat.lt_trans ord.2.1 ord.2.2.1))) h142⟩
    · exact ⟨_, W1.moves _ _ (Nat.ne_of_lt (Nat.lt_trans ord.2.1 ord.2.2.1)) hlp⟩
    · exact ⟨_, W1.moves _ _ (Nat.ne_of_lt ord.2.2.1) hb⟩
    · exact ⟨_, W1.hdx⟩
    · exact ⟨_, W1.hx⟩
  have old0 : ∀ P : WP, P.x = x → P.bm = b → P.lp = lp → P.dx = dx → [P.ld, P.et, P.tx, P.xl, P.dn, P.ns, P.ps] = [ld, et, tx, xl, dn, ns, ps] → ∀ i, i < 12 → adr P i ∈ [x, b, dx, lp, 142] ∨ adr P i ∈ [ld, et, tx, xl, dn, ns, ps] := fun P p1 p2 p3 p4 p5 i hi => by
    rw [← p1, ← p2, ← p3, ← p4, ← p5]
    rcases i with _ | _ | _ | _ | _ | _ | _ | _ | _ | _ | _ | _ | i
    all_goals first | exact absurd hi (Nat.not_lt.mpr (Nat.le_add_left _ _)) | exact .inl (by k_mem) | exact .inr (by k_mem)
  refine' ret _ _ ⟨x, dx, b, lp, ld, et, dn, xl, tx, ns, pm, ps, k, oe, _, _⟩ rfl rfl rfl hso ?mv ?old ?wb
  case wb =>
    refine ⟨fun a o q => F1.keep _ _ (W1.base _ _ q), ?new, ?inj, by decide, by decide, ?at_, Moves.refl⟩
    case at_ =>
      intro i hi
      rcases i with _ | _ | _ | _ | _ | _ | _ | _ | _ | _ | _ | _ | i
      · exact ⟨_, rfl, F1.keep _ _ W1.hx⟩
      · exact ⟨_, rfl, F1.keep _ _ (W1.moves b _ (Nat.ne_of_lt ord.2.2.1) hb)⟩
      · exact ⟨_, rfl, (N1 (et, oe) (by k_mem)).1⟩
      · exact ⟨_, ⟨0, rfl⟩, (N1 (xl, _) (by k_mem)).1⟩
      · exact ⟨_, rfl, (N1 (tx, _) (by k_mem)).1⟩
      · exact ⟨_, ⟨false, _, rfl⟩, F1.keep _ _ e5⟩
      · exact ⟨_, ⟨0, [], rfl, rfl⟩, (N1 (ld, _) (by k_mem)).1⟩
      · exact ⟨_, ⟨0, rfl⟩, (N1 (dn, _) (by k_mem)).1⟩
      · exact ⟨_, ⟨2, [.ref lm, .ref l1e], rfl, rfl⟩, (N1 (ns, _) (by k_mem)).1⟩
      · exact ⟨_, ⟨0, [.bool false], rfl, rfl⟩, (N1 (ps, _) (by k_mem)).1⟩
      · exact ⟨_, ⟨c0, [], rfl, .nil⟩, F1.keep _ _ (W1.moves lp _ (Nat.ne_of_lt (Nat.lt_trans ord.2.1 ord.2.2.1)) hlp)⟩
      · exact ⟨_, rfl, F1.keep _ _ (W1.moves 142 _ (Nat.ne_of_lt (Nat.lt_trans ord.1 (Nat.lt_trans ord.2.1 ord.2.2.1))) h142)⟩
      · exact absurd hi (Nat.not_lt.mpr (Nat.le_add_left _ _))
    case new =>
      intro i hi
      refine (old0 _ rfl rfl rfl rfl rfl i hi).elim (fun q => hnew _ q) fun q => ?_
      have q := hn1 _ q
      cases z : B.get? _ with
      | none => rfl
      | some o => rw [W1.base _ _ z] at q; cases q
    case inj =>
      refine inj_of [ld, et, tx, xl, dn, ns, ps, 142, lp, b, dx, x] ?_ (fun i => [11, 9, 1, 3, 2, 10, 0, 4, 5, 6, 8, 7].getD i 0) ?_ (by decide)
      · refine (List.nodup_append (l₁ := [ld, et, tx, xl, dn, ns, ps]) (l₂ := [142, lp, b, dx, x])).mpr ⟨Inc.nodup ⟨l4, o6.1, o5.1, o4.1, o3.1, o1.2.2.2.2.1, trivial⟩, Inc.nodup ⟨ord.1, ord.2.1, ord.2.2.1, ord.2.2.2, trivial⟩, ?_⟩
        intro a ha c hc q
        obtain ⟨o, ho⟩ := hn2 c hc
        rw [← q, hn1 a ha] at ho; cases ho
      · intro i hi
        rcases i with _ | _ | _ | _ | _ | _ | _ | _ | _ | _ | _ | _ | i
        all_goals first | rfl | exact absurd hi (Nat.not_lt.mpr (Nat.le_add_left _ _))
  case mv => exact fun a o n q => F1.keep _ _ (W1.moves a o n q)
  case old =>
    intro i hi
    exact (old0 _ rfl rfl rfl rfl rfl i hi).imp_right fun q => none_back W1.hdx W1.moves (hn1 _ q)
end Mine
end
theorem Mine.V11_w0 : True := by
  k_with_none
  trivial
section
open PySem PySem.W PySem.Calls PyProof.Rows
set_option maxRecDepth 100000
set_option maxHeartbeats 8000000
set_option linter.all false
namespace Mine
section
variable {w : World} {B B1 g h h' : Heap} {P : WP} {c c' : WX} {L : Addr} {m : Str → Option Value} {T : Led}
/-- a writer in a ledger, with all that goes with it -/
structure WT (w : World) (P : WP) (c : WX) (T : Led) : Prop where
  at_ : WAt 12 w P c fun a o => (a, o) ∈ T
  es : ∀ e ∈ c.es, ¬ Mut P e ∧ ∃ ep, (e, listOf #[] ep) ∈ T
  tab : ∃ rest : Led, TabW c.pt rest ∧ ∀ p ∈ rest, p ∈ T ∧ ¬ Own P p.1 ∧ ∃ vs, p.2.data = .fields vs
theorem gather {α : Type} (f : α → Addr) (R : α → Obj → Prop) : ∀ l : List α, (∀ a ∈ l, ∃ o, R a o ∧ h.get? (f a) = some o) → ∃ T : Led, (∀ a ∈ l, ∃ o, R a o ∧ (f a, o) ∈ T) ∧ ∀ p ∈ T, (∃ a ∈ l, f a = p.1) ∧ h.get? p.1 = some p.2 := by
  intro z0
  induction z0 with
  | nil =>
    rintro _
    exact ⟨[], (fun _ h => nomatch h), fun _ h => nomatch h⟩
  | cons a l ih0 =>
    rintro k
    obtain ⟨T, h1, h2⟩ := ih0 fun b hb => k b (.tail _ hb)
    obtain ⟨o, r, e⟩ := k a (.head _)
    refine ⟨(f a, o) :: T, fun b hb => ?_, fun p hp => ?_⟩
    · rcases List.mem_cons.mp hb with rfl | hb
      · exact ⟨o, r, .head _⟩
      · exact (h1 b hb).imp fun _ q => ⟨q.1, .tail _ q.2⟩
    · rcases List.mem_cons.mp hp with rfl | hp
      · exact ⟨⟨a, .head _, rfl⟩, e⟩
      · exact ⟨(h2 p hp).1.imp fun _ q => ⟨.tail _ q.1, q.2⟩, (h2 p hp).2⟩
/-- what a call of a method wants -/
theorem WT.call (F : Fr B L h m) (N : News B L h T) (x : WT w P c T) (inj : ∀ i j, i < 12 → j < 12 → adr P i = adr P j → i = j) : ∃ B1, B.StaysIn B1 ∧ WB 12 w B1 P c h h ∧ TabH B1 P c.pt h ∧ ESt P c.es h ∧ ∀ b o, h.get? b = some o → (∀ p ∈ T, p.1 ≠ b) → B1.get? b = some o := by
  have hid : ∀ b o, h.get? b = some o → (∀ p ∈ T, p.1 ≠ b) → (hideAll h (T.map (·.1))).get? b = some o := fun b o e k => hideAll_get _ e fun z => let ⟨p, hp, q⟩ := List.mem_map.mp z; k p hp q
  refine ⟨hideAll h (T.map (·.1)), fun b o e => hid b o (F.keep _ _ e) fun p hp q => ?_, ⟨fun b o e => of_hideAll _ e, fun i hi => ?_, inj, by decide, by decide, fun i hi => ?_, Moves.refl⟩, ?_, fun e he => ?_, hid⟩
  · have := (N p hp).2.2; rw [q, e] at this; cases this
  · obtain ⟨o, _, q⟩ := x.at_ i hi; exact hideAll_none _ (List.mem_map_of_mem (f := (·.1)) q)
  · obtain ⟨o, a, q⟩ := x.at_ i hi; exact ⟨o, a, (N _ q).1⟩
  · obtain ⟨rest, a, b⟩ := x.tab
    exact ⟨rest, a, fun p hp => ⟨(N p (b p hp).1).1, (b p hp).2.1, hideAll_none _ (List.mem_map_of_mem (b p hp).1), (b p hp).2.2⟩⟩
  · exact ⟨(x.es e he).1, (x.es e he).2.imp fun _ q => (N _ q).1⟩
theorem WT.make {S : Addr → Prop} (s1 : ∀ b, S b → b ≠ L ∧ B.get? b = none) (W2 : WAt 12 w P c' fun a o => h'.get? a = some o) (own : ∀ i, i < 12 → S (adr P i)) (e2 : ESt P c'.es h') (e3 : ∀ e ∈ c'.es, S e)
    (t2 : ∃ rest : Led, TabW c'.pt rest ∧ ∀ p ∈ rest, h'.get? p.1 = some p.2 ∧ ¬ Own P p.1 ∧ S p.1 ∧ ∃ vs, p.2.data = .fields vs) : ∃ T', News B L h' T' ∧ WT w P c' T' ∧ ∀ p ∈ T', S p.1 := by
  obtain ⟨rest, tw, tr⟩ := t2
  obtain ⟨T1, a1, a2⟩ := gather (h := h') (adr P) (slotO w P c') (List.range 12) fun i hi => W2 i (List.mem_range.mp hi)
  obtain ⟨T2, b1, b2⟩ := gather (h := h') (fun e : Nat => e) (fun e o => ∃ ep, o = listOf #[] ep) c'.es fun e he => let ⟨ep, q⟩ := (e2 e he).2; ⟨_, ⟨ep, rfl⟩, q⟩
  have both : ∀ p ∈ T1 ++ (T2 ++ rest), S p.1 ∧ h'.get? p.1 = some p.2 := fun p hp => by
    rcases List.mem_append.mp hp with hp | hp
    · obtain ⟨i, hi, q⟩ := (a2 p hp).1
      exact ⟨q ▸ own i (List.mem_range.mp hi), (a2 p hp).2⟩
    · rcases List.mem_append.mp hp with hp | hp
      · obtain ⟨e, he, q⟩ := (b2 p hp).1
        exact ⟨q ▸ e3 e he, (b2 p hp).2⟩
      · exact ⟨(tr p hp).2.2.1, (tr p hp).1⟩
  refine ⟨T1 ++ (T2 ++ rest), fun p hp => ⟨(both p hp).2, s1 _ (both p hp).1⟩, ⟨fun i hi => ?_, fun e he => ?_, rest, tw, fun p hp => ⟨List.mem_append_right _ (List.mem_append_right _ hp), (tr p hp).2.1, (tr p hp).2.2.2⟩⟩, fun p hp => (both p hp).1⟩
  · exact (a1 i (List.mem_range.mpr hi)).imp fun _ q => ⟨q.1, List.mem_append_left _ q.2⟩
  · obtain ⟨o, ⟨ep, rfl⟩, q⟩ := b1 e he
    exact ⟨(e2 e he).1, ep, List.mem_append_right _ (List.mem_append_left _ q)⟩
/-- and what it leaves -/
theorem WT.next (F : Fr B L h m) (N : News B L h T) (x : WT w P c T) (hid : ∀ b o, h.get? b = some o → (∀ p ∈ T, p.1 ≠ b) → B1.get? b = some o) (W2 : WB 12 w B1 P c' h h') (e2 : ESt P c'.es h') (en : ∀ e ∈ c'.es, e ∈ c.es ∨ h.get? e = none) (t2 : TabH B1 P c'.pt h') :
    ∃ T', Fr B L h' m ∧ News B L h' T' ∧ WT w P c' T' ∧ ∀ p ∈ T', (∃ o, (p.1, o) ∈ T) ∨ h.get? p.1 = none := by
  have key : ∀ b o, ¬ Mut P b → h.get? b = some o → h'.get? b = some o := W2.moves
  have inT : ∀ i, i < 12 → ∃ o, (adr P i, o) ∈ T := fun i hi => let ⟨o, _, q⟩ := x.at_ i hi; ⟨o, q⟩
  have hL : ¬ Mut P L := fun ⟨i, _, hi, q⟩ => by obtain ⟨o, z⟩ := inT i hi; exact (N _ z).2.1 q
  obtain ⟨oL, esL, epL, eL, _⟩ := F.ns
  have s1 : ∀ b, ((∃ o, (b, o) ∈ T) ∨ h.get? b = none) → b ≠ L ∧ B.get? b = none := fun b hb => by
    rcases hb with ⟨o, z⟩ | z
    · exact (N _ z).2
    · refine ⟨fun q => ?_, ?_⟩
      · rw [q, eL] at z; cases z
      · cases q : B.get? b with
        | none => rfl
        | some o => rw [F.keep _ _ q] at z; cases z
  have s2 : ∀ e ∈ c'.es, (∃ o, (e, o) ∈ T) ∨ h.get? e = none := fun e he => by
    rcases en e he with z | z
    · obtain ⟨ep, k⟩ := (x.es e z).2
      exact .inl ⟨_, k⟩
    · exact .inr z
  have s3 : ∀ b, B1.get? b = none → (∃ o, (b, o) ∈ T) ∨ h.get? b = none := fun b hb => by
    by_cases z : ∃ o, (b, o) ∈ T
    · exact .inl z
    · cases q : h.get? b with
      | none => exact .inr rfl
      | some o => have := hid _ _ q fun r hr k => z ⟨r.2, k ▸ hr⟩; rw [hb] at this; cases this
  obtain ⟨rest, tw, tr⟩ := t2
  obtain ⟨T', N', x', k'⟩ := WT.make s1 W2.at_ (fun i hi => .inl (inT i hi)) e2 s2 ⟨rest, tw, fun p hp => ⟨(tr p hp).1, (tr p hp).2.1, s3 _ (tr p hp).2.2.1, (tr p hp).2.2.2⟩⟩
  refine ⟨T', ⟨F.ns.at' fun o e => key _ _ hL e, fun b o e => key _ _ (fun ⟨i, _, hi, q⟩ => ?_) (F.keep _ _ e), F.above⟩, N', x', k'⟩
  obtain ⟨o', z⟩ := inT i hi; have := (N _ z).2.2; rw [q, e] at this; cases this
end
end Mine
end
section
open PySem PySem.W PySem.Calls PyProof.Rows
namespace Mine
section
variable {M : Model} {A : Around} {E : Value → Shared → Prop} {s : Shared} {env : Env} {st : Stmt} {rest : List Stmt} {Q : Flow → Shared → Prop}
theorem halt_in (h : wpAny M A (execs rest env) (Halt Q) E s) : wpAny M A (execs rest env) Q E s := h
theorem halt_in2 {t : Sem Unit} (h : wpAny M A t (fun _ s₂ => wpAny M A (execs rest env) (Halt Q) E s₂) E s) : wpAny M A t (fun _ s₂ => wpAny M A (execs rest env) Q E s₂) E s := h
theorem th_flat {α : Type} {t : Sem α} {Q : α → Shared → Prop} {s₀ : Shared} {g h : Heap} {L : Addr} {m : Str → Option Value} (_F : Fr g L h m) (H : ∀ k, wpAny M A t Q E ⟨h, s₀.gens, s₀.drawn, k, s₀.os⟩) (e : s = ⟨h, s₀.gens, s₀.drawn, s.toks, s₀.os⟩) : wpAny M A t Q E s := by
  rw [e]; exact H _
end
end Mine
end
section
open PySem PySem.W PySem.Calls PyProof.Rows
set_option maxRecDepth 100000
set_option maxHeartbeats 8000000
set_option linter.all false
namespace Mine
theorem V12_words : True := by
  k_with_none
  k_with "storeName" => (k_here; k_dflt (refine' st_put ?F ?N ?_ ?a ?b; (case F => k_asm); (case N => k_asm); (case a => rfl); (case b => rfl); k_whole; intro h' F' N'; (try k_sweep)))
  k_with "execs cons" => (k_here; first | with_reducible refine then_one ?_ | ((with_reducible refine then_cons ?hn ?_); (case hn => first | assumption | (dsimp only; omega))))
  k_with "Then" => (first | ((with_reducible refine then_next ?_); intro tk9 htk9; (try dsimp only)) | with_reducible refine then_ret ?_)
  k_with "Halt" => ((with_reducible refine Stop.out ?_))
  k_with "exec For Tuple Name cons nil" => ((with_reducible refine Stop.out ?_))
  k_with "call ref" => ((with_reducible refine Stop.out ?_))
  k_with "call builtin:str.join" => ((with_reducible refine Stop.out ?_))
  k_with "getAttr ref" => ((with_reducible show wpAny _ _ (getAttr (Value.ref _) (Str.ofString "append") _) _ _ _); (with_reducible refine Stop.out ?_))
  trivial
section
variable {prog : Program} {w : World} {A : Around} {E : Value → Shared → Prop} {s : Shared} {p : Program} {loose : List Str} {mean : ExcName → Option Value} {mg mb : Str → Option Value} {K : Frag} {Q : Value → Shared → Prop}
    {name qual : Str} {params : Arguments} {body : List Stmt} {scope : Scope} {dV kV doc pm cdv ct oc : Value} {an od : Option Addr} {osl : Array (Option Value)} {f : Addr} {pos : List Value} {kw : List (Str × Value)} {binds : List (Str × Value)}
/-- entering a def: all that stands is below; the ledger is hidden later -/
theorem mcallS {h₀ : Heap} {L : Addr} {m : Str → Option Value} {news : Led} (F : Fr h₀ L s.heap m) (N : News h₀ L s.heap news) (X : K.In h₀) (T : Top p loose mean mg mb h₀) (hd : A.depth < recursionLimit)
    (ho : K.lookup f = some ⟨oc, od, .func (fnOf name qual params body scope dV kV doc pm an cdv ct), osl⟩) (hcd : codeIn K cdv qual = true)
    (hbind : BindsTo s (fnOf name qual params body scope dV kV doc pm an cdv ct) ⟨pos, kw⟩ binds) (hloc : ∀ y ∈ binds, scope.names.lookup y.1 = some .local)
    (hcell : ∀ x ∈ scope.names, x.2 ≠ .cell) (hco : scope.isCoroutine = false) (hgen : scope.isGenerator = false) (hk : scope.kind = .function)
    (h : ∀ L' h₁, K.In s.heap → Top p loose mean mg mb s.heap → Fr s.heap L' h₁ (bindM binds) →
      (K.In (hideAll s.heap (news.map (·.1))) ∧ Top p loose mean mg mb (hideAll s.heap (news.map (·.1)))) →
      (∀ h' m' news', Fr (hideAll s.heap (news.map (·.1))) L' h' m' → News (hideAll s.heap (news.map (·.1))) L' h' news' → Fr h₀ L h' m ∧ News h₀ L h' news') →
      wpAny (model prog w) (A.deeper (envOf qual scope L' f cdv)) (execs body (envOf qual scope L' f cdv))
        (fun fl s' => Q (match fl with | .ret v => v | _ => .none) s') (fun _ _ => False)
        { s with heap := h₁, toks := s.toks + binds.length }) :
    wpAny (model prog w) A (call (.ref f) pos kw) Q E s := by
  obtain ⟨st, FG, lv⟩ := hide_base F N
  refine wpAny_call ?_
  refine codeAny_call_def (fd := fnOf name qual params body scope dV kV doc pm an cdv ct) (body := body) (binds := binds) hd (F.keep _ _ (X _ _ ho)) rfl (T.nolimit.keeps F.keep) (codeRec_of (X.keeps F.keep) hcd) rfl hbind hcell hloc (fun h₁ hns hk₁ => ?_) hco hgen hk
  exact wpAny_mono (h s.heap.objs.size h₁ (X.keeps F.keep) (T.keeps F.keep) ⟨hns, hk₁, Nat.le_refl _⟩ ⟨X.keeps st, T.keeps st⟩ (fun h' m' news' F' N' => lv _ h' m' news' F' N')) (fun fl s' q => q) fun _ _ q => q.elim
end
theorem snoc_len {α : Type} : ∀ (l : List α) (n : Nat), l.length = n + 1 → ∃ l' a, l = l' ++ [a] ∧ l'.length = n := fun l n h => by
  have hne : l ≠ [] := fun e => by rw [e] at h; cases h
  refine ⟨l.dropLast, l.getLast hne, (List.dropLast_concat_getLast hne).symm, ?_⟩
  rw [List.length_dropLast, h]; rfl
theorem tag_slice {k : Int} (h0 : 0 ≤ k) (h6 : k < 6) : Txt.slice (Txt.item (Str.ofString "abcdef") k) none (some 1) ≠ Str.ofString "{" := by
  obtain ⟨n, rfl⟩ := Int.eq_ofNat_of_zero_le h0
  exact (by decide +kernel : ∀ n, n < 6 → Txt.slice (Txt.item (Str.ofString "abcdef") ((n : Nat) : Int)) none (some 1) ≠ Str.ofString "{") n (Int.ofNat_lt.mp h6)
theorem weight_cls (C : Addr) (rest : List Value) (kw : List (Str × Value)) : (Code.builtin "type.__call__" ⟨.ref C :: rest, kw⟩).weight = 1 := by kernel_rfl
theorem room_cls {A : Around} {C : Addr} {rest : List Value} {kw : List (Str × Value)} (hA : A.handled = none) (h1 : A.depth + 30 < 900) (h2 : A.units + 200 < 9000) : Room 10 80 (A.under (.builtin "type.__call__" ⟨.ref C :: rest, kw⟩)) := by
  refine ⟨hA, ?_, ?_⟩
  · show A.depth + (Code.builtin "type.__call__" ⟨.ref C :: rest, kw⟩).weight + 10 < 900
    rw [weight_cls]; omega
  · show A.units + 1 + 80 < 9000
    omega
theorem ltAll {d : Addr} : ∀ {l : Led}, AllLt d l → ∀ p ∈ l, p.1 < d
  | [], _, _, h => nomatch h
  | _ :: _, x, p, h => by
    rcases List.mem_cons.mp h with rfl | h
    · exact x.1
    · exact ltAll x.2 p h
theorem WT.notMut {w : World} {P : WP} {c : WX} {T : Led} {b : Addr} (x : WT w P c T) (h : ∀ p ∈ T, p.1 ≠ b) : ¬ Mut P b := fun ⟨i, _, hi, q⟩ => by
  obtain ⟨o, _, z⟩ := x.at_ i hi
  exact h _ z q
theorem WT.mid {w : World} {B h h' : Heap} {P : WP} {c : WX} {L : Addr} {m : Str → Option Value} {T : Led} (F : Fr B L h m) (N : News B L h T) (x : WT w P c T) (k : Moves P h h') : Fr B L h' m :=
  ⟨F.ns.at' fun o e => k _ _ (x.notMut fun p hp => (N p hp).2.1) e, fun b o e => k _ _ (x.notMut fun p hp q => by have := (N p hp).2.2; rw [q, e] at this; cases this) (F.keep _ _ e), F.above⟩
theorem WT.turn {w : World} {B B1 h h' : Heap} {P : WP} {c c' : WX} {L I : Addr} {oI : Obj} {m : Str → Option Value} {T : Led} (F : Fr B L h m) (N : News B L h T) (zI : h.get? I = some oI ∧ I ≠ L ∧ B.get? I = none) (hoff : ∀ p ∈ T, p.1 ≠ I) (x : WT w P c T)
    (hid : ∀ b o, h.get? b = some o → (∀ p ∈ T, p.1 ≠ b) → B1.get? b = some o) (W2 : WB 12 w B1 P c' h h') (e2 : ESt P c'.es h') (en : ∀ e ∈ c'.es, e ∈ c.es ∨ h.get? e = none) (t2 : TabH B1 P c'.pt h') :
    ∃ T', Fr B L h' m ∧ News B L h' ((I, oI) :: T') ∧ (∀ p ∈ T', p.1 ≠ I) ∧ WT w P c' T' := by
  obtain ⟨T', F', N', x', k'⟩ := x.next F N hid W2 e2 en t2
  refine ⟨T', F', fun p hp => ?_, fun p hp q => ?_, x'⟩
  · rcases List.mem_cons.mp hp with rfl | hp
    · exact ⟨W2.moves _ _ (x.notMut hoff) zI.1, zI.2⟩
    · exact N' p hp
  · rcases k' p hp with ⟨o, z⟩ | z
    · exact hoff _ z q
    · rw [q, zI.1] at z; cases z
theorem endd_same (c : WX) (tag : Str) : (∀ e ∈ (c.endd tag).es, e ∈ c.es) ∧ (c.endd tag).pt = c.pt := by
  obtain ⟨f1, f2, f3, f4, f5, f6, f7⟩ := flush_same c
  unfold WX.endd
  split
  · exact ⟨fun e he => List.dropLast_subset _ he, f6⟩
  · exact ⟨fun e he => he, rfl⟩
structure WG (ws : WS) (c : WX) : Prop where
  ig : c.ig = ws.ig
  dat : c.dat = ws.dat
  seen : c.seen = ws.seen
  parts : c.parts = ws.parts
  es : c.es.length = ws.dep
  nn : c.nn = ws.dep + 2
  pn : c.pn = ws.dep + 1
section
variable {ws : WS} {c : WX} {gone : Str} {xs : List Str} {k : Int}
theorem WG.flush (g : WG ws c) : c.flush.parts = ws.flushed := by
  unfold WX.flush WS.flushed
  rw [← g.dat]
  cases c.dat with
  | none => exact g.parts
  | some y =>
    show (if _ then _ else _) = _
    rw [g.parts, g.seen]
theorem WG.end_ (g : WG ws c) (hd : ws.ig = 0 → 1 ≤ ws.dep) : WG (wStep gone xs ws (k, false)) (c.endd (tagL k)) := by
  obtain ⟨f1, f2, f3, f4, f5, f6, f7⟩ := flush_same c
  have e := g.flush
  have d := flush_dat c
  obtain ⟨p1, p2, p3, p4, p5, p6, p7⟩ := g
  by_cases h : ws.ig = 0
  · have := hd h
    rw [show wStep gone xs ws (k, false) = { ws with dat := none, parts := ws.flushed ++ [Str.ofString "</" ++ tagL k ++ Str.ofString ">"], dep := ws.dep - 1 } by unfold wStep; rw [if_neg (by simp), if_neg (by omega)]]
    rw [show c.endd (tagL k) = ((((c.flush.sParts (c.flush.parts ++ [Str.ofString "</" ++ tagL k ++ Str.ofString ">"])).sPn (c.pn - 1)).sEs c.es.dropLast).sNn (c.nn - 1)) from if_pos (p1.trans h)]
    refine ⟨?_, d, ?_, ?_, ?_, ?_, ?_⟩
    · exact f1.trans p1
    · exact f2.trans p3
    · show c.flush.parts ++ _ = _; rw [e]
    · show c.es.dropLast.length = ws.dep - 1; rw [List.length_dropLast, p5]
    · show c.nn - 1 = ws.dep - 1 + 2; rw [p6]; cases hq : ws.dep with
      | zero => rw [hq] at this; exact absurd this (by decide)
      | succ j => rfl
    · show c.pn - 1 = ws.dep - 1 + 1; rw [p7]; cases hq : ws.dep with
      | zero => rw [hq] at this; exact absurd this (by decide)
      | succ j => rfl
  · rw [show wStep gone xs ws (k, false) = { ws with ig := ws.ig - 1 } by unfold wStep; rw [if_neg (by simp), if_pos h], show c.endd (tagL k) = c.sIg (c.ig - 1) from if_neg (by omega)]
    exact ⟨by show c.ig - 1 = ws.ig - 1; rw [p1], p2, p3, p4, p5, p6, p7⟩
theorem WG.begin_ (g : WG ws c) (e : Nat) (pt : Array Value) : ((c.start gone (tagL k) e pt).ig = 0 → (c.start gone (tagL k) e pt).dat = none) ∧ WG (wStep gone xs ws (k, true)) (if (c.start gone (tagL k) e pt).ig = 0 then (c.start gone (tagL k) e pt).sDat (some (xs.getD k.toNat Str.empty)) else c.start gone (tagL k) e pt) := by
  obtain ⟨f1, f2, f3, f4, f5, f6, f7⟩ := flush_same c
  have e1 := g.flush
  have d := flush_dat c
  obtain ⟨p1, p2, p3, p4, p5, p6, p7⟩ := g
  by_cases h : ws.ig ≠ 0 ∨ tagL k = gone
  · rw [show wStep gone xs ws (k, true) = { ws with ig := ws.ig + 1 } by unfold wStep; rw [if_pos rfl, if_pos h], show c.start gone (tagL k) e pt = c.sIg (c.ig + 1) from if_pos (by rw [p1]; exact h)]
    refine ⟨fun q => absurd q (Nat.succ_ne_zero _), ?_⟩
    split
    · rename_i q; exact absurd q (Nat.succ_ne_zero _)
    · exact ⟨by show c.ig + 1 = ws.ig + 1; rw [p1], p2, p3, p4, p5, p6, p7⟩
  · rw [show wStep gone xs ws (k, true) = { ig := 0, dat := some (xs.getD k.toNat Str.empty), seen := true, parts := ws.flushed ++ [Str.ofString "<" ++ tagL k] ++ [Str.ofString ">"], dep := ws.dep + 1 } by unfold wStep; rw [if_pos rfl, if_neg h], show c.start gone (tagL k) e pt = (c.flush.sEs (c.es ++ [e])).startd (tagL k) pt from if_neg (by rw [p1]; exact h)]
    have i0 : c.flush.ig = 0 := f1.trans (p1.trans (Decidable.byContradiction fun q => h (.inl q)))
    refine ⟨fun _ => d, ?_⟩
    split
    rotate_left
    · rename_i q; exact absurd i0 q
    refine ⟨i0, rfl, rfl, ?_, ?_, ?_, ?_⟩
    · show c.flush.parts ++ _ ++ _ = _; rw [e1]
    · show (c.es ++ [e]).length = ws.dep + 1; rw [List.length_append, p5]; rfl
    · show c.flush.nn + 1 = ws.dep + 1 + 2; rw [f4, p6]
    · show c.flush.pn + 1 = ws.dep + 1 + 1; rw [f5, p7]
end
theorem written_spec (w : World) (loose : List Str) (mean : ExcName → Option Value) (mg mb : Str → Option Value) (A : Around) (s : Shared) (Q E : Value → Shared → Prop) (h₀ : Heap) (L : Addr) (m : Str → Option Value) (lc lt : Addr) (gone : Str) (u : Tok) (pt : Array Value) (rest : Led) (cs : List (Int × Bool)) (xs : List Str) :
    Room 140 1400 A → (Mine.hd0.heap_1_1 w.params).In h₀ → Top topProg loose mean mg mb h₀ → Fr h₀ L s.heap m → News h₀ L s.heap ((142, tabObj pt) :: rest) → TabW pt rest → (∀ p ∈ rest, ∃ vs, p.2.data = .fields vs) → DatAt s.heap (.ref lc) (dCalls cs) → DatAt s.heap (.ref lt) (dStrs xs) → cs.length ≤ 12 → xs.length ≤ 6 → (∀ p ∈ cs, 0 ≤ p.1 ∧ p.1 < xs.length) → (∀ x ∈ xs, x.length ≤ 20) → wFair gone xs cs → OwnOff rest [142] →
    (∀ h' tk G2 pt2 rest2 t, Grown s.gens G2 → Fr h₀ L h' m → News h₀ L h' ((142, tabObj pt2) :: rest2) → TabW pt2 rest2 → (∀ p ∈ rest2, ∃ vs, p.2.data = .fields vs) → OwnOff rest2 [142] → (∀ b o, s.heap.get? b = some o → b ≠ 142 → (∀ p ∈ rest, p.1 ≠ b) → h'.get? b = some o ∧ ∀ p ∈ rest2, p.1 ≠ b) → Q (.str (writtenL gone xs cs) t) ⟨h', G2, s.drawn, tk, s.os⟩) →
    wpAny (model PySem.Challenge.rw_if0001_01.row.prog w) A (call (.ref 253) [.ref lc, .ref lt, .str gone u]) Q E s := by
  k_fill
  intro RR X T F N hT hR hc0 hx0 hcl hxl hck hxz hfair hro ret
  obtain ⟨hh, dp, fr, gd, un⟩ := A
  obtain ⟨hA, hdp, hun⟩ := RR
  cases hA
  dsimp only at hdp hun
  refine' mcallS (binds := [(Str.ofString "calls", .ref lc), (Str.ofString "texts", .ref lt), (Str.ofString "gone", .str gone u)]) F N X T ?hd ?ho ?hcd ?hb ?hl ?hc ?h1 ?h2 ?h3 ?_
  (case ho => k_is)
  (case hcd => k_is)
  (case hd => ((try dsimp only); (try simp only [recursionLimit]); omega))
  (case hb => first | exact BindsTo.of_eq rfl | exact binds_K (X.keeps F.keep) rfl (by k_is) rfl rfl rfl)
  (case hc => decide)
  (case hl => exact locs rfl)
  (case h1 => exact rfl)
  (case h2 => exact rfl)
  (case h3 => exact rfl)
  k_whole
  have hsT : ∀ p ∈ (142, tabObj pt) :: rest, s.heap.get? p.1 = some p.2 := fun p hp => (N p hp).1
  clear F N X T
  intro L2 hf X T F hG lv
  have e142 : s.heap.get? 142 = some (tabObj pt) := hsT _ (.head _)
  obtain ⟨F0, N0⟩ := lend F News.nil e142
  have XS := X; have TS := T
  have n142 : (hideAll s.heap (((142, tabObj pt) :: rest).map (·.1))).get? 142 = none := hideAll_none _ (.head _)
  have nrest : ∀ p ∈ rest, (hideAll s.heap (((142, tabObj pt) :: rest).map (·.1))).get? p.1 = none := fun p hp => hideAll_none _ (List.mem_cons_of_mem _ (List.mem_map_of_mem (f := (·.1)) hp))
  have bof : ∀ b o, (hideAll s.heap (((142, tabObj pt) :: rest).map (·.1))).get? b = some o → s.heap.get? b = some o := fun b o e => of_hideAll _ e
  have hall : ∀ b o, s.heap.get? b = some o → b ≠ 142 → (∀ p ∈ rest, p.1 ≠ b) → (hideAll s.heap (((142, tabObj pt) :: rest).map (·.1))).get? b = some o := by
    intro b o e1 h1 h2
    refine hideAll_get _ e1 fun q => ?_
    obtain ⟨p, hp, rfl⟩ := List.mem_map.mp q
    rcases List.mem_cons.mp hp with rfl | hp
    · exact h1 rfl
    · exact h2 p hp rfl
  have bsz : (hideAll s.heap (((142, tabObj pt) :: rest).map (·.1))).objs.size = s.heap.objs.size := hideAll_size _ _
  obtain ⟨B, hBd⟩ : ∃ B : Heap, B = hideAll s.heap (((142, tabObj pt) :: rest).map (·.1)) := ⟨_, rfl⟩
  rw [← hBd] at hG lv n142 nrest bof hall bsz
  clear hBd
  have hseq : ∀ b o, s.heap.get? b = some o → (∀ vs, o.data ≠ .fields vs) → B.get? b = some o := fun b o e1 e2 => hall b o e1 (fun q => by rw [q, e142] at e1; cases e1; exact e2 _ rfl) fun p hp q => by
    have := hsT p (.tail _ hp)
    rw [q, e1] at this; cases this
    obtain ⟨vs, z⟩ := hR p hp; exact e2 _ z
  replace X : (Mine.hd0.heap_1_1 w.params).In (s.heap.hide 142) := hG.1.keeps fun b o e => (Heap.hide_ne _ fun q => by rw [q, n142] at e; cases e).trans (bof _ _ e)
  replace T : Top topProg loose mean mg mb (s.heap.hide 142) := hG.2.keeps fun b o e => (Heap.hide_ne _ fun q => by rw [q, n142] at e; cases e).trans (bof _ _ e)
  clear F
  (try dsimp only)
  (try k_fold)
  refine (let ev : Env := _; let ae : Around := _; let qf : Flow → Shared → Prop := _; (?_ : wpAny _ ae (execs _ ev) qf _ _))
  with_reducible refine halt_in ?_
  k_steps
  refine Stop.mk ?_
  (with_reducible rename Fr _ _ _ _ => F1)
  (with_reducible rename News _ _ _ _ => N1)
  rename_i lp _ h142
  replace h142 : @LT.lt Nat _ 142 lp := h142
  obtain ⟨F2, N2⟩ := unlend e142 F1 (news_sw N1) (fun p hp => by rw [List.mem_singleton.mp hp]; exact Nat.ne_of_gt h142)
  clear F1 N1 X T
  have X := XS; have T := TS
  refine wpAny_with_toks (n := 1) (by (try dsimp only); omega) ?_
  refine get_append_N (s := ⟨_, _, _, _, _⟩) F2 N2 (.head _) ?_
  intro b3 h3 tk3 F3 N3 l3 htk3
  dsimp only at htk3
  k_lt l3
  clear F2 N2
  k_steps
  refine Stop.mk ?_
  (with_reducible rename Fr _ _ _ _ => F5)
  (with_reducible rename News _ _ _ _ => N5)
  refine call_cls (fI := 86) F5 XS N5 (by k_is) (by k_is) (by k_is) ?_
  intro x dx h6 F6 N6 l6 l7
  k_lt l6
  have hnew : ∀ a ∈ [x, b3, dx, lp, 142], (s.heap.get? a = none ∨ a = 142) ∧ a ≠ L2 := fun a ha => by
    simp only [List.mem_cons, List.not_mem_nil, or_false] at ha
    rcases ha with h | h | h | h | h
    all_goals rw [h]
    · exact ⟨.inl (N6 (x, _) (by k_mem)).2.2, (N6 (x, _) (by k_mem)).2.1⟩
    · exact ⟨.inl (N6 (b3, _) (by k_mem)).2.2, (N6 (b3, _) (by k_mem)).2.1⟩
    · exact ⟨.inl (N6 (dx, _) (by k_mem)).2.2, (N6 (dx, _) (by k_mem)).2.1⟩
    · exact ⟨.inl (N6 (lp, _) (by k_mem)).2.2, (N6 (lp, _) (by k_mem)).2.1⟩
    · exact ⟨.inr rfl, Nat.ne_of_lt (Nat.lt_of_lt_of_le (Heap.lt_size e142) F6.above)⟩
  have bnew : ∀ a ∈ [x, b3, dx, lp, 142], B.get? a = none := fun a ha => by
    rcases (hnew a ha).1 with h | h
    · cases q : B.get? a with
      | none => rfl
      | some o => rw [bof _ _ q] at h; cases h
    · rw [h]; exact n142
  refine winit_spec w loose mean mg mb _ ⟨_, _, _, _, _⟩ _ B x dx _ b3 lp gone u pt 0 0 ?RI hG.1 hG.2 (fun b o e => F6.keep _ _ (bof _ _ e)) bnew (N6 (x, _) (by k_mem)).1 (N6 (dx, _) (by k_mem)).1 (N6 (_, listOf #[.str gone u] 0) (by k_mem)).1 (N6 (b3, _) (by k_mem)).1 (N6 (lp, _) (by k_mem)).1 (F6.keep _ _ e142) ⟨h142, by omega, by omega, by omega⟩ (by (try dsimp only); omega) ?_
  case RI => exact room_cls rfl (by show dp + 1 + 30 < 900; omega) (by show un + _ + 200 < 9000; omega)
  intro h7 tk7 P px pb pl hso mv old W7
  obtain ⟨oL, esL, epL, eL, nsL⟩ := F6.ns
  obtain ⟨r0, tw0, tr0, tv0⟩ := TabW.min hT
  have noL : ∀ i, i < 12 → adr P i ≠ L2 := fun i hi q => by
    rcases old i hi with z | z
    · exact (hnew _ z).2 q
    · rw [q] at z; exact absurd (eL.symm.trans z) (fun z => by cases z)
  have F7 : Fr B L2 h7 _ := ⟨F6.ns.at' fun o e => mv _ _ (hnew dx (by simp)).2.symm e, W7.base, Nat.le_trans (Nat.le_of_eq bsz) F6.above⟩
  obtain ⟨T0, N7, x7, _⟩ := WT.make (S := fun b => b ≠ L2 ∧ B.get? b = none) (B := B) (L := L2) (fun _ h => h) W7.at_ (fun i hi => ⟨noL i hi, W7.new i hi⟩) (fun e he => nomatch he) (fun e he => nomatch he) ⟨r0, tw0, fun p hp => by
    have e1 := hsT p (.tail _ (tr0 p hp))
    have lt1 := Nat.lt_of_lt_of_le (Heap.lt_size e1) F6.above
    refine ⟨mv _ _ (fun q => ?_) (F6.keep _ _ e1), fun ⟨i, hi, q⟩ => ?_, ⟨Nat.ne_of_lt lt1, nrest p (tr0 p hp)⟩, tv0 p hp⟩
    · rcases (hnew dx (by simp)).1 with z | z
      · rw [← q, e1] at z; cases z
      · exact hro p (tr0 p hp) 142 (.head _) (q.trans z)
    · rcases old i hi with z | z
      · rcases (hnew _ z).1 with z | z
        · rw [q, e1] at z; cases z
        · exact hro p (tr0 p hp) 142 (.head _) (q.symm.trans z)
      · rw [q, F6.keep _ _ e1] at z; cases z⟩
  have inj := W7.inj
  clear F6 N6 F5 N5 old mv W7 bnew hnew
  (try dsimp only [InitBack])
  refine ⟨rfl, ?_⟩
  k_steps
  refine Stop.mk ?_
  (with_reducible rename Fr _ _ _ _ => F8)
  (with_reducible rename News _ _ _ _ => N8)
  obtain ⟨nsc, vc, hOc, hAc, hLc⟩ := hc0.list
  obtain ⟨nst, vt, hOt, hAt, hLt⟩ := hx0.list
  have hSt := strs_of hAt
  have hzt := hSt.length
  have hLc' : B.IsList lc vc.toArray := by
    obtain ⟨o, e1, e2, n, e3⟩ := hLc
    exact ⟨o, hseq _ _ e1 (fun vs z => by rw [e3] at z; cases z), e2, n, e3⟩
  have hLt' : B.IsList lt vt.toArray := by
    obtain ⟨o, e1, e2, n, e3⟩ := hLt
    exact ⟨o, hseq _ _ e1 (fun vs z => by rw [e3] at z; cases z), e2, n, e3⟩
  have hTup : ∀ TT its, IsTup s.heap TT its → IsTup B TT its := by
    rintro TT its ⟨o, e1, e2, n, e3⟩
    exact ⟨o, hseq _ _ e1 (fun vs z => by rw [e3] at z; cases z), e2, n, e3⟩
  clear X T hsT XS TS hT hc0 hx0
  obtain ⟨X, T⟩ := hG
  refine For_G (σ := WX × Led) (fun c => c.2)
    (fun _ => [(Str.ofString "texts", .ref lt), (Str.ofString "writer", .ref P.x), (Str.ofString "parts", .ref P.lp)]) (fun i c => WT w P c.1 c.2 ∧ WG (wRun gone xs (cs.take i)) c.1)
    (⟨0, none, false, [], [], 2, 1, pt⟩, T0) rfl hLc' F8 N8 ?hk ⟨x7, ⟨rfl, rfl, rfl, rfl, rfl, rfl, rfl⟩⟩ ?hit ?turn ?done (by intro _; rfl) (by first | passes_own | with_unfolding_all passes_own)
  case hk => intro p hp; simp only [List.mem_cons, List.not_mem_nil, or_false] at hp; rw [px, pl] at hp; rcases hp with rfl | rfl | rfl <;> rfl
  case hit => k_steps
  case turn =>
    intro i v c u9 h tk G I oI hoI hoJ hv hP hg hoff F N
    obtain ⟨k0, b, hcs, TT, kt, rfl, hT0⟩ : ∃ k0 b, cs[i]? = some (k0, b) ∧ ∃ TT kt, v = .ref TT ∧ IsTup s.heap TT #[.int k0 kt, .bool b] := by
      have hi : i < (cs.map dCall).length := by
        rw [← hAc.length]; exact (List.getElem?_eq_some_iff.mp hv).1
      obtain ⟨v', h1, h2⟩ := hAc.get hi
      rw [hv] at h1
      cases h1
      have hi' : i < cs.length := by simpa using hi
      rw [List.getElem_map] at h2
      generalize hp : cs[i] = pp at h2
      obtain ⟨k, b⟩ := pp
      cases h2 with
      | tuple hm hall =>
        cases hall with
        | cons a r => cases a with
          | int k t =>
            cases r with
            | cons a r =>
              cases a with
              | bool b =>
                cases r
                exact ⟨k, b, by rw [List.getElem?_eq_getElem hi', hp], _, t, rfl, _, hOc _ hm, rfl, _, rfl⟩
    have hT' : IsTup h TT #[.int k0 kt, .bool b] := (hTup _ _ hT0).keeps F.keep
    have hkk := hck (k0, b) (List.mem_of_getElem? hcs)
    dsimp only at hkk
    obtain ⟨hk0, hkx⟩ := hkk
    have hk6 : k0 < 6 := by omega
    have hi12 : i < 12 := by
      have := (List.getElem?_eq_some_iff.mp hcs).1
      omega
    have hws := wRun_next gone xs cs hcs
    have hle := wRun_at gone xs cs i (by omega)
    have hfr := hfair i (k0, b) hcs
    have hdl := wRun_dat gone xs hxz (cs.take i) wStart (fun y e => by cases e)
    change ∀ y, (wRun gone xs (cs.take i)).dat = some y → y.length ≤ 20 at hdl
    obtain ⟨xT, hG⟩ := hP
    obtain ⟨ws, hwd⟩ : ∃ ws, ws = wRun gone xs (cs.take i) := ⟨_, rfl⟩
    rw [← hwd] at hws hle hfr hdl hG
    clear hwd hcs hv hT0
    obtain ⟨c, TL⟩ := c
    dsimp only at xT hG hoff N
    have ht1 := item_len hk0 hk6
    have ht2 := tag_slice hk0 hk6
    obtain ⟨_, rfl, s0⟩ := xT.at_ 0 (by decide)
    obtain ⟨_, ⟨dn5, it5, rfl⟩, s5⟩ := xT.at_ 5 (by decide)
    have N0 : News B L2 h ((P.x, instObj 169 P.dx) :: (P.dx, dictOf (wEs w.params P.k P.bm P.ld P.et P.dn P.ns P.pm P.ps c.seen dn5 (c.ig : Int) it5) 17) :: (I, oI) :: TL) := fun p hp => by
      rcases List.mem_cons.mp hp with rfl | hp
      · exact N _ (.tail _ s0)
      · rcases List.mem_cons.mp hp with rfl | hp
        · exact N _ (.tail _ s5)
        · exact N _ hp
    clear N
    have bd1 : c.es.length ≤ 12 ∧ c.nn ≤ 14 ∧ c.pn ≤ 13 ∧ 1 ≤ c.pn ∧ c.parts.length ≤ 36 ∧ c.ig ≤ 12 := by
      rw [hG.es, hG.nn, hG.pn, hG.parts, hG.ig]; exact ⟨hle.2.1, Nat.add_le_add_right hle.2.1 2, Nat.add_le_add_right hle.2.1 1, Nat.le_add_left 1 _, hle.1, hle.2.2⟩
    obtain ⟨b1, b2, b3, b4, b5, b6⟩ := bd1
    have dat1 : ∀ y, c.dat = some y → y.length ≤ 20 := fun y e => hdl y (hG.dat ▸ e)
    refine (let qt : Flow → Shared → Prop := _; (?_ : wpAny _ _ _ (fun _ s₂ => wpAny _ _ (execs _ _) qt _ s₂) _ _))
    with_reducible refine halt_in2 ?_
    cases b
    · k_steps
      refine Stop.mk ?_
      (with_reducible rename Fr _ _ _ _ => F2)
      (with_reducible rename News _ _ _ _ => N2)
      have NT : News B L2 _ TL := fun p hp => N2 p (.tail _ (.tail _ (.tail _ hp)))
      obtain ⟨B1, st, W0, TH, ES, hid⟩ := xT.call F2 NT inj
      obtain ⟨es1, e1, n1, k1, z0⟩ : ∃ es1 e1 n1 k1, c.ig = 0 → c.es = es1 ++ [e1] ∧ c.nn = n1 + 1 ∧ c.pn = k1 + 1 := by
        by_cases h : c.ig = 0
        · have := hfr rfl (hG.ig ▸ h)
          obtain ⟨es0, e0, q, _⟩ := snoc_len c.es (ws.dep - 1) (by rw [hG.es]; omega)
          exact ⟨es0, e0, ws.dep + 1, ws.dep, fun _ => ⟨q, hG.nn, hG.pn⟩⟩
        · exact ⟨[], 0, 0, 0, fun q => absurd q h⟩
      refine' wend_spec w loose mean mg mb _ ⟨_, _, _, _, _⟩ _ _ B1 P c _ _ es1 e1 n1 k1 ?R1 (X.keeps st) (T.keeps st) W0 (by (try dsimp only); omega) z0 ES ⟨by omega, by omega, by omega, by omega⟩ ht2 ht1 dat1 ?_
      case R1 => exact ⟨rfl, Nat.lt_of_le_of_lt (by show dp + 1 + 40 ≤ dp + 140; exact le3 (by decide)) hdp, Nat.lt_of_le_of_lt (by show un + _ + 320 ≤ un + 1400; exact le3 (by decide)) hun⟩
      intro h5 tk5 G5 htk5 hg5 W5
      obtain ⟨s1, s2⟩ := endd_same c (tagL k0)
      obtain ⟨T5, F5, N5, off5, x5⟩ := WT.turn F2 NT (N2 (I, oI) (by k_mem)) hoff xT hid W5 (fun e he => ES.moves W5.moves e (s1 e he)) (fun e he => .inl (s1 e he)) (s2 ▸ TH.moves W5.moves)
      (try refine Stop.mk ?_)
      refine (show TurnEnd _ _ _ _ _ _ _ _ _ _ from ?_)
      exact ⟨rfl, h5, tk5, G5, _, (c.endd (tagL k0), T5), rfl, hg.trans hg5, F5, (fun p hp => by simp only [List.mem_cons, List.not_mem_nil, or_false] at hp; rcases hp with rfl | rfl | rfl <;> rfl), N5, off5, x5, hws ▸ hG.end_ fun q => hfr rfl q⟩
    · k_steps
      refine Stop.mk ?_
      (with_reducible rename Fr _ _ _ _ => F2)
      (with_reducible rename News _ _ _ _ => N2)
      have lt2 : ∀ p ∈ TL, p.1 < _ := ltAll (by assumption : P.x < _ ∧ P.dx < _ ∧ I < _ ∧ AllLt _ TL).2.2.2
      have NT : News B L2 _ TL := fun p hp => N2 p (.tail _ (.tail _ (.tail _ (.tail _ hp))))
      obtain ⟨B1, st, W0, TH, ES, hid⟩ := xT.call F2 NT inj
      refine' wstart_spec w loose mean mg mb _ ⟨_, _, _, _, _⟩ _ _ B1 P c _ gone _ _ _ ?R1 (X.keeps st) (T.keeps st) W0 (by (try dsimp only); omega) ES ⟨by omega, by omega, by omega, by omega, by omega, by omega⟩ ht2 ht1 hso dat1 ⟨⟨(N2 _ (.head _)).1, by assumption, by assumption⟩, xT.notMut fun p hp => Nat.ne_of_lt (lt2 p hp), TH⟩ ?_
      case R1 => exact ⟨rfl, Nat.lt_of_le_of_lt (by show dp + 1 + 60 ≤ dp + 140; exact le3 (by decide)) hdp, Nat.lt_of_le_of_lt (by show un + _ + 640 ≤ un + 1400; exact le3 (by decide)) hun⟩
      intro h5 tk5 G5 e5 pt5 htk5 hg5 W5 TH5 ES5 en5
      obtain ⟨_, ⟨dn6, it6, rfl⟩, s6⟩ := W5.at_ 5 (by decide)
      have zI := N2 (I, oI) (by k_mem)
      have zdx := (N2 _ (.tail _ (.tail _ (.head _)))).2
      have F5 := WT.mid F2 NT xT W5.moves
      have N5 : News B L2 h5 [(P.x, instObj 169 P.dx), (P.dx, wDict w P (c.start gone (tagL k0) e5 pt5) dn6 it6)] := fun p hp => by
        simp only [List.mem_cons, List.not_mem_nil, or_false] at hp
        rcases hp with rfl | rfl
        · obtain ⟨_, rfl, b⟩ := W5.at_ 0 (by decide)
          exact ⟨b, (N2 (P.x, _) (by k_mem)).2⟩
        · exact ⟨s6, zdx⟩
      obtain ⟨bg1, bg2⟩ := WG.begin_ (gone := gone) (xs := xs) (k := k0) hG e5 pt5
      clear N2
      have keepF2 := F2
      clear F2
      unfold wDict at N5
      k_steps
      refine Stop.mk ?_
      refine' wdata_spec w loose mean mg mb _ ⟨_, _, _, _, _⟩ _ _ 12 B1 P (c.start gone (tagL k0) e5 pt5) _ _ ?R2 (X.keeps st) (T.keeps st) W5.here (by (try dsimp only); omega) bg1 ?_
      case R2 => exact ⟨rfl, Nat.lt_of_le_of_lt (by show dp + 1 + 10 ≤ dp + 140; exact le3 (by decide)) hdp, Nat.lt_of_le_of_lt (by show un + _ + 80 ≤ un + 1400; exact le3 (by decide)) hun⟩
      intro h7 tk7 W7
      have es7 : (if (c.start gone (tagL k0) e5 pt5).ig = 0 then (c.start gone (tagL k0) e5 pt5).sDat (some (xs.getD k0.toNat Str.empty)) else c.start gone (tagL k0) e5 pt5).es = (c.start gone (tagL k0) e5 pt5).es := by split <;> rfl
      have pt7 : (if (c.start gone (tagL k0) e5 pt5).ig = 0 then (c.start gone (tagL k0) e5 pt5).sDat (some (xs.getD k0.toNat Str.empty)) else c.start gone (tagL k0) e5 pt5).pt = (c.start gone (tagL k0) e5 pt5).pt := by split <;> rfl
      obtain ⟨T8, F8, N8, off8, x8⟩ := WT.turn keepF2 NT zI hoff xT hid (W5.trans W7) (es7 ▸ ES5.moves W7.moves) (es7 ▸ en5) (pt7 ▸ TH5.moves W7.moves)
      (try refine Stop.mk ?_)
      refine (show TurnEnd _ _ _ _ _ _ _ _ _ _ from ?_)
      exact ⟨rfl, h7, tk7, G5, _, (_, T8), rfl, hg.trans hg5, F8, (fun p hp => by simp only [List.mem_cons, List.not_mem_nil, or_false] at hp; rcases hp with rfl | rfl | rfl <;> rfl), N8, off8, x8, hws ▸ bg2⟩
  case done =>
    intro c u9 h tk G hP hg F N
    obtain ⟨xT, hG⟩ := hP
    obtain ⟨_, ⟨n10, vs10, rfl, p4⟩, s10⟩ := xT.at_ 10 (by decide)
    have N0 : News B L2 h ((P.lp, listOf (List.toArray vs10) n10) :: c.2) := fun p hp => by
      rcases List.mem_cons.mp hp with rfl | hp
      · exact N _ s10
      · exact N _ hp
    clear N
    k_steps
    refine Stop.mk ?_
    (with_reducible rename Fr _ _ _ _ => F2)
    (with_reducible rename News _ _ _ _ => N2)
    have hlen := hAc.length
    rw [List.length_map] at hlen
    have hce : cs.take vc.length = cs := List.take_of_length_le (by omega)
    rw [hce] at hG
    have hb := wRun_at gone xs cs cs.length (by omega)
    rw [List.take_length] at hb
    have hpl := wRun_pl gone xs hxz cs (fun p hp => Nat.le_of_eq (item_len (hck p hp).1 (by have := (hck p hp).2; omega))) wStart (fun y e => by cases e) (fun q hq => nomatch hq)
    have hsum := sum_pl 12500 _ hpl
    change ((wRun gone xs cs).parts.map (·.length)).sum ≤ 12500 * (wRun gone xs cs).parts.length at hsum
    rw [hG.parts] at p4
    refine join_listW (s := ⟨_, _, _, _, _⟩) (items := vs10.toArray) (isList_N (s := ⟨_, _, _, _, _⟩) (n := n10) (vs := vs10) N2 (by k_mem)) p4 (by decide) (by omega) fun t7 k7 => ?_
    obtain ⟨r1, tw1, tr1⟩ := xT.tab
    obtain ⟨rest2, hT2, hm2, hr2⟩ := TabW.min tw1
    obtain ⟨_, rfl, s11⟩ := xT.at_ 11 (by decide)
    have NR : News B L2 h ((142, tabObj c.1.pt) :: rest2) := fun p hp => N2 p (by
      rcases List.mem_cons.mp hp with rfl | hp
      · exact .tail _ s11
      · exact .tail _ (tr1 p (hm2 p hp)).1)
    obtain ⟨F4, N4⟩ := lv _ _ _ F2 NR
    (try refine Stop.mk ?_)
    exact ret h k7 G c.1.pt rest2 t7 hg F4 N4 hT2 hr2 (fun p hp b hb e => (tr1 p (hm2 p hp)).2.1 ((List.mem_singleton.mp hb ▸ e : p.1 = 142) ▸ mut142.own)) fun b o e1 h1 h2 => ⟨F2.keep b o (hall b o e1 h1 h2), fun p hp e => by
      have z := (NR p (.tail _ hp)).2.2
      rw [e, hall b o e1 h1 h2] at z
      cases z⟩
end Mine
end
theorem Mine.Lw_w0 : True := by
  k_with_none
  trivial
section
open PySem PySem.W PySem.Calls PyProof.Rows
set_option maxRecDepth 100000
set_option maxHeartbeats 8000000
namespace Mine
theorem fr_stays {g h h' : Heap} {L : Addr} {m : Str → Option Value} (F : Fr g L h m) (k : h.StaysIn h') : Fr g L h' m := ⟨F.ns.at' fun o e => k _ o e, fun b o e => k b o (F.keep b o e), F.above⟩
/-- a callee's fresh ledger joins the tail -/
theorem led_more {g h h' : Heap} {L : Addr} {m : Str → Option Value} {front R : Led} {v : Value} {d : Dat} {as : List Addr} (F : Fr g L h m) (N : News g L h (front ++ R)) (off : OwnOff R as) (has : ∀ b ∈ as, ∃ o, (b, o) ∈ front) (k : h.StaysIn h') (D : DatNew h h' v d) :
    ∃ R' : Led, (∀ p ∈ R, p ∈ R') ∧ Fr g L h' m ∧ News g L h' (front ++ R') ∧ OwnOff R' as ∧ DatIn R' v d := by
  obtain ⟨fr, H, D⟩ := D
  refine ⟨fr ++ R, fun p hp => List.mem_append_right _ hp, fr_stays F k, fun p hp => ?_, fun p hp b hb => ?_, D.mono fun p hp => List.mem_append_left _ hp⟩
  · rcases List.mem_append.mp hp with hp | hp
    · exact ⟨k _ _ (N p (List.mem_append_left _ hp)).1, (N p (List.mem_append_left _ hp)).2⟩
    rcases List.mem_append.mp hp with hp | hp
    · exact news_fresh F H p hp
    · exact ⟨k _ _ (N p (List.mem_append_right _ hp)).1, (N p (List.mem_append_right _ hp)).2⟩
  · rcases List.mem_append.mp hp with hp | hp
    · obtain ⟨o, ho⟩ := has b hb
      exact fresh_ne N H p hp (b, o) (List.mem_append_left _ ho)
    · exact off p hp b hb
/-- the same without a datum -/
theorem led_stays {g h h' : Heap} {L : Addr} {m : Str → Option Value} {news : Led} (F : Fr g L h m) (N : News g L h news) (k : h.StaysIn h') : Fr g L h' m ∧ News g L h' news :=
  ⟨fr_stays F k, fun p hp => ⟨k _ _ (N p hp).1, (N p hp).2⟩⟩
theorem dat_at {g h : Heap} {L : Addr} {news R : Led} {v : Value} {d : Dat} (N : News g L h news) (hs : ∀ p ∈ R, p ∈ news) (D : DatIn R v d) : DatAt h v d := ⟨R, fun p hp => (N p (hs p hp)).1, D⟩
theorem ints_at {vs : List Value} {ns : List Int} (h : IntsAre vs ns) : ∀ (i : Nat) (v : Value), vs[i]? = some v → ∃ n t, ns[i]? = some n ∧ v = .int n t := by
  induction h with
  | nil => intro i v e; cases e
  | cons y t r ih =>
    intro i v e
    cases i with
    | zero => cases e; exact ⟨y, t, rfl, rfl⟩
    | succ i => exact ih i v e
end Mine
end
section
open PySem PySem.W PySem.Calls PyProof.Rows
set_option maxRecDepth 100000
set_option maxHeartbeats 8000000
namespace Mine
open PySem.SeqAt
theorem eqAt_bytes {A : Around} {s : Shared} (b c : Array UInt8) (t u : Tok) : EqAt A s (.bytes b t) (.bytes c u) (b.toList == c.toList) := by
  intro prog w E Q h
  unfold eqBool
  refine wpAny_holding ?_
  refine wpAny_ite_split (fun hab => ?_) (fun hab => ?_)
  · have e : b = c := by have := eq_of_beq hab; injection this
    subst e
    exact wpAny_bind (wpAny_rule (wpAny_pure (by simpa using h)))
  · exact wpAny_bind (richCompare_gives (typeIs_bytes s b t) (typeIs_bytes s c u) FB.slot_bytes_eq FB.entry_bytes_eq (FB.args_bytes_eq_2 _ _) (gives_bytes_eq b c t u) (by simp [Made.takes]) (wpAny_truthy_bool h))
/-- a tuple of bytes that a heap bears -/
theorem tup_bytes {ns : Led} {h : Heap} {v : Value} {bs : List (Array UInt8)} (o : Old h ns) (D : DatIn ns v (.tuple (bs.map Dat.bytes))) : ∃ T vs, v = .ref T ∧ h.IsTuple T vs.toArray ∧ BytesAre vs bs := by
  cases D with
  | tuple hm r => exact ⟨_, _, rfl, ⟨_, o _ hm, rfl, _, rfl⟩, bytes_of r⟩
theorem bytes_at {vs : List Value} {bs : List (Array UInt8)} (h : BytesAre vs bs) : ∀ (i : Nat) (v : Value), vs[i]? = some v → ∃ b t, bs[i]? = some b ∧ v = .bytes b t := by
  induction h with
  | nil => intro i v e; cases e
  | cons y t r ih =>
    intro i v e
    cases i with
    | zero => cases e; exact ⟨y, t, rfl, rfl⟩
    | succ i => exact ih i v e
theorem eqAt_tups {A : Around} {s : Shared} {n1 n2 : Led} {v v' : Value} {bs : List (Array UInt8)} (o1 : Old s.heap n1) (o2 : Old s.heap n2) (D1 : DatIn n1 v (.tuple (bs.map Dat.bytes))) (D2 : DatIn n2 v' (.tuple (bs.map Dat.bytes))) (hu : A.units < cLine) : EqAt A s v v' true := by
  obtain ⟨T1, vs1, rfl, i1, b1⟩ := tup_bytes o1 D1
  obtain ⟨T2, vs2, rfl, i2, b2⟩ := tup_bytes o2 D2
  by_cases h : T1 = T2
  · subst h; exact EqAt.same _
  have l1 := b1.length
  have l2 := b2.length
  have := RcAt.tuples (A := A) (e := fun _ => true) i1 i2 hu fun j h1 h2 => by
    obtain ⟨x, t, e1, e2⟩ := bytes_at b1 j vs1.toArray[j] (by simp at h1; simp [h1])
    obtain ⟨y, u, e3, e4⟩ := bytes_at b2 j vs2.toArray[j] (by simp at h2; simp [h2])
    rw [e2, e4]
    rw [e1] at e3
    cases e3
    have := eqAt_bytes (A := A.in1) (s := s) x x t u
    simpa using this
  refine EqAt.of_refs h ?_
  have e : ((List.range (min vs1.toArray.size vs2.toArray.size)).all (fun _ => true) && vs1.toArray.size == vs2.toArray.size) = true := by
    simp [l1, l2]
  rw [e] at this
  exact this
/-- two lists of the same tuples of bytes -/
theorem ne_rows {prog : Program} {w : World} {A : Around} {E : Value → Shared → Prop} {s : Shared} {a b : Addr} {rows : List (List (Array UInt8))} {Q : Value → Shared → Prop} (h1 : DatAt s.heap (.ref a) (.list (rows.map fun bs => .tuple (bs.map Dat.bytes)))) (h2 : DatAt s.heap (.ref b) (.list (rows.map fun bs => .tuple (bs.map Dat.bytes))))
    (hu : A.units + 1 < cLine) (h : Q (.bool false) s) : wpAny (model prog w) A (compareOp .NotEq (.ref a) (.ref b)) Q E s := by
  obtain ⟨n1, vs1, o1, d1, i1⟩ := h1.list
  obtain ⟨n2, vs2, o2, d2, i2⟩ := h2.list
  have l1 := d1.length
  have l2 := d2.length
  have l12 : vs1.toArray.size = vs2.toArray.size := by simp [l1, l2]
  have := RcNeAt.lists (A := A) (e := fun _ => true) i1 i2 l12 (Nat.lt_of_le_of_lt (Nat.le_add_right _ _) hu) fun j h1 h2 => by
    have hj : j < (rows.map fun bs => Dat.tuple (bs.map Dat.bytes)).length := by rw [← l1]; simpa using h1
    obtain ⟨v, e1, r1⟩ := d1.get hj
    obtain ⟨v', e2, r2⟩ := d2.get hj
    rw [List.getElem_map] at r1 r2
    have q1 : vs1.toArray[j] = v := by
      simp at h1
      rw [List.getElem?_eq_getElem h1] at e1
      simpa using e1
    have q2 : vs2.toArray[j] = v' := by
      simp at h2
      rw [List.getElem?_eq_getElem h2] at e2
      simpa using e2
    rw [q1, q2]
    exact eqAt_tups o1 o2 r1 r2 (by show A.units + 1 < cLine; exact hu)
  rw [show ((List.range vs1.toArray.size).all (fun _ => true)) = true by simp] at this
  exact this prog w E Q h
noncomputable def eqB (b : Array UInt8) : Value → Bool
  | .bytes c _ => c.toList == b.toList
  | _ => false
theorem any_bytes (b : Array UInt8) : ∀ {vs : List Value} {bs : List (Array UInt8)}, BytesAre vs bs → vs.any (eqB b) = bs.any fun c => c.toList == b.toList
  | _, _, .nil => rfl
  | _, _, .cons c t r => by rw [List.any_cons, List.any_cons, any_bytes b r]; rfl
theorem bytes_mem {vs : List Value} {bs : List (Array UInt8)} (b : BytesAre vs bs) : ∀ y ∈ vs, ∃ c t, y = .bytes c t := by
  induction b with
  | nil => intro y h; cases h
  | cons c t r ih =>
    intro y h
    rcases List.mem_cons.mp h with rfl | h
    · exact ⟨c, t, rfl⟩
    · exact ih y h
/-- bytes not in a tuple of bytes -/
theorem notIn_row {prog : Program} {w : World} {A : Around} {E : Value → Shared → Prop} {s : Shared} {T : Addr} {b : Array UInt8} {t : Tok} {vs : List Value} {bs : List (Array UInt8)} {Q : Value → Shared → Prop} (i : s.heap.IsTuple T vs.toArray) (hb : BytesAre vs bs)
    (h : Q (.bool (!bs.any fun c => c.toList == b.toList)) s) : wpAny (model prog w) A (compareOp .NotIn (.bytes b t) (.ref T)) Q E s := by
  refine notIn_tupleAt (eqB b) i (fun y hy => ?_) ?_
  · obtain ⟨c, u, rfl⟩ := bytes_mem hb y (by simpa using hy)
    exact eqAt_bytes c b u t
  · have : vs.toArray.any (eqB b) = bs.any fun c => c.toList == b.toList := by rw [List.any_toArray]; exact any_bytes b hb
    rw [this]; exact h
end Mine
end
section
open PySem PySem.W PySem.Calls PyProof.Rows
set_option maxRecDepth 100000
set_option maxHeartbeats 8000000
namespace Mine

noncomputable def nameL (k : Nat) : Str := Txt.item (Str.ofString "abcdef") (k : Int)
noncomputable def nStep (st : List (List Str) × List Str) (p : Int × Nat) : List (List Str) × List Str := (st.1 ++ [st.2.take p.1.toNat], st.2.take p.1.toNat ++ [nameL p.2])
noncomputable def namesL (ds : List Int) : List (List Str) := (ds.zipIdx.foldl nStep ([], [])).1
structure NSt where
  avs : List Value
  ep : Nat
  ia : Addr
  ivs : List Value
  ss : List Str
  tl : List (Addr × Obj)
  dn : List (List Str)
section
theorem S4_w1 : True := by
  k_with_none
  k_with "exec For" => ((k_here; (with_reducible rename Fr _ _ _ _ => lF'); (with_unfolding_all refine' For_invVF lF' ?k1 ?k2 ?_); (case k1 => exact rfl); (case k2 => exact rfl)))
  k_with "pyIter ref" => ((with_reducible refine Stop.out ?_))
  k_with "call type:range" => ((with_reducible refine Stop.out ?_))
  k_with "InvEndG" => ((with_reducible refine Stop.out ?_))
  k_with "subscriptTail Name Slice" => ((with_reducible refine Stop.out ?_))
  k_with "call builtin:list.append" => ((with_reducible refine Stop.out ?_))
  k_with "binaryOp Add ref ref" => ((with_reducible refine Stop.out ?_))
  k_with "Halt" => ((with_reducible refine Stop.out ?_))
  k_with "execs cons" => (k_here; first | with_reducible refine th_one ?_ | with_reducible refine th_cons ?_)
  k_with "Th" => (first | ((with_reducible refine' th_next (s₀ := s) ?F ?_ ?e); (case F => assumption); (case e => with_reducible rfl); (try clear tk9); intro tk9) | with_reducible refine th_ret ?_)
  trivial
theorem names_spec (w : World) (loose : List Str) (mean : ExcName → Option Value) (mg mb : Str → Option Value) (A : Around) (s : Shared) (Q E : Value → Shared → Prop) (a : Addr) (vs : List Value) (ns : List Int) :
    Room 5 40 A → (Mine.hd0.heap_1_1 w.params).In s.heap → Top topProg loose mean mg mb s.heap → (s.heap.IsList a vs.toArray) → (IntsAre vs ns) → (ns.length ≤ 6) → (∀ d ∈ ns, 0 ≤ d) →
    Ends s Q (fun v h => DatNew s.heap h v (.list ((namesL ns).map dStrs))) →
    wpAny (model PySem.Challenge.rw_if0001_01.row.prog w) A (call (.ref 220) [.ref a]) Q E s := by
  k_fill
  intro R X T h0 h1 h2 h3 ret
  with_reducible refine hideG ?_
  intro G0 hG0
  obtain ⟨hh, dp, fr, gd, un⟩ := A
  with_reducible refine hG0 ?_
  clear hG0 G0
  obtain ⟨hA, hdp, hun⟩ := R
  cases hA
  dsimp only at hdp hun
  refine' pcall (binds := [(Str.ofString "depths", .ref a)]) (by assumption) (by assumption) ?hd ?ho ?hcd ?hb ?hl ?hc ?h1 ?h2 ?h3 ?_
  (case ho => k_is)
  (case hcd => k_is)
  (case hd => ((try dsimp only); (try simp only [recursionLimit]); omega))
  (case hb => first | exact BindsTo.of_eq rfl | exact binds_K (by assumption) rfl (by k_is) rfl rfl rfl)
  (case hc => decide)
  (case hl => exact locs rfl)
  (case h1 => exact rfl)
  (case h2 => exact rfl)
  (case h3 => exact rfl)
  k_whole
  intro L' h' F' N'
  (try dsimp only)
  (try k_fold)
  refine (let ev : Env := _; let ae : Around := _; (?_ : wpAny _ ae (execs _ ev) _ _ _))
  with_reducible refine hide1 ?_; intro QF hQF
  k_steps
  refine Stop.mk ?_

  rename_i lA _ _ _ lI _ l1 _ lF N
  refine range1_rows lF N fun hr tkr t1 u1 v1 R F N kp => ?_
  clear lF
  dsimp only at *
  refine loop_R (n := ns.length) (σ := NSt) (fun c => (lA, listOf c.avs.toArray c.ep) :: c.tl) (fun c => [(Str.ofString "depths", .ref a), (Str.ofString "around", .ref lA), (Str.ofString "inside", .ref c.ia)])
    (fun i c => (c.ia, listOf c.ivs.toArray 0) ∈ c.tl ∧ StrsAre c.ivs c.ss ∧ DatAll c.tl c.avs (c.dn.map dStrs) ∧ (∀ p ∈ c.tl, p.1 ≠ lA) ∧ (ns.zipIdx.take i).foldl nStep ([], []) = (c.dn, c.ss) ∧ c.ss.length ≤ i ∧ c.avs.length = i) ⟨[], 0, lI, [], [], [(lI, listOf #[] 0)], []⟩ rfl R ?sm ?sz F N ?hn ?hk ?hp ?turn ?done
  case sm => exact small_n (Nat.le_trans h2 (by decide))
  case sz => exact rsize_n _
  case hn => intro p hp; rcases List.mem_cons.mp hp with rfl | hp; exact .tail _ (.head _); rw [List.mem_singleton.mp hp]; exact .head _
  case hk => intro p hp; simp only [List.mem_cons, List.not_mem_nil, or_false] at hp; rcases hp with rfl | rfl | rfl <;> rfl
  case hp => exact ⟨.head _, .nil, .nil, fun p hp => by rw [List.mem_singleton.mp hp]; exact Nat.ne_of_gt l1, rfl, Nat.le_refl _, rfl⟩
  case turn =>
    intro i t zz2 u h tk own hi zz8 ho F N
    (first | with_reducible refine hide2 ?_ | with_reducible refine hide1 ?_); intro QT hQT
    with_reducible refine hideG ?_
    intro G0 hG0
    obtain ⟨avs, ep, ia, ivs, ss, tl, dn⟩ := zz2
    obtain ⟨p1, p2, p3, p4, p5, p6, p7⟩ := zz8
    with_reducible refine hG0 ?_
    clear hG0 G0
    dsimp only at p1 p2 p3 p4 p5 p6 p7
    dsimp only [List.map] at *
    have hd : 0 ≤ ns.getD i 0 := by
      rw [List.getD_eq_getElem?_getD, List.getElem?_eq_getElem hi]
      exact h3 _ (List.getElem_mem hi)
    k_steps
    all_goals (try (exfalso; (have hd9 : 0 ≤ ns.getD ((0 : Int) + (i : Int)).toNat 0 := by rw [show ((0 : Int) + (i : Int)).toNat = i from by rw [Int.zero_add]; rfl]; exact hd); rename_i _ hSg; exact absurd hSg (Int.not_lt.mpr hd9)))
    refine Stop.mk ?_
    have hvl : ivs.length ≤ 6 := by rw [p2.length]; exact Nat.le_trans p6 (Nat.le_trans (Nat.le_of_lt hi) h2)
    (with_reducible rename Fr _ _ _ _ => F1)
    (with_reducible rename News _ _ _ _ => N1)
    refine sl_upto (s := ⟨_, _, _, _, _⟩) F1 N1 (List.mem_append.mpr (.inl (.tail _ p1))) ?hk9 (Nat.le_trans hvl (by decide)) (fun D1 hh1 F2 N2 l2 => ?_) (by with_unfolding_all rfl) (by intro _; with_unfolding_all rfl)
    case hk9 => rw [show ((0 : Int) + (i : Int)).toNat = i from by rw [Int.zero_add]; rfl]; exact hd
    rw [show ((0 : Int) + (i : Int)).toNat = i from by rw [Int.zero_add]; rfl] at N2
    have hD1 : lA < D1 := l2 _ (.head _)
    k_steps
    refine Stop.mk ?_
    (with_reducible rename Fr _ _ _ _ => F3)
    (with_reducible rename News _ _ _ _ => N3)
    refine app_any ((D1, listOf (ivs.take (ns.getD i 0).toNat).toArray 0) :: (tl ++ own)) F3 N3 (.tail _ (.head _)) ?hs9 ?hn9 (by rw [p7]; exact Nat.le_trans (Nat.le_of_lt hi) (Nat.le_trans h2 (by decide))) (fun hh4 F4 N4 => ?_)
    case hs9 => intro p hp; simp only [List.mem_cons, List.cons_append] at hp ⊢; grind
    case hn9 =>
      intro p hp
      rcases List.mem_cons.mp hp with rfl | hp
      · exact Nat.ne_of_gt hD1
      · rcases List.mem_append.mp hp with hp | hp
        · exact p4 p hp
        · exact ho p hp lA (.head _)
    k_steps
    refine Stop.mk ?_
    (with_reducible rename Fr _ _ _ _ => F5)
    (with_reducible rename News _ _ _ _ => N5)
    refine cat_any F5 N5 (isList_N N5 (.tail _ (.tail _ (.head _)))) (isList_N N5 (.head _)) ?hz9 (fun D2 hh6 F6 N6 l6 => ?_)
    case hz9 => simp only [List.length_take, List.length_singleton]; exact Nat.le_trans (Nat.add_le_add_right (Nat.le_trans (Nat.min_le_right _ _) hvl) 1) (by decide)
    k_steps
    refine Stop.mk ?_
    (with_reducible rename Fr _ _ _ _ => F9)
    (with_reducible rename News _ _ _ _ => N9)
    simp only [Int.zero_add] at N9
    have hgd : ns[i] = ns.getD i 0 := by rw [List.getD_eq_getElem?_getD, List.getElem?_eq_getElem hi]; rfl
    have e5 : (ns.zipIdx.take (i + 1)).foldl nStep ([], []) = (dn ++ [ss.take (ns.getD i 0).toNat], ss.take (ns.getD i 0).toNat ++ [nameL i]) := by
      have hz : ns.zipIdx[i]? = some (ns.getD i 0, i) := by rw [List.getElem?_zipIdx, List.getElem?_eq_getElem hi, Option.map_some, Nat.zero_add, hgd]
      rw [List.take_add_one, hz, List.foldl_append, p5]; rfl
    refine hQT _ _ ?_
    refine' js_end (c := ⟨avs ++ [.ref D1], ep + 1, D2, ivs.take (ns.getD i 0).toNat ++ [Value.str (nameL i) _], ss.take (ns.getD i 0).toNat ++ [nameL i], (D2, listOf (ivs.take (ns.getD i 0).toNat ++ [Value.str (nameL i) _]).toArray 0) :: (D1, listOf (ivs.take (ns.getD i 0).toNat).toArray 0) :: tl, dn ++ [ss.take (ns.getD i 0).toNat]⟩) F9 N9 ?hn8 ?ho8 ?ha8 ?hk8 ⟨.head _, strs_snoc (strs_take p2 _), ?q3, ?q4, e5, ?q6, ?q7⟩
    case hn8 =>
      intro p hp
      rcases List.mem_cons.mp hp with e | hp
      · rw [e]; exact .tail _ (.tail _ (.head _))
      rcases List.mem_cons.mp hp with e | hp
      · rw [e]; exact .head _
      rcases List.mem_cons.mp hp with e | hp
      · rw [e]; exact .tail _ (.tail _ (.tail _ (.head _)))
      · exact .tail _ (.tail _ (.tail _ (.tail _ (List.mem_append.mpr (.inl hp)))))
    case ho8 => intro p hp; exact .tail _ (.tail _ (.tail _ (.tail _ (List.mem_append.mpr (.inr hp)))))
    case ha8 =>
      intro p hp b hb
      have hpN : p ∈ (lA, listOf avs.toArray ep) :: tl ++ own := List.mem_append.mpr (.inr hp)
      have h8 : p.1 < D1 := l2 p hpN
      have h7 : p.1 < D2 := l6 p (.tail _ (.tail _ (.tail _ (List.mem_append.mpr (.inr hp)))))
      rcases List.mem_cons.mp hb with rfl | hb
      · exact ho p hp _ (.head _)
      rcases List.mem_cons.mp hb with rfl | hb
      · exact Nat.ne_of_lt h7
      rcases List.mem_cons.mp hb with rfl | hb
      · exact Nat.ne_of_lt h8
      · exact ho p hp b (.tail _ hb)
    case hk8 => intro p hp; simp only [List.mem_cons, List.not_mem_nil, or_false] at hp; rcases hp with rfl | rfl | rfl <;> rfl
    case q3 =>
      dsimp only
      rw [List.map_append]
      refine DatAll.append (DatAll.mono (fun p hp => .tail _ (.tail _ hp)) p3) (DatAll.one (.list (.tail _ (.head _)) (strs_dat (strs_take p2 _))))
    case q4 =>
      intro p hp
      rcases List.mem_cons.mp hp with rfl | hp
      · exact Nat.ne_of_gt (l6 (lA, _) (.tail _ (.head _)))
      rcases List.mem_cons.mp hp with rfl | hp
      · exact Nat.ne_of_gt hD1
      · exact p4 p hp
    case q6 => simp only [List.length_append, List.length_take, List.length_singleton]; exact Nat.succ_le_succ (Nat.le_trans (Nat.min_le_right _ _) p6)
    case q7 => simp only [List.length_append, List.length_singleton]; rw [p7]
  case done =>
    intro zz0 u h tk zz4 F N
    with_reducible refine hideG ?_
    intro G0 hG0
    obtain ⟨avs, ep, ia, ivs, ss, tl, dn⟩ := zz0
    obtain ⟨p1, p2, p3, p4, p5, p6, p7⟩ := zz4
    with_reducible refine hG0 ?_
    clear hG0 G0
    dsimp only at p1 p2 p3 p4 p5 p6 p7 F N
    k_steps
    (with_reducible rename Fr _ _ _ _ => F9)
    (with_reducible rename News _ _ _ _ => N9)
    have e9 : namesL ns = dn := by
      have h9 : ns.zipIdx.take ns.length = ns.zipIdx := List.take_of_length_le (by simp)
      rw [h9] at p5
      unfold namesL; rw [p5]
    (try refine Stop.mk ?_)
    refine hQF _ _ (ret _ _ _ (Fr.keep F9) ⟨(lA, listOf avs.toArray ep) :: tl, fun p hp => ?_, e9 ▸ .list (.head _) (DatAll.mono (fun p hp => .tail _ hp) p3)⟩)
    have h9 := N9 p hp
    exact ⟨h9.1, h9.2.2⟩
end
theorem S4_w2 : True := by
  k_with_none
  trivial
end Mine
end
theorem Mine.La_w0 : True := by
  k_with_none
  trivial
section
open PySem PySem.W PySem.Calls PyProof.Rows
set_option maxRecDepth 100000
set_option maxHeartbeats 8000000
namespace Mine
theorem getD_some {tx : Array Nat} {i c : Nat} (hc : c ≠ 0) : tx.getD i 0 = c ↔ tx.toList[i]? = some c := by
  rw [Array.getElem?_toList, Array.getD_eq_getD_getElem?]
  cases tx[i]? with
  | none => simp [hc.symm]
  | some a => simp
theorem get_left {A B : List Nat} {i : Nat} (h : i < A.length) : (A ++ B)[i]? = A[i]? := List.getElem?_append_left h
theorem get_right {A B : List Nat} (i : Nat) : (A ++ B)[A.length + i]? = B[i]? := by
  rw [List.getElem?_append_right (Nat.le_add_right _ _), Nat.add_sub_cancel_left]
/-- the last list of flags that is shut -/
theorem hit_of {tx : Array Nat} {H0 W B : List Nat} (e : tx.toList = H0 ++ ([70, 76, 65, 71, 83, 32, 40] ++ (W ++ (41 :: B)))) (h10 : 10 ∉ H0) (hW1 : 41 ∉ W) (hW2 : 70 ∉ W) (hB : 70 ∉ B ∨ 41 ∉ B) :
    Hit tx H0.length (H0.length + 7 + W.length) := by
  have hsz : tx.size = H0.length + (7 + (W.length + (1 + B.length))) := by
    rw [← Array.length_toList, e]; simp only [List.length_append, List.length_cons, List.length_nil]; omega
  have at7 : ∀ k c, c ≠ 0 → [70, 76, 65, 71, 83, 32, 40][k]? = some c → tx.getD (H0.length + k) 0 = c := by
    intro k c hc hk
    rw [getD_some hc, e, get_right]
    have : k < 7 := by have := (List.getElem?_eq_some_iff.mp hk).1; simpa using this
    rw [get_left (by simpa using this)]; exact hk
  have after : ∀ i, tx.toList[H0.length + (7 + i)]? = (W ++ (41 :: B))[i]? := by
    intro i
    rw [e, get_right, show 7 + i = [70, 76, 65, 71, 83, 32, 40].length + i from rfl, get_right]
  refine ⟨⟨by omega, at7 0 70 (by decide) rfl, at7 1 76 (by decide) rfl, at7 2 65 (by decide) rfl, at7 3 71 (by decide) rfl, at7 4 83 (by decide) rfl, at7 5 32 (by decide) rfl, at7 6 40 (by decide) rfl⟩, by omega, by omega, ?_, ?_, ?_, ?_⟩
  · rw [getD_some (by decide), Nat.add_assoc, after, show W.length = W.length + 0 from rfl, get_right]; rfl
  · intro j h1 h2 h
    obtain ⟨k, rfl⟩ := Nat.exists_eq_add_of_le h1
    rw [getD_some (by decide), Nat.add_assoc, after, get_left (Nat.lt_of_add_lt_add_left h2)] at h
    exact hW1 (List.mem_of_getElem? h)
  · intro j h1 h
    rw [getD_some (by decide), e, get_left h1] at h
    exact h10 (List.mem_of_getElem? h)
  · intro p' h1 hF j h2 h3 h
    have h70 := hF.2.1
    rw [getD_some (by decide)] at h70 h
    have hp : H0.length + (7 + (W.length + 1)) ≤ p' := by
      rcases Nat.lt_or_ge p' (H0.length + 7) with a | a
      · obtain ⟨k, rfl⟩ := Nat.exists_eq_add_of_le (Nat.le_of_lt h1)
        have hk : k < 7 := Nat.lt_of_add_lt_add_left a
        rw [e, get_right, get_left hk] at h70
        exact absurd h70 ((by decide : ∀ k, k < 7 → 0 < k → ¬ [70, 76, 65, 71, 83, 32, 40][k]? = some 70) k hk (Nat.pos_of_lt_add_right h1))
      rcases Nat.lt_or_ge p' (H0.length + (7 + W.length)) with b | b
      · obtain ⟨k, rfl⟩ := Nat.exists_eq_add_of_le a
        rw [Nat.add_assoc, after, get_left (Nat.lt_of_add_lt_add_left (Nat.lt_of_add_lt_add_left (by rwa [Nat.add_assoc] at b)))] at h70
        exact absurd (List.mem_of_getElem? h70) hW2
      rcases Nat.eq_or_lt_of_le b with c | c
      · rw [← c, after, show W.length = W.length + 0 from rfl, get_right] at h70
        simp at h70
      · exact c
    have tail : ∀ i, tx.toList[H0.length + (7 + (W.length + 1)) + i]? = B[i]? := by
      intro i
      rw [Nat.add_assoc, Nat.add_assoc, Nat.add_assoc, after, get_right, Nat.add_comm 1]; rfl
    obtain ⟨i, rfl⟩ := Nat.exists_eq_add_of_le hp
    obtain ⟨q, rfl⟩ := Nat.exists_eq_add_of_le (Nat.le_trans hp (Nat.le_trans (Nat.le_add_right _ 7) h2))
    rw [tail] at h70 h
    rcases hB with hB | hB
    · exact hB (List.mem_of_getElem? h70)
    · exact hB (List.mem_of_getElem? h)
theorem miss_of {tx : Array Nat} (h : 70 ∉ tx.toList ∨ 41 ∉ tx.toList) : Miss tx := by
  intro p' hF j h1 h2 h3
  have h70 := hF.2.1
  rw [getD_some (by decide)] at h70 h3
  rcases h with h | h
  · exact h (List.mem_of_getElem? h70)
  · exact h (List.mem_of_getElem? h3)
/-- the lists of names that can stand around -/
noncomputable def subsN : List Nat → List (List Nat)
  | [] => [[]]
  | a :: r => subsN r ++ (subsN r).map (a :: ·)
noncomputable def nmL : List (List Nat) := [] :: (subsN [1, 2, 3, 4]).map (0 :: ·)
noncomputable def toldN (nm : List Nat) (f : Int) : List (Array UInt8) := toldL (nm.map nameL) f
noncomputable def sure70 (l : List Nat) : Bool := !l.contains 41 && !l.contains 70
theorem words_ok : ∀ nm ∈ nmL, ∀ f ∈ [(0 : Int), 1, 2, 3], wordsL (Builtin.Bytes.joined (blankB f) (toldN nm f)) = toldN nm f ∧ sure70 ((Builtin.Bytes.joined (blankB f) (toldN nm f)).toList.map (·.toNat)) = true := by decide +kernel
end Mine
end
section
open PySem PySem.W PySem.Calls PyProof.Rows
set_option maxRecDepth 100000
set_option maxHeartbeats 8000000
namespace Mine
noncomputable def textL (c : Int) : Str := stemL c ++ whiteL c
theorem white_mem {c : Int} (h : 0 ≤ c) : whiteL c ∈ whites := by
  obtain ⟨n, rfl⟩ := Int.eq_ofNat_of_zero_le h
  unfold whiteL
  rw [List.getD_eq_getElem?_getD]
  have : ((n : Int) / 960 % 8).toNat < whites.length := show n / 960 % 8 < 8 from Nat.mod_lt _ (by decide)
  rw [List.getElem?_eq_getElem this]
  exact List.getElem_mem _
theorem stem_mem {c : Int} (h : 0 ≤ c) (h2 : c < 1000000) : (∃ v : Nat, stemL c = ⟨#[v]⟩ ++ Str.ofString "." ∧ v % 16 = 15 ∧ v < 20000) ∨ stemL c ∈ stems := by
  obtain ⟨n, rfl⟩ := Int.eq_ofNat_of_zero_le h
  unfold stemL
  by_cases hc : (n : Int) / 60 % 16 = 15
  · rw [if_pos hc]
    have h3 : n / 60 % 16 = 15 := Int.ofNat.inj hc
    have h4 : n / 60 < 16667 := Nat.div_lt_of_lt_mul (Nat.lt_trans (Int.ofNat_lt.mp h2) (by decide))
    refine .inl ⟨_, rfl, ?_, ?_⟩
    · show (32 + n / 60) % 16 = 15
      rw [Nat.add_comm]; exact (Nat.add_mul_mod_self_left (n / 60) 16 2).trans h3
    · show 32 + n / 60 < 20000
      exact Nat.lt_trans (Nat.add_lt_add_left h4 32) (by decide)
  · rw [if_neg hc]
    refine .inr ?_
    rw [List.getD_eq_getElem?_getD]
    have : ((n : Int) / 60 % 16).toNat < stems.length := show n / 60 % 16 < 15 from Nat.lt_of_le_of_ne (Nat.le_of_lt_succ (Nat.mod_lt _ (by decide))) fun q => hc (congrArg Int.ofNat q)
    rw [List.getElem?_eq_getElem this]
    exact List.getElem_mem _
noncomputable def bytesN (x : Str) : List Nat := (x.cps.toList.flatMap Str.utf8Of).map (·.toNat)
theorem bytesN_append (x y : Str) : bytesN (x ++ y) = bytesN x ++ bytesN y := by
  unfold bytesN
  rw [Str.cps_append, Array.toList_append, List.flatMap_append, List.map_append]
theorem behind_list (x : Str) : ((behindL x).map (·.toNat)).toList = bHead.toList.map (·.toNat) ++ (bytesN x ++ bTail.toList.map (·.toNat)) := by
  unfold behindL bytesN
  rw [Array.toList_map, Array.toList_append, Array.toList_append, utf8L_list, List.map_append, List.map_append, List.append_assoc]
theorem utf8_tab : ∀ a, a < 25 → ∀ b, b < 50 → 41 ∉ (Str.utf8Of (16 * (50 * a + b) + 15)).map (·.toNat) := by decide +kernel
theorem utf8_no41 {v : Nat} (h : v % 16 = 15) (h2 : v < 20000) : 41 ∉ (Str.utf8Of v).map (·.toNat) := by
  have e : v = 16 * (50 * (v / 16 / 50) + v / 16 % 50) + 15 := by
    have := Nat.div_add_mod v 16
    rw [h] at this
    rw [Nat.div_add_mod]; exact this.symm
  rw [e]
  exact utf8_tab _ (Nat.div_lt_of_lt_mul (Nat.div_lt_of_lt_mul h2)) _ (Nat.mod_lt _ (by decide))
theorem whites_ok : ∀ x ∈ whites, 41 ∉ bytesN x ∧ 70 ∉ bytesN x ∧ x.length ≤ 2 ∧ (x.cps.toList.all fun c => !Str.isSurrogate c) = true ∧ (x.cps.toList.all Unicode.isSpace) = true := by decide +kernel
theorem stems_ok : ∀ x ∈ stems, (41 ∉ bytesN x ∨ 70 ∉ bytesN x) ∧ x.length ≤ 10 ∧ (x.cps.toList.all fun c => !Str.isSurrogate c) = true ∧ (x.cps.toList = [] ∨ (x.cps.toList.getLast?.any fun c => !Unicode.isSpace c) = true) := by decide +kernel
theorem fixed_ok : 41 ∉ bHead.toList.map (·.toNat) ∧ 70 ∉ bHead.toList.map (·.toNat) ∧ 41 ∉ bTail.toList.map (·.toNat) ∧ 70 ∉ bTail.toList.map (·.toNat) := by decide +kernel
theorem stem_b {c : Int} (h : 0 ≤ c) (h2 : c < 1000000) : 41 ∉ bytesN (stemL c) ∨ 70 ∉ bytesN (stemL c) := by
  rcases stem_mem h h2 with ⟨v, e, a, b⟩ | m
  · left
    rw [e, bytesN_append]
    intro q
    rcases List.mem_append.mp q with q | q
    · refine utf8_no41 a b ?_
      simpa [bytesN] using q
    · revert q; decide +kernel
  · exact (stems_ok _ m).1
theorem behind_b {c : Int} (h : 0 ≤ c) (h2 : c < 1000000) : 70 ∉ ((behindL (textL c)).map (·.toNat)).toList ∨ 41 ∉ ((behindL (textL c)).map (·.toNat)).toList := by
  have w := whites_ok _ (white_mem h)
  have f := fixed_ok
  rw [behind_list]
  unfold textL
  rw [bytesN_append]
  rcases stem_b h h2 with s | s
  · right
    simp only [List.mem_append, not_or]
    exact ⟨f.1, ⟨s, w.1⟩, f.2.2.1⟩
  · left
    simp only [List.mem_append, not_or]
    exact ⟨f.2.1, ⟨s, w.2.1⟩, f.2.2.2⟩
theorem miss_text {c : Int} (h : 0 ≤ c) (h2 : c < 1000000) : Miss ((behindL (textL c)).map (·.toNat)) := miss_of (behind_b h h2)
theorem stem_surr {c : Int} (h : 0 ≤ c) (h2 : c < 1000000) : (stemL c).length ≤ 10 ∧ ∀ y ∈ (stemL c).cps.toList, Str.isSurrogate y = false := by
  rcases stem_mem h h2 with ⟨v, e, a, b⟩ | m
  · rw [e]
    refine ⟨by rw [Str.length_append]; exact (by decide : 1 + 1 ≤ 10), fun y hy => ?_⟩
    rw [Str.cps_append, Array.toList_append] at hy
    rcases List.mem_append.mp hy with hy | hy
    · rw [List.mem_singleton.mp hy]
      unfold Str.isSurrogate
      have : ¬ (0xD800 ≤ v) := by omega
      simp [this]
    · exact (by decide +kernel : ∀ y ∈ (Str.ofString ".").cps.toList, Str.isSurrogate y = false) y hy
  · have := (stems_ok _ m).2
    refine ⟨this.1, fun y hy => ?_⟩
    have := List.all_eq_true.mp this.2.1 y hy
    simpa using this
theorem text_ok {c : Int} (h : 0 ≤ c) (h2 : c < 1000000) : (textL c).length ≤ 20 ∧ ∀ y ∈ (textL c).cps, Str.isSurrogate y = false := by
  have w := whites_ok _ (white_mem h)
  have s := stem_surr h h2
  unfold textL
  refine ⟨by rw [Str.length_append]; exact Nat.le_trans (Nat.add_le_add s.1 w.2.2.1) (by decide), fun y hy => ?_⟩
  rw [Str.cps_append, ← Array.mem_toList_iff, Array.toList_append] at hy
  rcases List.mem_append.mp hy with hy | hy
  · exact s.2 y hy
  · simpa using List.all_eq_true.mp w.2.2.2.1 y hy
theorem behind_size {x : Str} (h : x.length ≤ 20) : (behindL x).size ≤ 100 := by
  have := utf8L_size x
  unfold behindL
  rw [Array.size_append, Array.size_append]
  exact Nat.le_trans (show 11 + (utf8L x).size + 5 ≤ 11 + 4 * 20 + 5 from Nat.add_le_add_right (Nat.add_le_add_left (Nat.le_trans this (Nat.mul_le_mul_left 4 h)) 11) 5) (by decide)
theorem head_ok : ∀ f ∈ [(0 : Int), 1, 2, 3], (headB f).toList.map (·.toNat) = ((headB f).toList.map (·.toNat)).take ((headB f).size - 7) ++ [70, 76, 65, 71, 83, 32, 40] ∧ 10 ∉ ((headB f).toList.map (·.toNat)).take ((headB f).size - 7) ∧ (headB f).size ≤ 30 := by decide +kernel
theorem map_back (l : List UInt8) : (l.map (·.toNat)).map (·.toUInt8) = l := by
  rw [List.map_map]
  refine Eq.trans (List.map_congr_left (g := id) fun a _ => ?_) (List.map_id _)
  show UInt8.ofNat a.toNat = a
  simp
theorem forms_mem {f : Int} (h : 0 ≤ f) (h2 : f < 4) : f ∈ [(0 : Int), 1, 2, 3] := by
  have : f = 0 ∨ f = 1 ∨ f = 2 ∨ f = 3 := by omega
  rcases this with rfl | rfl | rfl | rfl <;> decide
theorem told_small : ∀ nm ∈ nmL, ∀ f ∈ [(0 : Int), 1, 2, 3], (toldN nm f).length ≤ 6 ∧ (∀ b ∈ toldN nm f, b.size ≤ 1) ∧ (Builtin.Bytes.joined (blankB f) (toldN nm f)).size ≤ 50 := by decide +kernel
theorem hit_answer {nm : List Nat} (hn : nm ∈ nmL) {f : Int} (h : 0 ≤ f) (h2 : f < 4) {c : Int} (hc : 0 ≤ c) (hc2 : c < 1000000) :
    ∃ p q, Hit ((answerL (toldN nm f) (textL c) f).map (·.toNat)) p q ∧ wordsL ((((answerL (toldN nm f) (textL c) f).map (·.toNat)).extract (p + 7) q).map (·.toUInt8)) = toldN nm f := by
  have hf := forms_mem h h2
  obtain ⟨e1, e2, _⟩ := head_ok f hf
  obtain ⟨w1, w2⟩ := words_ok nm hn f hf
  have hlen : (((headB f).toList.map (·.toNat)).take ((headB f).size - 7)).length + 7 = (headB f).size := by
    have := congrArg List.length e1
    rw [List.length_append, List.length_map, Array.length_toList] at this
    exact this.symm
  generalize ((headB f).toList.map (·.toNat)).take ((headB f).size - 7) = H0 at e1 e2 hlen
  generalize hW : Builtin.Bytes.joined (blankB f) (toldN nm f) = W at w1 w2
  have ea : ((answerL (toldN nm f) (textL c) f).map (·.toNat)).toList = H0 ++ ([70, 76, 65, 71, 83, 32, 40] ++ (W.toList.map (·.toNat) ++ (41 :: ((behindL (textL c)).map (·.toNat)).toList))) := by
    unfold answerL
    rw [hW, Array.toList_map, Array.toList_append, Array.toList_append, Array.toList_append, List.map_append, List.map_append, List.map_append, e1, Array.toList_map]
    simp only [List.append_assoc]
    rfl
  have hs : 41 ∉ W.toList.map (·.toNat) ∧ 70 ∉ W.toList.map (·.toNat) := by
    unfold sure70 at w2
    simpa using w2
  refine ⟨_, _, hit_of ea e2 hs.1 hs.2 (behind_b hc hc2), ?_⟩
  have ex : (((answerL (toldN nm f) (textL c) f).map (·.toNat)).extract (H0.length + 7) (H0.length + 7 + (W.toList.map (·.toNat)).length)).map (·.toUInt8) = W := by
    apply Array.toList_inj.mp
    rw [Array.toList_map, Array.toList_extract, ea, List.extract_eq_take_drop, ← List.append_assoc H0, List.drop_left' (by simp), show H0.length + 7 + (W.toList.map (·.toNat)).length - (H0.length + 7) = (W.toList.map (·.toNat)).length by omega, List.take_left' rfl]
    exact map_back _
  rw [ex]
  exact w1
theorem answer_size {nm : List Nat} (hn : nm ∈ nmL) {f : Int} (h : 0 ≤ f) (h2 : f < 4) {x : Str} (hx : x.length ≤ 20) : (answerL (toldN nm f) x f).size ≤ 1000 := by
  have hf := forms_mem h h2
  have a := (head_ok f hf).2.2
  have b := (told_small nm hn f hf).2.2
  have c := behind_size hx
  unfold answerL
  rw [Array.size_append, Array.size_append, Array.size_append]
  have : (#[41] : Array UInt8).size = 1 := rfl
  omega
end Mine
end
section
open PySem PySem.W PySem.Calls PyProof.Rows
set_option maxRecDepth 100000
set_option maxHeartbeats 8000000
namespace Mine
theorem cps_eq {x y : Str} (h : x.cps.toList = y.cps.toList) : x = y := by
  cases x; cases y
  simp only [Array.toList_inj] at h
  rw [h]
theorem range_get (l : List Nat) : ∀ m a, (List.range' a m).filterMap (fun i => l[i]?) = (l.drop a).take m := by
  intro z0
  induction z0 with
  | zero =>
    rintro a
    simp
  | succ m ih0 =>
    rintro a
    rw [List.range'_succ, List.filterMap_cons, ih0 (a + 1)]
    cases q : l[a]? with
    | none =>
      have h : l.length ≤ a := List.getElem?_eq_none_iff.mp q
      rw [List.drop_eq_nil_of_le h, List.drop_eq_nil_of_le (by omega)]; simp
    | some y =>
      obtain ⟨h1, h2⟩ := List.getElem?_eq_some_iff.mp q
      rw [List.drop_eq_getElem_cons h1, List.take_succ_cons, h2]
theorem range_shift (a m : Nat) : ((List.range m).map fun (k : Nat) => ((a : Int) + 1 * (k : Int)).toNat) = List.range' a m := by
  rw [List.range'_eq_map_range]
  refine List.map_congr_left fun k _ => ?_
  show a + 1 * k = _
  rw [Nat.one_mul]
theorem slice_head (x : Str) (h : 2 ≤ x.length) : (Txt.slice x none (some 2)).cps.toList = x.cps.toList.take 2 := by
  have hn : x.cps.toList.length = x.length := Array.length_toList
  have e : Builtin.Str.strSliceIndices none (some 2) 1 x.length = List.range' 0 2 := by
    unfold Builtin.Str.strSliceIndices sliceRange
    have h1 : max (0 : Int) (min 2 (x.length : Int)) = 2 := by rw [Int.min_eq_left (show (2 : Int) ≤ (x.length : Int) from Int.ofNat_le.mpr h)]; rfl
    simp only [show (1 : Int) > 0 by decide, if_true, show ¬ ((2 : Int) < 0) by decide, if_false, h1, show (0 : Int) < 2 by decide]
    exact range_shift 0 2
  unfold Txt.slice
  rw [e]
  split
  · rename_i q
    have : x.length = 2 := by
      simp at q; exact q.symm
    rw [List.take_of_length_le (by omega)]
  · have := range_get x.cps.toList 2 0
    rw [List.drop_zero] at this
    rw [← this]
    simp only [Array.getElem?_toList]
theorem slice_tail (x : Str) (h : 2 ≤ x.length) : (Txt.slice x (some 2) none).cps.toList = x.cps.toList.drop 2 := by
  have hn : x.cps.toList.length = x.length := Array.length_toList
  have e : Builtin.Str.strSliceIndices (some 2) none 1 x.length = List.range' 2 (x.length - 2) := by
    unfold Builtin.Str.strSliceIndices sliceRange
    have h1 : max (0 : Int) (min 2 (x.length : Int)) = 2 := by rw [Int.min_eq_left (show (2 : Int) ≤ (x.length : Int) from Int.ofNat_le.mpr h)]; rfl
    simp only [show (1 : Int) > 0 by decide, if_true, show ¬ ((2 : Int) < 0) by decide, if_false, h1]
    by_cases q : (2 : Int) < x.length
    · rw [if_pos q, show (((x.length : Int) - 2 + 1 - 1) / 1).toNat = x.length - 2 by (rw [Int.add_sub_cancel, Int.ediv_one]; exact Int.toNat_sub _ 2)]
      exact range_shift 2 _
    · rw [if_neg q, show x.length - 2 = 0 from Nat.sub_eq_zero_of_le (Nat.le_of_not_lt fun a => q (Int.ofNat_lt.mpr a))]; rfl
  unfold Txt.slice
  rw [e]
  split
  · rename_i q
    simp at q
    exact absurd q (Nat.ne_of_lt (Nat.sub_lt (Nat.lt_of_lt_of_le (by decide) h) (by decide)))
  · have := range_get x.cps.toList (x.length - 2) 2
    rw [List.take_of_length_le (by rw [List.length_drop]; omega)] at this
    rw [← this]
    simp only [Array.getElem?_toList]
theorem rstrip_list (x : Str) : (Txt.rstrip x).cps.toList = x.cps.toList.take (x.cps.toList.length - (x.cps.toList.reverse.takeWhile Unicode.isSpace).length) := by
  have hn : x.cps.toList.length = x.length := Array.length_toList
  have hh : stripHi Unicode.isSpace true x 0 = x.cps.toList.length - (x.cps.toList.reverse.takeWhile Unicode.isSpace).length := by
    unfold stripHi
    rw [if_pos rfl, hn, List.drop_zero]
  have hl : stripLo Unicode.isSpace false x = 0 := rfl
  unfold Txt.rstrip Txt.stripBy
  split
  · rename_i q
    unfold stripSame at q
    rw [hl, hh] at q
    have q2 : x.cps.toList.length - (x.cps.toList.reverse.takeWhile Unicode.isSpace).length = x.length := by simpa using q
    rw [q2, List.take_of_length_le (Nat.le_of_eq hn)]
  · unfold PySem.stripped
    rw [hl, hh]
    show (x.cps.extract 0 _).toList = _
    rw [Array.toList_extract, List.extract_eq_take_drop]
    simp
theorem lstrip_list (x y : Str) : (Txt.lstripChars x y).cps.toList = x.cps.toList.drop (x.cps.toList.takeWhile y.cps.contains).length := by
  have hn : x.cps.toList.length = x.length := Array.length_toList
  have hl : stripLo y.cps.contains true x = (x.cps.toList.takeWhile y.cps.contains).length := rfl
  have hh : ∀ lo, stripHi y.cps.contains false x lo = x.length := fun _ => rfl
  unfold Txt.lstripChars Txt.stripBy
  split
  · rename_i q
    unfold stripSame at q
    rw [hl, hh] at q
    have q2 : (x.cps.toList.takeWhile y.cps.contains).length = 0 := by simpa using q
    rw [q2, List.drop_zero]
  · unfold PySem.stripped
    rw [hl, hh]
    show (x.cps.extract _ x.cps.size).toList = _
    rw [Array.toList_extract, List.extract_eq_take_drop, List.take_of_length_le]
    rw [List.length_drop]
    simp
theorem rstrip_end {x : Str} {A W : List Nat} {a : Nat} (e : x.cps.toList = A ++ (a :: W)) (ha : Unicode.isSpace a = false) (hW : ∀ c ∈ W, Unicode.isSpace c = true) : (Txt.rstrip x).cps.toList = A ++ [a] := by
  rw [rstrip_list]
  have : (x.cps.toList.reverse.takeWhile Unicode.isSpace).length = W.length := by
    rw [e, List.reverse_append, List.reverse_cons, List.append_assoc, List.takeWhile_append_of_pos (fun c hc => hW c (List.mem_reverse.mp hc))]
    simp [ha]
  rw [this, e, List.length_append, List.length_cons, Nat.add_comm W.length, ← Nat.add_assoc, Nat.add_sub_cancel, List.take_append, List.take_of_length_le (Nat.le_succ _), Nat.add_sub_cancel_left]
  rfl
theorem rstrip_none {x : Str} (hW : ∀ c ∈ x.cps.toList, Unicode.isSpace c = true) : (Txt.rstrip x).length = 0 := by
  have h := rstrip_list x
  have : (x.cps.toList.reverse.takeWhile Unicode.isSpace).length = x.cps.toList.length := by
    have := List.takeWhile_append_of_pos (p := Unicode.isSpace) (l₁ := x.cps.toList.reverse) (l₂ := []) (fun c hc => hW c (List.mem_reverse.mp hc))
    rw [List.append_nil] at this
    rw [this]; simp
  rw [this, Nat.sub_self, List.take_zero] at h
  show (Txt.rstrip x).cps.size = 0
  rw [← Array.length_toList, h]; rfl
noncomputable def blanksL (d : Int) : Str := Txt.mul (Str.ofString " ") d
theorem blanks_ok : ∀ d ∈ [(0 : Int), 1, 2, 3, 4, 5], (blanksL d).cps.toList = List.replicate d.toNat 32 := by decide +kernel
theorem blanks_list {d : Int} (h : 0 ≤ d) (h2 : d < 6) : (blanksL d).cps.toList = List.replicate d.toNat 32 := by
  refine blanks_ok d ?_
  obtain ⟨n, rfl⟩ := Int.eq_ofNat_of_zero_le h
  exact (by decide : ∀ n, n < 6 → ((n : Nat) : Int) ∈ [(0 : Int), 1, 2, 3, 4, 5]) n (Int.ofNat_lt.mp h2)
theorem name_ok : ∀ k ∈ [0, 1, 2, 3, 4, 5], (nameL k).cps.toList = [97 + k] ∧ Unicode.isSpace (97 + k) = false ∧ utf8L (nameL k) = #[(97 + k).toUInt8] := by decide +kernel
theorem name_list {k : Nat} (h : k < 6) : (nameL k).cps.toList = [97 + k] ∧ Unicode.isSpace (97 + k) = false ∧ utf8L (nameL k) = #[(97 + k).toUInt8] := by
  exact name_ok k ((by decide : ∀ k, k < 6 → k ∈ [0, 1, 2, 3, 4, 5]) k h)
theorem stem_end {c : Int} (h : 0 ≤ c) (h2 : c < 1000000) : (stemL c).cps.toList = [] ∨ ∃ A a, (stemL c).cps.toList = A ++ [a] ∧ Unicode.isSpace a = false := by
  rcases stem_mem h h2 with ⟨v, e, _, _⟩ | m
  · right
    rw [e, Str.cps_append, Array.toList_append]
    exact ⟨[v], 46, rfl, by decide +kernel⟩
  · rcases (stems_ok _ m).2.2.2 with q | q
    · exact .inl q
    · right
      cases e : (stemL c).cps.toList.getLast? with
      | none => rw [e] at q; cases q
      | some a =>
        rw [e] at q
        obtain ⟨A, hA⟩ := List.getLast?_eq_some_iff.mp e
        exact ⟨A, a, hA, by simpa using q⟩
theorem row_strip {c d : Int} {k : Nat} (h : 0 ≤ c) (h2 : c < 1000000) (hk : k < 6) (hd : 0 ≤ d) (hd2 : d < 6) :
    (Txt.rstrip (blanksL d ++ nameL k ++ textL c)).cps.toList = List.replicate d.toNat 32 ++ ((97 + k) :: (stemL c).cps.toList) := by
  have w := (whites_ok _ (white_mem h)).2.2.2.2
  have w' : ∀ y ∈ (whiteL c).cps.toList, Unicode.isSpace y = true := fun y hy => List.all_eq_true.mp w y hy
  obtain ⟨n1, n2, _⟩ := name_list hk
  have e : (blanksL d ++ nameL k ++ textL c).cps.toList = List.replicate d.toNat 32 ++ ((97 + k) :: ((stemL c).cps.toList ++ (whiteL c).cps.toList)) := by
    unfold textL
    rw [Str.cps_append, Str.cps_append, Str.cps_append, Array.toList_append, Array.toList_append, Array.toList_append, blanks_list hd hd2, n1, List.append_assoc]
    rfl
  rcases stem_end h h2 with s | ⟨A, a, s, sa⟩
  · rw [s] at e ⊢
    exact rstrip_end e n2 w'
  · rw [s] at e ⊢
    have := rstrip_end (A := List.replicate d.toNat 32 ++ ((97 + k) :: A)) (a := a) (W := (whiteL c).cps.toList) (by rw [e]; simp) sa w'
    rw [this]; simp
theorem row_is {c d : Int} {k : Nat} (h : 0 ≤ c) (h2 : c < 1000000) (hk : k < 6) (hd : 0 ≤ d) (hd2 : d < 6) :
    (commentL (blanksL d ++ nameL k ++ textL c)).cps.toList = 35 :: 32 :: (List.replicate d.toNat 32 ++ ((97 + k) :: (stemL c).cps.toList)) := by
  have e := row_strip h h2 hk hd hd2
  have hl : ¬ (Txt.rstrip (blanksL d ++ nameL k ++ textL c)).length = 0 := by
    show ¬ (Txt.rstrip (blanksL d ++ nameL k ++ textL c)).cps.size = 0
    rw [← Array.length_toList, e]
    simp
  unfold commentL
  rw [if_neg hl, Str.cps_append, Array.toList_append, e]
  rfl
theorem row_len {c d : Int} {k : Nat} (h : 0 ≤ c) (h2 : c < 1000000) (hk : k < 6) (hd : 0 ≤ d) (hd2 : d < 6) :
    (commentL (blanksL d ++ nameL k ++ textL c)).length = d.toNat + 3 + (stemL c).length := by
  show (commentL (blanksL d ++ nameL k ++ textL c)).cps.size = _
  rw [← Array.length_toList, row_is h h2 hk hd hd2]
  have : (stemL c).cps.toList.length = (stemL c).length := Array.length_toList
  simp only [List.length_cons, List.length_append, List.length_replicate]
  omega
theorem row_head {c d : Int} {k : Nat} (h : 0 ≤ c) (h2 : c < 1000000) (hk : k < 6) (hd : 0 ≤ d) (hd2 : d < 6) :
    Txt.slice (commentL (blanksL d ++ nameL k ++ textL c)) none (some 2) = Str.ofString "# " := by
  apply cps_eq
  rw [slice_head _ (by rw [row_len h h2 hk hd hd2]; omega), row_is h h2 hk hd hd2]
  rfl
theorem row_bare {c d : Int} {k : Nat} (h : 0 ≤ c) (h2 : c < 1000000) (hk : k < 6) (hd : 0 ≤ d) (hd2 : d < 6) :
    Txt.lstripChars (Txt.slice (commentL (blanksL d ++ nameL k ++ textL c)) (some 2) none) (Str.ofString " ") = nameL k ++ stemL c := by
  apply cps_eq
  rw [lstrip_list, slice_tail _ (by rw [row_len h h2 hk hd hd2]; omega), row_is h h2 hk hd hd2, Str.cps_append, Array.toList_append, (name_list hk).1]
  show List.drop (List.takeWhile _ (List.replicate d.toNat 32 ++ ((97 + k) :: (stemL c).cps.toList))).length (List.replicate d.toNat 32 ++ ((97 + k) :: (stemL c).cps.toList)) = _
  have hb : (Str.ofString " ").cps.contains (97 + k) = false := by
    show (#[32] : Array Nat).contains (97 + k) = false
    rw [Array.contains_eq_mem]
    simp; omega
  have hc : (Str.ofString " ").cps.contains 32 = true := by decide +kernel
  rw [List.takeWhile_append_of_pos (fun y hy => by rw [(List.mem_replicate.mp hy).2]; exact hc), List.takeWhile_cons, hb]
  simp
theorem row_lead {c d : Int} {k : Nat} (h : 0 ≤ c) (h2 : c < 1000000) (hk : k < 6) (hd : 0 ≤ d) (hd2 : d < 6) :
    ((commentL (blanksL d ++ nameL k ++ textL c)).length : Int) - 2 - ((nameL k ++ stemL c).length : Int) = d := by
  have : (nameL k).length = 1 := by
    show (nameL k).cps.size = 1
    rw [← Array.length_toList, (name_list hk).1]; rfl
  rw [row_len h h2 hk hd hd2, Str.length_append, this]
  obtain ⟨n, rfl⟩ := Int.eq_ofNat_of_zero_le hd
  rw [show ((n : Int)).toNat + 3 + (stemL c).length = n + 2 + (1 + (stemL c).length) from by rw [← Nat.add_assoc]; rfl, Int.natCast_add, Int.natCast_add]
  rw [Int.sub_sub, Int.add_comm (2 : Int), ← Int.sub_sub, Int.add_sub_cancel]
  exact Int.add_sub_cancel _ _
theorem row_lone {c d : Int} (h : 0 ≤ c) (hd : 0 ≤ d) (hd2 : d < 6) : commentL (blanksL d ++ whiteL c) = Str.ofString "#" := by
  have w := (whites_ok _ (white_mem h)).2.2.2.2
  unfold commentL
  rw [if_pos]
  refine rstrip_none fun y hy => ?_
  rw [Str.cps_append, Array.toList_append, blanks_list hd hd2] at hy
  rcases List.mem_append.mp hy with hy | hy
  · rw [(List.mem_replicate.mp hy).2]; decide +kernel
  · exact List.all_eq_true.mp w y hy
end Mine
end
section
open PySem PySem.W PySem.Calls PyProof.Rows
set_option maxRecDepth 100000
set_option maxHeartbeats 8000000
namespace Mine

open LCg in
theorem comp_turnsT {σ : Type} {prog : Program} {w : World} {A : Around} {h₀ : Heap} {Lc : Addr} {m : Str → Option Value} {env : Env} {ct elt : Expr} {x : Str} {scope : Scope} {cl : List (Str × Addr)} {s : Shared} {S : List (Addr × Obj) → Prop} {Pv : Nat → Value → Prop} {Fin : List Value → List (Addr × Obj) → Prop} {n : Nat}
    (L : σ → Led) (P : Nat → List Value → σ → Prop)
    (turn : ∀ i ys c v I oI C oC D m₂ h tk (E' : Value → Shared → Prop), i < n → P i ys c → Pv i v → NsObj oC m₂ → m₂ x = some v → Fr h₀ Lc h m → News h₀ Lc h ((I, oI) :: (C, oC) :: (D, lst ys) :: L c) → Off3 I C D (L c) → ((@Ne Nat I C) ∧ (@Ne Nat I D) ∧ (@Ne Nat C D)) →
      wpAny (model prog w) A (isTrue ct (compEnvC scope cl C env) (eval ct (compEnvC scope cl C env))) (fun ok s' => if ok = true then
        wpAny (model prog w) A (eval elt (compEnvC scope cl C env)) (CompEnd h₀ Lc m { s with heap := h, toks := tk } I oI C oC D (lst ys) S (fun y news' => ∃ c', news' = L c' ∧ P (i + 1) (ys ++ [y]) c')) E' s'
        else CompEnd h₀ Lc m { s with heap := h, toks := tk } I oI C oC D (lst ys) S (fun _ news' => ∃ c', news' = L c' ∧ P (i + 1) ys c') Value.none s') E' { s with heap := h, toks := tk })
    (fin : ∀ ys c, P n ys c → Fin ys (L c)) :
    ∀ (k i : Nat) (ys : List Value) (c : σ), i + k = n → P i ys c → LCt.CompRestT prog w A h₀ Lc m env ct elt x scope cl s S Pv Fin k i ys (L c) := by
  intro z0
  induction z0 with
  | zero =>
    rintro i ys c e hp
    obtain rfl : i = n := by omega
    exact fin ys c hp
  | succ k ih0 =>
    rintro i ys c e hp
    intro v I oI C oC D m₂ h tk E' hv hC hx F N off ne
    refine wpAny_mono (turn i ys c v I oI C oC D m₂ h tk E' (by omega) hp hv hC hx F N off ne) (fun ok s₂ q => ?_) fun _ _ z => z
    cases ok with
    | false =>
      simp only [Bool.false_eq_true, if_false] at q ⊢
      with_reducible refine hideG ?_
      intro G0 hG0
      obtain ⟨h', tk', news', e', F', N', off', hS, c', rfl, hp'⟩ := q
      with_reducible refine hG0 ?_
      clear hG0 G0
      exact ⟨h', tk', _, e', F', N', off', hS, ih0 (i + 1) _ c' (by omega) hp'⟩
    | true =>
      simp only [if_true] at q ⊢
      refine wpAny_mono q (fun y s₃ q => ?_) fun _ _ z => z
      with_reducible refine hideG ?_
      intro G0 hG0
      obtain ⟨h', tk', news', e', F', N', off', hS, c', rfl, hp'⟩ := q
      with_reducible refine hG0 ?_
      clear hG0 G0
      exact ⟨h', tk', _, e', F', N', off', hS, ih0 (i + 1) _ c' (by omega) hp'⟩
theorem fold_max : ∀ (l : List Int) (b : Int), l.foldl max b ∈ b :: l ∧ ∀ a ∈ b :: l, a ≤ l.foldl max b := by
  intro z0
  induction z0 with
  | nil =>
    rintro b
    exact ⟨.head _, fun a h => by rw [List.mem_singleton.mp h]; exact Int.le_refl _⟩
  | cons x r ih0 =>
    rintro b
    obtain ⟨h1, h2⟩ := ih0 (max b x)
    rw [List.foldl_cons]
    constructor
    · rcases List.mem_cons.mp h1 with e | e
      · rw [e]
        by_cases q : b ≤ x
        · rw [Int.max_eq_right q]; exact .tail _ (.head _)
        · rw [Int.max_eq_left (by omega)]; exact .head _
      · exact .tail _ (.tail _ e)
    · intro a ha
      have h3 := h2 _ (.head _)
      rcases List.mem_cons.mp ha with rfl | ha
      · have := Int.le_max_left a x; omega
      rcases List.mem_cons.mp ha with rfl | ha
      · have := Int.le_max_right b a; omega
      · exact h2 a (.tail _ ha)
theorem max_is {l : List Int} {b M : Int} (h1 : M ∈ b :: l) (h2 : ∀ a, a ∈ b :: l → a ≤ M) : M = l.foldl max b :=
  Int.le_antisymm ((fold_max l b).2 M h1) (h2 _ (fold_max l b).1)
theorem filt_snoc (p : Nat → Bool) {i j : Nat} (hj : j < i) : (((List.range i).take (j + 1)).filter p).map (fun (j : Nat) => (j : Int)) = (((List.range i).take j).filter p).map (fun (j : Nat) => (j : Int)) ++ (if p j = true then [(j : Int)] else []) := by
  rw [List.take_add_one, List.getElem?_range hj, List.filter_append, List.map_append]
  congr 1
  show List.map _ (List.filter p [j]) = _
  by_cases q : p j = true
  · simp [q]
  · simp [q]
structure ISt where
  wvs : List Value
  ok : Obj
  okv : Option Value
  is : List Int
  tu : Int
  tt : Tok
structure OSt where
  wvs : List Value
  ok : Obj
  okv : Option Value
structure ASt where
  avs : List Value
  aep : Nat
  ok : Obj
  okv : Option Value
noncomputable def aroundAt (ns : List Int) (k : Nat) : Int := (((List.range k).filter fun j => ns.getD j 0 == ns.getD k 0 - 1).map fun (j : Nat) => (j : Int)).foldl max (-1)
noncomputable def bitI (d k : Nat) : Int := Builtin.bitAnd ((d : Int).fdiv (2 ^ k)) 1
theorem bit_room5 : ∀ d, d < 32 → ∀ k, k < 5 → bitI d k = 0 → d + 2 ^ k < 32 := by decide +kernel
theorem bit_room6 : ∀ d, d < 64 → ∀ k, k < 6 → bitI d k = 0 → d + 2 ^ k < 64 := by decide +kernel
theorem getD_around {ns : List Int} {n k : Nat} (h : k < n) : ((List.range n).map (aroundAt ns)).getD k 0 = aroundAt ns k := by
  rw [List.getD_eq_getElem?_getD, List.getElem?_map, List.getElem?_range h]; rfl
noncomputable abbrev condO (ns : List Int) (d k : Nat) : Prop := ns.getD k 0 = 0 ∨ (0 ≤ aroundAt ns k ∧ bitI d (aroundAt ns k).toNat = 1)
noncomputable def stepK (ns : List Int) (d : Nat) (st : List Int × Int) (k : Nat) : List Int × Int :=
  if bitI d k = 0 then ((if condO ns d k then st.1.set (d + 2 ^ k) (st.1.getD (d + 2 ^ k) 0 + st.1.getD d 0 * st.2) else st.1), st.2 * 1000) else st
theorem memO1 {a b c d : Addr × Obj} {own own3 ow : Led} (h : own ++ own3 = ow) : ∀ p ∈ [a, b, c, d] ++ own, p ∈ a :: b :: c :: d :: ow := by
  subst h
  intro p hp
  simp only [List.cons_append, List.nil_append, List.mem_cons, List.mem_append] at hp ⊢
  rcases hp with h | h | h | h | h <;> simp [h]
theorem memO3 {a b c d : Addr × Obj} {own own3 ow : Led} (h : own ++ own3 = ow) : ∀ p ∈ own3, p ∈ a :: b :: c :: d :: ow := by
  subst h
  intro p hp
  simp [hp]
noncomputable def stepD (ns : List Int) (w : List Int) (d : Nat) : List Int := if w.getD d 0 = 0 then w else ((List.range ns.length).foldl (stepK ns d) (w, 1)).1
noncomputable def ordersL (ns : List Int) : Int := ((List.range (2 ^ ns.length)).foldl (stepD ns) (1 :: (List.replicate (2 ^ ns.length - 1) [(0 : Int)]).flatten)).getLastD 0
theorem stepK_len (ns : List Int) (d : Nat) (st : List Int × Int) (k : Nat) : (stepK ns d st k).1.length = st.1.length := by
  unfold stepK
  split
  · dsimp only; split
    · rw [List.length_set]
    · rfl
  · rfl
theorem foldK_len (ns : List Int) (d : Nat) : ∀ (l : List Nat) (st : List Int × Int), (l.foldl (stepK ns d) st).1.length = st.1.length := by
  intro z0
  induction z0 with
  | nil =>
    rintro _
    exact rfl
  | cons k r ih0 =>
    rintro st
    rw [List.foldl_cons, ih0, stepK_len]
theorem foldK_tu (ns : List Int) (d : Nat) : ∀ (l : List Nat) (st : List Int × Int), 0 < st.2 → 0 < (l.foldl (stepK ns d) st).2 ∧ (l.foldl (stepK ns d) st).2 ≤ st.2 * 1000 ^ l.length := by
  intro z0
  induction z0 with
  | nil =>
    rintro st h
    rw [List.foldl_nil, List.length_nil, Int.pow_zero]; omega
  | cons k r ih0 =>
    rintro st h
    have key : 0 < (stepK ns d st k).2 ∧ (stepK ns d st k).2 ≤ st.2 * 1000 := by
      unfold stepK
      split
      · dsimp only; omega
      · omega
    have ih := ih0 (stepK ns d st k) key.1
    rw [List.foldl_cons, List.length_cons, Int.pow_succ]
    refine ⟨ih.1, Int.le_trans ih.2 ?_⟩
    rw [Int.mul_comm (1000 ^ r.length) 1000, ← Int.mul_assoc]
    exact Int.mul_le_mul_of_nonneg_right key.2 (Int.le_of_lt (Int.pow_pos (by decide)))
theorem tu_bound {ns ws is : List Int} {d k : Nat} {tu : Int} (hk : k < 6) (h : (is, tu) = (List.range k).foldl (stepK ns d) (ws, 1)) : 0 < tu ∧ tu < 2 ^ 62 := by
  have h1 := foldK_tu ns d (List.range k) (ws, 1) (show (0 : Int) < 1 by decide)
  rw [← h, List.length_range] at h1
  obtain ⟨h2, h3⟩ := h1
  refine ⟨h2, Int.lt_of_le_of_lt h3 ?_⟩
  dsimp only
  have : k = 0 ∨ k = 1 ∨ k = 2 ∨ k = 3 ∨ k = 4 ∨ k = 5 := by omega
  rcases this with rfl | rfl | rfl | rfl | rfl | rfl <;> decide
theorem tu_lo {a : Int} (h : 0 < a) : -(2 ^ 64) < a := by omega
theorem tu_hi {a : Int} (h : a < 2 ^ 62) : a < 2 ^ 64 := by omega
theorem foldD_len (ns : List Int) : ∀ (l : List Nat) (w : List Int), (l.foldl (stepD ns) w).length = w.length := by
  intro z0
  induction z0 with
  | nil =>
    rintro _
    exact rfl
  | cons d r ih0 =>
    rintro w
    rw [List.foldl_cons, ih0]
    unfold stepD
    split
    · rfl
    · rw [foldK_len]
theorem repl_len (n : Nat) : (List.replicate (Int.toNat (n : Int)) [(0 : Int)]).flatten.length = n := by
  rw [Int.toNat_natCast]; simp
section
noncomputable def GiMark : Prop := True
noncomputable def BoMark : Prop := True
noncomputable def HaltB (R : Bool → Shared → Prop) (b : Bool) (s : Shared) : Prop := R b s
theorem bool_mono {M : Model} {A : Around} {E : Value → Shared → Prop} {Q : Bool → Shared → Prop} {tree : Sem Bool} (P : Bool → Prop) {h : Heap} {G : Array GenState} {D : Drawn} {k : Tok} {O : OsState} (a : wpAny M A tree (HaltB fun b s' => P b ∧ ∃ k', s' = ⟨h, G, D, k', O⟩) E ⟨h, G, D, k, O⟩) (q : ∀ b k', P b → Q b ⟨h, G, D, k', O⟩) : wpAny M A tree Q E ⟨h, G, D, k, O⟩ :=
  wpAny_mono a (fun v s' ⟨p, k', e⟩ => e ▸ q v k' p) fun _ _ e => e
theorem S11_w1 : True := by
  k_with_none
  k_with "exec For" => ((k_here; (with_reducible rename Fr _ _ _ _ => lF'); (with_unfolding_all refine' For_invVF lF' ?k1 ?k2 ?_); (case k1 => exact rfl); (case k2 => exact rfl)))
  k_with "exec For Name Call cons nil" => ((k_here; (with_reducible rename Fr _ _ _ _ => lF'); (with_unfolding_all refine' For_turns lF' ?_)))
  k_with "pyIter ref" => ((with_reducible refine Stop.out ?_))
  k_with "call type:range" => ((with_reducible refine Stop.out ?_))
  k_with "InvEndG" => ((with_reducible refine Stop.out ?_))
  k_with "eval ListComp" => ((with_reducible refine Stop.out ?_))
  k_with "CompSrcT" => ((with_reducible refine Stop.out ?_))
  k_with "CompEnd" => ((with_reducible refine Stop.out ?_))
  k_with "FinE" => ((with_reducible refine Stop.out ?_))
  k_with "call builtin:len" => ((with_reducible refine Stop.out ?_))
  k_with "call builtin:list.append" => ((with_reducible refine Stop.out ?_))
  k_with "isTrue BoolOp" => ((with_reducible rename BoMark => bm9); (with_reducible refine Stop.out ?_))
  k_with "HaltB" => ((with_reducible refine Stop.out ?_))
  k_with "getItem ref int" => ((with_reducible rename GiMark => gm9); (with_reducible refine Stop.out ?_))
  k_with "call builtin:max" => ((with_reducible refine Stop.out ?_))
  k_with "binaryOp Add ref ref" => ((with_reducible refine Stop.out ?_))
  k_with "binaryOp Mult ref int" => ((with_reducible refine Stop.out ?_))
  k_with "subscriptTail" => (((with_reducible show wpAny _ _ (subscriptTail _ _ (Value.ref _) (Value.int (-1) _)) _ _ _); (with_reducible refine Stop.out ?_)))
  k_with "setItem ref int" => ((with_reducible refine Stop.out ?_))
  k_with "Halt" => ((with_reducible refine Stop.out ?_))
  k_with "execs cons" => (k_here; (try ((with_reducible show wpAny _ _ _ _ _ ⟨_, _, _, _ + _, _⟩); (with_reducible refine' th_flat (s₀ := s) ?thF ?_ ?thE); (case thF => assumption); (case thE => with_reducible rfl); intro tk9)); first | with_reducible refine th_one ?_ | with_reducible refine th_cons ?_)
  k_with "Th" => (first | ((with_reducible refine' th_next (s₀ := s) ?F ?_ ?e); (case F => assumption); (case e => with_reducible rfl); (try clear tk9); intro tk9) | with_reducible refine th_ret ?_)
  trivial
theorem orders_spec (w : World) (loose : List Str) (mean : ExcName → Option Value) (mg mb : Str → Option Value) (A : Around) (s : Shared) (Q E : Value → Shared → Prop) (a : Addr) (vs : List Value) (ns : List Int) :
    Room 10 80 A → (Mine.hd0.heap_1_1 w.params).In s.heap → Top topProg loose mean mg mb s.heap → (s.heap.IsList a vs.toArray) → (IntsAre vs ns) → (ns.length = 5 ∨ ns.length = 6) →
    Ends s Q (fun v h => ∃ t, v = .int (ordersL ns) t) →
    wpAny (model PySem.Challenge.rw_if0001_01.row.prog w) A (call (.ref 270) [.ref a]) Q E s := by
  k_fill
  intro R X T h0 h1 h2 ret
  with_reducible refine hideG ?_
  intro G0 hG0
  obtain ⟨hh, dp, fr, gd, un⟩ := A
  with_reducible refine hG0 ?_
  clear hG0 G0
  obtain ⟨hA, hdp, hun⟩ := R
  cases hA
  dsimp only at hdp hun
  refine' pcallC (binds := [(Str.ofString "leads", .ref a)]) (by assumption) (by assumption) ?hd ?ho ?hcd ?hb ?hkd ?hnd ?h1 ?h2 ?h3 ?_
  (case ho => k_is)
  (case hcd => k_is)
  (case hd => ((try dsimp only); (try simp only [recursionLimit]); omega))
  (case hb => first | exact BindsTo.of_eq rfl | exact binds_K (by assumption) rfl (by k_is) rfl rfl rfl)
  (case hkd => exact rfl)
  (case hnd => decide +kernel)
  (case h1 => exact rfl)
  (case h2 => exact rfl)
  (case h3 => exact rfl)
  k_whole
  intro L' h' tk' cells' F' N' Y'
  k_cells Y'
  (try simp only [List.cons_append, List.nil_append] at N')
  (try dsimp only)
  (try k_fold)
  refine (let ev : Env := _; let qf : Flow → Shared → Prop := _; (?_ : wpAny _ _ (execs _ ev) qf _ _))
  with_reducible refine halt_in ?_
  have hvn := h1.length
  have hn6 : ns.length ≤ 6 := h2.elim (fun q => q ▸ by decide) fun q => Nat.le_of_eq q
  have hn63 : (ns.length : Int) < 2 ^ 63 := Int.lt_of_le_of_lt (Int.ofNat_le.mpr hn6) (by decide)
  have hsz : (vs.toArray.size : Int) = (ns.length : Int) := by rw [List.size_toArray, hvn]
  k_steps
  refine Stop.mk ?_
  (with_reducible rename Fr _ _ _ _ => F1)
  refine Calls.call_len_list (h0.at fun o e => F1.keep a o e) (by rw [hsz]; exact hn63) ?_
  rw [hsz]
  k_steps
  refine Stop.mk ?_
  rename_i oK oL dK dL lA _ lAl _ _
  (with_reducible rename News _ _ _ _ => N2)
  (with_reducible rename Fr _ _ _ _ => F2)
  have dK' : oK.data = .cell none := dK
  have dL' : oL.data = .cell (some (.ref a)) := dL
  clear dK dL
  refine range1_rows F2 N2 fun hr tkr t1 u1 v1 R F N kp => ?_
  clear F2
  dsimp only at *
  refine turns_R (n := ns.length) (σ := ASt) (fun c => [(lA, listOf c.avs.toArray c.aep), (L' + 1 + 1, c.ok), (L' + 1, oL)]) (fun c => [(Str.ofString "around", .ref lA)])
    (fun i c => c.ok.data = .cell c.okv ∧ IntsAre c.avs (((List.range ns.length).take i).map (aroundAt ns))) ⟨[], 0, oK, none⟩ rfl R ?sm ?sz F N ?hn ?hk ?hp ?turn ?done
  case sm => exact small_n (Nat.le_trans hn6 (by decide))
  case sz => exact rsize_n _
  case hn => intro p hp; exact hp
  case hk => intro p hp; rw [List.mem_singleton.mp hp]; rfl
  case hp => exact ⟨dK', .nil⟩
  case turn =>
    intro i t zz2 u h tk own hi zz8 ho F N
    (first | ((refine (let qt : Flow → Shared → Prop := _; (?_ : wpAny _ _ _ (fun _ s₂ => wpAny _ _ (execs _ _) qt _ s₂) _ _))); with_reducible refine halt_in2 ?_) | ((refine (let qt : Flow → Shared → Prop := _; (?_ : wpAny _ _ (execs _ _) qt _ _))); with_reducible refine halt_in ?_))
    with_reducible refine hideG ?_
    intro G0 hG0
    obtain ⟨avs, aep, ok, okv⟩ := zz2
    obtain ⟨p1, p2⟩ := zz8
    with_reducible refine hG0 ?_
    clear hG0 G0
    dsimp only at p1 p2 F N
    have e0 : (0 : Int) + (i : Int) = (i : Int) := Int.zero_add _
    rw [e0]
    k_steps
    refine Stop.mk ?_
    rename_i oK2 dK2 lM _ _ _ l3
    (with_reducible rename Fr _ _ _ _ => F3)
    (with_reducible rename News _ _ _ _ => N3)
    refine LCt.ListComp_T F3 (by with_unfolding_all rfl) (by decide) (by rfl) (by decide) (by rfl) ?_
    k_steps
    refine Stop.mk ?_
    refine range1_rows F3 N3 fun hr2 tk2 t2 u2 v2 R2 F4 N4 kp2 => ?_
    refine LCt.CompSrcT.range (n := i) (by rfl) F4 N4 R2 (small_n (Nat.le_trans (Nat.le_of_lt hi) (Nat.le_trans hn6 (by decide)))) (rsize_n _) (size_n (Nat.le_trans (Nat.le_of_lt hi) (Nat.le_trans hn6 (by decide)))) ?_
    intro g'
    refine comp_turnsT (σ := Unit) (fun _ => _) (fun j ys _ => IntsAre ys ((((List.range i).take j).filter fun j => ns.getD j 0 == ns.getD i 0 - 1).map fun (j : Nat) => (j : Int))) ?turn2 ?fin2 _ 0 [] () (Nat.zero_add _) .nil
    case turn2 =>
      intro j ys _ v I oI C oC D m₂ h tk E' hj hP2 hv2 hC hx2 F5 N5 off ne
      obtain ⟨t5, rfl⟩ := hv2
      have e5 : (0 : Int) + (j : Int) = (j : Int) := Int.zero_add _
      rw [e5] at hx2
      dsimp only at N5 off ⊢
      k_steps
      · refine Stop.mk ?_
        rename_i q5
        simp only [Int.toNat_natCast] at q5
        refine LCg.CompEnd.intro F5 N5 _ (fun p hp => hp) off trivial ⟨(), rfl, ?_⟩
        rw [filt_snoc _ hj, if_pos (by rw [q5]; simp)]
        exact ints_snoc hP2
      · refine Stop.mk ?_
        rename_i q5
        simp only [Int.toNat_natCast] at q5
        refine LCg.CompEnd.intro F5 N5 _ (fun p hp => hp) off trivial ⟨(), rfl, ?_⟩
        rw [filt_snoc _ hj, if_neg (by simpa using q5), List.append_nil]
        exact hP2
    case fin2 =>
      intro ys _ hP2
      intro D h tk F5 N5 off
      dsimp only at *
      rw [List.take_of_length_le (by rw [List.length_range]; exact Nat.le_refl _)] at hP2
      have hyl : ys.length ≤ 6 := by
        rw [hP2.length, List.length_map]
        have := List.length_filter_le (fun j => ns.getD j 0 == ns.getD i 0 - 1) (List.range i)
        rw [List.length_range] at this
        exact Nat.le_trans this (Nat.le_trans (Nat.le_of_lt hi) hn6)
      k_steps
      refine Stop.mk ?_
      refine cat_any (vs := [_]) (ws := ys) F5 N5 (isList_N (s := ⟨_, _, _, _, _⟩) (n := 0) N5 (.tail _ (.head _))) (isList_N (s := ⟨_, _, _, _, _⟩) (n := ys.length) (vs := ys) N5 (.head _)) (by rw [List.length_singleton]; exact Nat.le_trans (Nat.add_le_add_left hyl 1) (by decide)) (fun D6 hh6 F6 N6 l6 => ?_)
      k_steps
      refine Stop.mk ?_
      refine max_list_N rfl F6 N6 (isList_N (s := ⟨_, _, _, _, _⟩) N6 (.head _)) (IntsAre.cons (-1) _ hP2) (by simp) (fun hh7 M t7 tk7 F7 N7 hM1 hM2 => ?_)
      have hMM : M = aroundAt ns i := max_is hM1 hM2
      subst hMM
      clear hM1 hM2
      k_steps
      refine Stop.mk ?_
      have hlA : lA ≠ L' + 1 ∧ lA ≠ L' + 1 + 1 := ⟨Nat.ne_of_gt lAl.2, Nat.ne_of_gt lAl.1⟩
      refine app_any ((L' + 1 + 1, oK2) :: (L' + 1, oL) :: own) F7 N7 (.tail _ (.tail _ (.tail _ (.head _)))) ?as1 ?an1 (by rw [p2.length, List.length_map, List.length_take]; exact Nat.le_trans (Nat.min_le_left _ _) (Nat.le_trans (Nat.le_of_lt hi) (Nat.le_trans hn6 (by decide)))) (fun hh8 F8 N8 => ?_)
      case as1 =>
        intro p hp
        rcases List.mem_cons.mp hp with rfl | hp
        · exact .tail _ (.tail _ (.tail _ (.tail _ (.head _))))
        · exact .tail _ (.tail _ (.tail _ (.tail _ (.tail _ hp))))
      case an1 =>
        intro p hp
        rcases List.mem_cons.mp hp with rfl | hp
        · exact Ne.symm hlA.2
        rcases List.mem_cons.mp hp with rfl | hp
        · exact Ne.symm hlA.1
        · exact ho p hp _ (.head _)
      k_steps
      refine Stop.mk ?_
      (with_reducible rename Fr _ _ _ _ => F9)
      (with_reducible rename News _ _ _ _ => N9)
      refine js_end (c := (⟨avs ++ [.int (aroundAt ns i) t7], aep + 1, oK2, some (.int (i : Int) t)⟩ : ASt)) F9 N9 ?jn ?jo ?ja ?jk ⟨dK2, ?jc⟩
      case jn =>
        intro p hp
        rcases List.mem_cons.mp hp with rfl | hp
        · exact .head _
        rcases List.mem_cons.mp hp with rfl | hp
        · exact .tail _ (.head _)
        · rw [List.mem_singleton.mp hp]; exact .tail _ (.tail _ (.head _))
      case jo => intro p hp; exact .tail _ (.tail _ (.tail _ hp))
      case ja => exact ho
      case jk => intro p hp; rw [List.mem_singleton.mp hp]; rfl
      case jc =>
        dsimp only
        rw [List.take_add_one, List.getElem?_range hi, List.map_append]
        exact ints_snoc p2
  case done =>
    intro zz0 u h tk zz4 F N
    with_reducible refine hideG ?_
    intro G0 hG0
    obtain ⟨avs, aep, ok, okv⟩ := zz0
    obtain ⟨p1, p2⟩ := zz4
    with_reducible refine hG0 ?_
    clear hG0 G0
    dsimp only at p1 p2 F N
    rw [List.take_of_length_le (by rw [List.length_range]; exact Nat.le_refl _)] at p2
    k_steps
    refine Stop.mk ?_
    (with_reducible rename Fr _ _ _ _ => F3)
    refine Calls.call_len_list (h0.at fun o e => F3.keep a o e) (by rw [hsz]; exact hn63) ?_
    rw [hsz]
    obtain ⟨M, hM, hM1, hM2, hMk⟩ : ∃ M : Nat, 2 ^ ns.length = M + 1 ∧ 31 ≤ M ∧ M ≤ 63 ∧ ∀ d, d < M + 1 → ∀ k, k < ns.length → bitI d k = 0 → d + 2 ^ k < M + 1 := by
      rcases h2 with h2 | h2
      · exact ⟨31, by rw [h2], by decide, by decide, by rw [h2]; exact bit_room5⟩
      · exact ⟨63, by rw [h2], by decide, by decide, by rw [h2]; exact bit_room6⟩
    have hMi : (2 : Int) ^ ((ns.length : Int)).toNat = ((M + 1 : Nat) : Int) := by rw [Int.toNat_natCast, ← hM]; simp
    have hn5 : 5 ≤ ns.length := h2.elim (fun q => Nat.le_of_eq q.symm) fun q => q ▸ by decide
    k_steps
    refine Stop.mk ?_
    have ex : ((2 : Int) ^ ((ns.length : Int)).toNat - 1) = (M : Int) := by rw [hMi]; exact Int.add_sub_cancel (M : Int) 1
    rw [ex]
    rename_i lO _ _ lZ _ _ _ lo
    (with_reducible rename Fr _ _ _ _ => F4)
    (with_reducible rename News _ _ _ _ => N4)
    refine KM.mul F4 N4 (vs := [_]) (isList_N (s := ⟨_, _, _, _, _⟩) (n := 0) N4 (.head _)) (IntsAre.cons 0 _ .nil) (by omega) (by omega) (by show 1 * Int.toNat (M : Int) ≤ 2 ^ 24; omega) (fun lR hh5 F5 N5 l5 hI5 _ _ _ _ _ => ?_)
    k_steps
    refine Stop.mk ?_
    refine cat_any (vs := [_]) (ws := (List.replicate (Int.toNat (M : Int)) [_]).flatten) F5 N5 (isList_N (s := ⟨_, _, _, _, _⟩) (n := 0) N5 (.tail _ (.tail _ (.head _)))) (isList_N (s := ⟨_, _, _, _, _⟩) (n := 0) N5 (.head _)) (by rw [hI5.length]; show 1 + (List.replicate (Int.toNat (M : Int)) [(0 : Int)]).flatten.length ≤ 1000; rw [repl_len]; omega) (fun lW hh6 F6 N6 l6 => ?_)
    have hIW := IntsAre.cons 1 tk9 hI5
    have hWA : lA < lW := l6 _ (.tail _ (.tail _ (.tail _ (.head _))))
    have hWk : L' + 1 + 1 < lW := l6 _ (.tail _ (.tail _ (.tail _ (.tail _ (.head _)))))
    have hWl : L' + 1 < lW := l6 _ (.tail _ (.tail _ (.tail _ (.tail _ (.tail _ (.head _))))))
    k_steps
    refine Stop.mk ?_
    (with_reducible rename Fr _ _ _ _ => F7)
    refine Calls.call_len_list (h0.at fun o e => F7.keep a o e) (by rw [hsz]; exact hn63) ?_
    rw [hsz]
    k_steps
    refine Stop.mk ?_
    (with_reducible rename News _ _ _ _ => N7)
    refine range1_rows F7 N7 fun hrD tkD tD uD vD RD FD ND kpD => ?_
    clear F7 F4 N4 F5 N5 F6 N6
    dsimp only at *
    refine turns_R (n := M + 1) (σ := OSt) (fun c => [(lW, listOf c.wvs.toArray 0), (lA, listOf avs.toArray aep), (L' + 1 + 1, c.ok), (L' + 1, oL)]) (fun _ => [(Str.ofString "around", .ref lA), (Str.ofString "ways", .ref lW)])
      (fun i c => c.ok.data = .cell c.okv ∧ IntsAre c.wvs ((List.range i).foldl (stepD ns) (1 :: (List.replicate (Int.toNat (M : Int)) [(0 : Int)]).flatten))) ⟨?w05, ok, okv⟩ rfl RD ?dsm5 ?dsz5 FD ND ?dn5 ?dk5 ?dp5 ?dturn5 ?ddone5
    case dp5 => (refine ⟨p1, ?_⟩; rw [List.range_zero, List.foldl_nil]; exact hIW)
    case dsm5 => exact small_one (by decide) (by decide) (by omega) (by omega)
    case dsz5 => rw [hMi, rangeSize_nat]; simp
    case dn5 =>
      intro p hp
      simp only [List.mem_cons, List.not_mem_nil, or_false] at hp ⊢
      rcases hp with rfl | rfl | rfl | rfl <;> simp
    case dk5 => intro p hp; simp only [List.mem_cons, List.not_mem_nil, or_false] at hp; rcases hp with rfl | rfl <;> rfl
    case dturn5 =>
      intro d t zz2 u2 h8 tk8 own hd zz8 ho F N
      (first | ((refine (let qt : Flow → Shared → Prop := _; (?_ : wpAny _ _ _ (fun _ s₂ => wpAny _ _ (execs _ _) qt _ s₂) _ _))); with_reducible refine halt_in2 ?_) | ((refine (let qt : Flow → Shared → Prop := _; (?_ : wpAny _ _ (execs _ _) qt _ _))); with_reducible refine halt_in ?_))
      with_reducible refine hideG ?_
      intro G0 hG0
      obtain ⟨wvs, ok2, okv2⟩ := zz2
      obtain ⟨q1, q2⟩ := zz8
      with_reducible refine hG0 ?_
      clear hG0 G0
      dsimp only at q1 q2 F N
      have e0 : (0 : Int) + (d : Int) = (d : Int) := Int.zero_add _
      rw [e0]
      generalize hws : (List.range d).foldl (stepD ns) (1 :: (List.replicate (Int.toNat (M : Int)) [(0 : Int)]).flatten) = ws at q2
      have q3 : ws.length = M + 1 := by rw [← hws, foldD_len, List.length_cons, repl_len]
      have hd1 : (0 : Int) ≤ (d : Int) := Int.natCast_nonneg d
      have hd2 : (d : Int) < (ws.length : Int) := by rw [q3]; exact Int.ofNat_lt.mpr hd
      k_steps
      · refine Stop.mk ?_
        have q4 : ¬ ws.getD d 0 = 0 := by assumption
        (with_reducible rename Fr _ _ _ _ => F3)
        (with_reducible rename News _ _ _ _ => N3)
        refine Calls.call_len_list (h0.at fun o e => F3.keep a o e) (by rw [hsz]; exact hn63) ?_
        rw [hsz]
        k_steps
        refine Stop.mk ?_
        (with_reducible rename Fr _ _ _ _ => F4)
        (with_reducible rename News _ _ _ _ => N4)
        refine range1_rows F4 N4 fun hrE tkE tE uE vE RE FE NE kpE => ?_
        clear F4 N4
        dsimp only at *
        refine turns_R (n := ns.length) (σ := ISt) (fun c => [(lW, listOf c.wvs.toArray 0), (lA, listOf avs.toArray aep), (L' + 1 + 1, c.ok), (L' + 1, oL)] ++ own) (fun c => [(Str.ofString "around", .ref lA), (Str.ofString "ways", .ref lW), (Str.ofString "done", .int (d : Int) t), (Str.ofString "turned", .int c.tu c.tt)])
          (fun i c => c.ok.data = .cell c.okv ∧ IntsAre c.wvs c.is ∧ (c.is, c.tu) = (List.range i).foldl (stepK ns d) (ws, 1)) ⟨wvs, ok2, okv2, ws, 1, ?it05⟩ rfl RE ?ism5 ?isz5 FE NE ?in5 ?ik5 ?ip5 ?iturn5 ?idone5
        case ik5 => intro p hp; simp only [List.mem_cons, List.not_mem_nil, or_false] at hp; rcases hp with rfl | rfl | rfl | rfl <;> rfl
        case ism5 => exact small_n (Nat.le_trans hn6 (by decide))
        case isz5 => exact rsize_n _
        case in5 => intro p hp; exact hp
        case ip5 => exact ⟨q1, q2, rfl⟩
        case iturn5 =>
          intro k tk1 zz2 u3 h9 tk9 own3 hk zz8 ho3 F N
          (first | ((refine (let qt : Flow → Shared → Prop := _; (?_ : wpAny _ _ _ (fun _ s₂ => wpAny _ _ (execs _ _) qt _ s₂) _ _))); with_reducible refine halt_in2 ?_) | ((refine (let qt : Flow → Shared → Prop := _; (?_ : wpAny _ _ (execs _ _) qt _ _))); with_reducible refine halt_in ?_))
          with_reducible refine hideG ?_
          intro G0 hG0
          obtain ⟨wvs3, ok3, okv3, is3, tu3, tt3⟩ := zz2
          obtain ⟨r1, r2, r3⟩ := zz8
          with_reducible refine hG0 ?_
          clear hG0 G0
          dsimp only at r1 r2 r3 F N
          rw [List.append_assoc] at N
          have how : OwnOff (own ++ own3) ([(lW, listOf wvs3.toArray 0), (lA, listOf avs.toArray aep), (L' + 1 + 1, ok3), (L' + 1, oL)].map (·.1)) := by
            intro p hp b hb
            rcases List.mem_append.mp hp with hp | hp
            · exact ho p hp b hb
            · refine ho3 p hp b ?_
              rw [List.map_append]
              exact List.mem_append.mpr (.inl hb)
          generalize hgo : own ++ own3 = ow at N how
          have e1 : (0 : Int) + (k : Int) = (k : Int) := Int.zero_add _
          rw [e1]
          have r4 : is3.length = M + 1 := by
            have := foldK_len ns d (List.range k) (ws, 1)
            rw [← r3] at this
            exact this.trans q3
          obtain ⟨htu0, htu1⟩ := tu_bound (by omega) r3
          have hk1 : (0 : Int) ≤ (k : Int) := Int.natCast_nonneg k
          have hk2 : (k : Int) < (ns.length : Int) := Int.ofNat_lt.mpr hk
          have hk3 : (k : Int) < ((List.map (aroundAt ns) (List.range ns.length)).length : Int) := by rw [List.length_map, List.length_range]; exact hk2
          have hd3 : (d : Int) < (is3.length : Int) := by rw [r4]; exact Int.ofNat_lt.mpr hd
          refine wpAny_assign_Name ?_
          refine stCN (own := [(lW, listOf wvs3.toArray 0), (lA, listOf avs.toArray aep)]) (rest := (L' + 1, oL) :: ow) F N (by rfl) r1 ?sa5 ?sb5 (fun h10 o10 F10 N10 d10 => ?_) (by rfl) (by rfl)
          case sa5 =>
            intro p hp
            rcases List.mem_cons.mp hp with rfl | hp
            · exact Nat.ne_of_gt hWk
            · rw [List.mem_singleton.mp hp]; exact Nat.ne_of_gt lAl.1
          case sb5 =>
            intro p hp
            rcases List.mem_cons.mp hp with rfl | hp
            · exact Nat.ne_of_lt (Nat.lt_succ_self _)
            · exact how p hp _ (.tail _ (.tail _ (.head _)))
          clear F N
          simp only [List.cons_append, List.nil_append] at N10
          have bm : BoMark := True.intro
          have gm : GiMark := True.intro
          k_steps
          · refine Stop.mk ?_
            have hbit : bitI d k = 0 := by assumption
            (with_reducible rename BoMark => bm9)
            (with_reducible rename GiMark => gm9)
            clear bm9 gm9
            refine bool_mono (fun b => b = true ↔ condO ns d k) ?bt5 (fun b k7 hb => ?_)
            case bt5 =>
              k_steps
              all_goals refine Stop.mk ?_
              · exact ⟨⟨fun _ => .inl (by assumption), fun _ => rfl⟩, _, rfl⟩
              · exact ⟨⟨fun _ => .inr ⟨by rw [← getD_around hk]; assumption, by rw [← getD_around hk]; unfold bitI; assumption⟩, fun _ => rfl⟩, _, rfl⟩
              · have hcond : ¬ condO ns d k := by
                  have e0 : ¬ ns.getD k 0 = 0 := by assumption
                  have e2 : ¬ bitI d (aroundAt ns k).toNat = 1 := by rw [← getD_around hk]; unfold bitI; assumption
                  rintro (h | h)
                  · exact e0 h
                  · exact e2 h.2
                exact ⟨⟨fun q => absurd q Bool.false_ne_true, fun q => absurd q hcond⟩, _, rfl⟩
              · have hcond : ¬ condO ns d k := by
                  have e0 : ¬ ns.getD k 0 = 0 := by assumption
                  have e2 : ¬ 0 ≤ aroundAt ns k := by rw [← getD_around hk]; assumption
                  rintro (h | h)
                  · exact e0 h
                  · exact e2 h.1
                exact ⟨⟨fun q => absurd q Bool.false_ne_true, fun q => absurd q hcond⟩, _, rfl⟩
            cases b with
            | false =>
              have hcond : ¬ condO ns d k := fun q => Bool.false_ne_true (hb.mpr q)
              k_steps
              refine Stop.mk ?_
              (with_reducible rename Fr _ _ _ _ => F13)
              (with_reducible rename News _ _ _ _ => N13)
              refine' js_end (c := (⟨wvs3, o10, some (.int (k : Int) tk1), is3, tu3 * 1000, _⟩ : ISt)) F13 N13 ?xnC5 ?xoC5 ho3 ?xkC5 ⟨d10, r2, ?xcC5⟩
              case xnC5 => exact memO1 hgo
              case xoC5 => exact memO3 hgo
              case xkC5 => intro p hp; simp only [List.mem_cons, List.not_mem_nil, or_false] at hp; rcases hp with rfl | rfl | rfl | rfl <;> rfl
              case xcC5 =>
                dsimp only
                rw [List.range_succ, List.foldl_append, ← r3]
                show _ = stepK ns d (is3, tu3) k
                unfold stepK
                rw [if_pos hbit, if_neg hcond]
            | true =>
              have hcond : condO ns d k := hb.mp rfl
              have hroom := hMk d (by omega) k (by omega) hbit
              have hb1 : (0 : Int) ≤ (d : Int) + 2 ^ ((k : Int)).toNat := by rw [Int.toNat_natCast]; have : (0 : Int) < 2 ^ k := Int.pow_pos (by decide); omega
              have hpk : ((d : Int) + 2 ^ ((k : Int)).toNat) = ((d + 2 ^ k : Nat) : Int) := by rw [Int.toNat_natCast]; simp
              have hb2 : (d : Int) + 2 ^ ((k : Int)).toNat < (is3.length : Int) := by rw [hpk]; omega
              k_steps
              refine Stop.mk ?_
              (with_reducible rename Fr _ _ _ _ => F11)
              (with_reducible rename News _ _ _ _ => N11)
              refine set_any (s := ⟨_, _, _, _, _⟩) ((lA, listOf avs.toArray aep) :: (L' + 1 + 1, o10) :: (L' + 1, oL) :: ow) F11 N11 (.head _) ?ssA5 ?snA5 r2 hb1 hb2 (by omega) (fun hh8 v2 i2 F12 N12 p8 q8 => ?_)
              case ssA5 => intro p hp; exact .tail _ hp
              case snA5 =>
                intro p hp
                rcases List.mem_cons.mp hp with rfl | hp
                · exact Nat.ne_of_lt hWA
                rcases List.mem_cons.mp hp with rfl | hp
                · exact Nat.ne_of_lt hWk
                rcases List.mem_cons.mp hp with rfl | hp
                · exact Nat.ne_of_lt hWl
                · exact how p hp _ (.head _)
              k_steps
              refine Stop.mk ?_
              (with_reducible rename Fr _ _ _ _ => F13)
              (with_reducible rename News _ _ _ _ => N13)
              refine' js_end (c := (⟨v2, o10, some (.int (k : Int) tk1), i2, tu3 * 1000, _⟩ : ISt)) F13 N13 ?xnA5 ?xoA5 ho3 ?xkA5 ⟨d10, p8, ?xcA5⟩
              case xnA5 => exact memO1 hgo
              case xoA5 => exact memO3 hgo
              case xkA5 => intro p hp; simp only [List.mem_cons, List.not_mem_nil, or_false] at hp; rcases hp with rfl | rfl | rfl | rfl <;> rfl
              case xcA5 =>
                dsimp only
                rw [List.range_succ, List.foldl_append, ← r3]
                show _ = stepK ns d (is3, tu3) k
                unfold stepK
                rw [if_pos hbit, if_pos hcond, q8, hpk]
                simp only [Int.toNat_natCast]
          · refine Stop.mk ?_
            have hbit : ¬ bitI d k = 0 := by assumption
            (with_reducible rename Fr _ _ _ _ => F13)
            (with_reducible rename News _ _ _ _ => N13)
            refine js_end (c := (⟨wvs3, o10, some (.int (k : Int) tk1), is3, tu3, tt3⟩ : ISt)) F13 N13 ?xnE5 ?xoE5 ho3 ?xkE5 ⟨d10, r2, ?xcE5⟩
            case xnE5 => exact memO1 hgo
            case xoE5 => exact memO3 hgo
            case xkE5 => intro p hp; simp only [List.mem_cons, List.not_mem_nil, or_false] at hp; rcases hp with rfl | rfl | rfl | rfl <;> rfl
            case xcE5 =>
              dsimp only
              rw [List.range_succ, List.foldl_append, ← r3]
              show _ = stepK ns d (is3, tu3) k
              unfold stepK
              rw [if_neg hbit]
        case idone5 =>
          intro zz0 u3 h9 tk9 zz4 F N
          with_reducible refine hideG ?_
          intro G0 hG0
          obtain ⟨wvs3, ok3, okv3, is3, tu3, tt3⟩ := zz0
          obtain ⟨r1, r2, r3⟩ := zz4
          with_reducible refine hG0 ?_
          clear hG0 G0
          dsimp only at r1 r2 r3 F N
          k_steps
          refine Stop.mk ?_
          (with_reducible rename Fr _ _ _ _ => F9)
          (with_reducible rename News _ _ _ _ => N9)
          refine js_end (c := (⟨wvs3, ok3, okv3⟩ : OSt)) F9 N9 ?zn5 ?zo5 ?za5 ?zk5 ⟨r1, ?zc5⟩
          case zn5 => intro p hp; exact List.mem_append.mpr (.inl hp)
          case zo5 => intro p hp; exact List.mem_append.mpr (.inr hp)
          case za5 => exact ho
          case zk5 => intro p hp; simp only [List.mem_cons, List.not_mem_nil, or_false] at hp; rcases hp with rfl | rfl <;> rfl
          case zc5 =>
            dsimp only
            rw [List.range_succ, List.foldl_append, hws]
            show IntsAre wvs3 (stepD ns ws d)
            unfold stepD
            rw [if_neg q4, ← r3]
            exact r2
      · refine Stop.mk ?_
        have q4 : ws.getD d 0 = 0 := by assumption
        (with_reducible rename Fr _ _ _ _ => F9)
        (with_reducible rename News _ _ _ _ => N9)
        refine js_end (c := (⟨wvs, ok2, okv2⟩ : OSt)) F9 N9 ?jn5 ?jo5 ?ja5 ?jk5 ⟨q1, ?jc5⟩
        case jn5 => intro p hp; exact List.mem_append.mpr (.inl hp)
        case jo5 => intro p hp; exact List.mem_append.mpr (.inr hp)
        case ja5 => exact ho
        case jk5 => intro p hp; simp only [List.mem_cons, List.not_mem_nil, or_false] at hp; rcases hp with rfl | rfl <;> rfl
        case jc5 =>
          dsimp only
          rw [List.range_succ, List.foldl_append, hws]
          show IntsAre wvs (stepD ns ws d)
          unfold stepD
          rw [if_pos q4]
          exact q2
    case ddone5 =>
      intro zz0 u2 h8 tk8 zz4 F N
      with_reducible refine hideG ?_
      intro G0 hG0
      obtain ⟨wvs, ok2, okv2⟩ := zz0
      obtain ⟨q1, q2⟩ := zz4
      with_reducible refine hG0 ?_
      clear hG0 G0
      dsimp only at q1 q2 F N
      have q3 : ((List.range (M + 1)).foldl (stepD ns) (1 :: (List.replicate (Int.toNat (M : Int)) [(0 : Int)]).flatten)).length = M + 1 := by rw [foldD_len, List.length_cons, repl_len]
      generalize hws : (List.range (M + 1)).foldl (stepD ns) (1 :: (List.replicate (Int.toNat (M : Int)) [(0 : Int)]).flatten) = ws at q2 q3
      have hol : ordersL ns = ws.getLastD 0 := by
        unfold ordersL
        rw [hM, ← hws]; rfl
      obtain ⟨ws', kk, rfl⟩ : ∃ l k, ws = l ++ [k] := by
        refine ⟨ws.dropLast, ws.getLast (by intro e; rw [e] at q3; simp at q3), (List.dropLast_concat_getLast _).symm⟩
      obtain ⟨us, tl9, rfl, q5⟩ := ints_last q2
      have hol2 : ordersL ns = kk := by rw [hol]; simp
      k_steps
      (try refine Stop.mk ?_)
      exact ret _ _ _ (Fr.keep F) ⟨_, by rw [hol2]⟩
end
theorem S11_w2 : True := by
  k_with_none
  trivial
end Mine
end
theorem Mine.Ld_w0 : True := by
  k_with_none
  trivial
section
open PySem PySem.W PySem.Calls PyProof.Rows
set_option maxRecDepth 100000
set_option maxHeartbeats 8000000
namespace Mine
noncomputable def growL (ds : List Int) : List (List Int) := (List.range ((ds.getLastD 0).toNat + 1)).map fun (j : Nat) => ds ++ [1 + (j : Int)]
noncomputable def shapesOf : Nat → List (List Int)
  | 0 => [[0]]
  | n + 1 => (shapesOf n).flatMap growL
theorem shape_last : ∀ n ds, ds ∈ shapesOf n → 0 ≤ ds.getLastD 0
  | 0, ds, h => by
    rw [List.mem_singleton.mp h]; decide
  | n + 1, ds, h => by
    obtain ⟨d0, _, h2⟩ := List.mem_flatMap.mp h
    obtain ⟨j, _, rfl⟩ := List.mem_map.mp h2
    simp
    exact Int.add_nonneg (by decide) (Int.natCast_nonneg j)
theorem dStep_mem {n : Nat} {ds : List Int} (h : ds ∈ shapesOf n) (c : Int) : dStep ds c ∈ shapesOf (n + 1) := by
  have hl := shape_last n ds h
  refine List.mem_flatMap.mpr ⟨ds, h, List.mem_map.mpr ⟨(c % (ds.getLastD 0 + 1)).toNat, List.mem_range.mpr ?_, ?_⟩⟩
  · refine (Int.toNat_lt (Int.emod_nonneg c (Int.ne_of_gt (Int.lt_add_one_of_le hl)))).mpr ?_
    rw [Int.natCast_add, Int.toNat_of_nonneg hl]
    exact Int.emod_lt_of_pos c (Int.lt_add_one_of_le hl)
  · have := Int.emod_nonneg c (Int.ne_of_gt (Int.lt_add_one_of_le hl))
    unfold dStep
    rw [Int.toNat_of_nonneg this]
theorem depths_mem : ∀ (cs ds : List Int) (n : Nat), ds ∈ shapesOf n → cs.foldl dStep ds ∈ shapesOf (n + cs.length) := by
  intro z0
  induction z0 with
  | nil =>
    rintro ds n h
    exact h
  | cons c r ih0 =>
    rintro ds n h
    have := ih0 _ _ (dStep_mem h c)
    rw [List.foldl_cons, List.length_cons, show n + (r.length + 1) = n + 1 + r.length from by rw [Nat.add_comm r.length, ← Nat.add_assoc]]
    exact this
noncomputable def shapes : List (List Int) := shapesOf 4 ++ shapesOf 5
theorem shape_of {cs : List Int} (h : cs.length = 5 ∨ cs.length = 6) : depthsL cs ∈ shapes ∧ (depthsL cs).length = cs.length := by
  have h1 := depths_mem cs.tail [0] 0 (List.mem_singleton.mpr rfl)
  rw [List.length_tail] at h1
  refine ⟨?_, ?_⟩
  · unfold shapes depthsL
    rcases h with h | h
    · rw [h] at h1; exact List.mem_append_left _ h1
    · rw [h] at h1; exact List.mem_append_right _ h1
  · unfold depthsL
    rw [dStep_len, List.length_tail]
    exact Nat.add_sub_cancel' (by rcases h with h | h <;> rw [h] <;> decide)
noncomputable def ancS (st : List (List Nat) × List Nat) (p : Int × Nat) : List (List Nat) × List Nat := (st.1 ++ [st.2.take p.1.toNat], st.2.take p.1.toNat ++ [p.2])
noncomputable def ancL (ds : List Int) : List (List Nat) := (ds.zipIdx.foldl ancS ([], [])).1
theorem anc_fold : ∀ (l : List (Int × Nat)) (st : List (List Nat) × List Nat), l.foldl nStep (st.1.map (·.map nameL), st.2.map nameL) = ((l.foldl ancS st).1.map (·.map nameL), (l.foldl ancS st).2.map nameL) := by
  intro z0
  induction z0 with
  | nil =>
    rintro st
    exact rfl
  | cons p r ih0 =>
    rintro st
    rw [List.foldl_cons, List.foldl_cons, ← ih0]
    congr 1
    unfold nStep ancS
    simp [List.map_take]
theorem names_anc (ds : List Int) : namesL ds = (ancL ds).map (·.map nameL) := by
  have := anc_fold ds.zipIdx ([], [])
  unfold namesL ancL
  rw [show (([], []) : List (List Str) × List Str) = (([] : List (List Nat)).map (·.map nameL), ([] : List Nat).map nameL) from rfl, this]
noncomputable def keptN (ds : List Int) (k : Nat) : List Int := ((List.range ds.length).filter fun j => decide (j ≠ k) && !((ancL ds).getD j []).contains k).map fun (j : Nat) => (j : Int)
/-- the writer's run against the kept elements -/
noncomputable def chkW (k : Int) (ks : List Int) : List (Int × Bool) → Nat → Nat → Bool → Bool
  | [], _, _, dn => dn
  | p :: r, ig, dep, dn =>
    if p.2 = true then
      if ig ≠ 0 ∨ p.1 = k then !(ks.any fun x => x == p.1) && chkW k ks r (ig + 1) dep dn
      else (ks.any fun x => x == p.1) && chkW k ks r 0 (dep + 1) false
    else if ig ≠ 0 then !(ks.any fun x => x == p.1) && chkW k ks r (ig - 1) dep dn
    else (ks.any fun x => x == p.1) && decide (1 ≤ dep) && chkW k ks r 0 (dep - 1) true
noncomputable def endsN (ds : List Int) (k : Nat) : Nat := ((callsL ds).filter fun p => !p.2 && (keptN ds k).any fun x => x == p.1).length
noncomputable def prodL (ds : List Int) (n : Nat) : Int := (List.range n).foldl (fun a k => a * onesL (ds.length - endsN ds k)) 1
noncomputable def dueL (n : Nat) : Int := (List.range n).foldl (fun a k => a * onesL (k + 1)) 1
theorem sh_names : ∀ ds ∈ shapes, (ancL ds).length = ds.length ∧ (∀ nm ∈ ancL ds, nm ∈ nmL) ∧ ∀ d ∈ ds, 0 ≤ d ∧ d < 6 := by decide +kernel
theorem sh_calls : ∀ ds ∈ shapes, (callsL ds).length ≤ 12 ∧ ∀ p ∈ callsL ds, 0 ≤ p.1 ∧ p.1 < ds.length := by decide +kernel
theorem sh_write : ∀ ds ∈ shapes, ∀ k ∈ List.range ds.length, chkW k (keptN ds k) (callsL ds) 0 0 true = true ∧ endsN ds k ≤ ds.length := by decide +kernel

noncomputable def OkL (ds : List Int) : Prop := ordersL ds * prodL ds ds.length = dueL ds.length
theorem ok_4 : ∀ ds ∈ shapesOf 4, OkL ds := by unfold OkL; decide +kernel
theorem ok_a : ∀ ds ∈ (shapesOf 5).take 8, OkL ds := by unfold OkL; decide +kernel
theorem ok_b : ∀ ds ∈ ((shapesOf 5).drop 8).take 8, OkL ds := by unfold OkL; decide +kernel
theorem ok_c : ∀ ds ∈ (((shapesOf 5).drop 8).drop 8).take 9, OkL ds := by unfold OkL; decide +kernel
theorem ok_d : ∀ ds ∈ ((((shapesOf 5).drop 8).drop 8).drop 9).take 9, OkL ds := by unfold OkL; decide +kernel
theorem ok_e : ∀ ds ∈ ((((shapesOf 5).drop 8).drop 8).drop 9).drop 9, OkL ds := by unfold OkL; decide +kernel
theorem ok_split {xs : List (List Int)} {n : Nat} (h : ∀ ds ∈ xs.take n, OkL ds) (g : ∀ ds ∈ xs.drop n, OkL ds) : ∀ ds ∈ xs, OkL ds :=
  fun ds m => (List.mem_append.mp ((List.take_append_drop n xs).symm ▸ m)).elim (h ds) (g ds)
theorem sh_orders : ∀ ds ∈ shapes, ordersL ds * prodL ds ds.length = dueL ds.length :=
  fun ds m => (List.mem_append.mp m).elim (ok_4 ds) (ok_split ok_a (ok_split ok_b (ok_split ok_c (ok_split ok_d ok_e))) ds)
end Mine
end
section
open PySem PySem.W PySem.Calls PyProof.Rows
set_option maxRecDepth 100000
set_option maxHeartbeats 8000000
namespace Mine
noncomputable def cpsL (l : List Str) : List Nat := l.flatMap fun a => a.cps.toList
theorem subst_flat (c : Nat) (z : List Nat) (f : Nat → List Nat) (l : List Nat) : subst c z (l.flatMap f) = l.flatMap fun a => subst c z (f a) := by
  unfold subst
  rw [List.flatMap_assoc]
theorem esc_one (c : Nat) : subst 13 (Str.ofString "&#xD;").cps.toList (subst 62 (Str.ofString "&gt;").cps.toList (subst 60 (Str.ofString "&lt;").cps.toList (subst 38 (Str.ofString "&amp;").cps.toList [c]))) = (refOf c).cps.toList := by
  by_cases h1 : c = 38
  · subst h1; decide +kernel
  by_cases h2 : c = 60
  · subst h2; decide +kernel
  by_cases h3 : c = 62
  · subst h3; decide +kernel
  by_cases h4 : c = 13
  · subst h4; decide +kernel
  unfold refOf
  rw [if_neg h1, if_neg h2, if_neg h3, if_neg h4]
  rw [subst_free 38 _ _ (by simp; omega), subst_free 60 _ _ (by simp; omega), subst_free 62 _ _ (by simp; omega), subst_free 13 _ _ (by simp; omega)]
theorem flat_self (l : List Nat) : l = l.flatMap fun a => [a] := by
  induction l with
  | nil => rfl
  | cons a r ih => rw [List.flatMap_cons, ← ih]; rfl
theorem esc_list (x : Str) : (escL x).cps.toList = x.cps.toList.flatMap fun c => (refOf c).cps.toList := by
  have e : (escL x).cps.toList = subst 13 (Str.ofString "&#xD;").cps.toList (subst 62 (Str.ofString "&gt;").cps.toList (subst 60 (Str.ofString "&lt;").cps.toList (subst 38 (Str.ofString "&amp;").cps.toList x.cps.toList))) := rfl
  rw [e]
  conv => lhs; rw [flat_self x.cps.toList]
  rw [subst_flat, subst_flat, subst_flat, subst_flat]
  congr 1
  funext c
  exact esc_one c
theorem refs_list (x : Str) : (refsL x).cps.toList = x.cps.toList.flatMap fun c => (refOf c).cps.toList := by
  unfold refsL
  rw [join_cps, List.flatMap_map]
theorem esc_empty : escL (Str.ofString "") = Str.ofString "" := by decide +kernel
/-- what the writer has told, the text that waits with it -/
noncomputable def totL (s : WS) : List Nat := cpsL s.parts ++ (match s.dat with | some y => (escL y).cps.toList | none => [])
theorem cpsL_append (a b : List Str) : cpsL (a ++ b) = cpsL a ++ cpsL b := List.flatMap_append
theorem flushed_tot (s : WS) (h : ∀ y, s.dat = some y → s.seen = true) : cpsL s.flushed = totL s := by
  unfold WS.flushed totL
  cases q : s.dat with
  | none => simp
  | some y =>
    have hs := h y q
    dsimp only
    by_cases e : y = Str.ofString ""
    · rw [if_pos (.inl e), e, esc_empty]
      exact (List.append_nil _).symm
    · rw [if_neg (by rw [hs]; simp [e]), cpsL_append]
      simp [cpsL]
theorem tag_ne : ∀ i ∈ List.range 6, ∀ k ∈ List.range 6, tagL (i : Int) = tagL (k : Int) → i = k := by decide +kernel
theorem tag_inj {i : Int} {k : Nat} (h0 : 0 ≤ i) (h : i < 6) (hk : k < 6) : tagL i = nameL k ↔ i = (k : Int) := by
  constructor
  · intro e
    have := tag_ne i.toNat (List.mem_range.mpr (by omega)) k (List.mem_range.mpr hk) (by rw [Int.toNat_of_nonneg h0]; exact e)
    omega
  · rintro rfl; rfl
theorem chkW_cons (k : Int) (ks : List Int) (p : Int × Bool) (r : List (Int × Bool)) (ig dep : Nat) (dn : Bool) : chkW k ks (p :: r) ig dep dn =
    if p.2 = true then
      if ig ≠ 0 ∨ p.1 = k then !(ks.any fun x => x == p.1) && chkW k ks r (ig + 1) dep dn
      else (ks.any fun x => x == p.1) && chkW k ks r 0 (dep + 1) false
    else if ig ≠ 0 then !(ks.any fun x => x == p.1) && chkW k ks r (ig - 1) dep dn
    else (ks.any fun x => x == p.1) && decide (1 ≤ dep) && chkW k ks r 0 (dep - 1) true := rfl
theorem chkW_run {k : Nat} (hk : k < 6) (ks : List Int) (xs : List Str) : ∀ (cs : List (Int × Bool)) (s : WS) (pg : Str), (∀ p ∈ cs, 0 ≤ p.1 ∧ p.1 < 6) → (∀ y, s.dat = some y → s.seen = true) → totL s = pg.cps.toList →
    chkW (k : Int) ks cs s.ig s.dep s.dat.isNone = true →
      cpsL (cs.foldl (wStep (nameL k) xs) s).parts = (cs.foldl (leftS xs ks) pg).cps.toList ∧
      ∀ i p, cs[i]? = some p → p.2 = false → ((cs.take i).foldl (wStep (nameL k) xs) s).ig = 0 → 1 ≤ ((cs.take i).foldl (wStep (nameL k) xs) s).dep := by
  intro z0
  induction z0 with
  | nil =>
    rintro s pg _ _ ht hc
    refine ⟨?_, fun i p e => by simp at e⟩
    have hn : s.dat = none := by
      have : s.dat.isNone = true := hc
      simpa using this
    unfold totL at ht
    rw [hn] at ht
    simpa using ht
  | cons p r ih0 =>
    rintro s pg hr hs ht hc
    have hp := hr p (.head _)
    have hr' : ∀ q ∈ r, 0 ≤ q.1 ∧ q.1 < 6 := fun q hq => hr q (.tail _ hq)
    have hti := tag_inj hp.1 hp.2 hk
    have step : ∀ (s' : WS) (pg' : Str), s' = wStep (nameL k) xs s p → pg' = leftS xs ks pg p → (∀ y, s'.dat = some y → s'.seen = true) → totL s' = pg'.cps.toList → chkW (k : Int) ks r s'.ig s'.dep s'.dat.isNone = true → (p.2 = false → s.ig = 0 → 1 ≤ s.dep) →
        cpsL ((p :: r).foldl (wStep (nameL k) xs) s).parts = ((p :: r).foldl (leftS xs ks) pg).cps.toList ∧
        ∀ i q, (p :: r)[i]? = some q → q.2 = false → (((p :: r).take i).foldl (wStep (nameL k) xs) s).ig = 0 → 1 ≤ (((p :: r).take i).foldl (wStep (nameL k) xs) s).dep := by
      intro s' pg' e1 e2 h1 h2 h3 h4
      have ih := ih0 s' pg' hr' h1 h2 h3
      rw [List.foldl_cons, List.foldl_cons, ← e1, ← e2]
      refine ⟨ih.1, fun i q hi hq => ?_⟩
      cases i with
      | zero =>
        simp at hi
        subst hi
        exact h4 hq
      | succ i =>
        rw [List.take_succ_cons, List.foldl_cons, ← e1]
        exact ih.2 i q (by simpa using hi) hq
    have hfl := flushed_tot s hs
    rw [chkW_cons] at hc
    by_cases hb : p.2 = true
    · rw [if_pos hb] at hc
      by_cases hg : s.ig ≠ 0 ∨ p.1 = (k : Int)
      · rw [if_pos hg, Bool.and_eq_true] at hc
        have hw : wStep (nameL k) xs s p = { s with ig := s.ig + 1 } := by
          unfold wStep
          rw [if_pos hb, if_pos (by rw [hti]; exact hg)]
        have hl : leftS xs ks pg p = pg := by
          unfold leftS
          rw [if_neg (fun q => by rw [q] at hc; exact absurd hc.1 (by decide))]
        refine step { s with ig := s.ig + 1 } pg hw.symm hl.symm hs ht hc.2 fun e => by rw [hb] at e; cases e
      · rw [if_neg hg, Bool.and_eq_true] at hc
        have hw : wStep (nameL k) xs s p = { ig := 0, dat := some (xs.getD p.1.toNat Str.empty), seen := true, parts := s.flushed ++ [Str.ofString "<" ++ tagL p.1] ++ [Str.ofString ">"], dep := s.dep + 1 } := by
          unfold wStep
          rw [if_pos hb, if_neg (by rw [hti]; exact hg)]
        have hl : leftS xs ks pg p = pg ++ (Str.ofString "<" ++ Txt.item (Str.ofString "abcdef") p.1 ++ Str.ofString ">" ++ refsL (xs.getD p.1.toNat Str.empty)) := by
          unfold leftS
          rw [if_pos hc.1, if_pos hb]
        refine step _ _ hw.symm hl.symm (fun _ _ => rfl) ?_ hc.2 fun e => by rw [hb] at e; cases e
        unfold totL
        dsimp only
        rw [cpsL_append, cpsL_append, hfl, ht, esc_list]
        simp only [Str.cps_append, Array.toList_append, refs_list, cpsL, List.flatMap_cons, List.flatMap_nil, List.append_nil, List.append_assoc]
        rfl
    · have hb' : p.2 = false := by simpa using hb
      rw [if_neg hb] at hc
      by_cases hg : s.ig ≠ 0
      · rw [if_pos hg, Bool.and_eq_true] at hc
        have hw : wStep (nameL k) xs s p = { s with ig := s.ig - 1 } := by
          unfold wStep
          rw [if_neg hb, if_pos hg]
        have hl : leftS xs ks pg p = pg := by
          unfold leftS
          rw [if_neg (fun q => by rw [q] at hc; exact absurd hc.1 (by decide))]
        exact step { s with ig := s.ig - 1 } pg hw.symm hl.symm hs ht hc.2 fun _ e => absurd e hg
      · rw [if_neg hg, Bool.and_eq_true, Bool.and_eq_true] at hc
        have hw : wStep (nameL k) xs s p = { s with dat := none, parts := s.flushed ++ [Str.ofString "</" ++ tagL p.1 ++ Str.ofString ">"], dep := s.dep - 1 } := by
          unfold wStep
          rw [if_neg hb, if_neg hg]
        have hl : leftS xs ks pg p = pg ++ (Str.ofString "</" ++ Txt.item (Str.ofString "abcdef") p.1 ++ Str.ofString ">") := by
          unfold leftS
          rw [if_pos hc.1.1, if_neg hb]
        have hig : s.ig = 0 := by omega
        refine step _ _ hw.symm hl.symm (fun _ e => nomatch e) ?_ (by show chkW _ _ _ s.ig _ _ = true; rw [hig]; exact hc.2) fun _ _ => by simpa using hc.1.2
        unfold totL
        dsimp only
        rw [cpsL_append, hfl, ht]
        simp only [Str.cps_append, Array.toList_append, cpsL, List.flatMap_cons, List.flatMap_nil, List.append_nil]
        rfl
theorem written_left {k : Nat} (hk : k < 6) {ks : List Int} {xs : List Str} {cs : List (Int × Bool)} (hr : ∀ p ∈ cs, 0 ≤ p.1 ∧ p.1 < 6) (hc : chkW (k : Int) ks cs 0 0 true = true) :
    writtenL (nameL k) xs cs = leftL cs xs ks ∧ wFair (nameL k) xs cs := by
  have h := chkW_run hk ks xs cs wStart (Str.ofString "") hr (fun _ e => nomatch e) rfl hc
  refine ⟨cps_eq ?_, h.2⟩
  unfold writtenL leftL
  rw [join_cps]
  exact h.1
end Mine
end
section
open PySem PySem.W PySem.Calls PyProof.Rows
set_option maxRecDepth 100000
set_option maxHeartbeats 8000000
namespace Mine
noncomputable def cnt2 : List Nat → Nat
  | [] => 0
  | a :: r => (if a = 60 ∧ r.head? = some 47 then 1 else 0) + cnt2 r
theorem sub_two {x : Str} {i : Nat} (h : Builtin.Str.subAt x (Str.ofString "</") i = true) : ∃ r, x.cps.toList.drop i = 60 :: 47 :: r := by
  rw [StrLaws.subAt_eq] at h
  have h2 : (x.cps.toList.drop i).take 2 = [60, 47] := eq_of_beq h
  generalize x.cps.toList.drop i = l at h2
  match l, h2 with
  | [], h => simp at h
  | [a], h => simp at h
  | a :: b :: r, h =>
    simp at h
    obtain ⟨rfl, rfl⟩ := h
    exact ⟨r, rfl⟩
theorem two_sub {x : Str} {i : Nat} {r : List Nat} (h : x.cps.toList.drop i = 60 :: 47 :: r) : Builtin.Str.subAt x (Str.ofString "</") i = true := by
  rw [StrLaws.subAt_eq, h]
  rfl
theorem occ_cnt (x : Str) : ∀ (m i : Nat) (found : Array Nat) (free : Nat), i + m = x.length + 1 → found.size ≤ i → (free ≤ i ∨ (free = i + 1 ∧ x.cps.toList[i]? = some 47)) →
    (forIn (List.range' i m) (found, free) (StrLaws.occBody x (Str.ofString "</") x.length (x.length + 1))).run.fst.size = found.size + cnt2 (x.cps.toList.drop i) := by
  intro z0
  induction z0 with
  | zero =>
    rintro i found free e hf hfr
    rw [List.drop_eq_nil_of_le (by rw [Array.length_toList]; exact Nat.le_of_succ_le (Nat.le_of_eq e.symm))]
    rfl
  | succ m ih0 =>
    rintro i found free e hf hfr
    have hn : x.cps.toList.length = x.length := Array.length_toList
    rw [List.range'_succ, List.forIn_cons]
    unfold StrLaws.occBody
    by_cases c : ((found.size < x.length + 1 ∧ free ≤ i) ∧ i + (Str.ofString "</").length ≤ x.length) ∧ Builtin.Str.subAt x (Str.ofString "</") i = true
    · rw [if_pos c]
      obtain ⟨r, hr⟩ := sub_two c.2
      have h1 : x.cps.toList.drop (i + 1) = 47 :: r := by rw [← List.drop_drop, hr]; rfl
      have h2 : x.cps.toList[i + 1]? = some 47 := by
        have := congrArg List.head? h1
        simpa [List.head?_drop] using this
      have ih := ih0 (i + 1) (found.push i) (i + (Str.ofString "</").length) (by rw [Nat.add_right_comm]; exact e) (by rw [Array.size_push]; exact Nat.succ_le_succ hf) (.inr ⟨rfl, h2⟩)
      refine Eq.trans ih ?_
      rw [Array.size_push, h1, hr]
      show found.size + 1 + cnt2 (47 :: r) = found.size + ((if (60 : Nat) = 60 ∧ some (47 : Nat) = some 47 then 1 else 0) + cnt2 (47 :: r))
      rw [if_pos ⟨rfl, rfl⟩, Nat.add_assoc]
    · rw [if_neg c]
      have ih := ih0 (i + 1) found free (by rw [Nat.add_right_comm]; exact e) (Nat.le_succ_of_le hf) (.inl (hfr.elim Nat.le_succ_of_le fun h => Nat.le_of_eq h.1))
      refine Eq.trans ih ?_
      congr 1
      cases q : x.cps.toList.drop i with
      | nil =>
        have : x.cps.toList.length ≤ i := by simpa using List.drop_eq_nil_iff.mp q
        rw [List.drop_eq_nil_of_le (Nat.le_succ_of_le this)]
      | cons a r =>
        have h1 : x.cps.toList.drop (i + 1) = r := by rw [← List.drop_drop, q]; rfl
        rw [h1]
        show cnt2 r = (if a = 60 ∧ r.head? = some 47 then 1 else 0) + cnt2 r
        rw [if_neg, Nat.zero_add]
        rintro ⟨rfl, hr⟩
        obtain ⟨r', rfl⟩ : ∃ r', r = 47 :: r' := by
          cases r with
          | nil => simp at hr
          | cons b r => simp at hr; exact ⟨r, by rw [hr]⟩
        refine c ⟨⟨⟨?_, ?_⟩, ?_⟩, two_sub q⟩
        · exact Nat.lt_of_le_of_lt hf (by rw [← e]; exact Nat.lt_add_of_pos_right (Nat.succ_pos m))
        · rcases hfr with h | ⟨_, h⟩
          · exact h
          · have := congrArg List.head? q
            rw [List.head?_drop, h] at this
            simp at this
        · have := congrArg List.length q
          rw [List.length_drop] at this
          simp only [List.length_cons] at this
          show i + 2 ≤ x.length
          rw [hn] at this
          exact Nat.add_le_of_le_sub' (Nat.le.intro (Nat.succ.inj e)) (by rw [this]; exact Nat.le_add_left 2 _)
theorem count_is (x : Str) : Txt.count x (Str.ofString "</") = ((cnt2 x.cps.toList : Nat) : Int) := by
  have h := occ_cnt x (x.length + 1) 0 #[] 0 (Nat.zero_add _) (Nat.le_refl _) (.inl (Nat.le_refl _))
  unfold Txt.count
  rw [StrLaws.occ_eq, Array.length_toList]
  congr 1
  refine Eq.trans h ?_
  simp
theorem cnt2_append : ∀ (a b : List Nat), a.getLast? ≠ some 60 → cnt2 (a ++ b) = cnt2 a + cnt2 b
  | [], b, _ => by simp [cnt2]
  | [x], b, h => by
    have : x ≠ 60 := by simpa using h
    show (if x = 60 ∧ _ then 1 else 0) + cnt2 b = ((if x = 60 ∧ _ then 1 else 0) + 0) + cnt2 b
    rw [if_neg (fun q => this q.1), if_neg (fun q => this q.1)]
  | x :: y :: r, b, h => by
    have ih := cnt2_append (y :: r) b (by simpa using h)
    show (if x = 60 ∧ (y :: (r ++ b)).head? = some 47 then 1 else 0) + cnt2 ((y :: r) ++ b) = ((if x = 60 ∧ (y :: r).head? = some 47 then 1 else 0) + cnt2 (y :: r)) + cnt2 b
    rw [ih]
    show (if x = 60 ∧ some y = some 47 then 1 else 0) + _ = ((if x = 60 ∧ some y = some 47 then 1 else 0) + _) + _
    exact (Nat.add_assoc _ _ _).symm
theorem cnt2_free : ∀ l : List Nat, 60 ∉ l → cnt2 l = 0
  | [], _ => rfl
  | a :: r, h => by
    unfold cnt2
    rw [cnt2_free r fun q => h (.tail _ q), if_neg]
    rintro ⟨rfl, _⟩
    exact h (.head _)
theorem refs_free (x : Str) : 60 ∉ (refsL x).cps.toList := by
  unfold refsL
  rw [join_cps, List.flatMap_map]
  intro h
  obtain ⟨c, _, h⟩ := List.mem_flatMap.mp h
  revert h
  unfold refOf
  split
  · decide +kernel
  split
  · decide +kernel
  split
  · decide +kernel
  split
  · decide +kernel
  · rename_i h2 _ _
    simp; omega
theorem last_free {a b : List Nat} (ha : a.getLast? ≠ some 60) (hb : 60 ∉ b) : (a ++ b).getLast? ≠ some 60 := by
  rw [List.getLast?_append]
  cases q : b.getLast? with
  | none => simpa using ha
  | some y =>
    intro e
    have : y = 60 := by simpa using e
    subst this
    exact hb (List.mem_of_getLast? q)
theorem item_list {k : Int} (h0 : 0 ≤ k) (h6 : k < 6) : (Txt.item (Str.ofString "abcdef") k).cps.toList = [97 + k.toNat] := by
  have := (name_list (k := k.toNat) (by omega)).1
  unfold nameL at this
  rwa [Int.toNat_of_nonneg h0] at this
theorem count_fold (xs : List Str) (ks : List Int) : ∀ (cs : List (Int × Bool)) (pg : Str), (∀ p ∈ cs, 0 ≤ p.1 ∧ p.1 < 6) → pg.cps.toList.getLast? ≠ some 60 →
    cnt2 (cs.foldl (leftS xs ks) pg).cps.toList = cnt2 pg.cps.toList + (cs.filter fun p => !p.2 && ks.any fun x => x == p.1).length := by
  intro z0
  induction z0 with
  | nil =>
    rintro pg _ _
    simp
  | cons p r ih0 =>
    rintro pg hr hl
    have hp := hr p (.head _)
    have ih := ih0 (leftS xs ks pg p) fun q hq => hr q (.tail _ hq)
    have hit := item_list hp.1 hp.2
    rw [List.foldl_cons, List.filter_cons]
    by_cases ha : (ks.any fun x => x == p.1) = true
    · by_cases hb : p.2 = true
      · have e : (leftS xs ks pg p).cps.toList = pg.cps.toList ++ ([60, 97 + p.1.toNat, 62] ++ (refsL (xs.getD p.1.toNat Str.empty)).cps.toList) := by
          unfold leftS
          rw [if_pos ha, if_pos hb]
          simp only [Str.cps_append, Array.toList_append, hit]; rfl
        rw [if_neg (by simp [hb])]
        rw [e] at ih
        have hz := refs_free (xs.getD p.1.toNat Str.empty)
        have h1 : ([60, 97 + p.1.toNat, 62] : List Nat).getLast? ≠ some 60 := by simp
        have h0 : cnt2 [60, 97 + p.1.toNat, 62] = 0 := by
          simp [cnt2]; omega
        rw [ih (by rw [← List.append_assoc]; exact last_free (by simp) hz), cnt2_append _ _ hl, cnt2_append _ _ h1, h0, cnt2_free _ hz]
        omega
      · have hb' : p.2 = false := by simpa using hb
        have e : (leftS xs ks pg p).cps.toList = pg.cps.toList ++ [60, 47, 97 + p.1.toNat, 62] := by
          unfold leftS
          rw [if_pos ha, if_neg hb]
          simp only [Str.cps_append, Array.toList_append, hit]; rfl
        rw [if_pos (by simp only [hb', ha]; rfl)]
        rw [e] at ih
        have h0 : cnt2 [60, 47, 97 + p.1.toNat, 62] = 1 := by
          simp [cnt2]
        rw [ih (by simp), cnt2_append _ _ hl, h0, List.length_cons]
        omega
    · have e : leftS xs ks pg p = pg := by
        unfold leftS
        rw [if_neg ha]
      rw [if_neg (fun q => ha (by rw [Bool.and_eq_true] at q; exact q.2)), e]
      rw [e] at ih
      exact ih hl
theorem count_left {xs : List Str} {ks : List Int} {cs : List (Int × Bool)} (hr : ∀ p ∈ cs, 0 ≤ p.1 ∧ p.1 < 6) : Txt.count (leftL cs xs ks) (Str.ofString "</") = (((cs.filter fun p => !p.2 && ks.any fun x => x == p.1).length : Nat) : Int) := by
  rw [count_is]
  unfold leftL
  rw [count_fold xs ks cs _ hr (by decide +kernel)]
  rw [show cnt2 (Str.ofString "").cps.toList = 0 from rfl, Nat.zero_add]
end Mine
end
section
open PySem PySem.W PySem.Calls PyProof.Rows
set_option maxRecDepth 100000
set_option maxHeartbeats 8000000
namespace Mine
/-- a law's end, generators and all -/
noncomputable def LawEnd (tabs : List (Addr × Addr)) (s₁ : Shared) (r : Result) (s' : Shared) : Prop :=
  r = .ok (.ret (.bool true)) ∧ (∀ b o, (ghostOf s₁.heap tabs).get? b = some o → s'.heap.get? b = some o) ∧ GrownAll tabs s'.heap ∧ s'.os = s₁.os ∧ AllBare s'.gens
theorem law_post {M : Model} {A : Around} {cd : Code} {s s₁ : Shared} {cw : ClaimW} {cl : Str → Option Addr} {mean : ExcName → Option Value} {args : List WData} {tabs : List (Addr × Addr)} (hT : TabsAt tabs s₁.heap) (hr : ∀ x, cw.raises args x = false)
    (hp : cw.post args (.bool true) args = true) (h : codeAny M A cd (LawEnd tabs s₁) s) : codeAny M A cd (GoodWG cw cl mean args s₁) s :=
  codeAny_mono h fun r s' ⟨hres, hk, hgr, hos, hg⟩ => by
    subst hres
    have keep : ∀ b o, b ∉ tabs.map (·.2) → s₁.heap.get? b = some o → s'.heap.get? b = some o := fun b o hb e => hk b o (ghost_ne e hb)
    have grown : ∀ b o, b ∈ tabs.map (·.2) → s₁.heap.get? b = some o → isCodeTable s₁.heap b ∧ o = tabObj #[] ∧ ∃ ps, s'.heap.get? b = some (tabObj ps) := fun b o hb e => by
      obtain ⟨q, hq, rfl⟩ := List.mem_map.mp hb
      have e2 := (hT q hq).2
      rw [e] at e2
      exact ⟨((hT q hq).1.tab (hT q hq).2).isCodeTable, Option.some.inj e2, hgr.get q hq⟩
    refine ⟨.inl ⟨_, _, [], rfl, hr, ReadsW.bool true, hp, fun _ => ⟨List.nodup_nil, fun _ hm => (nomatch hm)⟩⟩, ⟨fun b o e => ?_, fun b o e => ?_⟩, hos, hg⟩
    · by_cases hb : b ∈ tabs.map (·.2)
      · obtain ⟨ht, rfl, ps, hP⟩ := grown b o hb e
        exact .inr (.inl ⟨ht, rfl, #[], ps, rfl, by rw [Array.empty_append]; exact hP⟩)
      · exact .inl (keep b o hb e)
    · by_cases hb : b ∈ tabs.map (·.2)
      · obtain ⟨_, _, ps, hP⟩ := grown b o hb e
        exact ⟨_, hP⟩
      · exact ⟨o, keep b o hb e⟩
/-- the end of the law's body -/
noncomputable def BodyEnd (g : Heap) (L P : Addr) (s₁ : Shared) (f : Flow) (s' : Shared) : Prop :=
  f = .ret (.bool true) ∧ ∃ h' tk G2 m pt, s' = ⟨h', G2, s₁.drawn, tk, s₁.os⟩ ∧ Grown s₁.gens G2 ∧ Fr g L h' m ∧ h'.get? P = some (tabObj pt)
theorem led_moreM {g h h' : Heap} {L : Addr} {m : Str → Option Value} {front R : Led} {v : Value} {d : Dat} (F : Fr g L h m) (N : News g L h (front ++ R)) (off : OwnOff R (front.map (·.1))) (k : h.StaysIn h') (D : DatNew h h' v d) :
    ∃ R' : Led, (∀ p ∈ R, p ∈ R') ∧ Fr g L h' m ∧ News g L h' (front ++ R') ∧ OwnOff R' (front.map (·.1)) ∧ DatIn R' v d :=
  led_more F N off (fun b hb => by obtain ⟨p, hp, e⟩ := List.mem_map.mp hb; exact ⟨p.2, e ▸ hp⟩) k D
/-- one more datum on the tail -/
theorem led_cons {g h : Heap} {L D : Addr} {o : Obj} {front R : Led} (N : News g L h ((D, o) :: (front ++ R))) (off : OwnOff R (front.map (·.1))) (hD : ∀ p ∈ front ++ R, p.1 ≠ D) :
    News g L h (front ++ ((D, o) :: R)) ∧ OwnOff ((D, o) :: R) (front.map (·.1)) ∧ (∀ p ∈ R, p ∈ (D, o) :: R) := by
  refine ⟨fun p hp => N p ?_, fun p hp b hb => ?_, fun p hp => .tail _ hp⟩
  · rcases List.mem_append.mp hp with hp | hp
    · exact .tail _ (List.mem_append_left _ hp)
    · rcases List.mem_cons.mp hp with rfl | hp
      · exact .head _
      · exact .tail _ (List.mem_append_right _ hp)
  · rcases List.mem_cons.mp hp with rfl | hp
    · obtain ⟨q, hq, rfl⟩ := List.mem_map.mp hb
      exact Ne.symm (hD q (List.mem_append_left _ hq))
    · exact off p hp b hb
theorem off1_ne {D : Addr} : ∀ {l : Led}, LCg.Off1 D l → ∀ p ∈ l, p.1 ≠ D
  | [], _, _, h => nomatch h
  | _ :: _, x, p, h => by
    rcases List.mem_cons.mp h with rfl | h
    · exact x.1
    · exact off1_ne x.2 p h
theorem dat_list {R : Led} {l : Addr} {ds : List Dat} (D : DatIn R (.ref l) (.list ds)) : ∃ vs n, (l, ({ cls := .type "list", data := .seq (List.toArray vs) n } : Obj)) ∈ R ∧ DatAll R vs ds := by
  cases D with | list hm ha => exact ⟨_, _, hm, ha⟩
theorem dat_get {R : Led} {vs : List Value} {ds : List Dat} (a : DatAll R vs ds) {i : Nat} {d : Dat} (e : ds[i]? = some d) : ∃ v, vs[i]? = some v ∧ DatIn R v d := by
  induction ds generalizing vs i with
  | nil => cases e
  | cons x ds ih =>
    cases a with
    | cons h r =>
      cases i with
      | zero => cases e; exact ⟨_, rfl, h⟩
      | succ i => exact ih r e
theorem off3_of {I C D : Addr} : ∀ {l : Led}, (∀ p ∈ l, p.1 ≠ I ∧ p.1 ≠ C ∧ p.1 ≠ D) → LCg.Off3 I C D l
  | [], _ => trivial
  | _ :: _, h => ⟨h _ (.head _), off3_of fun p hp => h p (.tail _ hp)⟩
/-- a comprehension's turn that grew the tail -/
theorem off3_more {I C D : Addr} {oI oC oD : Obj} {front R R' : Led} (off : LCg.Off3 I C D (front ++ R)) (o : OwnOff R' (((I, oI) :: (C, oC) :: (D, oD) :: front).map (·.1))) : LCg.Off3 I C D (front ++ R') ∧ OwnOff R' (front.map (·.1)) := by
  refine ⟨off3_of fun p hp => ?_, fun p hp b hb => o p hp b (.tail _ (.tail _ (.tail _ hb)))⟩
  rcases List.mem_append.mp hp with hp | hp
  · exact off.mem p (List.mem_append_left _ hp)
  · exact ⟨o p hp I (.head _), o p hp C (.tail _ (.head _)), o p hp D (.tail _ (.tail _ (.head _)))⟩
theorem off3_own {I C D : Addr} {oI oC oD : Obj} {front R : Led} (off : LCg.Off3 I C D (front ++ R)) (o : OwnOff R (front.map (·.1))) : OwnOff R (((I, oI) :: (C, oC) :: (D, oD) :: front).map (·.1)) := by
  intro p hp b hb
  have := off.mem p (List.mem_append_right _ hp)
  simp only [List.map_cons, List.mem_cons] at hb
  rcases hb with rfl | rfl | rfl | hb
  · exact this.1
  · exact this.2.1
  · exact this.2.2
  · exact o p hp b hb
noncomputable def formL (c : Int) : Int := (c.fdiv 7680).fmod 4
theorem form_ok {c : Int} (h : 0 ≤ c) : 0 ≤ formL c ∧ formL c < 4 := by
  unfold formL
  rw [fdiv_pos (by decide), fmod_pos (by decide)]
  exact ⟨Int.emod_nonneg _ (by decide), Int.emod_lt_of_pos _ (by decide)⟩
noncomputable def toldAt (cs : List Int) (k : Nat) : List (Array UInt8) := toldN ((ancL (depthsL cs)).getD k []) (formL (cs.getD k 0))
noncomputable def textAt (cs : List Int) (k : Nat) : Str := textL (cs.getD k 0)
theorem anc_at {cs : List Int} (hl : cs.length = 5 ∨ cs.length = 6) {k : Nat} (hk : k < cs.length) : (ancL (depthsL cs))[k]? = some ((ancL (depthsL cs)).getD k []) ∧ (ancL (depthsL cs)).getD k [] ∈ nmL := by
  obtain ⟨h1, h2⟩ := shape_of hl
  obtain ⟨h3, h4, _⟩ := sh_names _ h1
  have : k < (ancL (depthsL cs)).length := by rw [h3, h2]; exact hk
  rw [List.getD_eq_getElem?_getD, List.getElem?_eq_getElem this]
  exact ⟨rfl, h4 _ (List.getElem_mem _)⟩
theorem cell_at {cs : List Int} {k : Nat} (hk : k < cs.length) : cs[k]? = some (cs.getD k 0) ∧ cs.getD k 0 ∈ cs := by
  rw [List.getD_eq_getElem?_getD, List.getElem?_eq_getElem hk]
  exact ⟨rfl, List.getElem_mem _⟩
theorem nm_ok : ∀ nm ∈ nmL, nm.length ≤ 6 ∧ (∀ x ∈ nm.map nameL, x.length ≤ 20 ∧ (x.cps.toList.all fun c => !Str.isSurrogate c) = true) := by decide +kernel
theorem nm_strs {nm : List Nat} (h : nm ∈ nmL) : (nm.map nameL).length ≤ 6 ∧ ∀ x ∈ nm.map nameL, x.length ≤ 20 ∧ ∀ c ∈ x.cps, Str.isSurrogate c = false := by
  obtain ⟨a, b⟩ := nm_ok nm h
  refine ⟨by rw [List.length_map]; exact a, fun x hx => ⟨(b x hx).1, fun c hc => ?_⟩⟩
  have := List.all_eq_true.mp (b x hx).2 c (by simpa using hc)
  simpa using this
noncomputable def isSeq (o : Obj) : Bool := match o.data with | .seq _ _ => true | _ => false
theorem dat_seqs {R : Led} {v : Value} {d : Dat} (h : DatIn R v d) : DatIn (R.filter fun p => isSeq p.2) v d := by
  refine DatIn.rec (motive_1 := fun v d _ => DatIn (R.filter fun p => isSeq p.2) v d) (motive_2 := fun vs ds _ => DatAll (R.filter fun p => isSeq p.2) vs ds) ?_ ?_ ?_ ?_ ?_ ?_ ?_ ?_ ?_ h
  all_goals intros
  all_goals first | exact .none | exact .bool _ | exact .int _ _ | exact .str _ _ | exact .bytes _ _ | exact .tuple (List.mem_filter.mpr ⟨by assumption, rfl⟩) (by assumption) | exact .list (List.mem_filter.mpr ⟨by assumption, rfl⟩) (by assumption) | exact .nil | exact .cons (by assumption) (by assumption)
theorem seqs_not {R : Led} : ∀ p ∈ R.filter (fun p => isSeq p.2), ∀ vs, p.2.data ≠ .fields vs := by
  intro p hp vs e
  have := (List.mem_filter.mp hp).2
  unfold isSeq at this
  rw [e] at this
  cases this
/-- objects that are no fields stand apart from those that are -/
theorem off_kind {g h : Heap} {L : Addr} {front rest : Led} (N : News g L h front) (N2 : News g L h rest) (hf : ∀ p ∈ front, ∀ vs, p.2.data ≠ .fields vs) (hr : ∀ p ∈ rest, ∃ vs, p.2.data = .fields vs) : OwnOff rest (front.map (·.1)) := by
  intro p hp b hb e
  obtain ⟨q, hq, rfl⟩ := List.mem_map.mp hb
  have h1 := (N q hq).1
  have h2 := (N2 p hp).1
  rw [e] at h2
  obtain ⟨vs, z⟩ := hr p hp
  rw [h1] at h2
  injection h2 with h2
  rw [← h2] at z
  exact hf q hq vs z
section
variable {σ : Type} {prog : Program} {w : World} {A : Around} {E : Value → Shared → Prop} {s : Shared} {env : Env} {h₀ : Heap} {body : List Stmt} {Q : Flow → Shared → Prop}
/-- for .. in range, turns that make generators -/
theorem For_GR {x : Str} {px : Pos} {iter : Expr} {pos : Pos} {n : Nat} {m₀ : Str → Option Value} (L : σ → Led) (ps : σ → List (Str × Value)) (P : Nat → σ → Prop) (c₀ : σ)
    (hh : A.handled = none) (_F₀ : Fr h₀ env.locals s.heap m₀)
    (hit : wpAny (model prog w) A (eval iter env) (fun xv s₁ => ∃ r h tk t₀ u₀ v₀ b, xv = .ref r ∧ s₁ = ⟨h, s.gens, s.drawn, tk, s.os⟩ ∧ IsRange h r 0 b 1 t₀ u₀ v₀ ∧ Builtin.Range.small 0 b 1 = true ∧ Builtin.Range.rangeSize 0 b 1 = ((n : Nat) : Int) ∧ Fr h₀ env.locals h m₀ ∧ News h₀ env.locals h (L c₀)) E s)
    (hk : ∀ p ∈ ps c₀, m₀ p.1 = some p.2) (hp : P 0 c₀)
    (turn : ∀ (i : Nat) (t : Tok) (c : σ) (u : Str → Option Value) h tk G I oI, i < n → P i c → Grown s.gens G → (∀ p ∈ L c, p.1 ≠ I) → Fr h₀ env.locals h (kstB u (ps c)) → News h₀ env.locals h ((I, oI) :: L c) →
      wpAny (model prog w) A (assign (.Name x px) env (.int ((i : Nat) : Int) t)) (fun _ s₂ => wpAny (model prog w) A (execs body env) (TurnEnd h₀ env.locals s I oI L ps (P (i + 1))) E s₂) E ⟨h, G, s.drawn, tk, s.os⟩)
    (done : ∀ (c : σ) (u : Str → Option Value) h tk G, P n c → Grown s.gens G → Fr h₀ env.locals h (kstB u (ps c)) → News h₀ env.locals h (L c) → Q .next ⟨h, G, s.drawn, tk, s.os⟩)
    (hs : ∀ x, foldedSetIterable iter env x = pure x)
    (hE : PassesOwn (model prog w) A env E) :
    wpAny (model prog w) A (exec (.For (.Name x px) iter body [] pos) env) Q E s := by
  refine wpAny_For (wpAny_mono hit (fun xv s₁ h₁ => ?_) fun _ _ e => e) hs
  obtain ⟨r, h1, tk1, t₀, u₀, v₀, b, rfl, rfl, hr, hsm, hsz, F, N⟩ := h₁
  refine wpAny_pyIter_range hr hsm ?_
  have W : Walks prog w A h1.objs.size [h1.objs.size] [h1.objs.size] n (fun i v => i < n ∧ ∃ t, v = .int (0 + i * 1) t)
      (fun i h => IsRangeIter h h1.objs.size (0 + (i : Nat) * 1) ((n : Int) - (i : Nat)) 1) := (Walks.range hh _ 0 1 n).bound
  refine loop_G L ps P c₀ W (fun i v s Q E st q => by unfold letOwnedTupleGo; exact wpAny_pure q) (C := fun _ => True) (fun i h st => ⟨_, st, trivial⟩) (fun b hb q => absurd (List.mem_singleton.mp hb) q) (next_is_new F) (Nat.ne_of_gt F.ns.lt)
    (by show IsRangeIter _ _ _ _ _; rw [hsz]; simpa using Heap.get?_push_size _ rfl) (F.push _) (fun p hp => ⟨Heap.get?_push_of_some _ (N p hp).1, (N p hp).2⟩) (fun p hp => Nat.ne_of_lt (Heap.lt_size (N p hp).1)) hk hp ?_ ?_
  · intro i v c u h tk G oI _ hi hv hP hg hoff F1 N1
    obtain ⟨_, t, rfl⟩ := hv
    have e1 : (0 : Int) + (i : Int) * 1 = (i : Int) := by rw [Int.zero_add, Int.mul_one]
    rw [e1]
    exact wpAny_mono (turn i t c u h tk G _ oI hi hP hg hoff F1 N1) (fun _ _ x => wpAny_passesOwn hE x) hE
  · exact done
end
theorem news_tail {g h : Heap} {L : Addr} {front R R' : Led} (N : News g L h (front ++ R)) (s : ∀ p ∈ R', p ∈ R) : News g L h (front ++ R') := fun p hp => N p ((List.mem_append.mp hp).elim (fun h => List.mem_append_left _ h) fun h => List.mem_append_right _ (s p h))
theorem intBits_le {k : Int} {m : Nat} (h : k.natAbs < 2 ^ m) : Builtin.Int.intBits k ≤ m := by
  unfold Builtin.Int.intBits
  split
  · exact Nat.zero_le _
  · rcases Nat.eq_zero_or_pos k.natAbs with h0 | hp
    · rename_i q
      exact absurd (Int.natAbs_eq_zero.mp h0) (by simpa using q)
    · exact (Nat.log2_lt (Nat.ne_of_gt hp)).mpr h
theorem mulOk_of {a b d : Int} (h : a * b = d) (hd : 0 < d) (hd2 : d < 2 ^ 200) : IntMulOk a b := by
  obtain ⟨n, rfl⟩ := Int.eq_ofNat_of_zero_le (Int.le_of_lt hd)
  have e : a.natAbs * b.natAbs = n := by rw [← Int.natAbs_mul, h]; rfl
  have hdn : n < 2 ^ 200 := Int.ofNat_lt.mp (by rw [Int.natCast_pow]; exact hd2)
  have hp : 0 < n := Int.ofNat_lt.mp hd
  have ha : 0 < a.natAbs := Nat.pos_of_ne_zero fun q => by rw [q, Nat.zero_mul] at e; exact absurd e (Nat.ne_of_lt hp)
  have hb : 0 < b.natAbs := Nat.pos_of_ne_zero fun q => by rw [q, Nat.mul_zero] at e; exact absurd e (Nat.ne_of_lt hp)
  have h1 : a.natAbs ≤ n := by rw [← e]; exact Nat.le_mul_of_pos_right _ hb
  have h2 : b.natAbs ≤ n := by rw [← e]; exact Nat.le_mul_of_pos_left _ ha
  have q1 := intBits_le (k := a) (m := 200) (Nat.lt_of_le_of_lt h1 hdn)
  have q2 := intBits_le (k := b) (m := 200) (Nat.lt_of_le_of_lt h2 hdn)
  have q3 : Builtin.Int.intTooBig (Builtin.Int.intBits a + Builtin.Int.intBits b) = false := by
    unfold Builtin.Int.intTooBig bitsLine
    exact decide_eq_false fun q => absurd (Int.lt_of_lt_of_le q (show (Builtin.Int.intBits a : Int) + (Builtin.Int.intBits b : Int) ≤ ((200 + 200 : Nat) : Int) from Int.ofNat_le.mpr (Nat.add_le_add q1 q2))) (by decide)
  unfold IntMulOk
  rw [q3]; simp
theorem due_small : 0 < dueL 5 ∧ dueL 5 < 2 ^ 200 ∧ 0 < dueL 6 ∧ dueL 6 < 2 ^ 200 := by decide +kernel
theorem ones_small : ∀ n ∈ [0, 1, 2, 3, 4, 5, 6], -(2 ^ 64) < onesL n ∧ onesL n < 2 ^ 64 := by decide +kernel
theorem ones_ok {n : Nat} (h : n ≤ 6) (a : Int) : IntMulOk a (onesL n) := by
  obtain ⟨h1, h2⟩ := ones_small n ((by decide : ∀ n, n < 7 → n ∈ [0, 1, 2, 3, 4, 5, 6]) n (Nat.lt_succ_of_le h))
  exact IntMulOk.of_right (intBits_le_64 h1 h2)
theorem due_step (i : Nat) : dueL (i + 1) = dueL i * onesL (i + 1) := by unfold dueL; rw [List.range_succ, List.foldl_append]; rfl
theorem prod_step (ds : List Int) (i : Nat) : prodL ds (i + 1) = prodL ds i * onesL (ds.length - endsN ds i) := by unfold prodL; rw [List.range_succ, List.foldl_append]; rfl
theorem law_sum {ds : List Int} (h : ds ∈ shapes) (hl : ds.length = 5 ∨ ds.length = 6) : ordersL ds * prodL ds ds.length = dueL ds.length ∧ IntMulOk (ordersL ds) (prodL ds ds.length) := by
  have e := sh_orders ds h
  have d := due_small
  refine ⟨e, ?_⟩
  rcases hl with q | q
  · rw [q] at e ⊢; exact mulOk_of e d.1 d.2.1
  · rw [q] at e ⊢; exact mulOk_of e d.2.2.1 d.2.2.2
/-- the elements that the flags leave -/
noncomputable def condK (cs : List Int) (i j : Nat) : Bool := decide (j ≠ i) && !((toldAt cs j).any fun c => c.toList == (utf8L (nameL i)).toList)
noncomputable def keptC (cs : List Int) (i m : Nat) : List Int := ((((List.range cs.length).take m).filter (condK cs i)).map fun (j : Nat) => (j : Int))
theorem told_any : ∀ nm ∈ nmL, ∀ f ∈ [(0 : Int), 1, 2, 3], ∀ i ∈ [0, 1, 2, 3, 4, 5], ((toldN nm f).any fun c => c.toList == (utf8L (nameL i)).toList) = nm.contains i := by decide +kernel
theorem kept_eq {cs : List Int} (hl : cs.length = 5 ∨ cs.length = 6) (hr : ∀ c ∈ cs, 0 ≤ c ∧ c < 1000000) {i : Nat} (hi : i < cs.length) : keptC cs i cs.length = keptN (depthsL cs) i := by
  unfold keptC keptN
  rw [(shape_of hl).2, List.take_of_length_le (by rw [List.length_range]; exact Nat.le_refl _)]
  congr 1
  refine List.filter_congr fun j hj => ?_
  have hj' := List.mem_range.mp hj
  obtain ⟨_, h2⟩ := anc_at hl hj'
  have hf := form_ok (hr _ (cell_at hj').2).1
  unfold condK toldAt
  rw [told_any _ h2 _ (forms_mem hf.1 hf.2) i ((by decide : ∀ i, i < 6 → i ∈ [0, 1, 2, 3, 4, 5]) i (Nat.lt_of_lt_of_le hi (by rcases hl with q | q <;> rw [q] <;> decide)))]
theorem kept_snoc (cs : List Int) (i : Nat) {j : Nat} (hj : j < cs.length) : keptC cs i (j + 1) = keptC cs i j ++ (if condK cs i j = true then [(j : Int)] else []) := filt_snoc _ hj
theorem name_enc {i : Nat} (h : i < 6) : (∀ c ∈ (Txt.item (Str.ofString "abcdef") (i : Int)).cps, Str.isSurrogate c = false) ∧ (Txt.item (Str.ofString "abcdef") (i : Int)).length ≤ 20 := by
  have e := (name_list h).1
  refine ⟨fun c hc => ?_, ?_⟩
  · have hc' : c ∈ (nameL i).cps.toList := by simpa [nameL] using hc
    rw [e] at hc'
    rw [List.mem_singleton.mp hc']
    unfold Str.isSurrogate
    have : ¬ (0xD800 ≤ 97 + i) := Nat.not_le.mpr (Nat.lt_trans (Nat.add_lt_add_left h 97) (by decide))
    simp [this]
  · show (nameL i).cps.size ≤ 20
    rw [← Array.length_toList, e]; exact (by decide : 1 ≤ 20)
theorem keep_kind {h h' : Heap} {P : Addr} {o1 : Obj} {rest rest2 : Led} (hk : ∀ b o, h.get? b = some o → b ≠ P → (∀ p ∈ rest, p.1 ≠ b) → h'.get? b = some o ∧ ∀ p ∈ rest2, p.1 ≠ b) (hP : h.get? P = some o1) (h1 : ∃ vs, o1.data = .fields vs) (hr : ∀ p ∈ rest, h.get? p.1 = some p.2) (hrf : ∀ p ∈ rest, ∃ vs, p.2.data = .fields vs) :
    ∀ b o, h.get? b = some o → (∀ vs, o.data ≠ .fields vs) → h'.get? b = some o := by
  intro b o e hn
  refine (hk b o e (fun q => ?_) fun p hp q => ?_).1
  · rw [q, hP] at e
    injection e with e
    obtain ⟨vs, z⟩ := h1
    rw [e] at z
    exact hn vs z
  · have z := hr p hp
    rw [q, e] at z
    injection z with z
    obtain ⟨vs, y⟩ := hrf p hp
    rw [← z] at y
    exact hn vs y
theorem after_written {g h h' : Heap} {L P : Addr} {o1 o2 : Obj} {front R rest rest2 : Led} (N : News g L h (front ++ ((P, o1) :: (rest ++ R)))) (hkeep : ∀ b o, h.get? b = some o → (∀ vs, o.data ≠ .fields vs) → h'.get? b = some o)
    (hf : ∀ p ∈ front, ∀ vs, p.2.data ≠ .fields vs) (hR : ∀ p ∈ R, ∀ vs, p.2.data ≠ .fields vs) (N2 : News g L h' ((P, o2) :: rest2)) (hR2 : ∀ p ∈ rest2, ∃ vs, p.2.data = .fields vs) (oP : OwnOff rest2 [P]) :
    News g L h' (front ++ ((P, o2) :: (rest2 ++ R))) ∧ OwnOff rest2 (front.map (·.1)) := by
  have N3 : News g L h' front := fun p hp => ⟨hkeep _ _ (N p (List.mem_append_left _ hp)).1 (hf p hp), (N p (List.mem_append_left _ hp)).2⟩
  refine ⟨fun p hp => ?_, off_kind N3 (fun p hp => N2 p (.tail _ hp)) hf hR2⟩
  rcases List.mem_append.mp hp with hp | hp
  · exact N3 p hp
  rcases List.mem_cons.mp hp with rfl | hp
  · exact N2 _ (.head _)
  rcases List.mem_append.mp hp with hp | hp
  · exact N2 p (.tail _ hp)
  · have q : p ∈ front ++ ((P, o1) :: (rest ++ R)) := List.mem_append_right _ (.tail _ (List.mem_append_right _ hp))
    exact ⟨hkeep _ _ (N p q).1 (hR p hp), (N p q).2⟩
theorem ne_empty {prog : Program} {w : World} {A : Around} {E : Value → Shared → Prop} {s : Shared} {T T' : Addr} {Q : Value → Shared → Prop} (i : s.heap.IsTuple T #[]) (i' : s.heap.IsTuple T' #[]) (hu : A.units < cLine) (h : Q (.bool false) s) : wpAny (model prog w) A (compareOp .NotEq (.ref T) (.ref T')) Q E s :=
  SeqAt.RcNeAt.tuples (A := A) (e := fun _ => true) i i' hu (fun j h1 h2 => absurd h1 (Nat.not_lt_zero _)) prog w E Q h
theorem turn_end {σ : Type} {h₀ : Heap} {Lc : Addr} {s : Shared} {I : Addr} {oI : Obj} {L : σ → Led} {ps : σ → List (Str × Value)} {P : σ → Prop} {h' : Heap} {tk' : Nat} {G' : Array GenState} {m' : Str → Option Value} (c' : σ)
    (F : Fr h₀ Lc h' m') (hG : Grown s.gens G') (hps : ∀ p ∈ ps c', m' p.1 = some p.2) (hN : News h₀ Lc h' ((I, oI) :: L c')) (hoff : ∀ p ∈ L c', p.1 ≠ I) (hP : P c') : TurnEnd h₀ Lc s I oI L ps P .next ⟨h', G', s.drawn, tk', s.os⟩ :=
  ⟨rfl, h', tk', G', m', c', rfl, hG, F, hps, hN, hoff, hP⟩
/-- a turn's post, hidden -/
theorem turn_hide {M : Model} {A : Around} {E : Value → Shared → Prop} {s : Shared} {env : Env} {body : List Stmt} {t : Sem Unit} {QT : Flow → Shared → Prop} (h : ∀ Q : Flow → Shared → Prop, (∀ f s', QT f s' → Q f s') → wpAny M A t (fun _ s₂ => wpAny M A (execs body env) Q E s₂) E s) :
    wpAny M A t (fun _ s₂ => wpAny M A (execs body env) QT E s₂) E s := h QT fun _ _ q => q
theorem bne_no {x : Str} : ¬ (x != x) = true := by simp
/-- a mark: count the tokens here -/
noncomputable def TokMark : Prop := True
theorem TokMark.mk : TokMark := trivial
/-- what changes in the law's loop -/
structure BSt where
  ok : Obj
  okv : Option Value
  on : Obj
  onv : Option Value
  pt : Array Value
  rest : Led
  lv : List Value
  lep : Nat
  pr : Int
  tp : Tok
  du : Int
  td : Tok
theorem grown_bare {a b : Array GenState} (h : Grown a b) (ha : AllBare a) : AllBare b := fun y hy => (h y hy).elim (ha y) id
end Mine
end
section
open PySem PySem.W PySem.Calls PyProof.Rows
set_option maxRecDepth 100000
set_option maxHeartbeats 8000000
namespace Mine
theorem room_l {d u : Nat} {e : Env} (hd : d ≤ 500) (hu : u ≤ 5000) : Room d u (callerA.deeper e) := ⟨rfl, by (simp only [depth_deeper, depth_caller]); omega, by (show 4 + _ + u < 9000); omega⟩
section
variable {M : Model} {A : Around} {E : Value → Shared → Prop} {s : Shared} {env : Env} {rest : List Stmt} {Q : Flow → Shared → Prop}
theorem th_nextG {s₀ : Shared} {G g₀ : Array GenState} {g h : Heap} {L : Addr} {m : Str → Option Value} (_F : Fr g L h m) (_G : Grown g₀ G) (H : ∀ k, wpAny M A (execs rest env) Q E ⟨h, G, s₀.drawn, k, s₀.os⟩) (e : s = ⟨h, G, s₀.drawn, s.toks, s₀.os⟩) : Th M A rest env Q E .next s := by
  rw [e]; exact H _
theorem th_nextT {s₀ : Shared} {G g₀ : Array GenState} {g h : Heap} {L : Addr} {m : Str → Option Value} {n : Nat} (_F : Fr g L h m) (_G : Grown g₀ G) (H : ∀ k, 1 ≤ k → wpAny M A (execs rest env) Q E ⟨h, G, s₀.drawn, k, s₀.os⟩) (e : s = ⟨h, G, s₀.drawn, n + 1, s₀.os⟩) : Th M A rest env Q E .next s := by
  rw [e]; exact H _ (Nat.le_add_left 1 n)
end
theorem nat63 {n : Nat} (h : n ≤ 1000) : (n : Int) < 2 ^ 63 := Int.lt_of_le_of_lt (Int.ofNat_le.mpr h) (by decide)
theorem main.tw10082525699882495855 : True := trivial
theorem main.tw10159738436595150677 : True := trivial
theorem main.tw10177057350305019805 : True := trivial
theorem main.tw10234815189450012239 : True := trivial
theorem main.tw10298723112805639129 : True := trivial
theorem main.tw10363585996791799541 : True := trivial
theorem main.tw104360540948158410 : True := trivial
theorem main.tw1054321117371714560 : True := trivial
theorem main.tw10609540516017602915 : True := trivial
theorem main.tw1061441046056639807 : True := trivial
theorem main.tw10642606787283503386 : True := trivial
theorem main.tw10665089971535097683 : True := trivial
theorem main.tw10669944970481658594 : True := trivial
theorem main.tw10707853282979444102 : True := trivial
theorem main.tw1084114956928915155 : True := trivial
theorem main.tw10876375607700338302 : True := trivial
theorem main.tw10877679251791092727 : True := trivial
theorem main.tw1099256609624015869 : True := trivial
theorem main.tw11003572833241299968 : True := trivial
theorem main.tw11101190512080308003 : True := trivial
theorem main.tw11156056980113079860 : True := trivial
theorem main.tw1118068078248606362 : True := trivial
theorem main.tw11181722664286889309 : True := trivial
theorem main.tw1120264589727278449 : True := trivial
theorem main.tw11221353774195762014 : True := trivial
theorem main.tw11403851563620829512 : True := trivial
theorem main.tw11461230924637031220 : True := trivial
theorem main.tw11501822485730972192 : True := trivial
theorem main.tw11544348965984651327 : True := trivial
theorem main.tw11554813239044494598 : True := trivial
theorem main.tw1156462466702112376 : True := trivial
theorem main.tw1157997071576566072 : True := trivial
theorem main.tw11646826074482590764 : True := trivial
theorem main.tw11710404883906591787 : True := trivial
theorem main.tw11752208632293872130 : True := trivial
theorem main.tw11767160866134126599 : True := trivial
theorem main.tw11770474507260867162 : True := trivial
theorem main.tw1178595665728414349 : True := trivial
theorem main.tw11815829001073249272 : True := trivial
theorem main.tw11857135199678951331 : True := trivial
theorem main.tw11982392923317675503 : True := trivial
theorem main.tw12057704586751987240 : True := trivial
theorem main.tw12077450504624328385 : True := trivial
theorem main.tw12115793150540458024 : True := trivial
theorem main.tw12205347405646519318 : True := trivial
theorem main.tw12252054271945606052 : True := trivial
theorem main.tw12298629886278197574 : True := trivial
theorem main.tw12343854547171428336 : True := trivial
theorem main.tw12361340156312767134 : True := trivial
theorem main.tw1236483940969888574 : True := trivial
theorem main.tw12431561837914552411 : True := trivial
theorem main.tw12455012482086183272 : True := trivial
theorem main.tw12483276189755474720 : True := trivial
theorem main.tw12495339312024472815 : True := trivial
theorem main.tw12518504611687188807 : True := trivial
theorem main.tw12563044803099847913 : True := trivial
theorem main.tw12590340796369385619 : True := trivial
theorem main.tw12601621578485008135 : True := trivial
theorem main.tw12623159325031504133 : True := trivial
theorem main.tw12670839924663504800 : True := trivial
theorem main.tw1270039299266317192 : True := trivial
theorem main.tw12702744160499308131 : True := trivial
theorem main.tw12706235939375600548 : True := trivial
theorem main.tw12732289081945773324 : True := trivial
theorem main.tw1277820614484962519 : True := trivial
theorem main.tw12839114828313443825 : True := trivial
theorem main.tw12900284412222446716 : True := trivial
theorem main.tw12915833801598196605 : True := trivial
theorem main.tw12927740378394474205 : True := trivial
theorem main.tw12941917028564957548 : True := trivial
theorem main.tw1306636233014830658 : True := trivial
theorem main.tw13219505800766818778 : True := trivial
theorem main.tw13224007501803129859 : True := trivial
theorem main.tw13270728482189477470 : True := trivial
theorem main.tw13348322127785295214 : True := trivial
theorem main.tw13350764725976880583 : True := trivial
theorem main.tw13355152605343272895 : True := trivial
theorem main.tw13402765919934010277 : True := trivial
theorem main.tw13503263706703578961 : True := trivial
theorem main.tw13590572293223372214 : True := trivial
theorem main.tw13626721169425172152 : True := trivial
theorem main.tw13642826006792871662 : True := trivial
theorem main.tw13667920496262714385 : True := trivial
theorem main.tw13676971244355772609 : True := trivial
theorem main.tw13693970394777133609 : True := trivial
theorem main.tw13724616953566380437 : True := trivial
theorem main.tw13803360072150633466 : True := trivial
theorem main.tw13876859957761632879 : True := trivial
theorem main.tw13962693860625380366 : True := trivial
theorem main.tw14027531716089632829 : True := trivial
theorem main.tw14061640607465278742 : True := trivial
theorem main.tw14064073609400967072 : True := trivial
theorem main.tw14097447854668400296 : True := trivial
theorem main.tw1409966394225722968 : True := trivial
theorem main.tw14148177179885854485 : True := trivial
theorem main.tw14248343981669990908 : True := trivial
theorem main.tw1429040668314091153 : True := trivial
theorem main.tw1439166485080882 : True := trivial
theorem main.tw14439473939278146460 : True := trivial
theorem main.tw14457758005677747962 : True := trivial
theorem main.tw14510055921401542917 : True := trivial
theorem main.tw1453356044741674121 : True := trivial
theorem main.tw14539993770535171780 : True := trivial
theorem main.tw14635473669698735251 : True := trivial
theorem main.tw14639212616227390028 : True := trivial
theorem main.tw14645429698944441668 : True := trivial
theorem main.tw14646587721710459877 : True := trivial
theorem main.tw14662554035588321541 : True := trivial
theorem main.tw14672674291997333471 : True := trivial
theorem main.tw14722489848711283861 : True := trivial
theorem main.tw14759895335926876869 : True := trivial
theorem main.tw14771111431291430275 : True := trivial
theorem main.tw14788915703135433725 : True := trivial
theorem main.tw14793117695081215449 : True := trivial
theorem main.tw14907226015203709474 : True := trivial
theorem main.tw14909365282108701170 : True := trivial
theorem main.tw1496695287857109588 : True := trivial
theorem main.tw15017983477296125989 : True := trivial
theorem main.tw1504049600530537962 : True := trivial
theorem main.tw15109750227778091905 : True := trivial
theorem main.tw15131278010643852716 : True := trivial
theorem main.tw15270170921892066516 : True := trivial
theorem main.tw15303317825217679618 : True := trivial
theorem main.tw15342904991969174519 : True := trivial
theorem main.tw1545906260438175962 : True := trivial
theorem main.tw15465920861327815835 : True := trivial
theorem main.tw15467891735981029475 : True := trivial
theorem main.tw15485851114877660061 : True := trivial
theorem main.tw15491723280356408159 : True := trivial
theorem main.tw15514936471743626214 : True := trivial
theorem main.tw15577286369154851727 : True := trivial
theorem main.tw15595112118272840620 : True := trivial
theorem main.tw15624239662980076321 : True := trivial
theorem main.tw15734660467963936456 : True := trivial
theorem main.tw15737690656516749961 : True := trivial
theorem main.tw15803610866087392283 : True := trivial
theorem main.tw15806524323241146399 : True := trivial
theorem main.tw15928290008803537013 : True := trivial
theorem main.tw15984706205718930553 : True := trivial
theorem main.tw16035907590883218939 : True := trivial
theorem main.tw16046730324260685337 : True := trivial
theorem main.tw16049902774474827687 : True := trivial
theorem main.tw16102231251864390963 : True := trivial
theorem main.tw16193401482309157537 : True := trivial
theorem main.tw16251939892948500945 : True := trivial
theorem main.tw1628013610222277130 : True := trivial
theorem main.tw1630245386807275959 : True := trivial
theorem main.tw16320729459185622934 : True := trivial
theorem main.tw16356685582667847594 : True := trivial
theorem main.tw16361134009908129286 : True := trivial
theorem main.tw16373046581243095457 : True := trivial
theorem main.tw16452447596832230105 : True := trivial
theorem main.tw16480584520131690045 : True := trivial
theorem main.tw16519101796099990279 : True := trivial
theorem main.tw16572128252103988241 : True := trivial
theorem main.tw16641786646906312760 : True := trivial
theorem main.tw16691211078767756181 : True := trivial
theorem main.tw16721930046160240684 : True := trivial
theorem main.tw16758809965011540125 : True := trivial
theorem main.tw1677766988990989824 : True := trivial
theorem main.tw1678875084529416142 : True := trivial
theorem main.tw16798622893749714585 : True := trivial
theorem main.tw16819838333489098493 : True := trivial
theorem main.tw16826212616301561204 : True := trivial
theorem main.tw16832360635688203351 : True := trivial
theorem main.tw16833934730148084282 : True := trivial
theorem main.tw16922381011570985944 : True := trivial
theorem main.tw16923884221124529275 : True := trivial
theorem main.tw16950194794029067938 : True := trivial
theorem main.tw16952715711813285254 : True := trivial
theorem main.tw16965079339398995527 : True := trivial
theorem main.tw17091655785135471103 : True := trivial
theorem main.tw17118054049896295152 : True := trivial
theorem main.tw1714950047550659301 : True := trivial
theorem main.tw17201416709059790184 : True := trivial
theorem main.tw17223442867436993403 : True := trivial
theorem main.tw17236958762192778904 : True := trivial
theorem main.tw17292155258170135553 : True := trivial
theorem main.tw17297283025540448806 : True := trivial
theorem main.tw17336282652733537790 : True := trivial
theorem main.tw17353955331779342651 : True := trivial
theorem main.tw17450470499104002142 : True := trivial
theorem main.tw17477492558424962760 : True := trivial
theorem main.tw17510229520200029679 : True := trivial
theorem main.tw17679725944135375923 : True := trivial
theorem main.tw17695171507069755227 : True := trivial
theorem main.tw17708487481403421675 : True := trivial
theorem main.tw17737603089517620647 : True := trivial
theorem main.tw17958375852430007124 : True := trivial
theorem main.tw17974016328880235120 : True := trivial
theorem main.tw18072910330486901160 : True := trivial
theorem main.tw18134284020713443437 : True := trivial
theorem main.tw18218335207050127959 : True := trivial
theorem main.tw18234761425742761375 : True := trivial
theorem main.tw18244272662864393019 : True := trivial
theorem main.tw18302796317244248524 : True := trivial
theorem main.tw18315214858253571532 : True := trivial
theorem main.tw18325589031809861271 : True := trivial
theorem main.tw18332899500509843999 : True := trivial
theorem main.tw18403998269306519403 : True := trivial
theorem main.tw18421580907717582127 : True := trivial
theorem main.tw18433043932347181657 : True := trivial
theorem main.tw18442785490491869365 : True := trivial
theorem main.tw1850612553970854742 : True := trivial
theorem main.tw2019394398466159022 : True := trivial
theorem main.tw2109297985684337612 : True := trivial
theorem main.tw2110754180369666209 : True := trivial
theorem main.tw2164743871083121425 : True := trivial
theorem main.tw2190695567426971638 : True := trivial
theorem main.tw2195194259037543316 : True := trivial
theorem main.tw2199488891245549803 : True := trivial
theorem main.tw221909299271738847 : True := trivial
theorem main.tw2225956059507018244 : True := trivial
theorem main.tw223528310411579522 : True := trivial
theorem main.tw2279707942289718827 : True := trivial
theorem main.tw2287757881348798766 : True := trivial
theorem main.tw2354262462317623899 : True := trivial
theorem main.tw2406621943657119228 : True := trivial
theorem main.tw2433702464844828792 : True := trivial
theorem main.tw2496676261509829067 : True := trivial
theorem main.tw2538046985915079169 : True := trivial
theorem main.tw2544328076492683441 : True := trivial
theorem main.tw2566753976717531306 : True := trivial
theorem main.tw2583023086579268501 : True := trivial
theorem main.tw2629084897520917108 : True := trivial
theorem main.tw2702614204127132176 : True := trivial
theorem main.tw2724176850512262202 : True := trivial
theorem main.tw2729793432009153956 : True := trivial
theorem main.tw2759098988195820126 : True := trivial
theorem main.tw2821470743931037460 : True := trivial
theorem main.tw2852251193174398662 : True := trivial
theorem main.tw2870156010397585342 : True := trivial
theorem main.tw2895952525429962455 : True := trivial
theorem main.tw2906824675625879941 : True := trivial
theorem main.tw2921621734765799159 : True := trivial
theorem main.tw2921958311620399285 : True := trivial
theorem main.tw3027586509356016917 : True := trivial
theorem main.tw3234112476842188716 : True := trivial
theorem main.tw3299218664060906527 : True := trivial
theorem main.tw3343439749351644125 : True := trivial
theorem main.tw33456957511925785 : True := trivial
theorem main.tw3394367416137920725 : True := trivial
theorem main.tw3454311308915712629 : True := trivial
theorem main.tw3466206800631347469 : True := trivial
theorem main.tw3491332818749588091 : True := trivial
theorem main.tw3532412968194664532 : True := trivial
theorem main.tw3550944181758424347 : True := trivial
theorem main.tw3557749057250611081 : True := trivial
theorem main.tw3562595001068472590 : True := trivial
theorem main.tw3613476055612923068 : True := trivial
theorem main.tw3674409469955505439 : True := trivial
theorem main.tw3706830351922483016 : True := trivial
theorem main.tw3791957361687005105 : True := trivial
theorem main.tw3796207824708393856 : True := trivial
theorem main.tw3829396358689915599 : True := trivial
theorem main.tw3848698983108048278 : True := trivial
theorem main.tw387501639795913443 : True := trivial
theorem main.tw3905226178654972811 : True := trivial
theorem main.tw3934531018447913466 : True := trivial
theorem main.tw3960113756560652017 : True := trivial
theorem main.tw4026956272090484662 : True := trivial
theorem main.tw4039676971129161736 : True := trivial
theorem main.tw4072190877284726289 : True := trivial
theorem main.tw4126091431370883743 : True := trivial
theorem main.tw4324958949535026087 : True := trivial
theorem main.tw4333880214566435006 : True := trivial
theorem main.tw4452170602077327944 : True := trivial
theorem main.tw4458048076830672230 : True := trivial
theorem main.tw4475767826048309731 : True := trivial
theorem main.tw4500915450034043215 : True := trivial
theorem main.tw452746233719593009 : True := trivial
theorem main.tw4544244032028310869 : True := trivial
theorem main.tw4573282807186111410 : True := trivial
theorem main.tw4585930131862741453 : True := trivial
theorem main.tw4637267157515435788 : True := trivial
theorem main.tw4651154628705390771 : True := trivial
theorem main.tw4775608329324902142 : True := trivial
theorem main.tw4839478117068044826 : True := trivial
theorem main.tw5061512775090418087 : True := trivial
theorem main.tw5102693214775723256 : True := trivial
theorem main.tw5127751686995613262 : True := trivial
theorem main.tw5160751907100791332 : True := trivial
theorem main.tw5203219222101121401 : True := trivial
theorem main.tw52199770228462824 : True := trivial
theorem main.tw5240536507193477226 : True := trivial
theorem main.tw5240779543111244032 : True := trivial
theorem main.tw5400957986263281647 : True := trivial
theorem main.tw5436791530062809996 : True := trivial
theorem main.tw5473700226181020891 : True := trivial
theorem main.tw5507402815253087181 : True := trivial
theorem main.tw5518243967957118194 : True := trivial
theorem main.tw5532463470591059822 : True := trivial
theorem main.tw5585478044538960755 : True := trivial
theorem main.tw5613160597433933154 : True := trivial
theorem main.tw5649967823195072380 : True := trivial
theorem main.tw5665735395497279834 : True := trivial
theorem main.tw5781596087445459943 : True := trivial
theorem main.tw5995161000843957690 : True := trivial
theorem main.tw6044114016751833949 : True := trivial
theorem main.tw6053611964639427726 : True := trivial
theorem main.tw6162249291895867263 : True := trivial
theorem main.tw6222487380544312443 : True := trivial
theorem main.tw6361450105264607166 : True := trivial
theorem main.tw6385024630547198690 : True := trivial
theorem main.tw6449824600675878752 : True := trivial
theorem main.tw6511744376749373798 : True := trivial
theorem main.tw6541472054586571296 : True := trivial
theorem main.tw6545385358150927430 : True := trivial
theorem main.tw6557543464795787104 : True := trivial
theorem main.tw65644731488775911 : True := trivial
theorem main.tw6605666738245375177 : True := trivial
theorem main.tw66260789543402106 : True := trivial
theorem main.tw663525757362878733 : True := trivial
theorem main.tw6635558491612396129 : True := trivial
theorem main.tw6655696309031964122 : True := trivial
theorem main.tw6660377722381337597 : True := trivial
theorem main.tw6696893160125735727 : True := trivial
theorem main.tw6697339332421208802 : True := trivial
theorem main.tw6741292078354696603 : True := trivial
theorem main.tw6785657489111691699 : True := trivial
theorem main.tw6801380410627298636 : True := trivial
theorem main.tw6862492499505807319 : True := trivial
theorem main.tw6877560268529008848 : True := trivial
theorem main.tw6910295442248876197 : True := trivial
theorem main.tw6912675738884088206 : True := trivial
theorem main.tw7074144079889050967 : True := trivial
theorem main.tw7083192437325867461 : True := trivial
theorem main.tw7153082081811710619 : True := trivial
theorem main.tw716429049611869786 : True := trivial
theorem main.tw7173623326730630234 : True := trivial
theorem main.tw7186131708394509389 : True := trivial
theorem main.tw7214478077546791972 : True := trivial
theorem main.tw7235775444256392728 : True := trivial
theorem main.tw7237411587787531456 : True := trivial
theorem main.tw7268301785047649679 : True := trivial
theorem main.tw7293298908176781663 : True := trivial
theorem main.tw7308723440029596264 : True := trivial
theorem main.tw7380652910202371479 : True := trivial
theorem main.tw7436448052282571913 : True := trivial
theorem main.tw7439787175107056256 : True := trivial
theorem main.tw750237026923860459 : True := trivial
theorem main.tw7590696779544312186 : True := trivial
theorem main.tw7698036289167662538 : True := trivial
theorem main.tw7751025194823839400 : True := trivial
theorem main.tw7761410557224570781 : True := trivial
theorem main.tw7846812961960373227 : True := trivial
theorem main.tw7875838824674609581 : True := trivial
theorem main.tw8079908401900000222 : True := trivial
theorem main.tw8118072479153026202 : True := trivial
theorem main.tw8207831470162742035 : True := trivial
theorem main.tw8211959896082780389 : True := trivial
theorem main.tw8302014573352188303 : True := trivial
theorem main.tw832900586485598795 : True := trivial
theorem main.tw834873547066669988 : True := trivial
theorem main.tw8440099810896429113 : True := trivial
theorem main.tw8466321980469482115 : True := trivial
theorem main.tw8467378866343419333 : True := trivial
theorem main.tw8475525182357872103 : True := trivial
theorem main.tw8478376212529829071 : True := trivial
theorem main.tw8652556701797213591 : True := trivial
theorem main.tw8663697691656813868 : True := trivial
theorem main.tw8729708805864041840 : True := trivial
theorem main.tw8748973510418095054 : True := trivial
theorem main.tw8905464785575363620 : True := trivial
theorem main.tw8930851030842425676 : True := trivial
theorem main.tw9069182735580402390 : True := trivial
theorem main.tw9121559901702372667 : True := trivial
theorem main.tw9155575984036265788 : True := trivial
theorem main.tw9265829497004654079 : True := trivial
theorem main.tw9272984997812220495 : True := trivial
theorem main.tw9302470337196694018 : True := trivial
theorem main.tw9360745474812902239 : True := trivial
theorem main.tw9361300454564663673 : True := trivial
theorem main.tw9376575566392132001 : True := trivial
theorem main.tw9483120023164983764 : True := trivial
theorem main.tw9508770018378322450 : True := trivial
theorem main.tw9512817274939609580 : True := trivial
theorem main.tw9557352009045844224 : True := trivial
theorem main.tw9563168847844234846 : True := trivial
theorem main.tw962032349192862916 : True := trivial
theorem main.tw9656510801202774680 : True := trivial
theorem main.tw9670510015898674028 : True := trivial
theorem main.tw9682133043923132273 : True := trivial
theorem main.tw970773181175786467 : True := trivial
theorem main.tw9730157408454304684 : True := trivial
theorem main.tw9756827057097773860 : True := trivial
theorem main.tw979501456738626862 : True := trivial
theorem main.tw9848185148710128376 : True := trivial
theorem main.tw9897820754763898449 : True := trivial
theorem main.tw9957550378297406723 : True := trivial
theorem main.tw9976160756891316704 : True := trivial
theorem main.tw9986019674649008433 : True := trivial
theorem main.tw9994787619460420439 : True := trivial
section
theorem W20_w1 : True := by
  k_with_none
  k_with "call ref" => ((with_reducible refine Stop.out ?_))
  k_with "CompSrc" => ((with_reducible refine Stop.out ?_))
  k_with "FinA" => ((with_reducible refine Stop.out ?_))
  k_with "compareOp NotEq ref ref" => ((with_reducible refine Stop.out ?_))
  k_with "exec For" => ((with_reducible refine Stop.out ?_))
  k_with "exec For Name Call cons nil" => ((with_reducible refine Stop.out ?_))
  k_with "call builtin:len" => (((with_reducible show wpAny _ _ (call _ [Value.ref _]) _ _ _); (with_reducible refine Stop.out ?_)))
  k_with "call type:range" => ((with_reducible refine Stop.out ?_))
  k_with "call type:tuple" => ((with_reducible refine Stop.out ?_))
  k_with "subscriptTail" => (((with_reducible show wpAny _ _ (subscriptTail _ _ (Value.ref _) (Value.int _ _)) _ _ _); (with_reducible refine Stop.out ?_)))
  k_with "exec Assign cons ListComp" => (((with_reducible show wpAny _ _ (exec (Stmt.Assign _ (Expr.ListComp _ [⟨_, _, _ :: _, _⟩] _ _) _) _) _ _ _); (with_reducible refine Stop.out ?_)))
  k_with "Halt" => ((with_reducible refine Stop.out ?_))
  k_with "execs cons" => (k_here; first | with_reducible refine th_one ?_ | with_reducible refine th_cons ?_)
  k_with "Th" => (first | ((with_reducible rename TokMark => tm9); (with_reducible refine' th_nextT (s₀ := s₁) ?thF ?thG ?_ ?thE); (case thF => assumption); (case thG => assumption); (case thE => with_reducible rfl); intro tk9 htk9; clear tm9) | ((with_reducible refine' th_next (s₀ := s₁) ?thF ?_ ?thE); (case thF => assumption); (case thE => with_reducible rfl); (try clear tk9); intro tk9) | ((with_reducible refine' th_nextG (s₀ := s₁) ?thF ?thG ?_ ?thE); (case thF => assumption); (case thG => assumption); (case thE => with_reducible rfl); (try clear tk9); intro tk9) | with_reducible refine th_ret ?_)
  k_with "storeName" => (k_here; k_dflt (refine' st_put ?stF ?stN ?_ ?stA ?stB; (case stF => k_asm); (case stN => k_asm); (case stA => rfl); (case stB => rfl); k_whole; intro h' F' N'; (try k_sweep)))
  k_with "call builtin:list.append" => ((with_reducible refine Stop.out ?_))
  k_with "compareOp NotIn" => ((with_reducible refine Stop.out ?_))
  k_with "CompSrcT" => ((with_reducible refine Stop.out ?_))
  k_with "TurnEnd" => ((with_reducible refine Stop.out ?_))
  k_with "getMethod str" => ((refine encode_m ?_))
  k_with "call builtin:str.encode" => ((with_reducible refine Stop.out ?_))
  k_with "CompEnd" => ((with_reducible refine Stop.out ?_))
  trivial
set_option Elab.async true in
theorem main : PySem.Challenge.rw_if0001_01.Holds := by
  w_on; o_law; k_head; (case hw => w_witness2)
  k_fill
  intro w s₀ s₁ mg mb G Y fa o pm cd doc dV kV ho hd hcd hD hmg hg args vals as hpre hlay hrd hwl hlo
  have KX := km_in_of Y
  km_tabs Y
  have X := (Ground.X G).1
  have V := (Ground.X G).2
  refine Ground.open G ?_
  intro T B D TE TW
  try (refine guard_noD D (by decide +kernel) ?_; clear D)
  km_lay T hmg ho hd cd
  clear hmg
  wrow_args hpre hlay hrd hwl hlo
  first | refine callC_kw (enter_call ?_) | refine enter_call ?_
  w_top on
  refine law_post hT9 (fun _ => rfl) (by first | rfl | wrow_post) ?_
  w_call any ho hd hcd hD T F
  clear hd
  kn_ghosts F T
  k_drop
  rename_i ns hs x0 x1 x2 x3 a11 a10 ll vs a7 hL ra w1 r0 hI hr hc1 hc2 h₁ tk₁ z7 z6 z5 z4 z3 z2 z1 e7 e6 e5 e4 e3 e2 e1 X0 X' T' K' F' N' l0
  have y7 : z7.data = .cell none := e7
  have y6 : z6.data = .cell none := e6
  have y5 : z5.data = .cell none := e5
  have y4 : z4.data = .cell none := e4
  have y3 : z3.data = .cell none := e3
  have y2 : z2.data = .cell none := e2
  have y1 : z1.data = .cell none := e1
  replace F' : Fr (ghostOf s₁.heap [(144, 142)]) s₁.heap.objs.size h₁ (fun y => if y = Str.ofString "script" then some (.ref ll) else none) := F'
  clear e7 e6 e5 e4 e3 e2 e1 X0 hD hcd ho K' x0 x1 x2 x3 a11 a10 ra w1 r0 hr hc2 hs hT9 TW TE B T V X hT8 Y G codeHd hL
  refine wpAny_mono (Q := BodyEnd (ghostOf s₁.heap [(144, 142)]) s₁.heap.objs.size 142 s₁) (E := fun _ _ => False) ?main ?post (fun _ _ e => e.elim)
  case post =>
    rintro f s' ⟨rfl, h', tk, G2, m, pt, rfl, hG, F, hP⟩
    exact ⟨rfl, fun b o e => F.keep b o e, ⟨⟨pt, hP⟩, trivial⟩, rfl, grown_bare hG (by rw [hg]; exact AllBare.empty)⟩
  case main =>
    have hl0 : ∀ p ∈ ([] : Led), p ∈ ([] : Led) := fun _ h => h
    clear hl0 hg
    generalize ghostOf s₁.heap [(144, 142)] = g at *
    generalize s₁.heap.objs.size = L at *
    have kf0 : PySem.Challenge.rw_if0001_01 = PySem.Challenge.rw_if0001_01 → Mine.hd0.heap_1_1 = Mine.hd0.heap_1_1 := by (k_fill; exact fun _ => rfl)
    clear kf0
    replace X' : (Mine.hd0.heap_1_1 w.params).In g := X'
    (try dsimp only)
    (try k_fold)
    revert ns ll vs a7 hI hc1 z7 z6 z5 z4 z3 z2 z1 y7 y6 y5 y4 y3 y2 y1 T' lifted l0 N' F' X'
    as_aux_lemma =>
      intro ns ll vs a7 hI hc1 z7 z6 z5 z4 z3 z2 z1 y7 y6 y5 y4 y3 y2 y1 T' lifted l0 N' F' X'
      w_top off
      k_fill
      have kf0 : PySem.Challenge.rw_if0001_01 = PySem.Challenge.rw_if0001_01 → Mine.hd0.heap_1_1 = Mine.hd0.heap_1_1 := by (k_fill; exact fun _ => rfl)
      clear kf0
      refine (let a1_ : Addr := L + 1; let a2_ : Addr := L + 1 + 1; let a3_ : Addr := L + 1 + 1 + 1; let a4_ : Addr := L + 1 + 1 + 1 + 1; let a5_ : Addr := L + 1 + 1 + 1 + 1 + 1; let a6_ : Addr := L + 1 + 1 + 1 + 1 + 1 + 1; let a7_ : Addr := L + 1 + 1 + 1 + 1 + 1 + 1 + 1; ?_)
      replace N' : News g L h₁ [(a7_, z7), (a6_, z6), (a5_, z5), (a4_, z4), (a3_, z3), (a2_, z2), (a1_, z1), ((142 : Addr), tabObj #[])] := N'
      have e1_ : a1_ = L + 1 := rfl
      have e2_ : a2_ = L + 1 + 1 := rfl
      have e3_ : a3_ = L + 1 + 1 + 1 := rfl
      have e4_ : a4_ = L + 1 + 1 + 1 + 1 := rfl
      have e5_ : a5_ = L + 1 + 1 + 1 + 1 + 1 := rfl
      have e6_ : a6_ = L + 1 + 1 + 1 + 1 + 1 + 1 := rfl
      have e7_ : a7_ = L + 1 + 1 + 1 + 1 + 1 + 1 + 1 := rfl
      refine (let ev : Env := _; let ae : Around := _; (?_ : wpAny _ ae (execs _ ev) _ _ _))
      have hnl : ns.length ≤ 63 := by omega
      have hvl := hI.length
      k_steps
      refine Stop.mk ?_
      (with_reducible rename Fr _ _ _ _ => F1)
      (with_reducible rename News _ _ _ _ => N1)
      have lf1 := lifted.at fun o e => F1.keep ll o e
      have X1 := X'.keeps F1.keep
      have T1 := T'.keeps F1.keep
      refine' cells_spec w _ _ _ _ _ ⟨_, _, _, _, _⟩ _ _ ll vs ns ?R1 X1 T1 lf1 hI ?z1 ?_
      clear X1 T1 lf1
      case R1 => exact room_l (by decide) (by decide)
      case z1 => omega
      rintro v h8 tk8 hk ⟨cs, hcl, hcr, hcd⟩
      have hc6 : cs.length ≤ 6 := by rcases hcl with q | q <;> rw [q] <;> decide
      have hc1k : cs.length ≤ 1000 := Nat.le_trans hc6 (by decide)
      clear X1 T1 lf1
      have o0 : OwnOff ([] : Led) [a7_, a6_, a5_, a4_, a3_, a2_, a1_, 142] := fun p hp => nomatch hp
      with_reducible refine hideG ?_
      intro G0 hG0
      obtain ⟨R1, s1, F2, N2, o1, D1⟩ := led_moreM (front := [_, _, _, _, _, _, _, _]) (R := []) F1 N1 o0 hk hcd
      with_reducible refine hG0 ?_
      clear hG0 G0
      simp only [List.cons_append, List.nil_append] at N2
      replace o1 : OwnOff R1 [a7_, a6_, a5_, a4_, a3_, a2_, a1_, 142] := o1
      clear o0 s1 hcd hk F1 N1 hI lifted hvl vs
      obtain ⟨lc, rfl⟩ : ∃ lc, v = .ref lc := by cases D1 with | list _ _ => exact ⟨_, rfl⟩
      k_steps
      refine Stop.mk ?_
      (with_reducible rename Fr _ _ _ _ => F1)
      (with_reducible rename News _ _ _ _ => N1)
      with_reducible refine hideG ?_
      intro G0 hG0
      obtain ⟨ns2, cvs, hO2, hA2, hL2⟩ := (dat_at N1 (fun p hp => by (repeat (first | exact hp | apply List.mem_cons_of_mem))) D1).list
      with_reducible refine hG0 ?_
      clear hG0 G0
      have hI2 := ints_of hA2
      have hcvl := hI2.length
      refine' depths_spec w _ _ _ _ _ _ _ _ lc cvs cs ?R2 (X'.keeps F1.keep) (T'.keeps F1.keep) hL2 hI2 hc6 (by rcases hcl with q | q <;> rw [q] <;> decide) ?_
      case R2 => exact room_l (by decide) (by decide)
      rintro v h9 tk9 hk hcd
      with_reducible refine hideG ?_
      intro G0 hG0
      obtain ⟨R2, s2, F2, N2, o2, D2⟩ := led_moreM (front := [_, _, _, _, _, _, _, _]) (R := R1) F1 N1 o1 hk hcd
      with_reducible refine hG0 ?_
      clear hG0 G0
      simp only [List.cons_append, List.nil_append] at N2
      replace o2 : OwnOff R2 [a7_, a6_, a5_, a4_, a3_, a2_, a1_, 142] := o2
      replace D1 := D1.mono s2
      clear hcd hk F1 N1 o1 s2 hO2 hA2 hL2 hI2 hcvl ns2 cvs R1
      obtain ⟨ld, rfl⟩ : ∃ ld, v = .ref ld := by cases D2 with | list _ _ => exact ⟨_, rfl⟩
      k_steps
      refine Stop.mk ?_
      (with_reducible rename Fr _ _ _ _ => F1)
      (with_reducible rename News _ _ _ _ => N1)
      obtain ⟨cvs, cn, hcm, hcA⟩ : ∃ cvs cn, (lc, ({ cls := .type "list", data := .seq (List.toArray cvs) cn } : Obj)) ∈ R2 ∧ DatAll R2 cvs (cs.map Dat.int) := by
        cases D1 with | list hm ha => exact ⟨_, _, hm, ha⟩
      have hcI := ints_of hcA
      have hcl2 := hcI.length
      have inR : ∀ p ∈ R2, p ∈ [(a7_, z7), (a6_, z6), (a5_, z5), (a4_, z4), (a3_, z3), (a2_, z2), (a1_, z1), ((142 : Addr), tabObj #[])] ++ R2 := fun p hp => List.mem_append_right _ hp
      refine LCg.CompSrc.ledger (by rfl) F1 N1 (inR _ hcm) (by rw [List.size_toArray, hcl2]; exact size_n hc1k) ?_
      intro g'
      refine comp_turns (σ := Unit) (fun _ => [(a7_, z7), (a6_, z6), (a5_, z5), (a4_, z4), (a3_, z3), (a2_, z2), (a1_, z1), ((142 : Addr), tabObj #[])] ++ R2) (fun i ys _ => StrsAre ys ((cs.take i).map textL)) ?turn ?fin _ 0 [] () (Nat.zero_add _) .nil
      case turn =>
        intro i ys _ v I oI C oC D m₂ h tk E' hi hP hv hC hx F N off ne
        simp only [List.getElem?_toArray] at hv
        with_reducible refine hideG ?_
        intro G0 hG0
        obtain ⟨c, u, hc1, rfl⟩ := ints_at hcI i v hv
        with_reducible refine hG0 ?_
        clear hG0 G0
        have hcr' := hcr c (List.mem_of_getElem? hc1)
        dsimp only at N off ⊢
        k_steps
        refine Stop.mk ?_
        refine' stem_spec w _ _ _ _ _ _ _ _ c u ?R3 (X'.keeps F.keep) (T'.keeps F.keep) hcr'.1 hcr'.2 ?_
        case R3 => exact room_l (by decide) (by decide)
        rintro _ h8 tk8 hk ⟨t8, rfl⟩
        obtain ⟨F8, N8⟩ := led_stays F N hk
        clear F N hk
        k_steps
        refine Stop.mk ?_
        refine' white_spec w _ _ _ _ _ _ _ _ c u ?R4 (X'.keeps F8.keep) (T'.keeps F8.keep) hcr'.1 hcr'.2 ?_
        case R4 => exact room_l (by decide) (by decide)
        rintro _ h9 tk9 hk ⟨t9, rfl⟩
        obtain ⟨F9, N9⟩ := led_stays F8 N8 hk
        clear F8 N8 hk
        have hz1 := (stem_surr hcr'.1 hcr'.2).1
        have hz2 := (whites_ok _ (white_mem hcr'.1)).2.2.1
        k_steps
        refine Stop.mk ?_
        refine LCg.CompEnd.intro (by assumption) N9 _ (fun p hp => hp) off (.inr ⟨_, inR _ hcm, rfl, _, rfl⟩) ⟨(), rfl, ?_⟩
        rw [List.take_add_one, hc1, List.map_append]
        exact strs_snoc hP
      case fin =>
        intro ys _ hP
        rw [List.size_toArray, hcl2, List.take_length] at hP
        intro lx h tk F N off
        with_reducible refine hideG ?_
        intro G0 hG0
        obtain ⟨N3, o3, s3⟩ := led_cons (front := [(a7_, z7), (a6_, z6), (a5_, z5), (a4_, z4), (a3_, z3), (a2_, z2), (a1_, z1), ((142 : Addr), tabObj #[])]) N o2 (off1_ne off)
        with_reducible refine hG0 ?_
        clear hG0 G0
        simp only [List.cons_append, List.nil_append] at N3
        replace o3 : OwnOff ((lx, LCg.lst ys) :: R2) [a7_, a6_, a5_, a4_, a3_, a2_, a1_, 142] := o3
        have D3 : DatIn ((lx, LCg.lst ys) :: R2) (.ref lx) (dStrs (cs.map textL)) := .list (.head _) (strs_dat hP)
        replace D1 := D1.mono s3
        replace D2 := D2.mono s3
        clear N off o2 hcm hcA hcI hcl2 inR cvs cn hP
        generalize (lx, LCg.lst ys) :: R2 = R3 at *
        clear s3
        obtain ⟨hsh, hdl⟩ := shape_of hcl
        with_reducible refine hideG ?_
        intro G0 hG0
        obtain ⟨hsn1, hsn2, hsn3⟩ := sh_names _ hsh
        with_reducible refine hG0 ?_
        clear hG0 G0
        k_steps
        refine Stop.mk ?_
        rename_i c1 _ _ f1
        clear y1; clear z1
        (with_reducible rename Fr _ _ _ _ => F1)
        (with_reducible rename News _ _ _ _ => N1)
        with_reducible refine hideG ?_
        intro G0 hG0
        obtain ⟨n4, dvs, hO4, hA4, hL4⟩ := (dat_at N1 (fun p hp => by (repeat (first | exact hp | apply List.mem_cons_of_mem))) D2).list
        with_reducible refine hG0 ?_
        clear hG0 G0
        have hI4 := ints_of hA4
        refine' names_spec w _ _ _ _ _ _ _ _ ld dvs (depthsL cs) ?R4 (X'.keeps F1.keep) (T'.keeps F1.keep) hL4 hI4 (by rw [hdl]; exact hc6) (fun d hd => (hsn3 d hd).1) ?_
        case R4 => exact room_l (by decide) (by decide)
        rintro v h8 tk8 hk hcd
        with_reducible refine hideG ?_
        intro G0 hG0
        obtain ⟨R4, s4, F2, N2, o4, D4⟩ := led_moreM (front := [_, _, _, _, _, _, _, _]) (R := R3) F1 N1 o3 hk hcd
        with_reducible refine hG0 ?_
        clear hG0 G0
        simp only [List.cons_append, List.nil_append] at N2
        replace o4 : OwnOff R4 [a7_, a6_, a5_, a4_, a3_, a2_, a1_, 142] := o4
        replace D1 := D1.mono s4
        replace D2 := D2.mono s4
        replace D3 := D3.mono s4
        clear hcd hk F1 N1 o3 s4 hO4 hA4 hL4 hI4 n4 dvs R3
        obtain ⟨ln, rfl⟩ : ∃ ln, v = .ref ln := by cases D4 with | list _ _ => exact ⟨_, rfl⟩
        k_steps
        refine Stop.mk ?_
        rename_i c2 _ _ f2
        clear y2; clear z2
        (with_reducible rename Fr _ _ _ _ => F1)
        (with_reducible rename News _ _ _ _ => N1)
        with_reducible refine hideG ?_
        intro G0 hG0
        obtain ⟨n4, dvs, hO4, hA4, hL4⟩ := (dat_at N1 (fun p hp => by (repeat (first | exact hp | apply List.mem_cons_of_mem))) D2).list
        with_reducible refine hG0 ?_
        clear hG0 G0
        have hI4 := ints_of hA4
        refine' calls_spec w _ _ _ _ _ _ _ _ ld dvs (depthsL cs) ?R5 (X'.keeps F1.keep) (T'.keeps F1.keep) hL4 hI4 (by rw [hdl]; exact hc6) (fun d hd => (hsn3 d hd).1) ?_
        case R5 => exact room_l (by decide) (by decide)
        rintro v h8 tk8 hk hcd
        with_reducible refine hideG ?_
        intro G0 hG0
        obtain ⟨R5, s5, F2, N2, o5, D5⟩ := led_moreM (front := [_, _, _, _, _, _, _, _]) (R := R4) F1 N1 o4 hk hcd
        with_reducible refine hG0 ?_
        clear hG0 G0
        simp only [List.cons_append, List.nil_append] at N2
        replace o5 : OwnOff R5 [a7_, a6_, a5_, a4_, a3_, a2_, a1_, 142] := o5
        replace D1 := D1.mono s5
        replace D2 := D2.mono s5
        replace D3 := D3.mono s5
        replace D4 := D4.mono s5
        clear hcd hk F1 N1 o4 s5 hO4 hA4 hL4 hI4 n4 dvs R4
        obtain ⟨la, rfl⟩ : ∃ la, v = .ref la := by cases D5 with | list _ _ => exact ⟨_, rfl⟩
        k_steps
        refine Stop.mk ?_
        (with_reducible rename Fr _ _ _ _ => F1)
        (with_reducible rename News _ _ _ _ => N1)
        with_reducible refine hideG ?_
        intro G0 hG0
        obtain ⟨cvs, cn, hcm, hcA⟩ := dat_list D1
        with_reducible refine hG0 ?_
        clear hG0 G0
        have hcI := ints_of hcA
        have hcl2 := hcI.length
        have inR : ∀ p ∈ R5, p ∈ [(a7_, z7), (a6_, z6), (a5_, z5), (a4_, z4), (a3_, z3), (a2_, c2), (a1_, c1), ((142 : Addr), tabObj #[])] ++ R5 := fun p hp => List.mem_append_right _ hp
        refine LCg.CompSrc.ledger (by rfl) F1 N1 (inR _ hcm) (by rw [List.size_toArray, hcl2]; exact size_n hc1k) ?_
        intro g5
        refine comp_turns (σ := Unit) (fun _ => [(a7_, z7), (a6_, z6), (a5_, z5), (a4_, z4), (a3_, z3), (a2_, c2), (a1_, c1), ((142 : Addr), tabObj #[])] ++ R5) (fun i ys _ => IntsAre ys ((cs.take i).map formL)) ?turn5 ?fin5 _ 0 [] () (Nat.zero_add _) .nil
        case turn5 =>
          intro i ys _ v I oI C oC D m₂ h tk E' hi hP hv hC hx F N off ne
          simp only [List.getElem?_toArray] at hv
          with_reducible refine hideG ?_
          intro G0 hG0
          obtain ⟨c, u, hc1, rfl⟩ := ints_at hcI i v hv
          with_reducible refine hG0 ?_
          clear hG0 G0
          have hcr' := hcr c (List.mem_of_getElem? hc1)
          dsimp only at N off ⊢
          k_steps
          refine Stop.mk ?_
          refine LCg.CompEnd.intro F N _ (fun p hp => hp) off (.inr ⟨_, inR _ hcm, rfl, _, rfl⟩) ⟨(), rfl, ?_⟩
          rw [List.take_add_one, hc1, List.map_append]
          exact ints_snoc hP
        case fin5 =>
          intro ys _ hP
          rw [List.size_toArray, hcl2, List.take_length] at hP
          intro lf h tk F N off
          with_reducible refine hideG ?_
          intro G0 hG0
          obtain ⟨N6, o6, s6⟩ := led_cons (front := [(a7_, z7), (a6_, z6), (a5_, z5), (a4_, z4), (a3_, z3), (a2_, c2), (a1_, c1), ((142 : Addr), tabObj #[])]) N o5 (off1_ne off)
          with_reducible refine hG0 ?_
          clear hG0 G0
          simp only [List.cons_append, List.nil_append] at N6
          replace o6 : OwnOff ((lf, LCg.lst ys) :: R5) [a7_, a6_, a5_, a4_, a3_, a2_, a1_, 142] := o6
          have D6 : DatIn ((lf, LCg.lst ys) :: R5) (.ref lf) (dInts (cs.map formL)) := .list (.head _) (ints_dat hP)
          replace D1 := D1.mono s6
          replace D2 := D2.mono s6
          replace D3 := D3.mono s6
          replace D4 := D4.mono s6
          replace D5 := D5.mono s6
          clear N off o5 hcm hcA hcI hcl2 inR cvs cn hP
          generalize (lf, LCg.lst ys) :: R5 = R6 at *
          clear s6
          k_steps
          refine Stop.mk ?_
          rename_i c3 _ _ f3
          clear y3; clear z3
          (with_reducible rename Fr _ _ _ _ => F1)
          (with_reducible rename News _ _ _ _ => N1)
          have mR : ∀ p ∈ R6, p ∈ (a7_, z7) :: (a6_, z6) :: (a5_, z5) :: (a4_, z4) :: (a3_, c3) :: (a2_, c2) :: (a1_, c1) :: ((142 : Addr), tabObj #[]) :: R6 := fun p hp => by (repeat (first | exact hp | apply List.mem_cons_of_mem))
          with_reducible refine hideG ?_
          intro G0 hG0
          obtain ⟨cvs, cn, hcm, hcA⟩ := dat_list D1
          with_reducible refine hG0 ?_
          clear hG0 G0
          have hcl2 := (ints_of hcA).length
          refine Calls.call_len_list (items := List.toArray cvs) ⟨_, (N1 _ (mR _ hcm)).1, rfl, _, rfl⟩ (by rw [List.size_toArray, hcl2]; exact nat63 hc1k) ?_
          rw [List.size_toArray, hcl2]
          clear hcm hcA hcl2 cvs cn
          k_steps
          refine Stop.mk ?_
          refine range1_rows F1 N1 fun hr7 tk7 t7 u7 v7 Q7 F7 N7 kp7 => ?_
          clear kp7 F1 N1
          k_steps
          refine Stop.mk ?_
          refine LCg.CompSrc.range (n := cs.length) (by rfl) F7 N7 Q7 (small_n hc1k) (rsize_n _) (size_n hc1k) ?_
          clear Q7
          intro g7
          refine comp_turns (σ := Led) (fun R => [(a7_, z7), (a6_, z6), (a5_, z5), (a4_, z4), (a3_, c3), (a2_, c2), (a1_, c1), ((142 : Addr), tabObj #[])] ++ R) (fun i ys R => OwnOff R [a7_, a6_, a5_, a4_, a3_, a2_, a1_, 142] ∧ (∀ p ∈ R6, p ∈ R) ∧ DatAll R ys (((List.range cs.length).take i).map fun j => dBytes (toldAt cs j))) ?turn7 ?fin7 _ 0 [] R6 (Nat.zero_add _) ⟨o6, fun _ h => h, .nil⟩
          case turn7 =>
            intro i ys R v I oI C oC D m₂ h tk E' hi hP hv hC hx F N off ne
            with_reducible refine hideG ?_
            intro G0 hG0
            obtain ⟨oR, sR, hA⟩ := hP
            with_reducible refine hG0 ?_
            clear hG0 G0
            obtain ⟨t5, rfl⟩ := hv
            rw [Int.zero_add] at hx
            simp only [List.cons_append, List.nil_append] at N
            (try dsimp only)
            obtain ⟨ha1, ha2⟩ := anc_at hcl hi
            obtain ⟨hc1, hc2⟩ := cell_at hi
            have hcr' := hcr _ hc2
            have hfo := form_ok hcr'.1
            have mR2 : ∀ p ∈ R, p ∈ (I, oI) :: (C, oC) :: (D, LCg.lst ys) :: (a7_, z7) :: (a6_, z6) :: (a5_, z5) :: (a4_, z4) :: (a3_, c3) :: (a2_, c2) :: (a1_, c1) :: ((142 : Addr), tabObj #[]) :: R := fun p hp => by (repeat (first | exact hp | apply List.mem_cons_of_mem))
            k_steps
            refine Stop.mk ?_
            (with_reducible rename Fr _ _ _ _ => F8)
            (with_reducible rename News _ _ _ _ => N8)
            with_reducible refine hideG ?_
            intro G0 hG0
            obtain ⟨nvs, nn, hnm, hnA⟩ := dat_list D4
            with_reducible refine hG0 ?_
            clear hG0 G0
            with_reducible refine hideG ?_
            intro G0 hG0
            obtain ⟨v1, e1, d1⟩ := dat_get hnA (i := i) (d := dStrs (((ancL (depthsL cs)).getD i []).map nameL)) (by rw [names_anc, List.map_map, List.getElem?_map, ha1]; rfl)
            with_reducible refine hG0 ?_
            clear hG0 G0
            obtain ⟨l1, rfl⟩ : ∃ l1, v1 = .ref l1 := by cases d1 with | list _ _ => exact ⟨_, rfl⟩
            refine item_listL (l := nvs) (x := .ref l1) ⟨_, (N8 _ (mR2 _ (sR _ hnm))).1, rfl, _, rfl⟩ (by omega) (by omega) (by rw [Int.toNat_natCast]; exact e1) ?_
            clear hnm hnA nvs nn e1
            k_steps
            refine Stop.mk ?_
            (with_reducible rename Fr _ _ _ _ => F8)
            (with_reducible rename News _ _ _ _ => N8)
            with_reducible refine hideG ?_
            intro G0 hG0
            obtain ⟨fvs, fn, hfm, hfA⟩ := dat_list D6
            with_reducible refine hG0 ?_
            clear hG0 G0
            with_reducible refine hideG ?_
            intro G0 hG0
            obtain ⟨v2, e2, d2⟩ := dat_get hfA (i := i) (d := .int (formL (cs.getD i 0))) (by rw [List.getElem?_map, List.getElem?_map, hc1]; rfl)
            with_reducible refine hG0 ?_
            clear hG0 G0
            obtain ⟨t2, rfl⟩ : ∃ t2, v2 = .int (formL (cs.getD i 0)) t2 := by cases d2; exact ⟨_, rfl⟩
            refine item_listL (l := fvs) ⟨_, (N8 _ (mR2 _ (sR _ hfm))).1, rfl, _, rfl⟩ (by omega) (by omega) (by rw [Int.toNat_natCast]; exact e2) ?_
            clear hfm hfA fvs fn e2 d2
            k_steps
            refine Stop.mk ?_
            (with_reducible rename Fr _ _ _ _ => F8)
            (with_reducible rename News _ _ _ _ => N8)
            refine' told_spec w _ _ _ _ _ _ _ _ l1 (((ancL (depthsL cs)).getD i []).map nameL) (formL (cs.getD i 0)) t2 ?R8 (X'.keeps F8.keep) (T'.keeps F8.keep) (dat_at N8 mR2 (d1.mono sR)) (nm_strs ha2).1 (nm_strs ha2).2 hfo ?_
            case R8 => exact room_l (by decide) (by decide)
            rintro v h8 tk8 hk hcd
            with_reducible refine hideG ?_
            intro G0 hG0
            obtain ⟨R8, s8, F9, N9, o9, D9⟩ := led_moreM (front := (I, oI) :: (C, oC) :: (D, LCg.lst ys) :: [(a7_, z7), (a6_, z6), (a5_, z5), (a4_, z4), (a3_, c3), (a2_, c2), (a1_, c1), ((142 : Addr), tabObj #[])]) (R := R) F8 N8 (off3_own off oR) hk hcd
            with_reducible refine hG0 ?_
            clear hG0 G0
            obtain ⟨off9, oR9⟩ := off3_more off o9
            clear F8 N8 off oR hk hcd o9 mR2 d1
            k_steps
            refine Stop.mk ?_
            refine LCg.CompEnd.intro F9 N9 _ (fun p hp => hp) off9 trivial ⟨R8, rfl, oR9, fun p hp => s8 _ (sR _ hp), ?_⟩
            rw [List.take_add_one, List.getElem?_range hi, List.map_append]
            exact datall_snoc (hA.mono s8) D9
          case fin7 =>
            intro ys R hP
            with_reducible refine hideG ?_
            intro G0 hG0
            obtain ⟨oR, sR, hA⟩ := hP
            with_reducible refine hG0 ?_
            clear hG0 G0
            rw [List.take_of_length_le (by rw [List.length_range]; exact Nat.le_refl _)] at hA
            intro lt h tk F N off
            with_reducible refine hideG ?_
            intro G0 hG0
            obtain ⟨N9, o9, s9⟩ := led_cons (front := [(a7_, z7), (a6_, z6), (a5_, z5), (a4_, z4), (a3_, c3), (a2_, c2), (a1_, c1), ((142 : Addr), tabObj #[])]) N oR (off1_ne off)
            with_reducible refine hG0 ?_
            clear hG0 G0
            simp only [List.cons_append, List.nil_append] at N9
            replace o9 : OwnOff ((lt, LCg.lst ys) :: R) [a7_, a6_, a5_, a4_, a3_, a2_, a1_, 142] := o9
            have s9' : ∀ p ∈ R6, p ∈ (lt, LCg.lst ys) :: R := fun p hp => s9 _ (sR _ hp)
            have D7 : DatIn ((lt, LCg.lst ys) :: R) (.ref lt) (.list ((List.range cs.length).map fun j => dBytes (toldAt cs j))) := .list (.head _) (hA.mono s9)
            replace D1 := D1.mono s9'
            replace D2 := D2.mono s9'
            replace D3 := D3.mono s9'
            replace D4 := D4.mono s9'
            replace D5 := D5.mono s9'
            replace D6 := D6.mono s9'
            clear N off oR o6 sR hA s9' s9 mR F7 N7
            generalize (lt, LCg.lst ys) :: R = R9 at *
            k_steps
            refine Stop.mk ?_
            rename_i c5 _ _ f5
            clear y5; clear z5
            (with_reducible rename Fr _ _ _ _ => F1)
            (with_reducible rename News _ _ _ _ => N1)
            have mR : ∀ p ∈ R9, p ∈ (a7_, z7) :: (a6_, z6) :: (a5_, c5) :: (a4_, z4) :: (a3_, c3) :: (a2_, c2) :: (a1_, c1) :: ((142 : Addr), tabObj #[]) :: R9 := fun p hp => by (repeat (first | exact hp | apply List.mem_cons_of_mem))
            with_reducible refine hideG ?_
            intro G0 hG0
            obtain ⟨cvs, cn, hcm, hcA⟩ := dat_list D1
            with_reducible refine hG0 ?_
            clear hG0 G0
            have hcl2 := (ints_of hcA).length
            refine Calls.call_len_list (items := List.toArray cvs) ⟨_, (N1 _ (mR _ hcm)).1, rfl, _, rfl⟩ (by rw [List.size_toArray, hcl2]; exact nat63 hc1k) ?_
            rw [List.size_toArray, hcl2]
            clear hcm hcA hcl2 cvs cn
            k_steps
            refine Stop.mk ?_
            refine range1_rows F1 N1 fun hr7 tk7 t7 u7 v7 Q7 F7 N7 kp7 => ?_
            clear kp7 F1 N1
            k_steps
            refine Stop.mk ?_
            refine LCg.CompSrc.range (n := cs.length) (by rfl) F7 N7 Q7 (small_n hc1k) (rsize_n _) (size_n hc1k) ?_
            clear Q7
            intro g9
            refine comp_turns (σ := Led) (fun R => [(a7_, z7), (a6_, z6), (a5_, c5), (a4_, z4), (a3_, c3), (a2_, c2), (a1_, c1), ((142 : Addr), tabObj #[])] ++ R) (fun i ys R => OwnOff R [a7_, a6_, a5_, a4_, a3_, a2_, a1_, 142] ∧ (∀ p ∈ R9, p ∈ R) ∧ DatAll R ys (((List.range cs.length).take i).map fun j => Dat.tuple ((toldAt cs j).map Dat.bytes))) ?turn9 ?fin9 _ 0 [] R9 (Nat.zero_add _) ⟨o9, fun _ h => h, .nil⟩
            case turn9 =>
              intro i ys R v I oI C oC D m₂ h tk E' hi hP hv hC hx F N off ne
              with_reducible refine hideG ?_
              intro G0 hG0
              obtain ⟨oR, sR, hA⟩ := hP
              with_reducible refine hG0 ?_
              clear hG0 G0
              obtain ⟨t5, rfl⟩ := hv
              rw [Int.zero_add] at hx
              simp only [List.cons_append, List.nil_append] at N
              (try dsimp only)
              obtain ⟨ha1, ha2⟩ := anc_at hcl hi
              obtain ⟨hc1, hc2⟩ := cell_at hi
              have hcr' := hcr _ hc2
              have hfo := form_ok hcr'.1
              have hts := told_small _ ha2 _ (forms_mem hfo.1 hfo.2)
              have htx := text_ok hcr'.1 hcr'.2
              have mR2 : ∀ p ∈ R, p ∈ (I, oI) :: (C, oC) :: (D, LCg.lst ys) :: (a7_, z7) :: (a6_, z6) :: (a5_, c5) :: (a4_, z4) :: (a3_, c3) :: (a2_, c2) :: (a1_, c1) :: ((142 : Addr), tabObj #[]) :: R := fun p hp => by (repeat (first | exact hp | apply List.mem_cons_of_mem))
              k_steps
              refine Stop.mk ?_
              (with_reducible rename Fr _ _ _ _ => F8)
              (with_reducible rename News _ _ _ _ => N8)
              with_reducible refine hideG ?_
              intro G0 hG0
              obtain ⟨nvs, nn, hnm, hnA⟩ := dat_list D7
              with_reducible refine hG0 ?_
              clear hG0 G0
              with_reducible refine hideG ?_
              intro G0 hG0
              obtain ⟨v1, e1, d1⟩ := dat_get hnA (i := i) (d := dBytes (toldAt cs i)) (by rw [List.getElem?_map, List.getElem?_range hi]; rfl)
              with_reducible refine hG0 ?_
              clear hG0 G0
              obtain ⟨l1, rfl⟩ : ∃ l1, v1 = .ref l1 := by cases d1 with | list _ _ => exact ⟨_, rfl⟩
              refine item_listL (l := nvs) (x := .ref l1) ⟨_, (N8 _ (mR2 _ (sR _ hnm))).1, rfl, _, rfl⟩ (by omega) (by omega) (by rw [Int.toNat_natCast]; exact e1) ?_
              clear hnm hnA nvs nn e1
              k_steps
              refine Stop.mk ?_
              (with_reducible rename Fr _ _ _ _ => F8)
              (with_reducible rename News _ _ _ _ => N8)
              with_reducible refine hideG ?_
              intro G0 hG0
              obtain ⟨xvs, xn, hxm, hxA⟩ := dat_list D3
              with_reducible refine hG0 ?_
              clear hG0 G0
              with_reducible refine hideG ?_
              intro G0 hG0
              obtain ⟨v3, e3, d3⟩ := dat_get hxA (i := i) (d := .str (textL (cs.getD i 0))) (by rw [List.getElem?_map, List.getElem?_map, hc1]; rfl)
              with_reducible refine hG0 ?_
              clear hG0 G0
              obtain ⟨t3, rfl⟩ : ∃ t3, v3 = .str (textL (cs.getD i 0)) t3 := by cases d3; exact ⟨_, rfl⟩
              refine item_listL (l := xvs) ⟨_, (N8 _ (mR2 _ (sR _ hxm))).1, rfl, _, rfl⟩ (by omega) (by omega) (by rw [Int.toNat_natCast]; exact e3) ?_
              clear hxm hxA xvs xn e3 d3
              k_steps
              refine Stop.mk ?_
              (with_reducible rename Fr _ _ _ _ => F8)
              (with_reducible rename News _ _ _ _ => N8)
              with_reducible refine hideG ?_
              intro G0 hG0
              obtain ⟨fvs, fn, hfm, hfA⟩ := dat_list D6
              with_reducible refine hG0 ?_
              clear hG0 G0
              with_reducible refine hideG ?_
              intro G0 hG0
              obtain ⟨v2, e2, d2⟩ := dat_get hfA (i := i) (d := .int (formL (cs.getD i 0))) (by rw [List.getElem?_map, List.getElem?_map, hc1]; rfl)
              with_reducible refine hG0 ?_
              clear hG0 G0
              obtain ⟨t2, rfl⟩ : ∃ t2, v2 = .int (formL (cs.getD i 0)) t2 := by cases d2; exact ⟨_, rfl⟩
              refine item_listL (l := fvs) ⟨_, (N8 _ (mR2 _ (sR _ hfm))).1, rfl, _, rfl⟩ (by omega) (by omega) (by rw [Int.toNat_natCast]; exact e2) ?_
              clear hfm hfA fvs fn e2 d2
              k_steps
              refine Stop.mk ?_
              (with_reducible rename Fr _ _ _ _ => F8)
              (with_reducible rename News _ _ _ _ => N8)
              refine' answer_spec w _ _ _ _ _ _ _ _ l1 (toldAt cs i) (textL (cs.getD i 0)) t3 (formL (cs.getD i 0)) t2 ?R8 (X'.keeps F8.keep) (T'.keeps F8.keep) (dat_at N8 mR2 (d1.mono sR)) hts.1 (fun b hb => Nat.le_trans (hts.2.1 b hb) (by decide)) htx.1 htx.2 hfo ?_
              case R8 => exact room_l (by decide) (by decide)
              rintro _ h8 tk8 hk ⟨t8, rfl⟩
              obtain ⟨F9, N9⟩ := led_stays F8 N8 hk
              clear F8 N8 hk d1
              k_steps
              refine Stop.mk ?_
              (with_reducible rename Fr _ _ _ _ => F8)
              (with_reducible rename News _ _ _ _ => N8)
              with_reducible refine hideG ?_
              intro G0 hG0
              obtain ⟨p, q, hhit, hwd⟩ := hit_answer ha2 hfo.1 hfo.2 hcr'.1 hcr'.2
              with_reducible refine hG0 ?_
              clear hG0 G0
              have hwd' : wordsL ((((answerL (toldAt cs i) (textL (cs.getD i 0)) (formL (cs.getD i 0))).map (·.toNat)).extract (p + 7) q).map (·.toUInt8)) = toldAt cs i := hwd
              refine' parse_hit w _ _ _ _ _ _ _ _ (answerL (toldAt cs i) (textL (cs.getD i 0)) (formL (cs.getD i 0))) t8 p q ?R9 (X'.keeps F8.keep) (T'.keeps F8.keep) (answer_size ha2 hfo.1 hfo.2 htx.1) hhit (by rw [hwd']; exact Nat.le_trans hts.1 (by decide)) ?_
              case R9 => exact room_l (by decide) (by decide)
              rintro v h9 tk9 hk hcd
              rw [hwd'] at hcd
              with_reducible refine hideG ?_
              intro G0 hG0
              obtain ⟨R8, s8, F9, N9, o10, D9⟩ := led_moreM (front := (I, oI) :: (C, oC) :: (D, LCg.lst ys) :: [(a7_, z7), (a6_, z6), (a5_, c5), (a4_, z4), (a3_, c3), (a2_, c2), (a1_, c1), ((142 : Addr), tabObj #[])]) (R := R) F8 N8 (off3_own off oR) hk hcd
              with_reducible refine hG0 ?_
              clear hG0 G0
              obtain ⟨off9, oR9⟩ := off3_more off o10
              clear F8 N8 off oR hk hcd o10 mR2 hhit hwd hwd'
              k_steps
              refine Stop.mk ?_
              refine LCg.CompEnd.intro F9 N9 _ (fun p hp => hp) off9 trivial ⟨R8, rfl, oR9, fun p hp => s8 _ (sR _ hp), ?_⟩
              rw [List.take_add_one, List.getElem?_range hi, List.map_append]
              exact datall_snoc (hA.mono s8) D9
            case fin9 =>
              intro ys R hP
              with_reducible refine hideG ?_
              intro G0 hG0
              obtain ⟨oR, sR, hA⟩ := hP
              with_reducible refine hG0 ?_
              clear hG0 G0
              rw [List.take_of_length_le (by rw [List.length_range]; exact Nat.le_refl _)] at hA
              intro lg h tk F N off
              with_reducible refine hideG ?_
              intro G0 hG0
              obtain ⟨N9, o10, s9⟩ := led_cons (front := [(a7_, z7), (a6_, z6), (a5_, c5), (a4_, z4), (a3_, c3), (a2_, c2), (a1_, c1), ((142 : Addr), tabObj #[])]) N oR (off1_ne off)
              with_reducible refine hG0 ?_
              clear hG0 G0
              simp only [List.cons_append, List.nil_append] at N9
              replace o10 : OwnOff ((lg, LCg.lst ys) :: R) [a7_, a6_, a5_, a4_, a3_, a2_, a1_, 142] := o10
              have s9' : ∀ p ∈ R9, p ∈ (lg, LCg.lst ys) :: R := fun p hp => s9 _ (sR _ hp)
              have D8 : DatIn ((lg, LCg.lst ys) :: R) (.ref lg) (.list ((List.range cs.length).map fun j => .tuple ((toldAt cs j).map Dat.bytes))) := .list (.head _) (hA.mono s9)
              replace D1 := D1.mono s9'
              replace D2 := D2.mono s9'
              replace D3 := D3.mono s9'
              replace D4 := D4.mono s9'
              replace D5 := D5.mono s9'
              replace D6 := D6.mono s9'
              replace D7 := D7.mono s9'
              clear N off oR o9 sR hA s9' s9 mR F7 N7
              generalize (lg, LCg.lst ys) :: R = R10 at *
              k_steps
              refine Stop.mk ?_
              rename_i c6 _ _ f6
              clear y6; clear z6
              (with_reducible rename Fr _ _ _ _ => F1)
              (with_reducible rename News _ _ _ _ => N1)
              have mR : ∀ p ∈ R10, p ∈ (a7_, z7) :: (a6_, c6) :: (a5_, c5) :: (a4_, z4) :: (a3_, c3) :: (a2_, c2) :: (a1_, c1) :: ((142 : Addr), tabObj #[]) :: R10 := fun p hp => by (repeat (first | exact hp | apply List.mem_cons_of_mem))
              with_reducible refine hideG ?_
              intro G0 hG0
              obtain ⟨tvs, tn, htm, htA⟩ := dat_list D7
              with_reducible refine hG0 ?_
              clear hG0 G0
              have htl := htA.length
              rw [List.length_map, List.length_range] at htl
              refine LCg.CompSrc.ledger (by rfl) F1 N1 (mR _ htm) (by rw [List.size_toArray]; exact size_n (by omega)) ?_
              intro g11
              refine comp_turns (σ := Led) (fun R => [(a7_, z7), (a6_, c6), (a5_, c5), (a4_, z4), (a3_, c3), (a2_, c2), (a1_, c1), ((142 : Addr), tabObj #[])] ++ R) (fun i ys R => OwnOff R [a7_, a6_, a5_, a4_, a3_, a2_, a1_, 142] ∧ (∀ p ∈ R10, p ∈ R) ∧ DatAll R ys (((List.range cs.length).take i).map fun j => Dat.tuple ((toldAt cs j).map Dat.bytes))) ?turn11 ?fin11 _ 0 [] R10 (Nat.zero_add _) ⟨o10, fun _ h => h, .nil⟩
              case turn11 =>
                intro i ys R v I oI C oC D m₂ h tk E' hi hP hv hC hx F N off ne
                with_reducible refine hideG ?_
                intro G0 hG0
                obtain ⟨oR, sR, hA⟩ := hP
                with_reducible refine hG0 ?_
                clear hG0 G0
                rw [List.size_toArray, htl] at hi
                simp only [List.getElem?_toArray] at hv
                simp only [List.cons_append, List.nil_append] at N
                (try dsimp only)
                obtain ⟨ha1, ha2⟩ := anc_at hcl hi
                obtain ⟨hc1, hc2⟩ := cell_at hi
                have hfo := form_ok (hcr _ hc2).1
                have hts := told_small _ ha2 _ (forms_mem hfo.1 hfo.2)
                have mR2 : ∀ p ∈ R, p ∈ (I, oI) :: (C, oC) :: (D, LCg.lst ys) :: (a7_, z7) :: (a6_, c6) :: (a5_, c5) :: (a4_, z4) :: (a3_, c3) :: (a2_, c2) :: (a1_, c1) :: ((142 : Addr), tabObj #[]) :: R := fun p hp => by (repeat (first | exact hp | apply List.mem_cons_of_mem))
                with_reducible refine hideG ?_
                intro G0 hG0
                obtain ⟨v1, e1, d1⟩ := dat_get htA (i := i) (d := dBytes (toldAt cs i)) (by rw [List.getElem?_map, List.getElem?_range hi]; rfl)
                with_reducible refine hG0 ?_
                clear hG0 G0
                rw [hv] at e1
                cases e1
                obtain ⟨l1, rfl⟩ : ∃ l1, v = .ref l1 := by cases d1 with | list _ _ => exact ⟨_, rfl⟩
                with_reducible refine hideG ?_
                intro G0 hG0
                obtain ⟨bvs, bn, hbm, hbA⟩ := dat_list d1
                with_reducible refine hG0 ?_
                clear hG0 G0
                have hbl := hbA.length
                rw [List.length_map] at hbl
                have hbl2 : (toldAt cs i).length ≤ 6 := hts.1
                k_steps
                refine Stop.mk ?_
                (with_reducible rename Fr _ _ _ _ => F8)
                (with_reducible rename News _ _ _ _ => N8)
                refine kde_tupleOf F8 N8 (items := bvs.toArray) (zs := bvs) ⟨_, (N8 _ (mR2 _ (sR _ hbm))).1, rfl, _, rfl⟩ (by rw [List.size_toArray]; omega) rfl (fun D3 h9 F9 N9 l9 => ?_)
                with_reducible refine hideG ?_
                intro G0 hG0
                obtain ⟨N10, o11, s11⟩ := led_cons (front := (I, oI) :: (C, oC) :: (D, LCg.lst ys) :: [(a7_, z7), (a6_, c6), (a5_, c5), (a4_, z4), (a3_, c3), (a2_, c2), (a1_, c1), ((142 : Addr), tabObj #[])]) N9 (off3_own off oR) (fun p hp => Nat.ne_of_lt (l9 p hp))
                with_reducible refine hG0 ?_
                clear hG0 G0
                obtain ⟨off9, oR9⟩ := off3_more off o11
                clear F8 N8 off oR mR2 N9 l9 o11
                k_steps
                refine Stop.mk ?_
                refine LCg.CompEnd.intro F9 N10 _ (fun p hp => hp) off9 (.inr ⟨_, List.mem_append_right _ (s11 _ (sR _ htm)), rfl, _, rfl⟩) ⟨_, rfl, oR9, fun p hp => s11 _ (sR _ hp), ?_⟩
                rw [List.take_add_one, List.getElem?_range hi, List.map_append]
                exact datall_snoc (hA.mono s11) (.tuple (.head _) ((hbA.mono sR).mono s11))
              case fin11 =>
                intro ys R hP
                with_reducible refine hideG ?_
                intro G0 hG0
                obtain ⟨oR, sR, hA⟩ := hP
                with_reducible refine hG0 ?_
                clear hG0 G0
                rw [List.take_of_length_le (by rw [List.length_range, List.size_toArray, htl]; exact Nat.le_refl _)] at hA
                intro lr h tk F N off
                with_reducible refine hideG ?_
                intro G0 hG0
                obtain ⟨N9, o11, s9⟩ := led_cons (front := [(a7_, z7), (a6_, c6), (a5_, c5), (a4_, z4), (a3_, c3), (a2_, c2), (a1_, c1), ((142 : Addr), tabObj #[])]) N oR (off1_ne off)
                with_reducible refine hG0 ?_
                clear hG0 G0
                simp only [List.cons_append, List.nil_append] at N9
                replace o11 : OwnOff ((lr, LCg.lst ys) :: R) [a7_, a6_, a5_, a4_, a3_, a2_, a1_, 142] := o11
                have s9' : ∀ p ∈ R10, p ∈ (lr, LCg.lst ys) :: R := fun p hp => s9 _ (sR _ hp)
                have D9 : DatIn ((lr, LCg.lst ys) :: R) (.ref lr) (.list ((List.range cs.length).map fun j => .tuple ((toldAt cs j).map Dat.bytes))) := .list (.head _) (hA.mono s9)
                replace D1 := D1.mono s9'
                replace D2 := D2.mono s9'
                replace D3 := D3.mono s9'
                replace D5 := D5.mono s9'
                replace D8 := D8.mono s9'
                clear N off oR o10 sR hA s9' s9 mR F1 N1 htm htA htl tvs tn D4 D6 D7
                generalize (lr, LCg.lst ys) :: R = R11 at *
                k_steps
                refine Stop.mk ?_
                (with_reducible rename Fr _ _ _ _ => F1)
                (with_reducible rename News _ _ _ _ => N1)
                have mR : ∀ p ∈ R11, p ∈ (a7_, z7) :: (a6_, c6) :: (a5_, c5) :: (a4_, z4) :: (a3_, c3) :: (a2_, c2) :: (a1_, c1) :: ((142 : Addr), tabObj #[]) :: R11 := fun p hp => by (repeat (first | exact hp | apply List.mem_cons_of_mem))
                refine ne_rows (rows := (List.range cs.length).map (toldAt cs)) (dat_at N1 mR (by rw [List.map_map]; exact D8)) (dat_at N1 mR (by rw [List.map_map]; exact D9)) (by ke_room) ?_
                clear D9
                replace D1 := dat_seqs D1
                replace D2 := dat_seqs D2
                replace D3 := dat_seqs D3
                replace D5 := dat_seqs D5
                replace D8 := dat_seqs D8
                have hRs := seqs_not (R := R11)
                replace o11 : OwnOff (R11.filter fun p => isSeq p.2) [a7_, a6_, a5_, a4_, a3_, a2_, a1_, 142] := fun p hp => o11 p (List.mem_filter.mp hp).1
                have N2 := news_tail (front := [(a7_, z7), (a6_, c6), (a5_, c5), (a4_, z4), (a3_, c3), (a2_, c2), (a1_, c1), ((142 : Addr), tabObj #[])]) N1 (R' := R11.filter fun p => isSeq p.2) (fun p hp => (List.mem_filter.mp hp).1)
                simp only [List.cons_append, List.nil_append] at N2
                clear N1 mR
                generalize R11.filter (fun p => isSeq p.2) = R at *
                clear R11
                k_steps
                refine Stop.mk ?_
                (with_reducible rename Fr _ _ _ _ => F1)
                (with_reducible rename News _ _ _ _ => N1)
                rename_i l9 _ l9lt _ _ _ _
                refine For_GR (n := cs.length) (σ := BSt) (fun c => (l9, listOf c.lv.toArray c.lep) :: (a7_, c.on) :: (a6_, c6) :: (a5_, c5) :: (a4_, c.ok) :: (a3_, c3) :: (a2_, c2) :: (a1_, c1) :: ((142 : Addr), tabObj c.pt) :: (c.rest ++ R))
                  (fun c => [(Str.ofString "cells", .ref lc), (Str.ofString "depths", .ref ld), (Str.ofString "calls", .ref la), (Str.ofString "leads", .ref l9), (Str.ofString "product", .int c.pr c.tp), (Str.ofString "due", .int c.du c.td)])
                  (fun i c => TabW c.pt c.rest ∧ (∀ p ∈ c.rest, ∃ vs, p.2.data = .fields vs) ∧ OwnOff (c.rest ++ R) [l9, a7_, a6_, a5_, a4_, a3_, a2_, a1_, 142] ∧ OwnOff c.rest [142] ∧ c.ok.data = .cell c.okv ∧ c.on.data = .cell c.onv ∧ IntsAre c.lv ((depthsL cs).take i) ∧ c.pr = prodL (depthsL cs) i ∧ c.du = dueL i)
                  ⟨z4, none, z7, none, #[], [], [], 0, 1, ?q1, 1, ?q2⟩ rfl F1 ?hit ?hk ?hp ?turn ?done (by intro _; rfl) (by first | passes_own | with_unfolding_all passes_own)
                case hk => intro p hp; simp only [List.mem_cons, List.not_mem_nil, or_false] at hp; rcases hp with rfl | rfl | rfl | rfl | rfl | rfl <;> rfl
                case hp =>
                  refine ⟨.inl rfl, ?_, ?_, ?_, y4, y7, .nil, rfl, rfl⟩
                  · intro p hp; exact nomatch hp
                  · intro p hp b hb
                    rcases List.mem_cons.mp hb with rfl | hb
                    · exact Nat.ne_of_lt (kst_ltOf l9lt.2.2.2.2.2.2.2.2 p hp)
                    · exact o11 p hp b hb
                  · intro p hp; exact nomatch hp
                case hit =>
                  have mR : ∀ p ∈ R, p ∈ (l9, listOf #[] 0) :: (a7_, z7) :: (a6_, c6) :: (a5_, c5) :: (a4_, z4) :: (a3_, c3) :: (a2_, c2) :: (a1_, c1) :: ((142 : Addr), tabObj #[]) :: R := fun p hp => by (repeat (first | exact hp | apply List.mem_cons_of_mem))
                  with_reducible refine hideG ?_
                  intro G0 hG0
                  obtain ⟨cvs, cn, hcm, hcA⟩ := dat_list D1
                  with_reducible refine hG0 ?_
                  clear hG0 G0
                  have hcl2 := (ints_of hcA).length
                  k_steps
                  refine Stop.mk ?_
                  refine Calls.call_len_list (items := List.toArray cvs) ⟨_, (N1 _ (mR _ hcm)).1, rfl, _, rfl⟩ (by rw [List.size_toArray, hcl2]; exact nat63 hc1k) ?_
                  rw [List.size_toArray, hcl2]
                  k_steps
                  refine Stop.mk ?_
                  refine range1_rows F1 N1 fun hr7 tk7 t7 u7 v7 Q7 F7 N7 kp7 => ?_
                  exact ⟨_, _, _, _, _, _, _, rfl, rfl, Q7, small_n hc1k, rsize_n _, F7, N7⟩
                case turn =>
                  rintro i t ⟨ok, okv, on, onv, pt, rest, lv, lep, pr, tp, du, td⟩ u h tk G I oI hi ⟨hT, hRf, oA, oT, hok, hon, hI, hpr, hdu⟩ hG hoff F N
                  dsimp only at hT hRf oA oT hok hon hI hpr hdu
                  replace F : Fr g L h (fun y => if y = Str.ofString "cells" then some (.ref lc) else if y = Str.ofString "depths" then some (.ref ld) else if y = Str.ofString "calls" then some (.ref la) else if y = Str.ofString "leads" then some (.ref l9) else if y = Str.ofString "product" then some (.int pr tp) else if y = Str.ofString "due" then some (.int du td) else u y) := F
                  replace N : News g L h ((I, oI) :: (l9, listOf lv.toArray lep) :: (a7_, on) :: (a6_, c6) :: (a5_, c5) :: (a4_, ok) :: (a3_, c3) :: (a2_, c2) :: (a1_, c1) :: ((142 : Addr), tabObj pt) :: (rest ++ R)) := N
                  clear F1 N1 y4 y7
                  refine turn_hide fun QT hQT => ?_
                  have hIf : ∀ b ∈ [l9, a7_, a6_, a5_, a4_, a3_, a2_, a1_, 142], b ≠ I := by
                    intro b hb
                    simp only [List.mem_cons, List.not_mem_nil, or_false] at hb
                    have q := fun p hp => hoff p hp
                    rcases hb with rfl | rfl | rfl | rfl | rfl | rfl | rfl | rfl | rfl
                    · exact hoff _ (.head _)
                    · exact hoff _ (.tail _ (.head _))
                    · exact hoff _ (.tail _ (.tail _ (.head _)))
                    · exact hoff _ (.tail _ (.tail _ (.tail _ (.head _))))
                    · exact hoff _ (.tail _ (.tail _ (.tail _ (.tail _ (.head _)))))
                    · exact hoff _ (.tail _ (.tail _ (.tail _ (.tail _ (.tail _ (.head _))))))
                    · exact hoff _ (.tail _ (.tail _ (.tail _ (.tail _ (.tail _ (.tail _ (.head _)))))))
                    · exact hoff _ (.tail _ (.tail _ (.tail _ (.tail _ (.tail _ (.tail _ (.tail _ (.head _))))))))
                    · exact hoff _ (.tail _ (.tail _ (.tail _ (.tail _ (.tail _ (.tail _ (.tail _ (.tail _ (.head _)))))))))
                  have hIt : ∀ p ∈ rest ++ R, p.1 ≠ I := fun p hp => hoff p (.tail _ (.tail _ (.tail _ (.tail _ (.tail _ (.tail _ (.tail _ (.tail _ (.tail _ hp)))))))))
                  clear hoff
                  obtain ⟨Tl, hTl⟩ : ∃ Tl, Tl = (I, oI) :: (rest ++ R) := ⟨_, rfl⟩
                  have sTr : ∀ p ∈ rest, p ∈ Tl := fun p hp => by rw [hTl]; exact .tail _ (List.mem_append_left _ hp)
                  have sT : ∀ p ∈ R, p ∈ Tl := fun p hp => by rw [hTl]; exact .tail _ (List.mem_append_right _ hp)
                  have sI : (I, oI) ∈ Tl := by rw [hTl]; exact .head _
                  have oTl : OwnOff Tl [l9, a7_, a6_, a5_, a4_, a3_, a2_, a1_, 142] := by
                    intro p hp b hb
                    rw [hTl] at hp
                    rcases List.mem_cons.mp hp with rfl | hp
                    · exact Ne.symm (hIf b hb)
                    · exact oA p hp b hb
                  have N' : News g L h ((l9, listOf lv.toArray lep) :: (a7_, on) :: (a6_, c6) :: (a5_, c5) :: (a4_, ok) :: (a3_, c3) :: (a2_, c2) :: (a1_, c1) :: ((142 : Addr), tabObj pt) :: Tl) := by
                    intro p hp
                    refine N p ?_
                    rcases List.mem_append.mp (show p ∈ [(l9, listOf lv.toArray lep), (a7_, on), (a6_, c6), (a5_, c5), (a4_, ok), (a3_, c3), (a2_, c2), (a1_, c1), ((142 : Addr), tabObj pt)] ++ Tl from hp) with hp | hp
                    · exact .tail _ (List.mem_append_left (rest ++ R) hp)
                    · rw [hTl] at hp
                      rcases List.mem_cons.mp hp with rfl | hp
                      · exact .head _
                      · exact .tail _ (List.mem_append_right [(l9, listOf lv.toArray lep), (a7_, on), (a6_, c6), (a5_, c5), (a4_, ok), (a3_, c3), (a2_, c2), (a1_, c1), ((142 : Addr), tabObj pt)] hp)
                  clear N hTl
                  obtain ⟨hc1, hc2⟩ := cell_at hi
                  have hcr' := hcr _ hc2
                  have hi6 : i < 6 := Nat.lt_of_lt_of_le hi hc6
                  have hi' : (i : Int) < 6 := Int.ofNat_lt.mpr hi6
                  have hk0 : (0 : Int) ≤ (i : Int) := Int.natCast_nonneg i
                  k_steps
                  refine Stop.mk ?_
                  rename_i _ ok fk _ _ on F1 N1 fn
                  clear hok hon okv onv
                  obtain ⟨okv, hok⟩ : ∃ v, ok.data = .cell v := ⟨_, fk⟩
                  obtain ⟨onv, hon⟩ : ∃ v, on.data = .cell v := ⟨_, fn⟩
                  have mR : ∀ p ∈ R, p ∈ (l9, listOf lv.toArray lep) :: (a7_, on) :: (a6_, c6) :: (a5_, c5) :: (a4_, ok) :: (a3_, c3) :: (a2_, c2) :: (a1_, c1) :: ((142 : Addr), tabObj pt) :: Tl := fun p hp => by
                    have := sT p hp
                    (repeat (first | exact this | apply List.mem_cons_of_mem))
                  refine LCt.Assign_ListComp_T (F₀ := F1) (by rfl) (by with_unfolding_all rfl) (by with_unfolding_all rfl) (by decide) (by rfl) (by decide) (by rfl) (by rfl) (by rfl) ?_
                  with_reducible refine hideG ?_
                  intro G0 hG0
                  obtain ⟨cvs, cn, hcm, hcA⟩ := dat_list D1
                  with_reducible refine hG0 ?_
                  clear hG0 G0
                  have hcl2 := (ints_of hcA).length
                  k_steps
                  refine Stop.mk ?_
                  refine Calls.call_len_list (items := List.toArray cvs) ⟨_, (N1 _ (mR _ hcm)).1, rfl, _, rfl⟩ (by rw [List.size_toArray, hcl2]; exact nat63 hc1k) ?_
                  rw [List.size_toArray, hcl2]
                  clear hcm hcA hcl2 cvs cn
                  k_steps
                  refine Stop.mk ?_
                  refine range1_rows F1 N1 fun hr7 tk7 t7 u7 v7 Q7 F7 N7 kp7 => ?_
                  clear kp7 F1 N1
                  k_steps
                  refine Stop.mk ?_
                  refine LCt.CompSrcT.range (n := cs.length) (by rfl) F7 N7 Q7 (small_n hc1k) (rsize_n _) (size_n hc1k) ?_
                  clear Q7
                  intro g20
                  obtain ⟨hen1, hen2⟩ := name_enc hi6
                  refine comp_turnsT (σ := Unit) (fun _ => (l9, listOf lv.toArray lep) :: (a7_, on) :: (a6_, c6) :: (a5_, c5) :: (a4_, ok) :: (a3_, c3) :: (a2_, c2) :: (a1_, c1) :: ((142 : Addr), tabObj pt) :: Tl) (fun j ys _ => IntsAre ys (keptC cs i j)) ?turn20 ?fin20 _ 0 [] () (Nat.zero_add _) .nil
                  case turn20 =>
                    intro j ys _ v I oI C oC D m₂ h tk E' hj hP hv hC hx F N off ne
                    obtain ⟨t5, rfl⟩ := hv
                    rw [Int.zero_add] at hx
                    dsimp only at N off ⊢
                    have mR2 : ∀ p ∈ R, p ∈ (I, oI) :: (C, oC) :: (D, LCg.lst ys) :: (l9, listOf lv.toArray lep) :: (a7_, on) :: (a6_, c6) :: (a5_, c5) :: (a4_, ok) :: (a3_, c3) :: (a2_, c2) :: (a1_, c1) :: ((142 : Addr), tabObj pt) :: Tl := fun p hp => .tail _ (.tail _ (.tail _ (mR p hp)))
                    k_steps
                    · refine Stop.mk ?_
                      rename_i q5 _ _ _
                      refine encode_ hen1 (by omega) ?_
                      k_steps
                      refine Stop.mk ?_
                      (with_reducible rename Fr _ _ _ _ => F8)
                      (with_reducible rename News _ _ _ _ => N8)
                      with_reducible refine hideG ?_
                      intro G0 hG0
                      obtain ⟨gvs, gn, hgm, hgA⟩ := dat_list D8
                      with_reducible refine hG0 ?_
                      clear hG0 G0
                      with_reducible refine hideG ?_
                      intro G0 hG0
                      obtain ⟨v1, e1, d1⟩ := dat_get hgA (i := j) (d := .tuple ((toldAt cs j).map Dat.bytes)) (by rw [List.getElem?_map, List.getElem?_range hj]; rfl)
                      with_reducible refine hG0 ?_
                      clear hG0 G0
                      obtain ⟨T1, rfl⟩ : ∃ l, v1 = .ref l := by cases d1 with | tuple _ _ => exact ⟨_, rfl⟩
                      refine item_listL (l := gvs) (x := .ref T1) ⟨_, (N8 _ (mR2 _ hgm)).1, rfl, _, rfl⟩ (by omega) (by omega) (by rw [Int.toNat_natCast]; exact e1) ?_
                      clear hgm hgA gvs gn e1
                      k_steps
                      refine Stop.mk ?_
                      (with_reducible rename Fr _ _ _ _ => F8)
                      (with_reducible rename News _ _ _ _ => N8)
                      with_reducible refine hideG ?_
                      intro G0 hG0
                      obtain ⟨T2, bvs, e2, hTt, hTb⟩ := tup_bytes (ns := R) (fun p hp => (N8 p (mR2 p hp)).1) d1
                      with_reducible refine hG0 ?_
                      clear hG0 G0
                      cases e2
                      refine notIn_row (bs := toldAt cs j) (b := utf8L (Txt.item (Str.ofString "abcdef") (i : Int))) hTt hTb ?_
                      clear hTt hTb d1
                      obtain ⟨z, hz⟩ : ∃ z, z = (toldAt cs j).any fun c => c.toList == (utf8L (Txt.item (Str.ofString "abcdef") (i : Int))).toList := ⟨_, rfl⟩
                      rw [← hz]
                      have hzc : condK cs i j = !z := by
                        unfold condK
                        rw [hz]
                        have : j ≠ i := by omega
                        simp [this, nameL]
                      clear hz
                      cases z
                      · rw [Bool.not_false]
                        k_steps
                        refine Stop.mk ?_
                        refine LCg.CompEnd.intro F8 N8 _ (fun p hp => hp) off trivial ⟨(), rfl, ?_⟩
                        rw [kept_snoc cs i hj, if_pos (by rw [hzc]; rfl)]
                        exact ints_snoc hP
                      · rw [Bool.not_true]
                        k_steps
                        refine Stop.mk ?_
                        refine LCg.CompEnd.intro F8 N8 _ (fun p hp => hp) off trivial ⟨(), rfl, ?_⟩
                        rw [kept_snoc cs i hj, if_neg (by rw [hzc]; simp), List.append_nil]
                        exact hP
                    · refine Stop.mk ?_
                      rename_i q5
                      refine LCg.CompEnd.intro F N _ (fun p hp => hp) off trivial ⟨(), rfl, ?_⟩
                      rw [kept_snoc cs i hj, if_neg (by unfold condK; simp; omega), List.append_nil]
                      exact hP
                  case fin20 =>
                    intro ys _ hP
                    rw [kept_eq hcl hcr hi] at hP
                    intro lk h tk F N off
                    have offk := off1_ne off
                    clear off
                    obtain ⟨hch, hen⟩ := sh_write _ hsh i (List.mem_range.mpr (by rw [hdl]; exact hi))
                    obtain ⟨hcl12, hcr12⟩ := sh_calls _ hsh
                    have hcr6 : ∀ p ∈ callsL (depthsL cs), 0 ≤ p.1 ∧ p.1 < 6 := fun p hp => ⟨(hcr12 p hp).1, by have := (hcr12 p hp).2; omega⟩
                    obtain ⟨hwl, hwf⟩ := written_left (xs := cs.map textL) hi6 hcr6 hch
                    have hxl : (cs.map textL).length = cs.length := List.length_map ..
                    have hx20 : ∀ x ∈ cs.map textL, x.length ≤ 20 := fun x hx => by
                      with_reducible refine hideG ?_
                      intro G0 hG0
                      obtain ⟨c, hc, rfl⟩ := List.mem_map.mp hx
                      with_reducible refine hG0 ?_
                      clear hG0 G0
                      exact (text_ok (hcr c hc).1 (hcr c hc).2).1
                    have hcrx : ∀ p ∈ callsL (depthsL cs), 0 ≤ p.1 ∧ p.1 < (cs.map textL).length := fun p hp => ⟨(hcr12 p hp).1, by have := (hcr12 p hp).2; omega⟩
                    k_steps
                    refine Stop.mk ?_
                    (with_reducible rename Fr _ _ _ _ => F1)
                    (with_reducible rename News _ _ _ _ => N1)
                    have N1' : News g L _ ([_, _, _, _, _, _, _, _, _] ++ (((142 : Addr), tabObj pt) :: Tl)) := N1
                    refine' written_spec w _ _ _ _ _ ⟨_, _, _, _, _⟩ _ _ g L _ la lx (nameL i) _ pt rest (callsL (depthsL cs)) (cs.map textL) ?R30 X' T' F1 (fun p hp => N1' p (List.mem_append_right _ ((List.mem_cons.mp hp).elim (fun e => e ▸ .head _) fun h => .tail _ (sTr p h)))) hT hRf (dat_at N1 (fun p hp => .tail _ (mR p hp)) D5) (dat_at N1 (fun p hp => .tail _ (mR p hp)) D3) hcl12 (by omega) hcrx hx20 hwf oT ?_
                    case R30 => exact room_l (by decide) (by decide)
                    intro h3 tk3 G3 pt3 rest3 t3 hG3 F3 N3 hT3 hRf3 oT3 hkeep0
                    have hkeep := keep_kind hkeep0 (N1' _ (List.mem_append_right _ (.head _))).1 ⟨_, rfl⟩ (fun p hp => (N1' p (List.mem_append_right _ (.tail _ (sTr p hp)))).1) hRf
                    obtain ⟨hI3, hIr⟩ := hkeep0 I oI (N1' _ (List.mem_append_right _ (.tail _ sI))).1 (Ne.symm (hIf 142 (by simp))) (fun p hp => hIt p (List.mem_append_left _ hp))
                    have hIN := (N1' _ (List.mem_append_right _ (.tail _ sI))).2
                    have N1'' : News g L _ ([_, _, _, _, _, _, _, _, _] ++ (((142 : Addr), tabObj pt) :: (rest ++ R))) := fun p hp => N1' p ((List.mem_append.mp hp).elim (fun q => List.mem_append_left _ q) fun q => List.mem_append_right _ ((List.mem_cons.mp q).elim (fun e => e ▸ .head _) fun q => .tail _ ((List.mem_append.mp q).elim (sTr p) (sT p))))
                    have hG3' : Grown s₁.gens G3 := Grown.trans hG hG3
                    have hff : ∀ p ∈ [(lk, LCg.lst ys), (l9, listOf lv.toArray lep), (a7_, on), (a6_, c6), (a5_, c5), (a4_, ok), (a3_, c3), (a2_, c2), (a1_, c1)], ∀ vs, p.2.data ≠ .fields vs := by
                      intro p hp vs e
                      simp only [List.mem_cons, List.not_mem_nil, or_false] at hp
                      rcases hp with rfl | rfl | rfl | rfl | rfl | rfl | rfl | rfl | rfl
                      all_goals dsimp only at e
                      · cases e
                      · cases e
                      · rw [fn] at e; cases e
                      · rw [f6] at e; cases e
                      · rw [f5] at e; cases e
                      · rw [fk] at e; cases e
                      · rw [f3] at e; cases e
                      · rw [f2] at e; cases e
                      · rw [f1] at e; cases e
                    obtain ⟨N4, o4⟩ := after_written N1'' hkeep hff hRs N3 hRf3 oT3
                    simp only [List.cons_append, List.nil_append] at N4
                    have oA3 : OwnOff (rest3 ++ R) [l9, a7_, a6_, a5_, a4_, a3_, a2_, a1_, 142] := by
                      intro p hp b hb
                      rcases List.mem_append.mp hp with hp | hp
                      · simp only [List.mem_cons, List.not_mem_nil, or_false] at hb
                        rcases hb with rfl | rfl | rfl | rfl | rfl | rfl | rfl | rfl | rfl
                        all_goals first
                          | exact oT3 p hp _ (.head _)
                          | exact o4 p hp _ (.tail _ (.head _))
                          | exact o4 p hp _ (.tail _ (.tail _ (.head _)))
                          | exact o4 p hp _ (.tail _ (.tail _ (.tail _ (.head _))))
                          | exact o4 p hp _ (.tail _ (.tail _ (.tail _ (.tail _ (.head _)))))
                          | exact o4 p hp _ (.tail _ (.tail _ (.tail _ (.tail _ (.tail _ (.head _))))))
                          | exact o4 p hp _ (.tail _ (.tail _ (.tail _ (.tail _ (.tail _ (.tail _ (.head _)))))))
                          | exact o4 p hp _ (.tail _ (.tail _ (.tail _ (.tail _ (.tail _ (.tail _ (.tail _ (.head _))))))))
                          | exact o4 p hp _ (.tail _ (.tail _ (.tail _ (.tail _ (.tail _ (.tail _ (.tail _ (.tail _ (.head _)))))))))
                      · exact oA p (List.mem_append_right _ hp) b hb
                    obtain ⟨Tl3, hTl3⟩ : ∃ Tl, Tl = (I, oI) :: (rest3 ++ R) := ⟨_, rfl⟩
                    have sTr3 : ∀ p ∈ rest3, p ∈ Tl3 := fun p hp => by rw [hTl3]; exact .tail _ (List.mem_append_left _ hp)
                    have sT3 : ∀ p ∈ R, p ∈ Tl3 := fun p hp => by rw [hTl3]; exact .tail _ (List.mem_append_right _ hp)
                    have sI3 : (I, oI) ∈ Tl3 := by rw [hTl3]; exact .head _
                    have oTl3 : OwnOff Tl3 [l9, a7_, a6_, a5_, a4_, a3_, a2_, a1_, 142] := by
                      intro p hp b hb
                      rw [hTl3] at hp
                      rcases List.mem_cons.mp hp with rfl | hp
                      · exact Ne.symm (hIf b hb)
                      · exact oA3 p hp b hb
                    have hIt3 : ∀ p ∈ rest3 ++ R, p.1 ≠ I := fun p hp => (List.mem_append.mp hp).elim (hIr p) fun q => hIt p (List.mem_append_right _ q)
                    have N5 : News g L h3 ((lk, LCg.lst ys) :: (l9, listOf lv.toArray lep) :: (a7_, on) :: (a6_, c6) :: (a5_, c5) :: (a4_, ok) :: (a3_, c3) :: (a2_, c2) :: (a1_, c1) :: ((142 : Addr), tabObj pt3) :: Tl3) := by
                      intro p hp
                      rcases List.mem_append.mp (show p ∈ [(lk, LCg.lst ys), (l9, listOf lv.toArray lep), (a7_, on), (a6_, c6), (a5_, c5), (a4_, ok), (a3_, c3), (a2_, c2), (a1_, c1), ((142 : Addr), tabObj pt3)] ++ Tl3 from hp) with hp | hp
                      · exact N4 p (List.mem_append_left (rest3 ++ R) hp)
                      · rw [hTl3] at hp
                        rcases List.mem_cons.mp hp with rfl | hp
                        · exact ⟨hI3, hIN⟩
                        · exact N4 p (List.mem_append_right [(lk, LCg.lst ys), (l9, listOf lv.toArray lep), (a7_, on), (a6_, c6), (a5_, c5), (a4_, ok), (a3_, c3), (a2_, c2), (a1_, c1), ((142 : Addr), tabObj pt3)] hp)
                    have mR3 : ∀ p ∈ R, p ∈ (lk, LCg.lst ys) :: (l9, listOf lv.toArray lep) :: (a7_, on) :: (a6_, c6) :: (a5_, c5) :: (a4_, ok) :: (a3_, c3) :: (a2_, c2) :: (a1_, c1) :: ((142 : Addr), tabObj pt3) :: Tl3 := fun p hp => by
                      have := sT3 p hp
                      (repeat (first | exact this | apply List.mem_cons_of_mem))
                    clear N1 N1' N1'' N4 F1 N3 hT hRf oA oT hkeep hkeep0 hff hG hG3 o4 mR F7 N7 offk hwf hTl3 hIt hI3 hIN hIr oTl sTr sT sI
                    clear Tl
                    clear pt rest
                    rw [hwl]
                    have tm := TokMark.mk
                    k_steps
                    refine Stop.mk ?_
                    (with_reducible rename Fr _ _ _ _ => F1)
                    (with_reducible rename News _ _ _ _ => N1)
                    have Dk : DatIn [(lk, LCg.lst ys)] (.ref lk) (dInts (keptN (depthsL cs) i)) := .list (.head _) (ints_dat hP)
                    have hkl : (keptN (depthsL cs) i).length ≤ 6 := by
                      unfold keptN
                      rw [List.length_map]
                      exact Nat.le_trans (List.length_filter_le _ _) (by rw [List.length_range]; omega)
                    refine' left_spec w _ _ _ _ _ _ _ _ la lx lk (callsL (depthsL cs)) (cs.map textL) (keptN (depthsL cs) i) ?R31 (X'.keeps F1.keep) (T'.keeps F1.keep) (dat_at N1 mR3 D5) (dat_at N1 mR3 D3) (dat_at N1 (fun p hp => by rw [List.mem_singleton.mp hp]; exact .head _) Dk) hcl12 (by omega) hkl hcrx hx20 ?tk31 ?_
                    case R31 => exact room_l (by decide) (by decide)
                    case tk31 => assumption
                    rintro _ h4 tk4 hk ⟨t4, rfl⟩
                    obtain ⟨F9, N9⟩ := led_stays F1 N1 hk
                    clear F1 N1 hk hch hcrx hwl Dk hkl
                    k_steps
                    any_goals (first | (exfalso; rename_i q9; exact bne_no q9; done) | skip)
                    refine Stop.mk ?_
                    (with_reducible rename Fr _ _ _ _ => F8)
                    (with_reducible rename News _ _ _ _ => N8)
                    with_reducible refine hideG ?_
                    intro G0 hG0
                    obtain ⟨xvs, xn, hxm, hxA⟩ := dat_list D3
                    with_reducible refine hG0 ?_
                    clear hG0 G0
                    with_reducible refine hideG ?_
                    intro G0 hG0
                    obtain ⟨v3, e3, d3⟩ := dat_get hxA (i := i) (d := .str (textL (cs.getD i 0))) (by rw [List.getElem?_map, List.getElem?_map, hc1]; rfl)
                    with_reducible refine hG0 ?_
                    clear hG0 G0
                    obtain ⟨tx, rfl⟩ : ∃ tx, v3 = .str (textL (cs.getD i 0)) tx := by cases d3; exact ⟨_, rfl⟩
                    refine item_listL (l := xvs) ⟨_, (N8 _ (mR3 _ hxm)).1, rfl, _, rfl⟩ (by omega) (by omega) (by rw [Int.toNat_natCast]; exact e3) ?_
                    have htx := text_ok hcr'.1 hcr'.2
                    k_steps
                    refine Stop.mk ?_
                    (with_reducible rename Fr _ _ _ _ => F8)
                    (with_reducible rename News _ _ _ _ => N8)
                    refine' behind_spec w _ _ _ _ _ _ _ _ (textL (cs.getD i 0)) tx ?R32 (X'.keeps F8.keep) (T'.keeps F8.keep) htx.1 htx.2 ?_
                    case R32 => exact room_l (by decide) (by decide)
                    rintro _ h5 tk5 hk ⟨t5, rfl⟩
                    obtain ⟨F9, N9⟩ := led_stays F8 N8 hk
                    clear F8 N8 hk
                    k_steps
                    refine Stop.mk ?_
                    (with_reducible rename Fr _ _ _ _ => F8)
                    (with_reducible rename News _ _ _ _ => N8)
                    refine' parse_miss w _ _ _ _ _ _ _ _ (behindL (textL (cs.getD i 0))) t5 ?R33 (X'.keeps F8.keep) (T'.keeps F8.keep) (Nat.le_trans (behind_size htx.1) (by decide)) (miss_text hcr'.1 hcr'.2) ?_
                    case R33 => exact room_l (by decide) (by decide)
                    rintro v6 h6 tk6 hk hcd
                    obtain ⟨F9, N9⟩ := led_stays F8 N8 hk
                    with_reducible refine hideG ?_
                    intro G0 hG0
                    obtain ⟨tl6, hfr6, hdi6⟩ := hcd
                    with_reducible refine hG0 ?_
                    clear hG0 G0
                    obtain ⟨T6, n6, rfl, hm6⟩ : ∃ T6 n6, v6 = .ref T6 ∧ (T6, ({ cls := .type "tuple", data := .seq #[] n6 } : Obj)) ∈ tl6 := by
                      cases hdi6 with
                      | tuple hm ha => cases ha; exact ⟨_, _, rfl, hm⟩
                    have N10 : News g L h6 ((T6, ({ cls := .type "tuple", data := .seq #[] n6 } : Obj)) :: (lk, LCg.lst ys) :: (l9, listOf lv.toArray lep) :: (a7_, on) :: (a6_, c6) :: (a5_, c5) :: (a4_, ok) :: (a3_, c3) :: (a2_, c2) :: (a1_, c1) :: ((142 : Addr), tabObj pt3) :: Tl3) := fun p hp => by
                      rcases List.mem_cons.mp hp with rfl | hp
                      · exact news_fresh F8 hfr6 _ hm6
                      · exact N9 p hp
                    clear F8 N8 hk N9 hfr6 hdi6 hm6 tl6
                    k_steps
                    refine Stop.mk ?_
                    (with_reducible rename Fr _ _ _ _ => F8)
                    (with_reducible rename News _ _ _ _ => N8)
                    refine ne_empty ⟨_, (N8 _ (.tail _ (.head _))).1, rfl, _, rfl⟩ ⟨_, (N8 _ (.head _)).1, rfl, _, rfl⟩ (by ke_room) ?_
                    have N11 : News g L _ ((lk, LCg.lst ys) :: (l9, listOf lv.toArray lep) :: (a7_, on) :: (a6_, c6) :: (a5_, c5) :: (a4_, ok) :: (a3_, c3) :: (a2_, c2) :: (a1_, c1) :: ((142 : Addr), tabObj pt3) :: Tl3) := fun p hp => N8 p (.tail _ (.tail _ hp))
                    clear N8
                    k_steps
                    refine Stop.mk ?_
                    (with_reducible rename Fr _ _ _ _ => F8)
                    (with_reducible rename News _ _ _ _ => N8)
                    with_reducible refine hideG ?_
                    intro G0 hG0
                    obtain ⟨cvs, cn, hcm, hcA⟩ := dat_list D1
                    with_reducible refine hG0 ?_
                    clear hG0 G0
                    have hcl2 := (ints_of hcA).length
                    refine Calls.call_len_list (items := List.toArray cvs) ⟨_, (N8 _ (mR3 _ hcm)).1, rfl, _, rfl⟩ (by rw [List.size_toArray, hcl2]; exact nat63 hc1k) ?_
                    rw [List.size_toArray, hcl2]
                    clear hcm hcA hcl2 cvs cn
                    k_steps
                    refine Stop.mk ?_
                    (with_reducible rename Fr _ _ _ _ => F8)
                    (with_reducible rename News _ _ _ _ => N8)
                    have hcnt : Txt.count (leftL (callsL (depthsL cs)) (cs.map textL) (keptN (depthsL cs) i)) (Str.ofString "</") = ((endsN (depthsL cs) i : Nat) : Int) := count_left hcr6
                    have hsub : ((cs.length : Nat) : Int) - ((endsN (depthsL cs) i : Nat) : Int) = (((depthsL cs).length - endsN (depthsL cs) i : Nat) : Int) := by rw [← hdl]; exact (Int.ofNat_sub hen).symm
                    rw [hcnt, hsub]
                    clear hcnt hsub
                    refine' ones_spec w _ _ _ _ _ _ _ _ ((depthsL cs).length - endsN (depthsL cs) i) _ ?R34 (X'.keeps F8.keep) (T'.keeps F8.keep) (Nat.le_trans (Nat.sub_le _ _) (by rw [hdl]; exact hc6)) ?_
                    case R34 => exact room_l (by decide) (by decide)
                    rintro _ h7 tk7 hk ⟨t7, rfl⟩
                    obtain ⟨F9, N9⟩ := led_stays F8 N8 hk
                    clear F8 N8 hk
                    have hm7 := ones_ok (n := (depthsL cs).length - endsN (depthsL cs) i) (Nat.le_trans (Nat.sub_le _ _) (by rw [hdl]; exact hc6)) pr
                    k_steps
                    refine Stop.mk ?_
                    (with_reducible rename Fr _ _ _ _ => F8)
                    (with_reducible rename News _ _ _ _ => N8)
                    have hi1 : (i : Int) + 1 = ((i + 1 : Nat) : Int) := rfl
                    rw [hi1]
                    refine' ones_spec w _ _ _ _ _ _ _ _ (i + 1) _ ?R35 (X'.keeps F8.keep) (T'.keeps F8.keep) hi6 ?_
                    case R35 => exact room_l (by decide) (by decide)
                    rintro _ h10 tk10 hk ⟨t10, rfl⟩
                    obtain ⟨F9, N9⟩ := led_stays F8 N8 hk
                    clear F8 N8 hk hi1 hm7
                    have hm8 := ones_ok (n := i + 1) hi6 du
                    obtain ⟨hd1, hd2⟩ := cell_at (cs := depthsL cs) (k := i) (by rw [hdl]; exact hi)
                    have hd6 := hsn3 _ hd2
                    obtain ⟨d, hd⟩ : ∃ d, d = (depthsL cs).getD i 0 := ⟨_, rfl⟩
                    obtain ⟨c, hc⟩ : ∃ c, c = cs.getD i 0 := ⟨_, rfl⟩
                    rw [← hd] at hd1 hd2 hd6
                    rw [← hc] at hcr' hc1 hc2 htx e3
                    have hbl : (Txt.mul (Str.ofString " ") d).length ≤ 5 := by
                      have := blanks_list hd6.1 hd6.2
                      show (blanksL d).cps.size ≤ 5
                      rw [← Array.length_toList, this, List.length_replicate]; exact Nat.le_of_lt_succ ((Int.toNat_lt hd6.1).mpr hd6.2)
                    k_steps
                    refine Stop.mk ?_
                    (with_reducible rename Fr _ _ _ _ => F8)
                    (with_reducible rename News _ _ _ _ => N8)
                    with_reducible refine hideG ?_
                    intro G0 hG0
                    obtain ⟨dvs, dn, hdm, hdA⟩ := dat_list D2
                    with_reducible refine hG0 ?_
                    clear hG0 G0
                    with_reducible refine hideG ?_
                    intro G0 hG0
                    obtain ⟨v4, e4, d4⟩ := dat_get hdA (i := i) (d := .int d) (by rw [List.getElem?_map, hd1]; rfl)
                    with_reducible refine hG0 ?_
                    clear hG0 G0
                    obtain ⟨ti, rfl⟩ : ∃ ti, v4 = .int d ti := by cases d4; exact ⟨_, rfl⟩
                    refine item_listL (l := dvs) ⟨_, (N8 _ (mR3 _ hdm)).1, rfl, _, rfl⟩ (by omega) (by omega) (by rw [Int.toNat_natCast]; exact e4) ?_
                    k_steps
                    refine Stop.mk ?_
                    (with_reducible rename Fr _ _ _ _ => F8)
                    (with_reducible rename News _ _ _ _ => N8)
                    rw [← hc] at d3
                    refine item_listL (l := xvs) ⟨_, (N8 _ (mR3 _ hxm)).1, rfl, _, rfl⟩ (by omega) (by omega) (by rw [Int.toNat_natCast]; exact e3) ?_
                    k_steps
                    refine Stop.mk ?_
                    (with_reducible rename Fr _ _ _ _ => F8)
                    (with_reducible rename News _ _ _ _ => N8)
                    refine' comment_spec w _ _ _ _ _ _ _ _ (Txt.mul (Str.ofString " ") d ++ Txt.item (Str.ofString "abcdef") (i : Int) ++ textL c) _ ?R36 (X'.keeps F8.keep) (T'.keeps F8.keep) ?z36 ?_
                    case R36 => exact room_l (by decide) (by decide)
                    case z36 =>
                      have := htx.1
                      rw [Str.length_append, Str.length_append]; omega
                    rintro _ h11 tk11 hk ⟨t11, rfl⟩
                    obtain ⟨F9, N9⟩ := led_stays F8 N8 hk
                    clear F8 N8 hk hm8
                    obtain ⟨r, hr⟩ : ∃ r, r = commentL (Txt.mul (Str.ofString " ") d ++ Txt.item (Str.ofString "abcdef") (i : Int) ++ textL c) := ⟨_, rfl⟩
                    have hr1 : Txt.slice r none (some 2) = Str.ofString "# " := by rw [hr]; exact row_head hcr'.1 hcr'.2 hi6 hd6.1 hd6.2
                    have hr2 : Txt.lstripChars (Txt.slice r (some 2) none) (Str.ofString " ") = Txt.item (Str.ofString "abcdef") (i : Int) ++ stemL c := by rw [hr]; exact row_bare hcr'.1 hcr'.2 hi6 hd6.1 hd6.2
                    have hr3 : (r.length : Int) - 2 - ((Txt.item (Str.ofString "abcdef") (i : Int) ++ stemL c).length : Int) = d := by rw [hr]; exact row_lead hcr'.1 hcr'.2 hi6 hd6.1 hd6.2
                    have hst := (stem_surr hcr'.1 hcr'.2).1
                    have hr4 : r.length ≤ 30 := by
                      have e : r.length = d.toNat + 3 + (stemL c).length := by rw [hr]; exact row_len hcr'.1 hcr'.2 hi6 hd6.1 hd6.2
                      rw [e]; exact Nat.le_trans (Nat.add_le_add (Nat.add_le_add_right (Nat.le_of_lt_succ ((Int.toNat_lt hd6.1).mpr hd6.2)) 3) hst) (by decide)
                    rw [← hr]
                    clear hr
                    k_steps
                    any_goals (first | (exfalso; rename_i q9; rw [hr1] at q9; exact bne_no q9; done) | skip)
                    refine Stop.mk ?_
                    (with_reducible rename Fr _ _ _ _ => F8)
                    (with_reducible rename News _ _ _ _ => N8)
                    with_reducible refine hideG ?_
                    intro G0 hG0
                    obtain ⟨cvs, cn, hcm, hcA⟩ := dat_list D1
                    with_reducible refine hG0 ?_
                    clear hG0 G0
                    with_reducible refine hideG ?_
                    intro G0 hG0
                    obtain ⟨v5, e5, d5⟩ := dat_get hcA (i := i) (d := .int c) (by rw [List.getElem?_map, hc1]; rfl)
                    with_reducible refine hG0 ?_
                    clear hG0 G0
                    obtain ⟨tc, rfl⟩ : ∃ tc, v5 = .int c tc := by cases d5; exact ⟨_, rfl⟩
                    refine item_listL (l := cvs) ⟨_, (N8 _ (mR3 _ hcm)).1, rfl, _, rfl⟩ (by omega) (by omega) (by rw [Int.toNat_natCast]; exact e5) ?_
                    k_steps
                    refine Stop.mk ?_
                    (with_reducible rename Fr _ _ _ _ => F8)
                    (with_reducible rename News _ _ _ _ => N8)
                    refine' stem_spec w _ _ _ _ _ _ _ _ c tc ?R37 (X'.keeps F8.keep) (T'.keeps F8.keep) hcr'.1 hcr'.2 ?_
                    case R37 => exact room_l (by decide) (by decide)
                    rintro _ h12 tk12 hk ⟨t12, rfl⟩
                    obtain ⟨F9, N9⟩ := led_stays F8 N8 hk
                    clear F8 N8 hk
                    k_steps
                    any_goals (first | (exfalso; rename_i q9; rw [hr2] at q9; exact bne_no q9; done) | skip)
                    refine Stop.mk ?_
                    (with_reducible rename Fr _ _ _ _ => F8)
                    (with_reducible rename News _ _ _ _ => N8)
                    refine item_listL (l := dvs) ⟨_, (N8 _ (mR3 _ hdm)).1, rfl, _, rfl⟩ (by omega) (by omega) (by rw [Int.toNat_natCast]; exact e4) ?_
                    k_steps
                    refine Stop.mk ?_
                    (with_reducible rename Fr _ _ _ _ => F8)
                    (with_reducible rename News _ _ _ _ => N8)
                    refine item_listL (l := cvs) ⟨_, (N8 _ (mR3 _ hcm)).1, rfl, _, rfl⟩ (by omega) (by omega) (by rw [Int.toNat_natCast]; exact e5) ?_
                    k_steps
                    refine Stop.mk ?_
                    (with_reducible rename Fr _ _ _ _ => F8)
                    (with_reducible rename News _ _ _ _ => N8)
                    refine' white_spec w _ _ _ _ _ _ _ _ c tc ?R38 (X'.keeps F8.keep) (T'.keeps F8.keep) hcr'.1 hcr'.2 ?_
                    case R38 => exact room_l (by decide) (by decide)
                    rintro _ h13 tk13 hk ⟨t13, rfl⟩
                    obtain ⟨F9, N9⟩ := led_stays F8 N8 hk
                    clear F8 N8 hk
                    have hw2 := (whites_ok _ (white_mem hcr'.1)).2.2.1
                    k_steps
                    refine Stop.mk ?_
                    (with_reducible rename Fr _ _ _ _ => F8)
                    (with_reducible rename News _ _ _ _ => N8)
                    refine' comment_spec w _ _ _ _ _ _ _ _ (Txt.mul (Str.ofString " ") d ++ whiteL c) _ ?R39 (X'.keeps F8.keep) (T'.keeps F8.keep) ?z39 ?_
                    case R39 => exact room_l (by decide) (by decide)
                    case z39 => rw [Str.length_append]; omega
                    rintro _ h14 tk14 hk ⟨t14, rfl⟩
                    obtain ⟨F9, N9⟩ := led_stays F8 N8 hk
                    clear F8 N8 hk
                    have hlone : commentL (Txt.mul (Str.ofString " ") d ++ whiteL c) = Str.ofString "#" := row_lone hcr'.1 hd6.1 hd6.2
                    rw [hlone]
                    clear hlone
                    have hlv : lv.length ≤ 6 := by
                      have := hI.length
                      rw [List.length_take] at this
                      exact Nat.le_trans (Nat.le_of_eq this) (Nat.le_trans (Nat.min_le_right _ _) (by rw [hdl]; exact hc6))
                    k_steps
                    refine Stop.mk ?_
                    (with_reducible rename Fr _ _ _ _ => F8)
                    (with_reducible rename News _ _ _ _ => N8)
                    have N8' : News g L _ ((l9, listOf lv.toArray lep) :: (lk, LCg.lst ys) :: (a7_, on) :: (a6_, c6) :: (a5_, c5) :: (a4_, ok) :: (a3_, c3) :: (a2_, c2) :: (a1_, c1) :: ((142 : Addr), tabObj pt3) :: Tl3) := fun p hp => N8 p (by
                      rcases List.mem_cons.mp hp with rfl | hp
                      · exact .tail _ (.head _)
                      rcases List.mem_cons.mp hp with rfl | hp
                      · exact .head _
                      · exact .tail _ (.tail _ hp))
                    rw [hr2, hr3]
                    (try dsimp only)
                    refine app_any (x := .int d _) (vs := lv) ((a7_, on) :: (a6_, c6) :: (a5_, c5) :: (a4_, ok) :: (a3_, c3) :: (a2_, c2) :: (a1_, c1) :: ((142 : Addr), tabObj pt3) :: Tl3) F8 N8' (.head _) (fun p hp => .tail _ (.tail _ hp)) ?ne9 (by omega) (fun h15 F15 N15 => ?_)
                    case ne9 =>
                      intro p hp
                      rcases List.mem_append.mp (show p ∈ [(a7_, on), (a6_, c6), (a5_, c5), (a4_, ok), (a3_, c3), (a2_, c2), (a1_, c1), ((142 : Addr), tabObj pt3)] ++ Tl3 from hp) with hp | hp
                      · simp only [List.mem_cons, List.not_mem_nil, or_false] at hp
                        rcases hp with rfl | rfl | rfl | rfl | rfl | rfl | rfl | rfl
                        · exact Nat.ne_of_lt l9lt.1
                        · exact Nat.ne_of_lt l9lt.2.1
                        · exact Nat.ne_of_lt l9lt.2.2.1
                        · exact Nat.ne_of_lt l9lt.2.2.2.1
                        · exact Nat.ne_of_lt l9lt.2.2.2.2.1
                        · exact Nat.ne_of_lt l9lt.2.2.2.2.2.1
                        · exact Nat.ne_of_lt l9lt.2.2.2.2.2.2.1
                        · exact Nat.ne_of_lt l9lt.2.2.2.2.2.2.2.1
                      · exact oTl3 p hp l9 (.head _)
                    clear F8 N8 N8' oTl3 hr1 hr2 hr3
                    k_steps
                    (try refine Stop.mk ?_)
                    refine hQT _ _ ?_
                    refine turn_end (σ := BSt) ⟨ok, okv, on, onv, pt3, rest3, lv ++ [.int d ?t91], lep + 1, pr * onesL ((depthsL cs).length - endsN (depthsL cs) i), ?t92, du * onesL (i + 1), ?t93⟩ F15 hG3' ?ps9 ?nw9 ?of9 ⟨hT3, hRf3, oA3, oT3, hok, hon, ?is9, ?pr9, ?du9⟩
                    case ps9 => intro p hp; simp only [List.mem_cons, List.not_mem_nil, or_false] at hp; rcases hp with rfl | rfl | rfl | rfl | rfl | rfl <;> rfl
                    case nw9 =>
                      intro p hp
                      refine N15 p ?_
                      rcases List.mem_cons.mp hp with rfl | hp
                      · (repeat (first | exact sI3 | apply List.mem_cons_of_mem))
                      rcases List.mem_cons.mp hp with rfl | hp
                      · exact .head _
                      refine .tail _ ?_
                      rcases List.mem_append.mp (show p ∈ [(a7_, on), (a6_, c6), (a5_, c5), (a4_, ok), (a3_, c3), (a2_, c2), (a1_, c1), ((142 : Addr), tabObj pt3)] ++ (rest3 ++ R) from hp) with hp | hp
                      · exact List.mem_append_left Tl3 hp
                      · exact List.mem_append_right [(a7_, on), (a6_, c6), (a5_, c5), (a4_, ok), (a3_, c3), (a2_, c2), (a1_, c1), ((142 : Addr), tabObj pt3)] ((List.mem_append.mp hp).elim (sTr3 p) (sT3 p))
                    case of9 =>
                      intro p hp
                      rcases List.mem_append.mp (show p ∈ [(l9, listOf (lv ++ [Value.int d _]).toArray (lep + 1)), (a7_, on), (a6_, c6), (a5_, c5), (a4_, ok), (a3_, c3), (a2_, c2), (a1_, c1), ((142 : Addr), tabObj pt3)] ++ (rest3 ++ R) from hp) with hp | hp
                      · have q := List.mem_map_of_mem (f := (·.1)) hp
                        exact hIf p.1 q
                      · exact hIt3 p hp
                    case is9 =>
                      rw [List.take_add_one, hd1]
                      exact ints_snoc hI
                    case pr9 => rw [prod_step, ← hpr]
                    case du9 => rw [due_step, ← hdu]
                case done =>
                  rintro ⟨ok, okv, on, onv, pt, rest, lv, lep, pr, tp, du, td⟩ u h tk G ⟨hT, hRf, oA, oT, hok, hon, hI, hpr, hdu⟩ hG F N
                  dsimp only at hT hRf oA oT hok hon hI hpr hdu
                  replace F : Fr g L h (fun y => if y = Str.ofString "cells" then some (.ref lc) else if y = Str.ofString "depths" then some (.ref ld) else if y = Str.ofString "calls" then some (.ref la) else if y = Str.ofString "leads" then some (.ref l9) else if y = Str.ofString "product" then some (.int pr tp) else if y = Str.ofString "due" then some (.int du td) else u y) := F
                  replace N : News g L h ((l9, listOf lv.toArray lep) :: (a7_, on) :: (a6_, c6) :: (a5_, c5) :: (a4_, ok) :: (a3_, c3) :: (a2_, c2) :: (a1_, c1) :: ((142 : Addr), tabObj pt) :: (rest ++ R)) := N
                  rw [← hdl, List.take_length] at hI
                  rw [← hdl] at hpr hdu
                  clear F1 N1
                  k_steps
                  refine Stop.mk ?_
                  (with_reducible rename Fr _ _ _ _ => F1)
                  (with_reducible rename News _ _ _ _ => N1)
                  refine' orders_spec w _ _ _ _ _ _ _ _ l9 lv (depthsL cs) ?R20 (X'.keeps F1.keep) (T'.keeps F1.keep) (isList_N (s := ⟨_, _, _, _, _⟩) N1 (.head _)) hI (by rw [hdl]; exact hcl) ?_
                  case R20 => exact room_l (by decide) (by decide)
                  rintro _ h8 tk8 hk ⟨t8, rfl⟩
                  obtain ⟨F9, N9⟩ := led_stays F1 N1 hk
                  clear F1 N1 hk
                  obtain ⟨hsum, hmok⟩ := law_sum hsh (by rw [hdl]; exact hcl)
                  rw [← hpr, ← hdu] at hsum
                  rw [← hpr] at hmok
                  k_steps
                  exact ⟨by rw [hsum, beq_self_eq_true], _, _, G, _, pt, rfl, hG, F9, (N9 ((142 : Addr), tabObj pt) (by k_mem)).1⟩
end
end Mine
end
theorem PySem.Challenge.cw_if0001_01_holds : PySem.Challenge.rw_if0001_01.Holds :=
  Mine.main
