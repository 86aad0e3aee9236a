import PyProof.Rows.All
import Wide.All
import OpenK.AllK
import Wide.FinOn
import PySem.Challenge.RW_dn0146_02
set_option Elab.async false
set_option maxRecDepth 100000
set_option maxHeartbeats 0
set_option linter.all false
open PySem PySem.W PyProof.Rows PySem.Calls PySem.SeqAt
local macro_rules | `(tactic| walk_at $s:str) => `(tactic| k_extra $s)
open PySem PySem.W PyProof.Rows PySem.Calls
namespace Mine

/-- what a pure callee hands back: a value, upon a heap that keeps all that was there -/
def Back (s : Shared) (R : Value → Shared → Prop) (v : Value) (s' : Shared) : Prop := R v s'

section
variable {prog : Program} {w : World} {A₀ A : Around} {s : Shared} {base h₀ : Heap} {outer : List Env} {L : Addr} {m mg mb : Str → Option Value} {env : Env} {K : Frag} {p : Program} {loose : List Str} {mean : ExcName → Option Value}
  {R : Result → Shared → Prop} {name qual : Str} {params : Arguments} {body : List Stmt} {scope : Scope} {dV kV doc pm cdv ct oc : Value} {an od : Option Addr} {osl : Array (Option Value)} {f : Addr} {args : Args} {binds : List (Str × Value)}

end
end Mine
open PySem PySem.W PyProof.Rows PySem.Calls
namespace Mine
open Builtin Builtin.Int
/-- an object of an own subclass of int -/
abbrev niObj (C d : Addr) (n : Int) (tk : Tok) : Obj := { cls := .ref C, dict := some d, data := .prim (.int n tk) }
abbrev niMro (C : Addr) : List Value := [.ref C, .type "int", .type "object"]
abbrev nicObj (nm q : Str) (C N : Addr) (k0 k1 k2 k3 k5 : Option Value) : Obj :=
  { cls := .type "type", data := .cls { name := nm, bases := [.type "int"], mro := niMro C, ns := N, qualname := q }, slots := #[k0, k1, k2, k3, some .none, k5] }
/-- what is known of such a class -/
structure NiF (K : Frag) (C : Addr) : Prop where
  obj : ∃ nm q N k0 k1 k2 k3 k5, K.lookup C = some (nicObj nm q C N k0 k1 k2 k3 k5)
section
variable {K : Frag} {C : Addr} {M : Model} {h : Heap}
theorem best_int : Builtin.Slots.bestBase [.type "int"] = pure (.type "int") := by kernel_rfl
theorem madeBy_int : Bind.madeBy (.type "int") = pure (some "int.__new__") := by kernel_rfl
theorem NiF.lmro (N : NiF K C) (X : K.In h) : Looks M h (mroOf (.ref C)) (niMro C) := by
  obtain ⟨nm, q, N, k0, k1, k2, k3, k5, e⟩ := N.obj
  have hC := X _ _ e
  intro A Q E s k q
  obtain ⟨hp, g, d, t, os⟩ := s
  replace hC := k _ _ hC
  dsimp only at hC
  unfold mroOf
  repeat (any_goals (first | assumption | wp_step))
theorem NiF.lsub (N : NiF K C) (X : K.In h) (b : Value) : Looks M h (isSubtype (.ref C) b) ((niMro C).contains b) := by
  obtain ⟨nm, q, N, k0, k1, k2, k3, k5, e⟩ := N.obj
  have hC := X _ _ e
  intro A Q E s k q
  obtain ⟨hp, g, d, t, os⟩ := s
  replace hC := k _ _ hC
  dsimp only at hC
  unfold isSubtype
  repeat (any_goals (first | assumption | wp_step))
theorem NiF.ltype (N : NiF K C) (X : K.In h) : Looks M h (isType (.ref C)) true := by
  obtain ⟨nm, q, N, k0, k1, k2, k3, k5, e⟩ := N.obj
  have hC := X _ _ e
  intro A Q E s k q
  obtain ⟨hp, g, d, t, os⟩ := s
  replace hC := k _ _ hC
  dsimp only at hC
  unfold isType loadHead
  repeat (any_goals (first | assumption | with_reducible refine wpAny_loadPart_at hC ?_ | wp_step))
theorem NiF.lmade (N : NiF K C) (X : K.In h) : Looks M h (Bind.madeBy (.ref C)) none := by
  obtain ⟨nm, q, N, k0, k1, k2, k3, k5, e⟩ := N.obj
  have hC := X _ _ e
  intro A Q E s k q
  obtain ⟨hp, g, d, t, os⟩ := s
  replace hC := k _ _ hC
  dsimp only at hC
  unfold Bind.madeBy
  repeat (first | assumption | with_reducible refine wpAny_loadPart_at hC ?_ | wp_step)
  all_goals (first | exact q | skip)
theorem NiF.lbase (N : NiF K C) (X : K.In h) : Looks M h (Bind.staticBase (.ref C)) (.type "int") := by
  have L1 := N.lmade (M := M) X
  obtain ⟨nm, q, N, k0, k1, k2, k3, k5, e⟩ := N.obj
  have hC := X _ _ e
  intro A Q E s k q
  obtain ⟨hp, g, d, t, os⟩ := s
  replace hC := k _ _ hC
  dsimp only at hC k
  have L2 := L1.keeps k
  have f1 := best_int
  have f2 := madeBy_int
  unfold Bind.staticBase
  repeat (first | assumption | with_reducible refine Looks.at L2 ?_ | with_reducible refine wpAny_loadPart_at hC ?_ | wp_step)
  all_goals exact q
theorem NiF.lhere (N : NiF K C) (X : K.In h) : Looks M h (Bind.madeHere "int.__new__" (.ref C)) () := by
  have L1 := N.lbase (M := M) X
  intro A Q E s k q
  obtain ⟨hp, g, d, t, os⟩ := s
  have L2 := L1.keeps k
  have f2 := madeBy_int
  unfold Bind.madeHere
  repeat (first | assumption | with_reducible refine Looks.at L2 ?_ | wp_step)
  all_goals exact q
end
end Mine
open PySem PySem.W PyProof.Rows PySem.Calls
namespace Mine
open Builtin Builtin.Int
section
variable {K : Frag} {C d x : Addr} {n : Int} {tk : Tok} {prog : Program} {w : World} {A : Around} {E : Value → Shared → Prop} {s : Shared}
theorem ni_isInt {M : Model} {h : Heap} (N : NiF K C) (X : K.In h) (hx : h.get? x = some (niObj C d n tk)) : Looks M h (isInstance (.ref x) (.type "int")) true :=
  (Looks.ld (part := some headPart) hx).andThen (N.lsub X (.type "int"))
theorem ni_type {M : Model} {h : Heap} (hx : h.get? x = some (niObj C d n tk)) : Looks M h (typeOf (.ref x)) (.ref C) := (Looks.ld (part := some headPart) hx).andThen .now
theorem ni_asInt {M : Model} {h : Heap} (hx : h.get? x = some (niObj C d n tk)) : Looks M h (asInt? (.ref x)) (some n) := (Looks.ld (part := none) hx).andThen .now
/-- a slot of int on such an object -/
theorem ni_slot {M : Model} {id nm : String} {rest : List Value} {kw : List (Str × Value)} {Q : Unit → Shared → Prop} (N : NiF K C) (X : K.In s.heap) (hx : s.heap.get? x = some (niObj C d n tk))
    (hk : builtinKind id = some .slot) (hs : splitId id = some ("int", nm)) (ha : argsOk id ⟨.ref x :: rest, kw⟩) (q : Q () s) : wpAny M A (checkBuiltinCall id ⟨.ref x :: rest, kw⟩) Q E s :=
  check_slot hk hs (ni_isInt N X hx) ha q
theorem ni_int_code {R : Result → Shared → Prop} (N : NiF K C) (X : K.In s.heap) (hx : s.heap.get? x = some (niObj C d n tk))
    (h : R (.ok (.ret (.int n s.toks))) { s with toks := s.toks + 1 }) : codeAny (model prog w) A (.call (.builtin "int.__int__") ⟨[.ref x], []⟩) R s := by
  refine (codeAny_call_builtin (by decide +kernel) F.entry_int_int ?_)
  refine ni_slot N X hx (nm := "__int__") (by decide +kernel) (by decide +kernel) (F.args_int_int_1 _) ?_
  obtain ⟨hp, g, dr, t, os⟩ := s
  have L := ni_asInt (M := model prog w) hx
  unfold Builtin.«int.__int__» intSlot0 intOfSelf
  repeat (first | assumption | with_reducible refine Looks.at L ?_ | wp_step)
theorem bind_int_int (self : Value) : bindSpecial (.builtin "int.__int__") self = pure (.builtin "int.__int__", [self]) := F.slot_int_int.bind self

theorem ni_new_check {M : Model} {v : Value} {Q : Unit → Shared → Prop} (N : NiF K C) (X : K.In s.heap) (q : Q () s) : wpAny M A (checkBuiltinCall "int.__new__" ⟨[.ref C, v], []⟩) Q E s := by
  have hk : builtinKind "int.__new__" = some .builtinFn := by decide +kernel
  have hsp : splitId "int.__new__" = some ("int", "__new__") := by decide +kernel
  have L1 := N.ltype (M := M) X
  have L2 := N.lsub (M := M) X (.type "int")
  have L3 := N.lbase (M := M) X
  have f2 := madeBy_int
  have ha : argsOk "int.__new__" ⟨[.ref C, v], []⟩ := by unfold argsOk; kernel_rfl
  obtain ⟨hp, g, dr, t, os⟩ := s
  simp only [checkBuiltinCall, hk, hsp]
  repeat (first | assumption | with_reducible refine Looks.at L1 ?_ | with_reducible refine Looks.at L2 ?_ | with_reducible refine Looks.at L3 ?_ | with_reducible refine wpAny_of_eq ha ?_ | wp_step)
theorem ni_new_entry {v : Value} {Q : Fin → Shared → Prop} {hp : Heap} {g : Array GenState} {dr : Drawn} {t : Nat} {os : OsState} (N : NiF K C) (X : K.In hp) (hi : findIn K (.ref C) "__int__" = some (some (.builtin "int.__int__")))
    (hdel : (clsIn K C).map (·.hasDel) = some false)
    (hv : (∃ u, v = .int n u) ∨ ∃ x d tk, v = .ref x ∧ hp.get? x = some (niObj C d n tk))
    (h : ∀ tk tk', Q (.done (.ret (.ref (hp.objs.size + 1)))) ⟨(hp.push { cls := .type "dict", data := .dict #[] }).push (niObj C hp.objs.size n tk), g, dr, tk', os⟩) :
    wpAny (model prog w) A (Builtin.«int.__new__» ⟨[.ref C, v], []⟩) Q E ⟨hp, g, dr, t, os⟩ := by
  have L1 := N.ltype (M := model prog w) X
  have L2 := N.lsub (M := model prog w) X (.type "int")
  have L3 := N.lhere (M := model prog w) X
  have L4 := looks_findIn (M := model prog w) X hi
  have fin : ∀ u tk', wpAny (model prog w) A (do
      let some i ← asInt? (.int n u) | unsupported "internal:int.__new__"
      let d ← if typeHasDict (.ref C) then some <$> alloc { cls := .type "dict", data := .dict #[] } else pure none
      ret (← newObj (.ref C) (.prim (← mkInt i)) d)) Q E ⟨hp, g, dr, tk', os⟩ := by
    intro u tk'
    have hC : ∃ oC cd, hp.get? C = some oC ∧ oC.data = .cls cd ∧ cd.hasDel = false := by
      obtain ⟨cd, h1, h2⟩ := Option.map_eq_some_iff.mp hdel
      unfold clsIn at h1
      split at h1
      · rename_i ho; cases h1; exact ⟨_, _, X _ _ ho, rfl, h2⟩
      · cases h1
    obtain ⟨oC, cd, hC1, hC2, hC3⟩ := hC
    have hC4 : ∀ o1 o2, ((hp.push o1).push o2).get? C = some oC := fun o1 o2 => Heap.get?_push_of_some _ (Heap.get?_push_of_some _ hC1)
    repeat (first | assumption | wp_step)
    refine nd_alloc ?_
    repeat (first | assumption | with_reducible refine wpAny_loadPart_at hC1 ?_ | with_reducible refine wpAny_load (hC4 _ _) ?_ | rw [hC2] | wp_step)
    have e : (hp.push { cls := .type "dict", data := .dict #[] }).objs.size = hp.objs.size + 1 := Heap.size_push ..
    show Q (.done (.ret (.ref (hp.push { cls := .type "dict", data := .dict #[] }).objs.size))) _
    rw [e]
    exact h _ _
  unfold Builtin.«int.__new__»
  rcases hv with ⟨u, rfl⟩ | ⟨x, d, tk, rfl, hx⟩
  · repeat (first | assumption | with_reducible refine Looks.at L1 ?_ | with_reducible refine Looks.at L2 ?_ | with_reducible refine Looks.at L3 ?_ | exact fin _ _ | wp_step)
  · have T1 := ni_type (M := model prog w) hx
    have f5 := bind_int_int (.ref x)
    repeat (first | assumption | with_reducible refine Looks.at L1 ?_ | with_reducible refine Looks.at L2 ?_ | with_reducible refine Looks.at L3 ?_ | with_reducible refine Looks.at T1 ?_ | with_reducible refine Looks.at L4 ?_ | with_reducible refine wpAny_of_eq f5 ?_ | exact fin _ _ | wp_step)
    refine ni_int_code N X hx ?_
    repeat (first | assumption | exact fin _ _ | wp_step)
theorem ni_new {v : Value} {Q : Value → Shared → Prop} {hp : Heap} {g : Array GenState} {dr : Drawn} {t : Nat} {os : OsState} (N : NiF K C) (X : K.In hp) (hi : findIn K (.ref C) "__int__" = some (some (.builtin "int.__int__")))
    (hdel : (clsIn K C).map (·.hasDel) = some false)
    (hv : (∃ u, v = .int n u) ∨ ∃ x d tk, v = .ref x ∧ hp.get? x = some (niObj C d n tk))
    (h : ∀ tk tk', Q (.ref (hp.objs.size + 1)) ⟨(hp.push { cls := .type "dict", data := .dict #[] }).push (niObj C hp.objs.size n tk), g, dr, tk', os⟩) :
    wpAny (model prog w) A (call (.builtin "int.__new__") [.ref C, v]) Q E ⟨hp, g, dr, t, os⟩ :=
  wpAny_call (codeAny_call_builtin (by decide +kernel) F.entry_int_new (ni_new_check N X (ni_new_entry N X hi hdel hv h)))
end
end Mine
open PySem PySem.W PyProof.Rows PySem.Calls
namespace Mine
open Builtin Builtin.Int
section
variable {K : Frag} {C d x : Addr} {n k : Int} {tk u : Tok} {prog : Program} {w : World} {A : Around} {E : Value → Shared → Prop} {s : Shared}
theorem ni_add_code {R : Result → Shared → Prop} (N : NiF K C) (X : K.In s.heap) (hx : s.heap.get? x = some (niObj C d n tk))
    (h : R (.ok (.ret (.int (n + k) s.toks))) { s with toks := s.toks + 1 }) : codeAny (model prog w) A (.call (.builtin "int.__add__") ⟨[.ref x, .int k u], []⟩) R s := by
  refine codeAny_call_builtin (by decide +kernel) F.entry_int_add ?_
  refine ni_slot N X hx (nm := "__add__") (by decide +kernel) (by decide +kernel) (F.args_int_add_2 _ _) ?_
  obtain ⟨hp, g, dr, t, os⟩ := s
  have L := ni_asInt (M := model prog w) hx
  unfold Builtin.«int.__add__» intBinary intOfSelf
  repeat (first | assumption | with_reducible refine Looks.at L ?_ | wp_step)
theorem ni_mod_code {R : Result → Shared → Prop} (N : NiF K C) (X : K.In s.heap) (hx : s.heap.get? x = some (niObj C d n tk)) (hk : (k == 0) = false)
    (h : R (.ok (.ret (.int (n.fmod k) s.toks))) { s with toks := s.toks + 1 }) : codeAny (model prog w) A (.call (.builtin "int.__mod__") ⟨[.ref x, .int k u], []⟩) R s := by
  refine codeAny_call_builtin (by decide +kernel) F.entry_int_mod ?_
  refine ni_slot N X hx (nm := "__mod__") (by decide +kernel) (by decide +kernel) (F.args_int_mod_2 _ _) ?_
  obtain ⟨hp, g, dr, t, os⟩ := s
  have L := ni_asInt (M := model prog w) hx
  unfold Builtin.«int.__mod__» intBinary intOfSelf
  repeat (first | assumption | with_reducible refine Looks.at L ?_ | wp_step)
theorem ni_gt_code {R : Result → Shared → Prop} (N : NiF K C) (X : K.In s.heap) (hx : s.heap.get? x = some (niObj C d n tk))
    (h : R (.ok (.ret (.bool (decide (n > k))))) s) : codeAny (model prog w) A (.call (.builtin "int.__gt__") ⟨[.ref x, .int k u], []⟩) R s := by
  refine codeAny_call_builtin (by decide +kernel) F.entry_int_gt ?_
  refine ni_slot N X hx (nm := "__gt__") (by decide +kernel) (by decide +kernel) (F.args_int_gt_2 _ _) ?_
  obtain ⟨hp, g, dr, t, os⟩ := s
  have L := ni_asInt (M := model prog w) hx
  unfold Builtin.«int.__gt__»
  repeat (first | assumption | with_reducible refine Looks.at L ?_ | wp_step)
theorem ni_eq_code {R : Result → Shared → Prop} (N : NiF K C) (X : K.In s.heap) (hx : s.heap.get? x = some (niObj C d n tk))
    (h : R (.ok (.ret (.bool (n == k)))) s) : codeAny (model prog w) A (.call (.builtin "int.__eq__") ⟨[.ref x, .int k u], []⟩) R s := by
  refine codeAny_call_builtin (by decide +kernel) F.entry_int_eq ?_
  refine ni_slot N X hx (nm := "__eq__") (by decide +kernel) (by decide +kernel) (F.args_int_eq_2 _ _) ?_
  obtain ⟨hp, g, dr, t, os⟩ := s
  have L := ni_asInt (M := model prog w) hx
  unfold Builtin.«int.__eq__»
  repeat (first | assumption | with_reducible refine Looks.at L ?_ | wp_step)
theorem sub_int_ref : isSubtype (.type "int") (.ref C) = pure false := by rw [isSubtype_type]; kernel_rfl
/-- what the look-ups in such a class give -/
structure NiG (K : Frag) (C : Addr) : Prop extends NiF K C where
  del : (clsIn K C).map (·.hasDel) = some false
  int_ : findIn K (.ref C) "__int__" = some (some (.builtin "int.__int__"))
  index_ : findIn K (.ref C) "__index__" = some (some (.builtin "int.__index__"))
  gt : findIn K (.ref C) "__gt__" = some (some (.builtin "int.__gt__"))
  eq : findIn K (.ref C) "__eq__" = some (some (.builtin "int.__eq__"))
  add : findIn K (.ref C) (PySem.dunder "add") = some (some (.builtin "int.__add__"))
  radd : findIn K (.ref C) (dunderR "add") = some (some (.builtin "int.__radd__"))
  mod : findIn K (.ref C) (PySem.dunder "mod") = some (some (.builtin "int.__mod__"))
  rmod : findIn K (.ref C) (dunderR "mod") = some (some (.builtin "int.__rmod__"))
theorem ifBound_B {M : Model} {self f tv : Value} {name : Str} {args : List Value} {Q : Option Value → Shared → Prop} (hT : Looks M s.heap (typeOf self) tv) (hL : Looks M s.heap (typeLookup tv name) (some f))
    (hb : bindSpecial f self = pure (f, [self])) (h : wpAny M A (call f (self :: args)) (fun v => Q (some v)) E s) : wpAny M A (callSpecialIfBound? self name args) Q E s := by
  simp only [callSpecialIfBound?, bindSpecialIfBound?]
  refine wpAny_holding (wpAny_bind (wpAny_bind (wpAny_bind (hT.here (hL.here ?_)))))
  refine wpAny_bind (wpAny_askSetting (wpAny_ite ?_))
  have fin : wpAny M A (call f ([self] ++ args) >>= fun v => pure (some v)) Q E s := wpAny_bind (wpAny_mono h (fun v s' h' => wpAny_pure h') fun _ _ h' => h')
  split
  · exact wpAny_bind (wpAny_of_eq hb (wpAny_pure (by exact fin)))
  · exact wpAny_tryCatch (wpAny_bind (wpAny_of_eq hb (wpAny_pure (by exact fin))))
theorem ni_cmp {op : CmpOp} {id : String} {b : Bool} {Q : Value → Shared → Prop} (N : NiF K C) (X : K.In s.heap) (hx : s.heap.get? x = some (niObj C d n tk)) (hu : A.units < cLine)
    (hf : findIn K (.ref C) (cmpInfo op).2.1 = some (some (.builtin id))) (hb : bindSpecial (.builtin id) (.ref x) = pure (.builtin id, [.ref x]))
    (hc : ∀ R : Result → Shared → Prop, R (.ok (.ret (.bool b))) s → codeAny (model prog w) A (.call (.builtin id) ⟨[.ref x, .int k u], []⟩) R s)
    (h : Q (.bool b) s) : wpAny (model prog w) A (richCompare op (.ref x) (.int k u)) Q E s := by
  have f1 := sub_int_ref (C := C)
  have L1 := ni_type (M := model prog w) hx
  have L2 := looks_findIn (M := model prog w) X hf
  have one : wpAny (model prog w) A (tryCompare (.ref x) (cmpInfo op).2.1 (.int k u)) (fun r s' => r = some (.bool b) ∧ s' = s) E s := by
    unfold tryCompare
    refine wpAny_bind (ifBound_B L1 L2 hb (wpAny_call (hc _ ?_)))
    exact wpAny_pure ⟨rfl, rfl⟩
  unfold richCompare
  simp only [oneThing_ref]
  refine wpAny_holding (wpAny_bind (wpAny_cRoomFor hu (wpAny_bind (L1.here (wpAny_bind (wpAny_pure ?_))))))
  have hne : (Value.ref C != Value.type "int") = true := rfl
  rw [if_pos hne]
  refine wpAny_bind (wpAny_of_eq f1 ?_)
  simp only [Bool.false_eq_true, if_false]
  refine wpAny_bind (wpAny_mono one (fun r s' z => ?_) fun _ _ e => e)
  obtain ⟨rfl, rfl⟩ := z
  exact wpAny_pure h
theorem ni_cmp_gt {Q : Value → Shared → Prop} (N : NiG K C) (X : K.In s.heap) (hx : s.heap.get? x = some (niObj C d n tk)) (hu : A.units < cLine)
    (h : Q (.bool (decide (n > k))) s) : wpAny (model prog w) A (richCompare .Gt (.ref x) (.int k u)) Q E s :=
  ni_cmp N.toNiF X hx hu N.gt (F.slot_int_gt.bind _) (fun _ => ni_gt_code N.toNiF X hx) h
theorem ni_cmp_eq {Q : Value → Shared → Prop} (N : NiG K C) (X : K.In s.heap) (hx : s.heap.get? x = some (niObj C d n tk)) (hu : A.units < cLine)
    (h : Q (.bool (n == k)) s) : wpAny (model prog w) A (richCompare .Eq (.ref x) (.int k u)) Q E s :=
  ni_cmp N.toNiF X hx hu N.eq (F.slot_int_eq.bind _) (fun _ => ni_eq_code N.toNiF X hx) h
theorem ni_fills {M : Model} {h : Heap} {nm id : String} (N : NiF K C) (X : K.In h) (hf : findIn K (.ref C) (PySem.dunder nm) = some (some (.builtin id)))
    (hi : typeLookup (.type "int") (PySem.dunder nm) = pure (some (.builtin id))) (ho : typeLookup (.type "object") (PySem.dunder nm) = pure none) (hs : isSeqSlotId id = false) (hw : ownNameWrapper (.builtin id) (PySem.dunder nm) = true) :
    Looks M h (fillsNumberSlot (.ref C) nm) true := by
  have L2 := looks_findIn (M := M) X hf
  have L4 := N.lmro (M := M) X
  intro A Q E s k q
  obtain ⟨hp, g, dr, t, os⟩ := s
  have L2' := L2.keeps k
  have L4' := L4.keeps k
  have f5 : isSeqSlot (some (.builtin id)) = false := hs
  have f6 : isSeqSlot none = false := rfl
  unfold fillsNumberSlot
  repeat (first | assumption | with_reducible refine Looks.at L4' ?_ | with_reducible refine Looks.at L2' ?_ | wp_step | rw [f5] | rw [f6])
  all_goals exact q
theorem ni_inPy {M : Model} {h : Heap} {nm id idr : String} (N : NiF K C) (X : K.In h) (hf : findIn K (.ref C) (PySem.dunder nm) = some (some (.builtin id))) (hr : findIn K (.ref C) (dunderR nm) = some (some (.builtin idr)))
    (hs : isSeqSlotId id = false) (hw : ownNameWrapper (.builtin id) (PySem.dunder nm) = true) (hw2 : ownNameWrapper (.builtin idr) (dunderR nm) = true) {n1 n2 : String} (h1 : splitId id = some ("int", n1)) (h2 : splitId idr = some ("int", n2)) :
    Looks M h (numberSlotInPython (.ref C) nm) false := by
  have L2 := looks_findIn (M := M) X hf
  have L3 := looks_findIn (M := M) X hr
  have L5 := N.lsub (M := M) X (.type "int")
  intro A Q E s k q
  obtain ⟨hp, g, dr, t, os⟩ := s
  have L2' := L2.keeps k
  have L3' := L3.keeps k
  have L5' := L5.keeps k
  have f5 : isSeqSlot (some (.builtin id)) = false := hs
  unfold numberSlotInPython
  repeat (first | assumption | with_reducible refine Looks.at L2' ?_ | with_reducible refine Looks.at L3' ?_ | with_reducible refine Looks.at L5' ?_ | rw [h1] | rw [h2] | wp_step)
  all_goals exact q
theorem ni_bin {op : Operator} {sym nm id idr : String} {Q : Value → Shared → Prop} (ho : op.info = (sym, nm)) (N : NiF K C) (X : K.In s.heap) (hx : s.heap.get? x = some (niObj C d n tk))
    (hf : findIn K (.ref C) (PySem.dunder nm) = some (some (.builtin id))) (hr : findIn K (.ref C) (dunderR nm) = some (some (.builtin idr)))
    (hi : typeLookup (.type "int") (PySem.dunder nm) = pure (some (.builtin id))) (hob : typeLookup (.type "object") (PySem.dunder nm) = pure none) (hs : isSeqSlotId id = false)
    (hw : ownNameWrapper (.builtin id) (PySem.dunder nm) = true) (hw2 : ownNameWrapper (.builtin idr) (dunderR nm) = true) {n1 n2 : String} (h1 : splitId id = some ("int", n1)) (h2 : splitId idr = some ("int", n2))
    (hfi : fillsNumberSlot (.type "int") nm = pure true) (hb : bindSpecial (.builtin id) (.ref x) = pure (.builtin id, [.ref x])) {z : Int} {s' : Shared}
    (hc : ∀ R : Result → Shared → Prop, R (.ok (.ret (.int z s.toks))) s' → codeAny (model prog w) A (.call (.builtin id) ⟨[.ref x, .int k u], []⟩) R s)
    (h : Q (.int z s.toks) s') : wpAny (model prog w) A (binaryOp op (.ref x) (.int k u)) Q E s := by
  have f1 := sub_int_ref (C := C)
  have L1 := ni_type (M := model prog w) hx
  have L2 := looks_findIn (M := model prog w) X hf
  have L6 := ni_fills (M := model prog w) N X hf hi hob hs hw
  have L7 := ni_inPy (M := model prog w) N X hf hr hs hw hw2 h1 h2
  obtain ⟨hp, g, dr, t, os⟩ := s
  unfold binaryOp binaryOp1
  rw [ho]
  dsimp only
  repeat (first | assumption | with_reducible refine Looks.at L1 ?_ | with_reducible refine Looks.at L6 ?_ | with_reducible refine Looks.at L7 ?_ | with_reducible refine Looks.at L2 ?_ | wp_step)
  refine hc _ ?_
  exact wpAny_pure (wpAny_pure (wpAny_pure (wpAny_pure h)))
theorem lk_object_add : typeLookup (.type "object") (PySem.dunder "add") = pure none := by rw [typeLookup_type, builtinLookup_eq_fast]; kernel_rfl
theorem lk_object_mod : typeLookup (.type "object") (PySem.dunder "mod") = pure none := by rw [typeLookup_type, builtinLookup_eq_fast]; kernel_rfl
theorem ni_add {Q : Value → Shared → Prop} (N : NiG K C) (X : K.In s.heap) (hx : s.heap.get? x = some (niObj C d n tk))
    (h : Q (.int (n + k) s.toks) { s with toks := s.toks + 1 }) : wpAny (model prog w) A (binaryOp .Add (.ref x) (.int k u)) Q E s :=
  ni_bin (sym := "+") (nm := "add") rfl N.toNiF X hx N.add N.radd F.slot_int_add.lookup lk_object_add (by decide +kernel) (by decide +kernel) (by decide +kernel) (n1 := "__add__") (n2 := "__radd__") (by decide +kernel) (by decide +kernel)
    F.fills_int_add (F.slot_int_add.bind _) (fun _ => ni_add_code N.toNiF X hx) h
theorem ni_mod {Q : Value → Shared → Prop} (N : NiG K C) (X : K.In s.heap) (hx : s.heap.get? x = some (niObj C d n tk)) (hk : (k == 0) = false)
    (h : Q (.int (n.fmod k) s.toks) { s with toks := s.toks + 1 }) : wpAny (model prog w) A (binaryOp .Mod (.ref x) (.int k u)) Q E s :=
  ni_bin (sym := "%") (nm := "mod") rfl N.toNiF X hx N.mod N.rmod F.slot_int_mod.lookup lk_object_mod (by decide +kernel) (by decide +kernel) (by decide +kernel) (n1 := "__mod__") (n2 := "__rmod__") (by decide +kernel) (by decide +kernel)
    F.fills_int_mod (F.slot_int_mod.bind _) (fun _ => ni_mod_code N.toNiF X hx hk) h
end
end Mine
open PySem PySem.W PyProof.Rows PySem.Calls
namespace Mine
open Builtin
section
variable {K : Frag} {C d x : Addr} {n k : Int} {tk u : Tok} {prog : Program} {w : World} {A : Around} {E : Value → Shared → Prop} {h : Heap} {g : Array GenState} {dr : Drawn} {t : Nat} {os : OsState}
/-- super(C, C) -/
abbrev supC (C : Addr) : Obj := { cls := .type "super", dict := none, data := .fields #[.ref C, .ref C, .ref C], slots := #[] }
theorem sup2_call {oD : Obj} {cd : ClassData} {Q : Value → Shared → Prop} (N : NiF K C) (X : K.In h) (hD : h.get? C = some oD) (hDt : oD.data = .cls cd)
    (hq : ∀ h', h'.get? h.objs.size = some (supC C) → (∀ y o, h.get? y = some o → h'.get? y = some o) → Q (.ref h.objs.size) ⟨h', g, dr, t, os⟩) :
    wpAny (model prog w) A (call (.type "super") [.ref C, .ref C]) Q E ⟨h, g, dr, t, os⟩ := by
  have hsub := N.lsub (M := model prog w) X (.ref C)
  have hc : (niMro C).contains (.ref C) = true := by simp [niMro]
  rw [hc] at hsub
  refine ks_callType_codesW (Q₁ := fun obj s₁ => obj = .ref h.objs.size ∧ s₁ = ⟨h.push { cls := .type "super", data := .fields #[.none, .none, .none] }, g, dr, t, os⟩) F.ks_called_super (ks_wpAny_checkTypeCall_super hD hDt) F.ks_entry_super_init
    (ks_code_super_new _ _ ⟨rfl, rfl⟩) fun obj s₁ h₁ => ?_
  obtain ⟨rfl, rfl⟩ := h₁
  have up : ∀ y o, h.get? y = some o → (h.push { cls := .type "super", data := .fields #[.none, .none, .none] }).get? y = some o := fun y o e => Heap.get?_push_of_some _ e
  have hso : (h.push { cls := .type "super", data := .fields #[.none, .none, .none] }).get? h.objs.size = some { cls := .type "super", dict := none, data := .fields #[.none, .none, .none], slots := #[] } := Heap.get?_push_at rfl rfl
  have hD' := up _ _ hD
  have hsub' := hsub.keeps up
  refine ⟨⟨_, hso, rfl⟩, F.ks_initArgs_super _ _ _, ?_⟩
  unfold Builtin.«super.__init__» noKeywords
  repeat (first | (with_reducible refine ks_wpAny_isType_cls hD' hDt ?_) | (with_reducible refine Looks.at hsub' ?_) | (with_reducible refine ks_wpAny_super_set3 hso ?_) | wp_step)
  all_goals first
    | (intro h' e k; exact ⟨rfl, hq h' e fun y o ey => k y o (Nat.ne_of_lt (Heap.lt_size ey)) (up y o ey)⟩)
    | (refine ks_wpAny_super_set3 hso ?_; intro h' e k; exact ⟨rfl, hq h' e fun y o ey => k y o (Nat.ne_of_lt (Heap.lt_size ey)) (up y o ey)⟩)
theorem own_int_new : classOwn (.type "int") "__new__" = pure (some (.builtin "int.__new__")) := by kernel_rfl
theorem ty_int_new : typeOf (.builtin "int.__new__") = pure (.type "builtin_function_or_method") := by show builtinType _ = _; rw [builtinType_eq_fast]; kernel_rfl
theorem noget_bfm : typeLookup (.type "builtin_function_or_method") "__get__" = pure none := by rw [typeLookup_type, builtinLookup_eq_fast]; kernel_rfl
theorem sup2_ga {so : Addr} {tk : Tok} {Q : Fin → Shared → Prop} (N : NiF K C) (X : K.In h) (hso : h.get? so = some (supC C)) (hno : Looks (model prog w) h (opaqueClassAbove (.ref C)) none)
    (hq : Q (.done (.ret (.builtin "int.__new__"))) ⟨h, g, dr, t, os⟩) :
    wpAny (model prog w) A (Builtin.«super.__getattribute__» ⟨[.ref so, .str "__new__" tk], []⟩) Q E ⟨h, g, dr, t, os⟩ := by
  have hlk := noget_bfm
  have hty := ty_int_new
  have hown := own_int_new
  have hne : (Value.ref C == Value.ref C) = true := by simp
  have L := N.lmro (M := model prog w) X
  have hdt : (supC C).data = .fields #[.ref C, .ref C, .ref C] := rfl
  have f0 : (#[.ref C, .ref C, .ref C] : Array Value)[0]? = some (.ref C) := rfl
  have f1 : (#[.ref C, .ref C, .ref C] : Array Value)[1]? = some (.ref C) := rfl
  have f2 : (#[.ref C, .ref C, .ref C] : Array Value)[2]? = some (.ref C) := rfl
  have hl : ((niMro C).dropWhile (· != Value.ref C)).drop 1 = [.type "int", .type "object"] := by simp [niMro, List.dropWhile_cons]
  unfold Builtin.«super.__getattribute__»
  repeat (first
    | (with_reducible refine wpAny_field hso hdt f0 ?_) | (with_reducible refine wpAny_field hso hdt f1 ?_) | (with_reducible refine wpAny_field hso hdt f2 ?_)
    | (with_reducible refine ks_wpAny_notOpaque hno ?_)
    | (with_reducible refine Looks.at L ?_; rw [hl])
    | wp_step)
  all_goals exact hq
theorem sup2_getMethod {so : Addr} {pl : Sem Bool} {Q : Value × List Value → Shared → Prop} (N : NiF K C) (X : K.In h) (hso : h.get? so = some (supC C)) (hno : Looks (model prog w) h (opaqueClassAbove (.ref C)) none)
    (hq : Q (.builtin "int.__new__", []) ⟨h, g, dr, t + 1, os⟩) :
    wpAny (model prog w) A (getMethod (.ref so) "__new__" pl) Q E ⟨h, g, dr, t, os⟩ := by
  have hlk := PySem.F.ks_slot_super_ga.lookup
  have hcan := PySem.F.ks_canon_super_ga
  have hbd := PySem.F.ks_slot_super_ga.bind (.ref so)
  have hT : ∀ t', (⟨h, g, dr, t', os⟩ : Shared).TypeIs (.ref so) "super" := fun _ => ⟨_, hso, rfl⟩
  unfold getMethod
  refine wpAny_bind (wpAny_specialOf (hT _) hlk ?_)
  dsimp only
  rw [if_pos hcan]
  unfold getAttr getAttrBy
  refine wpAny_bind (wpAny_bind (wpAny_mkText (wpAny_holding (wpAny_bind (wpAny_typeOf (hT _) (wpAny_bind (wpAny_of_eq hlk ?_)))))))
  show wpAny _ _ (getAttrByItsOwn (.ref so) (.str "__new__" t) (.type "super") (.builtin "super.__getattribute__") true false) _ _ _
  unfold getAttrByItsOwn hookBefore callGetattribute boundAndCalled
  refine wpAny_bind (wpAny_of_eq (show (if onTheHeap (.type "super") then typeLookup (.type "super") "__getattr__" else pure none) = pure none from rfl) ?_)
  refine wpAny_bind (wpAny_attempt (wpAny_holding ?_))
  show wpAny _ _ (bindSpecial (.builtin "super.__getattribute__") (.ref so) >>= _) _ _ _
  refine wpAny_bind (wpAny_of_eq hbd ?_)
  refine wpAny_call (codeAny_call_builtin PySem.F.ks_slot_super_ga.plain PySem.F.ks_entry_super_ga (PySem.F.ks_slot_super_ga.check _ _ _ _ _ _ _ _ (hT _) (PySem.F.ks_gaArgs_super _ _) (sup2_ga N X hso hno ?_)))
  have hh : handedOut (.builtin "int.__new__") = pure (.builtin "int.__new__") := handedOut_of (by decide +kernel)
  show wpAny _ _ (handedOut (.builtin "int.__new__")) _ _ _
  rw [hh]
  exact wpAny_pure (wpAny_pure hq)
end
end Mine
open PySem PySem.W PyProof.Rows
namespace Mine
open_top hd for PySem.Challenge.rw_dn0146_02
end Mine
namespace Mine
theorem walk_plain : True := by
  w_top off
  trivial
end Mine
open PySem PySem.W PyProof.Rows PySem.Calls
namespace Mine
open Builtin Builtin.ObjectAttr

section
variable {prog : Program} {w : World} {A : Around} {E : Value → Shared → Prop} {h : Heap} {g : Array GenState} {d : Drawn} {t : Nat} {os : OsState}
variable {nm q : Str} {C N x : Addr} {bs : List Value} {sn : List Str} {sub : List Value} {ab : Bool} {col : Option Bool} {dd : Option Addr} {k0 k1 k2 k3 k5 : Option Value} {newId : String}
  {mN mA : Str → Option Value} {name : Str} {v : Value}

abbrev excBm : List Value := [.type "Exception", .type "BaseException", .type "object"]

end
end Mine
open PySem PySem.W PyProof.Rows PySem.Calls
namespace Mine
open Builtin Builtin.ObjectAttr

/-- a dict's object that bears the attributes mA -/
def AttrObj (o : Obj) (mA : Str → Option Value) : Prop := ∃ es ep, o.data = .dict es ep ∧ StrKeys es ∧ UniqKeys es ∧ ∀ name, nsFind es name = mA name

theorem AttrObj.ns1 {h : Heap} {a : Addr} {o : Obj} {mA : Str → Option Value} (x : AttrObj o mA) (e : h.get? a = some o) : h.Ns1 a mA :=
  let ⟨es, ep, d, k, u, f⟩ := x; ⟨o, es, ep, e, d, k, u, f⟩
theorem AttrObj.of_ns1 {h : Heap} {a : Addr} {mA : Str → Option Value} (x : h.Ns1 a mA) : ∃ o, h.get? a = some o ∧ AttrObj o mA :=
  let ⟨o, es, ep, e, d, k, u, f⟩ := x; ⟨o, e, es, ep, d, k, u, f⟩

section
variable {prog : Program} {w : World} {A : Around} {E : Value → Shared → Prop} {h : Heap} {g : Array GenState} {d : Drawn} {t : Nat} {os : OsState}
variable {nm q : Str} {C N x : Addr} {bs : List Value} {sn : List Str} {sub : List Value} {ab : Bool} {col : Option Bool} {dd : Option Addr} {k0 k1 k2 k3 k5 : Option Value} {newId : String}
  {mN mA : Str → Option Value} {name : Str} {v : Value} {vs : Array Value}

end
end Mine
open PySem PySem.W PyProof.Rows PySem.Calls
namespace Mine
open Builtin Builtin.ObjectAttr

namespace F
end F

abbrev mwObj (x : Addr) : Obj := { cls := .type "method-wrapper", data := .fields #[.builtin "Exception.__init__", .ref x] }
section
variable {prog : Program} {w : World} {A : Around} {E : Value → Shared → Prop} {h : Heap} {g : Array GenState} {d : Drawn} {t : Nat} {os : OsState}
variable {nm q : Str} {C N x : Addr} {bs : List Value} {sn : List Str} {sub : List Value} {ab : Bool} {col : Option Bool} {dd : Option Addr} {k0 k1 k2 k3 k5 : Option Value} {newId : String}

end
end Mine
open PySem PySem.W PyProof.Rows PySem.Calls
namespace Mine
open Builtin Builtin.ObjectAttr
section
variable {prog : Program} {w : World} {A : Around} {E : Value → Shared → Prop} {h : Heap} {g : Array GenState} {d : Drawn} {t : Nat} {os : OsState}
variable {nm q : Str} {C N x : Addr} {bs : List Value} {sn : List Str} {sub : List Value} {ab : Bool} {col : Option Bool} {dd : Option Addr} {k0 k1 k2 k3 k5 : Option Value}


end
end Mine
open PySem PySem.W PyProof.Rows PySem.Calls
namespace Mine
open Builtin Builtin.ObjectAttr

abbrev tupOf (vs : List Value) : Obj := { cls := .type "tuple", data := .seq vs.toArray }
abbrev excO (C t : Addr) : Obj := { cls := .ref C, data := .fields #[.ref t, .none, .none, .none, .bool false, .none] }
section
variable {prog : Program} {w : World} {A : Around} {E : Value → Shared → Prop} {h : Heap} {g : Array GenState} {d : Drawn} {t : Nat} {os : OsState}
variable {nm q : Str} {C N x : Addr} {bs : List Value} {sn : List Str} {sub : List Value} {ab : Bool} {col : Option Bool} {dd : Option Addr} {k0 k1 k2 k3 k5 : Option Value} {nid id : String}

end
end Mine
open PySem PySem.W PyProof.Rows PySem.Calls
namespace Mine
open Builtin Builtin.ObjectAttr

section
variable {prog : Program} {w : World} {A : Around} {E : Value → Shared → Prop} {s : Shared} {K : Frag} {h₀ : Heap} {L : Addr} {m : Str → Option Value} {news : List (Addr × Obj)} {gg : Obj → List (Addr × Obj)}
variable {nm q : Str} {C Nn e dx : Addr} {bs : List Value} {sn : List Str} {sub : List Value} {ab : Bool} {col : Option Bool} {dd : Option Addr} {k0 k1 k2 k3 k5 : Option Value} {nid : String}
  {name : Str} {v : Value} {vs : Array Value} {sl : Array (Option Value)} {mA : Str → Option Value} {od : Obj}

theorem newsPush {h' : Heap} {a : Addr} {o : Obj} (F : Fr h₀ L s.heap m) (N : News h₀ L s.heap news) (ha : a = s.heap.objs.size) (ho : h'.get? a = some o) (k : ∀ b o, s.heap.get? b = some o → h'.get? b = some o) :
    Fr h₀ L h' m ∧ News h₀ L h' ((a, o) :: news) ∧ ∀ p ∈ news, p.1 < a := ks_newsPush F N ha ho k

def MwP (mw e : Addr) (h : Heap) : Prop := h.get? mw = some (mwObj e)
end
end Mine
open PySem PySem.W PyProof.Rows PySem.Calls
namespace Mine
open Builtin Builtin.ObjectAttr

section
variable {prog : Program} {w : World} {A₀ A : Around} {s : Shared} {base hb : Heap} {outer : List Env} {mg mb : Str → Option Value} {env : Env} {news : List (Addr × Obj)} {K : Frag} {p : Program} {loose : List Str} {mean : ExcName → Option Value}
  {R : Result → Shared → Prop} {name qual : Str} {params : Arguments} {body : List Stmt} {scope : Scope} {dV kV doc pm cdv ct oc : Value} {an od : Option Addr} {osl : Array (Option Value)} {f cc : Addr} {args : Args} {binds : List (Str × Value)}

theorem enter_super (hsub : hb.StaysIn s.heap) (hsz : hb.objs.size ≤ s.heap.objs.size) (Xb : K.In hb) (Tb : Top p loose mean mg mb hb) (N : ∀ p ∈ news, s.heap.get? p.1 = some p.2 ∧ hb.get? p.1 = none)
    (ho : K.lookup f = some ⟨oc, od, .func (ksFn name qual params body scope dV kV doc pm an cdv ct cc), osl⟩) (hcd : codeIn K cdv qual = true) (hroom : A.depth < recursionLimit)
    (hbind : BindsTo s (ksFn name qual params body scope dV kV doc pm an cdv ct cc) args binds) (hloc : ∀ y ∈ binds, scope.names.lookup y.1 = some .local)
    (h : ∀ L' h₁, Fr hb L' h₁ (fun y => binds.reverse.lookup y) → News hb L' h₁ news → (∀ p ∈ news, p.1 < L') →
      _root_.PySem.wpAt (model prog w) (A.deeper (ksEnv qual scope L' f cdv cc)) (.func body (ksEnv qual scope L' f cdv cc)) (execs body (ksEnv qual scope L' f cdv cc))
        (fun fl s' => Back s (fun v s' => R (.ok (.ret v)) s') (match fl with | .ret v => v | _ => .none) s')
        (fun e s' => wpAny (model prog w) (A.deeper (ksEnv qual scope L' f cdv cc)) (leaving (ksEnv qual scope L' f cdv cc) e) (fun _ s'' => R (.error e) s'') (fun e' s'' => R (.error e') s'') s')
        { s with heap := h₁, toks := s.toks + binds.length })
    (hcell : ∀ x ∈ scope.names, x.2 ≠ .cell) (hco : scope.isCoroutine = false) (hgen : scope.isGenerator = false) (hk : scope.kind = .function) : codeAny (model prog w) A (.call (.ref f) args) R s := by
  have Xs := Xb.keeps hsub
  refine ks_codeAny_call_defAt (fd := ksFn name qual params body scope dV kV doc pm an cdv ct cc) (body := body) (binds := binds) hroom (Xs _ _ ho) rfl (Tb.nolimit.keeps hsub) (codeRec_of Xs hcd) rfl hbind hcell hloc (fun h₁ hns hk₁ => ?_) hco hgen hk
  exact h s.heap.objs.size h₁ ⟨hns, fun b o e => hk₁ b o (hsub b o e), hsz⟩ (fun p hp => ⟨hk₁ _ _ (N p hp).1, Nat.ne_of_lt (Heap.lt_size (N p hp).1), (N p hp).2⟩) (fun p hp => Heap.lt_size (N p hp).1)
end

/-- the exception e: its attributes and its one argument -/
def ExcIs (h : Heap) (C e : Addr) (vs : Array Value) (msg pat pos line col : Value) (words : Str) : Prop :=
  ∃ dx sl od mA t tw, h.get? e = some ⟨.ref C, some dx, .fields vs, sl⟩ ∧ vs[0]? = some (.ref t) ∧ h.get? dx = some od ∧ AttrObj od mA ∧ mA "msg" = some msg ∧ mA "pattern" = some pat ∧ mA "pos" = some pos ∧
    mA "lineno" = some line ∧ mA "colno" = some col ∧ h.get? t = some (tupOf [.str words tw])
theorem ExcIs.keeps {h h' : Heap} {C e : Addr} {vs : Array Value} {msg pat pos line col : Value} {words : Str} (x : ExcIs h C e vs msg pat pos line col words) (k : h.StaysIn h') : ExcIs h' C e vs msg pat pos line col words :=
  let ⟨dx, sl, od, mA, t, tw, a, b, c, r1, r2, r3, r4, r5, r6, d⟩ := x
  ⟨dx, sl, od, mA, t, tw, k _ _ a, b, k _ _ c, r1, r2, r3, r4, r5, r6, k _ _ d⟩
end Mine
open PySem PySem.W PyProof.Rows PySem.Calls
namespace Mine
theorem niF02 {w : World} {h : Heap} (X : (hd.heap_39 w.params).In h) : NiG (hd.heap_39 w.params) 40 := by
  revert X
  refine (?_ : PySem.Challenge.rw_dn0146_02 = PySem.Challenge.rw_dn0146_02 → (hd.heap_39 w.params).In h → NiG (hd.heap_39 w.params) 40) rfl
  k_fill; intro _ X
  refine { obj := ⟨_, _, _, _, _, _, _, _, rfl⟩, del := rfl, int_ := ?_, index_ := ?_, gt := ?_, eq := ?_, add := ?_, radd := ?_, mod := ?_, rmod := ?_ }
  all_goals k_is
section
variable {prog : Program} {w : World} {A : Around} {E : Value → Shared → Prop} {s : Shared} {K : Frag} {h₀ : Heap} {L C : Addr} {m : Str → Option Value} {news : List (Addr × Obj)}
theorem ksup2 {Q : Value → Shared → Prop} (F : Fr h₀ L s.heap m) (X₀ : K.In h₀) (N : News h₀ L s.heap news) (G : NiF K C)
    (h : ∀ so h', Fr h₀ L h' m → News h₀ L h' ((so, supC C) :: news) → (∀ p ∈ news, p.1 < so) → @LT.lt Nat _ L so → Q (.ref so) { s with heap := h' }) : wpAny (model prog w) A (call (.type "super") [.ref C, .ref C]) Q E s := by
  have X := X₀.keeps F.keep
  obtain ⟨nm, q, N', k0, k1, k2, k3, k5, e⟩ := G.obj
  obtain ⟨hp, g, d, t, os⟩ := s
  refine sup2_call G X (X _ _ e) rfl fun h' e1 e2 => ?_
  obtain ⟨F', N', l'⟩ := newsPush (s := ⟨hp, g, d, t, os⟩) F N rfl e1 e2
  exact h _ _ F' N' l' F.ns.lt
theorem ksup2_method {so : Addr} {pl : Sem Bool} {Q : Value × List Value → Shared → Prop} (F : Fr h₀ L s.heap m) (X₀ : K.In h₀) (N : News h₀ L s.heap news) (G : NiF K C) (ho : nsIn K cStatics "thirdparty.any" = some none)
    (hso : (so, supC C) ∈ news) (h : Q (.builtin "int.__new__", []) { s with toks := s.toks + 1 }) : wpAny (model prog w) A (getMethod (.ref so) "__new__" pl) Q E s := by
  have X := X₀.keeps F.keep
  obtain ⟨hp, g, d, t, os⟩ := s
  exact sup2_getMethod G X (N _ hso).1 (looks_opaque X ho) h
theorem kni_new {v : Value} {n : Int} {Q : Value → Shared → Prop} (F : Fr h₀ L s.heap m) (X₀ : K.In h₀) (N : News h₀ L s.heap news) (G : NiG K C)
    (hv : (∃ u, v = .int n u) ∨ ∃ x d tk, v = .ref x ∧ h₀.get? x = some (niObj C d n tk))
    (h : ∀ x dx tk h' tk', Fr h₀ L h' m → News h₀ L h' ((x, niObj C dx n tk) :: (dx, dictOf [] 0) :: news) → (∀ p ∈ news, p.1 < dx) → @LT.lt Nat _ dx x → Q (.ref x) { s with heap := h', toks := tk' }) :
    wpAny (model prog w) A (call (.builtin "int.__new__") [.ref C, v]) Q E s := by
  have X := X₀.keeps F.keep
  have hv' : (∃ u, v = .int n u) ∨ ∃ x d tk, v = .ref x ∧ s.heap.get? x = some (niObj C d n tk) := hv.imp id fun ⟨x, d, tk, a, b⟩ => ⟨x, d, tk, a, F.keep _ _ b⟩
  have N1 := N.push F { cls := .type "dict", data := .dict #[] }
  have F1 := F.push { cls := .type "dict", data := .dict #[] }
  have lt1 : ∀ p ∈ news, p.1 < s.heap.objs.size := fun p hp => Heap.lt_size (N p hp).1
  obtain ⟨hp, g, d, t, os⟩ := s
  refine ni_new G.toNiF X G.int_ G.del hv' fun tk tk' => ?_
  have N2 := N1.push F1 (niObj C hp.objs.size n tk)
  have F2 := F1.push (niObj C hp.objs.size n tk)
  have hsz : (hp.push { cls := .type "dict", data := .dict #[] }).objs.size = hp.objs.size + 1 := Heap.size_push ..
  dsimp only at N2 F2 hsz lt1
  rw [hsz] at N2
  exact h (hp.objs.size + 1) hp.objs.size tk _ tk' F2 N2 lt1 (Nat.lt_succ_self _)
theorem ni_instAt {h : Heap} {x dx : Addr} {n : Int} {tk : Tok} {od : Obj} (h1 : h.get? x = some (niObj C dx n tk)) (h2 : h.get? dx = some od) : InstAt h x (niObj C dx n tk) C (some od) := ⟨h1, rfl, rfl, h2⟩
end
end Mine
open PySem PySem.W PyProof.Rows PySem.Calls
namespace Mine
open Builtin Builtin.ObjectAttr
theorem refuse_int (self : Value) : refuseLoop self "__setattr__" [.type "int", .type "object"] = pure () := by kernel_rfl
section
variable {prog : Program} {w : World} {A : Around} {E : Value → Shared → Prop} {s : Shared} {K : Frag} {h₀ : Heap} {L C x dx : Addr} {m : Str → Option Value} {news news' : List (Addr × Obj)} {n : Int} {tk t : Tok} {v : Value} {name : Str} {R : Result → Shared → Prop}
theorem ni_set_code {pre post : List (Addr × Obj)} (F : Fr h₀ L s.heap m) (N : News h₀ L s.heap (pre ++ (dx, dictOf [] 0) :: post)) (X : K.In s.heap) (G : NiF K C) (hx : s.heap.get? x = some (niObj C dx n tk)) (hf : findIn K (.ref C) name = some none) (hh : (clsIn K C).any (·.hasDict) = true)
    (h1 : ∀ p ∈ pre, p.1 ≠ dx) (h2 : ∀ p ∈ post, p.1 ≠ dx)
    (h : ∀ h', Fr h₀ L h' m → News h₀ L h' (pre ++ (dx, dictOf [⟨PyData.keyHash w.params name, .str name s.toks, v⟩] 1) :: post) → R (.ok (.ret .none)) { s with heap := h', toks := s.toks + 1 }) :
    codeAny (model prog w) A (.call (.builtin "object.__setattr__") ⟨[.ref x, .str name t, v], []⟩) R s := by
  have SF := PySem.F.store_object
  have T : Looks (model prog w) s.heap (typeOf (.ref x)) (.ref C) := ni_type hx
  have sub : Looks (model prog w) s.heap (isInstance (.ref x) (.type "object")) true := T.andThen (G.lsub X (.type "object"))
  refine codeAny_call_builtin SF.slot.plain SF.entry (@check_slot (model prog w) _ _ s "object.__setattr__" "object" "__setattr__" (.ref x) [.str name t, v] [] _ SF.kind SF.split sub (SF.args (.ref x) (.str name t) v) ?_)
  obtain ⟨cd, hc, hd'⟩ := any_some hh
  obtain ⟨U1, U2⟩ := news_upd (f := Obj.putName name (PyData.keyHash w.params name) (.str name s.toks) v) (o' := dictOf [⟨PyData.keyHash w.params name, .str name s.toks, v⟩] 1) F N h1 h2 (by rw [show dictOf [] 0 = dictOf ([] : List DictEntry) 0 from rfl, putName_dict]; rfl) rfl
  have D := (N (dx, dictOf [] 0) (by simp)).1
  have D' := (U2 (dx, dictOf [⟨PyData.keyHash w.params name, .str name s.toks, v⟩] 1) (by simp)).1
  rw [osa_eq, refuse_eq]
  refine wpAny_bind (wpAny_bind (T.here (wpAny_bind ((G.lmro X).here ?_))))
  rw [refuseLoop_ref, refuse_int]
  refine wpAny_pure (wpAny_bind (T.here (wpAny_bind ((looks_findIn X hf).here (wpAny_bind (wpAny_pure ?_))))))
  refine wpAny_bind (wpAny_pure (wpAny_bind (wpAny_bind (wpAny_loadPart hx (wpAny_bind ((looks_clsIn X hc).here ?_))))))
  rw [hd']
  refine wpAny_pure (a := some dx) (wpAny_bind (wpAny_pure (wpAny_bind ?_)))
  unfold nsSet
  refine wpAny_bind (wpAny_bind (wpAny_askSetting (wpAny_pure (wpAny_bind (wpAny_mkText (wpAny_bind (wpAny_loadPart D ?_)))))))
  have c : aRefKeyMayBeTheName name #[] = false := rfl
  show wpAny _ _ (if aRefKeyMayBeTheName name #[] = true then _ else _) _ _ _
  rw [c]
  refine wpAny_updatePart D ?_
  refine wpAny_bind (wpAny_lookBehind D' (pastItsLine_dict (by rw [sizeLine_eq]; show 1 ≤ _; omega)) ?_)
  exact wpAny_pure (h _ U1 U2)
theorem ni_set {Q : Unit → Shared → Prop} (F : Fr h₀ L s.heap m) (X₀ : K.In h₀) (N : News h₀ L s.heap news) (G : NiF K C) (hx : (x, niObj C dx n tk) ∈ news)
    (hs : findIn K (.ref C) "__setattr__" = some (some (.builtin "object.__setattr__"))) (hf : findIn K (.ref C) name = some none) (hh : hasDictIn K C = true)
    (U : Upd dx (dictOf [] 0) (dictOf [⟨PyData.keyHash w.params name, .str name (s.toks + 1), v⟩] 1) news news')
    (h : ∀ h', Fr h₀ L h' m → News h₀ L h' news' → Q () { s with heap := h', toks := s.toks + 2 }) :
    wpAny (model prog w) A (setAttr (.ref x) name v) Q E s := by
  have X := X₀.keeps F.keep
  have hx1 := (N _ hx).1
  obtain ⟨pre, post, rfl, rfl, a, b⟩ := U.split
  have hdx : s.heap.get? dx = some (dictOf [] 0) := (N _ (List.mem_append_right _ (.head _))).1
  exact set_plain X (ni_instAt hx1 hdx) hs (ni_set_code (s := { s with toks := s.toks + 1 }) F N X G hx1 hf hh a b fun h' F' N' => h h' F' N')
end
end Mine
open PySem PySem.W PyProof.Rows PySem.Calls
namespace Mine
local macro_rules | `(tactic| k_inst) => `(tactic| exact ni_instAt (News.get (by k_asm) (by k_mem)) (News.get (by k_asm) (by k_mem)))
theorem walk_lines_1 : True := by
  k_with "eval Name" => (k_here; (with_reducible show wpAny _ _ (eval (Expr.Name (PySem.Str.ofString "super") _) _) _ _ _); k_dflt (refine' nameX_B (by k_asm) (by k_asm) (by k_asm) (by k_is) (by boot_by_name) (by decide) ?_))
  k_with "call type:super" => (k_here; k_dflt (refine' ksup2 (by k_asm) (by k_asm) (by k_asm) (by exact (niF02 (by assumption)).toNiF) ?_; intro _ _ _ _ l1 _; (try k_lt l1)))
  k_with "getMethod ref" => (k_here; k_dflt (refine' ksup2_method (by k_asm) (by k_asm) (by k_asm) (by exact (niF02 (by assumption)).toNiF) (by k_is) (by k_mem) ?_))
  k_with "call builtin:int.__new__" => (k_here; k_dflt (refine' kni_new (by k_asm) (by k_asm) (by k_asm) (by exact niF02 (by assumption)) (by assumption) ?_; intro _ _ _ _ _ _ _ l1 _; (try k_lt l1)))
  k_with "setAttr ref" => (k_here; k_dflt (refine' ni_set (by k_asm) (by k_asm) (by k_asm) (by exact (niF02 (by assumption)).toNiF) (by k_mem) (by k_is) (by k_is) (by k_is) (by k_upd) ?_; intro _ _ _))
  trivial
/-- the dict of a named constant -/
abbrev nameD (P : Params) (t : Tok) (nm : Str) (tn : Tok) : Obj := dictOf [⟨PyData.keyHash P "name", .str "name" t, .str nm tn⟩] 1
theorem new_fn {w : World} {dp un : Nat} {gd : Option (List Code)} {fr : Option (List Env)} {s : Shared} {R : Result → Shared → Prop}
  {mean : ExcName → Option Value} {mg mb : Str → Option Value} {v : Value} {n : Int} {nm : Str} {tn : Tok}
  (Xs : (hd.heap_39 w.params).In s.heap) (Ts : Top hd.view_39 (looseW hd.view_39 [Str.ofString "_NamedIntConstant"]) mean mg mb s.heap)
  (hdp : dp + 1 < recursionLimit) (hv : (∃ u, v = .int n u) ∨ ∃ x d tk, v = .ref x ∧ s.heap.get? x = some (niObj 40 d n tk))
  (ret : ∀ (x dx : Addr) (t tk' : Tok) (h' : Heap) (tk : Nat), s.heap.StaysIn h' → s.heap.get? x = none → s.heap.get? dx = none → @LE.le Nat _ s.heap.objs.size dx → @LT.lt Nat _ dx x → h'.get? x = some (niObj 40 dx n t) → h'.get? dx = some (nameD w.params tk' nm tn) → R (.ok (.ret (.ref x))) { s with heap := h', toks := tk }) :
  codeAny (model PySem.Challenge.rw_dn0146_02.row.prog w) ⟨none, dp, fr, gd, un⟩ (.call (.ref 30) ⟨[.ref 40, v, .str nm tn], []⟩) R s := by
  revert Xs; k_fill; intro Xs
  k_dflt (refine' enter_super (hb := s.heap) (news := []) ?k1 ?k2 ?k3 ?k4 ?k5 ?k6 ?k7 ?k8 ?k9 ?k10 ?_ ?c1 ?c2 ?c3 ?c4; (case k1 => exact fun _ _ e => e); (case k2 => exact Nat.le_refl _); (case k3 => exact Xs); (case k4 => exact Ts); (case k5 => exact fun _ hp => nomatch hp); (case k6 => k_is); (case k7 => k_is); (case k8 => ktr_room); (case k9 => exact BindsTo.of_eq (binds := [(Str.ofString "cls", Value.ref 40), (Str.ofString "value", v), (Str.ofString "name", Value.str nm tn)]) rfl); (case k10 => exact locs rfl); (case c1 => decide); (case c2 => exact rfl); (case c3 => exact rfl); (case c4 => exact rfl); intro L' h' F' N' l1; (try dsimp only))
  refine wpAt_of_wpAny ?_
  k_steps
  rename Fr _ _ _ _ => FF
  rename News _ _ _ _ => NN
  have n1 := NN _ (.head _)
  have n2 := NN _ (.tail _ (.head _))
  exact ret _ _ _ _ _ _ FF.keep n1.2.2 n2.2.2 (by have q : @LE.le Nat _ s.heap.objs.size L' := FF.above; omega) (by assumption) n1.1 n2.1
end Mine
namespace Mine
theorem walk_none_Ni6 : True := by
  k_with_none
  trivial
end Mine
open PySem PySem.W PyProof.Rows PySem.Calls
namespace Mine
open Builtin
theorem args_oinit (a b c : Value) : argsOk "object.__init__" ⟨[a, b, c], []⟩ := by unfold argsOk; kernel_rfl
section
variable {K : Frag} {C d x : Addr} {n : Int} {tk : Tok} {prog : Program} {w : World} {A : Around} {E : Value → Shared → Prop} {s : Shared}
theorem ni_init {R : Result → Shared → Prop} {a b : Value} (G : NiF K C) (X : K.In s.heap) (hx : s.heap.get? x = some (niObj C d n tk)) (hi : findIn K (.ref C) "__init__" = some (some (.builtin "object.__init__")))
    (h : R (.ok (.ret .none)) s) : codeAny (model prog w) A (.call (.builtin "object.__init__") ⟨[.ref x, a, b], []⟩) R s := by
  have T : Looks (model prog w) s.heap (typeOf (.ref x)) (.ref C) := ni_type hx
  have sub : Looks (model prog w) s.heap (isInstance (.ref x) (.type "object")) true := T.andThen (G.lsub X (.type "object"))
  have L1 := looks_findIn (M := model prog w) X hi
  have L2 := G.lmade (M := model prog w) X
  refine codeAny_call_builtin (by decide +kernel) F.entry_object_init (@check_slot (model prog w) _ _ s "object.__init__" "object" "__init__" (.ref x) [a, b] [] _ (by decide +kernel) (by decide +kernel) sub (args_oinit _ _ _) ?_)
  obtain ⟨hp, g, dr, t, os⟩ := s
  unfold Builtin.«object.__init__»
  repeat (first | assumption | with_reducible refine Looks.at T ?_ | with_reducible refine Looks.at L1 ?_ | with_reducible refine Looks.at L2 ?_ | wp_step)
end
theorem oinit_bind (self : Value) : bindSpecial (.builtin "object.__init__") self = pure (.builtin "object.__init__", [self]) := F.slot_int_init.bind self
theorem ni_typecall {w : World} {A : Around} {Q : PySem.Fin → Shared → Prop} {E : Value → Shared → Prop} {s : Shared} {v : Value} {n : Int} {nm : Str} {tn : Tok}
  (Xs : (hd.heap_39 w.params).In s.heap)
  (hnew : ∀ R : Result → Shared → Prop, (∀ (x dx : Addr) (t tk' : Tok) (h' : Heap) (tk : Nat), s.heap.StaysIn h' → s.heap.get? x = none → s.heap.get? dx = none → @LE.le Nat _ s.heap.objs.size dx → @LT.lt Nat _ dx x → h'.get? x = some (niObj 40 dx n t) → h'.get? dx = some (nameD w.params tk' nm tn) → R (.ok (.ret (.ref x))) { s with heap := h', toks := tk }) →
    ∀ tk0, codeAny (model PySem.Challenge.rw_dn0146_02.row.prog w) A (.call (.ref 30) ⟨[.ref 40, v, .str nm tn], []⟩) R { s with toks := tk0 })
  (ret : ∀ (x dx : Addr) (t tk' : Tok) (h' : Heap) (tk : Nat), s.heap.StaysIn h' → s.heap.get? x = none → s.heap.get? dx = none → @LE.le Nat _ s.heap.objs.size dx → @LT.lt Nat _ dx x → h'.get? x = some (niObj 40 dx n t) → h'.get? dx = some (nameD w.params tk' nm tn) → Q (.done (.ret (.ref x))) { s with heap := h', toks := tk }) :
  wpAny (model PySem.Challenge.rw_dn0146_02.row.prog w) A (Builtin.«type.__call__» ⟨[.ref 40, v, .str nm tn], []⟩) Q E s := by
  revert Xs; k_fill; intro Xs
  have G := niF02 Xs
  have L1 := G.lmro (M := model PySem.Challenge.rw_dn0146_02.row.prog w) Xs
  have L2 := G.lmade (M := model PySem.Challenge.rw_dn0146_02.row.prog w) Xs
  have sm : ∀ Q' : Value → Shared → Prop, Q' (.ref 30) { s with toks := s.toks + 1 } → wpAny (model PySem.Challenge.rw_dn0146_02.row.prog w) A (getAttr (.ref 40) "__new__") Q' E s := fun Q' hq =>
    cls_bind (mc := .type "type") Xs (by k_is) (g := .builtin "staticmethod.__get__") (a := .ref 41) (obj := .none) (tp := .ref 40) (by k_is) (wpAny_call (sm_get (s := { s with toks := s.toks + 1 }) Xs (by k_is) (handed_on rfl hq)))
  have hfi : findIn (hd.heap_39 w.params) (.ref 40) "__init__" = some (some (.builtin "object.__init__")) := by k_is
  have hsubI : ∀ h' : Heap, s.heap.StaysIn h' → Looks (model PySem.Challenge.rw_dn0146_02.row.prog w) h' (isSubtype (.ref 40) (.ref 40)) ((niMro 40).contains (.ref 40)) := fun h' k => G.lsub (Xs.keeps k) (.ref 40)
  have hcc : (niMro 40).contains (.ref 40) = true := by decide +kernel
  rw [hcc] at hsubI
  obtain ⟨hp, g, dr, t0, os⟩ := s
  unfold Builtin.«type.__call__»
  repeat (first | assumption | with_reducible refine Looks.at L1 ?_ | with_reducible refine Looks.at L2 ?_ | with_reducible refine sm _ ?_ | wp_step)
  refine hnew _ (fun x dx tx tk' h' tk st nx nd le lt gx gd => ?_) _
  have T := ni_type (M := model PySem.Challenge.rw_dn0146_02.row.prog w) gx
  have L5 := hsubI h' st
  have L6 := looks_findIn (M := model PySem.Challenge.rw_dn0146_02.row.prog w) (Xs.keeps st) hfi
  have hb := oinit_bind (.ref x)
  show wpAny _ _ _ _ _ _
  unfold isInstance
  repeat (first | assumption | with_reducible refine Looks.at T ?_ | with_reducible refine Looks.at L5 ?_ | with_reducible refine Looks.at L6 ?_ | wp_step)
  refine ni_init G.toNiF (Xs.keeps st) gx hfi ?_
  refine wpAny_pure ?_
  repeat wp_step
  exact ret x dx tx tk' h' tk st nx nd le lt gx gd
theorem tc_weight {a b : Value} : (Code.builtin "type.__call__" ⟨[.ref 40, a, b], []⟩).weight = 1 := by kernel_rfl
theorem ni_make {w : World} {dp un : Nat} {gd : Option (List Code)} {cn : Str} {cs : Scope} {a : Addr} {ccd : Value} {cl : List (Str × Addr)} {outer : List Env} {h₀ : Heap} {L : Addr} {m : Str → Option Value} {s : Shared} {Q E : Value → Shared → Prop}
  {mean : ExcName → Option Value} {mg mb : Str → Option Value} {v : Value} {n : Int} {nm : Str} {tn : Tok}
  (F : Fr h₀ L s.heap m) (X : (hd.heap_39 w.params).In h₀) (T : Top hd.view_39 (looseW hd.view_39 [Str.ofString "_NamedIntConstant"]) mean mg mb h₀)
  (hdp : dp + 3 < recursionLimit) (hv : (∃ u, v = .int n u) ∨ ∃ x d tk, v = .ref x ∧ s.heap.get? x = some (niObj 40 d n tk))
  (ret : ∀ (x dx : Addr) (t tk' : Tok) (h' : Heap) (tk : Nat), s.heap.StaysIn h' → s.heap.get? x = none → s.heap.get? dx = none → @LE.le Nat _ s.heap.objs.size dx → @LT.lt Nat _ dx x → h'.get? x = some (niObj 40 dx n t) → h'.get? dx = some (nameD w.params tk' nm tn) → Q (.ref x) { s with heap := h', toks := tk }) :
  wpAny (model PySem.Challenge.rw_dn0146_02.row.prog w) (ktrTop dp un gd cn cs L a ccd cl outer) (call (.ref 40) [v, .str nm tn]) Q E s := by
  have Xs := X.keeps F.keep
  have Ts := T.keeps F.keep
  have G := niF02 Xs
  have tyC : Looks (model PySem.Challenge.rw_dn0146_02.row.prog w) s.heap (typeOf (.ref 40)) (.type "type") := by
    obtain ⟨nm', q, N', k0, k1, k2, k3, k5, e⟩ := G.obj
    exact (Looks.ld (part := some headPart) (Xs _ _ e)).andThen .now
  have sub : Looks (model PySem.Challenge.rw_dn0146_02.row.prog w) s.heap (isInstance (.ref 40) (.type "type")) true := tyC.andThen (Looks.of_pure tc_sub)
  refine wpAny_call (codeAny_of_tree ?_)
  show wpAny _ _ (callAny (.ref 40) _) _ _ _
  obtain ⟨nm', q, N', k0, k1, k2, k3, k5, e⟩ := G.obj
  have hC := Xs _ _ e
  have f1 := tc_lookup
  have f2 := tc_bind (.ref 40)
  obtain ⟨hp, g, dr, t0, os⟩ := s
  repeat (any_goals (first | assumption | with_reducible refine Looks.at tyC ?_ | with_reducible refine wpAny_loadPart_at hC ?_ | wp_step))
  refine ⟨rfl, ?_⟩
  refine codeAny_call_builtin_at (Code.quiet_builtin _ (by decide +kernel)) entry_typeCall (check_slot tc_kind tc_split sub (tc_args _ _ _) (ni_typecall (n := n) Xs (fun R hR tk0 => ?_) fun x dx tx tk' h' tk st nx nd le lt gx gd => ?_))
  · refine new_fn (s := ⟨hp, g, dr, tk0, os⟩) Xs Ts ?_ hv fun x dx tx tk' h' tk st nx nd le lt gx gd => hR x dx tx tk' h' tk st nx nd le lt gx gd
    show (dp + (Code.builtin "type.__call__" ⟨[.ref 40, v, .str nm tn], []⟩).weight) + 1 < recursionLimit
    rw [tc_weight]
    omega
  · exact ret x dx tx tk' h' tk st nx nd le lt gx gd
end Mine
namespace Mine
theorem walk_none_Ni7 : True := by
  k_with_none
  trivial
end Mine
open PySem PySem.W PyProof.Rows PySem.Calls
namespace Mine
open Builtin
section
variable {K : Frag} {C d x : Addr} {n k : Int} {tk u t : Tok} {prog : Program} {w : World} {A : Around} {E : Value → Shared → Prop} {s : Shared} {R : Result → Shared → Prop}
/-- the last turn of max: nothing is left -/
theorem max_done {I T S : Addr} {a b vb : Value} {c : Nat} (hh : A.handled = none) (hTI : T ≠ I) (hSI : S ≠ I) (hst : s.heap.IsTupleIter I T 2 ∧ s.heap.IsTuple T #[a, b])
    (hS : s.heap.get? S = some { cls := .type "list", dict := none, data := .seq #[vb, vb] c, slots := #[] })
    (h : ∀ h' tk, (∀ b o, b ≠ I → b ≠ S → s.heap.get? b = some o → h'.get? b = some o) → R (.ok (.ret vb)) { s with heap := h', toks := tk }) :
    codeAny (model prog w) A (.builtin "max.loop" ⟨[.ref I, .none, .ref S], []⟩) R s := by
  have W := Walks.tuple (prog := prog) (w := w) (A := A.in1) hh I T hTI #[a, b]
  refine codeAny_builtin F.entry_max_loop ?_
  rw [Around.under_plainId F.plain_max_loop _]
  show wpAny _ A.in1 (seqItems? (.ref S) >>= _) _ _ s
  refine wpAny_bind (wpAny_seqItems hS rfl ?_)
  show wpAny _ A.in1 (tryCatch (pyNext (.ref I)) _ >>= _) _ _ s
  refine wpAny_bind (wpAny_tryCatch (W.done s _ _ hst fun h' tk hk' => ?_))
  have hk2 : ∀ b o, b ≠ I → s.heap.get? b = some o → h'.get? b = some o := fun b o hb e => hk' b o (fun q => hb (List.mem_singleton.mp q)) e
  have hS' := hk2 S _ hSI hS
  show wpAny _ A.in1 (updateSeq S (fun _ => #[]) >>= _) _ _ _
  refine wpAny_bind ?_
  refine wpAny_updateSeq hS' rfl (wpAny_bind (wpAny_letGo (wpAny_pure ?_)))
  exact h _ tk fun b o hb hbS e => (Heap.get?_update_other _ _ (Ne.symm hbS)).trans (hk2 b o hb e)
/-- the second turn: last against 1 -/
theorem max_second {I T S : Addr} {c : Nat} (hh : A.handled = none) (G : NiG K C) (X : K.In s.heap) (hx : s.heap.get? x = some (niObj C d n tk)) (hxI : x ≠ I) (hu : A.units + 1 < cLine) (hTI : T ≠ I) (hSI : S ≠ I) (hTS : T ≠ S) (hXI : ∀ b o, K.lookup b = some o → b ≠ I)
    (hst : s.heap.IsTupleIter I T 1 ∧ s.heap.IsTuple T #[.int 1 t, .ref x])
    (hS : s.heap.get? S = some { cls := .type "list", dict := none, data := .seq #[.int 1 t, .int 1 t] c, slots := #[] })
    (h : ∀ h' tk, (∀ b o, b ≠ I → b ≠ S → s.heap.get? b = some o → h'.get? b = some o) → R (.ok (.ret (if n > 1 then .ref x else .int 1 t))) { s with heap := h', toks := tk }) :
    codeAny (model prog w) A (.builtin "max.loop" ⟨[.ref I, .none, .ref S], []⟩) R s := by
  have hname : (toString "max" ++ toString ".loop" : String) = "max.loop" := by decide
  have W := Walks.tuple (prog := prog) (w := w) (A := A.in1) hh I T hTI #[.int 1 t, .ref x]
  refine codeAny_builtin F.entry_max_loop ?_
  rw [Around.under_plainId F.plain_max_loop _]
  show wpAny _ A.in1 (seqItems? (.ref S) >>= _) _ _ s
  refine wpAny_bind (wpAny_seqItems hS rfl ?_)
  show wpAny _ A.in1 (tryCatch (pyNext (.ref I)) _ >>= _) _ _ s
  refine wpAny_bind (wpAny_tryCatch (W.item 1 s _ _ (Nat.lt_succ_self 1) hst fun v h' tk hP hst' hk' => ?_))
  have hk2 : ∀ b o, b ≠ I → s.heap.get? b = some o → h'.get? b = some o := fun b o hb e => hk' b o (fun q => hb (List.mem_singleton.mp q)) e
  have hS' := hk2 S _ hSI hS
  obtain rfl : v = .ref x := by simpa using hP.symm
  show wpAny _ A.in1 (tryCatch (holding [.ref x, .ref x] (richCompare .Gt (.ref x) (.int 1 t) >>= _)) _ >>= _) _ _ _
  have X' : K.In h' := fun b o e => hk2 b o (hXI b o e) (X b o e)
  refine wpAny_bind (wpAny_tryCatch (wpAny_holding (wpAny_bind (ni_cmp_gt (s := { s with heap := h', toks := tk }) G X' (hk2 _ _ hxI hx) hu ?_))))
  refine wpAny_bind (wpAny_holding (wpAny_truthy_bool ?_))
  refine wpAny_bind (wpAny_letGo (wpAny_pure ?_))
  by_cases hn : n > 1
  · simp only [hn, decide_true, if_true] at h ⊢
    refine wpAny_bind ?_
    refine wpAny_updateSeq hS' rfl (wpAny_bind (wpAny_letGo ?_))
    rw [hname]
    refine wpAny_pure ⟨plainId_quiet F.plain_max_loop _, ?_⟩
    refine max_done (vb := .ref x) hh hTI hSI ⟨W.frame 2 _ _ hst' (fun b hbf o e => ?_) |>.1, (W.frame 2 _ _ hst' (fun b hbf o e => ?_)).2⟩ (Heap.get?_update_self _ hS' rfl) fun h'' tk'' hk'' => ?_
    · exact (Heap.get?_update_other _ _ (fun q : S = b => by subst q; rcases List.mem_cons.mp hbf with q | q; exact hSI q; exact hTS (List.mem_singleton.mp q).symm)).trans e
    · exact (Heap.get?_update_other _ _ (fun q : S = b => by subst q; rcases List.mem_cons.mp hbf with q | q; exact hSI q; exact hTS (List.mem_singleton.mp q).symm)).trans e
    · exact h _ tk'' fun b o hb hbS e => hk'' b o hb hbS ((Heap.get?_update_other _ _ (Ne.symm hbS)).trans (hk2 b o hb e))
  · simp only [hn, decide_false, if_false, Bool.false_eq_true] at h ⊢
    refine wpAny_bind (wpAny_letGo ?_)
    rw [hname]
    refine wpAny_pure ⟨plainId_quiet F.plain_max_loop _, ?_⟩
    exact max_done (vb := .int 1 t) hh hTI hSI hst' hS' fun h'' tk'' hk'' => h _ tk'' fun b o hb hbS e => hk'' b o hb hbS (hk2 b o hb e)
theorem max_first {I T S : Addr} {c : Nat} (hh : A.handled = none) (G : NiG K C) (X : K.In s.heap) (hx : s.heap.get? x = some (niObj C d n tk)) (hxI : x ≠ I) (hxS : x ≠ S) (hu : A.units + 1 < cLine) (hTI : T ≠ I) (hSI : S ≠ I) (hTS : T ≠ S) (hXI : ∀ b o, K.lookup b = some o → b ≠ I) (hXS : ∀ b o, K.lookup b = some o → b ≠ S)
    (hst : s.heap.IsTupleIter I T 0 ∧ s.heap.IsTuple T #[.int 1 t, .ref x])
    (hS : s.heap.get? S = some { cls := .type "list", dict := none, data := .seq #[] c, slots := #[] })
    (h : ∀ h' tk, (∀ b o, b ≠ I → b ≠ S → s.heap.get? b = some o → h'.get? b = some o) → R (.ok (.ret (if n > 1 then .ref x else .int 1 t))) { s with heap := h', toks := tk }) :
    codeAny (model prog w) A (.builtin "max.loop" ⟨[.ref I, .none, .ref S], []⟩) R s := by
  have hname : (toString "max" ++ toString ".loop" : String) = "max.loop" := by decide
  have W := Walks.tuple (prog := prog) (w := w) (A := A.in1) hh I T hTI #[.int 1 t, .ref x]
  refine codeAny_builtin F.entry_max_loop ?_
  rw [Around.under_plainId F.plain_max_loop _]
  show wpAny _ A.in1 (seqItems? (.ref S) >>= _) _ _ s
  refine wpAny_bind (wpAny_seqItems hS rfl ?_)
  show wpAny _ A.in1 (tryCatch (pyNext (.ref I)) _ >>= _) _ _ s
  refine wpAny_bind (wpAny_tryCatch (W.item 0 s _ _ (Nat.succ_pos 1) hst fun v h' tk hP hst' hk' => ?_))
  have hk2 : ∀ b o, b ≠ I → s.heap.get? b = some o → h'.get? b = some o := fun b o hb e => hk' b o (fun q => hb (List.mem_singleton.mp q)) e
  have hS' := hk2 S _ hSI hS
  obtain rfl : v = .int 1 t := by simpa using hP.symm
  show wpAny _ A.in1 (updateSeq S (fun _ => #[.int 1 t, .int 1 t]) >>= _) _ _ _
  refine wpAny_bind ?_
  refine wpAny_updateSeq hS' rfl ?_
  rw [hname]
  have fr : ∀ b o, b ≠ S → h'.get? b = some o → (h'.update S fun o => Obj.mapSeq (fun _ => #[.int 1 t, .int 1 t]) o).get? b = some o := fun b o hb e => (Heap.get?_update_other _ _ (Ne.symm hb)).trans e
  refine wpAny_pure ⟨plainId_quiet F.plain_max_loop _, ?_⟩
  refine max_second hh G (fun b o e => fr b o (hXS b o e) (hk2 b o (hXI b o e) (X b o e))) (fr _ _ hxS (hk2 _ _ hxI hx)) hxI hu hTI hSI hTS hXI ?_ (Heap.get?_update_self _ hS' rfl) fun h'' tk'' hk'' => ?_
  · exact W.frame 1 _ _ hst' fun b hbf o e => fr b o (fun q => by subst q; rcases List.mem_cons.mp hbf with q | q; exact hSI q; exact hTS (List.mem_singleton.mp q).symm) e
  · exact h _ tk'' fun b o hb hbS e => hk'' b o hb hbS (fr b o hbS (hk2 b o hb e))
theorem ni_max {Q : Value → Shared → Prop} (hh : A.handled = none) (G : NiG K C) (X : K.In s.heap) (hx : s.heap.get? x = some (niObj C d n tk)) (hu : A.units + 2 < cLine)
    (h : ∀ h' tk, s.heap.StaysIn h' → Q (if n > 1 then .ref x else .int 1 t) { s with heap := h', toks := tk }) : wpAny (model prog w) A (call (.builtin "max") [.int 1 t, .ref x]) Q E s := by
  have hname : (toString "max" ++ toString ".loop" : String) = "max.loop" := by decide
  refine call_function_tree F.kind_max F.plain_max F.entry_max (F.args_max2 _ _) ?_
  show wpAny _ A.in1 (Builtin.Builtins.bindParams "max" ["key", "default"] 0 ⟨[], []⟩ >>= _) _ _ s
  refine wpAny_bind (wpAny_of_eq (show Builtin.Builtins.bindParams "max" ["key", "default"] 0 ⟨[], []⟩ = pure [none, none] from rfl) ?_)
  show wpAny _ A.in1 (newTuple [.int 1 t, .ref x] >>= _) _ _ s
  refine wpAny_bind (wpAny_newObj_type ?_)
  have hT : (s.heap.push { cls := .type "tuple", data := .seq #[.int 1 t, .ref x] }).IsTuple s.heap.objs.size #[.int 1 t, .ref x] := ⟨_, Heap.get?_push_size _ rfl, rfl, 0, rfl⟩
  refine wpAny_bind (wpAny_pyIter_tuple hT ?_)
  refine wpAny_bind (wpAny_newObj_type ?_)
  rw [hname]
  have z1 : (s.heap.push { cls := .type "tuple", data := .seq #[.int 1 t, .ref x] }).objs.size = s.heap.objs.size + 1 := Heap.size_push ..
  have z2 : ((s.heap.push { cls := .type "tuple", data := .seq #[.int 1 t, .ref x] }).push { cls := .type "tuple_iterator", data := .fields #[.ref s.heap.objs.size, .int 0 0] }).objs.size = s.heap.objs.size + 1 + 1 := by rw [Heap.size_push, z1]
  have up : ∀ b o, s.heap.get? b = some o → (((s.heap.push { cls := .type "tuple", data := .seq #[.int 1 t, .ref x] }).push { cls := .type "tuple_iterator", data := .fields #[.ref s.heap.objs.size, .int 0 0] }).push { cls := .type "list", data := .seq #[] }).get? b = some o :=
    fun b o e => Heap.get?_push_of_some _ (Heap.get?_push_of_some _ (Heap.get?_push_of_some _ e))
  have lt : ∀ b o, s.heap.get? b = some o → @LT.lt Nat _ b s.heap.objs.size := fun b o e => Heap.lt_size e
  refine wpAny_pure ⟨plainId_quiet F.plain_max_loop _, max_first (T := s.heap.objs.size) hh G (X.keeps up) (up _ _ hx) ?_ ?_ ?_ ?_ ?_ ?_ ?_ ?_ ⟨⟨_, Heap.get?_push_of_some _ (Heap.get?_push_size _ rfl), rfl, rfl⟩, (hT.push _).push _⟩ (Heap.get?_push_size _ rfl) fun h' tk hk => ?_⟩
  · have := lt _ _ hx; show (_ : Nat) ≠ _; rw [z1]; omega
  · have := lt _ _ hx; show (_ : Nat) ≠ _; rw [z2]; omega
  · show A.units + 1 < cLine; omega
  · show (_ : Nat) ≠ _; rw [z1]; omega
  · show (_ : Nat) ≠ _; rw [z1, z2]; omega
  · show (_ : Nat) ≠ _; rw [z2]; omega
  · intro b o e; have := lt _ _ (X _ _ e); show (_ : Nat) ≠ _; rw [z1]; omega
  · intro b o e; have := lt _ _ (X _ _ e); show (_ : Nat) ≠ _; rw [z2]; omega
  · refine h h' tk fun b o e => hk b o ?_ ?_ (up _ _ e)
    · have := lt _ _ e; show (_ : Nat) ≠ _; rw [z1]; omega
    · have := lt _ _ e; show (_ : Nat) ≠ _; rw [z2]; omega
end
end Mine
namespace Mine
theorem walk_none_Ni8 : True := by
  k_with_none
  trivial
end Mine
open PySem PySem.W PyProof.Rows PySem.Calls
namespace Mine
section
variable {prog : Program} {w : World} {A : Around} {E : Value → Shared → Prop} {s : Shared} {env : Env} {h₀ : Heap} {x : Str} {body : List Stmt} {Q : Flow → Shared → Prop}

/-- a turn's end: the invariant stands again, the iterator and the list lie as they lay -/
def TurnEnd4 (h₀ : Heap) (L : Addr) (J : (Str → Option Value) → List (Addr × Obj) → Prop) (I : Addr) (oI : Obj) (l : Addr) (lo : Obj) (s₁ : Shared) (Q : Flow → Shared → Prop) (f : Flow) (s₂ : Shared) : Prop :=
  match f with
  | .ret v => Q (.ret v) s₂
  | .brk => Q .next s₂
  | _ => ∃ h' tk m' news', s₂ = { s₁ with heap := h', toks := tk } ∧ Fr h₀ L h' m' ∧ News h₀ L h' ((I, oI) :: (l, lo) :: news') ∧ (∀ p ∈ news', p.1 ≠ I) ∧ J m' news'

theorem list_loop {l : Addr} {vs : List Value} {k : Nat} {m₀ : Str → Option Value} {news : List (Addr × Obj)} (J : Nat → (Str → Option Value) → List (Addr × Obj) → Prop)
    (hh : A.handled = none) (F : Fr h₀ env.locals s.heap m₀) (N : News h₀ env.locals s.heap ((l, { cls := .type "list", data := .seq vs.toArray k }) :: news)) (hj : J 0 m₀ news)
    (turn : ∀ i v m₁ news₁ h tk I oI lo, vs[i]? = some v → J i m₁ news₁ → (∀ p ∈ news₁, p.1 ≠ I) → lo.cls = .type "list" → Fr h₀ env.locals h (fun y => if y = x then some v else m₁ y) → News h₀ env.locals h ((I, oI) :: (l, lo) :: news₁) →
      wpAny (model prog w) A (execs body env) (TurnEnd4 h₀ env.locals (J (i + 1)) I oI l lo { s with heap := h, toks := tk } Q) E { s with heap := h, toks := tk })
    (done : ∀ m₁ news₁ h tk, J vs.length m₁ news₁ → Fr h₀ env.locals h m₁ → News h₀ env.locals h news₁ → Q .next { s with heap := h, toks := tk }) :
    wpAny (model prog w) A (pyIter (.ref l)) (fun it s₂ => LoopAtV prog w A h₀ env x body Q E it s₂) E s := by
  have hol := N _ (.head _)
  have hls : s.heap.IsList l vs.toArray := ⟨_, hol.1, rfl, _, rfl⟩
  have hlt : l < s.heap.objs.size := Heap.lt_size hol.1
  have hne : l ≠ s.heap.objs.size := Nat.ne_of_lt hlt
  refine wpAny_pyIter_list hls ?_
  have W := Walks.list (prog := prog) (w := w) hh s.heap.objs.size l hne vs.toArray
  have hlen : vs.toArray.size = vs.length := by simp
  rw [hlen] at W
  refine ⟨_, _, _, vs.length, _, _, m₀, news, J, rfl, W, ?_, ?_, ?_, ⟨⟨_, Heap.get?_push_size _ rfl, rfl, rfl⟩, hls.at fun o e => Heap.get?_push_of_some _ e⟩, F.push _, (fun p hp => ⟨Heap.get?_push_of_some _ (N p (.tail _ hp)).1, (N p (.tail _ hp)).2⟩), hj, ?_, ?_⟩
  · intro hm
    rcases List.mem_cons.mp hm with e | hm
    · exact absurd F.ns.lt (e ▸ Nat.lt_irrefl _)
    · exact hol.2.1 (List.mem_singleton.mp hm).symm
  · intro b hb
    rw [List.mem_singleton.mp hb]
    exact next_is_new F
  · intro p hp hI
    exact absurd (Heap.lt_size (N p (.tail _ hp)).1) ((List.mem_singleton.mp hI) ▸ Nat.lt_irrefl _)
  · rintro i v m₁ news₁ s₁ own ⟨hh', tk', rfl⟩ hin hP hJ hoff hown howg hall st F₁ N₁
    have hP' : vs[i]? = some v := by simpa using hP
    obtain ⟨⟨oI, hI, _⟩, ol, hl', hlc, n', hld⟩ := st
    have mI : (s.heap.objs.size, oI) ∈ own := hall _ (by simp) (next_is_new F) _ hI
    have mL : (l, ol) ∈ own := hall _ (by simp) hol.2.2 _ hl'
    have offI : ∀ p ∈ news₁, p.1 ≠ s.heap.objs.size := fun p hp q => hoff p hp (by simp [q])
    have hin' : ∀ p ∈ own, p = (s.heap.objs.size, oI) ∨ p = (l, ol) := fun p hp => by
      have e := howg p hp
      rcases List.mem_cons.mp (hown p hp) with h1 | h1
      · left; rw [h1, hI] at e; cases e; exact Prod.ext h1 rfl
      · right; have h2 := List.mem_singleton.mp h1; rw [h2, hl'] at e; cases e; exact Prod.ext h2 rfl
    have N₂ : News h₀ env.locals hh' ((s.heap.objs.size, oI) :: (l, ol) :: news₁) := fun p hp => by
      rcases List.mem_cons.mp hp with rfl | hp
      · exact N₁ _ (List.mem_append_left _ mI)
      rcases List.mem_cons.mp hp with rfl | hp
      · exact N₁ _ (List.mem_append_left _ mL)
      · exact N₁ _ (List.mem_append_right _ hp)
    refine wpAny_mono (turn i v m₁ news₁ hh' tk' _ oI ol hP' hJ offI hlc F₁ N₂) (fun f s₂ p => ?_) fun _ _ e => e
    have fin : (∃ h' tk m' news', s₂ = { ({ s with heap := hh', toks := tk' } : Shared) with heap := h', toks := tk } ∧ Fr h₀ env.locals h' m' ∧ News h₀ env.locals h' ((s.heap.objs.size, oI) :: (l, ol) :: news') ∧ (∀ p ∈ news', p.1 ≠ s.heap.objs.size) ∧ J (i + 1) m' news') →
        LoopStepU h₀ env.locals [s.heap.objs.size] own (J (i + 1)) { s with heap := hh', toks := tk' } .next s₂ := by
      rintro ⟨h', tk, m', news', e, F', N', hn, hm⟩
      refine ⟨rfl, h', tk, m', news', e, F', fun p hp => ?_, fun p hp hq => hn p hp (List.mem_singleton.mp hq), hm⟩
      rcases List.mem_append.mp hp with hp | hp
      · rcases hin' p hp with rfl | rfl
        · exact N' _ (.head _)
        · exact N' _ (.tail _ (.head _))
      · exact N' _ (.tail _ (.tail _ hp))
    cases f with
    | ret v => exact .ret p
    | brk => exact .brk p
    | next => exact .next (fin p)
    | cont => exact .cont (fin p)
  · rintro h' tk m' news' F' N' _ hJ
    exact done m' news' h' tk hJ F' N'
end
end Mine
namespace Mine
theorem walk_none_Lp1 : True := by
  k_with_none
  trivial
end Mine
open PySem PySem.W PyProof.Rows PySem.Calls
namespace Mine
/-- a stop for the walk -/
def Halt (P : Prop) : Prop := P
/-- LoopAtV under a name of its own, so that the walk stops at it -/
def LoopHere (prog : Program) (w : World) (A : Around) (h₀ : Heap) (env : Env) (x : Str) (body : List Stmt) (Q : Flow → Shared → Prop) (E : Value → Shared → Prop) (it : Value) (s₂ : Shared) : Prop := LoopAtV prog w A h₀ env x body Q E it s₂
section
variable {prog : Program} {w : World} {A : Around} {E : Value → Shared → Prop} {s : Shared} {env : Env} {h₀ : Heap} {x : Str} {body : List Stmt} {Q : Flow → Shared → Prop}
theorem For_here {m : Str → Option Value} {px pos : Pos} {iter : Expr} (_F : Fr h₀ env.locals s.heap m) (hx : env.kindOf x = some .local)
    (hp : (env.scope.kind == .class || (env.scope.kind == .module && env.locals != env.globals)) = false)
    (h : wpAny (model prog w) A (eval iter env) (fun xv s₁ => wpAny (model prog w) A (pyIter xv) (fun it s₂ => LoopHere prog w A h₀ env x body Q E it s₂) E s₁) E s)
    (hs : ∀ x, foldedSetIterable iter env x = pure x := by intro _; rfl)
    (hE : PassesOwn (model prog w) A env E := by passes_own) :
    wpAny (model prog w) A (exec (.For (.Name x px) iter body [] pos) env) Q E s := For_invV h₀ hx hp h hs hE
theorem loop_here {l : Addr} {vs : List Value} {k : Nat} {m₀ : Str → Option Value} {all news : List (Addr × Obj)} (J : Nat → (Str → Option Value) → List (Addr × Obj) → Prop)
    (hh : A.handled = none) (F : Fr h₀ env.locals s.heap m₀) (N : News h₀ env.locals s.heap all) (hl : (l, ({ cls := .type "list", data := .seq vs.toArray k } : Obj)) ∈ all) (hsub : ∀ p ∈ news, p ∈ all) (hj : J 0 m₀ news)
    (turn : ∀ i v m₁ news₁ h tk I oI lo, vs[i]? = some v → J i m₁ news₁ → (∀ p ∈ news₁, p.1 ≠ I) → lo.cls = .type "list" → Fr h₀ env.locals h (fun y => if y = x then some v else m₁ y) → News h₀ env.locals h ((I, oI) :: (l, lo) :: news₁) →
      wpAny (model prog w) A (execs body env) (TurnEnd4 h₀ env.locals (J (i + 1)) I oI l lo { s with heap := h, toks := tk } Q) E { s with heap := h, toks := tk })
    (done : ∀ m₁ news₁ h tk, J vs.length m₁ news₁ → Fr h₀ env.locals h m₁ → News h₀ env.locals h news₁ → Q .next { s with heap := h, toks := tk }) :
    wpAny (model prog w) A (pyIter (.ref l)) (fun it s₂ => LoopHere prog w A h₀ env x body Q E it s₂) E s :=
  list_loop J hh F (fun p hp => by
    rcases List.mem_cons.mp hp with rfl | hp
    · exact N _ hl
    · exact N _ (hsub _ hp)) hj turn done
end
def CutPost (Mid : Shared → Prop) (Q : Flow → Shared → Prop) (f : Flow) (s : Shared) : Prop := match f with | .next => Mid s | f => Q f s
section
variable {prog : Program} {w : World} {A : Around} {E : Value → Shared → Prop} {env : Env} {Q : Flow → Shared → Prop} {Mid : Shared → Prop}
theorem execs_cutG (M : Model) (Γ : _) (hΓ : Γ.In A) {post : List Stmt} (h2 : ∀ s', Mid s' → wpAny M A (execs post env) Q E s') : ∀ (pre : List Stmt) (p) (s : Shared), Sem.wp M Γ (execs pre env) (fun f _ s' => CutPost Mid Q f s') (fun e _ s' => E e s') p s → Sem.wp M Γ (execs (pre ++ post) env) (fun f _ s' => Q f s') (fun e _ s' => E e s') p s
  | [], p, s, h => h2 _ h Γ p hΓ
  | a :: r, p, s, h => by
    rw [List.cons_append, execs_cons, Sem.wp_bind']
    rw [execs_cons, Sem.wp_bind'] at h
    refine Sem.wp_mono _ Γ _ (fun f p' s' h' => ?_) (fun _ _ _ h' => h') _ _ h
    cases f with
    | next => exact execs_cutG M Γ hΓ h2 r p' s' h'
    | _ => exact h'
theorem execs_cut {M : Model} {pre post : List Stmt} {s : Shared} (Mid : Shared → Prop) (h1 : wpAny M A (execs pre env) (CutPost Mid Q) E s) (h2 : ∀ s', Mid s' → wpAny M A (execs post env) Q E s') : wpAny M A (execs (pre ++ post) env) Q E s :=
  fun Γ p hΓ => execs_cutG M Γ hΓ h2 pre p s (h1 Γ p hΓ)
theorem execs_at {M : Model} {body : List Stmt} {s : Shared} (k : Nat) (Mid : Shared → Prop) (h1 : wpAny M A (execs (body.take k) env) (CutPost Mid Q) E s) (h2 : ∀ s', Mid s' → wpAny M A (execs (body.drop k) env) Q E s') : wpAny M A (execs body env) Q E s := by
  have := execs_cut Mid h1 h2
  rwa [List.take_append_drop] at this
/-- what stands at a cut: frame, ledger, and a word of yours on both -/
def MidG (h₀ : Heap) (L : Addr) (s₁ : Shared) (P : (Str → Option Value) → List (Addr × Obj) → Prop) (s₂ : Shared) : Prop :=
  ∃ h' tk m' nw', s₂ = { s₁ with heap := h', toks := tk } ∧ Fr h₀ L h' m' ∧ News h₀ L h' nw' ∧ P m' nw'
theorem cutP {M : Model} {body : List Stmt} {s : Shared} {h₀ : Heap} {L : Addr} {h : Heap} {m : Str → Option Value} {nw : List (Addr × Obj)} (_F : Fr h₀ L h m) (_N : News h₀ L h nw) (k : Nat) (P : (Str → Option Value) → List (Addr × Obj) → (Str → Option Value) → List (Addr × Obj) → Prop)
    (h1 : wpAny M A (execs (body.take k) env) (CutPost (MidG h₀ L s (P m nw)) Q) E s)
    (h2 : ∀ h' tk m' nw', Fr h₀ L h' m' → News h₀ L h' nw' → P m nw m' nw' → wpAny M A (execs (body.drop k) env) Q E { s with heap := h', toks := tk }) : wpAny M A (execs body env) Q E s :=
  execs_at k _ h1 fun _ ⟨h', tk, m', nw', e, F', N', p⟩ => e ▸ h2 h' tk m' nw' F' N' p
theorem mapc {m m0 : Str → Option Value} {k : Str} {v : Value} (h : m k = some v) (r : m = m0) : m = fun y => if y = k then some v else m0 y := by
  subst r
  funext y
  by_cases q : y = k
  · rw [if_pos q, q, h]
  · rw [if_neg q]
end
theorem allObj_mono : ∀ {ws : List (Addr × String)} {k k' : List (Addr × Obj) → Prop}, AllObj ws k → (∀ its, k its → k' its) → AllObj ws k'
  | [], _, _, h, f => f _ h
  | _ :: _, _, _, h, f => fun o ho => allObj_mono (h o ho) fun its => f _
theorem subL_of {all : List (Addr × Obj)} : ∀ {l : List (Addr × Obj)}, (∀ p ∈ l, p ∈ all) → SubL l all
  | [], _ => trivial
  | p :: r, h => ⟨h p (.head _), subL_of fun q hq => h q (.tail _ hq)⟩
section
variable {prog : Program} {w : World} {A : Around} {E : Value → Shared → Prop} {s : Shared} {env : Env} {h₀ : Heap} {target : Expr} {body : List Stmt} {Q : Flow → Shared → Prop}
/-- the outer loop over two values: between the turns only `script` is known, and what is kept -/
def Between (sv : Value) (keep : List (Addr × Obj)) (m' : Str → Option Value) (n' : List (Addr × Obj)) : Prop := n' = keep ∧ m' (Str.ofString "script") = some sv
end
section
variable {h₀ : Heap} {L : Addr} {s₁ : Shared} {h' : Heap} {tk : Nat} {m' : Str → Option Value} {all : List (Addr × Obj)}
end
end Mine
namespace Mine
theorem walk_none_Gen1 : True := by
  k_with_none
  trivial
end Mine
open PySem PySem.W PyProof.Rows PySem.Calls
namespace Mine
section
variable {prog : Program} {w : World} {A : Around} {E : Value → Shared → Prop} {s : Shared} {env : Env} {h₀ : Heap} {x : Str} {body : List Stmt} {Q : Flow → Shared → Prop}
/-- the last item -/
theorem last_item {value slice : Expr} {l : Addr} {vs : List Value} {u : Tok} {v : Value} {Q : Value → Shared → Prop} (hl : s.heap.IsList l (vs ++ [v]).toArray) (h : Q v s)
    (hs : subscripted slice false (.ref l) (.int (-1) u) = operate [.ref l, .int (-1) u] (getItem (.ref l) (.int (-1) u)) := by with_unfolding_all rfl) :
    wpAny (model prog w) A (subscriptTail value slice (.ref l) (.int (-1) u)) Q E s := by
  refine kde_neg (j := vs.length) hl (by decide) (by decide) ?_ (by simp) h hs
  have e : ((vs ++ [v]).length : Int) = (vs.length : Int) + 1 := by simp
  have hi : (if (-1 : Int) < 0 then -1 + ((vs ++ [v]).length : Int) else -1) = (vs.length : Int) := by rw [if_pos (by decide), e]; omega
  unfold seqIndex?
  simp only [hi]
  rw [if_pos (by simp; omega)]
  simp
/-- any item -/
theorem at_item {value slice : Expr} {l : Addr} {vs : List Value} {k : Int} {u : Tok} {v : Value} {Q : Value → Shared → Prop} (hl : s.heap.IsList l vs.toArray) (h0 : 0 ≤ k) (hhi : k < 2 ^ 63) (hx : vs[k.toNat]? = some v) (h : Q v s)
    (hs : subscripted slice false (.ref l) (.int k u) = operate [.ref l, .int k u] (getItem (.ref l) (.int k u)) := by with_unfolding_all rfl) :
    wpAny (model prog w) A (subscriptTail value slice (.ref l) (.int k u)) Q E s :=
  tail_any hl.typeIs slot_list_getitem.lookup (wpAny_getItem_list hl h0 hhi (by simpa using hx) h) hs
end
section
variable {prog : Program} {w : World} {A : Around} {E : Value → Shared → Prop} {s : Shared} {h₀ : Heap} {L : Addr} {m : Str → Option Value}
end
section
variable {prog : Program} {w : World} {A : Around} {E : Value → Shared → Prop} {s : Shared} {env : Env} {h₀ : Heap} {x : Str} {body : List Stmt} {Q : Flow → Shared → Prop}
end
theorem szL {vs : List Value} (h : vs.length ≤ 100000) : vs.toArray.size ≤ sizeLine := by
  rw [List.size_toArray]; exact Nat.le_trans h (by decide)
theorem starEach_sub {a b : Expr} {p : Pos} {rest : List Expr} {env : Env} : starEach (.Subscript a b p :: rest) env = (false, eval (.Subscript a b p) env) :: starEach rest env := by simp only [starEach]
theorem starEach_tup {a : List Expr} {k : Nat} {p : Pos} {rest : List Expr} {env : Env} : starEach (.Tuple a k p :: rest) env = (false, eval (.Tuple a k p) env) :: starEach rest env := by simp only [starEach]
section
variable {M : Model} {A : Around} {E : Value → Shared → Prop} {s : Shared} {pos : Pos} {id : String} {first : List Value} {env : Env} {Q : Value → Shared → Prop}
theorem cw_sub {a b : Expr} {p : Pos} 
    (h : wpAny M A (spliced (backTo pos (starEach [.Subscript a b p] env))) (fun vs s₁ => wpAny M A (call (.builtin id) (first ++ vs)) Q E s₁) E s) :
    wpAny M A (callWith pos (.builtin id) first (backTo pos (starEach [.Subscript a b p] env)) []) Q E s :=
  callWith_method1 h starEach_sub (by rfl)
theorem cw_tup {a : List Expr} {k : Nat} {p : Pos}
    (h : wpAny M A (spliced (backTo pos (starEach [.Tuple a k p] env))) (fun vs s₁ => wpAny M A (call (.builtin id) (first ++ vs)) Q E s₁) E s) :
    wpAny M A (callWith pos (.builtin id) first (backTo pos (starEach [.Tuple a k p] env)) []) Q E s :=
  callWith_method1 h starEach_tup (by rfl)
end
end Mine
namespace Mine
theorem walk_none_Gen2 : True := by
  k_with_none
  trivial
end Mine
open PySem PySem.W PyProof.Rows PySem.Calls
namespace Mine
section
variable {prog : Program} {w : World} {A : Around} {E : Value → Shared → Prop} {s : Shared} {h₀ : Heap} {L D b l : Addr} {m : Str → Option Value} {rest : List (Addr × Obj)} {xs ys : List Value} {n n2 : Nat}
theorem not_long {a b : Nat} {e : Bool} (h : a + b ≤ 100000) : ¬(!e && Builtin.List.listTooLong (a + b)) = true := by
  have : Builtin.List.listTooLong (a + b) = false := by
    unfold Builtin.List.listTooLong
    have hs : (100000 : Nat) ≤ sizeLine := by decide
    simp only [decide_eq_false_iff_not]
    omega
  rw [this]; simp
theorem ext_head {Q : Value → Shared → Prop} (F : Fr h₀ L s.heap m) (N : News h₀ L s.heap ((D, W.listOf xs.toArray n) :: rest)) (hb : (b, W.listOf ys.toArray n2) ∈ rest) (off : ∀ p ∈ rest, p.1 ≠ D) (hz : xs.length + ys.length ≤ 100000)
    (h : ∀ n' h', Fr h₀ L h' m → News h₀ L h' ((D, W.listOf (xs ++ ys).toArray n') :: rest) → Q .none { s with heap := h' }) : wpAny (model prog w) A (call (.builtin "list.extend") [.ref D, .ref b]) Q E s := by
  have hs : (100000 : Nat) ≤ sizeLine := by decide
  by_cases q : ys = []
  · subst q
    refine kxn_extend F N (.tail _ hb) (by simp) (Upd.head off) (not_long (by simpa using hz)) (by simp; omega) (by simp; omega) fun h' F' N' => ?_
    rw [show xs = xs ++ [] by simp] at N'
    exact h n h' F' N'
  · refine kl_extend (l := xs ++ ys) F N (.tail _ hb) (by simp) (by simpa using q) (Upd.head off) (not_long (by simpa using hz)) (by simp; omega) (by simp; omega) fun h' F' N' => h (n + 1) h' F' N'
end
section
variable {prog : Program} {w : World} {A : Around} {E : Value → Shared → Prop} {s : Shared} {env : Env} {h₀ : Heap} {x : Str} {body : List Stmt} {Q : Flow → Shared → Prop}
end
section
variable {prog : Program} {w : World} {A : Around} {E : Value → Shared → Prop} {s : Shared}
end
section
variable {prog : Program} {w : World} {A : Around} {E : Value → Shared → Prop} {s : Shared} {env : Env} {h₀ : Heap} {target : Expr} {body : List Stmt} {Q : Flow → Shared → Prop}
/-- a turn's end where the ledger stays as it was -/
def TurnEnd5 (h₀ : Heap) (L : Addr) (P : (Str → Option Value) → Prop) (c : Addr × Obj) (nw : List (Addr × Obj)) (s₁ : Shared) (Q : Flow → Shared → Prop) (f : Flow) (s₂ : Shared) : Prop :=
  match f with
  | .ret v => Q (.ret v) s₂
  | .brk => Q .next s₂
  | _ => ∃ h' tk m', s₂ = { s₁ with heap := h', toks := tk } ∧ Fr h₀ L h' m' ∧ News h₀ L h' (c :: nw) ∧ P m'
theorem items_all {P : (Str → Option Value) → Prop} {nw keep : List (Addr × Obj)} {I : Addr} {cn : String} (hk : ∀ p ∈ keep, p ∈ nw) (hI : ∀ p ∈ nw, p.1 ≠ I) : ∀ (vs : List Value),
    (∀ v ∈ vs, ∀ m h tk oI, P m → Fr h₀ env.locals h m → News h₀ env.locals h ((I, oI) :: nw) → wpAny (model prog w) A (assign target env v) (fun _ s₂ => wpAny (model prog w) A (execs body env) (TurnEnd5 h₀ env.locals P (I, oI) nw { s with heap := h, toks := tk } Q) E s₂) E { s with heap := h, toks := tk }) →
    (∀ m h tk, P m → Fr h₀ env.locals h m → News h₀ env.locals h nw → Q .next { s with heap := h, toks := tk }) → ∀ m, P m → ItemsRest prog w A E h₀ env target body Q s [(I, cn)] keep (vs.map .val) m nw
  | [], _, done, m, hp => ItemsRest.zero fun h tk F N => done m h tk hp F N
  | v :: r, turn, done, m, hp => by
    have ih := items_all (P := P) (nw := nw) (keep := keep) (I := I) (cn := cn) hk hI r (fun u hu => turn u (.tail _ hu)) done
    refine ItemsRest.val fun h tk F oI _ N => ?_
    refine wpAny_mono (turn v (.head _) m h tk oI hp F N) (fun _ s₂ q => wpAny_mono q (fun f s₃ p => ?_) fun _ _ e => e) fun _ _ e => e
    have fin : (∃ h' tk' m', s₃ = { ({ s with heap := h, toks := tk } : Shared) with heap := h', toks := tk' } ∧ Fr h₀ env.locals h' m' ∧ News h₀ env.locals h' ((I, oI) :: nw) ∧ P m') →
        UnrEndW h₀ env.locals { s with heap := h, toks := tk } [(I, oI)] (fun m' n' => SubL keep n' ∧ ItemsRest prog w A E h₀ env target body Q s [(I, cn)] keep (r.map .val) m' n') s₃ := by
      rintro ⟨h', tk', m', e, F', N', hp'⟩
      refine ⟨h', tk', m', nw, e, F', N', fun p hp q hq => ?_, subL_of hk, ih m' hp'⟩
      rw [List.mem_singleton.mp hq]
      exact hI p hp
    cases f with
    | ret v => exact p
    | brk => exact p
    | next => exact fin p
    | cont => exact fin p
end
end Mine
namespace Mine
theorem walk_none_Gen3 : True := by
  k_with_none
  trivial
end Mine
open PySem PySem.W PyProof.Rows PySem.Calls
namespace Mine
theorem pick_take {vs : List Value} {y : Int} (h : 0 ≤ y) : (slicePick vs.toArray none (some y) none).toList = vs.take y.toNat := by
  have e : sliceBounds none (some y) none vs.toArray.size = (((0 : Nat) : Int), ((min y.toNat vs.toArray.size : Nat) : Int), 1) := by
    simp only [sliceBounds, Option.getD_none, show (1 : Int) > 0 by decide, if_true, if_neg (show ¬ (y < 0) by omega)]
    congr 1
    congr 1
    omega
  rw [kmk_pick_nat _ e]
  show (vs.drop 0).take (min y.toNat vs.toArray.size - 0) = _
  rw [List.drop_zero, Nat.sub_zero, List.size_toArray, kmk_take_min]
section
variable {K : Frag} {C d x : Addr} {n k : Int} {tk u t : Tok} {prog : Program} {w : World} {A : Around} {E : Value → Shared → Prop} {s : Shared}
theorem ni_part {M : Model} {Q : Value → Shared → Prop} (G : NiG K C) (X : K.In s.heap) (hx : s.heap.get? x = some (niObj C d n tk)) (h : Q (rawPart (some n)) s) : wpAny M A (listPart (.ref x)) Q E s := by
  have L1 := ni_type (M := M) hx
  have L2 := looks_findIn (M := M) X G.index_
  have L3 := ni_asInt (M := M) hx
  unfold listPart specialOf
  refine wpAny_bind (wpAny_bind (L1.here (L2.here ?_)))
  unfold asIndex
  exact wpAny_bind (wpAny_bind (L3.here (wpAny_pure (wpAny_pure h))))
theorem ni_slice_get {l sl : Addr} {items : Array Value} {Q : Value → Shared → Prop} (G : NiG K C) (X : K.In s.heap) (hx : s.heap.get? x = some (niObj C d n tk)) (hl : s.heap.IsList l items) (hs : s.heap.IsSliceOf sl .none (.ref x) .none)
    (h : Q (.ref s.heap.objs.size) { s with heap := s.heap.push { cls := .type "list", data := .seq (slicePick items none (some n) none) } }) (hsz : items.size ≤ sizeLine) : wpAny (model prog w) A (getItem (.ref l) (.ref sl)) Q E s := by
  obtain ⟨o, ho, hc, ne, hd⟩ := id hl
  obtain ⟨os, hos, hcs, hds⟩ := id hs
  have hTs : s.TypeIs (.ref sl) "slice" := ⟨os, hos, hcs⟩
  unfold getItem
  try with_reducible refine wpAny_holding ?_
  first | refine wpAny_bind (wpAny_pure ?_) | skip
  refine wpAny_bind (wpAny_sequenceKey hl.typeIs (by decide) ?_)
  refine wpAny_bind (wpAny_callSpecial?_slot (name := Str.ofString "__getitem__") hl.typeIs slot_list_getitem
    (wpAny_call_entry slot_list_getitem hl.typeIs entry_list_getitem ?_ (args_list_getitem _ _)))
  show wpAny _ _ (Builtin.List.listSubscript? (.ref sl) >>= _) _ _ s
  refine wpAny_bind ?_
  unfold Builtin.List.listSubscript?
  refine wpAny_bind (wpAny_specialOf hTs slice_no_index ?_)
  simp only [Option.isNone_none, if_true]
  refine wpAny_pure ?_
  show wpAny _ _ (typeOf (.ref sl) >>= _) _ _ s
  refine wpAny_bind (wpAny_typeOf hTs ?_)
  rw [if_neg (by decide)]
  rw [listSliceParts_eq]
  have hstep : ¬ ((rawPart none == rawInt 0) = true) := Bool.false_ne_true
  refine wpAny_bind (wpAny_bind (wpAny_field hos hds (x := .none) rfl (wpAny_bind (wpAny_listPart .none ?_))))
  rw [if_neg hstep]
  refine wpAny_bind (wpAny_field hos hds (x := .none) rfl (wpAny_bind (wpAny_listPart .none ?_)))
  refine wpAny_bind (wpAny_field hos hds (x := .ref x) rfl (wpAny_bind (ni_part G X hx (wpAny_pure ?_))))
  refine wpAny_bind (m := Builtin.List.listItems (.ref l)) ?_
  unfold Builtin.List.listItems
  refine wpAny_bind (wpAny_seqItems ho hd (wpAny_pure ?_))
  refine wpAny_bind (wpAny_of_eq (sliceIndices_raw none (some n) none items.size (by simp)) ?_)
  refine wpAny_bind (wpAny_newObj_type (wpAny_pure ⟨_, rfl, wpAny_pure h⟩) (Nat.le_trans (slicePick_size_le items none (some n) none) hsz))
end
section
variable {prog : Program} {w : World} {A : Around} {E : Value → Shared → Prop} {s : Shared} {K : Frag} {h₀ : Heap} {L C l x dx : Addr} {n : Int} {tk t u : Tok} {m : Str → Option Value} {news : List (Addr × Obj)} {value slice : PySem.Expr} {vs : List Value} {Q : Value → Shared → Prop}
/-- xs[:last] -/
theorem kni_slice (F : Fr h₀ L s.heap m) (X₀ : K.In h₀) (N : News h₀ L s.heap news) (G : NiG K C) (hl : s.heap.IsList l vs.toArray) (hx : (x, niObj C dx n tk) ∈ news) (hn : 0 ≤ n)
    (h : ∀ D h', Fr h₀ L h' m → News h₀ L h' ((D, listOf (vs.take n.toNat).toArray 0) :: news) → (∀ p ∈ news, p.1 < D) → Q (.ref D) { s with heap := h' })
    (hs : subscripted slice false (.ref l) (.ref s.heap.objs.size) = operate [.ref s.heap.objs.size, .ref l] (getItem (.ref l) (.ref s.heap.objs.size))) (ht : ∀ r, letTemporaryGo value (.ref l) r = pure ()) (hz : vs.toArray.size ≤ sizeLine) :
    wpAny (model prog w) A (subscriptTail value slice (.ref l) (.ref s.heap.objs.size)) Q E { s with heap := s.heap.push { cls := .type "slice", data := .fields #[.none, .ref x, .none] } } := by
  have up : s.heap.StaysIn (s.heap.push { cls := .type "slice", data := .fields #[.none, .ref x, .none] }) := fun b o e => Heap.get?_push_of_some _ e
  refine subscriptTail_ops (Heap.IsList.typeIs (s := { s with heap := s.heap.push { cls := .type "slice", data := .fields #[.none, .ref x, .none] } }) (hl.push _)) list_getitem_lookup
    (ni_slice_get G ((X₀.keeps F.keep).keeps up) (up _ _ (N _ hx).1) (hl.push _) (Heap.IsSliceOf.new ..) ?_ hz) hs ht
  have N1 := News.push (F.push { cls := .type "slice", data := .fields #[.none, .ref x, .none] }) (N.grown fun _ _ e => Heap.get?_push_of_some _ e) { cls := .type "list", data := .seq (slicePick vs.toArray none (some n) none) }
  rw [Heap.size_push] at N1
  show Q (.ref (s.heap.push _).objs.size) _
  rw [Heap.size_push]
  refine h _ _ ((F.push _).push _) ?_ fun p hp => Nat.lt_succ_of_lt (Heap.lt_size (N p hp).1)
  have e : slicePick vs.toArray none (some n) none = (vs.take n.toNat).toArray := by rw [← pick_take hn, Array.toArray_toList]
  rw [e] at N1 ⊢
  exact N1
/-- max(1, last), by what last is -/
theorem kni_max1 (hh : A.handled = none) (F : Fr h₀ L s.heap m) (X₀ : K.In h₀) (N : News h₀ L s.heap news) (G : NiG K C) (hx : (x, niObj C dx n tk) ∈ news) (hu : A.units + 2 < cLine) (hn : n > 1)
    (h : ∀ h' tk', Fr h₀ L h' m → News h₀ L h' news → Q (.ref x) { s with heap := h', toks := tk' }) : wpAny (model prog w) A (call (.builtin "max") [.int 1 t, .ref x]) Q E s :=
  ni_max hh G (X₀.keeps F.keep) (N _ hx).1 hu fun h' tk' st => by rw [if_pos hn]; exact h h' tk' (F.grownK st) (N.grown st)
theorem kni_max0 (hh : A.handled = none) (F : Fr h₀ L s.heap m) (X₀ : K.In h₀) (N : News h₀ L s.heap news) (G : NiG K C) (hx : (x, niObj C dx n tk) ∈ news) (hu : A.units + 2 < cLine) (hn : ¬ n > 1)
    (h : ∀ h' tk', Fr h₀ L h' m → News h₀ L h' news → Q (.int 1 t) { s with heap := h', toks := tk' }) : wpAny (model prog w) A (call (.builtin "max") [.int 1 t, .ref x]) Q E s :=
  ni_max hh G (X₀.keeps F.keep) (N _ hx).1 hu fun h' tk' st => by rw [if_neg hn]; exact h h' tk' (F.grownK st) (N.grown st)
theorem kmax1 (hh : A.handled = none) (F : Fr h₀ L s.heap m) (N : News h₀ L s.heap news) (hn : n > 1)
    (h : ∀ h' tk', Fr h₀ L h' m → News h₀ L h' news → Q (.int n u) { s with heap := h', toks := tk' }) : wpAny (model prog w) A (call (.builtin "max") [.int 1 t, .int n u]) Q E s :=
  max_two_N hh F N fun h' tk' F' N' => by rw [if_pos hn, if_pos hn]; exact h h' tk' F' N'
theorem kmax0 (hh : A.handled = none) (F : Fr h₀ L s.heap m) (N : News h₀ L s.heap news) (hn : ¬ n > 1)
    (h : ∀ h' tk', Fr h₀ L h' m → News h₀ L h' news → Q (.int 1 t) { s with heap := h', toks := tk' }) : wpAny (model prog w) A (call (.builtin "max") [.int 1 t, .int n u]) Q E s :=
  max_two_N hh F N fun h' tk' F' N' => by rw [if_neg hn, if_neg hn]; exact h h' tk' F' N'
theorem kni_add {k : Int} (F : Fr h₀ L s.heap m) (X₀ : K.In h₀) (N : News h₀ L s.heap news) (G : NiG K C) (hx : (x, niObj C dx n tk) ∈ news)
    (h : ∀ t', Q (.int (n + k) t') { s with toks := s.toks + 1 }) : wpAny (model prog w) A (binaryOp .Add (.ref x) (.int k u)) Q E s := ni_add G (X₀.keeps F.keep) (N _ hx).1 (h _)
theorem kni_mod {k z : Int} (F : Fr h₀ L s.heap m) (X₀ : K.In h₀) (N : News h₀ L s.heap news) (G : NiG K C) (hx : (x, niObj C dx n tk) ∈ news) (hk : (k == 0) = false) (hz : n.fmod k = z)
    (h : ∀ t', Q (.int z t') { s with toks := s.toks + 1 }) : wpAny (model prog w) A (binaryOp .Mod (.ref x) (.int k u)) Q E s := ni_mod G (X₀.keeps F.keep) (N _ hx).1 hk (by rw [hz]; exact h _)
end
end Mine
namespace Mine
theorem walk_none_Ni9 : True := by
  k_with_none
  trivial
end Mine
open PySem PySem.W PyProof.Rows PySem.Calls
namespace Mine
/-- a row, a constant of a number and a name, a bare number -/
inductive Tr where
  | row (l : List Tr)
  | con (n : Int) (nm : Str)
  | num (n : Int)
abbrev Store := Addr → Obj → Prop
def inL (T : List (Addr × Obj)) : Store := fun a o => (a, o) ∈ T
def inH (h : Heap) : Store := fun a o => h.get? a = some o
mutual
/-- what is built -/
inductive OIn (P : Params) (S : Store) : Value → Tr → Prop
  | row {a : Addr} {vs : List Value} {k : Nat} {ts : List Tr} : S a (W.listOf vs.toArray k) → OAll P S vs ts → OIn P S (.ref a) (.row ts)
  | con {x dx : Addr} {n : Int} {t tk tn : Tok} {nm : Str} : S x (niObj 40 dx n t) → S dx (nameD P tk nm tn) → OIn P S (.ref x) (.con n nm)
  | num {n : Int} {t : Tok} : OIn P S (.int n t) (.num n)
inductive OAll (P : Params) (S : Store) : List Value → List Tr → Prop
  | nil : OAll P S [] []
  | cons {v : Value} {t : Tr} {vs : List Value} {ts : List Tr} : OIn P S v t → OAll P S vs ts → OAll P S (v :: vs) (t :: ts)
end
mutual
/-- what is told of it -/
inductive DIn (S : Store) : Value → Tr → Prop
  | row {a : Addr} {vs : List Value} {k : Nat} {ts : List Tr} : S a (W.listOf vs.toArray k) → DAll S vs ts → DIn S (.ref a) (.row ts)
  | con {a : Addr} {n : Int} {nm : Str} {t0 t1 t2 : Tok} : S a (tupOf [.int n t0, .str nm t1, .str nm t2]) → DIn S (.ref a) (.con n nm)
  | num {a : Addr} {n : Int} {t0 t1 : Tok} : S a (tupOf [.int n t0, .str (Str.ofString (toString n)) t1, .none]) → DIn S (.ref a) (.num n)
inductive DAll (S : Store) : List Value → List Tr → Prop
  | nil : DAll S [] []
  | cons {v : Value} {t : Tr} {vs : List Value} {ts : List Tr} : DIn S v t → DAll S vs ts → DAll S (v :: vs) (t :: ts)
end
section
variable {P : Params} {S S' : Store}
mutual
theorem OIn.mono (k : ∀ a o, S a o → S' a o) : ∀ {v : Value} {t : Tr}, OIn P S v t → OIn P S' v t
  | _, _, .row h r => .row (k _ _ h) (OAll.mono k r)
  | _, _, .con h1 h2 => .con (k _ _ h1) (k _ _ h2)
  | _, _, .num => .num
theorem OAll.mono (k : ∀ a o, S a o → S' a o) : ∀ {vs : List Value} {ts : List Tr}, OAll P S vs ts → OAll P S' vs ts
  | _, _, .nil => .nil
  | _, _, .cons h r => .cons (OIn.mono k h) (OAll.mono k r)
end
mutual
theorem DIn.mono (k : ∀ a o, S a o → S' a o) : ∀ {v : Value} {t : Tr}, DIn S v t → DIn S' v t
  | _, _, .row h r => .row (k _ _ h) (DAll.mono k r)
  | _, _, .con h1 => .con (k _ _ h1)
  | _, _, .num h1 => .num (k _ _ h1)
theorem DAll.mono (k : ∀ a o, S a o → S' a o) : ∀ {vs : List Value} {ts : List Tr}, DAll S vs ts → DAll S' vs ts
  | _, _, .nil => .nil
  | _, _, .cons h r => .cons (DIn.mono k h) (DAll.mono k r)
end
theorem OAll.append : ∀ {vs ws : List Value} {ts us : List Tr}, OAll P S vs ts → OAll P S ws us → OAll P S (vs ++ ws) (ts ++ us)
  | _, _, _, _, .nil, r => r
  | _, _, _, _, .cons h l, r => .cons h (OAll.append l r)
theorem DAll.append : ∀ {vs ws : List Value} {ts us : List Tr}, DAll S vs ts → DAll S ws us → DAll S (vs ++ ws) (ts ++ us)
  | _, _, _, _, .nil, r => r
  | _, _, _, _, .cons h l, r => .cons h (DAll.append l r)
theorem OAll.len : ∀ {vs : List Value} {ts : List Tr}, OAll P S vs ts → vs.length = ts.length
  | _, _, .nil => rfl
  | _, _, .cons _ r => by rw [List.length_cons, List.length_cons, r.len]
theorem DAll.len : ∀ {vs : List Value} {ts : List Tr}, DAll S vs ts → vs.length = ts.length
  | _, _, .nil => rfl
  | _, _, .cons _ r => by rw [List.length_cons, List.length_cons, r.len]
end
mutual
/-- how many rows, constants and numbers -/
def Tr.sz : Tr → Nat
  | .row l => 1 + szT l
  | .con _ _ => 1
  | .num _ => 1
def szT : List Tr → Nat
  | [] => 0
  | t :: r => t.sz + szT r
end
theorem szT_app : ∀ (a b : List Tr), szT (a ++ b) = szT a + szT b
  | [], b => by rw [List.nil_append, szT, Nat.zero_add]
  | t :: r, b => by rw [List.cons_append, szT, szT, szT_app r b, Nat.add_assoc]
theorem Tr.sz_pos : ∀ t : Tr, 1 ≤ t.sz
  | .row l => by rw [Tr.sz]; omega
  | .con _ _ => by rw [Tr.sz]; omega
  | .num _ => by rw [Tr.sz]; omega
theorem szT_len : ∀ l : List Tr, l.length ≤ szT l
  | [] => Nat.zero_le _
  | t :: r => by have := szT_len r; have := t.sz_pos; rw [List.length_cons, szT]; omega
mutual
/-- numbers and names of a bounded size -/
def Tr.small (B : Int) : Tr → Prop
  | .row l => smallL B l
  | .con n nm => (-B ≤ n ∧ n ≤ B) ∧ nm.length ≤ 10
  | .num n => -B ≤ n ∧ n ≤ B
def smallL (B : Int) : List Tr → Prop
  | [] => True
  | t :: r => t.small B ∧ smallL B r
end
theorem small_app {B : Int} : ∀ {a b : List Tr}, smallL B a → smallL B b → smallL B (a ++ b)
  | [], b, _, h => by rwa [List.nil_append]
  | t :: r, b, ⟨h1, h2⟩, h => by rw [List.cons_append, smallL]; exact ⟨h1, small_app h2 h⟩
/-- an open row: its addresses, what it holds ahead of the row that is open in it -/
structure Rw where
  a : Addr
  b : Addr
  vs : List Value
  us : List Value
  ka : Nat
  kb : Nat
  ts : List Tr
def Rw.oc (r : Rw) (e : List Value) : Addr × Obj := (r.a, W.listOf (r.vs ++ e).toArray r.ka)
def Rw.dc (r : Rw) (e : List Value) : Addr × Obj := (r.b, W.listOf (r.us ++ e).toArray r.kb)
/-- the rows beneath an open row -/
def lower : Addr → Addr → List Rw → List (Addr × Obj)
  | _, _, [] => []
  | a, b, r :: rest => r.oc [.ref a] :: r.dc [.ref b] :: lower r.a r.b rest
def addrs : List Rw → List Addr
  | [] => []
  | r :: rest => r.a :: r.b :: addrs rest
def oRefs : List Rw → List Value
  | [] => []
  | r :: rest => oRefs rest ++ [.ref r.a]
def dRefs : List Rw → List Value
  | [] => []
  | r :: rest => dRefs rest ++ [.ref r.b]
theorem oRefs_len : ∀ l : List Rw, (oRefs l).length = l.length
  | [] => rfl
  | r :: rest => by rw [oRefs, List.length_append, oRefs_len rest]; rfl
theorem dRefs_len : ∀ l : List Rw, (dRefs l).length = l.length
  | [] => rfl
  | r :: rest => by rw [dRefs, List.length_append, dRefs_len rest]; rfl
def szS : List Rw → Nat
  | [] => 0
  | r :: rest => 1 + szT r.ts + szS rest
theorem szS_len : ∀ l : List Rw, l.length ≤ szS l
  | [] => Nat.zero_le _
  | r :: rest => by have := szS_len rest; rw [List.length_cons, szS]; omega
/-- the open rows stand well upon T -/
structure RowsOk (P : Params) (B : Int) (rs : List Rw) (T : List (Addr × Obj)) : Prop where
  nd : (addrs rs).Nodup
  off : ∀ p ∈ T, p.1 ∉ addrs rs
  tree : ∀ r ∈ rs, OAll P (inL T) r.vs r.ts ∧ DAll (inL T) r.us r.ts ∧ smallL B r.ts
/-- the last row opened is closed -/
def shut (r' r : Rw) : Rw := { r with vs := r.vs ++ [.ref r'.a], us := r.us ++ [.ref r'.b], ts := r.ts ++ [.row r'.ts] }
section
variable {P : Params} {B : Int} {T : List (Addr × Obj)}
theorem shut_ok {r' r : Rw} {rest : List Rw} (h : RowsOk P B (r' :: r :: rest) T) : RowsOk P B (shut r' r :: rest) (r'.oc [] :: r'.dc [] :: T) := by
  have up : ∀ a o, inL T a o → inL (r'.oc [] :: r'.dc [] :: T) a o := fun a o q => .tail _ (.tail _ q)
  have nd := h.nd
  rw [addrs, List.nodup_cons, List.nodup_cons] at nd
  obtain ⟨n1, n2, n3⟩ := nd
  refine ⟨n3, fun p hp => ?_, fun q hq => ?_⟩
  · rcases List.mem_cons.mp hp with rfl | hp
    · exact fun q => n1 (.tail _ q)
    rcases List.mem_cons.mp hp with rfl | hp
    · exact n2
    · exact fun q => h.off p hp (.tail _ (.tail _ q))
  · have e1 := h.tree r' (.head _)
    rcases List.mem_cons.mp hq with rfl | hq
    · have e := h.tree r (.tail _ (.head _))
      have c1 : OIn P (inL (r'.oc [] :: r'.dc [] :: T)) (.ref r'.a) (.row r'.ts) := .row (k := r'.ka) (vs := r'.vs) (by unfold inL Rw.oc; rw [List.append_nil]; exact .head _) (e1.1.mono up)
      have c2 : DIn (inL (r'.oc [] :: r'.dc [] :: T)) (.ref r'.b) (.row r'.ts) := .row (k := r'.kb) (vs := r'.us) (by unfold inL Rw.dc; rw [List.append_nil]; exact .tail _ (.head _)) (e1.2.1.mono up)
      refine ⟨(e.1.mono up).append (.cons c1 .nil), (e.2.1.mono up).append (.cons c2 .nil), ?_⟩
      refine small_app e.2.2 ?_
      rw [smallL, smallL, Tr.small]
      exact ⟨e1.2.2, trivial⟩
    · have e := h.tree q (.tail _ (.tail _ hq))
      exact ⟨e.1.mono up, e.2.1.mono up, e.2.2⟩
theorem shut_sz {r' r : Rw} {rest : List Rw} : szS (shut r' r :: rest) = szS (r' :: r :: rest) := by
  unfold shut
  rw [szS, szS, szS, szT_app, szT, szT, Tr.sz]
  omega
/-- close all rows but the first m -/
def shutTo (m : Nat) : List Rw → List Rw
  | r' :: r :: rest => if rest.length + 2 ≤ m then r' :: r :: rest else shutTo m (shut r' r :: rest)
  | l => l
termination_by l => l.length
theorem shutTo_spec (m : Nat) (hm : 1 ≤ m) : ∀ (l : List Rw) (T : List (Addr × Obj)), l ≠ [] → RowsOk P B l T → ∃ T', (∀ p ∈ T, p ∈ T') ∧ RowsOk P B (shutTo m l) T' ∧ szS (shutTo m l) = szS l ∧ oRefs (shutTo m l) = (oRefs l).take m ∧ dRefs (shutTo m l) = (dRefs l).take m ∧ shutTo m l ≠ [] ∧
    (∀ t r, shutTo m l = t :: r → ∀ t0 r0, l = t0 :: r0 → (∀ p ∈ t.oc [] :: t.dc [] :: lower t.a t.b r ++ T', p ∈ t0.oc [] :: t0.dc [] :: lower t0.a t0.b r0 ++ T))
  | [], T, h, _ => absurd rfl h
  | [r], T, _, h => by
    have e : shutTo m [r] = [r] := by rw [shutTo]; simp
    rw [e]
    refine ⟨T, fun _ hp => hp, h, rfl, ?_, ?_, by simp, ?_⟩
    · rw [List.take_of_length_le]; rw [oRefs_len]; exact hm
    · rw [List.take_of_length_le]; rw [dRefs_len]; exact hm
    · intro t r1 e1 t0 r0 e0 p hp
      cases e1; cases e0; exact hp
  | r' :: r :: rest, T, _, h => by
    by_cases c : rest.length + 2 ≤ m
    · have e : shutTo m (r' :: r :: rest) = r' :: r :: rest := by rw [shutTo, if_pos c]
      rw [e]
      refine ⟨T, fun _ hp => hp, h, rfl, ?_, ?_, by simp, ?_⟩
      · rw [List.take_of_length_le]; rw [oRefs_len]; exact c
      · rw [List.take_of_length_le]; rw [dRefs_len]; exact c
      · intro t r1 e1 t0 r0 e0 p hp
        cases e1; cases e0; exact hp
    · have e : shutTo m (r' :: r :: rest) = shutTo m (shut r' r :: rest) := by rw [shutTo, if_neg c]
      rw [e]
      obtain ⟨T', s1, s2, s3, s4, s5, s6, s7⟩ := shutTo_spec m hm (shut r' r :: rest) (r'.oc [] :: r'.dc [] :: T) (by simp) (shut_ok h)
      refine ⟨T', fun p hp => s1 p (.tail _ (.tail _ hp)), s2, s3.trans shut_sz, ?_, ?_, s6, ?_⟩
      · rw [s4]
        show (oRefs (r :: rest)).take m = (oRefs (r :: rest) ++ [Value.ref r'.a]).take m
        rw [List.take_append_of_le_length]
        rw [oRefs_len, List.length_cons]; omega
      · rw [s5]
        show (dRefs (r :: rest)).take m = (dRefs (r :: rest) ++ [Value.ref r'.b]).take m
        rw [List.take_append_of_le_length]
        rw [dRefs_len, List.length_cons]; omega
      · intro t r1 e1 t0 r0 e0 p hp
        cases e0
        have := s7 t r1 e1 _ _ rfl p hp
        simp only [shut, Rw.oc, Rw.dc, List.append_nil, lower, List.cons_append, List.mem_cons, List.mem_append] at this ⊢
        rcases this with h1 | h1 | h1 | h1 | h1 | h1
        all_goals simp [h1]
termination_by l => l.length
end
end Mine
namespace Mine
theorem walk_none_Tr2 : True := by
  k_with_none
  trivial
end Mine
open PySem PySem.W PyProof.Rows PySem.Calls PySem.SeqAt
namespace Mine
/-- _NamedIntConstant(value, name), upon frame and ledger -/
theorem ni_makeK {w : World} {dp un : Nat} {gd : Option (List Code)} {cn : Str} {cs : Scope} {a : Addr} {ccd : Value} {cl : List (Str × Addr)} {outer : List Env} {h₀ : Heap} {L : Addr} {m : Str → Option Value} {s : Shared} {Q E : Value → Shared → Prop}
  {mean : ExcName → Option Value} {mg mb : Str → Option Value} {v : Value} {n : Int} {nm : Str} {tn : Tok} {news : List (Addr × Obj)}
  (F : Fr h₀ L s.heap m) (N : News h₀ L s.heap news) (X : (hd.heap_39 w.params).In h₀) (T : Top hd.view_39 (looseW hd.view_39 [Str.ofString "_NamedIntConstant"]) mean mg mb h₀)
  (hdp : dp + 3 < recursionLimit) (hv : (∃ u, v = .int n u) ∨ ∃ x d tk, v = .ref x ∧ (x, niObj 40 d n tk) ∈ news)
  (ret : ∀ (x dx : Addr) (t tk' : Tok) (h' : Heap) (tk : Nat), Fr h₀ L h' m → News h₀ L h' ((x, niObj 40 dx n t) :: (dx, nameD w.params tk' nm tn) :: news) → (∀ p ∈ news, p.1 < dx) → @LT.lt Nat _ dx x → Q (.ref x) { s with heap := h', toks := tk }) :
  wpAny (model PySem.Challenge.rw_dn0146_02.row.prog w) (ktrTop dp un gd cn cs L a ccd cl outer) (call (.ref 40) [v, .str nm tn]) Q E s := by
  refine ni_make F X T hdp (hv.imp id fun ⟨x, d, tk, e, hm⟩ => ⟨x, d, tk, e, (N _ hm).1⟩) fun x dx t tk' h' tk st nx nd le lt gx gd => ?_
  have lt2 : ∀ p ∈ news, p.1 < dx := fun p hp => Nat.lt_of_lt_of_le (Heap.lt_size (N p hp).1) le
  have nz : ∀ b : Addr, s.heap.get? b = none → h₀.get? b = none := fun b e => by
    cases z : h₀.get? b with
    | none => rfl
    | some o => have := F.keep _ _ z; rw [e] at this; cases this
  have nL : ∀ b : Addr, s.heap.get? b = none → b ≠ L := fun b e q => by
    obtain ⟨oL, es, ep, hL, r⟩ := F.ns
    rw [q, hL] at e; cases e
  refine ret x dx t tk' h' tk (F.grownK st) (fun p hp => ?_) lt2 lt
  rcases List.mem_cons.mp hp with rfl | hp
  · exact ⟨gx, nL _ nx, nz _ nx⟩
  rcases List.mem_cons.mp hp with rfl | hp
  · exact ⟨gd, nL _ nd, nz _ nd⟩
  · exact ⟨st _ _ (N p hp).1, (N p hp).2⟩
end Mine
namespace Mine
theorem walk_none_La2 : True := by
  k_with_none
  trivial
end Mine
open PySem PySem.W PyProof.Rows PySem.Calls
namespace Mine
abbrev BB : Int := 2 * 10 ^ 31
abbrev BL : Int := 8 * 10 ^ 30
def Apart (a b : Nat) : Prop := a ≠ b
theorem Apart.ne {a b : Nat} (h : Apart a b) : a ≠ b := h
theorem Apart.of {a b : Addr} (h : a ≠ b) : Apart a b := h
/-- between the turns -/
structure JD (P : Params) (i : Nat) (m : Str → Option Value) (nw : List (Addr × Obj)) (op du : Addr) (a b : Addr) (vs us : List Value) (ka kb : Nat) (ts : List Tr) (rest : List Rw) (T : List (Addr × Obj)) (kop kdu : Nat) (x dx : Addr) (n : Int) (nm : Str) (tx tkx tn : Tok) (kt : Addr) (t0 t1 t2 : Tok) : Prop where
  m1 : m (Str.ofString "opened") = some (.ref op)
  m2 : m (Str.ofString "due") = some (.ref du)
  m3 : m (Str.ofString "last") = some (.ref x)
  m4 : m (Str.ofString "known") = some (.ref kt)
  nw : nw = (op, W.listOf (oRefs rest ++ [Value.ref a]).toArray kop) :: (du, W.listOf (dRefs rest ++ [Value.ref b]).toArray kdu) :: (a, W.listOf vs.toArray ka) :: (b, W.listOf us.toArray kb) :: (lower a b rest ++ T)
  ok : RowsOk P BB (⟨a, b, vs, us, ka, kb, ts⟩ :: rest) T
  od : op ≠ du
  o1 : op ∉ addrs (⟨a, b, vs, us, ka, kb, ts⟩ :: rest)
  d1 : du ∉ addrs (⟨a, b, vs, us, ka, kb, ts⟩ :: rest)
  oT : ∀ p ∈ T, p.1 ≠ op ∧ p.1 ≠ du
  lx : (x, niObj 40 dx n tx) ∈ T
  ld : (dx, nameD P tkx nm tn) ∈ T
  lk : (kt, tupOf [.int n t0, .str nm t1, .str nm t2]) ∈ T
  bn : -BL ≤ n ∧ n ≤ BL
  bm : nm.length ≤ 10
  sz : szS (⟨a, b, vs, us, ka, kb, ts⟩ :: rest) ≤ 2 * i + 1
def JT (P : Params) (i : Nat) (m : Str → Option Value) (nw : List (Addr × Obj)) : Prop :=
  ∃ op du a b vs us ka kb ts rest T kop kdu x dx n nm tx tkx tn kt t0 t1 t2, JD P i m nw op du a b vs us ka kb ts rest T kop kdu x dx n nm tx tkx tn kt t0 t1 t2
theorem addr_lower {q : Addr} : ∀ {rest : List Rw} {a b : Addr}, q ∈ addrs rest → ∃ p ∈ lower a b rest, p.1 = q
  | [], _, _, h => by cases h
  | r :: rest, a, b, h => by
    rw [addrs] at h
    rcases List.mem_cons.mp h with rfl | h
    · exact ⟨_, .head _, rfl⟩
    rcases List.mem_cons.mp h with rfl | h
    · exact ⟨_, .tail _ (.head _), rfl⟩
    · obtain ⟨p, hp, e⟩ := addr_lower (a := r.a) (b := r.b) h
      exact ⟨p, .tail _ (.tail _ hp), e⟩
theorem lower_addr {p : Addr × Obj} : ∀ {rest : List Rw} {a b : Addr}, p ∈ lower a b rest → p.1 ∈ addrs rest
  | [], _, _, h => by cases h
  | r :: rest, a, b, h => by
    rw [lower] at h
    rw [addrs]
    rcases List.mem_cons.mp h with rfl | h
    · exact .head _
    rcases List.mem_cons.mp h with rfl | h
    · exact .tail _ (.head _)
    · exact .tail _ (.tail _ (lower_addr h))
section
variable {P : Params} {i : Nat} {m m' : Str → Option Value} {nw : List (Addr × Obj)} {op du a b : Addr} {vs us : List Value} {ka kb : Nat} {ts : List Tr} {rest : List Rw} {T : List (Addr × Obj)} {kop kdu : Nat} {x dx : Addr} {n : Int} {nm : Str} {tx tkx tn : Tok} {kt : Addr} {t0 t1 t2 : Tok}
theorem JD.ab (J : JD P i m nw op du a b vs us ka kb ts rest T kop kdu x dx n nm tx tkx tn kt t0 t1 t2) : op ≠ a ∧ op ≠ b ∧ du ≠ a ∧ du ≠ b ∧ a ≠ b := by
  have h1 := J.o1
  have h2 := J.d1
  have h3 := J.ok.nd
  rw [addrs] at h1 h2 h3
  rw [List.nodup_cons, List.nodup_cons] at h3
  exact ⟨fun q => h1 (q ▸ .head _), fun q => h1 (q ▸ .tail _ (.head _)), fun q => h2 (q ▸ .head _), fun q => h2 (q ▸ .tail _ (.head _)), fun q => h3.1 (q ▸ .head _)⟩
/-- what stands beneath -/
theorem JD.off (J : JD P i m nw op du a b vs us ka kb ts rest T kop kdu x dx n nm tx tkx tn kt t0 t1 t2) : ∀ p ∈ lower a b rest ++ T, p.1 ≠ op ∧ p.1 ≠ du ∧ p.1 ≠ a ∧ p.1 ≠ b := by
  have h1 := J.o1
  have h2 := J.d1
  have h3 := J.ok.nd
  have h4 := J.ok.off
  rw [addrs] at h1 h2 h3 h4
  rw [List.nodup_cons, List.nodup_cons] at h3
  intro p hp
  rcases List.mem_append.mp hp with hp | hp
  · have q := lower_addr hp
    exact ⟨fun e => h1 (e ▸ .tail _ (.tail _ q)), fun e => h2 (e ▸ .tail _ (.tail _ q)), fun e => h3.1 (e ▸ .tail _ q), fun e => h3.2.1 (e ▸ q)⟩
  · exact ⟨(J.oT p hp).1, (J.oT p hp).2, fun e => h4 p hp (e ▸ .head _), fun e => h4 p hp (e ▸ .tail _ (.head _))⟩
/-- a turn that appends to the row opened last -/
theorem JD.app (J : JD P i m nw op du a b vs us ka kb ts rest T kop kdu x dx n nm tx tkx tn kt t0 t1 t2) {vs' us' : List Value} {ts' : List Tr} {ka' kb' : Nat} {Tn : List (Addr × Obj)} {x' dx' : Addr} {n' : Int} {nm' : Str} {tx' tkx' tn' : Tok} {kt' : Addr} {u0 u1 u2 : Tok}
    (m1 : m' (Str.ofString "opened") = some (.ref op)) (m2 : m' (Str.ofString "due") = some (.ref du)) (m3 : m' (Str.ofString "last") = some (.ref x')) (m4 : m' (Str.ofString "known") = some (.ref kt'))
    (hO : OAll P (inL (Tn ++ T)) vs' ts') (hD : DAll (inL (Tn ++ T)) us' ts') (hs : smallL BB ts') (hz : szT ts' ≤ 2)
    (hn : ∀ p ∈ Tn, ∀ q ∈ op :: du :: addrs (⟨a, b, vs, us, ka, kb, ts⟩ :: rest), @LT.lt Nat _ q p.1)
    (lx : (x', niObj 40 dx' n' tx') ∈ Tn ++ T) (ld : (dx', nameD P tkx' nm' tn') ∈ Tn ++ T) (lk : (kt', tupOf [.int n' u0, .str nm' u1, .str nm' u2]) ∈ Tn ++ T) (bn : -BL ≤ n' ∧ n' ≤ BL) (bm : nm'.length ≤ 10) :
    JD P (i + 1) m' ((op, W.listOf (oRefs rest ++ [Value.ref a]).toArray kop) :: (du, W.listOf (dRefs rest ++ [Value.ref b]).toArray kdu) :: (a, W.listOf (vs ++ vs').toArray ka') :: (b, W.listOf (us ++ us').toArray kb') :: (lower a b rest ++ (Tn ++ T)))
      op du a b (vs ++ vs') (us ++ us') ka' kb' (ts ++ ts') rest (Tn ++ T) kop kdu x' dx' n' nm' tx' tkx' tn' kt' u0 u1 u2 := by
  have up : ∀ a o, inL T a o → inL (Tn ++ T) a o := fun _ _ h => List.mem_append_right _ h
  have hne : ∀ p ∈ Tn, ∀ q ∈ op :: du :: addrs (⟨a, b, vs, us, ka, kb, ts⟩ :: rest), p.1 ≠ q := fun p hp q hq e => Nat.ne_of_gt (hn p hp q hq) e
  refine ⟨m1, m2, m3, m4, rfl, ⟨J.ok.nd, fun p hp => ?_, fun r hr => ?_⟩, J.od, J.o1, J.d1, fun p hp => ?_, lx, ld, lk, bn, bm, ?_⟩
  · rcases List.mem_append.mp hp with hp | hp
    · exact fun q => hne p hp _ (.tail _ (.tail _ q)) rfl
    · exact J.ok.off p hp
  · rcases List.mem_cons.mp hr with rfl | hr
    · have e := J.ok.tree _ (.head _)
      exact ⟨(e.1.mono up).append hO, (e.2.1.mono up).append hD, small_app e.2.2 hs⟩
    · have e := J.ok.tree r (.tail _ hr)
      exact ⟨e.1.mono up, e.2.1.mono up, e.2.2⟩
  · rcases List.mem_append.mp hp with hp | hp
    · exact ⟨hne p hp _ (.head _), hne p hp _ (.tail _ (.head _))⟩
    · exact J.oT p hp
  · have := J.sz
    rw [szS] at this ⊢
    rw [szT_app]
    dsimp only at this ⊢
    omega
/-- a turn that opens a row -/
theorem JD.open (J : JD P i m nw op du a b vs us ka kb ts rest T kop kdu x dx n nm tx tkx tn kt t0 t1 t2) {na nb : Addr} {ka' kb' kn km kop' kdu' : Nat}
    (m1 : m' (Str.ofString "opened") = some (.ref op)) (m2 : m' (Str.ofString "due") = some (.ref du)) (m3 : m' (Str.ofString "last") = some (.ref x)) (m4 : m' (Str.ofString "known") = some (.ref kt))
    (hab : @LT.lt Nat _ na nb) (hn : ∀ q ∈ op :: du :: addrs (⟨a, b, vs, us, ka, kb, ts⟩ :: rest), @LT.lt Nat _ q na) (hT : ∀ p ∈ T, @LT.lt Nat _ p.1 na) :
    JD P (i + 1) m' ((op, W.listOf (oRefs (⟨a, b, vs, us, ka', kb', ts⟩ :: rest) ++ [Value.ref na]).toArray kop') :: (du, W.listOf (dRefs (⟨a, b, vs, us, ka', kb', ts⟩ :: rest) ++ [Value.ref nb]).toArray kdu') :: (na, W.listOf ([] : List Value).toArray kn) :: (nb, W.listOf ([] : List Value).toArray km) :: (lower na nb (⟨a, b, vs, us, ka', kb', ts⟩ :: rest) ++ T))
      op du na nb [] [] kn km [] (⟨a, b, vs, us, ka', kb', ts⟩ :: rest) T kop' kdu' x dx n nm tx tkx tn kt t0 t1 t2 := by
  have q1 : ∀ q ∈ op :: du :: addrs (⟨a, b, vs, us, ka, kb, ts⟩ :: rest), q ≠ na := fun q hq => Nat.ne_of_lt (hn q hq)
  have q2 : ∀ q ∈ op :: du :: addrs (⟨a, b, vs, us, ka, kb, ts⟩ :: rest), q ≠ nb := fun q hq => Nat.ne_of_lt (Nat.lt_trans (hn q hq) hab)
  have t1' : ∀ p ∈ T, p.1 ≠ na := fun p hp => Nat.ne_of_lt (hT p hp)
  have t2' : ∀ p ∈ T, p.1 ≠ nb := fun p hp => Nat.ne_of_lt (Nat.lt_trans (hT p hp) hab)
  have hne : na ≠ nb := Nat.ne_of_lt hab
  have ad : addrs (⟨a, b, vs, us, ka', kb', ts⟩ :: rest) = addrs (⟨a, b, vs, us, ka, kb, ts⟩ :: rest) := rfl
  refine ⟨m1, m2, m3, m4, rfl, ⟨?_, fun p hp => ?_, fun r hr => ?_⟩, J.od, ?_, ?_, J.oT, J.lx, J.ld, J.lk, J.bn, J.bm, ?_⟩
  · rw [addrs, List.nodup_cons, List.nodup_cons, ad]
    refine ⟨fun h => ?_, fun h => q2 nb (.tail _ (.tail _ h)) rfl, J.ok.nd⟩
    rcases List.mem_cons.mp h with h | h
    · exact hne h
    · exact q1 na (.tail _ (.tail _ h)) rfl
  · rw [addrs, ad]
    intro h
    rcases List.mem_cons.mp h with h | h
    · exact t1' p hp h
    rcases List.mem_cons.mp h with h | h
    · exact t2' p hp h
    · exact J.ok.off p hp h
  · rcases List.mem_cons.mp hr with rfl | hr
    · exact ⟨.nil, .nil, trivial⟩
    rcases List.mem_cons.mp hr with rfl | hr
    · exact J.ok.tree ⟨a, b, vs, us, ka, kb, ts⟩ (.head _)
    · exact J.ok.tree r (.tail _ hr)
  · rw [addrs, ad]
    intro h
    rcases List.mem_cons.mp h with h | h
    · exact q1 _ (.head _) h
    rcases List.mem_cons.mp h with h | h
    · exact q2 _ (.head _) h
    · exact J.o1 h
  · rw [addrs, ad]
    intro h
    rcases List.mem_cons.mp h with h | h
    · exact q1 _ (.tail _ (.head _)) h
    rcases List.mem_cons.mp h with h | h
    · exact q2 _ (.tail _ (.head _)) h
    · exact J.d1 h
  · have := J.sz
    rw [szS] at this ⊢
    rw [szS]
    dsimp only at this ⊢
    rw [szT]
    omega
/-- a turn that closes rows -/
theorem JD.cut (J : JD P i m nw op du a b vs us ka kb ts rest T kop kdu x dx n nm tx tkx tn kt t0 t1 t2) {k : Nat} (hk : 1 ≤ k) {op' du' : Addr} {ko kd : Nat}
    (m1 : m' (Str.ofString "opened") = some (.ref op')) (m2 : m' (Str.ofString "due") = some (.ref du')) (m3 : m' (Str.ofString "last") = some (.ref x)) (m4 : m' (Str.ofString "known") = some (.ref kt))
    (hod : @LT.lt Nat _ op' du') (hn : ∀ q ∈ op :: du :: addrs (⟨a, b, vs, us, ka, kb, ts⟩ :: rest), @LT.lt Nat _ q op') (hT : ∀ p ∈ T, @LT.lt Nat _ p.1 op') :
    ∃ nw' : List (Addr × Obj), JT P (i + 1) m' nw' ∧ ∀ p ∈ nw', p = (op', W.listOf ((oRefs rest ++ [Value.ref a]).take k).toArray ko) ∨ p = (du', W.listOf ((dRefs rest ++ [Value.ref b]).take k).toArray kd) ∨ p ∈ nw := by
  obtain ⟨T', s1, s2, s3, s4, s5, s6, s7⟩ := shutTo_spec k hk (⟨a, b, vs, us, ka, kb, ts⟩ :: rest) T (by simp) J.ok
  obtain ⟨t, r, e⟩ : ∃ t r, shutTo k (⟨a, b, vs, us, ka, kb, ts⟩ :: rest) = t :: r := by
    cases q : shutTo k (⟨a, b, vs, us, ka, kb, ts⟩ :: rest) with
    | nil => exact absurd q s6
    | cons t r => exact ⟨t, r, rfl⟩
  have s8 := s7 t r e _ _ rfl
  rw [e] at s2 s3 s4 s5
  obtain ⟨ta, tb, tvs, tus, tka, tkb, tts⟩ := t
  have big : ∀ p ∈ (Rw.oc ⟨a, b, vs, us, ka, kb, ts⟩ [] :: Rw.dc ⟨a, b, vs, us, ka, kb, ts⟩ [] :: lower a b rest ++ T), @LT.lt Nat _ p.1 op' := by
    intro p hp
    rcases List.mem_append.mp hp with hp | hp
    · rcases List.mem_cons.mp hp with rfl | hp
      · exact hn _ (.tail _ (.tail _ (.head _)))
      rcases List.mem_cons.mp hp with rfl | hp
      · exact hn _ (.tail _ (.tail _ (.tail _ (.head _))))
      · exact hn _ (.tail _ (.tail _ (.tail _ (.tail _ (lower_addr hp)))))
    · exact hT p hp
  have ad : ∀ q ∈ addrs (⟨ta, tb, tvs, tus, tka, tkb, tts⟩ :: r), @LT.lt Nat _ q op' := by
    intro q hq
    rw [addrs] at hq
    rcases List.mem_cons.mp hq with rfl | hq
    · exact big _ (s8 _ (.head _))
    rcases List.mem_cons.mp hq with rfl | hq
    · exact big _ (s8 _ (.tail _ (.head _)))
    · obtain ⟨p, hp, e⟩ := addr_lower (a := ta) (b := tb) hq
      rw [← e]
      exact big _ (s8 _ (List.mem_append_left _ (.tail _ (.tail _ hp))))
  have bT : ∀ p ∈ T', @LT.lt Nat _ p.1 op' := fun p hp => big _ (s8 _ (List.mem_append_right _ hp))
  refine ⟨_, ⟨op', du', ta, tb, tvs, tus, tka, tkb, tts, r, T', ko, kd, x, dx, n, nm, tx, tkx, tn, kt, t0, t1, t2, ⟨m1, m2, m3, m4, rfl, s2, Nat.ne_of_lt hod, fun h => Nat.lt_irrefl _ (ad _ h), fun h => Nat.lt_irrefl _ (Nat.lt_trans hod (ad _ h)), fun p hp => ⟨Nat.ne_of_lt (bT p hp), Nat.ne_of_lt (Nat.lt_trans (bT p hp) hod)⟩, s1 _ J.lx, s1 _ J.ld, s1 _ J.lk, J.bn, J.bm, ?_⟩⟩, fun p hp => ?_⟩
  · have := J.sz
    rw [s3]; omega
  · have eo : oRefs r ++ [Value.ref ta] = (oRefs rest ++ [Value.ref a]).take k := s4
    have ed : dRefs r ++ [Value.ref tb] = (dRefs rest ++ [Value.ref b]).take k := s5
    rw [eo, ed] at hp
    rcases List.mem_cons.mp hp with rfl | hp
    · exact Or.inl rfl
    rcases List.mem_cons.mp hp with rfl | hp
    · exact Or.inr (Or.inl rfl)
    refine Or.inr (Or.inr ?_)
    have hp' : p ∈ Rw.oc ⟨ta, tb, tvs, tus, tka, tkb, tts⟩ [] :: Rw.dc ⟨ta, tb, tvs, tus, tka, tkb, tts⟩ [] :: lower ta tb r ++ T' := by
      unfold Rw.oc Rw.dc
      rw [List.append_nil, List.append_nil]
      exact hp
    have := s8 p hp'
    unfold Rw.oc Rw.dc at this
    rw [List.append_nil, List.append_nil] at this
    rw [J.nw]
    exact .tail _ (.tail _ this)
end
end Mine
namespace Mine
theorem walk_none_Tr3 : True := by
  k_with_none
  trivial
end Mine
open PySem PySem.W PyProof.Rows PySem.Calls
namespace Mine
theorem allLt_mem {d : Addr} : ∀ {l : List (Addr × Obj)}, AllLt d l → ∀ p ∈ l, @LT.lt Nat _ p.1 d
  | [], _, p, hp => nomatch hp
  | q :: r, ⟨h1, h2⟩, p, hp => by
    rcases List.mem_cons.mp hp with rfl | hp
    · exact h1
    · exact allLt_mem h2 p hp
section
variable {P : Params} {i : Nat} {m m' : Str → Option Value} {nw : List (Addr × Obj)} {op du a b : Addr} {vs us : List Value} {ka kb : Nat} {ts : List Tr} {rest : List Rw} {T R0 : List (Addr × Obj)} {kop kdu : Nat} {x dx : Addr} {n : Int} {nm : Str} {tx tkx tn : Tok} {kt : Addr} {t0 t1 t2 : Tok}
theorem JD.addr (J : JD P i m nw op du a b vs us ka kb ts rest T kop kdu x dx n nm tx tkx tn kt t0 t1 t2) : ∀ p ∈ nw, p.1 ∈ op :: du :: addrs (⟨a, b, vs, us, ka, kb, ts⟩ :: rest) ∨ p ∈ T := by
  intro p hp
  rw [J.nw] at hp
  rw [addrs]
  rcases List.mem_cons.mp hp with rfl | hp
  · exact Or.inl (.head _)
  rcases List.mem_cons.mp hp with rfl | hp
  · exact Or.inl (.tail _ (.head _))
  rcases List.mem_cons.mp hp with rfl | hp
  · exact Or.inl (.tail _ (.tail _ (.head _)))
  rcases List.mem_cons.mp hp with rfl | hp
  · exact Or.inl (.tail _ (.tail _ (.tail _ (.head _))))
  rcases List.mem_append.mp hp with hp | hp
  · exact Or.inl (.tail _ (.tail _ (.tail _ (.tail _ (lower_addr hp)))))
  · exact Or.inr hp
theorem JD.offA (J : JD P i m nw op du a b vs us ka kb ts rest T kop kdu x dx n nm tx tkx tn kt t0 t1 t2) {I : Addr} (h : ∀ p ∈ nw, p.1 ≠ I) : (∀ q ∈ op :: du :: addrs (⟨a, b, vs, us, ka, kb, ts⟩ :: rest), q ≠ I) ∧ ∀ p ∈ T, p.1 ≠ I := by
  rw [J.nw] at h
  refine ⟨fun q hq => ?_, fun p hp => h p (.tail _ (.tail _ (.tail _ (.tail _ (List.mem_append_right _ hp)))))⟩
  rw [addrs] at hq
  rcases List.mem_cons.mp hq with rfl | hq
  · exact h _ (.head _)
  rcases List.mem_cons.mp hq with rfl | hq
  · exact h _ (.tail _ (.head _))
  rcases List.mem_cons.mp hq with rfl | hq
  · exact h _ (.tail _ (.tail _ (.head _)))
  rcases List.mem_cons.mp hq with rfl | hq
  · exact h _ (.tail _ (.tail _ (.tail _ (.head _))))
  · obtain ⟨p, hp, e⟩ := addr_lower (a := a) (b := b) hq
    rw [← e]
    exact h p (.tail _ (.tail _ (.tail _ (.tail _ (List.mem_append_left _ hp)))))
theorem lt_all {vs us : List Value} {ka kb : Nat} {ts : List Tr} {na : Addr} (hR0 : R0 = lower a b rest ++ T) (l1 : @LT.lt Nat _ op na ∧ @LT.lt Nat _ du na ∧ @LT.lt Nat _ a na ∧ @LT.lt Nat _ b na) (l2 : AllLt na R0) :
    (∀ q ∈ op :: du :: addrs (⟨a, b, vs, us, ka, kb, ts⟩ :: rest), @LT.lt Nat _ q na) ∧ ∀ p ∈ T, @LT.lt Nat _ p.1 na := by
  subst hR0
  have l3 := allLt_mem l2
  refine ⟨fun q hq => ?_, fun p hp => l3 p (List.mem_append_right _ hp)⟩
  rw [addrs] at hq
  rcases List.mem_cons.mp hq with rfl | hq
  · exact l1.1
  rcases List.mem_cons.mp hq with rfl | hq
  · exact l1.2.1
  rcases List.mem_cons.mp hq with rfl | hq
  · exact l1.2.2.1
  rcases List.mem_cons.mp hq with rfl | hq
  · exact l1.2.2.2
  · obtain ⟨p, hp, e⟩ := addr_lower (a := a) (b := b) hq
    rw [← e]
    exact l3 p (List.mem_append_left _ hp)
variable {h₀ h' : Heap} {L I ls : Addr} {oI lo : Obj} {tk : Nat} {s₁ : Shared} {Q : Flow → Shared → Prop} {N9 : List (Addr × Obj)}
abbrev JE (P : Params) (i : Nat) (ls : Addr) (m : Str → Option Value) (nw : List (Addr × Obj)) : Prop := JT P i m nw ∧ ∀ p ∈ nw, p.1 ≠ ls
theorem end_open {na nb : Addr} {kn km kop' kdu' ka' kb' : Nat} (J : JD P i m nw op du a b vs us ka kb ts rest T kop kdu x dx n nm tx tkx tn kt t0 t1 t2) (F : Fr h₀ L h' m') (N : News h₀ L h' N9) (hR0 : R0 = lower a b rest ++ T)
    (m1 : m' (Str.ofString "opened") = some (.ref op)) (m2 : m' (Str.ofString "due") = some (.ref du)) (m3 : m' (Str.ofString "last") = some (.ref x)) (m4 : m' (Str.ofString "known") = some (.ref kt))
    (l1 : (@LT.lt Nat _ op na ∧ @LT.lt Nat _ du na ∧ @LT.lt Nat _ a na ∧ @LT.lt Nat _ b na) ∧ AllLt na R0) (l2 : @LT.lt Nat _ na nb ∧ @LT.lt Nat _ I na ∧ @LT.lt Nat _ ls na) (hI : ∀ p ∈ nw, p.1 ≠ I) (hls : ∀ p ∈ nw, p.1 ≠ ls)
    (e : ∀ p ∈ (op, W.listOf (oRefs rest ++ [Value.ref a] ++ [Value.ref na]).toArray kop') :: (du, W.listOf (dRefs rest ++ [Value.ref b] ++ [Value.ref nb]).toArray kdu') :: (na, W.listOf ([] : List Value).toArray kn) :: (nb, W.listOf ([] : List Value).toArray km) :: (a, W.listOf (vs ++ [Value.ref na]).toArray ka') :: (b, W.listOf (us ++ [Value.ref nb]).toArray kb') :: (I, oI) :: (ls, lo) :: R0, p ∈ N9) :
    TurnEnd4 h₀ L (JE P (i + 1) ls) I oI ls lo s₁ Q .next { s₁ with heap := h', toks := tk } := by
  obtain ⟨q1, q2⟩ := lt_all (vs := vs) (us := us) (ka := ka) (kb := kb) (ts := ts) hR0 l1.1 l1.2
  have J' := J.open (m' := m') (ka' := ka') (kb' := kb') (kn := kn) (km := km) (kop' := kop') (kdu' := kdu') m1 m2 m3 m4 l2.1 q1 q2
  have off : ∀ I : Addr, (∀ p ∈ nw, p.1 ≠ I) → @LT.lt Nat _ I na → ∀ p : Addr × Obj, (p.1 ∈ op :: du :: addrs (⟨na, nb, [], [], kn, km, []⟩ :: ⟨a, b, vs, us, ka', kb', ts⟩ :: rest) ∨ p ∈ T) → p.1 ≠ I := fun I hI li p hp => by
    obtain ⟨o1, o2⟩ := J.offA hI
    rcases hp with q | q
    · rw [addrs] at q
      rcases List.mem_cons.mp q with q | q
      · exact q ▸ o1 _ (.head _)
      rcases List.mem_cons.mp q with q | q
      · exact q ▸ o1 _ (.tail _ (.head _))
      rcases List.mem_cons.mp q with q | q
      · exact q ▸ Nat.ne_of_gt li
      rcases List.mem_cons.mp q with q | q
      · exact q ▸ Nat.ne_of_gt (Nat.lt_trans li l2.1)
      · exact o1 _ (.tail _ (.tail _ q))
    · exact o2 p q
  refine ⟨h', tk, m', _, rfl, F, fun p hp => N p (e p ?_), fun p hp => off I hI l2.2.1 p (J'.addr p hp), ⟨⟨_, _, _, _, _, _, _, _, _, _, _, _, _, _, _, _, _, _, _, _, _, _, _, _, J'⟩, fun p hp => off ls hls l2.2.2 p (J'.addr p hp)⟩⟩
  subst hR0
  simp only [List.mem_cons, lower, Rw.oc, Rw.dc, oRefs, dRefs, List.cons_append, List.mem_append] at hp ⊢
  rcases hp with h | h | h | h | h | h | h | h | h | h <;> simp [h]
theorem end_app (J : JD P i m nw op du a b vs us ka kb ts rest T kop kdu x dx n nm tx tkx tn kt t0 t1 t2) {vs' us' : List Value} {ts' : List Tr} {ka' kb' : Nat} {Tn : List (Addr × Obj)} {x' dx' : Addr} {n' : Int} {nm' : Str} {tx' tkx' tn' : Tok} {kt' : Addr} {u0 u1 u2 : Tok}
    (F : Fr h₀ L h' m') (N : News h₀ L h' N9) (hR0 : R0 = lower a b rest ++ T)
    (m1 : m' (Str.ofString "opened") = some (.ref op)) (m2 : m' (Str.ofString "due") = some (.ref du)) (m3 : m' (Str.ofString "last") = some (.ref x')) (m4 : m' (Str.ofString "known") = some (.ref kt'))
    (hO : OAll P (inL (Tn ++ T)) vs' ts') (hD : DAll (inL (Tn ++ T)) us' ts') (hs : smallL BB ts') (hz : szT ts' ≤ 2)
    (hn : ∀ p ∈ Tn, (@LT.lt Nat _ op p.1 ∧ @LT.lt Nat _ du p.1 ∧ @LT.lt Nat _ a p.1 ∧ @LT.lt Nat _ b p.1) ∧ @LT.lt Nat _ I p.1 ∧ @LT.lt Nat _ ls p.1 ∧ AllLt p.1 R0)
    (lx : (x', niObj 40 dx' n' tx') ∈ Tn ++ T) (ld : (dx', nameD P tkx' nm' tn') ∈ Tn ++ T) (lk : (kt', tupOf [.int n' u0, .str nm' u1, .str nm' u2]) ∈ Tn ++ T) (bn : -BL ≤ n' ∧ n' ≤ BL) (bm : nm'.length ≤ 10) (hI : ∀ p ∈ nw, p.1 ≠ I) (hls : ∀ p ∈ nw, p.1 ≠ ls)
    (e : ∀ p ∈ (op, W.listOf (oRefs rest ++ [Value.ref a]).toArray kop) :: (du, W.listOf (dRefs rest ++ [Value.ref b]).toArray kdu) :: (a, W.listOf (vs ++ vs').toArray ka') :: (b, W.listOf (us ++ us').toArray kb') :: (I, oI) :: (ls, lo) :: (Tn ++ R0), p ∈ N9) :
    TurnEnd4 h₀ L (JE P (i + 1) ls) I oI ls lo s₁ Q .next { s₁ with heap := h', toks := tk } := by
  have J' := J.app (m' := m') (ka' := ka') (kb' := kb') m1 m2 m3 m4 hO hD hs hz (fun p hp => (lt_all (vs := vs) (us := us) (ka := ka) (kb := kb) (ts := ts) hR0 (hn p hp).1 (hn p hp).2.2.2).1) lx ld lk bn bm
  have off : ∀ I : Addr, (∀ p ∈ nw, p.1 ≠ I) → (∀ p ∈ Tn, @LT.lt Nat _ I p.1) → ∀ p : Addr × Obj, (p.1 ∈ op :: du :: addrs (⟨a, b, vs ++ vs', us ++ us', ka', kb', ts ++ ts'⟩ :: rest) ∨ p ∈ Tn ++ T) → p.1 ≠ I := fun I hI li p hp => by
    obtain ⟨o1, o2⟩ := J.offA hI
    rcases hp with q | q
    · exact o1 _ q
    · rcases List.mem_append.mp q with q | q
      · exact Nat.ne_of_gt (li p q)
      · exact o2 p q
  refine ⟨h', tk, m', _, rfl, F, fun p hp => N p (e p ?_), fun p hp => off I hI (fun p hp => (hn p hp).2.1) p (J'.addr p hp), ⟨⟨_, _, _, _, _, _, _, _, _, _, _, _, _, _, _, _, _, _, _, _, _, _, _, _, J'⟩, fun p hp => off ls hls (fun p hp => (hn p hp).2.2.1) p (J'.addr p hp)⟩⟩
  subst hR0
  simp only [List.mem_cons, List.mem_append] at hp ⊢
  rcases hp with h | h | h | h | h | h | h | h | h <;> simp [h]
theorem end_cut {k : Nat} {op' du' : Addr} {ko kd : Nat} (J : JD P i m nw op du a b vs us ka kb ts rest T kop kdu x dx n nm tx tkx tn kt t0 t1 t2) (F : Fr h₀ L h' m') (N : News h₀ L h' N9) (hk : 1 ≤ k) (hR0 : R0 = lower a b rest ++ T)
    (m1 : m' (Str.ofString "opened") = some (.ref op')) (m2 : m' (Str.ofString "due") = some (.ref du')) (m3 : m' (Str.ofString "last") = some (.ref x)) (m4 : m' (Str.ofString "known") = some (.ref kt))
    (l1 : (@LT.lt Nat _ op op' ∧ @LT.lt Nat _ du op' ∧ @LT.lt Nat _ a op' ∧ @LT.lt Nat _ b op') ∧ AllLt op' R0) (l2 : @LT.lt Nat _ op' du' ∧ @LT.lt Nat _ I op' ∧ @LT.lt Nat _ ls op') (hI : ∀ p ∈ nw, p.1 ≠ I) (hls : ∀ p ∈ nw, p.1 ≠ ls)
    (e : ∀ p ∈ (op', W.listOf ((oRefs rest ++ [Value.ref a]).take k).toArray ko) :: (du', W.listOf ((dRefs rest ++ [Value.ref b]).take k).toArray kd) :: (op, W.listOf (oRefs rest ++ [Value.ref a]).toArray kop) :: (du, W.listOf (dRefs rest ++ [Value.ref b]).toArray kdu) :: (a, W.listOf vs.toArray ka) :: (b, W.listOf us.toArray kb) :: (I, oI) :: (ls, lo) :: R0, p ∈ N9) :
    TurnEnd4 h₀ L (JE P (i + 1) ls) I oI ls lo s₁ Q .next { s₁ with heap := h', toks := tk } := by
  obtain ⟨q1, q2⟩ := lt_all (vs := vs) (us := us) (ka := ka) (kb := kb) (ts := ts) hR0 l1.1 l1.2
  obtain ⟨nw', J', w⟩ := J.cut (m' := m') (ko := ko) (kd := kd) hk m1 m2 m3 m4 l2.1 q1 q2
  have off : ∀ I : Addr, (∀ p ∈ nw, p.1 ≠ I) → @LT.lt Nat _ I op' → ∀ p ∈ nw', p.1 ≠ I := fun I hI li p hp => by
    rcases w p hp with rfl | rfl | q
    · exact Nat.ne_of_gt li
    · exact Nat.ne_of_gt (Nat.lt_trans li l2.1)
    · exact hI p q
  refine ⟨h', tk, m', nw', rfl, F, fun p hp => N p (e p ?_), off I hI l2.2.1, ⟨J', off ls hls l2.2.2⟩⟩
  subst hR0
  rcases List.mem_cons.mp hp with rfl | hp
  · simp
  rcases List.mem_cons.mp hp with rfl | hp
  · simp
  rcases w p hp with rfl | rfl | q
  · simp
  · simp
  · rw [J.nw] at q
    simp only [List.mem_cons, List.mem_append] at q ⊢
    rcases q with h | h | h | h | h | h <;> simp [h]
end
end Mine
namespace Mine
theorem walk_none_Tr4 : True := by
  k_with_none
  trivial
end Mine
open PySem PySem.W PyProof.Rows PySem.Calls
namespace Mine
section
variable {prog : Program} {w : World} {A : Around} {E : Value → Shared → Prop} {s : Shared} {h₀ : Heap} {L D b : Addr} {m : Str → Option Value} {news news' : List (Addr × Obj)} {n n2 : Nat} {xs : List Value} {x y : Value} {Q : Value → Shared → Prop}
theorem ext_0 (F : Fr h₀ L s.heap m) (N : News h₀ L s.heap news) (hb : (b, W.listOf ([] : List Value).toArray n2) ∈ news) (U : Upd D (W.listOf xs.toArray n) (W.listOf xs.toArray n) news news') (hz : xs.length ≤ 1000)
    (h : ∀ h', Fr h₀ L h' m → News h₀ L h' news' → Q .none { s with heap := h' }) : wpAny (model prog w) A (call (.builtin "list.extend") [.ref D, .ref b]) Q E s := by
  have hs : (100000 : Nat) ≤ sizeLine := by decide
  exact kxn_extend F N hb (by simp) U (not_long (by simp; omega)) (by simp; omega) (by simp; omega) h
theorem ext_1 (F : Fr h₀ L s.heap m) (N : News h₀ L s.heap news) (hb : (b, W.listOf ([x] : List Value).toArray n2) ∈ news) (U : Upd D (W.listOf xs.toArray n) (W.listOf (xs ++ [x]).toArray (n + 1)) news news') (hz : xs.length ≤ 1000)
    (h : ∀ h', Fr h₀ L h' m → News h₀ L h' news' → Q .none { s with heap := h' }) : wpAny (model prog w) A (call (.builtin "list.extend") [.ref D, .ref b]) Q E s := by
  have hs : (100000 : Nat) ≤ sizeLine := by decide
  exact kl_extend F N hb (by simp) (by simp) U (not_long (by simp; omega)) (by simp; omega) (by simp; omega) h
theorem ext_2 (F : Fr h₀ L s.heap m) (N : News h₀ L s.heap news) (hb : (b, W.listOf ([x, y] : List Value).toArray n2) ∈ news) (U : Upd D (W.listOf xs.toArray n) (W.listOf (xs ++ [x, y]).toArray (n + 1)) news news') (hz : xs.length ≤ 1000)
    (h : ∀ h', Fr h₀ L h' m → News h₀ L h' news' → Q .none { s with heap := h' }) : wpAny (model prog w) A (call (.builtin "list.extend") [.ref D, .ref b]) Q E s := by
  have hs : (100000 : Nat) ≤ sizeLine := by decide
  exact kl_extend F N hb (by simp) (by simp) U (not_long (by simp; omega)) (by simp; omega) (by simp; omega) h
end

section
variable {P : Params} {i : Nat} {m m' : Str → Option Value} {nw : List (Addr × Obj)} {op du a b : Addr} {vs us : List Value} {ka kb : Nat} {ts : List Tr} {rest : List Rw} {T R0 : List (Addr × Obj)} {kop kdu : Nat} {x dx : Addr} {n : Int} {nm : Str} {tx tkx tn : Tok} {kt : Addr} {t0 t1 t2 : Tok}
variable {h₀ h' : Heap} {L I ls : Addr} {oI lo : Obj} {tk : Nat} {s₁ : Shared} {Q : Flow → Shared → Prop} {N9 : List (Addr × Obj)}
theorem fin_open {na nb : Addr} {kn km kop' kdu' ka' kb' : Nat} {Z : Prop} (J : JD P i m nw op du a b vs us ka kb ts rest T kop kdu x dx n nm tx tkx tn kt t0 t1 t2) (F : Fr h₀ L h' m') (N : News h₀ L h' N9) (hR0 : R0 = lower a b rest ++ T)
    (m1 : m' (Str.ofString "opened") = some (.ref op)) (m2 : m' (Str.ofString "due") = some (.ref du)) (m3 : m' (Str.ofString "last") = some (.ref x)) (m4 : m' (Str.ofString "known") = some (.ref kt))
    (hI : ∀ p ∈ nw, p.1 ≠ I) (hls : ∀ p ∈ nw, p.1 ≠ ls)
    (l1 : @LT.lt Nat _ x na ∧ @LT.lt Nat _ kt na ∧ @LT.lt Nat _ op na ∧ @LT.lt Nat _ du na ∧ @LT.lt Nat _ a na ∧ @LT.lt Nat _ b na ∧ @LT.lt Nat _ I na ∧ @LT.lt Nat _ ls na ∧ AllLt na R0) (l2 : @LT.lt Nat _ na nb ∧ Z)
    (e1 : (op, W.listOf (oRefs rest ++ [Value.ref a] ++ [Value.ref na]).toArray kop') ∈ N9) (e2 : (du, W.listOf (dRefs rest ++ [Value.ref b] ++ [Value.ref nb]).toArray kdu') ∈ N9) (e3 : (na, W.listOf ([] : List Value).toArray kn) ∈ N9) (e4 : (nb, W.listOf ([] : List Value).toArray km) ∈ N9)
    (e5 : (a, W.listOf (vs ++ [Value.ref na]).toArray ka') ∈ N9) (e6 : (b, W.listOf (us ++ [Value.ref nb]).toArray kb') ∈ N9) (e7 : (I, oI) ∈ N9) (e8 : (ls, lo) ∈ N9) (e9 : ∀ p ∈ R0, p ∈ N9) :
    TurnEnd4 h₀ L (JE P (i + 1) ls) I oI ls lo s₁ Q .next { s₁ with heap := h', toks := tk } := by
  obtain ⟨-, -, g1, g2, g3, g4, g5, g6, g7⟩ := l1
  refine end_open (kn := kn) (km := km) (kop' := kop') (kdu' := kdu') (ka' := ka') (kb' := kb') J F N hR0 m1 m2 m3 m4 ⟨⟨g1, g2, g3, g4⟩, g7⟩ ⟨l2.1, g5, g6⟩ hI hls (fun p hp => ?_)
  rcases List.mem_cons.mp hp with rfl | hp
  · exact e1
  rcases List.mem_cons.mp hp with rfl | hp
  · exact e2
  rcases List.mem_cons.mp hp with rfl | hp
  · exact e3
  rcases List.mem_cons.mp hp with rfl | hp
  · exact e4
  rcases List.mem_cons.mp hp with rfl | hp
  · exact e5
  rcases List.mem_cons.mp hp with rfl | hp
  · exact e6
  rcases List.mem_cons.mp hp with rfl | hp
  · exact e7
  rcases List.mem_cons.mp hp with rfl | hp
  · exact e8
  · exact e9 p hp
theorem fin_cut {k : Nat} {op' du' : Addr} {ko kd : Nat} {Z : Prop} (J : JD P i m nw op du a b vs us ka kb ts rest T kop kdu x dx n nm tx tkx tn kt t0 t1 t2) (F : Fr h₀ L h' m') (N : News h₀ L h' N9) (hk : 1 ≤ k) (hR0 : R0 = lower a b rest ++ T)
    (m1 : m' (Str.ofString "opened") = some (.ref op')) (m2 : m' (Str.ofString "due") = some (.ref du')) (m3 : m' (Str.ofString "last") = some (.ref x)) (m4 : m' (Str.ofString "known") = some (.ref kt))
    (hI : ∀ p ∈ nw, p.1 ≠ I) (hls : ∀ p ∈ nw, p.1 ≠ ls)
    (l1 : @LT.lt Nat _ x op' ∧ @LT.lt Nat _ kt op' ∧ @LT.lt Nat _ op op' ∧ @LT.lt Nat _ du op' ∧ @LT.lt Nat _ a op' ∧ @LT.lt Nat _ b op' ∧ @LT.lt Nat _ I op' ∧ @LT.lt Nat _ ls op' ∧ AllLt op' R0) (l2 : @LT.lt Nat _ op' du' ∧ Z)
    (e1 : (op', W.listOf ((oRefs rest ++ [Value.ref a]).take k).toArray ko) ∈ N9) (e2 : (du', W.listOf ((dRefs rest ++ [Value.ref b]).take k).toArray kd) ∈ N9) (e3 : (op, W.listOf (oRefs rest ++ [Value.ref a]).toArray kop) ∈ N9) (e4 : (du, W.listOf (dRefs rest ++ [Value.ref b]).toArray kdu) ∈ N9)
    (e5 : (a, W.listOf vs.toArray ka) ∈ N9) (e6 : (b, W.listOf us.toArray kb) ∈ N9) (e7 : (I, oI) ∈ N9) (e8 : (ls, lo) ∈ N9) (e9 : ∀ p ∈ R0, p ∈ N9) :
    TurnEnd4 h₀ L (JE P (i + 1) ls) I oI ls lo s₁ Q .next { s₁ with heap := h', toks := tk } := by
  obtain ⟨-, -, g1, g2, g3, g4, g5, g6, g7⟩ := l1
  refine end_cut (ko := ko) (kd := kd) J F N hk hR0 m1 m2 m3 m4 ⟨⟨g1, g2, g3, g4⟩, g7⟩ ⟨l2.1, g5, g6⟩ hI hls (fun p hp => ?_)
  rcases List.mem_cons.mp hp with rfl | hp
  · exact e1
  rcases List.mem_cons.mp hp with rfl | hp
  · exact e2
  rcases List.mem_cons.mp hp with rfl | hp
  · exact e3
  rcases List.mem_cons.mp hp with rfl | hp
  · exact e4
  rcases List.mem_cons.mp hp with rfl | hp
  · exact e5
  rcases List.mem_cons.mp hp with rfl | hp
  · exact e6
  rcases List.mem_cons.mp hp with rfl | hp
  · exact e7
  rcases List.mem_cons.mp hp with rfl | hp
  · exact e8
  · exact e9 p hp
/-- a bare sum -/
theorem fin_sum {k : Int} {q : Addr} {t' v0 v1 : Tok} {ka' kb' : Nat} (J : JD P i m nw op du a b vs us ka kb ts rest T kop kdu x dx n nm tx tkx tn kt t0 t1 t2) (F : Fr h₀ L h' m') (N : News h₀ L h' N9) (hR0 : R0 = lower a b rest ++ T)
    (m1 : m' (Str.ofString "opened") = some (.ref op)) (m2 : m' (Str.ofString "due") = some (.ref du)) (m3 : m' (Str.ofString "last") = some (.ref x)) (m4 : m' (Str.ofString "known") = some (.ref kt))
    (hI : ∀ p ∈ nw, p.1 ≠ I) (hls : ∀ p ∈ nw, p.1 ≠ ls) (hk : -BB ≤ k ∧ k ≤ BB)
    (l1 : @LT.lt Nat _ x q ∧ @LT.lt Nat _ kt q ∧ @LT.lt Nat _ op q ∧ @LT.lt Nat _ du q ∧ @LT.lt Nat _ a q ∧ @LT.lt Nat _ b q ∧ @LT.lt Nat _ I q ∧ @LT.lt Nat _ ls q ∧ AllLt q R0)
    (e0 : (q, tupOf [.int k v0, .str (Str.ofString (toString k)) v1, .none]) ∈ N9) (e1 : (op, W.listOf (oRefs rest ++ [Value.ref a]).toArray kop) ∈ N9) (e2 : (du, W.listOf (dRefs rest ++ [Value.ref b]).toArray kdu) ∈ N9)
    (e5 : (a, W.listOf (vs ++ [Value.int k t']).toArray ka') ∈ N9) (e6 : (b, W.listOf (us ++ [Value.ref q]).toArray kb') ∈ N9) (e7 : (I, oI) ∈ N9) (e8 : (ls, lo) ∈ N9) (e9 : ∀ p ∈ R0, p ∈ N9) :
    TurnEnd4 h₀ L (JE P (i + 1) ls) I oI ls lo s₁ Q .next { s₁ with heap := h', toks := tk } := by
  obtain ⟨-, -, g1, g2, g3, g4, g5, g6, g7⟩ := l1
  refine end_app (ka' := ka') (kb' := kb') (Tn := [(q, tupOf [.int k v0, .str (Str.ofString (toString k)) v1, .none])]) (ts' := [.num k]) J F N hR0 m1 m2 m3 m4 (.cons (.num (t := t')) .nil) (.cons (.num (.head _)) .nil) ?_ ?_ (fun p hp => ?_) (.tail _ J.lx) (.tail _ J.ld) (.tail _ J.lk) J.bn J.bm hI hls (fun p hp => ?_)
  · rw [smallL, smallL, Tr.small]; exact ⟨hk, trivial⟩
  · rw [szT, szT, Tr.sz]; omega
  · obtain rfl := List.mem_singleton.mp hp
    exact ⟨⟨g1, g2, g3, g4⟩, g5, g6, g7⟩
  rcases List.mem_cons.mp hp with rfl | hp
  · exact e1
  rcases List.mem_cons.mp hp with rfl | hp
  · exact e2
  rcases List.mem_cons.mp hp with rfl | hp
  · exact e5
  rcases List.mem_cons.mp hp with rfl | hp
  · exact e6
  rcases List.mem_cons.mp hp with rfl | hp
  · exact e7
  rcases List.mem_cons.mp hp with rfl | hp
  · exact e8
  rcases List.mem_cons.mp hp with rfl | hp
  · exact e0
  · exact e9 p hp
/-- a new constant -/
theorem fin_con {n' : Int} {nm' : Str} {x' dx' kt' : Addr} {tx' tkx' tn' u0 u1 u2 : Tok} {ka' kb' : Nat} {Z : Prop} (J : JD P i m nw op du a b vs us ka kb ts rest T kop kdu x dx n nm tx tkx tn kt t0 t1 t2) (F : Fr h₀ L h' m') (N : News h₀ L h' N9) (hR0 : R0 = lower a b rest ++ T)
    (m1 : m' (Str.ofString "opened") = some (.ref op)) (m2 : m' (Str.ofString "due") = some (.ref du)) (m3 : m' (Str.ofString "last") = some (.ref x')) (m4 : m' (Str.ofString "known") = some (.ref kt'))
    (hI : ∀ p ∈ nw, p.1 ≠ I) (hls : ∀ p ∈ nw, p.1 ≠ ls) (hk : -BL ≤ n' ∧ n' ≤ BL) (hm : nm'.length ≤ 10)
    (e0 : (kt', tupOf [.int n' u0, .str nm' u1, .str nm' u2]) ∈ N9) (e1 : (x', niObj 40 dx' n' tx') ∈ N9) (e2 : (dx', nameD P tkx' nm' tn') ∈ N9)
    (l1 : @LT.lt Nat _ x dx' ∧ @LT.lt Nat _ kt dx' ∧ @LT.lt Nat _ op dx' ∧ @LT.lt Nat _ du dx' ∧ @LT.lt Nat _ a dx' ∧ @LT.lt Nat _ b dx' ∧ @LT.lt Nat _ I dx' ∧ @LT.lt Nat _ ls dx' ∧ AllLt dx' R0) (l2 : @LT.lt Nat _ dx' x') (l3 : @LT.lt Nat _ x' kt' ∧ Z)
    (e3 : (op, W.listOf (oRefs rest ++ [Value.ref a]).toArray kop) ∈ N9) (e4 : (du, W.listOf (dRefs rest ++ [Value.ref b]).toArray kdu) ∈ N9)
    (e5 : (a, W.listOf (vs ++ [Value.ref x']).toArray ka') ∈ N9) (e6 : (b, W.listOf (us ++ [Value.ref kt']).toArray kb') ∈ N9) (e7 : (I, oI) ∈ N9) (e8 : (ls, lo) ∈ N9) (e9 : ∀ p ∈ R0, p ∈ N9) :
    TurnEnd4 h₀ L (JE P (i + 1) ls) I oI ls lo s₁ Q .next { s₁ with heap := h', toks := tk } := by
  obtain ⟨-, -, g1, g2, g3, g4, g5, g6, g7⟩ := l1
  have up : ∀ {e : Addr} (l : List (Addr × Obj)), AllLt dx' l → @LT.lt Nat _ dx' e → AllLt e l := by
    intro e l
    induction l with
    | nil => exact fun _ _ => trivial
    | cons p r ih => exact fun h q => ⟨Nat.lt_trans h.1 q, ih h.2 q⟩
  have l4 : @LT.lt Nat _ dx' kt' := Nat.lt_trans l2 l3.1
  refine end_app (ka' := ka') (kb' := kb') (Tn := [(kt', tupOf [.int n' u0, .str nm' u1, .str nm' u2]), (x', niObj 40 dx' n' tx'), (dx', nameD P tkx' nm' tn')]) (ts' := [.con n' nm']) J F N hR0 m1 m2 m3 m4 (.cons (.con (.tail _ (.head _)) (.tail _ (.tail _ (.head _)))) .nil) (.cons (.con (.head _)) .nil) ?_ ?_ (fun p hp => ?_)
    (.tail _ (.head _)) (.tail _ (.tail _ (.head _))) (.head _) hk hm hI hls (fun p hp => ?_)
  · have eBL : BL = 8 * 10 ^ 30 := rfl
    have eBB : BB = 2 * 10 ^ 31 := rfl
    rw [smallL, smallL, Tr.small]; exact ⟨⟨⟨by omega, by omega⟩, hm⟩, trivial⟩
  · rw [szT, szT, Tr.sz]; omega
  · rcases List.mem_cons.mp hp with rfl | hp
    · exact ⟨⟨Nat.lt_trans g1 l4, Nat.lt_trans g2 l4, Nat.lt_trans g3 l4, Nat.lt_trans g4 l4⟩, Nat.lt_trans g5 l4, Nat.lt_trans g6 l4, up _ g7 l4⟩
    rcases List.mem_cons.mp hp with rfl | hp
    · exact ⟨⟨Nat.lt_trans g1 l2, Nat.lt_trans g2 l2, Nat.lt_trans g3 l2, Nat.lt_trans g4 l2⟩, Nat.lt_trans g5 l2, Nat.lt_trans g6 l2, up _ g7 l2⟩
    obtain rfl := List.mem_singleton.mp hp
    exact ⟨⟨g1, g2, g3, g4⟩, g5, g6, g7⟩
  rcases List.mem_cons.mp hp with rfl | hp
  · exact e3
  rcases List.mem_cons.mp hp with rfl | hp
  · exact e4
  rcases List.mem_cons.mp hp with rfl | hp
  · exact e5
  rcases List.mem_cons.mp hp with rfl | hp
  · exact e6
  rcases List.mem_cons.mp hp with rfl | hp
  · exact e7
  rcases List.mem_cons.mp hp with rfl | hp
  · exact e8
  rcases List.mem_cons.mp hp with rfl | hp
  · exact e0
  rcases List.mem_cons.mp hp with rfl | hp
  · exact e1
  rcases List.mem_cons.mp hp with rfl | hp
  · exact e2
  · exact e9 p hp
/-- the last constant, j times -/
theorem fin_rep {ka' kb' : Nat} (j : Nat) (hj : j ≤ 2) (J : JD P i m nw op du a b vs us ka kb ts rest T kop kdu x dx n nm tx tkx tn kt t0 t1 t2) (F : Fr h₀ L h' m') (N : News h₀ L h' N9) (hR0 : R0 = lower a b rest ++ T)
    (m1 : m' (Str.ofString "opened") = some (.ref op)) (m2 : m' (Str.ofString "due") = some (.ref du)) (m3 : m' (Str.ofString "last") = some (.ref x)) (m4 : m' (Str.ofString "known") = some (.ref kt))
    (hI : ∀ p ∈ nw, p.1 ≠ I) (hls : ∀ p ∈ nw, p.1 ≠ ls)
    (e3 : (op, W.listOf (oRefs rest ++ [Value.ref a]).toArray kop) ∈ N9) (e4 : (du, W.listOf (dRefs rest ++ [Value.ref b]).toArray kdu) ∈ N9)
    (e5 : (a, W.listOf (vs ++ List.replicate j (Value.ref x)).toArray ka') ∈ N9) (e6 : (b, W.listOf (us ++ List.replicate j (Value.ref kt)).toArray kb') ∈ N9) (e7 : (I, oI) ∈ N9) (e8 : (ls, lo) ∈ N9) (e9 : ∀ p ∈ R0, p ∈ N9) :
    TurnEnd4 h₀ L (JE P (i + 1) ls) I oI ls lo s₁ Q .next { s₁ with heap := h', toks := tk } := by
  have cO : ∀ j, OAll P (inL ([] ++ T)) (List.replicate j (Value.ref x)) (List.replicate j (.con n nm)) := by
    intro j
    induction j with
    | zero => exact .nil
    | succ j ih => exact .cons (.con J.lx J.ld) ih
  have cD : ∀ j, DAll (inL ([] ++ T)) (List.replicate j (Value.ref kt)) (List.replicate j (.con n nm)) := by
    intro j
    induction j with
    | zero => exact .nil
    | succ j ih => exact .cons (.con J.lk) ih
  have cS : ∀ j, smallL BB (List.replicate j (.con n nm)) := by
    have eBL : BL = 8 * 10 ^ 30 := rfl
    have eBB : BB = 2 * 10 ^ 31 := rfl
    have := J.bn
    intro j
    induction j with
    | zero => exact trivial
    | succ j ih => exact ⟨⟨⟨by omega, by omega⟩, J.bm⟩, ih⟩
  have cZ : ∀ j, szT (List.replicate j (.con n nm)) = j := by
    intro j
    induction j with
    | zero => rfl
    | succ j ih => rw [List.replicate_succ, szT, ih, Tr.sz]; omega
  refine end_app (ka' := ka') (kb' := kb') (Tn := []) (ts' := List.replicate j (.con n nm)) J F N hR0 m1 m2 m3 m4 (cO j) (cD j) (cS j) (by rw [cZ]; exact hj) (fun p hp => nomatch hp) J.lx J.ld J.lk J.bn J.bm hI hls (fun p hp => ?_)
  rcases List.mem_cons.mp hp with rfl | hp
  · exact e3
  rcases List.mem_cons.mp hp with rfl | hp
  · exact e4
  rcases List.mem_cons.mp hp with rfl | hp
  · exact e5
  rcases List.mem_cons.mp hp with rfl | hp
  · exact e6
  rcases List.mem_cons.mp hp with rfl | hp
  · exact e7
  rcases List.mem_cons.mp hp with rfl | hp
  · exact e8
  · exact e9 p hp
theorem fin_rep0 {ka' kb' : Nat} (J : JD P i m nw op du a b vs us ka kb ts rest T kop kdu x dx n nm tx tkx tn kt t0 t1 t2) (F : Fr h₀ L h' m') (N : News h₀ L h' N9) (hR0 : R0 = lower a b rest ++ T)
    (m1 : m' (Str.ofString "opened") = some (.ref op)) (m2 : m' (Str.ofString "due") = some (.ref du)) (m3 : m' (Str.ofString "last") = some (.ref x)) (m4 : m' (Str.ofString "known") = some (.ref kt))
    (hI : ∀ p ∈ nw, p.1 ≠ I) (hls : ∀ p ∈ nw, p.1 ≠ ls)
    (e3 : (op, W.listOf (oRefs rest ++ [Value.ref a]).toArray kop) ∈ N9) (e4 : (du, W.listOf (dRefs rest ++ [Value.ref b]).toArray kdu) ∈ N9)
    (e5 : (a, W.listOf vs.toArray ka') ∈ N9) (e6 : (b, W.listOf us.toArray kb') ∈ N9) (e7 : (I, oI) ∈ N9) (e8 : (ls, lo) ∈ N9) (e9 : ∀ p ∈ R0, p ∈ N9) :
    TurnEnd4 h₀ L (JE P (i + 1) ls) I oI ls lo s₁ Q .next { s₁ with heap := h', toks := tk } := by
  refine fin_rep (ka' := ka') (kb' := kb') 0 (by decide) J F N hR0 m1 m2 m3 m4 hI hls e3 e4 ?_ ?_ e7 e8 e9
  · rw [List.replicate_zero, List.append_nil]; exact e5
  · rw [List.replicate_zero, List.append_nil]; exact e6
end
theorem log_small {k : Int} (h : -BB ≤ k ∧ k ≤ BB) : k.natAbs.log2 < 1920 := by
  have eBB : BB = 2 * 10 ^ 31 := rfl
  have h2 : (10 : Int) ^ 32 ≤ 2 ^ 1920 := by decide +kernel
  exact shown (N := 10 ^ 32) (by omega) (by omega) h2
end Mine
namespace Mine
theorem walk_none_Tr5 : True := by
  k_with_none
  trivial
end Mine
open PySem PySem.W PyProof.Rows PySem.Calls
namespace Mine
open Builtin Builtin.List
/-- what an item is written as, under the guards that G knows, with d frames and units to spare -/
def ReprD (prog : Program) (w : World) (G : List Code → Prop) (h₀ : Heap) (d : Nat) (x : Value) (t : Str) : Prop :=
  ∀ (base : Nat), base + t.length ≤ sizeLine → ∀ (A : Around) (g : List Code) (E : Value → Shared → Prop) (s : Shared) (Q : Str → Shared → Prop), A.guards = some g → G g → A.handled = none → A.units + d < cLine → A.depth + d < recursionLimit → h₀.StaysIn s.heap →
    (∀ h' tk, s.heap.StaysIn h' → Q t { s with heap := h', toks := tk }) → wpAny (model prog w) A (pyReprUnder base x) Q E s
theorem ReprD.of_is {prog : Program} {w : World} {G : List Code → Prop} {h₀ : Heap} {d : Nat} {x : Value} {t : Str} (h : ReprIs prog w x t) : ReprD prog w G h₀ d x t :=
  fun base hb A _ E s _ _ _ _ _ _ _ hQ => h base hb A E s _ fun tk => hQ s.heap tk fun _ _ e => e
theorem ReprD.up {prog : Program} {w : World} {G G' : List Code → Prop} {h₀ : Heap} {d d' : Nat} {x : Value} {t : Str} (h : ReprD prog w G h₀ d x t) (hG : ∀ g, G' g → G g) (hd : d ≤ d') : ReprD prog w G' h₀ d' x t :=
  fun base hb A g E s Q hg hc hh hu hdp hk hQ => h base hb A g E s Q hg (hG g hc) hh (by omega) (by omega) hk hQ
abbrev loopOf (a : Addr) (rest : List Value) (kw : List (Str × Value)) : Code := .builtin "list.__repr__.loop" ⟨.ref a :: rest, kw⟩
theorem under_loop (A : Around) (args : Args) : (A.under (.builtin "list.__repr__.loop" args)).units = A.units + 1 ∧ (A.under (.builtin "list.__repr__.loop" args)).handled = A.handled ∧ (A.under (.builtin "list.__repr__.loop" args)).depth ≤ A.depth + 1 := by
  refine ⟨units_under_list_loop A args, rfl, ?_⟩
  show A.depth + Code.weight _ ≤ _
  have e : Code.weight (.builtin "list.__repr__.loop" args) = 1 := by
    unfold Code.weight
    have h1 : Code.isGuard (.builtin "list.__repr__.loop" args) = true := isGuard_list_loop args
    rw [h1]
    rfl
  omega
section
variable {prog : Program} {w : World} {G G' : List Code → Prop} {h₀ : Heap} {d : Nat} {a : Addr} {oa : Obj} {items : Array Value} {na : Nat} {ts : List Str}
/-- the loop's turns, from the i-th item on -/
theorem loop_D {A : Around} {R : Result → Shared → Prop} {P : Addr} (hne : a ≠ P) {base : Nat} {g : List Code} (hg : A.guards = some g) (hGg : G g) (hG : ∀ g rest kw, G g → G' (loopOf a rest kw :: g)) (hh : A.handled = none) (hu : A.units + (d + 1) < cLine) (hdp : A.depth + (d + 1) < recursionLimit)
    (hPf : h₀.get? P = none) (hlen : ts.length = items.size) (hT : ∀ (i : Nat) (x : Value), items[i]? = some x → ∃ t, ts[i]? = some t ∧ ReprD prog w G' h₀ d x t) (hda : oa.data = .seq items na) (hsz : base + (listText ts).length ≤ sizeLine) :
    ∀ (k i : Nat) (s : Shared) (acc : Array Value) (c : Nat) (done : List (Str × Tok)), items.size - i = k → i ≤ items.size → h₀.StaysIn s.heap → s.heap.get? a = some oa →
    s.heap.get? P = some { cls := .type "list", dict := none, data := .seq acc c, slots := #[] } → acc.toList = strValues done → done.map (·.1) = ts.take i →
    (∀ h' u tk, (∀ b o, b ≠ P → s.heap.get? b = some o → h'.get? b = some o) → R (.ok (.ret (.str (listText ts) u))) { s with heap := h', toks := tk }) →
    codeAny (model prog w) A (loopOf a [rawInt i, .ref P, rawInt ((base + piled (ts.take i) : Nat) : Int)] []) R s := by
  have hL := textFrom_len ts 0 "["
  have hX : (listText ts).length = (textFrom 0 "[" ts).length + 1 := by
    show (textFrom 0 "[" ts ++ "]").length = _
    rw [strLen_append]; rfl
  have hL1 := hL.1
  rw [if_neg (Nat.lt_irrefl 0)] at hL1
  have hpl := piled_le_listText ts
  have hfin : (listText ts).length ≤ sizeLine := by omega
  have each : ∀ t ∈ ts, t.length ≤ sizeLine := fun t ht => by
    have := hL.2.1 t ht
    omega
  intro k
  induction k with
  | zero =>
    intro i s acc c done hk hi hk0 ha hP hacc hdone hR
    obtain rfl : i = items.size := by omega
    refine codeAny_builtin F.entry_list_repr_loop ?_
    show wpAny _ _ («list.__repr__.loop» ⟨[.ref a, .int (items.size : Nat) 0, .ref P, .int ((base + piled (ts.take items.size) : Nat) : Int) 0], []⟩) _ _ s
    rw [repr_loop_tree]
    refine wpAny_bind (wpAny_listItems ha hda ?_)
    have none' : items[((items.size : Nat) : Int).toNat]? = none := by simp
    simp only [none']
    unfold reprEnd
    refine wpAny_bind (wpAny_listItems hP rfl ?_)
    rw [hacc, repr_fold]
    have all : done.map (·.1) = ts := by rw [hdone, ← hlen, List.take_length]
    rw [all]
    exact wpAny_bind (wpAny_pure (wpAny_bind (wpAny_mkStr (wpAny_pure (hR s.heap _ _ fun _ _ _ e => e)) hfin)))
  | succ k ih =>
    intro i s acc c done hk hi hk0 ha hP hacc hdone hR
    have hlt : i < items.size := by omega
    obtain ⟨t, ht, hrep⟩ := hT i items[i] (by simp [hlt])
    have hp1 := piled_take_succ ht
    have hp2 := piled_take_le ts (i + 1)
    have hmem := each t (List.mem_of_getElem? ht)
    obtain ⟨u1, u2, u3⟩ := under_loop A ⟨[.ref a, .int i 0, .ref P, .int ((base + piled (ts.take i) : Nat) : Int) 0], []⟩
    refine codeAny_builtin F.entry_list_repr_loop ?_
    show wpAny _ _ («list.__repr__.loop» ⟨[.ref a, .int i 0, .ref P, .int ((base + piled (ts.take i) : Nat) : Int) 0], []⟩) _ _ s
    rw [repr_loop_tree]
    refine wpAny_bind (wpAny_listItems ha hda ?_)
    have some' : items[(i : Int).toNat]? = some items[i] := by simp [hlt]
    simp only [some']
    rw [Int.toNat_natCast]
    refine wpAny_bind (wpAny_holding (hrep (base + piled (ts.take i) + 1) (by omega) _ _ _ _ _ (guards_under_guard (isGuard_list_loop _) hg) (hG g _ _ hGg) (u2.trans hh) (by show Around.units (Around.under _ _) + d < _; rw [units_under_list_loop]; omega) (Nat.lt_of_le_of_lt (Nat.add_le_add_right u3 d) (by omega)) hk0 fun h' tk hkp => ?_))
    refine wpAny_bind (wpAny_mkStr (wpAny_bind ?_) hmem)
    show wpAny _ _ (updateSeq P _) _ _ _
    have small : acc.size ≤ sizeLine := by
      have e1 : acc.size = done.length := by rw [← Array.length_toList, hacc]; simp [strValues]
      have e2 : done.length = (ts.take i).length := by rw [← hdone, List.length_map]
      rw [List.length_take] at e2
      omega
    have off : ∀ b o, h₀.get? b = some o → P ≠ b := fun b o e q => by rw [← q, hPf] at e; cases e
    refine wpAny_updateSeq (hkp _ _ hP) rfl (wpAny_pure ⟨F.quiet_list_repr_loop _, ?_⟩) small
    have e1 : ((i : Int) + 1) = ((i + 1 : Nat) : Int) := by omega
    have e2 : base + piled (ts.take i) + (t.length + 2) = base + piled (ts.take (i + 1)) := by omega
    rw [e1, e2]
    refine ih (i + 1) _ (acc.push (.str t tk)) _ (done ++ [(t, tk)]) (by omega) hlt (fun b o e => (Heap.get?_update_other _ _ (off b o e)).trans (hkp _ _ (hk0 _ _ e))) ((Heap.get?_update_other _ _ (Ne.symm hne)).trans (hkp _ _ ha)) (Heap.get?_update_self _ (hkp _ _ hP) rfl)
      (by simp [hacc, strValues]) (by simp [List.take_add_one, ht, hdone]) fun h'' u tk' hh' => ?_
    exact hR h'' u tk' fun b o hb e => hh' b o hb ((Heap.get?_update_other _ _ (Ne.symm hb)).trans (hkp _ _ e))
/-- a row of at least one item -/
theorem head_D {x : Value} {l : List Value} (ha : h₀.get? a = some oa) (hda : oa.data = .seq (x :: l).toArray na) (hlen : ts.length = (x :: l).toArray.size)
    (hT : ∀ (i : Nat) (y : Value), (x :: l).toArray[i]? = some y → ∃ t, ts[i]? = some t ∧ ReprD prog w G' h₀ d y t) (hG : ∀ g rest kw, G g → G' (loopOf a rest kw :: g)) (hno : ∀ g, G g → ∀ v rest kw, Code.builtin "list.__repr__.loop" ⟨v :: rest, kw⟩ ∈ g → listSameRef v (.ref a) = false)
    {A : Around} {g : List Code} {s : Shared} {R : Result → Shared → Prop} {base : Nat} (hg : A.guards = some g) (hGg : G g) (hh : A.handled = none) (hu : A.units + (d + 1) < cLine) (hdp : A.depth + (d + 1) < recursionLimit) (hk0 : h₀.StaysIn s.heap)
    (hR : ∀ h' u tk, s.heap.StaysIn h' → R (.ok (.ret (.str (listText ts) u))) { s with heap := h', toks := tk }) (hsz : base + (listText ts).length ≤ sizeLine) :
    wpAny (model prog w) A.in1 (Builtin.listReprAt base ⟨[.ref a], []⟩) (fun fin s' => match fin with | .done f => R (.ok f) s' | .again c' => c'.quiet = true ∧ codeAny (model prog w) A c' R s') (fun e s' => R (.error e) s') s := by
  have hPf : h₀.get? s.heap.objs.size = none := by
    cases e : h₀.get? s.heap.objs.size with
    | none => rfl
    | some o => exact absurd (Heap.lt_size (hk0 _ _ e)) (Nat.lt_irrefl _)
  refine wpAny_list_repr_head (A := A.in1) hg (hno g hGg) (hk0 _ _ ha) hda ?_
  refine wpAny_bind (m := newList []) (wpAny_newObj_type ?_)
  refine wpAny_pure ⟨F.quiet_list_repr_loop _, ?_⟩
  refine loop_D (G := G) (G' := G') (P := s.heap.objs.size) (Nat.ne_of_lt (Heap.lt_size (hk0 _ _ ha))) hg hGg hG hh hu hdp hPf hlen hT hda hsz _ 0 _ #[] _ [] rfl (Nat.zero_le _) (fun b o e => Heap.get?_push_of_some _ (hk0 _ _ e)) (Heap.get?_push_of_some _ (hk0 _ _ ha)) (Heap.get?_push_size _ rfl) rfl (by simp) fun h' u tk hk => ?_
  exact hR h' u tk fun b o e => hk b o (Nat.ne_of_lt (Heap.lt_size e)) (Heap.get?_push_of_some _ e)
theorem ReprD.list {x : Value} {l : List Value} (ha : h₀.get? a = some oa) (hc : oa.cls = .type "list") (hda : oa.data = .seq (x :: l).toArray na) (hlen : ts.length = (x :: l).toArray.size)
    (hT : ∀ (i : Nat) (y : Value), (x :: l).toArray[i]? = some y → ∃ t, ts[i]? = some t ∧ ReprD prog w G' h₀ d y t) (hG : ∀ g rest kw, G g → G' (loopOf a rest kw :: g)) (hno : ∀ g, G g → ∀ v rest kw, Code.builtin "list.__repr__.loop" ⟨v :: rest, kw⟩ ∈ g → listSameRef v (.ref a) = false) :
    ReprD prog w G h₀ (d + 1) (.ref a) (listText ts) := by
  intro base hb A g E s Q hg hGg hh hu hdp hk0 hQ
  have hTy : s.TypeIs (.ref a) "list" := ⟨oa, hk0 _ _ ha, hc⟩
  refine wpAny_pyReprUnder_ref (by omega) (wpAny_pyReprObjUnder_twin (twin := "list.__repr__.under") hTy F.slot_list_repr.toG rfl (by omega) ?_)
  refine call_twin_plain F.plain_list_repr_under F.entry_list_repr_under F.check_list_repr_under hTy F.slot_list_repr.toG (F.args_list_repr_1 _) ?_
  refine head_D (R := callEnd _ E) ha hda hlen hT hG hno hg hGg hh hu hdp hk0 (fun h' u tk hk => ?_) hb
  exact ⟨⟨_, _, rfl⟩, _, _, rfl, hQ h' tk hk⟩
theorem ReprD.empty (ha : h₀.get? a = some oa) (hc : oa.cls = .type "list") (hda : oa.data = .seq #[] na) : ReprD prog w G h₀ d (.ref a) "[]" := by
  intro base hb A g E s Q _ _ _ hu _ hk0 hQ
  exact wpAny_pyReprUnder_ref (by omega) (wpAny_pyReprObjUnder_list_empty ⟨oa, hk0 _ _ ha, hc⟩ (by omega) (hk0 _ _ ha) hda ⟨_, _, rfl, hQ s.heap _ fun _ _ e => e⟩)
end
end Mine
namespace Mine
theorem walk_none_Rp1 : True := by
  k_with_none
  trivial
end Mine
open PySem PySem.W PyProof.Rows PySem.Calls
namespace Mine
open Builtin Builtin.ObjectAttr
section
variable {prog : Program} {w : World} {A : Around} {E : Value → Shared → Prop} {s : Shared} {K : Frag} {h₀ : Heap} {L C x dx : Addr} {m : Str → Option Value} {news : List (Addr × Obj)} {n : Int} {tk t : Tok} {v : Value} {name : Str} {R : Result → Shared → Prop} {od : Obj}
theorem ni_get_code (N : NiF K C) (X : K.In s.heap) (hx : s.heap.get? x = some (niObj C dx n tk)) (hd : s.heap.get? dx = some od) (hf : findObj K C (some od) name = some (.value v)) (h : R (.ok (.ret v)) s) :
    codeAny (model prog w) A (.call (.builtin "int.__getattribute__") ⟨[.ref x, .str name t], []⟩) R s := by
  have k1 : builtinKind "int.__getattribute__" = some .slot := by decide +kernel
  have k2 : splitId "int.__getattribute__" = some ("int", "__getattribute__") := by decide +kernel
  have k3 := PySem.F.args_int_getattribute_2 (.ref x) (.str name t)
  refine codeAny_call_builtin (by decide +kernel) PySem.F.entry_int_ga ?_
  refine ni_slot (id := "int.__getattribute__") (rest := [.str name t]) (kw := []) N X hx (nm := "__getattribute__") k1 k2 k3 ?_
  have L0 := ni_type (M := model prog w) hx
  have L1 := looks_find (M := model prog w) X (ni_instAt hx hd) hf
  obtain ⟨hp, g, dr, t, os⟩ := s
  unfold Builtin.«object.__getattribute__»
  repeat (first | assumption | with_reducible refine Looks.at L0 ?_ | with_reducible refine Looks.at L1 ?_ | wp_step)
theorem ni_get {expr : Bool} {Q : Value → Shared → Prop} (N : NiF K C) (X : K.In s.heap) (hx : s.heap.get? x = some (niObj C dx n tk)) (hd : s.heap.get? dx = some od) (hga : findIn K (.ref C) "__getattribute__" = some (some (.builtin "int.__getattribute__"))) (hgh : findIn K (.ref C) "__getattr__" = some none)
    (hf : findObj K C (some od) name = some (.value v)) (hh : handedIn v = true) (h : Q v { s with toks := s.toks + 1 }) : wpAny (model prog w) A (getAttr (.ref x) name expr) Q E s := by
  have L0 := ni_type (M := model prog w) hx
  have L1 := looks_findIn (M := model prog w) X hga
  have L2 := looks_findIn (M := model prog w) X hgh
  have f3 := PySem.F.slot_int_getattribute.bind (.ref x)
  have f4 := handedOut_of hh
  have hx0 : (expr && onTheHeap (Value.builtin "int.__getattribute__")) = false := by cases expr <;> rfl
  have hx2 : (Value.builtin "int.__getattribute__" == Value.builtin "object.__getattribute__") = false := by decide +kernel
  have hx1 : (onTheHeap (Value.ref C) && Value.builtin "int.__getattribute__" == Value.builtin "object.__getattribute__") = false := by rw [hx2]; rfl
  obtain ⟨hp, g, d, t, os⟩ := s
  unfold getAttr getAttrBy
  repeat (first | assumption | with_reducible refine Looks.at L0 ?_ | with_reducible refine Looks.at L1 ?_ | with_reducible refine Looks.at L2 ?_ | wp_step)
  refine ni_get_code N X hx hd hf ?_
  show wpAny _ _ (handedOut v) _ _ _
  rw [f4]
  exact wpAny_pure h
end
end Mine
namespace Mine
theorem walk_none_Ni10 : True := by
  k_with_none
  trivial
end Mine
open PySem PySem.W PyProof.Rows PySem.Calls
namespace Mine
section
variable {prog : Program} {w : World} {A : Around} {s : Shared} {mg mb : Str → Option Value} {K : Frag} {p : Program} {loose : List Str} {mean : ExcName → Option Value}
  {R : Result → Shared → Prop} {name qual : Str} {params : Arguments} {body : List Stmt} {scope : Scope} {dV kV doc pm cdv ct oc : Value} {an od : Option Addr} {osl : Array (Option Value)} {f : Addr} {args : Args} {binds : List (Str × Value)}
/-- a callee that is entered from anywhere -/
theorem enter_plain (Xs : K.In s.heap) (Ts : Top p loose mean mg mb s.heap)
    (ho : K.lookup f = some ⟨oc, od, .func (fnOf name qual params body scope dV kV doc pm an cdv ct), osl⟩) (hcd : codeIn K cdv qual = true) (hroom : A.depth < recursionLimit)
    (hbind : BindsTo s (fnOf name qual params body scope dV kV doc pm an cdv ct) args binds) (hloc : ∀ y ∈ binds, scope.names.lookup y.1 = some .local)
    (h : ∀ L' h₁, Fr s.heap L' h₁ (fun y => binds.reverse.lookup y) → News s.heap L' h₁ [] →
      wpAny (model prog w) (A.deeper (envOf qual scope L' f cdv)) (execs body (envOf qual scope L' f cdv))
        (fun fl s' => Back s (fun v s' => R (.ok (.ret v)) s') (match fl with | .ret v => v | _ => .none) s')
        (fun e s' => wpAny (model prog w) (A.deeper (envOf qual scope L' f cdv)) (leaving (envOf qual scope L' f cdv) e) (fun _ s'' => R (.error e) s'') (fun e' s'' => R (.error e') s'') s')
        { s with heap := h₁, toks := s.toks + binds.length })
    (hcell : ∀ x ∈ scope.names, x.2 ≠ .cell) (hco : scope.isCoroutine = false) (hgen : scope.isGenerator = false) (hk : scope.kind = .function) : codeAny (model prog w) A (.call (.ref f) args) R s := by
  refine codeAny_call_def (fd := fnOf name qual params body scope dV kV doc pm an cdv ct) (body := body) (binds := binds) hroom (Xs _ _ ho) rfl Ts.nolimit (codeRec_of Xs hcd) rfl hbind hcell hloc (fun h₁ hns hk₁ => ?_) hco hgen hk
  exact h s.heap.objs.size h₁ ⟨hns, hk₁, Nat.le_refl _⟩ News.nil
end
local macro_rules | `(tactic| k_inst) => `(tactic| exact ni_instAt (Fr.keep (by k_asm) _ _ (by assumption)) (Fr.keep (by k_asm) _ _ (by assumption)))
/-- the body of __repr__ -/
theorem repr_fn {w : World} {dp un : Nat} {gd : Option (List Code)} {fr : Option (List Env)} {s : Shared} {R : Result → Shared → Prop}
  {mean : ExcName → Option Value} {mg mb : Str → Option Value} {x dx : Addr} {n : Int} {nm : Str} {t tk tn : Tok}
  (Xs : (hd.heap_39 w.params).In s.heap) (Ts : Top hd.view_39 (looseW hd.view_39 [Str.ofString "_NamedIntConstant"]) mean mg mb s.heap)
  (hdp : dp < recursionLimit) (hx : s.heap.get? x = some (niObj 40 dx n t)) (hn : s.heap.get? dx = some (nameD w.params tk nm tn))
  (ret : ∀ (h' : Heap) (tk : Nat), s.heap.StaysIn h' → R (.ok (.ret (.str nm tn))) { s with heap := h', toks := tk }) :
  codeAny (model PySem.Challenge.rw_dn0146_02.row.prog w) ⟨none, dp, fr, gd, un⟩ (.call (.ref 37) ⟨[.ref x], []⟩) R s := by
  revert Xs; k_fill; intro Xs
  k_dflt (refine' enter_plain ?k3 ?k4 ?k6 ?k7 ?k8 ?k9 ?k10 ?_ ?c1 ?c2 ?c3 ?c4; (case k3 => exact Xs); (case k4 => exact Ts); (case k6 => k_is); (case k7 => k_is); (case k8 => ktr_room); (case k9 => exact BindsTo.of_eq (binds := [(Str.ofString "self", Value.ref x)]) rfl); (case k10 => exact locs rfl); (case c1 => decide); (case c2 => exact rfl); (case c3 => exact rfl); (case c4 => exact rfl); intro L' h' F' N'; (try dsimp only))
  have X' := Xs
  have hl : lookIn (Str.ofString "name") (nameD w.params tk nm tn) = some (some (.str nm tn)) := by
    rw [lookIn_dict]
    k_get
  k_steps
  refine ni_get (niF02 (by k_asm)).toNiF (X'.keeps F'.keep) (Fr.keep (by k_asm) _ _ hx) (Fr.keep (by k_asm) _ _ hn) (by k_is) (by k_is) (findObj_own (by k_is) (by k_is) (by k_is) hl) rfl ?_
  exact ret _ _ (Fr.keep (by k_asm))
end Mine
namespace Mine
theorem walk_none_Rp2 : True := by
  k_with_none
  trivial
end Mine
open PySem PySem.W PyProof.Rows PySem.Calls
namespace Mine
open Builtin Builtin.List
abbrev T02 (mean : ExcName → Option Value) (mg mb : Str → Option Value) (h : Heap) : Prop := Top hd.view_39 (looseW hd.view_39 [Str.ofString "_NamedIntConstant"]) mean mg mb h
theorem repr_in {w : World} {h : Heap} (X : (hd.heap_39 w.params).In h) : findIn (hd.heap_39 w.params) (.ref 40) "__repr__" = some (some (.ref 37)) ∧ typeIn (hd.heap_39 w.params) (.ref 37) = some (.type "function") := by
  revert X
  refine (?_ : PySem.Challenge.rw_dn0146_02 = PySem.Challenge.rw_dn0146_02 → (hd.heap_39 w.params).In h → _) rfl
  k_fill; intro _ X
  exact ⟨by k_is, by k_is⟩
/-- a constant is written as its name -/
theorem ReprD.inst {w : World} {G : List Code → Prop} {h₀ : Heap} {mean : ExcName → Option Value} {mg mb : Str → Option Value} {x dx : Addr} {n : Int} {nm : Str} {t tk tn : Tok}
  (X : (hd.heap_39 w.params).In h₀) (T : T02 mean mg mb h₀) (hx : h₀.get? x = some (niObj 40 dx n t)) (hn : h₀.get? dx = some (nameD w.params tk nm tn)) :
  ReprD PySem.Challenge.rw_dn0146_02.row.prog w G h₀ 2 (.ref x) nm := by
  intro base hb A g E s Q hg hGg hh hu hdp hk hQ
  obtain ⟨hd', dp, fr, gd, un⟩ := A
  dsimp only at hh hu hdp hg
  subst hh
  have Xs := X.keeps hk
  obtain ⟨r1, r2⟩ := repr_in X
  have L0 := ni_type (M := model PySem.Challenge.rw_dn0146_02.row.prog w) (hk _ _ hx)
  have L1 := looks_findIn (M := model PySem.Challenge.rw_dn0146_02.row.prog w) Xs r1
  have fin : wpAny (model PySem.Challenge.rw_dn0146_02.row.prog w) ⟨none, dp, fr, gd, un⟩ (call (.ref 37) [.ref x]) (fun v s' => ∃ u h' tk', v = .str nm u ∧ s' = { s with heap := h', toks := tk' } ∧ s.heap.StaysIn h') E s :=
    wpAny_call (repr_fn Xs (T.keeps hk) (by omega) (hk _ _ hx) (hk _ _ hn) fun h' tk' st => ⟨_, _, _, rfl, rfl, st⟩)
  refine wpAny_pyReprUnder_ref (by omega) ?_
  unfold pyReprObjUnder pyReprObjBy
  refine wpAny_bind (wpAny_cRoomFor (by show un < cLine; omega) ?_)
  refine wpAny_bind (wpAny_bind (L0.here (L1.here ?_)))
  show wpAny _ _ (if (some (Value.ref 37)).isNone = true then _ else _) _ _ _
  rw [if_neg (by simp)]
  simp only [callSpecialIfBoundBy?, bindSpecialIfBound?]
  refine wpAny_bind (wpAny_holding (wpAny_bind (wpAny_bind (wpAny_bind (L0.here (L1.here ?_))))))
  refine wpAny_bind (wpAny_askSetting (wpAny_ite ?_))
  split
  · refine wpAny_bind ((bind_fn Xs _ r2).here (wpAny_pure ?_))
    show wpAny _ _ (call (.ref 37) [.ref x] >>= fun v => pure (some v)) _ _ _
    refine wpAny_bind (wpAny_mono fin (fun v s' hv => ?_) fun _ _ e => e)
    obtain ⟨u, h', tk', rfl, rfl, st⟩ := hv
    exact wpAny_pure (wpAny_bind (wpAny_isInstance (T := "str") (b := true) rfl isSubtype_str_str (wpAny_pure ⟨_, _, rfl, hQ h' tk' st⟩)))
  · refine wpAny_tryCatch (wpAny_bind ((bind_fn Xs _ r2).here (wpAny_pure ?_)))
    show wpAny _ _ (call (.ref 37) [.ref x] >>= fun v => pure (some v)) _ _ _
    refine wpAny_bind (wpAny_mono fin (fun v s' hv => ?_) fun _ _ e => e)
    obtain ⟨u, h', tk', rfl, rfl, st⟩ := hv
    exact wpAny_pure (wpAny_bind (wpAny_isInstance (T := "str") (b := true) rfl isSubtype_str_str (wpAny_pure ⟨_, _, rfl, hQ h' tk' st⟩)))
mutual
/-- how a tree is written -/
def Tr.txt : Tr → Str
  | .row l => listText (txtL l)
  | .con _ nm => nm
  | .num n => Str.ofString (toString n)
def txtL : List Tr → List Str
  | [] => []
  | t :: r => t.txt :: txtL r
end
theorem txtL_len : ∀ l : List Tr, (txtL l).length = l.length
  | [] => rfl
  | t :: r => by rw [txtL, List.length_cons, List.length_cons, txtL_len r]
section
variable {P : Params} {h : Heap}
theorem listOf_inj {vs us : List Value} {k j : Nat} (e : W.listOf vs.toArray k = W.listOf us.toArray j) : vs = us := by
  injection e with _ _ e _
  injection e with e _
  simpa using e
mutual
/-- a value stands for one tree alone -/
theorem OIn.det : ∀ {v : Value} {t t' : Tr}, OIn P (inH h) v t → OIn P (inH h) v t' → t = t'
  | _, _, _, .row h1 r, .row h2 r' => by
    have e := h1.symm.trans h2
    have e := listOf_inj (Option.some.inj e)
    rw [OAll.det r (e ▸ r')]
  | _, _, _, .row h1 r, .con h2 _ => by
    have e := Option.some.inj (h1.symm.trans h2)
    injection e with e
    cases e
  | _, _, _, .con h1 _, .row h2 r => by
    have e := Option.some.inj (h1.symm.trans h2)
    injection e with e
    cases e
  | _, _, _, .con h1 d1, .con h2 d2 => by
    have e := Option.some.inj (h1.symm.trans h2)
    injection e with _ e1 e2 _
    injection e1 with e1
    injection e2 with e2
    injection e2 with e2 _
    subst e1 e2
    have e := Option.some.inj (d1.symm.trans d2)
    injection e with _ _ e _
    injection e with e _
    have e := congrArg (fun a => a[0]?.map DictEntry.val) e
    simp at e
    rw [e.1]
  | _, _, _, .num, .num => rfl
theorem OAll.det : ∀ {vs : List Value} {ts us : List Tr}, OAll P (inH h) vs ts → OAll P (inH h) vs us → ts = us
  | _, _, _, .nil, .nil => rfl
  | _, _, _, .cons a r, .cons b r' => by rw [OIn.det a b, OAll.det r r']
end
/-- each row that is being written is larger than what is written now -/
def GOk (P : Params) (h : Heap) (k : Nat) (g : List Code) : Prop := ∀ id c rest kw, Code.builtin id ⟨.ref c :: rest, kw⟩ ∈ g → ∃ t', OIn P (inH h) (.ref c) t' ∧ k < t'.sz
theorem GOk.le {k k' : Nat} {g : List Code} (hg : GOk P h k g) (l : k' ≤ k) : GOk P h k' g := fun id c rest kw hm =>
  let ⟨t, a, b⟩ := hg id c rest kw hm
  ⟨t, a, by omega⟩
theorem GOk.no {a : Addr} {t : Tr} (o : OIn P (inH h) (.ref a) t) (g : List Code) (hg : GOk P h t.sz g) (v : Value) (rest : List Value) (kw : List (Str × Value)) (hm : Code.builtin "list.__repr__.loop" ⟨v :: rest, kw⟩ ∈ g) : listSameRef v (.ref a) = false := by
  refine listSameRef_of_ne fun e => ?_
  subst e
  obtain ⟨t', o', l⟩ := hg _ _ _ _ hm
  rw [o.det o'] at l
  exact Nat.lt_irrefl _ l
theorem GOk.in {a : Addr} {ts : List Tr} {k : Nat} (o : OIn P (inH h) (.ref a) (.row ts)) (l : k < (Tr.row ts).sz) (g : List Code) (rest : List Value) (kw : List (Str × Value)) (hg : GOk P h (Tr.row ts).sz g) : GOk P h k (loopOf a rest kw :: g) := by
  intro id c rest' kw' hm
  rcases List.mem_cons.mp hm with e | hm
  · cases e
    exact ⟨_, o, l⟩
  · exact (hg.le (by omega)) id c rest' kw' hm
end
end Mine
namespace Mine
theorem walk_none_Rp3 : True := by
  k_with_none
  trivial
end Mine
open PySem PySem.W PyProof.Rows PySem.Calls
namespace Mine
open Builtin Builtin.List
section
variable {w : World} {h₀ : Heap} {mean : ExcName → Option Value} {mg mb : Str → Option Value}
theorem txt_nil : listText [] = "[]" := by decide
mutual
theorem OIn.repr (X : (hd.heap_39 w.params).In h₀) (T : T02 mean mg mb h₀) : ∀ {v : Value} {t : Tr}, OIn w.params (inH h₀) v t → t.small BB → ReprD PySem.Challenge.rw_dn0146_02.row.prog w (GOk w.params h₀ t.sz) h₀ (t.sz + 2) v t.txt
  | _, _, .row (a := a) (vs := []) (k := k) h1 .nil, _ => by
    rw [Tr.txt, txtL, txt_nil]
    exact ReprD.empty h1 rfl rfl
  | _, _, .row (a := a) (vs := x :: l) (k := k) (ts := ts) h1 r, hs => by
    have o : OIn w.params (inH h₀) (.ref a) (.row ts) := .row h1 r
    have e : (Tr.row ts).sz + 2 = (szT ts + 2) + 1 := by rw [Tr.sz]; omega
    rw [e, Tr.txt]
    refine ReprD.list (G' := GOk w.params h₀ (szT ts)) h1 rfl rfl (by rw [txtL_len, ← r.len]; simp) (fun i y hy => OAll.repr X T r hs i y (by simpa using hy)) (fun g rest kw hg => GOk.in o (by rw [Tr.sz]; omega) g rest kw hg) (fun g hg v rest kw hm => GOk.no o g hg v rest kw hm)
  | _, _, .con h1 h2, hs => by
    rw [Tr.txt]
    exact (ReprD.inst (G := GOk w.params h₀ _) X T h1 h2).up (fun _ g => g) (by omega)
  | _, _, .num, hs => by
    rw [Tr.txt]
    exact ReprD.of_is (ReprIs.int _ (log_small hs))
theorem OAll.repr (X : (hd.heap_39 w.params).In h₀) (T : T02 mean mg mb h₀) : ∀ {vs : List Value} {ts : List Tr}, OAll w.params (inH h₀) vs ts → smallL BB ts → ∀ (i : Nat) (x : Value), vs[i]? = some x → ∃ t, (txtL ts)[i]? = some t ∧ ReprD PySem.Challenge.rw_dn0146_02.row.prog w (GOk w.params h₀ (szT ts)) h₀ (szT ts + 2) x t
  | _, _, .nil, _, i, x, hx => by simp at hx
  | _, _, .cons (t := t) (ts := ts) o r, hs, i, x, hx => by
    rw [smallL] at hs
    rw [szT, txtL]
    cases i with
    | zero =>
      simp at hx
      subst hx
      exact ⟨_, rfl, (OIn.repr X T o hs.1).up (fun _ g => g.le (by omega)) (by omega)⟩
    | succ i =>
      simp at hx
      obtain ⟨t', e, d⟩ := OAll.repr X T r hs.2 i x hx
      exact ⟨t', by simpa using e, d.up (fun _ g => g.le (by omega)) (by omega)⟩
end
/-- repr of the outermost row -/
theorem repr_built {a : Addr} {ts : List Tr} {A : Around} {g : List Code} {E : Value → Shared → Prop} {s : Shared} {Q : Value → Shared → Prop} (X : (hd.heap_39 w.params).In h₀) (T : T02 mean mg mb h₀) (o : OIn w.params (inH h₀) (.ref a) (.row ts)) (hs : smallL BB ts)
    (hg : A.guards = some g) (hGg : GOk w.params h₀ (Tr.row ts).sz g) (hh : A.handled = none) (hu : A.units + 1 + (szT ts + 3) < cLine) (hdp : A.depth + (szT ts + 3) < recursionLimit) (hk0 : h₀.StaysIn s.heap) (hsz : (Tr.row ts).txt.length ≤ sizeLine)
    (hQ : ∀ h' u tk, s.heap.StaysIn h' → Q (.str (Tr.row ts).txt u) { s with heap := h', toks := tk }) :
    wpAny (model PySem.Challenge.rw_dn0146_02.row.prog w) A (call (.builtin "repr") [.ref a]) Q E s := by
  cases id o with
  | row h1 r =>
  rename_i vs k
  have hTy : s.TypeIs (.ref a) "list" := ⟨_, hk0 _ _ h1, rfl⟩
  refine call_repr_slot (idr := "list.__repr__") (by omega) hTy F.slot_list_repr.toG ?_
  rw [Tr.txt] at hsz hQ
  cases vs with
  | nil =>
    cases r
    rw [txtL, txt_nil] at hQ
    exact call_list_repr_empty hTy (hk0 _ _ h1) rfl ⟨_, _, rfl, hQ _ _ _ fun _ _ e => e⟩
  | cons x l =>
    refine wpAny_call (codeAny_call_builtin F.slot_list_repr.plain F.entry_list_repr (F.slot_list_repr.check _ _ _ _ _ _ _ _ hTy (F.args_list_repr_1 _) ?_))
    exact head_D (G := GOk w.params h₀ (Tr.row ts).sz) (G' := GOk w.params h₀ (szT ts)) (d := szT ts + 2) (base := 0) (R := callEnd _ E) h1 rfl (by rw [txtL_len, ← r.len]; simp) (fun i y hy => OAll.repr X T r hs i y (by simpa using hy)) (fun g rest kw hg => GOk.in o (by rw [Tr.sz]; omega) g rest kw hg) (fun g hg v rest kw hm => GOk.no o g hg v rest kw hm)
      hg hGg hh (by show A.units + 1 + _ < _; omega) (by show A.depth + _ < _; omega) hk0 (fun h' u tk st => ⟨_, _, rfl, hQ h' u tk st⟩) (by omega)
end
end Mine
namespace Mine
theorem walk_none_Rp4 : True := by
  k_with_none
  trivial
end Mine
open PySem PySem.W PyProof.Rows PySem.Calls
namespace Mine
theorem listText_join (ts : List Str) : (Str.ofString "[" ++ Txt.join (Str.ofString ", ") ts) ++ Str.ofString "]" = listText ts := by
  rw [listText_eq_join, show Txt.join (Str.ofString ", ") ts = Str.join (Str.ofString ", ") ts from StrLaws.glued_eq_join _ _]
theorem sum_len (ts : List Str) : (ts.map (·.length)).sum + ts.length * 2 = piled ts := by
  unfold piled
  induction ts with
  | nil => rfl
  | cons t r ih =>
    simp only [List.map_cons, List.sum_cons, List.length_cons]
    omega
theorem listText_len (ts : List Str) : (listText ts).length ≤ piled ts + 2 := by
  cases ts with
  | nil => decide
  | cons t r =>
    have h := textFrom_length_pos r 1 (("[" : Str) ++ (if (0 : Nat) > 0 then ", " else "" : String) ++ t) (Nat.succ_pos 0)
    have e : ((("[" : Str) ++ (if (0 : Nat) > 0 then ", " else "" : String) ++ t)).length = 1 + t.length := by
      rw [if_neg (Nat.lt_irrefl 0), strLen_append, strLen_append]
      show 1 + 0 + t.length = _
      omega
    have : (listText (t :: r)).length = (textFrom 1 (("[" : Str) ++ (if (0 : Nat) > 0 then ", " else "" : String) ++ t) r).length + 1 := by
      show (textFrom 0 "[" (t :: r) ++ "]").length = _
      rw [strLen_append]; rfl
    rw [this, h, e, piled_cons]
    omega
theorem num_len {n : Int} (h : -BB ≤ n ∧ n ≤ BB) : (Str.ofString (toString n)).length ≤ 1000 := by
  have eBB : BB = 2 * 10 ^ 31 := rfl
  have e := int_text_length_le10 (a := n) (k := 32) (by decide) (by omega)
  rw [PySem.ofString_length]
  omega
mutual
theorem Tr.txt_len : ∀ t : Tr, t.small BB → t.txt.length + 2 ≤ 1010 * t.sz
  | .row l, h => by
    have h1 := listText_len (txtL l)
    have h2 := txtL_len' l h
    rw [Tr.txt, Tr.sz]
    omega
  | .con n nm, h => by
    have := h.2
    rw [Tr.txt, Tr.sz]
    omega
  | .num n, h => by
    have := num_len h
    rw [Tr.txt, Tr.sz]
    omega
theorem txtL_len' : ∀ l : List Tr, smallL BB l → piled (txtL l) ≤ 1010 * szT l
  | [], _ => by rw [txtL, piled_nil]; omega
  | t :: r, h => by
    have h1 := t.txt_len h.1
    have h2 := txtL_len' r h.2
    rw [txtL, piled_cons, szT]
    omega
end
end Mine
namespace Mine
theorem walk_none_Tx8 : True := by
  k_with_none
  trivial
end Mine
open PySem PySem.W PyProof.Rows PySem.Calls
namespace Mine
open Builtin Builtin.ObjectAttr
section
variable {prog : Program} {w : World} {A : Around} {E : Value → Shared → Prop} {s : Shared} {K : Frag} {C x dx : Addr} {n : Int} {tk t : Tok} {R : Result → Shared → Prop} {od : Obj}
theorem ni_class_code (N : NiF K C) (X : K.In s.heap) (hx : s.heap.get? x = some (niObj C dx n tk)) (hd : s.heap.get? dx = some od) (hf : findObj K C (some od) "__class__" = some (.bind (.builtin "getset_descriptor.__get__") (.builtin "object.__class__"))) (hm : mroIn K C (.type "object") = some true) (h : R (.ok (.ret (.ref C))) s) :
    codeAny (model prog w) A (.call (.builtin "int.__getattribute__") ⟨[.ref x, .str "__class__" t], []⟩) R s := by
  have k1 : builtinKind "int.__getattribute__" = some .slot := by decide +kernel
  have k2 : splitId "int.__getattribute__" = some ("int", "__getattribute__") := by decide +kernel
  have k3 := PySem.F.args_int_getattribute_2 (.ref x) (.str "__class__" t)
  refine codeAny_call_builtin (by decide +kernel) PySem.F.entry_int_ga ?_
  refine ni_slot (id := "int.__getattribute__") (rest := [.str "__class__" t]) (kw := []) N X hx (nm := "__getattribute__") k1 k2 k3 ?_
  have I := ni_instAt hx hd
  have L0 := ni_type (M := model prog w) hx
  have L1 := looks_find (M := model prog w) X I hf
  have cg : ∀ {A : Around} {R : Result → Shared → Prop}, R (.ok (.ret (.ref C))) s → codeAny (model prog w) A (.call (.builtin "getset_descriptor.__get__") ⟨[.builtin "object.__class__", .ref x, .ref C], []⟩) R s := fun q => class_get X I hm q
  obtain ⟨hp, g, dr, t, os⟩ := s
  unfold Builtin.«object.__getattribute__»
  repeat (first | assumption | with_reducible refine Looks.at L0 ?_ | with_reducible refine Looks.at L1 ?_ | with_reducible refine cg ?_ | wp_step)
theorem ni_class {Q : Option Value → Shared → Prop} (N : NiF K C) (X : K.In s.heap) (hx : s.heap.get? x = some (niObj C dx n tk)) (hd : s.heap.get? dx = some od) (hga : findIn K (.ref C) "__getattribute__" = some (some (.builtin "int.__getattribute__"))) (hgh : findIn K (.ref C) "__getattr__" = some none)
    (hf : findObj K C (some od) "__class__" = some (.bind (.builtin "getset_descriptor.__get__") (.builtin "object.__class__"))) (hm : mroIn K C (.type "object") = some true) (h : Q (some (.ref C)) { s with toks := s.toks + 1 }) : wpAny (model prog w) A (getAttr? (.ref x) "__class__") Q E s := by
  have L0 := ni_type (M := model prog w) hx
  have L1 := looks_findIn (M := model prog w) X hga
  have L2 := looks_findIn (M := model prog w) X hgh
  have f3 := PySem.F.slot_int_getattribute.bind (.ref x)
  have f4 : handedOut (.ref C) = pure (.ref C) := handedOut_of rfl
  have hx2 : (Value.builtin "int.__getattribute__" == Value.builtin "object.__getattribute__") = false := by decide +kernel
  have hx1 : (onTheHeap (Value.ref C) && Value.builtin "int.__getattribute__" == Value.builtin "object.__getattribute__") = false := by rw [hx2]; rfl
  have cc : ∀ {A : Around} {R : Result → Shared → Prop} {t : Tok}, R (.ok (.ret (.ref C))) { s with toks := s.toks + 1 } → codeAny (model prog w) A (.call (.builtin "int.__getattribute__") ⟨[.ref x, .str "__class__" t], []⟩) R { s with toks := s.toks + 1 } := fun q => ni_class_code (s := { s with toks := s.toks + 1 }) N X hx hd hf hm q
  obtain ⟨hp, g, d, t, os⟩ := s
  unfold getAttr? getAttrBy? getAttrBy
  repeat (first | assumption | with_reducible refine Looks.at L0 ?_ | with_reducible refine Looks.at L1 ?_ | with_reducible refine Looks.at L2 ?_ | wp_step)
  refine cc ?_
  show wpAny _ _ (handedOut _) _ _ _
  rw [f4]
  repeat (first | assumption | wp_step)
end
/-- an object of the class under isinstance -/
theorem kitx_ni {K : Frag} {C x dx : Addr} {n : Int} {tk : Tok} {od : Obj} (N : NiF K C) (hga : findIn K (.ref C) "__getattribute__" = some (some (.builtin "int.__getattribute__"))) (hgh : findIn K (.ref C) "__getattr__" = some none)
    (hf : findObj K C (some od) "__class__" = some (.bind (.builtin "getset_descriptor.__get__") (.builtin "object.__class__"))) (hm : mroIn K C (.type "object") = some true) :
    KitX K (.ref x) (.ref C) (fun h => h.get? x = some (niObj C dx n tk) ∧ h.get? dx = some od) where
  ty := fun M h X hx => (ni_instAt hx.1 hx.2).type
  it := fun M h X _ => N.ltype X
  ne := fun h tp dd its n sl X htp => by
    obtain ⟨nm, q, N', k0, k1, k2, k3, k5, e⟩ := N.obj
    refine Bool.eq_false_iff.mpr fun q => ?_
    have e' : C = tp := Value.ref.inj (beq_iff_eq.mp q)
    subst e'
    have z := (X _ _ e).symm.trans htp
    injection z with z
    injection z with _ _ z
    cases z
  ca := fun X hx q => ni_class N X hx.1 hx.2 hga hgh hf hm q
theorem class_find {K : Frag} {C : Addr} {od : Obj} (hc : hasDictIn K C = true) (ha : findIn K (.ref C) "__class__" = some (some (.builtin "object.__class__"))) (hg : specialIn K (.builtin "object.__class__") "__get__" = some (some (.builtin "getset_descriptor.__get__"))) (ht : takesIn K (.builtin "object.__class__") = some true) :
    findObj K C (some od) "__class__" = some (.bind (.builtin "getset_descriptor.__get__") (.builtin "object.__class__")) := findObj_data (by obtain ⟨cd, q, _⟩ := any_some hc; rw [q]; rfl) ha hg ht
/-- isinstance(leaf, list) of a constant -/
theorem ni_isi_list {w : World} {h₀ : Heap} {s : Shared} {A : Around} {E Q : Value → Shared → Prop} {x dx : Addr} {n : Int} {tk : Tok} {od : Obj} (X₀ : (hd.heap_39 w.params).In h₀) (st : h₀.StaysIn s.heap) (hx : s.heap.get? x = some (niObj 40 dx n tk)) (hd' : s.heap.get? dx = some od)
    (h : ∀ tk, Q (.bool false) { s with toks := tk }) : wpAny (model PySem.Challenge.rw_dn0146_02.row.prog w) A (call (.builtin "isinstance") [.ref x, .type "list"]) Q E s := by
  have X := X₀.keeps st
  revert X₀ X
  refine (?_ : PySem.Challenge.rw_dn0146_02 = PySem.Challenge.rw_dn0146_02 → _) rfl
  k_fill; intro _ X₀ X
  exact kia_one (b := false) (kitx_ni (niF02 X₀).toNiF (by k_is) (by k_is) (class_find (by k_is) (by k_is) (by k_is) (by k_is)) (by k_is)) X ⟨hx, hd'⟩ (by kit_is) (fun e => nomatch e) h
end Mine
namespace Mine
theorem walk_none_Ni11 : True := by
  k_with_none
  trivial
end Mine
open PySem PySem.W PyProof.Rows PySem.Calls
namespace Mine
section
variable {prog : Program} {w : World} {A : Around} {E : Value → Shared → Prop} {s : Shared} {h₀ : Heap} {L : Addr} {m : Str → Option Value} {env : Env}
/-- the turns of a comprehension, by what G says after i items -/
theorem comp_each {elt : Expr} {x : Str} {scope : Scope} {cl : List (Str × Addr)} {S : List (Addr × Obj) → Prop} {vs : List Value} {Fin : List Value → List (Addr × Obj) → Prop} {news : List (Addr × Obj)} (G : Nat → List Value → List (Addr × Obj) → Prop) (h0 : G 0 [] news)
    (turn : ∀ i v I oI C oC D m₂ ys nw h tk (E' : Value → Shared → Prop), vs[i]? = some v → G i ys nw → LCg.NsObj oC m₂ → m₂ x = some v → Fr h₀ L h m → News h₀ L h ((I, oI) :: (C, oC) :: (D, LCg.lst ys) :: nw) → LCg.Off3 I C D nw → ((@Ne Nat I C) ∧ (@Ne Nat I D) ∧ (@Ne Nat C D)) →
      wpAny (model prog w) A (eval elt (compEnvC scope cl C env)) (LCg.CompEnd h₀ L m { s with heap := h, toks := tk } I oI C oC D (LCg.lst ys) S (fun y nw' => G (i + 1) (ys ++ [y]) nw')) E' { s with heap := h, toks := tk })
    (fin : ∀ ys nw, G vs.length ys nw → Fin ys nw) :
    LCg.CompRest prog w A h₀ L m env elt x scope cl s S (fun i v => vs.toArray[i]? = some v) Fin vs.toArray.size 0 [] news := by
  have key : ∀ (j i : Nat) (ys : List Value) (nw : List (Addr × Obj)), i + j = vs.length → G i ys nw → LCg.CompRest prog w A h₀ L m env elt x scope cl s S (fun i v => vs.toArray[i]? = some v) Fin j i ys nw := by
    intro j
    induction j with
    | zero =>
      intro i ys nw hi hg
      obtain rfl : i = vs.length := by omega
      exact LCg.CompRest.zero (fin _ _ hg)
    | succ j ih =>
      intro i ys nw hi hg
      refine LCg.CompRest.succ ?_
      intro v I oI C oC D m₂ h tk E' hv hC hx F N off ne
      refine wpAny_mono (turn i v I oI C oC D m₂ ys nw h tk E' (by simpa using hv) hg hC hx F N off ne) (fun y s₂ hq => ?_) fun _ _ e => e
      obtain ⟨h', tk', nw', e, F', N', off', hS, hn⟩ := hq
      exact ⟨h', tk', nw', e, F', N', off', hS, ih (i + 1) _ _ (by omega) hn⟩
  rw [List.size_toArray]
  exact key vs.length 0 [] news (by omega) h0
end
/-- texts upon texts -/
theorem strs_snoc {y : Str} {t : Tok} : ∀ {vs : List Value} {ys : List Str}, StrsAre vs ys → StrsAre (vs ++ [.str y t]) (ys ++ [y])
  | _, _, .nil => .cons _ _ .nil
  | _, _, .cons a b h => .cons a b (strs_snoc h)
theorem DAll.at {S : Store} : ∀ {us : List Value} {ts : List Tr}, DAll S us ts → ∀ (i : Nat) (v : Value), us[i]? = some v → ∃ t, ts[i]? = some t ∧ DIn S v t
  | _, _, .nil, i, v, h => by simp at h
  | _, _, .cons a r, 0, v, h => by
    simp at h; subst h; exact ⟨_, rfl, a⟩
  | _, _, .cons a r, i + 1, v, h => by
    simp at h
    obtain ⟨t, e, d⟩ := DAll.at r i v h
    exact ⟨t, by simpa using e, d⟩
theorem small_mem {B : Int} : ∀ {ts : List Tr} {i : Nat} {t : Tr}, smallL B ts → ts[i]? = some t → t.small B ∧ t.sz ≤ szT ts
  | [], i, t, _, h => by simp at h
  | u :: r, 0, t, hs, h => by
    simp at h; subst h
    exact ⟨hs.1, by rw [szT]; omega⟩
  | u :: r, i + 1, t, hs, h => by
    simp at h
    have := small_mem hs.2 h
    exact ⟨this.1, by rw [szT]; omega⟩
theorem txt_at : ∀ {ts : List Tr} {i : Nat} {t : Tr}, ts[i]? = some t → (txtL ts).take (i + 1) = (txtL ts).take i ++ [t.txt]
  | [], i, t, h => by simp at h
  | u :: r, 0, t, h => by
    simp at h; subst h
    rw [txtL]; simp
  | u :: r, i + 1, t, h => by
    simp at h
    rw [txtL, List.take_succ_cons, List.take_succ_cons, txt_at h, List.cons_append]
def TextK (w : World) (mean : ExcName → Option Value) (mg mb : Str → Option Value) (k : Nat) : Prop := ∀ (ts : List Tr), szT ts < k → ∀ (A : Around) (s : Shared) (R : Result → Shared → Prop) (b : Addr), (hd.heap_39 w.params).In s.heap → T02 mean mg mb s.heap → A.handled = none → A.depth + k < recursionLimit →
    DIn (inH s.heap) (.ref b) (.row ts) → smallL BB ts → szT ts ≤ 200 → (∀ h' tk u, s.heap.StaysIn h' → R (.ok (.ret (.str (Tr.row ts).txt u))) { s with heap := h', toks := tk }) →
    codeAny (model PySem.Challenge.rw_dn0146_02.row.prog w) A (.call (.ref 49) ⟨[.ref b], []⟩) R s
theorem text_step {w : World} {mean : ExcName → Option Value} {mg mb : Str → Option Value} {k : Nat} {ts : List Tr} {A : Around} {s : Shared} {Q E : Value → Shared → Prop} {b : Addr} {h₀ : Heap} {L : Addr} {m : Str → Option Value} {news : List (Addr × Obj)}
    (H : TextK w mean mg mb k) (F : Fr h₀ L s.heap m) (N : News h₀ L s.heap news) (X : (hd.heap_39 w.params).In h₀) (T : T02 mean mg mb h₀) (ho : DIn (inH h₀) (.ref b) (.row ts)) (hk : szT ts < k) (hs : smallL BB ts) (hz : szT ts ≤ 200) (hh : A.handled = none) (hdp : A.depth + k < recursionLimit)
    (h : ∀ h' tk u, Fr h₀ L h' m → News h₀ L h' news → Q (.str (Tr.row ts).txt u) { s with heap := h', toks := tk }) : wpAny (model PySem.Challenge.rw_dn0146_02.row.prog w) A (call (.ref 49) [.ref b]) Q E s :=
  wpAny_call (H ts hk A s _ b (X.keeps F.keep) (T.keeps F.keep) hh hdp (ho.mono fun _ _ e => F.keep _ _ e) hs hz fun h' tk u st => h h' tk u (F.grownK st) (N.grown st))
theorem isTup_of {h : Heap} {a : Addr} {l : List Value} (e : h.get? a = some (tupOf l)) : IsTup h a l.toArray := ⟨_, e, rfl, _, rfl⟩
theorem add_text {prog : Program} {w : World} {A : Around} {E Q : Value → Shared → Prop} {s : Shared} {x y : Str} {t u : Tok} (hs : x.length + y.length ≤ 16777216) (h : ∀ t' k, Q (.str (x ++ y) t') { s with toks := k }) : wpAny (model prog w) A (binaryOp .Add (.str x t) (.str y u)) Q E s := KOpn.add hs fun t' k _ => h t' k
local macro_rules | `(tactic| k_all) => `(tactic| assumption)
theorem walk_lines_2 : True := by
  k_with "eval ListComp" => (k_here; k_dflt (refine LCg.ListComp_U (F₀ := by k_asm) (by with_unfolding_all rfl) (by decide) (by rfl) (by decide) (by rfl) ?_))
  k_with "call builtin:isinstance" => (k_here; (with_reducible show wpAny _ _ (call (Value.builtin _) [Value.ref _, Value.type _]) _ _ _); k_dflt (first | (refine' IsiPair.list_list (Fr.keep (by k_asm) _ _ (by assumption)) (by rfl) ?_; k_whole) | (refine' IsiPair.tuple_list (Fr.keep (by k_asm) _ _ (by assumption)) (by rfl) ?_; k_whole)))
  k_with "subscriptTail" => (k_here; (with_reducible show wpAny _ _ (subscriptTail _ _ (Value.ref _) (Value.int _ _)) _ _ _); k_dflt (refine' item_tupleT (isTup_of (Fr.keep (by k_asm) _ _ (by assumption))) (by decide) (by decide) (by rfl) (by rfl) ?_ (by with_unfolding_all rfl); k_whole))
  k_with "call ref" => (k_here; (with_reducible show wpAny _ _ (call (Value.ref 49) [Value.ref _]) _ _ _); k_dflt (refine' text_step (by assumption) (by k_asm) (by k_asm) (by k_asm) (by k_asm) (by assumption) (by assumption) (by assumption) (by assumption) (by rfl) (by assumption) ?_; intro _ _ _ _ _))
  k_with "call builtin:str.join" => (k_here; k_dflt (refine' join_list (News.isList (by k_asm) (by exact List.Mem.head _)) (by assumption) (by assumption) ?_; k_whole; intro _ _))
  k_with "binaryOp Add str str" => (k_here; k_dflt (refine' add_text (by assumption) ?_; k_whole; intro _ _))
  trivial
theorem text_fn {w : World} {mean : ExcName → Option Value} {mg mb : Str → Option Value} : ∀ (k : Nat), TextK w mean mg mb k := by
  intro k
  induction k with
  | zero => intro ts h; omega
  | succ k ih =>
  intro ts hk A s R b Xs Ts hh hdp ho hs hz ret
  obtain ⟨hd', dp, fr, gd, un⟩ := A
  dsimp only at hh hdp
  subst hh
  cases ho with
  | row hb hall =>
  rename_i us kb
  have hlen := hall.len
  have hzt := szT_len ts
  have hul : us.length ≤ 100000 := by omega
  have hroom : dp + 1 + k < recursionLimit := by omega
  have htl := txtL_len' ts hs
  have hj : ((txtL ts).map (·.length)).sum + (txtL ts).length * (Str.ofString ", ").length ≤ 16777216 := by
    have := sum_len (txtL ts)
    have e : (Str.ofString ", ").length = 2 := by decide
    rw [e]
    omega
  have hfull : (listText (txtL ts)).length ≤ 1000000 := by
    have := listText_len (txtL ts)
    omega
  have e3 := listText_join (txtL ts)
  have l3 := congrArg Str.length e3
  rw [PySem.Str.length_append, PySem.Str.length_append] at l3
  have l1 : (Str.ofString "[").length + (Txt.join (Str.ofString ", ") (txtL ts)).length ≤ 16777216 := by omega
  have l2 : (Str.ofString "[" ++ Txt.join (Str.ofString ", ") (txtL ts)).length + (Str.ofString "]").length ≤ 16777216 := by rw [PySem.Str.length_append]; omega
  have htake : (txtL ts).take us.length = txtL ts := List.take_of_length_le (by rw [txtL_len]; omega)
  clear hlen hzt htl hfull l3
  revert Xs
  refine (?_ : PySem.Challenge.rw_dn0146_02 = PySem.Challenge.rw_dn0146_02 → _) rfl
  k_fill; intro _ Xs
  k_dflt (refine' enter_plain ?k3 ?k4 ?k6 ?k7 ?k8 ?k9 ?k10 ?_ ?c1 ?c2 ?c3 ?c4; (case k3 => exact Xs); (case k4 => exact Ts); (case k6 => k_is); (case k7 => k_is); (case k8 => (show dp < recursionLimit; omega)); (case k9 => exact BindsTo.of_eq (binds := [(Str.ofString "rows", Value.ref b)]) rfl); (case k10 => exact locs rfl); (case c1 => decide); (case c2 => exact rfl); (case c3 => exact rfl); (case c4 => exact rfl); intro L' h' F' N'; (try dsimp only))
  have X' := Xs
  have T' := Ts
  k_steps
  refine LCg.CompSrc.base (by rfl) (by k_asm) (by k_asm) ⟨_, hb, rfl, _, rfl⟩ (szL hul) ?_
  intro g'
  refine comp_each (fun i ys nw => nw = [] ∧ StrsAre ys ((txtL ts).take i)) ⟨rfl, .nil⟩ ?turn ?fin
  case turn =>
    clear F' N'
    intro i v I oI C oC D m₂ ys nw h tk E' hv hG hC hx F N off ne
    obtain ⟨rfl, hys⟩ := hG
    obtain ⟨t, ht, hd⟩ := hall.at i v hv
    have e4 := txt_at ht
    obtain ⟨s1, s2⟩ := small_mem hs ht
    cases hd with
    | row h1 r =>
      rename_i b' vs' k' ts'
      have g1 : s.heap.get? b' = some (W.listOf vs'.toArray k') := h1
      have g2 : DIn (inH s.heap) (.ref b') (.row ts') := .row h1 r
      have g3 : smallL BB ts' := s1
      rw [Tr.sz] at s2
      have g4 : szT ts' < k := by omega
      have g5 : szT ts' ≤ 200 := by omega
      k_steps
      exact LCg.CompEnd.intro (by k_asm) (by k_asm) [] (fun p hp => hp) trivial (Or.inl ⟨_, hb, rfl, _, rfl⟩) ⟨rfl, by rw [e4]; exact strs_snoc hys⟩
    | con h1 => 
      rename_i a n nm t0 t1 t2
      have g1 : s.heap.get? a = some (tupOf [.int n t0, .str nm t1, .str nm t2]) := h1
      k_steps
      exact LCg.CompEnd.intro (by k_asm) (by k_asm) [] (fun p hp => hp) trivial (Or.inl ⟨_, hb, rfl, _, rfl⟩) ⟨rfl, by rw [e4]; exact strs_snoc hys⟩
    | num h1 => 
      rename_i a n t0 t1
      have g1 : s.heap.get? a = some (tupOf [.int n t0, .str (Str.ofString (toString n)) t1, .none]) := h1
      k_steps
      exact LCg.CompEnd.intro (by k_asm) (by k_asm) [] (fun p hp => hp) trivial (Or.inl ⟨_, hb, rfl, _, rfl⟩) ⟨rfl, by rw [e4]; exact strs_snoc hys⟩
  case fin =>
    clear F' N'
    rintro ys nw ⟨rfl, hy⟩
    intro D h2 tk2 F2 N2 _
    rw [htake] at hy
    have hy' : StrsAre ys.toArray.toList (txtL ts) := hy
    clear hy
    k_steps
    rw [e3, ← Tr.txt]
    exact ret _ _ _ (Fr.keep (by k_asm))
end Mine
namespace Mine
theorem walk_none_Tl1 : True := by
  k_with_none
  trivial
end Mine
open PySem PySem.W PyProof.Rows PySem.Calls
namespace Mine
mutual
/-- the same rows of bare numbers -/
inductive BIn (S : Store) : Value → Tr → Prop
  | row {a : Addr} {vs : List Value} {k : Nat} {ts : List Tr} : S a (W.listOf vs.toArray k) → BAll S vs ts → BIn S (.ref a) (.row ts)
  | con {n : Int} {t : Tok} {nm : Str} : BIn S (.int n t) (.con n nm)
  | num {n : Int} {t : Tok} : BIn S (.int n t) (.num n)
inductive BAll (S : Store) : List Value → List Tr → Prop
  | nil : BAll S [] []
  | cons {v : Value} {t : Tr} {vs : List Value} {ts : List Tr} : BIn S v t → BAll S vs ts → BAll S (v :: vs) (t :: ts)
end
section
variable {S S' : Store}
mutual
theorem BIn.mono (k : ∀ a o, S a o → S' a o) : ∀ {v : Value} {t : Tr}, BIn S v t → BIn S' v t
  | _, _, .row h r => .row (k _ _ h) (BAll.mono k r)
  | _, _, .con => .con
  | _, _, .num => .num
theorem BAll.mono (k : ∀ a o, S a o → S' a o) : ∀ {vs : List Value} {ts : List Tr}, BAll S vs ts → BAll S' vs ts
  | _, _, .nil => .nil
  | _, _, .cons h r => .cons (BIn.mono k h) (BAll.mono k r)
end
theorem BAll.snoc {v : Value} {t : Tr} (b : BIn S v t) : ∀ {vs : List Value} {ts : List Tr}, BAll S vs ts → BAll S (vs ++ [v]) (ts ++ [t])
  | _, _, .nil => .cons b .nil
  | _, _, .cons h r => .cons h (BAll.snoc b r)
theorem BAll.len : ∀ {vs : List Value} {ts : List Tr}, BAll S vs ts → vs.length = ts.length
  | _, _, .nil => rfl
  | _, _, .cons _ r => by rw [List.length_cons, List.length_cons, r.len]
end
theorem take_at {α : Type} : ∀ {ts : List α} {i : Nat} {t : α}, ts[i]? = some t → ts.take (i + 1) = ts.take i ++ [t]
  | [], i, t, h => by simp at h
  | u :: r, 0, t, h => by
    simp at h; subst h
    simp
  | u :: r, i + 1, t, h => by
    simp at h
    rw [List.take_succ_cons, List.take_succ_cons, take_at h, List.cons_append]
/-- what a callee made -/
def Made (h h' : Heap) (T : List (Addr × Obj)) : Prop := ∀ p ∈ T, h'.get? p.1 = some p.2 ∧ h.get? p.1 = none
theorem Made.news {h₀ h h' : Heap} {L : Addr} {m : Str → Option Value} {T news : List (Addr × Obj)} (M : Made h h' T) (F : Fr h₀ L h m) (N : News h₀ L h news) (st : h.StaysIn h') : News h₀ L h' (T ++ news) ∧ ∀ p ∈ T, ∀ q ∈ news, p.1 ≠ q.1 := by
  have ne : ∀ p ∈ T, ∀ a o, h.get? a = some o → p.1 ≠ a := fun p hp a o e q => by
    have := (M p hp).2
    rw [q, e] at this
    cases this
  refine ⟨fun p hp => ?_, fun p hp q hq => ne p hp _ _ (N q hq).1⟩
  rcases List.mem_append.mp hp with hp | hp
  · obtain ⟨oL, es, ep, hL, r⟩ := F.ns
    refine ⟨(M p hp).1, ne p hp _ _ hL, ?_⟩
    cases z : h₀.get? p.1 with
    | none => rfl
    | some o => exact absurd rfl (ne p hp _ _ (F.keep _ _ z))
  · exact ⟨st _ _ (N p hp).1, (N p hp).2⟩
theorem off3_app {I C D : Addr} {oI oC oD : Obj} {T nw : List (Addr × Obj)} (o : LCg.Off3 I C D nw) (h : ∀ p ∈ T, ∀ q ∈ (I, oI) :: (C, oC) :: (D, oD) :: nw, p.1 ≠ q.1) : LCg.Off3 I C D (T ++ nw) := by
  refine LCg.Off3.of fun p hp => ?_
  rcases List.mem_append.mp hp with hp | hp
  · exact ⟨h p hp _ (.head _), h p hp _ (.tail _ (.head _)), h p hp _ (.tail _ (.tail _ (.head _)))⟩
  · exact LCg.Off3.mem o p hp
def BareK (w : World) (mean : ExcName → Option Value) (mg mb : Str → Option Value) (k : Nat) : Prop := ∀ (ts : List Tr), szT ts < k → ∀ (A : Around) (s : Shared) (R : Result → Shared → Prop) (b : Addr), (hd.heap_39 w.params).In s.heap → T02 mean mg mb s.heap → A.handled = none → A.depth + k < recursionLimit →
    DIn (inH s.heap) (.ref b) (.row ts) → szT ts ≤ 200 → (∀ h' tk D T, s.heap.StaysIn h' → Made s.heap h' T → BIn (inL T) (.ref D) (.row ts) → R (.ok (.ret (.ref D))) { s with heap := h', toks := tk }) →
    codeAny (model PySem.Challenge.rw_dn0146_02.row.prog w) A (.call (.ref 54) ⟨[.ref b], []⟩) R s
theorem bare_step {w : World} {mean : ExcName → Option Value} {mg mb : Str → Option Value} {k : Nat} {ts : List Tr} {A : Around} {s : Shared} {Q E : Value → Shared → Prop} {b : Addr} {h₀ : Heap} {L : Addr} {m : Str → Option Value} {news : List (Addr × Obj)}
    (H : BareK w mean mg mb k) (F : Fr h₀ L s.heap m) (N : News h₀ L s.heap news) (X : (hd.heap_39 w.params).In h₀) (T : T02 mean mg mb h₀) (ho : DIn (inH h₀) (.ref b) (.row ts)) (hk : szT ts < k) (hz : szT ts ≤ 200) (hh : A.handled = none) (hdp : A.depth + k < recursionLimit)
    (h : ∀ h' tk D T, Fr h₀ L h' m → News h₀ L h' (T ++ news) → (∀ p ∈ T, ∀ q ∈ news, p.1 ≠ q.1) → BIn (inL T) (.ref D) (.row ts) → Q (.ref D) { s with heap := h', toks := tk }) : wpAny (model PySem.Challenge.rw_dn0146_02.row.prog w) A (call (.ref 54) [.ref b]) Q E s :=
  wpAny_call (H ts hk A s _ b (X.keeps F.keep) (T.keeps F.keep) hh hdp (ho.mono fun _ _ e => F.keep _ _ e) hz fun h' tk D T st M B => h h' tk D T (F.grownK st) (M.news F N st).1 (M.news F N st).2 B)
local macro_rules | `(tactic| k_all) => `(tactic| assumption)
theorem walk_lines_3 : True := by
  k_with "eval ListComp" => (k_here; k_dflt (refine LCg.ListComp_U (F₀ := by k_asm) (by with_unfolding_all rfl) (by decide) (by rfl) (by decide) (by rfl) ?_))
  k_with "call builtin:isinstance" => (k_here; (with_reducible show wpAny _ _ (call (Value.builtin _) [Value.ref _, Value.type _]) _ _ _); k_dflt (first | (refine' IsiPair.list_list (Fr.keep (by k_asm) _ _ (by assumption)) (by rfl) ?_; k_whole) | (refine' IsiPair.tuple_list (Fr.keep (by k_asm) _ _ (by assumption)) (by rfl) ?_; k_whole)))
  k_with "subscriptTail" => (k_here; (with_reducible show wpAny _ _ (subscriptTail _ _ (Value.ref _) (Value.int _ _)) _ _ _); k_dflt (refine' item_tupleT (isTup_of (Fr.keep (by k_asm) _ _ (by assumption))) (by decide) (by decide) (by rfl) (by rfl) ?_ (by with_unfolding_all rfl); k_whole))
  k_with "call ref" => (k_here; (with_reducible show wpAny _ _ (call (Value.ref 54) [Value.ref _]) _ _ _); k_dflt (refine' bare_step (by assumption) (by k_asm) (by k_asm) (by k_asm) (by k_asm) (by assumption) (by assumption) (by assumption) (by rfl) (by assumption) ?_; intro _ _ _ _ _ _ _ _))
  trivial
theorem bare_fn {w : World} {mean : ExcName → Option Value} {mg mb : Str → Option Value} : ∀ (k : Nat), BareK w mean mg mb k := by
  intro k
  induction k with
  | zero => intro ts h; omega
  | succ k ih =>
  intro ts hk A s R b Xs Ts hh hdp ho hz ret
  obtain ⟨hd', dp, fr, gd, un⟩ := A
  dsimp only at hh hdp
  subst hh
  cases ho with
  | row hb hall =>
  rename_i us kb
  have hlen := hall.len
  have hzt := szT_len ts
  have hul : us.length ≤ 100000 := by omega
  have hroom : dp + 1 + k < recursionLimit := by omega
  have htake : ts.take us.length = ts := List.take_of_length_le (by omega)
  have each : ∀ {i : Nat} {t : Tr}, ts[i]? = some t → t.sz ≤ szT ts := by
    intro i t h
    have : ∀ {ts : List Tr} {i : Nat} {t : Tr}, ts[i]? = some t → t.sz ≤ szT ts := by
      intro ts
      induction ts with
      | nil => intro i t h; simp at h
      | cons u r ih =>
        intro i t h
        cases i with
        | zero => simp at h; subst h; rw [szT]; omega
        | succ i =>
          simp at h
          have := ih h
          rw [szT]; omega
    exact this h
  clear hlen hzt
  revert Xs
  refine (?_ : PySem.Challenge.rw_dn0146_02 = PySem.Challenge.rw_dn0146_02 → _) rfl
  k_fill; intro _ Xs
  k_dflt (refine' enter_plain ?k3 ?k4 ?k6 ?k7 ?k8 ?k9 ?k10 ?_ ?c1 ?c2 ?c3 ?c4; (case k3 => exact Xs); (case k4 => exact Ts); (case k6 => k_is); (case k7 => k_is); (case k8 => (show dp < recursionLimit; omega)); (case k9 => exact BindsTo.of_eq (binds := [(Str.ofString "rows", Value.ref b)]) rfl); (case k10 => exact locs rfl); (case c1 => decide); (case c2 => exact rfl); (case c3 => exact rfl); (case c4 => exact rfl); intro L' h' F' N'; (try dsimp only))
  have X' := Xs
  have T' := Ts
  k_steps
  refine LCg.CompSrc.base (by rfl) (by k_asm) (by k_asm) ⟨_, hb, rfl, _, rfl⟩ (szL hul) ?_
  intro g'
  refine comp_each (fun i ys nw => BAll (inL nw) ys (ts.take i)) .nil ?turn ?fin
  case turn =>
    clear F' N'
    intro i v I oI C oC D m₂ ys nw h tk E' hv hG hC hx F N off ne
    obtain ⟨t, ht, hd⟩ := hall.at i v hv
    have e4 := take_at ht
    have s2 := each ht
    cases hd with
    | row h1 r =>
      rename_i b' vs' k' ts'
      have g1 : s.heap.get? b' = some (W.listOf vs'.toArray k') := h1
      have g2 : DIn (inH s.heap) (.ref b') (.row ts') := .row h1 r
      rw [Tr.sz] at s2
      have g4 : szT ts' < k := by omega
      have g5 : szT ts' ≤ 200 := by omega
      k_steps
      rename News _ _ _ _ => N9
      rename Fr _ _ _ _ => F9
      rename BIn _ _ _ => B9
      rename_i tl9 o9
      refine LCg.CompEnd.intro F9 N9 (tl9 ++ nw) (fun p hp => ?_) (off3_app off o9) (Or.inl ⟨_, hb, rfl, _, rfl⟩) ?_
      · simp only [List.mem_cons, List.mem_append] at hp ⊢
        rcases hp with h | h | h | h | h <;> simp [h]
      · rw [e4]
        exact (hG.mono fun _ _ q => List.mem_append_right _ q).snoc (B9.mono fun _ _ q => List.mem_append_left _ q)
    | con h1 => 
      rename_i a n nm t0 t1 t2
      have g1 : s.heap.get? a = some (tupOf [.int n t0, .str nm t1, .str nm t2]) := h1
      k_steps
      exact LCg.CompEnd.intro (by k_asm) (by k_asm) nw (fun p hp => hp) off (Or.inl ⟨_, hb, rfl, _, rfl⟩) (by rw [e4]; exact hG.snoc .con)
    | num h1 => 
      rename_i a n t0 t1
      have g1 : s.heap.get? a = some (tupOf [.int n t0, .str (Str.ofString (toString n)) t1, .none]) := h1
      k_steps
      exact LCg.CompEnd.intro (by k_asm) (by k_asm) nw (fun p hp => hp) off (Or.inl ⟨_, hb, rfl, _, rfl⟩) (by rw [e4]; exact hG.snoc .num)
  case fin =>
    clear F' N'
    intro ys nw hy
    rw [htake] at hy
    intro D h2 tk2 F2 N2 _
    k_steps
    refine ret _ _ _ ((D, LCg.lst ys) :: nw) (Fr.keep (by k_asm)) (fun p hp => ?_) (.row (k := ys.length) (List.Mem.head _) (hy.mono fun _ _ q => List.mem_cons_of_mem _ q))
    exact ⟨(N2 p hp).1, (N2 p hp).2.2⟩
end Mine
namespace Mine
theorem walk_none_Tl2 : True := by
  k_with_none
  trivial
end Mine
open PySem PySem.W PyProof.Rows PySem.Calls
namespace Mine
section
variable {prog : Program} {w : World} {A : Around} {E : Value → Shared → Prop} {s : Shared} {env : Env} {h₀ : Heap} {x : Str} {body : List Stmt} {Q : Flow → Shared → Prop}
/-- a turn's end, the list lying in the base -/
def TurnEndB (h₀ : Heap) (L : Addr) (J : (Str → Option Value) → List (Addr × Obj) → Prop) (I : Addr) (oI : Obj) (s₁ : Shared) (Q : Flow → Shared → Prop) (f : Flow) (s₂ : Shared) : Prop :=
  match f with
  | .ret v => Q (.ret v) s₂
  | .brk => Q .next s₂
  | _ => ∃ h' tk m' news', s₂ = { s₁ with heap := h', toks := tk } ∧ Fr h₀ L h' m' ∧ News h₀ L h' ((I, oI) :: news') ∧ (∀ p ∈ news', p.1 ≠ I) ∧ J m' news'
theorem base_loop {l : Addr} {vs : List Value} {m₀ : Str → Option Value} {news : List (Addr × Obj)} (J : Nat → (Str → Option Value) → List (Addr × Obj) → Prop)
    (hh : A.handled = none) (hl : h₀.IsList l vs.toArray) (F : Fr h₀ env.locals s.heap m₀) (N : News h₀ env.locals s.heap news) (hj : J 0 m₀ news)
    (turn : ∀ i v m₁ news₁ h tk I oI, vs[i]? = some v → J i m₁ news₁ → (∀ p ∈ news₁, p.1 ≠ I) → Fr h₀ env.locals h (fun y => if y = x then some v else m₁ y) → News h₀ env.locals h ((I, oI) :: news₁) →
      wpAny (model prog w) A (execs body env) (TurnEndB h₀ env.locals (J (i + 1)) I oI { s with heap := h, toks := tk } Q) E { s with heap := h, toks := tk })
    (done : ∀ m₁ news₁ h tk, J vs.length m₁ news₁ → Fr h₀ env.locals h m₁ → News h₀ env.locals h news₁ → Q .next { s with heap := h, toks := tk }) :
    wpAny (model prog w) A (pyIter (.ref l)) (fun it s₂ => LoopHere prog w A h₀ env x body Q E it s₂) E s := by
  have hls : s.heap.IsList l vs.toArray := by obtain ⟨o, e, r⟩ := hl; exact ⟨o, F.keep _ _ e, r⟩
  have hlt : l < s.heap.objs.size := by obtain ⟨o, e, _⟩ := hls; exact Heap.lt_size e
  have hne : l ≠ s.heap.objs.size := Nat.ne_of_lt hlt
  have hL : l ≠ env.locals := fun q => by
    obtain ⟨o, e, _⟩ := hl
    have := Heap.get?_none_of_le F.above
    rw [← q, e] at this
    cases this
  refine wpAny_pyIter_list hls ?_
  have W := Walks.list (prog := prog) (w := w) hh s.heap.objs.size l hne vs.toArray
  have hlen : vs.toArray.size = vs.length := by simp
  rw [hlen] at W
  refine ⟨_, _, _, vs.length, _, _, m₀, news, J, rfl, W, ?_, ?_, ?_, ⟨⟨_, Heap.get?_push_size _ rfl, rfl, rfl⟩, hls.at fun o e => Heap.get?_push_of_some _ e⟩, F.push _, (fun p hp => ⟨Heap.get?_push_of_some _ (N p hp).1, (N p hp).2⟩), hj, ?_, ?_⟩
  · intro hm
    rcases List.mem_cons.mp hm with e | hm
    · exact absurd F.ns.lt (e ▸ Nat.lt_irrefl _)
    · exact hL (List.mem_singleton.mp hm).symm
  · intro b hb
    rw [List.mem_singleton.mp hb]
    exact next_is_new F
  · intro p hp hI
    exact absurd (Heap.lt_size (N p hp).1) ((List.mem_singleton.mp hI) ▸ Nat.lt_irrefl _)
  · rintro i v m₁ news₁ s₁ own ⟨hh', tk', rfl⟩ hin hP hJ hoff hown howg hall st F₁ N₁
    have hP' : vs[i]? = some v := by simpa using hP
    obtain ⟨⟨oI, hI, _⟩, _⟩ := st
    have mI : (s.heap.objs.size, oI) ∈ own := hall _ (by simp) (next_is_new F) _ hI
    have offI : ∀ p ∈ news₁, p.1 ≠ s.heap.objs.size := fun p hp q => hoff p hp (by simp [q])
    have hin' : ∀ p ∈ own, p = (s.heap.objs.size, oI) := fun p hp => by
      have e := howg p hp
      rcases List.mem_cons.mp (hown p hp) with h1 | h1
      · rw [h1, hI] at e; cases e; exact Prod.ext h1 rfl
      · have h2 := List.mem_singleton.mp h1
        obtain ⟨o, e', _⟩ := hl
        have := (N₁ p (List.mem_append_left _ hp)).2.2
        rw [h2, e'] at this
        cases this
    have N₂ : News h₀ env.locals hh' ((s.heap.objs.size, oI) :: news₁) := fun p hp => by
      rcases List.mem_cons.mp hp with rfl | hp
      · exact N₁ _ (List.mem_append_left _ mI)
      · exact N₁ _ (List.mem_append_right _ hp)
    refine wpAny_mono (turn i v m₁ news₁ hh' tk' _ oI hP' hJ offI F₁ N₂) (fun f s₂ p => ?_) fun _ _ e => e
    have fin : (∃ h' tk m' news', s₂ = { ({ s with heap := hh', toks := tk' } : Shared) with heap := h', toks := tk } ∧ Fr h₀ env.locals h' m' ∧ News h₀ env.locals h' ((s.heap.objs.size, oI) :: news') ∧ (∀ p ∈ news', p.1 ≠ s.heap.objs.size) ∧ J (i + 1) m' news') →
        LoopStepU h₀ env.locals [s.heap.objs.size] own (J (i + 1)) { s with heap := hh', toks := tk' } .next s₂ := by
      rintro ⟨h', tk, m', news', e, F', N', hn, hm⟩
      refine ⟨rfl, h', tk, m', news', e, F', fun p hp => ?_, fun p hp hq => hn p hp (List.mem_singleton.mp hq), hm⟩
      rcases List.mem_append.mp hp with hp | hp
      · rw [hin' p hp]
        exact N' _ (.head _)
      · exact N' _ (.tail _ hp)
    cases f with
    | ret v => exact .ret p
    | brk => exact .brk p
    | next => exact .next (fin p)
    | cont => exact .cont (fin p)
  · rintro h' tk m' news' F' N' _ hJ
    exact done m' news' h' tk hJ F' N'
end
end Mine
namespace Mine
theorem walk_none_Lp2 : True := by
  k_with_none
  trivial
end Mine
open PySem PySem.W PyProof.Rows PySem.Calls
namespace Mine
/-- what is no row -/
inductive Leaf (P : Params) (h : Heap) : Value → Prop
  | int {n : Int} {t : Tok} : Leaf P h (.int n t)
  | tup {a : Addr} {l : List Value} : h.get? a = some (tupOf l) → Leaf P h (.ref a)
  | con {x dx : Addr} {n : Int} {t tk tn : Tok} {nm : Str} : h.get? x = some (niObj 40 dx n t) → h.get? dx = some (nameD P tk nm tn) → Leaf P h (.ref x)
theorem Leaf.keeps {P : Params} {h h' : Heap} {v : Value} (l : Leaf P h v) (k : h.StaysIn h') : Leaf P h' v := by
  cases l with
  | int => exact .int
  | tup e => exact .tup (k _ _ e)
  | con e1 e2 => exact .con (k _ _ e1) (k _ _ e2)
theorem leaf_isi {w : World} {h₀ : Heap} {s : Shared} {A : Around} {E Q : Value → Shared → Prop} {v : Value} (X₀ : (hd.heap_39 w.params).In h₀) (st : h₀.StaysIn s.heap) (l : Leaf w.params h₀ v) (h : ∀ tk, Q (.bool false) { s with toks := tk }) :
    wpAny (model PySem.Challenge.rw_dn0146_02.row.prog w) A (call (.builtin "isinstance") [v, .type "list"]) Q E s := by
  cases l with
  | int => exact IsiPair.int_list (h _)
  | tup e => exact IsiPair.tuple_list (st _ _ e) rfl (h _)
  | con e1 e2 => exact ni_isi_list X₀ st (st _ _ e1) (st _ _ e2) h
mutual
/-- rows of what Lf says -/
inductive GIn (S : Store) (Lf : Value → Tr → Prop) : Value → Tr → Prop
  | row {a : Addr} {vs : List Value} {k : Nat} {ts : List Tr} : S a (W.listOf vs.toArray k) → GAll S Lf vs ts → GIn S Lf (.ref a) (.row ts)
  | con {v : Value} {n : Int} {nm : Str} : Lf v (.con n nm) → GIn S Lf v (.con n nm)
  | num {v : Value} {n : Int} : Lf v (.num n) → GIn S Lf v (.num n)
inductive GAll (S : Store) (Lf : Value → Tr → Prop) : List Value → List Tr → Prop
  | nil : GAll S Lf [] []
  | cons {v : Value} {t : Tr} {vs : List Value} {ts : List Tr} : GIn S Lf v t → GAll S Lf vs ts → GAll S Lf (v :: vs) (t :: ts)
end
theorem GAll.at {S : Store} {Lf : Value → Tr → Prop} : ∀ {us : List Value} {ts : List Tr}, GAll S Lf us ts → ∀ (i : Nat) (v : Value), us[i]? = some v → ∃ t, ts[i]? = some t ∧ GIn S Lf v t
  | _, _, .nil, i, v, h => by simp at h
  | _, _, .cons a r, 0, v, h => by
    simp at h; subst h; exact ⟨_, rfl, a⟩
  | _, _, .cons a r, i + 1, v, h => by
    simp at h
    obtain ⟨t, e, d⟩ := GAll.at r i v h
    exact ⟨t, by simpa using e, d⟩
theorem GAll.len {S : Store} {Lf : Value → Tr → Prop} : ∀ {vs : List Value} {ts : List Tr}, GAll S Lf vs ts → vs.length = ts.length
  | _, _, .nil => rfl
  | _, _, .cons _ r => by rw [List.length_cons, List.length_cons, r.len]
mutual
def Tr.lv : Tr → List Tr
  | .row l => lvL l
  | .con n nm => [.con n nm]
  | .num n => [.num n]
def lvL : List Tr → List Tr
  | [] => []
  | t :: r => t.lv ++ lvL r
end
theorem lvL_app : ∀ (a b : List Tr), lvL (a ++ b) = lvL a ++ lvL b
  | [], b => by rw [List.nil_append, lvL, List.nil_append]
  | t :: r, b => by rw [List.cons_append, lvL, lvL, lvL_app r b, List.append_assoc]
mutual
theorem Tr.lv_len : ∀ t : Tr, t.lv.length ≤ t.sz
  | .row l => by
    have := lvL_len l
    rw [Tr.lv, Tr.sz]; omega
  | .con _ _ => by rw [Tr.lv, Tr.sz]; simp
  | .num _ => by rw [Tr.lv, Tr.sz]; simp
theorem lvL_len : ∀ l : List Tr, (lvL l).length ≤ szT l
  | [] => by rw [lvL, szT]; simp
  | t :: r => by
    have h1 := t.lv_len
    have h2 := lvL_len r
    rw [lvL, szT, List.length_append]; omega
end
theorem szT_take : ∀ (l : List Tr) (i : Nat), szT (l.take i) ≤ szT l
  | [], i => by simp
  | t :: r, 0 => by rw [List.take_zero, szT]; exact Nat.zero_le _
  | t :: r, i + 1 => by
    have := szT_take r i
    rw [List.take_succ_cons, szT, szT]; omega
inductive All2 (Lf : Value → Tr → Prop) : List Value → List Tr → Prop
  | nil : All2 Lf [] []
  | cons {v : Value} {t : Tr} {vs : List Value} {ts : List Tr} : Lf v t → All2 Lf vs ts → All2 Lf (v :: vs) (t :: ts)
theorem All2.app {Lf : Value → Tr → Prop} : ∀ {a : List Value} {b : List Tr} {c : List Value} {d : List Tr}, All2 Lf a b → All2 Lf c d → All2 Lf (a ++ c) (b ++ d)
  | _, _, _, _, .nil, h => h
  | _, _, _, _, .cons p q, h => .cons p (All2.app q h)
theorem All2.len {Lf : Value → Tr → Prop} : ∀ {a : List Value} {b : List Tr}, All2 Lf a b → a.length = b.length
  | _, _, .nil => rfl
  | _, _, .cons _ r => by rw [List.length_cons, List.length_cons, r.len]
def LeavesK (w : World) (mean : ExcName → Option Value) (mg mb : Str → Option Value) (h₁ : Heap) (Lf : Value → Tr → Prop) (k : Nat) : Prop := ∀ (ts : List Tr), szT ts < k → ∀ (A : Around) (s : Shared) (R : Result → Shared → Prop) (b : Addr), h₁.StaysIn s.heap → (hd.heap_39 w.params).In s.heap → T02 mean mg mb s.heap → A.handled = none → A.depth + k < recursionLimit →
    GIn (inH h₁) Lf (.ref b) (.row ts) → szT ts ≤ 200 → (∀ h' tk D ws j, s.heap.StaysIn h' → s.heap.get? D = none → h'.get? D = some (W.listOf ws.toArray j) → All2 Lf ws (lvL ts) → R (.ok (.ret (.ref D))) { s with heap := h', toks := tk }) →
    codeAny (model PySem.Challenge.rw_dn0146_02.row.prog w) A (.call (.ref 61) ⟨[.ref b], []⟩) R s
theorem leaves_step {w : World} {mean : ExcName → Option Value} {mg mb : Str → Option Value} {h₁ : Heap} {Lf : Value → Tr → Prop} {k : Nat} {ts : List Tr} {A : Around} {s : Shared} {Q E : Value → Shared → Prop} {b : Addr} {h₀ : Heap} {L : Addr} {m : Str → Option Value} {news : List (Addr × Obj)}
    (H : LeavesK w mean mg mb h₁ Lf k) (F : Fr h₀ L s.heap m) (N : News h₀ L s.heap news) (X : (hd.heap_39 w.params).In h₀) (T : T02 mean mg mb h₀) (st : h₁.StaysIn h₀) (ho : GIn (inH h₁) Lf (.ref b) (.row ts)) (hk : szT ts < k) (hz : szT ts ≤ 200) (hh : A.handled = none) (hdp : A.depth + k < recursionLimit)
    (h : ∀ h' tk D ws j, Fr h₀ L h' m → News h₀ L h' ((D, W.listOf ws.toArray j) :: news) → (∀ p ∈ news, p.1 ≠ D) → All2 Lf ws (lvL ts) → Q (.ref D) { s with heap := h', toks := tk }) : wpAny (model PySem.Challenge.rw_dn0146_02.row.prog w) A (call (.ref 61) [.ref b]) Q E s :=
  wpAny_call (H ts hk A s _ b (fun _ _ e => F.keep _ _ (st _ _ e)) (X.keeps F.keep) (T.keeps F.keep) hh hdp ho hz fun h' tk D ws j st nD gD B => by
    have M : Made s.heap h' [(D, W.listOf ws.toArray j)] := fun p hp => by
      obtain rfl := List.mem_singleton.mp hp
      exact ⟨gD, nD⟩
    have q := M.news F N st
    exact h h' tk D ws j (F.grownK st) q.1 (fun p hp e => q.2 _ (.head _) p hp e.symm) B)
theorem starEach_ifx {a b c : Expr} {p : Pos} {rest : List Expr} {env : Env} : starEach (.IfExp a b c p :: rest) env = (false, eval (.IfExp a b c p) env) :: starEach rest env := by simp only [starEach]
theorem cw_ifx {M : Model} {A : Around} {E : Value → Shared → Prop} {s : Shared} {pos : Pos} {id : String} {first : List Value} {env : Env} {Q : Value → Shared → Prop} {a b c : Expr} {p : Pos} 
    (h : wpAny M A (spliced (backTo pos (starEach [.IfExp a b c p] env))) (fun vs s₁ => wpAny M A (call (.builtin id) (first ++ vs)) Q E s₁) E s) :
    wpAny M A (callWith pos (.builtin id) first (backTo pos (starEach [.IfExp a b c p] env)) []) Q E s :=
  callWith_method1 h starEach_ifx (by rfl)
theorem ext_three {prog : Program} {w : World} {A : Around} {E : Value → Shared → Prop} {s : Shared} {h₀ : Heap} {L D I l : Addr} {m : Str → Option Value} {n j : Nat} {xs ys : List Value} {oI : Obj} {Q : Value → Shared → Prop}
    (F : Fr h₀ L s.heap m) (N : News h₀ L s.heap [(D, W.listOf ys.toArray j), (I, oI), (l, W.listOf xs.toArray n)]) (h1 : Apart l D) (h2 : Apart l I) (hz : xs.length + ys.length ≤ 100000)
    (h : ∀ n' h', Fr h₀ L h' m → News h₀ L h' [(l, W.listOf (xs ++ ys).toArray n'), (I, oI)] → Q .none { s with heap := h' }) : wpAny (model prog w) A (call (.builtin "list.extend") [.ref l, .ref D]) Q E s := by
  refine ext_head (n := n) (rest := [(I, oI), (D, W.listOf ys.toArray j)]) F (fun p hp => N p ?_) (.tail _ (.head _)) (fun p hp => ?_) hz fun n' h' F' N' => h n' h' F' fun p hp => N' p ?_
  · simp only [List.mem_cons, List.not_mem_nil, or_false] at hp ⊢
    rcases hp with h | h | h <;> simp [h]
  · simp only [List.mem_cons, List.not_mem_nil, or_false] at hp
    rcases hp with rfl | rfl
    · exact Ne.symm h2
    · exact Ne.symm h1
  · simp only [List.mem_cons, List.not_mem_nil, or_false] at hp ⊢
    rcases hp with h | h <;> simp [h]
theorem apart_two {I l D : Addr} {oI ol : Obj} (o : ∀ p ∈ [(I, oI), (l, ol)], p.1 ≠ D) : Apart l D := o _ (.tail _ (.head _))
theorem room_of {Lf : Value → Tr → Prop} {ts : List Tr} {n : Nat} {ws : List Value} (a : All2 Lf ws ts) (g : ∀ ws : List Value, All2 Lf ws ts → n + ws.length ≤ 100000) : n + ws.length ≤ 100000 := g ws a
local macro_rules | `(tactic| k_all) => `(tactic| assumption)
local macro_rules | `(tactic| k_ne) => `(tactic| (first | exact Apart.ne (by assumption) | exact Ne.symm (Apart.ne (by assumption))))
theorem walk_lines_4 : True := by
  k_with "exec For" => (k_here; (with_reducible show wpAny _ _ (exec (Stmt.For (Expr.Name _ _) _ _ _ _) _) _ _ _); k_dflt (refine' For_here (by k_asm) (by rfl) (by rfl) ?_))
  k_with "exec For Name Name cons nil" => (k_here; (with_reducible show wpAny _ _ (exec (Stmt.For (Expr.Name _ _) _ _ _ _) _) _ _ _); k_dflt (refine' For_here (by k_asm) (by rfl) (by rfl) ?_))
  k_with "call builtin:isinstance" => (k_here; (with_reducible show wpAny _ _ (call (Value.builtin _) [_, Value.type _]) _ _ _); k_dflt (first | (refine' IsiPair.list_list (Fr.keep (by k_asm) _ _ (by assumption)) (by rfl) ?_; k_whole) | (refine' leaf_isi (by k_asm) (Fr.keep (by k_asm)) (by assumption) ?_; k_whole; intro _)))
  k_with "call ref" => (k_here; (with_reducible show wpAny _ _ (call (Value.ref 61) [Value.ref _]) _ _ _); k_dflt (refine' leaves_step (by assumption) (by k_asm) (by k_asm) (by k_asm) (by k_asm) (by assumption) (by assumption) (by assumption) (by assumption) (by rfl) (by assumption) ?_; intro _ _ _ _ _ _ _ _ _))
  k_with "getMethod ref" => (k_here; (with_reducible show wpAny _ _ (getMethod (Value.ref _) (PySem.Str.ofString "extend") _) _ _ _); k_dflt (refine' kl_method (by k_asm) (by k_mem) PySem.F.slot_list_extend PySem.F.type_list_extend ?_))
  k_with "callWith" => (k_here; (with_reducible show wpAny _ _ (callWith _ _ _ (backTo _ (starEach [Expr.IfExp _ _ _ _] _)) []) _ _ _); (show wpAny _ _ (callWith _ (Value.builtin _) [Value.ref _] _ _) _ _ _); (with_reducible refine cw_ifx ?_))
  k_with "call builtin:list.extend" => (k_here; k_dflt (refine' ext_three (by k_asm) (by k_asm) (by first | exact apart_two (by assumption) | exact Apart.of (Nat.ne_of_lt (by omega))) (by assumption) (by first | assumption | exact room_of (by assumption) (by assumption)) ?_); intro _ _ _ _)
  trivial
theorem leaves_fn {w : World} {mean : ExcName → Option Value} {mg mb : Str → Option Value} {h₁ : Heap} {Lf : Value → Tr → Prop} (hLf : ∀ v t, Lf v t → Leaf w.params h₁ v) : ∀ (k : Nat), LeavesK w mean mg mb h₁ Lf k := by
  intro k
  induction k with
  | zero => intro ts h; omega
  | succ k ih =>
  intro ts hk A s R b st Xs Ts hh hdp ho hz ret
  obtain ⟨hd', dp, fr, gd, un⟩ := A
  dsimp only at hh hdp
  subst hh
  cases ho with
  | row hb hall =>
  rename_i us kb
  have hlen := hall.len
  have hzt := szT_len ts
  have hroom : dp + 1 + k < recursionLimit := by omega
  have htake : ts.take us.length = ts := List.take_of_length_le (by omega)
  clear hzt
  revert Xs
  refine (?_ : PySem.Challenge.rw_dn0146_02 = PySem.Challenge.rw_dn0146_02 → _) rfl
  k_fill; intro _ Xs
  k_dflt (refine' enter_plain ?k3 ?k4 ?k6 ?k7 ?k8 ?k9 ?k10 ?_ ?c1 ?c2 ?c3 ?c4; (case k3 => exact Xs); (case k4 => exact Ts); (case k6 => k_is); (case k7 => k_is); (case k8 => (show dp < recursionLimit; omega)); (case k9 => exact BindsTo.of_eq (binds := [(Str.ofString "rows", Value.ref b)]) rfl); (case k10 => exact locs rfl); (case c1 => decide); (case c2 => exact rfl); (case c3 => exact rfl); (case c4 => exact rfl); intro L' h' F' N'; (try dsimp only))
  have X' := Xs
  have T' := Ts
  k_steps
  refine base_loop (fun i m nw => ∃ l xs n, m (Str.ofString "leaves") = some (.ref l) ∧ nw = [(l, W.listOf xs.toArray n)] ∧ All2 Lf xs (lvL (ts.take i))) rfl ⟨_, st _ _ hb, rfl, _, rfl⟩ (by k_asm) (by k_asm) ⟨_, [], _, rfl, rfl, .nil⟩ ?turn ?done
  case turn =>
    skip
    intro i v m₁ news₁ h tk I oI hv hJ hoff F1 N1
    obtain ⟨l, xs, n, z1, rfl, hA⟩ := hJ
    rw [mapc z1 rfl] at F1
    have q1 := Apart.of (hoff _ (.head _))
    dsimp only at q1
    obtain ⟨t, ht, hd⟩ := hall.at i v hv
    have e4 : lvL (ts.take (i + 1)) = lvL (ts.take i) ++ t.lv := by rw [take_at ht, lvL_app, lvL, lvL, List.append_nil]
    have s2 : t.sz ≤ szT ts := by
      have := szT_take ts (i + 1)
      rw [take_at ht, szT_app, szT, szT] at this
      omega
    have s3 : xs.length ≤ 200 := by
      have a := hA.len
      have b := lvL_len (ts.take i)
      have c := szT_take ts i
      omega
    have endT : ∀ {h' : Heap} {tk n' : Nat} {ws : List Value} {m' : Str → Option Value}, Fr s.heap L' h' m' → News s.heap L' h' [(l, W.listOf (xs ++ ws).toArray n'), (I, oI)] → m' (Str.ofString "leaves") = some (.ref l) → All2 Lf ws t.lv → 
      ∃ h'' tk' m' news', ({ s with heap := h', toks := tk } : Shared) = { s with heap := h'', toks := tk' } ∧ Fr s.heap L' h'' m' ∧ News s.heap L' h'' ((I, oI) :: news') ∧ (∀ p ∈ news', p.1 ≠ I) ∧ ∃ l xs n, m' (Str.ofString "leaves") = some (.ref l) ∧ news' = [(l, W.listOf xs.toArray n)] ∧ All2 Lf xs (lvL (ts.take (i + 1))) := by
      intro h' tk n' ws m' F N e a
      refine ⟨h', tk, m', [(l, W.listOf (xs ++ ws).toArray n')], rfl, F, fun p hp => N p ?_, fun p hp => ?_, l, xs ++ ws, n', e, rfl, ?_⟩
      · simp only [List.mem_cons, List.not_mem_nil, or_false] at hp ⊢
        rcases hp with h | h <;> simp [h]
      · obtain rfl := List.mem_singleton.mp hp
        exact q1
      · rw [e4]; exact hA.app a
    cases hd with
    | row h1 r =>
      rename_i b' vs' k' ts'
      have g1 : s.heap.get? b' = some (W.listOf vs'.toArray k') := st _ _ h1
      have g2 : GIn (inH h₁) Lf (.ref b') (.row ts') := .row h1 r
      rw [Tr.sz] at s2
      have g4 : szT ts' < k := by omega
      have g5 : szT ts' ≤ 200 := by omega
      have g6 : ∀ ws : List Value, All2 Lf ws (lvL ts') → xs.length + ws.length ≤ 100000 := fun ws a => by
        have := a.len
        have := lvL_len ts'
        omega
      k_steps
      rename News _ _ _ _ => N9
      rename Fr _ _ _ _ => F9
      exact endT F9 N9 rfl (by assumption)
    | con q => 
      have g1 : Leaf w.params s.heap v := (hLf _ _ q).keeps st
      have g6 : xs.length + [v].length ≤ 100000 := by simp; omega
      k_steps
      rename News _ _ _ _ => N9
      rename Fr _ _ _ _ => F9
      exact endT F9 N9 rfl (.cons q .nil)
    | num q => 
      have g1 : Leaf w.params s.heap v := (hLf _ _ q).keeps st
      have g6 : xs.length + [v].length ≤ 100000 := by simp; omega
      k_steps
      rename News _ _ _ _ => N9
      rename Fr _ _ _ _ => F9
      exact endT F9 N9 rfl (.cons q .nil)
  case done =>
    skip
    intro m₁ news₁ h tk hJ F1 N1
    obtain ⟨l, xs, n, z1, rfl, hA⟩ := hJ
    rw [mapc z1 rfl] at F1
    rw [htake] at hA
    k_steps
    rename News _ _ _ _ => N9
    rename Fr _ _ _ _ => F9
    exact ret _ _ _ _ _ F9.keep (N9 _ (.head _)).2.2 (N9 _ (.head _)).1 hA
end Mine
namespace Mine
theorem walk_none_Tl3 : True := by
  k_with_none
  trivial
end Mine
open PySem PySem.W PyProof.Rows PySem.Calls PySem.SeqAt
namespace Mine
section
variable {A : Around} {s : Shared}
theorem eqv_int (a : Int) (t u : Tok) : EqAt A s (.int a t) (.int a u) true := by
  have := EqAt.int_int (A := A) (s := s) a t a u
  rwa [beq_self_eq_true] at this
inductive Eqs (A : Around) (s : Shared) : List Value → List Value → Prop
  | nil : Eqs A s [] []
  | cons {x y : Value} {xs ys : List Value} : EqAt A s x y true → Eqs A s xs ys → Eqs A s (x :: xs) (y :: ys)
theorem Eqs.length {xs ys : List Value} (h : Eqs A s xs ys) : xs.length = ys.length := by
  induction h with
  | nil => rfl
  | cons _ _ ih => simp [ih]
theorem Eqs.get {xs ys : List Value} (h : Eqs A s xs ys) : ∀ j (h1 : j < xs.length) (h2 : j < ys.length), EqAt A s xs[j] ys[j] true := by
  induction h with
  | nil => intro j h1; cases h1
  | cons e _ ih =>
    intro j h1 h2
    cases j with
    | zero => exact e
    | succ j => exact ih j (by simpa using h1) (by simpa using h2)
theorem lists_ne {prog : Program} {w : World} {E : Value → Shared → Prop} {Q : Value → Shared → Prop} {r r2 : Addr} {xs ys : List Value} {k k2 : Nat} (hl : s.heap.get? r = some { cls := .type "list", data := .seq xs.toArray k }) (hb : s.heap.get? r2 = some { cls := .type "list", data := .seq ys.toArray k2 }) (hu : A.units < cLine)
    (he : Eqs A.in1 s xs ys) (h : Q (.bool false) s) : wpAny (model prog w) A (compareOp .NotEq (.ref r) (.ref r2)) Q E s := by
  have := RcNeAt.lists (A := A) (s := s) (items := xs.toArray) (items2 := ys.toArray) (e := fun _ => true) ⟨_, hl, rfl, _, rfl⟩ ⟨_, hb, rfl, _, rfl⟩ (by simpa using he.length) hu (fun j j1 j2 => by
    have := he.get j (by simpa using j1) (by simpa using j2)
    simpa using this)
  refine this prog w E Q ?_
  have e : (!(List.range xs.toArray.size).all fun _ => true) = false := by simp
  rw [e]; exact h
end
end Mine
namespace Mine
theorem walk_none_Eq1 : True := by
  k_with_none
  trivial
end Mine
open PySem PySem.W PyProof.Rows PySem.Calls PySem.SeqAt
namespace Mine
section
variable {K : Frag} {P : Params} {h : Heap}
theorem eq_con {A : Around} {s : Shared} {x dx : Addr} {n : Int} {tk t : Tok} (G : NiG K 40) (X : K.In s.heap) (hx : s.heap.get? x = some (niObj 40 dx n tk)) (hu : A.units < cLine) : EqAt A s (.ref x) (.int n t) true := by
  intro prog w E Q hq
  unfold eqBool
  refine wpAny_holding ?_
  refine wpAny_ite_split (fun hab => absurd (eq_of_beq hab) (by intro e; cases e)) (fun _ => ?_)
  refine wpAny_bind (ni_cmp_eq G X hx hu ?_)
  rw [beq_self_eq_true]
  exact wpAny_truthy_bool hq
mutual
theorem eq_tree (G : NiG K 40) (X : K.In h) : ∀ {v v' : Value} {t : Tr}, OIn P (inH h) v t → BIn (inH h) v' t → ∀ (A : Around) (s : Shared), s.heap = h → A.units + t.sz < cLine → EqAt A s v v' true
  | _, _, _, .row (a := a) (vs := vs) (k := k) (ts := ts) h1 r, .row (a := b) (vs := us) (k := j) h2 r', A, s, e, hu => by
    rw [Tr.sz] at hu
    by_cases q : a = b
    · rw [q]; exact EqAt.same _
    · have ih := eqs_tree G X r r' A.in1 s e (by show A.units + 1 + _ < _; omega)
      refine EqAt.of_refs q ?_
      have := RcAt.lists (A := A) (s := s) (items := vs.toArray) (items2 := us.toArray) (e := fun _ => true) ⟨_, by rw [e]; exact h1, rfl, _, rfl⟩ ⟨_, by rw [e]; exact h2, rfl, _, rfl⟩ (by simpa using ih.length) (by omega) (fun j j1 j2 => by
        have := ih.get j (by simpa using j1) (by simpa using j2)
        simpa using this)
      have e2 : ((List.range vs.toArray.size).all fun _ => true) = true := by simp
      rw [e2] at this
      exact this
  | _, _, _, .con h1 _, .con, A, s, e, hu => eq_con G (e ▸ X) (by rw [e]; exact h1) (by omega)
  | _, _, _, .num, .num, A, s, e, hu => eqv_int _ _ _
theorem eqs_tree (G : NiG K 40) (X : K.In h) : ∀ {vs us : List Value} {ts : List Tr}, OAll P (inH h) vs ts → BAll (inH h) us ts → ∀ (A : Around) (s : Shared), s.heap = h → A.units + szT ts < cLine → Eqs A s vs us
  | _, _, _, .nil, .nil, _, _, _, _ => .nil
  | _, _, _, .cons a r, .cons b r', A, s, e, hu => by
    rw [szT] at hu
    exact .cons (eq_tree G X a b A s e (by omega)) (eqs_tree G X r r' A s e (by omega))
end
/-- the rows built and the same rows of bare numbers -/
theorem rows_ne {prog : Program} {w : World} {A : Around} {s : Shared} {E Q : Value → Shared → Prop} {a D : Addr} {ts : List Tr} (G : NiG K 40) (X : K.In s.heap) (o : OIn P (inH s.heap) (.ref a) (.row ts)) (b : BIn (inH s.heap) (.ref D) (.row ts)) (hu : A.units + 1 + szT ts < cLine) (h : Q (.bool false) s) :
    wpAny (model prog w) A (compareOp .NotEq (.ref a) (.ref D)) Q E s := by
  cases o with
  | row h1 r =>
  cases b with
  | row h2 r' =>
  exact lists_ne h1 h2 (by omega) (eqs_tree G X r r' A.in1 s rfl (by show A.units + 1 + _ < _; omega)) h
end
end Mine
namespace Mine
theorem walk_none_Eq7 : True := by
  k_with_none
  trivial
end Mine
open PySem PySem.W PyProof.Rows PySem.Calls PySem.SeqAt
namespace Mine
/-- the outermost row when the script is read -/
theorem JT.root {P : Params} {i : Nat} {m : Str → Option Value} {nw : List (Addr × Obj)} (J : JT P i m nw) : ∃ (op du A B : Addr) (os ds : List Value) (kop kdu : Nat) (ts : List Tr), m (Str.ofString "opened") = some (.ref op) ∧ m (Str.ofString "due") = some (.ref du) ∧
    (op, W.listOf (.ref A :: os).toArray kop) ∈ nw ∧ (du, W.listOf (.ref B :: ds).toArray kdu) ∈ nw ∧ OIn P (inL nw) (.ref A) (.row ts) ∧ DIn (inL nw) (.ref B) (.row ts) ∧ smallL BB ts ∧ szT ts ≤ 2 * i := by
  obtain ⟨op, du, a, b, vs, us, ka, kb, ts, rest, T, kop, kdu, x, dx, n, nm, tx, tkx, tn, kt, t0, t1, t2, J⟩ := J
  obtain ⟨T', s1, s2, s3, s4, s5, s6, s7⟩ := shutTo_spec 1 (Nat.le_refl 1) (⟨a, b, vs, us, ka, kb, ts⟩ :: rest) T (by simp) J.ok
  obtain ⟨t, e⟩ : ∃ t, shutTo 1 (⟨a, b, vs, us, ka, kb, ts⟩ :: rest) = [t] := by
    have l1 := congrArg List.length s4
    rw [oRefs_len, List.length_take, oRefs_len, List.length_cons] at l1
    cases q : shutTo 1 (⟨a, b, vs, us, ka, kb, ts⟩ :: rest) with
    | nil => exact absurd q s6
    | cons t r =>
      rw [q, List.length_cons] at l1
      have : r.length = 0 := by omega
      exact ⟨t, by rw [List.eq_nil_of_length_eq_zero this]⟩
  have s8 := s7 t [] e _ _ rfl
  rw [e] at s2 s3 s4 s5
  have head : ∀ {l : List Value} {v : Value}, [v] = l.take 1 → ∃ r, l = v :: r := by
    intro l v q
    cases l with
    | nil => simp at q
    | cons w r => simp at q; exact ⟨r, by rw [q]⟩
  obtain ⟨os, eo⟩ := head (show [Value.ref t.a] = _ from s4)
  obtain ⟨ds, ed⟩ := head (show [Value.ref t.b] = _ from s5)
  have sub : ∀ p ∈ t.oc [] :: t.dc [] :: T', p ∈ nw := fun p hp => by
    have := s8 p (by simpa [lower] using hp)
    unfold Rw.oc Rw.dc at this
    rw [List.append_nil, List.append_nil] at this
    rw [J.nw]
    exact .tail _ (.tail _ this)
  have tr := s2.tree t (.head _)
  have up : ∀ a o, inL T' a o → inL nw a o := fun a o q => sub _ (.tail _ (.tail _ q))
  have z := J.sz
  rw [szS, szS] at s3
  have eo' : oRefs rest ++ [Value.ref a] = .ref t.a :: os := eo
  have ed' : dRefs rest ++ [Value.ref b] = .ref t.b :: ds := ed
  refine ⟨op, du, t.a, t.b, os, ds, kop, kdu, t.ts, J.m1, J.m2, ?_, ?_, .row (k := t.ka) (vs := t.vs) (sub _ ?_) (tr.1.mono up), .row (k := t.kb) (vs := t.us) (sub _ ?_) (tr.2.1.mono up), tr.2.2, by omega⟩
  · rw [J.nw, eo']; exact .head _
  · rw [J.nw, ed']; exact .tail _ (.head _)
  · unfold Rw.oc; rw [List.append_nil]; exact .head _
  · unfold Rw.dc; rw [List.append_nil]; exact .tail _ (.head _)
section
variable {w : World} {mean : ExcName → Option Value} {mg mb : Str → Option Value} {ts : List Tr} {A : Around} {s : Shared} {Q E : Value → Shared → Prop} {a b : Addr} {h₀ : Heap} {L : Addr} {m : Str → Option Value} {news R0 : List (Addr × Obj)}
theorem inL_inH {T : List (Addr × Obj)} (N : News h₀ L s.heap news) (sub : ∀ p ∈ T, p ∈ news) : ∀ a o, inL T a o → inH s.heap a o := fun a o q => (N _ (sub _ q)).1
theorem repr_step (F : Fr h₀ L s.heap m) (N : News h₀ L s.heap news) (X : (hd.heap_39 w.params).In h₀) (T : T02 mean mg mb h₀) (ho : OIn w.params (inL R0) (.ref a) (.row ts)) (sub : ∀ p ∈ R0, p ∈ news) (hs : smallL BB ts) (hz : szT ts ≤ 200)
    (hg : A.guards = some []) (hh : A.handled = none) (hu : A.units + 300 < cLine) (hdp : A.depth + 300 < recursionLimit)
    (h : ∀ h' tk u, Fr h₀ L h' m → News h₀ L h' news → Q (.str (Tr.row ts).txt u) { s with heap := h', toks := tk }) : wpAny (model PySem.Challenge.rw_dn0146_02.row.prog w) A (call (.builtin "repr") [.ref a]) Q E s := by
  have hl : (Tr.row ts).txt.length ≤ sizeLine := by
    have := (Tr.row ts).txt_len hs
    rw [Tr.sz] at this
    have e : (sizeLine : Nat) = 16777216 := rfl
    omega
  exact repr_built (h₀ := s.heap) (X.keeps F.keep) (T.keeps F.keep) (ho.mono (inL_inH N sub)) hs hg (fun _ _ _ _ q => nomatch q) hh (by omega) (by omega) (fun _ _ e => e) hl fun h' u tk st => h h' tk u (F.grownK st) (N.grown st)
theorem text_law (F : Fr h₀ L s.heap m) (N : News h₀ L s.heap news) (X : (hd.heap_39 w.params).In h₀) (T : T02 mean mg mb h₀) (ho : DIn (inL R0) (.ref b) (.row ts)) (sub : ∀ p ∈ R0, p ∈ news) (hs : smallL BB ts) (hz : szT ts ≤ 200) (hh : A.handled = none) (hdp : A.depth + 300 < recursionLimit)
    (h : ∀ h' tk u, Fr h₀ L h' m → News h₀ L h' news → Q (.str (Tr.row ts).txt u) { s with heap := h', toks := tk }) : wpAny (model PySem.Challenge.rw_dn0146_02.row.prog w) A (call (.ref 49) [.ref b]) Q E s :=
  wpAny_call (text_fn 201 ts (by omega) A s _ b (X.keeps F.keep) (T.keeps F.keep) hh (by omega) (ho.mono (inL_inH N sub)) hs hz fun h' tk u st => h h' tk u (F.grownK st) (N.grown st))
theorem bare_law (F : Fr h₀ L s.heap m) (N : News h₀ L s.heap news) (X : (hd.heap_39 w.params).In h₀) (T : T02 mean mg mb h₀) (ho : DIn (inL R0) (.ref b) (.row ts)) (sub : ∀ p ∈ R0, p ∈ news) (hz : szT ts ≤ 200) (hh : A.handled = none) (hdp : A.depth + 300 < recursionLimit)
    (h : ∀ h' tk D, Fr h₀ L h' m → News h₀ L h' news → BIn (inH h') (.ref D) (.row ts) → Q (.ref D) { s with heap := h', toks := tk }) : wpAny (model PySem.Challenge.rw_dn0146_02.row.prog w) A (call (.ref 54) [.ref b]) Q E s :=
  wpAny_call (bare_fn 201 ts (by omega) A s _ b (X.keeps F.keep) (T.keeps F.keep) hh (by omega) (ho.mono (inL_inH N sub)) hz fun h' tk D T st M B => h h' tk D (F.grownK st) (N.grown st) (B.mono fun a o q => (M _ q).1))
theorem rows_law (F : Fr h₀ L s.heap m) (N : News h₀ L s.heap news) (X : (hd.heap_39 w.params).In h₀) (ho : OIn w.params (inL R0) (.ref a) (.row ts)) (sub : ∀ p ∈ R0, p ∈ news) (hb : BIn (inH s.heap) (.ref b) (.row ts)) (hz : szT ts ≤ 200) (hu : A.units + 300 < cLine)
    (h : Q (.bool false) s) : wpAny (model PySem.Challenge.rw_dn0146_02.row.prog w) A (compareOp .NotEq (.ref a) (.ref b)) Q E s :=
  rows_ne (niF02 X) (X.keeps F.keep) (ho.mono (inL_inH N sub)) hb (by omega) h
mutual
theorem OIn.g {S : Store} {P : Params} : ∀ {v : Value} {t : Tr}, OIn P S v t → GIn S (fun v t => OIn P S v t ∧ ∀ ts, t ≠ .row ts) v t
  | _, _, .row h r => .row h (OAll.g r)
  | _, _, .con h1 h2 => .con ⟨.con h1 h2, fun _ e => nomatch e⟩
  | _, _, .num => .num ⟨.num, fun _ e => nomatch e⟩
theorem OAll.g {S : Store} {P : Params} : ∀ {vs : List Value} {ts : List Tr}, OAll P S vs ts → GAll S (fun v t => OIn P S v t ∧ ∀ ts, t ≠ .row ts) vs ts
  | _, _, .nil => .nil
  | _, _, .cons a r => .cons (OIn.g a) (OAll.g r)
end
mutual
theorem DIn.g {S : Store} : ∀ {v : Value} {t : Tr}, DIn S v t → GIn S (fun v t => DIn S v t ∧ ∀ ts, t ≠ .row ts) v t
  | _, _, .row h r => .row h (DAll.g r)
  | _, _, .con h1 => .con ⟨.con h1, fun _ e => nomatch e⟩
  | _, _, .num h1 => .num ⟨.num h1, fun _ e => nomatch e⟩
theorem DAll.g {S : Store} : ∀ {vs : List Value} {ts : List Tr}, DAll S vs ts → GAll S (fun v t => DIn S v t ∧ ∀ ts, t ≠ .row ts) vs ts
  | _, _, .nil => .nil
  | _, _, .cons a r => .cons (DIn.g a) (DAll.g r)
end
theorem OIn.leaf {P : Params} {h : Heap} {v : Value} {t : Tr} (o : OIn P (inH h) v t) (n : ∀ ts, t ≠ .row ts) : Leaf P h v := by
  cases o with
  | row _ _ => exact absurd rfl (n _)
  | con h1 h2 => exact .con h1 h2
  | num => exact .int
theorem DIn.leaf {P : Params} {h : Heap} {v : Value} {t : Tr} (o : DIn (inH h) v t) (n : ∀ ts, t ≠ .row ts) : Leaf P h v := by
  cases o with
  | row _ _ => exact absurd rfl (n _)
  | con h1 => exact .tup h1
  | num h1 => exact .tup h1
mutual
theorem GIn.mono' {S S' : Store} {Lf : Value → Tr → Prop} (k : ∀ a o, S a o → S' a o) : ∀ {v : Value} {t : Tr}, GIn S Lf v t → GIn S' Lf v t
  | _, _, .row h r => .row (k _ _ h) (GAll.mono' k r)
  | _, _, .con h => .con h
  | _, _, .num h => .num h
theorem GAll.mono' {S S' : Store} {Lf : Value → Tr → Prop} (k : ∀ a o, S a o → S' a o) : ∀ {vs : List Value} {ts : List Tr}, GAll S Lf vs ts → GAll S' Lf vs ts
  | _, _, .nil => .nil
  | _, _, .cons h r => .cons (GIn.mono' k h) (GAll.mono' k r)
end
theorem olv_law (F : Fr h₀ L s.heap m) (N : News h₀ L s.heap news) (X : (hd.heap_39 w.params).In h₀) (T : T02 mean mg mb h₀) (ho : OIn w.params (inL R0) (.ref a) (.row ts)) (sub : ∀ p ∈ R0, p ∈ news) (hz : szT ts ≤ 200) (hh : A.handled = none) (hdp : A.depth + 300 < recursionLimit)
    (h : ∀ h' tk D ws j, Fr h₀ L h' m → News h₀ L h' ((D, W.listOf ws.toArray j) :: news) → (∀ p ∈ news, p.1 ≠ D) → All2 (fun v t => OIn w.params (inL R0) v t ∧ ∀ ts, t ≠ .row ts) ws (lvL ts) → Q (.ref D) { s with heap := h', toks := tk }) : wpAny (model PySem.Challenge.rw_dn0146_02.row.prog w) A (call (.ref 61) [.ref a]) Q E s :=
  wpAny_call (leaves_fn (h₁ := s.heap) (Lf := fun v t => OIn w.params (inL R0) v t ∧ ∀ ts, t ≠ .row ts) (fun v t q => (q.1.mono (inL_inH N sub)).leaf q.2) 201 ts (by omega) A s _ a (fun _ _ e => e) (X.keeps F.keep) (T.keeps F.keep) hh (by omega) (GIn.mono' (inL_inH N sub) ho.g) hz fun h' tk D ws j st nD gD B => by
    have M : Made s.heap h' [(D, W.listOf ws.toArray j)] := fun p hp => by
      obtain rfl := List.mem_singleton.mp hp
      exact ⟨gD, nD⟩
    have q := M.news F N st
    exact h h' tk D ws j (F.grownK st) q.1 (fun p hp e => q.2 _ (.head _) p hp e.symm) B)
end
end Mine
namespace Mine
theorem walk_none_Rp5 : True := by
  k_with_none
  trivial
end Mine
open PySem PySem.W PyProof.Rows PySem.Calls PySem.SeqAt
namespace Mine
theorem JT.mono {P : Params} {i j : Nat} {m : Str → Option Value} {nw : List (Addr × Obj)} (J : JT P i m nw) (l : i ≤ j) : JT P j m nw := by
  obtain ⟨op, du, a, b, vs, us, ka, kb, ts, rest, T, kop, kdu, x, dx, n, nm, tx, tkx, tn, kt, t0, t1, t2, J⟩ := J
  exact ⟨op, du, a, b, vs, us, ka, kb, ts, rest, T, kop, kdu, x, dx, n, nm, tx, tkx, tn, kt, t0, t1, t2, { J with sz := Nat.le_trans J.sz (by omega) }⟩
section
variable {w : World} {mean : ExcName → Option Value} {mg mb : Str → Option Value} {ts : List Tr} {A : Around} {s : Shared} {Q E : Value → Shared → Prop} {a b : Addr} {h₀ : Heap} {L : Addr} {m : Str → Option Value} {news R0 : List (Addr × Obj)}
theorem dlv_law (F : Fr h₀ L s.heap m) (N : News h₀ L s.heap news) (X : (hd.heap_39 w.params).In h₀) (T : T02 mean mg mb h₀) (ho : DIn (inL R0) (.ref a) (.row ts)) (sub : ∀ p ∈ R0, p ∈ news) (hz : szT ts ≤ 200) (hh : A.handled = none) (hdp : A.depth + 300 < recursionLimit)
    (h : ∀ h' tk D ws j, Fr h₀ L h' m → News h₀ L h' ((D, W.listOf ws.toArray j) :: news) → (∀ p ∈ news, p.1 ≠ D) → All2 (fun v t => DIn (inL R0) v t ∧ ∀ ts, t ≠ .row ts) ws (lvL ts) → Q (.ref D) { s with heap := h', toks := tk }) : wpAny (model PySem.Challenge.rw_dn0146_02.row.prog w) A (call (.ref 61) [.ref a]) Q E s :=
  wpAny_call (leaves_fn (h₁ := s.heap) (Lf := fun v t => DIn (inL R0) v t ∧ ∀ ts, t ≠ .row ts) (fun v t q => (q.1.mono (inL_inH N sub)).leaf (P := w.params) q.2) 201 ts (by omega) A s _ a (fun _ _ e => e) (X.keeps F.keep) (T.keeps F.keep) hh (by omega) (GIn.mono' (inL_inH N sub) ho.g) hz fun h' tk D ws j st nD gD B => by
    have M : Made s.heap h' [(D, W.listOf ws.toArray j)] := fun p hp => by
      obtain rfl := List.mem_singleton.mp hp
      exact ⟨gD, nD⟩
    have q := M.news F N st
    exact h h' tk D ws j (F.grownK st) q.1 (fun p hp e => q.2 _ (.head _) p hp e.symm) B)
end
/-- two lists of leaves, place by place -/
theorem All2.both {La Lb : Value → Tr → Prop} : ∀ {xs ys : List Value} {ts : List Tr}, All2 La xs ts → All2 Lb ys ts → ∀ (i : Nat) (x y : Value), xs[i]? = some x → ys[i]? = some y → ∃ t, La x t ∧ Lb y t
  | _, _, _, .nil, .nil, i, x, y, h, _ => by simp at h
  | _, _, _, .cons a r, .cons b r', 0, x, y, h1, h2 => by
    simp at h1 h2; subst h1 h2; exact ⟨_, a, b⟩
  | _, _, _, .cons a r, .cons b r', i + 1, x, y, h1, h2 => by
    simp at h1 h2
    exact All2.both r r' i x y h1 h2
section
variable {prog : Program} {w : World} {A : Around} {E : Value → Shared → Prop} {s : Shared} {env : Env} {h₀ : Heap} {target : Expr} {body : List Stmt} {Q : Flow → Shared → Prop}
def TurnsHere (prog : Program) (w : World) (A : Around) (h₀ : Heap) (env : Env) (target : Expr) (body : List Stmt) (Q : Flow → Shared → Prop) (E : Value → Shared → Prop) (it : Value) (s₂ : Shared) : Prop := TurnsAt prog w A h₀ env target body Q E it s₂
theorem ForT_here {iter : Expr} {pos : Pos} {m : Str → Option Value} (F : Fr h₀ env.locals s.heap m)
    (h : wpAny (model prog w) A (eval iter env) (fun xv s₁ => wpAny (model prog w) A (pyIter xv) (fun it s₂ => TurnsHere prog w A h₀ env target body Q E it s₂) E s₁) E s)
    (hs : ∀ x, foldedSetIterable iter env x = pure x := by intro _; rfl)
    (hE : PassesOwn (model prog w) A env E := by passes_own) :
    wpAny (model prog w) A (exec (.For target iter body [] pos) env) Q E s := For_turns F h hs hE
/-- a turn's end where the ledger stays -/
def TurnEndZ (h₀ : Heap) (L : Addr) (nw : List (Addr × Obj)) (s₁ : Shared) (Q : Flow → Shared → Prop) (f : Flow) (s₂ : Shared) : Prop :=
  match f with
  | .ret v => Q (.ret v) s₂
  | .brk => Q .next s₂
  | _ => ∃ h' tk m', s₂ = { s₁ with heap := h', toks := tk } ∧ Fr h₀ L h' m' ∧ News h₀ L h' nw
theorem allObj_of : ∀ {ws : List (Addr × String)} {k : List (Addr × Obj) → Prop}, (∀ its, its.map (·.1) = ws.map (·.1) → k its) → AllObj ws k
  | [], _, f => f [] rfl
  | (a, c) :: ws, _, f => fun o _ => allObj_of fun its e => f ((a, o) :: its) (by simp [e])
theorem subL_all {all : List (Addr × Obj)} : ∀ {l : List (Addr × Obj)}, (∀ p ∈ l, p ∈ all) → SubL l all
  | [], _ => trivial
  | p :: r, h => ⟨h p (.head _), subL_all fun q hq => h q (.tail _ hq)⟩
theorem zip_all {nw keep : List (Addr × Obj)} {ws : List (Addr × String)} (hk : ∀ p ∈ keep, p ∈ nw) (hI : ∀ p ∈ nw, ∀ q ∈ ws.map (·.1), p.1 ≠ q) : ∀ (xs ys : List Value),
    (∀ (i : Nat) (x y : Value), xs[i]? = some x → ys[i]? = some y → ∀ m h tk T its, IsTup h T #[x, y] → Fr h₀ env.locals h m → News h₀ env.locals h (its ++ nw) → wpAny (model prog w) A (assign target env (.ref T)) (fun _ s₂ => wpAny (model prog w) A (execs body env) (TurnEndZ h₀ env.locals (its ++ nw) { s with heap := h, toks := tk } Q) E s₂) E { s with heap := h, toks := tk }) →
    (∀ m h tk, Fr h₀ env.locals h m → News h₀ env.locals h nw → Q .next { s with heap := h, toks := tk }) → ∀ m, ItemsRest prog w A E h₀ env target body Q s ws keep (zipItems xs ys) m nw
  | [], ys, _, done, m => ItemsRest.zero fun h tk F N => done m h tk F N
  | _ :: _, [], _, done, m => ItemsRest.zero fun h tk F N => done m h tk F N
  | x :: xr, y :: yr, turn, done, m => by
    have ih := zip_all (nw := nw) (keep := keep) (ws := ws) hk hI xr yr (fun i a b h1 h2 => turn (i + 1) a b (by simpa using h1) (by simpa using h2)) done
    refine ItemsRest.pair fun T t h tk hT F => allObj_of fun its e N => ?_
    refine wpAny_mono (turn 0 x y rfl rfl m h tk T its hT F N) (fun _ s₂ q => wpAny_mono q (fun f s₃ p => ?_) fun _ _ e => e) fun _ _ e => e
    have fin : (∃ h' tk' m', s₃ = { ({ s with heap := h, toks := tk } : Shared) with heap := h', toks := tk' } ∧ Fr h₀ env.locals h' m' ∧ News h₀ env.locals h' (its ++ nw)) →
        UnrEndW h₀ env.locals { s with heap := h, toks := tk } its (fun m' n' => SubL keep n' ∧ ItemsRest prog w A E h₀ env target body Q s ws keep (zipItems xr yr) m' n') s₃ := by
      rintro ⟨h', tk', m', e', F', N'⟩
      refine ⟨h', tk', m', nw, e', F', N', fun p hp q hq => hI p hp q.1 ?_, subL_all hk, ih m'⟩
      rw [← e]
      exact List.mem_map.mpr ⟨q, hq, rfl⟩
    cases f with
    | ret v => exact p
    | brk => exact p
    | next => exact fin p
    | cont => exact fin p
theorem zip_here {elts : List Expr} {k : Nat} {pos : Pos} {l1 l2 : Addr} {xs ys : List Value} {n1 n2 : Nat} {m₀ : Str → Option Value} {nw : List (Addr × Obj)}
    (hh : A.handled = none) (F : Fr h₀ env.locals s.heap m₀) (N : News h₀ env.locals s.heap nw) (hm1 : (l1, W.listOf xs.toArray n1) ∈ nw) (hm2 : (l2, W.listOf ys.toArray n2) ∈ nw)
    (turn : ∀ (i : Nat) (x y : Value), xs[i]? = some x → ys[i]? = some y → ∀ m h tk T R1, IsTup h T #[x, y] → (∀ p ∈ nw, p ∈ R1) → Fr h₀ env.locals h m → News h₀ env.locals h R1 → wpAny (model prog w) A (assign (.Tuple elts k pos) env (.ref T)) (fun _ s₂ => wpAny (model prog w) A (execs body env) (TurnEndZ h₀ env.locals R1 { s with heap := h, toks := tk } Q) E s₂) E { s with heap := h, toks := tk })
    (done : ∀ m h tk, Fr h₀ env.locals h m → News h₀ env.locals h nw → Q .next { s with heap := h, toks := tk }) :
    wpAny (model prog w) A (call (.type "zip") [.ref l1, .ref l2]) (fun xv s₁ => wpAny (model prog w) A (pyIter xv) (fun it s₂ => TurnsHere prog w A h₀ env (.Tuple elts k pos) body Q E it s₂) E s₁) E s := by
  refine ktu_zip hh F N hm1 rfl rfl hm2 rfl rfl fun I hI => zip_all (fun p hp => ?_) (fun p hp q hq => ?_) xs ys (fun i x y hx hy m h tk T its hT F N => turn i x y hx hy m h tk T (its ++ nw) hT (fun p hp => List.mem_append_right _ hp) F N) done _
  · rcases List.mem_cons.mp hp with rfl | hp
    · exact hm1
    · obtain rfl := List.mem_singleton.mp hp
      exact hm2
  · have l := hI p hp
    simp only [List.map_cons, List.map_nil, List.mem_cons, List.not_mem_nil, or_false] at hq
    refine Nat.ne_of_lt ?_
    have l' : @LT.lt Nat _ p.1 I := l
    rcases hq with rfl | rfl | rfl | rfl | rfl
    all_goals first | exact l' | exact Nat.lt_of_lt_of_le l' (Nat.le_add_right _ _)
end
end Mine
namespace Mine
theorem walk_none_Rp6 : True := by
  k_with_none
  trivial
end Mine
open PySem PySem.W PyProof.Rows PySem.Calls
namespace Mine
theorem name_facts {w : World} {h : Heap} (X : (hd.heap_39 w.params).In h) (tk : Tok) (nm : Str) (tn : Tok) : findIn (hd.heap_39 w.params) (.ref 40) "__getattribute__" = some (some (.builtin "int.__getattribute__")) ∧ findIn (hd.heap_39 w.params) (.ref 40) "__getattr__" = some none ∧
    findObj (hd.heap_39 w.params) 40 (some (nameD w.params tk nm tn)) (Str.ofString "name") = some (.value (.str nm tn)) := by
  revert X
  refine (?_ : PySem.Challenge.rw_dn0146_02 = PySem.Challenge.rw_dn0146_02 → (hd.heap_39 w.params).In h → _) rfl
  k_fill; intro _ X
  refine ⟨by k_is, by k_is, findObj_own (by k_is) (by k_is) (by k_is) ?_⟩
  rw [lookIn_dict]
  k_get
/-- leaf.name -/
theorem kni_name {w : World} {A : Around} {s : Shared} {Q E : Value → Shared → Prop} {x dx : Addr} {n : Int} {nm : Str} {tx tk tn : Tok} {h₀ : Heap} {L : Addr} {m : Str → Option Value} {news : List (Addr × Obj)} {expr : Bool}
    (F : Fr h₀ L s.heap m) (X : (hd.heap_39 w.params).In h₀) (N : News h₀ L s.heap news) (hx : (x, niObj 40 dx n tx) ∈ news) (hn : (dx, nameD w.params tk nm tn) ∈ news) (h : Q (.str nm tn) { s with toks := s.toks + 1 }) :
    wpAny (model PySem.Challenge.rw_dn0146_02.row.prog w) A (getAttr (.ref x) (Str.ofString "name") expr) Q E s := by
  obtain ⟨f1, f2, f3⟩ := name_facts X tk nm tn
  exact ni_get (niF02 X).toNiF (X.keeps F.keep) (N _ hx).1 (N _ hn).1 f1 f2 f3 rfl h
end Mine
namespace Mine
theorem walk_none_Ni12 : True := by
  k_with_none
  trivial
end Mine
open PySem PySem.W PyProof.Rows PySem.Calls PySem.SeqAt
namespace Mine
theorem scale_item {prog : Program} {w : World} {A : Around} {E : Value → Shared → Prop} {s : Shared} {value slice : Expr} {r : Addr} {a b c : Int} {t0 t1 t2 : Tok} {k : Int} {u : Tok} {Q : Value → Shared → Prop} (ht : IsTup s.heap r #[.int a t0, .int b t1, .int c t2]) (h0 : 0 ≤ k) (h1 : k < 3)
    (hb : (0 ≤ a ∧ a ≤ 10 ^ 30) ∧ (0 ≤ b ∧ b ≤ 10 ^ 30) ∧ (0 ≤ c ∧ c ≤ 10 ^ 30)) (h : ∀ z tz, 0 ≤ z → z ≤ 10 ^ 30 → Q (.int z tz) s)
    (hs : subscripted slice false (.ref r) (.int k u) = operate [.ref r, .int k u] (getItem (.ref r) (.int k u)) := by with_unfolding_all rfl) :
    wpAny (model prog w) A (subscriptTail value slice (.ref r) (.int k u)) Q E s := by
  have hj : ∀ j : Nat, k = j → j < 3 → seqIndex? k ([Value.int a t0, .int b t1, .int c t2] : List Value).length = some j := by
    intro j e hj
    subst e
    have : ¬ ((j : Int) < 0) := by omega
    unfold seqIndex?
    simp only [List.length_cons, List.length_nil, if_neg this]
    rw [if_pos (by simp; omega)]
    simp
  rcases (by omega : k = (0 : Nat) ∨ k = (1 : Nat) ∨ k = (2 : Nat)) with e | e | e
  · exact item_tupleT (l := [.int a t0, .int b t1, .int c t2]) (x := .int a t0) ht (by omega) (by omega) (hj 0 e (by decide)) rfl (h _ _ hb.1.1 hb.1.2) hs
  · exact item_tupleT (l := [.int a t0, .int b t1, .int c t2]) (x := .int b t1) ht (by omega) (by omega) (hj 1 e (by decide)) rfl (h _ _ hb.2.1.1 hb.2.1.2) hs
  · exact item_tupleT (l := [.int a t0, .int b t1, .int c t2]) (x := .int c t2) ht (by omega) (by omega) (hj 2 e (by decide)) rfl (h _ _ hb.2.2.1 hb.2.2.2) hs
theorem name_item {prog : Program} {w : World} {A : Around} {E : Value → Shared → Prop} {s : Shared} {value slice : Expr} {r : Addr} {x0 x1 x2 x3 x4 x5 : Str} {t0 t1 t2 t3 t4 t5 : Tok} {k : Int} {u : Tok} {Q : Value → Shared → Prop} (ht : IsTup s.heap r #[.str x0 t0, .str x1 t1, .str x2 t2, .str x3 t3, .str x4 t4, .str x5 t5]) (h0 : 0 ≤ k) (h1 : k < 6)
    (l0 : x0.length ≤ 10) (l1 : x1.length ≤ 10) (l2 : x2.length ≤ 10) (l3 : x3.length ≤ 10) (l4 : x4.length ≤ 10) (l5 : x5.length ≤ 10) (h : ∀ ms tms, ms.length ≤ 10 → Q (.str ms tms) s)
    (hs : subscripted slice false (.ref r) (.int k u) = operate [.ref r, .int k u] (getItem (.ref r) (.int k u)) := by with_unfolding_all rfl) :
    wpAny (model prog w) A (subscriptTail value slice (.ref r) (.int k u)) Q E s := by
  have hj : ∀ j : Nat, k = j → j < 6 → seqIndex? k ([Value.str x0 t0, .str x1 t1, .str x2 t2, .str x3 t3, .str x4 t4, .str x5 t5] : List Value).length = some j := by
    intro j e hj
    subst e
    have : ¬ ((j : Int) < 0) := by omega
    unfold seqIndex?
    simp only [List.length_cons, List.length_nil, if_neg this]
    rw [if_pos (by simp; omega)]
    simp
  rcases (by omega : k = (0 : Nat) ∨ k = (1 : Nat) ∨ k = (2 : Nat) ∨ k = (3 : Nat) ∨ k = (4 : Nat) ∨ k = (5 : Nat)) with e | e | e | e | e | e
  · exact item_tupleT (l := [.str x0 t0, .str x1 t1, .str x2 t2, .str x3 t3, .str x4 t4, .str x5 t5]) (x := .str x0 t0) ht (by omega) (by omega) (hj 0 e (by decide)) rfl (h _ _ l0) hs
  · exact item_tupleT (l := [.str x0 t0, .str x1 t1, .str x2 t2, .str x3 t3, .str x4 t4, .str x5 t5]) (x := .str x1 t1) ht (by omega) (by omega) (hj 1 e (by decide)) rfl (h _ _ l1) hs
  · exact item_tupleT (l := [.str x0 t0, .str x1 t1, .str x2 t2, .str x3 t3, .str x4 t4, .str x5 t5]) (x := .str x2 t2) ht (by omega) (by omega) (hj 2 e (by decide)) rfl (h _ _ l2) hs
  · exact item_tupleT (l := [.str x0 t0, .str x1 t1, .str x2 t2, .str x3 t3, .str x4 t4, .str x5 t5]) (x := .str x3 t3) ht (by omega) (by omega) (hj 3 e (by decide)) rfl (h _ _ l3) hs
  · exact item_tupleT (l := [.str x0 t0, .str x1 t1, .str x2 t2, .str x3 t3, .str x4 t4, .str x5 t5]) (x := .str x4 t4) ht (by omega) (by omega) (hj 4 e (by decide)) rfl (h _ _ l4) hs
  · exact item_tupleT (l := [.str x0 t0, .str x1 t1, .str x2 t2, .str x3 t3, .str x4 t4, .str x5 t5]) (x := .str x5 t5) ht (by omega) (by omega) (hj 5 e (by decide)) rfl (h _ _ l5) hs
theorem bits_le {a : Int} (h : a.natAbs < 2 ^ 64) : Builtin.Int.intBits a ≤ 64 := by
  unfold Builtin.Int.intBits
  split
  · omega
  · rename_i q
    have hz : a.natAbs ≠ 0 := by
      intro z
      have : a = 0 := by omega
      rw [this] at q; exact q rfl
    have := (Nat.log2_lt hz).mpr h
    omega
theorem num_mul {prog : Program} {w : World} {A : Around} {E : Value → Shared → Prop} {s : Shared} {a z : Int} {t u : Tok} {Q : Value → Shared → Prop} (ha : -8 ≤ a ∧ a ≤ 7) (hz : 0 ≤ z ∧ z ≤ 10 ^ 30)
    (h : ∀ r tr, (-BL ≤ r ∧ r ≤ BL) → Q (.int r tr) { s with toks := s.toks + 1 }) : wpAny (model prog w) A (binaryOp .Mult (.int a t) (.int z u)) Q E s := by
  have eBL : BL = 8 * 10 ^ 30 := rfl
  refine AutoIntOps.mul_0 ?_ (IntMulOk.of_left (bits_le (by omega)))
  refine h _ _ ⟨?_, ?_⟩
  · have h1 : (-8) * z ≤ a * z := Int.mul_le_mul_of_nonneg_right ha.1 hz.1
    omega
  · have h1 : a * z ≤ 7 * z := Int.mul_le_mul_of_nonneg_right ha.2 hz.1
    omega
theorem num_bound {a : Int} (ha : -8 ≤ a ∧ a ≤ 7) (k : Nat) : -BL ≤ a * [1, 2 ^ Int.toNat 32, 10 ^ Int.toNat 30].getD k 0 ∧ a * [1, 2 ^ Int.toNat 32, 10 ^ Int.toNat 30].getD k 0 ≤ BL := by
  have eBL : BL = 8 * 10 ^ 30 := rfl
  have e1 : (2 : Int) ^ Int.toNat 32 = 2 ^ 32 := rfl
  have e2 : (10 : Int) ^ Int.toNat 30 = 10 ^ 30 := rfl
  rw [e1, e2]
  match k with
  | 0 => simp only [List.getD_cons_zero]; omega
  | 1 => simp only [List.getD_cons_succ, List.getD_cons_zero]; omega
  | 2 => simp only [List.getD_cons_succ, List.getD_cons_zero]; omega
  | k + 3 => simp only [List.getD_cons_succ, List.getD_nil]; omega
theorem fm1728 (n : Int) : n.fmod 1728 = n % 1728 := Int.fmod_eq_emod_of_nonneg n (by omega)
theorem fm6 (n : Int) : n.fmod 6 = n % 6 := Int.fmod_eq_emod_of_nonneg n (by omega)
theorem fd6 (n : Int) : n.fdiv 6 = n / 6 := Int.fdiv_eq_ediv_of_nonneg n (by omega)
theorem fm16 (n : Int) : n.fmod 16 = n % 16 := Int.fmod_eq_emod_of_nonneg n (by omega)
theorem fd16 (n : Int) : n.fdiv 16 = n / 16 := Int.fdiv_eq_ediv_of_nonneg n (by omega)
local macro_rules | `(tactic| k_all) => `(tactic| assumption)
theorem walk_lines_5 : True := by
  k_with "exec For" => (k_here; (with_reducible show wpAny _ _ (exec (Stmt.For (Expr.Name _ _) _ _ _ _) _) _ _ _); k_dflt (refine' For_here (by k_asm) (by rfl) (by rfl) ?_))
  k_with "exec For Name BinOp cons nil" => (k_here; (with_reducible show wpAny _ _ (exec (Stmt.For (Expr.Name _ _) _ _ _ _) _) _ _ _); k_dflt (refine' For_here (by k_asm) (by rfl) (by rfl) ?_))
  k_with "exec For Name Call cons nil" => (k_here; (with_reducible show wpAny _ _ (exec (Stmt.For (Expr.Name _ _) _ _ _ _) _) _ _ _); k_dflt (refine' For_here (by k_asm) (by rfl) (by rfl) ?_))
  k_with "call ref" => (k_here; (with_reducible show wpAny _ _ (call (Value.ref 40) [_, Value.str _ _]) _ _ _); k_dflt (refine' ni_makeK (by k_asm) (by k_asm) (by k_asm) (by k_asm) (by first | decide | ktr_room | omega) (by first | exact Or.inl ⟨_, rfl⟩ | exact Or.inr ⟨_, _, _, rfl, by k_mem⟩) ?_; k_whole; intro _ _ _ _ _ _' F' N' l1 l2; (try k_lt l1)))
  k_with "subscriptTail" => (k_here; (with_reducible show wpAny _ _ (subscriptTail (Expr.Tuple _ _ _) _ (Value.ref _) (Value.int _ _)) _ _ _); k_dflt (first | (refine' scale_item (by exact News.isTup (by k_asm) (by k_mem)) (by omega) (by omega) (by omega) ?_ (by with_unfolding_all rfl); k_whole; intro _ _ _ _) | (refine' name_item (by exact News.isTup (by k_asm) (by k_mem)) (by omega) (by omega) (by decide) (by decide) (by decide) (by decide) (by decide) (by decide) ?_ (by with_unfolding_all rfl); k_whole; intro _ _ _)))
  k_with "binaryOp Mult int int" => (k_here; k_dflt (refine' num_mul (by omega) (by omega) ?_; k_whole; intro _ _ _))
  trivial
theorem start_ok {P : Params} {m' : Str → Option Value} {op du a b x dx k1 p1 p3 : Addr} {tx tkx tn t0 t1 t2 : Tok} {k0 kd ka kb : Nat} {o1 o2 : Obj}
    (h : @LT.lt Nat _ b du ∧ @LT.lt Nat _ du a ∧ @LT.lt Nat _ a op) 
    (m1 : m' (Str.ofString "opened") = some (.ref du)) (m2 : m' (Str.ofString "due") = some (.ref op)) (m3 : m' (Str.ofString "last") = some (.ref x)) (m4 : m' (Str.ofString "known") = some (.ref k1))
    (hx : @LT.lt Nat _ op p3 ∧ @LT.lt Nat _ p3 dx ∧ @LT.lt Nat _ dx x ∧ @LT.lt Nat _ x k1 ∧ @LT.lt Nat _ k1 p1) :
    JT P 0 m' ((du, W.listOf #[Value.ref b] k0) :: (op, W.listOf #[Value.ref a] kd) :: (b, W.listOf #[] kb) :: (a, W.listOf #[] ka) :: [(p1, o1), (k1, tupOf [.int 0 t0, .str (Str.ofString "FAILURE") t1, .str (Str.ofString "FAILURE") t2]), (x, niObj 40 dx 0 tx), (dx, nameD P tkx (Str.ofString "FAILURE") tn), (p3, o2)]) := by
  obtain ⟨h1, h2, h3⟩ := h
  obtain ⟨x1, x2, x3, x4, x5⟩ := hx
  refine ⟨du, op, b, a, [], [], kb, ka, [], [], [(p1, o1), (k1, tupOf [.int 0 t0, .str (Str.ofString "FAILURE") t1, .str (Str.ofString "FAILURE") t2]), (x, niObj 40 dx 0 tx), (dx, nameD P tkx (Str.ofString "FAILURE") tn), (p3, o2)], k0, kd, x, dx, 0, Str.ofString "FAILURE", tx, tkx, tn, k1, t0, t1, t2, ⟨m1, m2, m3, m4, rfl, ⟨?_, ?_, ?_⟩, ?_, ?_, ?_, ?_, ?_, ?_, ?_, by decide, by decide, ?_⟩⟩
  · simp only [addrs, List.nodup_cons, List.mem_cons, List.not_mem_nil, or_false, not_false_eq_true, List.nodup_nil, and_true]
    exact Nat.ne_of_lt (by omega)
  · intro p hp q
    simp only [addrs, List.mem_cons, List.not_mem_nil, or_false] at hp q
    rcases hp with rfl | rfl | rfl | rfl | rfl <;> rcases q with q | q <;> exact absurd q (Nat.ne_of_gt (by first | omega | (dsimp only; omega)))
  · intro r hr
    obtain rfl := List.mem_singleton.mp hr
    exact ⟨.nil, .nil, trivial⟩
  · exact Nat.ne_of_lt (by omega)
  · intro q
    simp only [addrs, List.mem_cons, List.not_mem_nil, or_false] at q
    rcases q with q | q
    · exact absurd q (Nat.ne_of_gt (by omega))
    · exact absurd q (Nat.ne_of_lt (by omega))
  · intro q
    simp only [addrs, List.mem_cons, List.not_mem_nil, or_false] at q
    rcases q with q | q <;> exact absurd q (Nat.ne_of_gt (by omega))
  · intro p hp
    simp only [List.mem_cons, List.not_mem_nil, or_false] at hp
    rcases hp with rfl | rfl | rfl | rfl | rfl <;> exact ⟨Nat.ne_of_gt (by first | omega | (dsimp only; omega)), Nat.ne_of_gt (by first | omega | (dsimp only; omega))⟩
  · exact .tail _ (.tail _ (.head _))
  · exact .tail _ (.tail _ (.tail _ (.head _)))
  · exact .tail _ (.head _)
  · simp [szS, szT]
theorem start_sub {a1 a2 a3 a4 a5 a6 a7 a8 a9 : Addr × Obj} {h₀ h : Heap} {L : Addr} (N : News h₀ L h [a1, a2, a3, a4, a5, a6, a7, a8, a9]) : News h₀ L h (a8 :: a6 :: a9 :: a7 :: [a1, a2, a3, a4, a5]) := fun p hp => by
  refine N p ?_
  simp only [List.mem_cons, List.not_mem_nil, or_false] at hp ⊢
  rcases hp with h | h | h | h | h | h | h | h | h <;> simp [h]
theorem turn_first {h₀ h : Heap} {L : Addr} {I l a b c d : Addr × Obj} {R : List (Addr × Obj)} (N : News h₀ L h (I :: l :: a :: b :: c :: d :: R)) : News h₀ L h (a :: b :: c :: d :: I :: l :: R) := fun p hp => by
  refine N p ?_
  simp only [List.mem_cons] at hp ⊢
  rcases hp with h | h | h | h | h | h | h <;> simp [h]
def ZipMark (p : Prop) : Prop := p
theorem ZipMark.out {p : Prop} (h : ZipMark p) : p := h
theorem starEach_bin {a b : Expr} {o : Operator} {p : Pos} {rest : List Expr} {env : Env} : starEach (.BinOp a o b p :: rest) env = (false, eval (.BinOp a o b p) env) :: starEach rest env := by simp only [starEach]
theorem starEach_lst {a : List Expr} {p : Pos} {rest : List Expr} {env : Env} : starEach (.List a p :: rest) env = (false, eval (.List a p) env) :: starEach rest env := by simp only [starEach]
section
variable {M : Model} {A : Around} {E : Value → Shared → Prop} {s : Shared} {pos : Pos} {id : String} {first : List Value} {env : Env} {Q : Value → Shared → Prop}
theorem cw_bin {a b : Expr} {o : Operator} {p : Pos} 
    (h : wpAny M A (spliced (backTo pos (starEach [.BinOp a o b p] env))) (fun vs s₁ => wpAny M A (call (.builtin id) (first ++ vs)) Q E s₁) E s) :
    wpAny M A (callWith pos (.builtin id) first (backTo pos (starEach [.BinOp a o b p] env)) []) Q E s :=
  callWith_method1 h starEach_bin (by rfl)
theorem cw_list {a : List Expr} {p : Pos} 
    (h : wpAny M A (spliced (backTo pos (starEach [.List a p] env))) (fun vs s₁ => wpAny M A (call (.builtin id) (first ++ vs)) Q E s₁) E s) :
    wpAny M A (callWith pos (.builtin id) first (backTo pos (starEach [.List a p] env)) []) Q E s :=
  callWith_method1 h starEach_lst (by rfl)
end
theorem front {h₀ h : Heap} {L : Addr} {news : List (Addr × Obj)} {p : Addr × Obj} (N : News h₀ L h news) (hp : p ∈ news) : News h₀ L h (p :: news) := fun q hq => by
  rcases List.mem_cons.mp hq with rfl | hq
  · exact N _ hp
  · exact N _ hq
local macro_rules | `(tactic| k_ne) => `(tactic| (first | exact Apart.ne (by assumption) | exact Ne.symm (Apart.ne (by assumption))))
local macro_rules | `(tactic| k_inst) => `(tactic| exact ni_instAt (News.get (by k_asm) (by k_mem)) (News.get (by k_asm) (by k_mem)))
theorem walk_lines_6 : True := by
  k_with "subscriptTail Name UnaryOp ref int" => (k_here; k_dflt (refine' last_item (by exact News.isList (by k_asm) (by k_mem)) ?_ (by with_unfolding_all rfl); k_whole))
  k_with "subscriptTail Subscript UnaryOp ref int" => (k_here; k_dflt (refine' last_item (by exact News.isList (by k_asm) (by k_mem)) ?_ (by with_unfolding_all rfl); k_whole))
  k_with "call builtin:list.append" => (k_here; (with_reducible show wpAny _ _ (call (Value.builtin _) [Value.ref _, _]) _ _ _); k_dflt (refine' append_K (by k_asm) (by k_asm) (by k_upd) ?_ (by exact szL (by assumption)); k_whole); intro _ _ N'; (simp only [List.push_toArray] at N'); (try k_sweep))
  k_with "getMethod ref" => (k_here; (with_reducible show wpAny _ _ (getMethod (Value.ref _) (PySem.Str.ofString "append") _) _ _ _); k_dflt (refine' listMethod_K (by k_asm) (by k_mem) PySem.F.slot_list_append PySem.F.type_list_append ?_))
  k_with "getMethod ref" => (k_here; (with_reducible show wpAny _ _ (getMethod (Value.ref _) (PySem.Str.ofString "extend") _) _ _ _); k_dflt (refine' kl_method (by k_asm) (by k_mem) PySem.F.slot_list_extend PySem.F.type_list_extend ?_))
  k_with "callWith" => (k_here; (with_reducible show wpAny _ _ (callWith _ _ _ (backTo _ (starEach [Expr.Subscript _ _ _] _)) []) _ _ _); (show wpAny _ _ (callWith _ (Value.builtin _) [Value.ref _] _ _) _ _ _); (with_reducible refine cw_sub ?_))
  k_with "callWith" => (k_here; (with_reducible show wpAny _ _ (callWith _ _ _ (backTo _ (starEach [Expr.Tuple _ _ _] _)) []) _ _ _); (show wpAny _ _ (callWith _ (Value.builtin _) [Value.ref _] _ _) _ _ _); (with_reducible refine cw_tup ?_))
  k_with "callWith" => (k_here; (with_reducible show wpAny _ _ (callWith _ _ _ (backTo _ (starEach [Expr.BinOp _ _ _ _] _)) []) _ _ _); (show wpAny _ _ (callWith _ (Value.builtin _) [Value.ref _] _ _) _ _ _); (with_reducible refine cw_bin ?_))
  k_with "callWith" => (k_here; (with_reducible show wpAny _ _ (callWith _ _ _ (backTo _ (starEach [Expr.List _ _] _)) []) _ _ _); (show wpAny _ _ (callWith _ (Value.builtin _) [Value.ref _] _ _) _ _ _); (with_reducible refine cw_list ?_))
  k_with "call builtin:max" => (k_here; (with_reducible show wpAny _ _ (call (Value.builtin "max") [Value.int _ _, Value.ref _]) _ _ _); k_dflt (first | (refine' kni_max1 (by with_unfolding_all rfl) (by k_asm) (by k_asm) (by k_asm) (niF02 (by k_asm)) (by k_mem) (by first | (with_unfolding_all exact Nat.le_of_ble_eq_true rfl) | decide | ktr_room | omega) (by assumption) ?_; k_whole; intro h' tk' F' N') | (refine' kni_max0 (by with_unfolding_all rfl) (by k_asm) (by k_asm) (by k_asm) (niF02 (by k_asm)) (by k_mem) (by first | (with_unfolding_all exact Nat.le_of_ble_eq_true rfl) | decide | ktr_room | omega) (by assumption) ?_; k_whole; intro h' tk' F' N')))
  k_with "call builtin:max" => (k_here; (with_reducible show wpAny _ _ (call (Value.builtin "max") [Value.int _ _, Value.int _ _]) _ _ _); k_dflt (first | (refine' kmax1 (by with_unfolding_all rfl) (by k_asm) (by k_asm) (by assumption) ?_; k_whole; intro h' tk' F' N') | (refine' kmax0 (by with_unfolding_all rfl) (by k_asm) (by k_asm) (by assumption) ?_; k_whole; intro h' tk' F' N')))
  k_with "subscriptTail Name Slice ref ref" => (k_here; (with_reducible show wpAny _ _ (subscriptTail _ (PySem.Expr.Slice none _ none _) (Value.ref _) (Value.ref _)) _ _ _); k_dflt (refine' kmk_slice_lit (by k_asm) (by k_asm) (by exact News.isList (by k_asm) (by k_mem)) (by kmk_part) (by kmk_part) (by exact pick_take (by omega)) ?_ (by with_unfolding_all rfl) (by kmk_pure) (by exact szL (by assumption))); intro _ _ _ _ l1; (try k_lt l1); (try k_sweep))
  k_with "subscriptTail Name Slice ref ref" => (k_here; (with_reducible show wpAny _ _ (subscriptTail _ (PySem.Expr.Slice none _ none _) (Value.ref _) (Value.ref _)) _ _ _); k_dflt (refine' kni_slice (by k_asm) (by k_asm) (by k_asm) (niF02 (by k_asm)) (by exact News.isList (by k_asm) (by k_mem)) (by k_mem) (by omega) ?_ (by with_unfolding_all rfl) (by kmk_pure) (by exact szL (by assumption))); intro _ _ _ _ l1; (try k_lt l1); (try k_sweep))
  k_with "binaryOp Add ref int" => (k_here; (with_reducible show wpAny _ _ (binaryOp Operator.Add (Value.ref _) (Value.int _ _)) _ _ _); k_dflt (refine' kni_add (by k_asm) (by k_asm) (by k_asm) (niF02 (by k_asm)) (by k_mem) ?_; k_whole; intro _))
  k_with "binaryOp Mod ref int" => (k_here; (with_reducible show wpAny _ _ (binaryOp Operator.Mod (Value.ref _) (Value.int _ _)) _ _ _); k_dflt (refine' kni_mod (by k_asm) (by k_asm) (by k_asm) (niF02 (by k_asm)) (by k_mem) (by rfl) (by rfl) ?_; k_whole; intro _))
  k_with "binaryOp Mult ref int" => (k_here; (with_reducible show wpAny _ _ (binaryOp Operator.Mult (Value.ref _) (Value.int (Int.fmod _ _) _)) _ _ _); (have kq := ‹Int.fmod _ 3 = _›; rw [kq]; clear kq); k_dflt (refine' KMa.mul (by k_asm) (by k_asm) (by exact News.isList (by k_asm) (by k_mem)) (by decide) (by decide) (by simp only [List.length_cons, List.length_nil]; decide) (by simp only [Int.reduceToNat, List.replicate_succ, List.replicate_zero, List.flatten_cons, List.flatten_nil, List.cons_append, List.nil_append, List.append_nil]; first | done | exact rfl) ?_; k_whole); intro _ _ _ _ l1; (try k_lt l1); (try k_sweep))
  k_with "call builtin:list.extend" => (k_here; (with_reducible show wpAny _ _ (call (Value.builtin _) [Value.ref _, Value.ref _]) _ _ _); k_dflt (refine' ext_0 (by k_asm) (by k_asm) (by k_mem) (by k_upd) (by assumption) ?_; k_whole); intro _ _ _; (try k_sweep))
  k_with "call builtin:list.extend" => (k_here; (with_reducible show wpAny _ _ (call (Value.builtin _) [Value.ref _, Value.ref _]) _ _ _); k_dflt (refine' ext_1 (by k_asm) (by k_asm) (by k_mem) (by k_upd) (by assumption) ?_; k_whole); intro _ _ _; (try k_sweep))
  k_with "call builtin:list.extend" => (k_here; (with_reducible show wpAny _ _ (call (Value.builtin _) [Value.ref _, Value.ref _]) _ _ _); k_dflt (refine' ext_2 (by k_asm) (by k_asm) (by k_mem) (by k_upd) (by assumption) ?_; k_whole); intro _ _ _; (try k_sweep))
  k_with "call type:str" => (k_here; (with_reducible show wpAny _ _ (call (Value.type _) [Value.int _ _]) _ _ _); k_dflt (refine' P.str_of_int (log_small (by assumption)) ?_; k_whole))
  k_with "subscriptTail Name Constant ref int" => (k_here; k_dflt (refine' at_item (by exact News.isList (by k_asm) (by k_mem)) (by decide) (by decide) (by rfl) ?_ (by with_unfolding_all rfl); k_whole))
  k_with "call builtin:repr" => (k_here; (with_reducible show wpAny _ _ (call (Value.builtin _) [Value.ref _]) _ _ _); k_dflt (refine' repr_step (by k_asm) (by k_asm) (by k_asm) (by k_asm) (by assumption) (by (intro p hp; repeat (first | exact hp | apply List.Mem.tail))) (by assumption) (by assumption) (by with_unfolding_all rfl) (by with_unfolding_all rfl) (by with_unfolding_all exact Nat.le_of_ble_eq_true rfl) (by with_unfolding_all exact Nat.le_of_ble_eq_true rfl) ?_; k_whole; intro _ _ _ _ _))
  k_with "call ref" => (k_here; (with_reducible show wpAny _ _ (call (Value.ref 49) [Value.ref _]) _ _ _); k_dflt (refine' text_law (by k_asm) (by k_asm) (by k_asm) (by k_asm) (by assumption) (by (intro p hp; repeat (first | exact hp | apply List.Mem.tail))) (by assumption) (by assumption) (by with_unfolding_all rfl) (by with_unfolding_all exact Nat.le_of_ble_eq_true rfl) ?_; k_whole; intro _ _ _ _ _))
  k_with "call ref" => (k_here; (with_reducible show wpAny _ _ (call (Value.ref 54) [Value.ref _]) _ _ _); k_dflt (refine' bare_law (by k_asm) (by k_asm) (by k_asm) (by k_asm) (by assumption) (by (intro p hp; repeat (first | exact hp | apply List.Mem.tail))) (by assumption) (by with_unfolding_all rfl) (by with_unfolding_all exact Nat.le_of_ble_eq_true rfl) ?_; k_whole; intro _ _ _ _ _ _))
  k_with "call ref" => (k_here; (with_reducible show wpAny _ _ (call (Value.ref 61) [Value.ref _]) _ _ _); k_dflt (first | (refine' olv_law (by k_asm) (by k_asm) (by k_asm) (by k_asm) (by assumption) (by (intro p hp; repeat (first | exact hp | apply List.Mem.tail))) (by assumption) (by with_unfolding_all rfl) (by with_unfolding_all exact Nat.le_of_ble_eq_true rfl) ?_; k_whole; intro h' tk' d' ws' j' F' N' o' B') | (refine' dlv_law (by k_asm) (by k_asm) (by k_asm) (by k_asm) (by assumption) (by (intro p hp; repeat (first | exact hp | apply List.Mem.tail))) (by assumption) (by with_unfolding_all rfl) (by with_unfolding_all exact Nat.le_of_ble_eq_true rfl) ?_; k_whole; intro h' tk' d' ws' j' F' N' o' B')))
  k_with "compareOp NotEq ref ref" => (k_here; k_dflt (refine' rows_law (by k_asm) (by k_asm) (by k_asm) (by assumption) (by (intro p hp; repeat (first | exact hp | apply List.Mem.tail))) (by assumption) (by assumption) (by with_unfolding_all exact Nat.le_of_ble_eq_true rfl) ?_; k_whole))
  k_with "call type:zip" => (k_here; (with_reducible show wpAny _ _ (call (Value.type _) [Value.ref _, Value.ref _]) _ _ _); (refine ZipMark.out ?_))
  k_with "getAttr ref" => (k_here; (with_reducible show wpAny _ _ (getAttr (Value.ref _) (Str.ofString "name") _) _ _ _); k_dflt (refine' kni_name (by k_asm) (by k_asm) (by k_asm) (by k_mem) (by k_mem) ?_; k_whole))
  k_with "exec For Tuple Call cons nil" => (k_here; k_dflt (refine' ForT_here (by k_asm) ?_))
  trivial
theorem law_walk : PySem.Challenge.rw_dn0146_02.Holds := hd (by
  w_strict (
    k_go0; (all_goals try k_fold))
  rename_i ns hs0 hlay hL1 hr1 hl2 w4 w3 lv vs w0 hL ra w1 r0 hI hr h63 hT0 K0 hD0 h1 F1 N1
  have hn63 : ns.length ≤ 63 := by omega
  clear hs0 hlay hL1 hr1 ra w1 r0 hT0 hD0
  rename World => ww
  refine cutP F1 N1 2 (fun m nw m' nw' => m' (Str.ofString "script") = some (.ref lv) ∧ JT ww.params 0 m' nw') ?a1 ?a2
  case a1 =>
    show wpAny _ _ (execs [_, _] _) _ _ _
    k_steps
    rename News _ _ _ _ => N9
    rename Fr _ _ _ _ => F9
    refine ⟨_, _, _, _, rfl, F9, start_sub N9, rfl, start_ok ?_ rfl rfl rfl rfl ?_⟩ <;> omega
  case a2 =>
  clear F1 N1
  rintro h1 tk1 m1 nw1 F1 N1 ⟨z0, hJ⟩
  refine cutP F1 N1 1 (fun m nw m' nw' => JT ww.params 71 m' nw') ?b1 ?b2
  case b1 =>
    show wpAny _ _ (execs [_] _) _ _ _
    have hJ0 := hJ
    obtain ⟨op, du, a, b, vs0, us0, ka, kb, ts, rest, T, kop, kdu, x, dx, n, nm, tx, tkx, tn, kt, t0, t1, t2, J⟩ := hJ
    rw [mapc z0 (mapc J.m1 (mapc J.m2 (mapc J.m3 (mapc J.m4 rfl))))] at F1
    obtain ⟨R0, hR0⟩ : ∃ R0, R0 = nw1 := ⟨_, rfl⟩
    rw [← hR0] at N1
    k_steps
    rename News _ _ _ _ => N2
    rename Fr _ _ _ _ => F2
    rename IntsAre _ ([62, 0, 195, 0, 5, 1, 22, 956] ++ List.take 63 ns) => hIx
    rename_i ls ws hlast ltc
    subst hR0
    refine loop_here (fun i m nw => JT ww.params i m nw ∧ ∀ p ∈ nw, p.1 ≠ ls) ?hh F2 N2 (.head _) (fun p hp => .tail _ (.tail _ (.tail _ hp))) ?start ?turn ?done
    case hh => rfl
    case start => exact ⟨⟨op, du, a, b, vs0, us0, ka, kb, ts, rest, T, kop, kdu, x, dx, n, nm, tx, tkx, tn, kt, t0, t1, t2, { J with m1 := rfl, m2 := rfl, m3 := rfl, m4 := rfl }⟩, tbn_neAll ltc.2.2⟩
    case turn =>
      clear F2 N2 J hJ0
      intro i v m₁ news₁ h tk I oI lo hv hJ hoff hlo F1 N1
      obtain ⟨hJ, hlsoff⟩ := hJ
      obtain ⟨y, ty, rfl, -⟩ := IntsAre.at hIx i v hv
      have hi71 : i < 71 := by
        have h1 := (List.getElem?_eq_some_iff.mp hv).1
        have h2 := hIx.length
        simp only [List.length_append, List.length_cons, List.length_nil, List.length_take] at h2
        omega
      clear hIx
      clear op du a b vs0 us0 ka kb ts rest T kop kdu x dx n nm tx tkx tn kt t0 t1 t2
      obtain ⟨op, du, a, b, vs0, us0, ka, kb, ts, rest, T, kop, kdu, x, dx, n, nm, tx, tkx, tn, kt, t0, t1, t2, J⟩ := hJ
      rw [mapc J.m1 (mapc J.m2 (mapc J.m3 (mapc J.m4 rfl)))] at F1
      obtain ⟨R1, hR1⟩ : ∃ R1, R1 = news₁ := ⟨_, rfl⟩
      rw [← hR1] at N1
      refine cutP F1 N1 5 (fun m nw m' nw' => nw' = nw ∧ m' (Str.ofString "opened") = some (.ref op) ∧ m' (Str.ofString "due") = some (.ref du) ∧ m' (Str.ofString "last") = some (.ref x) ∧ m' (Str.ofString "known") = some (.ref kt) ∧ ∃ (how r : Int) (t3 t4 t5 : Tok) (ms : Str), m' (Str.ofString "how") = some (.int how t3) ∧ m' (Str.ofString "number") = some (.int r t4) ∧ m' (Str.ofString "name") = some (.str ms t5) ∧ 0 ≤ how ∧ how < 6 ∧ (-BL ≤ r ∧ r ≤ BL) ∧ ms.length ≤ 10) ?c1 ?c2
      case c1 =>
        show wpAny _ _ (execs [_, _, _, _, _] _) _ _ _
        have e1 := fm1728 y
        have e2 := fm6 (y.fmod 1728)
        have e3 := fd6 (y.fmod 1728)
        have e4 := fm16 ((y.fmod 1728).fdiv 6)
        have e5 := fd16 ((y.fmod 1728).fdiv 6)
        have e6 := fm6 (((y.fmod 1728).fdiv 6).fdiv 16)
        have e7 := fd6 (((y.fmod 1728).fdiv 6).fdiv 16)
        k_steps
        rename News _ _ _ _ => N9
        rename Fr _ _ _ _ => F9
        exact ⟨_, _, _, _, rfl, F9, fun p hp => N9 p (by repeat (first | exact hp | apply List.mem_cons_of_mem)), rfl, rfl, rfl, rfl, rfl, _, _, _, _, _, _, rfl, rfl, rfl, by omega, by omega, num_bound (by omega) _, by assumption⟩
      case c2 =>
      clear F1 N1
      rintro h2 tk2 m2 nw2 F1 N1 ⟨rfl, z1, z2, z3, z4, how, r, t3, t4, t5, ms, z5, z6, z7, hh0, hh6, hr, hms⟩
      rw [mapc z1 (mapc z2 (mapc z3 (mapc z4 (mapc z5 (mapc z6 (mapc z7 rfl))))))] at F1
      clear z1 z2 z3 z4 z5 z6 z7
      rw [hR1, J.nw] at N1
      have Jab := J.ab
      have Joff := J.off
      have hI4 := hoff
      have hl4 := hlsoff
      rw [J.nw] at hI4 hl4
      have hIT : ∀ p ∈ lower a b rest ++ T, p.1 ≠ I := fun p hp => hI4 p (.tail _ (.tail _ (.tail _ (.tail _ hp))))
      have mx : (x, niObj 40 dx n tx) ∈ (I, oI) :: (ls, lo) :: (lower a b rest ++ T) := .tail _ (.tail _ (List.mem_append_right _ J.lx))
      have mk : (kt, tupOf [.int n t0, .str nm t1, .str nm t2]) ∈ (I, oI) :: (ls, lo) :: (lower a b rest ++ T) := .tail _ (.tail _ (List.mem_append_right _ J.lk))
      replace N1 := front (front (turn_first N1) (.tail _ (.tail _ (.tail _ (.tail _ mk))))) (.tail _ (.tail _ (.tail _ (.tail _ (.tail _ mx)))))
      have sz := J.sz
      have szl := szS_len rest
      rw [szS] at sz
      have hzv := (J.ok.tree _ (.head _)).1.len
      have hzu := (J.ok.tree _ (.head _)).2.1.len
      have hzt := szT_len ts
      dsimp only at sz hzv hzu
      have hz1 : (oRefs rest ++ [Value.ref a]).length ≤ 100000 := by rw [List.length_append, oRefs_len, List.length_singleton]; omega
      have hz2 : (dRefs rest ++ [Value.ref b]).length ≤ 100000 := by rw [List.length_append, dRefs_len, List.length_singleton]; omega
      have hz3 : vs0.length ≤ 100000 := by omega
      have hz4 : us0.length ≤ 100000 := by omega
      have hz5 : vs0.length ≤ 1000 := by omega
      have hz6 : us0.length ≤ 1000 := by omega
      have q1 := Apart.of J.od
      have q2 := Apart.of Jab.1
      have q3 := Apart.of Jab.2.1
      have q4 := Apart.of Jab.2.2.1
      have q5 := Apart.of Jab.2.2.2.1
      have q6 := Apart.of Jab.2.2.2.2
      have q7 := Apart.of (hI4 _ (.head _))
      have q8 := Apart.of (hI4 _ (.tail _ (.head _)))
      have q9 := Apart.of (hI4 _ (.tail _ (.tail _ (.head _))))
      have q10 := Apart.of (hI4 _ (.tail _ (.tail _ (.tail _ (.head _)))))
      have ox := Joff _ (List.mem_append_right _ J.lx)
      have ok' := Joff _ (List.mem_append_right _ J.lk)
      have r1 := Apart.of ox.1
      have r2 := Apart.of ox.2.1
      have r3 := Apart.of ox.2.2.1
      have r4 := Apart.of ox.2.2.2
      have r5 := Apart.of ok'.1
      have r6 := Apart.of ok'.2.1
      have r7 := Apart.of ok'.2.2.1
      have r8 := Apart.of ok'.2.2.2
      have q11 := Apart.of (hl4 _ (.head _))
      have q12 := Apart.of (hl4 _ (.tail _ (.head _)))
      have q13 := Apart.of (hl4 _ (.tail _ (.tail _ (.head _))))
      have q14 := Apart.of (hl4 _ (.tail _ (.tail _ (.tail _ (.head _)))))
      dsimp only at q7 q8 q9 q10 q11 q12 q13 q14 r1 r2 r3 r4 r5 r6 r7 r8
      clear ox ok' szl hzv hzu hzt hI4 hl4 hIT mx mk Jab
      obtain ⟨R0, hR0⟩ : ∃ R0, R0 = lower a b rest ++ T := ⟨_, rfl⟩
      rw [← hR0] at N1 Joff
      have s1 : ∀ p ∈ R0, p.1 ≠ op := fun p hp => (Joff p hp).1
      have s2 : ∀ p ∈ R0, p.1 ≠ du := fun p hp => (Joff p hp).2.1
      have s3 : ∀ p ∈ R0, p.1 ≠ a := fun p hp => (Joff p hp).2.2.1
      have s4 : ∀ p ∈ R0, p.1 ≠ b := fun p hp => (Joff p hp).2.2.2
      clear Joff
      rcases (by omega : how = 0 ∨ how = 1 ∨ how = 2 ∨ how = 3 ∨ how = 4 ∨ how = 5) with rfl | rfl | rfl | rfl | rfl | rfl
      · --B0
        show wpAny _ _ (execs [_] _) _ _ _
        k_steps
        rename News _ _ _ _ => N9
        rename Fr _ _ _ _ => F9
        exact fin_open J F9 N9 hR0 (by rfl) (by rfl) (by rfl) (by rfl) hoff hlsoff (by assumption) (by assumption) (by (repeat (first | exact List.Mem.head _ | apply List.Mem.tail))) (by (repeat (first | exact List.Mem.head _ | apply List.Mem.tail))) (by (repeat (first | exact List.Mem.head _ | apply List.Mem.tail))) (by (repeat (first | exact List.Mem.head _ | apply List.Mem.tail))) (by (repeat (first | exact List.Mem.head _ | apply List.Mem.tail))) (by (repeat (first | exact List.Mem.head _ | apply List.Mem.tail))) (by (repeat (first | exact List.Mem.head _ | apply List.Mem.tail))) (by (repeat (first | exact List.Mem.head _ | apply List.Mem.tail))) (by (intro p hp; repeat (first | exact hp | apply List.Mem.tail)))
      · --B1
        by_cases hn1 : n > 1
        · have hn0 : 1 ≤ n.toNat := by omega
          show wpAny _ _ (execs [_] _) _ _ _
          k_steps
          rename News _ _ _ _ => N9
          rename Fr _ _ _ _ => F9
          exact fin_cut (k := n.toNat) J F9 N9 hn0 hR0 (by rfl) (by rfl) (by rfl) (by rfl) hoff hlsoff (by assumption) (by assumption) (by (repeat (first | exact List.Mem.head _ | apply List.Mem.tail))) (by (repeat (first | exact List.Mem.head _ | apply List.Mem.tail))) (by (repeat (first | exact List.Mem.head _ | apply List.Mem.tail))) (by (repeat (first | exact List.Mem.head _ | apply List.Mem.tail))) (by (repeat (first | exact List.Mem.head _ | apply List.Mem.tail))) (by (repeat (first | exact List.Mem.head _ | apply List.Mem.tail))) (by (repeat (first | exact List.Mem.head _ | apply List.Mem.tail))) (by (repeat (first | exact List.Mem.head _ | apply List.Mem.tail))) (by (intro p hp; repeat (first | exact hp | apply List.Mem.tail)))
        · have hn0 : 1 ≤ Int.toNat 1 := by decide
          show wpAny _ _ (execs [_] _) _ _ _
          k_steps
          rename News _ _ _ _ => N9
          rename Fr _ _ _ _ => F9
          exact fin_cut (k := Int.toNat 1) J F9 N9 hn0 hR0 (by rfl) (by rfl) (by rfl) (by rfl) hoff hlsoff (by assumption) (by assumption) (by (repeat (first | exact List.Mem.head _ | apply List.Mem.tail))) (by (repeat (first | exact List.Mem.head _ | apply List.Mem.tail))) (by (repeat (first | exact List.Mem.head _ | apply List.Mem.tail))) (by (repeat (first | exact List.Mem.head _ | apply List.Mem.tail))) (by (repeat (first | exact List.Mem.head _ | apply List.Mem.tail))) (by (repeat (first | exact List.Mem.head _ | apply List.Mem.tail))) (by (repeat (first | exact List.Mem.head _ | apply List.Mem.tail))) (by (repeat (first | exact List.Mem.head _ | apply List.Mem.tail))) (by (intro p hp; repeat (first | exact hp | apply List.Mem.tail)))
      · --B2
        show wpAny _ _ (execs [_] _) _ _ _
        k_steps
        rename News _ _ _ _ => N9
        rename Fr _ _ _ _ => F9
        exact fin_con J F9 N9 hR0 (by rfl) (by rfl) (by rfl) (by rfl) hoff hlsoff hr hms (by (repeat (first | exact List.Mem.head _ | apply List.Mem.tail))) (by (repeat (first | exact List.Mem.head _ | apply List.Mem.tail))) (by (repeat (first | exact List.Mem.head _ | apply List.Mem.tail))) (by assumption) (by assumption) (by assumption) (by (repeat (first | exact List.Mem.head _ | apply List.Mem.tail))) (by (repeat (first | exact List.Mem.head _ | apply List.Mem.tail))) (by (repeat (first | exact List.Mem.head _ | apply List.Mem.tail))) (by (repeat (first | exact List.Mem.head _ | apply List.Mem.tail))) (by (repeat (first | exact List.Mem.head _ | apply List.Mem.tail))) (by (repeat (first | exact List.Mem.head _ | apply List.Mem.tail))) (by (intro p hp; repeat (first | exact hp | apply List.Mem.tail)))
      · --B3
        show wpAny _ _ (execs [_] _) _ _ _
        k_steps
        rename News _ _ _ _ => N9
        rename Fr _ _ _ _ => F9
        exact fin_con J F9 N9 hR0 (by rfl) (by rfl) (by rfl) (by rfl) hoff hlsoff J.bn hms (by (repeat (first | exact List.Mem.head _ | apply List.Mem.tail))) (by (repeat (first | exact List.Mem.head _ | apply List.Mem.tail))) (by (repeat (first | exact List.Mem.head _ | apply List.Mem.tail))) (by assumption) (by assumption) (by assumption) (by (repeat (first | exact List.Mem.head _ | apply List.Mem.tail))) (by (repeat (first | exact List.Mem.head _ | apply List.Mem.tail))) (by (repeat (first | exact List.Mem.head _ | apply List.Mem.tail))) (by (repeat (first | exact List.Mem.head _ | apply List.Mem.tail))) (by (repeat (first | exact List.Mem.head _ | apply List.Mem.tail))) (by (repeat (first | exact List.Mem.head _ | apply List.Mem.tail))) (by (intro p hp; repeat (first | exact hp | apply List.Mem.tail)))
      · --B4
        have hsum : -BB ≤ n + r ∧ n + r ≤ BB := by
          have eBL : BL = 8 * 10 ^ 30 := rfl
          have eBB : BB = 2 * 10 ^ 31 := rfl
          have := J.bn
          omega
        show wpAny _ _ (execs [_] _) _ _ _
        k_steps
        rename News _ _ _ _ => N9
        rename Fr _ _ _ _ => F9
        exact fin_sum J F9 N9 hR0 (by rfl) (by rfl) (by rfl) (by rfl) hoff hlsoff hsum (by assumption) (by (repeat (first | exact List.Mem.head _ | apply List.Mem.tail))) (by (repeat (first | exact List.Mem.head _ | apply List.Mem.tail))) (by (repeat (first | exact List.Mem.head _ | apply List.Mem.tail))) (by (repeat (first | exact List.Mem.head _ | apply List.Mem.tail))) (by (repeat (first | exact List.Mem.head _ | apply List.Mem.tail))) (by (repeat (first | exact List.Mem.head _ | apply List.Mem.tail))) (by (repeat (first | exact List.Mem.head _ | apply List.Mem.tail))) (by (intro p hp; repeat (first | exact hp | apply List.Mem.tail)))
      · --B5
        have fm3 : n.fmod 3 = n % 3 := Int.fmod_eq_emod_of_nonneg n (by omega)
        rcases (by omega : n.fmod 3 = 0 ∨ n.fmod 3 = 1 ∨ n.fmod 3 = 2) with hz | hz | hz
        · clear fm3
          show wpAny _ _ (execs [_] _) _ _ _
          k_steps
          rename News _ _ _ _ => N9
          rename Fr _ _ _ _ => F9
          exact fin_rep0 J F9 N9 hR0 (by rfl) (by rfl) (by rfl) (by rfl) hoff hlsoff (by (repeat (first | exact List.Mem.head _ | apply List.Mem.tail))) (by (repeat (first | exact List.Mem.head _ | apply List.Mem.tail))) (by (repeat (first | exact List.Mem.head _ | apply List.Mem.tail))) (by (repeat (first | exact List.Mem.head _ | apply List.Mem.tail))) (by (repeat (first | exact List.Mem.head _ | apply List.Mem.tail))) (by (repeat (first | exact List.Mem.head _ | apply List.Mem.tail))) (by (intro p hp; repeat (first | exact hp | apply List.Mem.tail)))
        · clear fm3
          show wpAny _ _ (execs [_] _) _ _ _
          k_steps
          rename News _ _ _ _ => N9
          rename Fr _ _ _ _ => F9
          exact fin_rep 1 (by decide) J F9 N9 hR0 (by rfl) (by rfl) (by rfl) (by rfl) hoff hlsoff (by (repeat (first | exact List.Mem.head _ | apply List.Mem.tail))) (by (repeat (first | exact List.Mem.head _ | apply List.Mem.tail))) (by (repeat (first | exact List.Mem.head _ | apply List.Mem.tail))) (by (repeat (first | exact List.Mem.head _ | apply List.Mem.tail))) (by (repeat (first | exact List.Mem.head _ | apply List.Mem.tail))) (by (repeat (first | exact List.Mem.head _ | apply List.Mem.tail))) (by (intro p hp; repeat (first | exact hp | apply List.Mem.tail)))
        · clear fm3
          show wpAny _ _ (execs [_] _) _ _ _
          k_steps
          rename News _ _ _ _ => N9
          rename Fr _ _ _ _ => F9
          exact fin_rep 2 (by decide) J F9 N9 hR0 (by rfl) (by rfl) (by rfl) (by rfl) hoff hlsoff (by (repeat (first | exact List.Mem.head _ | apply List.Mem.tail))) (by (repeat (first | exact List.Mem.head _ | apply List.Mem.tail))) (by (repeat (first | exact List.Mem.head _ | apply List.Mem.tail))) (by (repeat (first | exact List.Mem.head _ | apply List.Mem.tail))) (by (repeat (first | exact List.Mem.head _ | apply List.Mem.tail))) (by (repeat (first | exact List.Mem.head _ | apply List.Mem.tail))) (by (intro p hp; repeat (first | exact hp | apply List.Mem.tail)))
    case done =>
      clear F2 N2
      intro m₁ news₁ h tk hJ F1 N1
      obtain ⟨hJ, -⟩ := hJ
      have hw : ws.length ≤ 71 := by
        have h2 := hIx.length
        simp only [List.length_append, List.length_cons, List.length_nil, List.length_take] at h2
        omega
      clear hIx
      k_steps
      rename News _ _ _ _ => N9
      rename Fr _ _ _ _ => F9
      exact ⟨_, _, _, _, rfl, F9, N9, hJ.mono hw⟩
  case b2 =>
  clear F1 N1 hJ
  rintro h2 tk2 m2 nw2 F2 N2 hJ
  obtain ⟨op, du, A0, B0, os, ds, kop, kdu, ts, z1, z2, e1, e2, hO, hD, hS, hZ⟩ := hJ.root
  clear hJ
  have hZ2 : szT ts ≤ 200 := by omega
  rw [mapc z1 (mapc z2 rfl)] at F2
  clear z1 z2 hZ
  obtain ⟨R0, hR0⟩ : ∃ R0, R0 = nw2 := ⟨_, rfl⟩
  rw [← hR0] at N2 e1 e2 hO hD
  replace N2 := front (front N2 e1) (.tail _ e2)
  clear e1 e2 hR0
  refine cutP F2 N2 1 (fun m nw m' nw' => nw' = nw ∧ m' (Str.ofString "opened") = some (.ref op) ∧ m' (Str.ofString "due") = some (.ref du)) ?d1 ?d2
  case d1 =>
    show wpAny _ _ (execs [_] _) _ _ _
    k_steps
    · have q := ‹((Tr.row ts).txt != (Tr.row ts).txt) = true›
      rw [bne_self_eq_false] at q
      cases q
    · rename News _ _ _ _ => N9
      rename Fr _ _ _ _ => F9
      exact ⟨_, _, _, _, rfl, F9, N9, rfl, rfl, rfl⟩
  case d2 =>
  clear F2 N2
  rintro h3 tk3 m3 nw3 F3 N3 ⟨rfl, z1, z2⟩
  rw [mapc z1 (mapc z2 rfl)] at F3
  clear z1 z2
  k_steps
  rename All2 (fun v t => DIn _ v t ∧ _) _ _ => B2
  rename All2 (fun v t => OIn _ _ v t ∧ _) _ _ => B1
  rename News _ _ _ _ => N4
  rename Fr _ _ _ _ => F4
  show wpAny _ _ (call _ _) _ _ _
  refine zip_here (by with_unfolding_all rfl) F4 N4 (by (repeat (first | exact List.Mem.head _ | apply List.Mem.tail))) (by (repeat (first | exact List.Mem.head _ | apply List.Mem.tail))) ?turn ?done
  case done =>
    clear F4 N4
    intro m4 h4 tk4 F4 N4
    k_steps
  case turn =>
    intro i x y hx hy m4 h4 tk4 T R1 hT hR1 F5 N5
    obtain ⟨t, ⟨o1, nr⟩, o2, -⟩ := B1.both B2 i x y hx hy
    have sub : ∀ p ∈ R0, p ∈ R1 := fun p hp => by
      refine hR1 p ?_
      repeat (first | exact hp | apply List.Mem.tail)
    clear F4 N4 hR1 F3 N3 hO hD hS
    cases o1 with
    | row _ _ => exact absurd rfl (nr _)
    | con hx1 hd1 =>
      cases o2 with
      | con ha =>
        replace N5 := front (front (front N5 (sub _ hx1)) (.tail _ (sub _ hd1))) (.tail _ (.tail _ (sub _ ha)))
        clear sub
        k_steps
        all_goals first
          | (have q := ‹((_ : Str) != _) = true›; rw [bne_self_eq_false] at q; cases q; done)
          | (rename News _ _ _ _ => N9; rename Fr _ _ _ _ => F9; exact ⟨_, _, _, rfl, F9, fun p hp => N9 p (by repeat (first | exact hp | apply List.Mem.tail))⟩)
    | num =>
      cases o2 with
      | num ha =>
        replace N5 := front N5 (sub _ ha)
        clear sub
        k_steps
        rename News _ _ _ _ => N9
        rename Fr _ _ _ _ => F9
        exact ⟨_, _, _, rfl, F9, fun p hp => N9 p (by repeat (first | exact hp | apply List.Mem.tail))⟩
)
end Mine
namespace Mine
theorem walk_none_Lw2 : True := by
  k_with_none
  trivial
end Mine
theorem PySem.Challenge.cw_dn0146_02_holds : PySem.Challenge.rw_dn0146_02.Holds := by
  exact Mine.law_walk
