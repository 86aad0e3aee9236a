import PyProof.Rows.All
import Wide.All
import OpenK.AllK
import Wide.FinOn
import PySem.Challenge.RW_dn0146_03
set_option Elab.async false
set_option maxRecDepth 100000
set_option maxHeartbeats 0
set_option linter.all false
section
open PySem PySem.W PyProof.Rows PySem.Calls
set_option maxRecDepth 100000
namespace Mine

/-- what a pure callee hands back: a value, upon a heap that keeps all that was there -/
def Back (s : Shared) (R : Value → Shared → Prop) (v : Value) (s' : Shared) : Prop := R v s'

section
variable {prog : Program} {w : World} {A₀ A : Around} {s : Shared} {base h₀ : Heap} {outer : List Env} {L : Addr} {m mg mb : Str → Option Value} {env : Env} {K : Frag} {p : Program} {loose : List Str} {mean : ExcName → Option Value}
  {R : Result → Shared → Prop} {name qual : Str} {params : Arguments} {body : List Stmt} {scope : Scope} {dV kV doc pm cdv ct oc : Value} {an od : Option Addr} {osl : Array (Option Value)} {f : Addr} {args : Args} {binds : List (Str × Value)}

theorem enter_pure (B : Below A₀ base outer h₀) (F : Fr h₀ L s.heap m) (X₀ : K.In h₀) (T : Top p loose mean mg mb h₀) (hA : A.frames = some (env :: outer)) (hf : env.frame = some L) (hke : env.scope.kind = .function)
    (ho : K.lookup f = some ⟨oc, od, .func (fnOf name qual params body scope dV kV doc pm an cdv ct), osl⟩) (hcd : codeIn K cdv qual = true) (hroom : A.depth < recursionLimit)
    (hbind : BindsTo s (fnOf name qual params body scope dV kV doc pm an cdv ct) args binds) (hloc : ∀ y ∈ binds, scope.names.lookup y.1 = some .local)
    (h : ∀ L' h₁, Fr s.heap L' h₁ (fun y => binds.reverse.lookup y) → News s.heap L' h₁ [] → Below A base (env :: outer) s.heap → K.In s.heap → Top p loose mean mg mb s.heap →
      wpAny (model prog w) (A.deeper (envOf qual scope L' f cdv)) (execs body (envOf qual scope L' f cdv))
        (fun fl s' => Back s (fun v s' => R (.ok (.ret v)) s') (match fl with | .ret v => v | _ => .none) s')
        (fun e s' => wpAny (model prog w) (A.deeper (envOf qual scope L' f cdv)) (leaving (envOf qual scope L' f cdv) e) (fun _ s'' => R (.error e) s'') (fun e' s'' => R (.error e') s'') s')
        { s with heap := h₁, toks := s.toks + binds.length })
    (hco : scope.isCoroutine = false) (hgen : scope.isGenerator = false) (hk : scope.kind = .function)
    (hcell : ∀ x ∈ scope.names, x.2 ≠ .cell) : codeAny (model prog w) A (.call (.ref f) args) R s := by
  have Xs := X₀.keeps F.keep
  obtain ⟨_, BG, _, _⟩ := groundX (R := R) B F News.nil hA hf hke
  refine codeAny_call_def (fd := fnOf name qual params body scope dV kV doc pm an cdv ct) (body := body) (binds := binds) hroom (Xs _ _ ho) rfl (T.nolimit.keeps F.keep) (codeRec_of Xs hcd) rfl hbind hcell hloc (fun h₁ hns hk₁ => ?_) hco hgen hk
  exact h s.heap.objs.size h₁ ⟨hns, hk₁, Nat.le_refl _⟩ News.nil BG Xs (T.keeps F.keep)
end
end Mine
end
section
open PySem PySem.W PyProof.Rows PySem.Calls
set_option maxRecDepth 100000
namespace Mine
open Builtin Builtin.ObjectAttr

section
variable {prog : Program} {w : World} {A : Around} {E : Value → Shared → Prop} {h : Heap} {g : Array GenState} {d : Drawn} {t : Nat} {os : OsState}
variable {nm q : Str} {C N x : Addr} {bs : List Value} {sn : List Str} {sub : List Value} {ab : Bool} {col : Option Bool} {dd : Option Addr} {k0 k1 k2 k3 k5 : Option Value} {newId : String}
  {mN mA : Str → Option Value} {name : Str} {v : Value}

abbrev excBm : List Value := [.type "Exception", .type "BaseException", .type "object"]

theorem exc_load_entry {tk : Tok} {Q : Fin → Shared → Prop}
    (hC : h.get? C = some (excClassObj nm q C N bs excBm true sn sub ab col dd k0 k1 k2 k3 k5 newId)) (hn : h.Ns N mN) (hna : mN name = none)
    (hB : typeLookup (.type "Exception") name = pure none) (I : h.Inst x C mA) (hv : mA name = some v) (hq : Q (.done (.ret v)) ⟨h, g, d, t, os⟩) :
    wpAny (model prog w) A (Builtin.«object.__getattribute__» ⟨[.ref x, .str name tk], []⟩) Q E ⟨h, g, d, t, os⟩ := by
  obtain ⟨o, hx, hc, hnc, hd⟩ := I
  rcases hd with ⟨_, hmA⟩ | ⟨dx, hdx, hne, hns⟩
  · rw [hmA name] at hv; cases hv
  unfold Builtin.«object.__getattribute__»
  repeat (first | (with_reducible refine wpAny_loadPart_at hx ?_; rw [hc]) | (with_reducible refine wpAny_typeLookup_exc hC hn PySem.F.excBase_Exception.mroIs hB ?_; rw [hna]) | wp_step)
  split
  · rename_i c hcd
    exact absurd hcd (hnc c)
  unfold instanceDict
  repeat (first | (with_reducible refine wpAny_loadPart_at hx ?_; rw [hc]) | with_reducible refine wpAny_loadPart_at hC ?_ | wp_step)
  rw [hdx]
  repeat (first | (with_reducible refine wpAny_nsGet hns.ns ?_; rw [hv]) | wp_step)
  exact hq

theorem exc_check_ga {M : Model} {o : Obj} {nameV : Value} {Q : Unit → Shared → Prop} (hC : h.get? C = some (excClassObj nm q C N bs excBm true sn sub ab col dd k0 k1 k2 k3 k5 newId))
    (hx : h.get? x = some o) (hc : o.cls = .ref C) (hq : Q () ⟨h, g, d, t, os⟩) : wpAny M A (checkBuiltinCall "BaseException.__getattribute__" ⟨[.ref x, nameV], []⟩) Q E ⟨h, g, d, t, os⟩ := by
  have hk : builtinKind "BaseException.__getattribute__" = some .slot := by decide +kernel
  have hsplit : splitId "BaseException.__getattribute__" = some ("BaseException", "__getattribute__") := by decide +kernel
  have hcB : (Value.ref C :: excBm).contains (.type "BaseException") = true := by rw [List.contains_cons]; rfl
  have ha := PySem.F.args_bexc_ga (.ref x) nameV
  simp only [checkBuiltinCall, hk, hsplit]
  refine wpAny_bind ?_
  unfold isInstance
  repeat (first | (with_reducible refine wpAny_loadPart_at hx ?_; rw [hc]) | (with_reducible refine wpAny_isSubtype_exc hC ?_; rw [hcB]) | wp_step)
  exact hq

theorem exc_load {expr : Bool} {Q : Value → Shared → Prop}
    (hC : h.get? C = some (excClassObj nm q C N bs excBm true sn sub ab col dd k0 k1 k2 k3 k5 newId)) (hn : h.Ns N mN) (hng : mN "__getattribute__" = none) (hnh : mN "__getattr__" = none) (hna : mN name = none)
    (hB : typeLookup (.type "Exception") name = pure none) (I : h.Inst x C mA) (hv : mA name = some v) (hh : handedOut v = pure v) (hq : Q v ⟨h, g, d, t + 1, os⟩) :
    wpAny (model prog w) A (getAttr (.ref x) name expr) Q E ⟨h, g, d, t, os⟩ := by
  obtain ⟨o, hx, hc, _⟩ := id I
  have FB := PySem.F.attrBase_Exception
  have f3 := FB.ga.bind (.ref x)
  have hx0 : (expr && onTheHeap (Value.builtin "BaseException.__getattribute__")) = false := by cases expr <;> rfl
  have hx2 : (Value.builtin "BaseException.__getattribute__" == Value.builtin "object.__getattribute__") = false := by decide +kernel
  have hx1 : (onTheHeap (Value.ref C) && Value.builtin "BaseException.__getattribute__" == Value.builtin "object.__getattribute__") = false := by rw [hx2]; rfl
  unfold getAttr getAttrBy
  repeat (first | (with_reducible refine wpAny_loadPart_at hx ?_; rw [hc]) | (with_reducible refine wpAny_typeLookup_exc hC hn FB.mro FB.ga.lookup ?_; rw [hng]) | (with_reducible refine wpAny_typeLookup_exc hC hn FB.mro FB.noGetattr ?_; rw [hnh]) | wp_step)
  refine codeAny_call_builtin FB.ga.plain PySem.F.entry_bexc_ga (exc_check_ga hC hx hc (exc_load_entry hC hn hna hB I hv ?_))
  repeat (first | (rw [hh]) | wp_step)
  exact hq
end
end Mine
end
section
open PySem PySem.W PyProof.Rows PySem.Calls
set_option maxRecDepth 100000
set_option maxHeartbeats 4000000
namespace Mine
open Builtin Builtin.ObjectAttr

/-- a dict's object that bears the attributes mA -/
def AttrObj (o : Obj) (mA : Str → Option Value) : Prop := ∃ es ep, o.data = .dict es ep ∧ StrKeys es ∧ UniqKeys es ∧ ∀ name, nsFind es name = mA name

theorem AttrObj.ns1 {h : Heap} {a : Addr} {o : Obj} {mA : Str → Option Value} (x : AttrObj o mA) (e : h.get? a = some o) : h.Ns1 a mA :=
  let ⟨es, ep, d, k, u, f⟩ := x; ⟨o, es, ep, e, d, k, u, f⟩
theorem AttrObj.of_ns1 {h : Heap} {a : Addr} {mA : Str → Option Value} (x : h.Ns1 a mA) : ∃ o, h.get? a = some o ∧ AttrObj o mA :=
  let ⟨o, es, ep, e, d, k, u, f⟩ := x; ⟨o, e, es, ep, d, k, u, f⟩

section
variable {prog : Program} {w : World} {A : Around} {E : Value → Shared → Prop} {h : Heap} {g : Array GenState} {d : Drawn} {t : Nat} {os : OsState}
variable {nm q : Str} {C N x : Addr} {bs : List Value} {sn : List Str} {sub : List Value} {ab : Bool} {col : Option Bool} {dd : Option Addr} {k0 k1 k2 k3 k5 : Option Value} {newId : String}
  {mN mA : Str → Option Value} {name : Str} {v : Value} {vs : Array Value}

theorem exc_store0_entry {tk : Tok} {Q : Fin → Shared → Prop} {o : Obj}
    (hC : h.get? C = some (excClassObj nm q C N bs excBm true sn sub ab col dd k0 k1 k2 k3 k5 newId)) (hn : h.Ns N mN) (hna : mN name = none)
    (hB : typeLookup (.type "Exception") name = pure none) (hx : h.get? x = some o) (hc : o.cls = .ref C) (hdn : o.dict = none) (hdt : o.data = .fields vs)
    (hq : ∀ h' od tk', h'.get? x = some ⟨.ref C, some h.objs.size, .fields vs, o.slots⟩ → h'.get? h.objs.size = some od → AttrObj od (fun y => if y = name then some v else none) →
      (∀ b o, b ≠ x → h.get? b = some o → h'.get? b = some o) → Q (.done (.ret .none)) ⟨h', g, d, tk', os⟩) :
    wpAny (model prog w) A (Builtin.«object.__setattr__» ⟨[.ref x, .str name tk, v], []⟩) Q E ⟨h, g, d, t, os⟩ := by
  have hpass := PySem.F.store_Exception.passes (.ref x)
  have hmro := PySem.F.store_Exception.mro
  unfold Builtin.«object.__setattr__»
  repeat (first | rw [refuse_eq] | (rw [refuseLoop_ref, hpass]) | (with_reducible refine wpAny_loadPart_at hx ?_; rw [hc]) | with_reducible refine wpAny_mroOf_exc hC ?_ | (with_reducible refine wpAny_typeLookup_exc hC hn hmro hB ?_; rw [hna]) | wp_step)
  rw [hdn, if_neg (by simp [typeHasDict])]
  rw [hdt]
  have hx₁ : (h.push { cls := .type "dict", data := .dict #[] }).get? x = some o := Heap.get?_push_of_some _ hx
  have hxs : x ≠ h.objs.size := Nat.ne_of_lt (Heap.lt_size hx)
  have hgd : ((h.push { cls := .type "dict", data := .dict #[] }).update x fun o => { cls := o.cls, dict := some h.objs.size, data := o.data, slots := o.slots }).get? h.objs.size
      = some { cls := .type "dict", data := .dict #[] } :=
    (Heap.get?_update_ne _ _ _ _ hxs.symm).trans (Heap.get?_push_at rfl rfl)
  have hnd : ((h.push { cls := .type "dict", data := .dict #[] }).update x fun o => { cls := o.cls, dict := some h.objs.size, data := o.data, slots := o.slots }).Ns h.objs.size (fun _ => none) :=
    ⟨_, #[], _, hgd, rfl, fun e he => absurd he (by simp), fun _ => rfl⟩
  refine wpAny_bind (wpAny_alloc' ?_)
  refine wpAny_bind (wpAny_update' hx₁ ?_)
  refine wpAny_pure ?_
  show wpAny _ _ (storeInDict h.objs.size (.str name tk) name v) _ _ _
  unfold storeInDict newKeyGuard
  refine wpAny_bind (wpAny_pure (wpAny_bind (wpAny_nsSet1 (Heap.Ns1.of_empty hnd) fun h' hn' hs => ?_)))
  obtain ⟨oD, esD, epD, hoD, hdD, hcD⟩ := hn'.count (Within.cons name v Within.nil)
  refine wpAny_bind (wpAny_lookBehind hoD (by rw [hdD]; exact pastItsLine_dict (Nat.le_trans hcD (by rw [List.length_cons, List.length_nil, sizeLine_eq]; omega))) ?_)
  wp_walk
  obtain ⟨od, hod, hAt⟩ := AttrObj.of_ns1 hn'
  refine hq h' od _ ?_ hod hAt fun b ob hbx hb => ?_
  · refine (hs.2 x hxs).trans ((Heap.get?_update_self _ hx₁ ?_).trans ?_)
    · show Obj.isFreed ⟨o.cls, some h.objs.size, o.data, o.slots⟩ = false
      rw [hdt]; rfl
    · rw [hc, hdt]
  · exact (hs.2 b (Nat.ne_of_lt (Heap.lt_size hb))).trans ((Heap.get?_update_ne _ _ _ _ hbx).trans (Heap.get?_push_of_some _ hb))

theorem exc_store0_call {tk : Tok} {R : Result → Shared → Prop} {o : Obj} {sa owner : String} (SF : StoreFacts "Exception" excBm sa owner)
    (hC : h.get? C = some (excClassObj nm q C N bs excBm true sn sub ab col dd k0 k1 k2 k3 k5 newId)) (hn : h.Ns N mN) (hna : mN name = none)
    (hB : typeLookup (.type "Exception") name = pure none) (hx : h.get? x = some o) (hc : o.cls = .ref C) (hdn : o.dict = none) (hdt : o.data = .fields vs)
    (hq : ∀ h' od tk', h'.get? x = some ⟨.ref C, some h.objs.size, .fields vs, o.slots⟩ → h'.get? h.objs.size = some od → AttrObj od (fun y => if y = name then some v else none) →
      (∀ b o, b ≠ x → h.get? b = some o → h'.get? b = some o) → R (.ok (.ret .none)) ⟨h', g, d, tk', os⟩) :
    codeAny (model prog w) A (.call (.builtin sa) ⟨[.ref x, .str name tk, v], []⟩) R ⟨h, g, d, t, os⟩ :=
  codeAny_call_builtin SF.slot.plain SF.entry (wpAny_check_sa SF hC hx hc (exc_store0_entry hC hn hna hB hx hc hdn hdt hq))

theorem exc_store0 {Q : Unit → Shared → Prop} {o : Obj}
    (hC : h.get? C = some (excClassObj nm q C N bs excBm true sn sub ab col dd k0 k1 k2 k3 k5 newId)) (hn : h.Ns N mN) (hns : mN "__setattr__" = none) (hna : mN name = none)
    (hB : typeLookup (.type "Exception") name = pure none) (hx : h.get? x = some o) (hc : o.cls = .ref C) (hdn : o.dict = none) (hdt : o.data = .fields vs)
    (hq : ∀ h' od tk', h'.get? x = some ⟨.ref C, some h.objs.size, .fields vs, o.slots⟩ → h'.get? h.objs.size = some od → AttrObj od (fun y => if y = name then some v else none) →
      (∀ b o, b ≠ x → h.get? b = some o → h'.get? b = some o) → Q () ⟨h', g, d, tk', os⟩) :
    wpAny (model prog w) A (setAttr (.ref x) name v) Q E ⟨h, g, d, t, os⟩ := by
  have SF := PySem.F.store_Exception
  have f3 := SF.slot.bind (.ref x)
  unfold setAttr callSpecial? specialOf
  repeat (first | (with_reducible refine wpAny_loadPart_at hx ?_; rw [hc]) | (with_reducible refine wpAny_typeLookup_exc hC hn SF.mro SF.slot.lookup ?_; rw [hns]) | wp_step)
  refine exc_store0_call SF hC hn hna hB hx hc hdn hdt fun h' od tk' e1 e2 e3 e4 => ?_
  repeat wp_step
  exact hq h' od tk' e1 e2 e3 e4

theorem exc_store {Q : Unit → Shared → Prop} {sl : Array (Option Value)} {dx : Addr} {od : Obj} {ns : List Str}
    (hC : h.get? C = some (excClassObj nm q C N bs excBm true sn sub ab col dd k0 k1 k2 k3 k5 newId)) (hn : h.Ns N mN) (hns : mN "__setattr__" = none) (hna : mN name = none)
    (hB : typeLookup (.type "Exception") name = pure none) (hx : h.get? x = some ⟨.ref C, some dx, .fields vs, sl⟩) (hod : h.get? dx = some od) (hat : AttrObj od mA)
    (hw : Within mA ns) (hsz : ns.length ≤ sizeLine)
    (hq : ∀ h' od' tk', h'.get? dx = some od' → AttrObj od' (fun y => if y = name then some v else mA y) → (∀ b o, b ≠ dx → h.get? b = some o → h'.get? b = some o) → Q () ⟨h', g, d, tk', os⟩) :
    wpAny (model prog w) A (setAttr (.ref x) name v) Q E ⟨h, g, d, t, os⟩ := by
  have hxC : x ≠ C := fun e => by rw [e, hC] at hx; cases hx
  have hxd : dx ≠ x := fun e => by
    obtain ⟨es, ep, hd, _⟩ := hat
    rw [e, hx] at hod
    cases hod
    cases hd
  refine store_attr PySem.F.store_Exception hC hn hns hna hB hxC ⟨_, hx, rfl, (fun c q => by cases q), .inr ⟨dx, rfl, hxd, hat.ns1 hod⟩⟩ (fun h' tk' I' hk hsame => ?_) hw hsz
  obtain ⟨o₁, ho₁, c1, c2, c3, c4⟩ := hsame _ hx
  obtain ⟨o, ho, hc, hnc, hd⟩ := I'
  obtain rfl : o₁ = o := Option.some.inj (ho₁.symm.trans ho)
  have hd1 := c4 dx rfl
  rcases hd with ⟨hdn, _⟩ | ⟨d', hd', _, hn1⟩
  · rw [hd1] at hdn; cases hdn
  · rw [hd1] at hd'
    cases hd'
    obtain ⟨od', hod', hat'⟩ := AttrObj.of_ns1 hn1
    refine hq h' od' tk' hod' hat' fun b o hb e => ?_
    by_cases hbx : b = x
    · subst hbx
      rw [hx] at e
      cases e
      rw [ho₁]
      obtain ⟨oc, odi, oda, osl⟩ := o₁
      dsimp only at c1 c2 c3 hd1
      rw [c1, c2, c3, hd1]
    · exact hk b o hbx (fun o₀ dx' h0 h1 => by rw [hx] at h0; cases h0; cases h1; exact hb) e
end
end Mine
end
section
open PySem PySem.W PyProof.Rows PySem.Calls
set_option maxRecDepth 100000
set_option maxHeartbeats 2000000
namespace Mine
open Builtin Builtin.ObjectAttr

namespace F
theorem own_exc_init : classOwn (.type "Exception") "__init__" = pure (some (.builtin "Exception.__init__")) := by kernel_rfl
theorem ty_exc_init : typeOf (.builtin "Exception.__init__") = pure (.type "wrapper_descriptor") := by kernel_rfl
theorem slot_wd_get : Slot "wrapper_descriptor" "__get__" "wrapper_descriptor.__get__" := .of (owner := "wrapper_descriptor") (n := "__get__") (by rw [typeLookup_type, builtinLookup_eq_fast]; kernel_rfl) (by decide +kernel) (by decide +kernel) (by decide +kernel)
  (by first | exact .inl (by decide +kernel) | exact .inr (by decide +kernel)) (by rw [isSubtype_type]; kernel_rfl)
theorem entry_wd_get : entryFor table "wrapper_descriptor.__get__" = some Builtin.«wrapper_descriptor.__get__» := entryFor_of_tree (by kernel_rfl)
theorem args_wd_get (a b c : Value) : argsOk "wrapper_descriptor.__get__" ⟨[a, b, c], []⟩ := by unfold argsOk; kernel_rfl
theorem slot_mw_call : Slot "method-wrapper" "__call__" "method-wrapper.__call__" := .of (owner := "method-wrapper") (n := "__call__") (by rw [typeLookup_type, builtinLookup_eq_fast]; kernel_rfl) (by decide +kernel) (by decide +kernel) (by decide +kernel)
  (by first | exact .inl (by decide +kernel) | exact .inr (by decide +kernel)) (by rw [isSubtype_type]; kernel_rfl)
theorem entry_mw_call : entryFor table "method-wrapper.__call__" = some Builtin.«method_wrapper.__call__» :=
  entryFor_alias (id' := "method_wrapper.__call__") (by rw [fastTable_eq_tree]; kernel_rfl) (by decide +kernel) (by decide +kernel) (by rw [fastTable_eq_tree]; kernel_rfl)
theorem args_mw_call (a b : Value) : argsOk "method-wrapper.__call__" ⟨[a, b], []⟩ := by unfold argsOk; kernel_rfl
end F

abbrev mwObj (x : Addr) : Obj := { cls := .type "method-wrapper", data := .fields #[.builtin "Exception.__init__", .ref x] }
section
variable {prog : Program} {w : World} {A : Around} {E : Value → Shared → Prop} {h : Heap} {g : Array GenState} {d : Drawn} {t : Nat} {os : OsState}
variable {nm q : Str} {C N x : Addr} {bs : List Value} {sn : List Str} {sub : List Value} {ab : Bool} {col : Option Bool} {dd : Option Addr} {k0 k1 k2 k3 k5 : Option Value} {newId : String}

theorem wd_get {Q : Fin → Shared → Prop} {o : Obj} {C' : Value} (hne : (C' == Value.none) = false)
    (hC : h.get? C = some (excClassObj nm q C N bs excBm true sn sub ab col dd k0 k1 k2 k3 k5 newId)) (hx : h.get? x = some o) (hc : o.cls = .ref C)
    (hq : Q (.done (.ret (.ref h.objs.size))) ⟨h.push (mwObj x), g, d, t, os⟩) :
    wpAny (model prog w) A (Builtin.«wrapper_descriptor.__get__» ⟨[.builtin "Exception.__init__", .ref x, C'], []⟩) Q E ⟨h, g, d, t, os⟩ := by
  have hcB : (Value.ref C :: excBm).contains (.type (".".intercalate ("Exception.__init__".cutAt '.').dropLast)) = true := by
    rw [show (".".intercalate ("Exception.__init__".cutAt '.').dropLast) = "Exception" from by decide +kernel, List.contains_cons]; rfl
  unfold Builtin.«wrapper_descriptor.__get__»
  repeat (first | (with_reducible refine wpAny_loadPart_at hx ?_; rw [hc]) | (with_reducible refine wpAny_isSubtype_exc hC ?_; rw [hcB]) | (with_reducible refine wpAny_newObj_type ?_ (by size_fits)) | wp_step)
  exact hq

theorem wd_call {R : Result → Shared → Prop} {o : Obj} {id : String} {C' : Value} (hne : (C' == Value.none) = false) (S : Slot "wrapper_descriptor" "__get__" id) (he : entryFor table id = some Builtin.«wrapper_descriptor.__get__») (ha : ∀ a b c, argsOk id ⟨[a, b, c], []⟩)
    (hC : h.get? C = some (excClassObj nm q C N bs excBm true sn sub ab col dd k0 k1 k2 k3 k5 newId)) (hx : h.get? x = some o) (hc : o.cls = .ref C)
    (hq : R (.ok (.ret (.ref h.objs.size))) ⟨h.push (mwObj x), g, d, t, os⟩) :
    codeAny (model prog w) A (.call (.builtin id) ⟨[.builtin "Exception.__init__", .ref x, C'], []⟩) R ⟨h, g, d, t, os⟩ :=
  codeAny_call_builtin S.plain he (S.check _ _ _ _ _ _ _ _ F.ty_exc_init (ha _ _ _) (wd_get hne hC hx hc hq))

theorem sup_ga {so : Addr} {o : Obj} {tk : Tok} {Q : Fin → Shared → Prop} (hso : h.get? so = some (ks_superObj C x C)) (hno : Looks (model prog w) h (opaqueClassAbove (.ref C)) none)
    (hC : h.get? C = some (excClassObj nm q C N bs excBm true sn sub ab col dd k0 k1 k2 k3 k5 newId)) (hx : h.get? x = some o) (hc : o.cls = .ref C) (hxC : x ≠ C)
    (hq : Q (.done (.ret (.ref h.objs.size))) ⟨h.push (mwObj x), g, d, t, os⟩) :
    wpAny (model prog w) A (Builtin.«super.__getattribute__» ⟨[.ref so, .str "__init__" tk], []⟩) Q E ⟨h, g, d, t, os⟩ := by
  have hlk := F.slot_wd_get.lookup
  have hty := F.ty_exc_init
  have hown := F.own_exc_init
  have hne : (Value.ref x == Value.ref C) = false := by simp [hxC]
  have hdt : (ks_superObj C x C).data = .fields #[.ref C, .ref x, .ref C] := rfl
  have f0 : (#[.ref C, .ref x, .ref C] : Array Value)[0]? = some (.ref C) := rfl
  have f1 : (#[.ref C, .ref x, .ref C] : Array Value)[1]? = some (.ref x) := rfl
  have f2 : (#[.ref C, .ref x, .ref C] : Array Value)[2]? = some (.ref C) := rfl
  have hl : (((Value.ref C :: excBm).dropWhile (· != Value.ref C)).drop 1) = excBm := by simp [List.dropWhile_cons]
  unfold Builtin.«super.__getattribute__»
  repeat (first
    | (with_reducible refine wpAny_field hso hdt f0 ?_) | (with_reducible refine wpAny_field hso hdt f1 ?_) | (with_reducible refine wpAny_field hso hdt f2 ?_)
    | (with_reducible refine ks_wpAny_notOpaque hno ?_)
    | (with_reducible refine wpAny_mroOf_exc hC ?_; rw [hl])
    | wp_step)
  rw [hne]
  refine wd_call rfl F.slot_wd_get F.entry_wd_get F.args_wd_get hC hx hc ?_
  repeat wp_step
  exact hq

theorem sup_call {so : Addr} {o : Obj} {tk : Tok} {R : Result → Shared → Prop} {id : String} (S : Slot "super" "__getattribute__" id) (he : entryFor table id = some Builtin.«super.__getattribute__») (ha : ∀ a b, argsOk id ⟨[a, b], []⟩)
    (hso : h.get? so = some (ks_superObj C x C)) (hno : Looks (model prog w) h (opaqueClassAbove (.ref C)) none)
    (hC : h.get? C = some (excClassObj nm q C N bs excBm true sn sub ab col dd k0 k1 k2 k3 k5 newId)) (hx : h.get? x = some o) (hc : o.cls = .ref C) (hxC : x ≠ C)
    (hq : R (.ok (.ret (.ref h.objs.size))) ⟨h.push (mwObj x), g, d, t, os⟩) :
    codeAny (model prog w) A (.call (.builtin id) ⟨[.ref so, .str "__init__" tk], []⟩) R ⟨h, g, d, t, os⟩ :=
  codeAny_call_builtin S.plain he (S.check _ _ _ _ _ _ _ _ ⟨_, hso, rfl⟩ (ha _ _) (sup_ga hso hno hC hx hc hxC hq))

theorem sup_getMethod {so : Addr} {o : Obj} {pl : Sem Bool} {Q : Value × List Value → Shared → Prop} (hso : h.get? so = some (ks_superObj C x C)) (hno : Looks (model prog w) h (opaqueClassAbove (.ref C)) none)
    (hC : h.get? C = some (excClassObj nm q C N bs excBm true sn sub ab col dd k0 k1 k2 k3 k5 newId)) (hx : h.get? x = some o) (hc : o.cls = .ref C) (hxC : x ≠ C)
    (hq : Q (.ref h.objs.size, []) ⟨h.push (mwObj x), g, d, t + 1, os⟩) :
    wpAny (model prog w) A (getMethod (.ref so) "__init__" pl) Q E ⟨h, g, d, t, os⟩ := by
  have hlk := PySem.F.ks_slot_super_ga.lookup
  have hcan := PySem.F.ks_canon_super_ga
  have hbd := PySem.F.ks_slot_super_ga.bind (.ref so)
  have hT : ∀ t', (⟨h, g, d, t', os⟩ : Shared).TypeIs (.ref so) "super" := fun _ => ⟨_, hso, rfl⟩
  unfold getMethod
  refine wpAny_bind (wpAny_specialOf (hT _) hlk ?_)
  dsimp only
  rw [if_pos hcan]
  unfold getAttr getAttrBy
  refine wpAny_bind (wpAny_bind (wpAny_mkText (wpAny_holding (wpAny_bind (wpAny_typeOf (hT _) (wpAny_bind (wpAny_of_eq hlk ?_)))))))
  show wpAny _ _ (getAttrByItsOwn (.ref so) (.str "__init__" t) (.type "super") (.builtin "super.__getattribute__") true false) _ _ _
  unfold getAttrByItsOwn hookBefore callGetattribute boundAndCalled
  refine wpAny_bind (wpAny_of_eq (show (if onTheHeap (.type "super") then typeLookup (.type "super") "__getattr__" else pure none) = pure none from rfl) ?_)
  refine wpAny_bind (wpAny_attempt (wpAny_holding ?_))
  show wpAny _ _ (bindSpecial (.builtin "super.__getattribute__") (.ref so) >>= _) _ _ _
  refine wpAny_bind (wpAny_of_eq hbd ?_)
  refine wpAny_call (sup_call PySem.F.ks_slot_super_ga PySem.F.ks_entry_super_ga PySem.F.ks_gaArgs_super hso hno hC hx hc hxC ?_)
  exact wpAny_pure (wpAny_pure hq)

/-- the call of the bound __init__: the arguments' tuple is laid anew -/
theorem exc_init_run {a0 : Addr} {vs : Array Value} {o : Obj} {Q : Fin → Shared → Prop} (hx : h.get? x = some o) (hdt : o.data = .fields vs) (h0 : vs[0]? = some (.ref a0))
    {v : Value} (hq : ∀ h', h'.get? x = some { o with data := .fields (vs.setIfInBounds 0 (.ref h.objs.size)) } → h'.get? h.objs.size = some { cls := .type "tuple", data := .seq #[v] } →
      (∀ b o, b ≠ x → h.get? b = some o → h'.get? b = some o) → Q (.done (.ret .none)) ⟨h', g, d, t, os⟩) :
    wpAny (model prog w) A (Builtin.«BaseException.__init__» ⟨[.ref x, v], []⟩) Q E ⟨h, g, d, t, os⟩ := by
  have hx₁ : (h.push { cls := .type "tuple", data := .seq #[v] }).get? x = some o := Heap.get?_push_of_some _ hx
  have hk : 0 < vs.size := by
    cases q : vs.size with
    | zero => simp [Array.getElem?_eq_none (Nat.le_of_eq q)] at h0
    | succ n => exact Nat.succ_pos n
  have hxs : x ≠ h.objs.size := Nat.ne_of_lt (Heap.lt_size hx)
  unfold Builtin.«BaseException.__init__»
  repeat (first | (with_reducible refine wpAny_newObj_type ?_ (by size_fits)) | (with_reducible refine wpAny_field hx₁ hdt h0 ?_) | (with_reducible refine wpAny_setField hx₁ hdt hk ?_) | wp_step)
  refine hq _ ((Heap.get?_update_self _ hx₁ ?_).trans ?_) ((Heap.get?_update_ne _ _ _ _ hxs.symm).trans (Heap.get?_push_at rfl rfl)) fun b ob hb e => (Heap.get?_update_ne _ _ _ _ hb).trans (Heap.get?_push_of_some _ e)
  · obtain ⟨oc, od, odt, osl⟩ := o
    dsimp only at hdt
    subst hdt
    rfl
  · obtain ⟨oc, od, odt, osl⟩ := o
    dsimp only at hdt
    subst hdt
    rfl

theorem exc_init_call {a0 : Addr} {vs : Array Value} {o : Obj} {R : Result → Shared → Prop} {nid id : String} (FB : ExcBaseFacts "Exception" nid id excBm)
    (hC : h.get? C = some (excClassObj nm q C N bs excBm true sn sub ab col dd k0 k1 k2 k3 k5 nid)) (hx : h.get? x = some o) (hc : o.cls = .ref C) (hdt : o.data = .fields vs) (h0 : vs[0]? = some (.ref a0))
    {v : Value} (hq : ∀ h', h'.get? x = some { o with data := .fields (vs.setIfInBounds 0 (.ref h.objs.size)) } → h'.get? h.objs.size = some { cls := .type "tuple", data := .seq #[v] } →
      (∀ b o, b ≠ x → h.get? b = some o → h'.get? b = some o) → R (.ok (.ret .none)) ⟨h', g, d, t, os⟩) :
    codeAny (model prog w) A (.call (.builtin id) ⟨[.ref x, v], []⟩) R ⟨h, g, d, t, os⟩ :=
  codeAny_call_builtin FB.init.plain FB.initEntry (wpAny_check_init_sub FB hC hx hc (exc_init_run hx hdt h0 hq))
end
end Mine
end
section
open PySem PySem.W PyProof.Rows PySem.Calls
set_option maxRecDepth 100000
set_option maxHeartbeats 2000000
namespace Mine
open Builtin Builtin.ObjectAttr
section
variable {prog : Program} {w : World} {A : Around} {E : Value → Shared → Prop} {h : Heap} {g : Array GenState} {d : Drawn} {t : Nat} {os : OsState}
variable {nm q : Str} {C N x : Addr} {bs : List Value} {sn : List Str} {sub : List Value} {ab : Bool} {col : Option Bool} {dd : Option Addr} {k0 k1 k2 k3 k5 : Option Value}


theorem exc_init_code {a0 : Addr} {vs : Array Value} {o : Obj} {R : Result → Shared → Prop} {nid id : String} (FB : ExcBaseFacts "Exception" nid id excBm)
    (hx : h.get? x = some o) (hdt : o.data = .fields vs) (h0 : vs[0]? = some (.ref a0))
    {v : Value} (hq : ∀ h', h'.get? x = some { o with data := .fields (vs.setIfInBounds 0 (.ref h.objs.size)) } → h'.get? h.objs.size = some { cls := .type "tuple", data := .seq #[v] } →
      (∀ b o, b ≠ x → h.get? b = some o → h'.get? b = some o) → R (.ok (.ret .none)) ⟨h', g, d, t, os⟩) :
    codeAny (model prog w) A (.builtin id ⟨[.ref x, v], []⟩) R ⟨h, g, d, t, os⟩ :=
  codeAny_builtin FB.initEntry (exc_init_run hx hdt h0 hq)

theorem exc_init_bound {M : Model} {o : Obj} {rest : List Value} {Q : Unit → Shared → Prop} {nid id : String} (FB : ExcBaseFacts "Exception" nid id excBm)
    (hC : h.get? C = some (excClassObj nm q C N bs excBm true sn sub ab col dd k0 k1 k2 k3 k5 nid)) (hx : h.get? x = some o) (hc : o.cls = .ref C) (hq : Q () ⟨h, g, d, t, os⟩) :
    wpAny M A (checkBoundCall id ⟨.ref x :: rest, []⟩) Q E ⟨h, g, d, t, os⟩ := by
  have hshort := FB.noStar
  simp only [checkBoundCall, FB.initKind, FB.initRow]
  repeat (first | (with_reducible refine wpAny_loadPart_at hx ?_; rw [hc]) | with_reducible refine wpAny_loadPart_at hC ?_ | wp_step)
  refine wpAny_onRaise ?_
  rw [show ∀ (a b : String) (n : Nat), Bind.check ⟨.positional, "*", "Exception", .self, [⟨"args", .varPos, false⟩]⟩ a b n (List.map (fun x => x.fst) ({ pos := Value.ref x :: rest } : Args).kw) = pure () from
    fun a b n => check_star_args _ _ _ _ _ _]
  exact wpAny_pure hq

theorem mw_call_at {mw a0 : Addr} {vs : Array Value} {o : Obj} {Q : Value → Shared → Prop} {v : Value} {nid id : String} (FB : ExcBaseFacts "Exception" nid id excBm) (hqt : id.startsWith "lifetime." = false) (hmw : h.get? mw = some { cls := .type "method-wrapper", data := .fields #[.builtin id, .ref x] })
    (hC : h.get? C = some (excClassObj nm q C N bs excBm true sn sub ab col dd k0 k1 k2 k3 k5 nid)) (hx : h.get? x = some o) (hc : o.cls = .ref C) (hdt : o.data = .fields vs) (h0 : vs[0]? = some (.ref a0))
    (hq : ∀ h', h'.get? x = some { o with data := .fields (vs.setIfInBounds 0 (.ref h.objs.size)) } → h'.get? h.objs.size = some { cls := .type "tuple", data := .seq #[v] } →
      (∀ b o, b ≠ x → h.get? b = some o → h'.get? b = some o) → Q .none ⟨h', g, d, t, os⟩) :
    wpAny (model prog w) A (call (.ref mw) [v]) Q E ⟨h, g, d, t, os⟩ := by
  refine wpAny_call (codeAny_of_tree ?_)
  show wpAny _ _ (callAny (.ref mw) _) _ _ _
  unfold callAny
  refine wpAny_bind (wpAny_load hmw ?_)
  show wpAny _ _ (do checkBoundCall id ⟨[.ref x, v], []⟩; again (.builtin id ⟨[.ref x, v], []⟩)) _ _ _
  refine wpAny_bind (exc_init_bound FB hC hx hc ?_)
  exact wpAny_pure ⟨Code.quiet_builtin _ hqt, exc_init_code FB hx hdt h0 hq⟩

theorem mw_call {mw a0 : Addr} {vs : Array Value} {o : Obj} {Q : Value → Shared → Prop} {v : Value} (hmw : h.get? mw = some (mwObj x))
    (hC : h.get? C = some (excClassObj nm q C N bs excBm true sn sub ab col dd k0 k1 k2 k3 k5 "Exception.__new__")) (hx : h.get? x = some o) (hc : o.cls = .ref C) (hdt : o.data = .fields vs) (h0 : vs[0]? = some (.ref a0))
    (hq : ∀ h', h'.get? x = some { o with data := .fields (vs.setIfInBounds 0 (.ref h.objs.size)) } → h'.get? h.objs.size = some { cls := .type "tuple", data := .seq #[v] } →
      (∀ b o, b ≠ x → h.get? b = some o → h'.get? b = some o) → Q .none ⟨h', g, d, t, os⟩) :
    wpAny (model prog w) A (call (.ref mw) [v]) Q E ⟨h, g, d, t, os⟩ :=
  mw_call_at PySem.F.excBase_Exception (by decide +kernel) hmw hC hx hc hdt h0 hq
end
end Mine
end
section
open PySem PySem.W PyProof.Rows PySem.Calls
set_option maxRecDepth 100000
set_option maxHeartbeats 2000000
namespace Mine
open Builtin Builtin.ObjectAttr

abbrev tupOf (vs : List Value) : Obj := { cls := .type "tuple", data := .seq vs.toArray }
abbrev excO (C t : Addr) : Obj := { cls := .ref C, data := .fields #[.ref t, .none, .none, .none, .bool false, .none] }
section
variable {prog : Program} {w : World} {A : Around} {E : Value → Shared → Prop} {h : Heap} {g : Array GenState} {d : Drawn} {t : Nat} {os : OsState}
variable {nm q : Str} {C N x : Addr} {bs : List Value} {sn : List Str} {sub : List Value} {ab : Bool} {col : Option Bool} {dd : Option Addr} {k0 k1 k2 k3 k5 : Option Value} {nid id : String}

theorem exc_new_code (FB : ExcBaseFacts "Exception" nid id excBm) {rest : List Value} {kw : List (Str × Value)} {R : Result → Shared → Prop}
    (hC : h.get? C = some (excClassObj nm q C N bs excBm true sn sub ab col dd k0 k1 k2 k3 k5 nid)) (hrest : rest.length ≤ sizeLine)
    (hq : R (.ok (.ret (.ref (h.objs.size + 1)))) ⟨(h.push (tupOf rest)).push (excO C h.objs.size), g, d, t, os⟩) :
    codeAny (model prog w) A (.builtin nid ⟨.ref C :: rest, kw⟩) R ⟨h, g, d, t, os⟩ := by
  have hends := FB.ends
  have hcB : (Value.ref C :: excBm).contains (.type "Exception") = true := by rw [List.contains_cons]; rfl
  have hcA : (Value.ref C :: excBm).contains (.type "AttributeError") = false := by rw [List.contains_cons]; rfl
  have hcN : (Value.ref C :: excBm).contains (.type "NameError") = false := by rw [List.contains_cons]; rfl
  refine codeAny_builtinAt FB.entry ?_
  unfold Builtin.«BaseException.__new__»
  refine _root_.PySem.wpAt_bind ?_
  show _root_.PySem.wpAt _ _ _ (stack >>= _) _ _ _
  refine _root_.PySem.wpAt_bind (_root_.PySem.wpAt_stack fun p below => _root_.PySem.wpAt_of_wpAny ?_)
  wp_walk
  refine _root_.PySem.wpAt_of_wpAny ?_
  rw [FB.owner]
  repeat (first | with_reducible refine wpAny_madeHere_exc FB.canon hC ?_ | with_reducible refine wpAny_loadPart_at hC ?_ | (with_reducible refine wpAny_isSubtype_exc hC ?_; first | rw [hcB] | rw [hcA] | rw [hcN]) | wp_step)
  show R _ _
  rw [Heap.size_push]
  exact hq

theorem exc_check_new (FB : ExcBaseFacts "Exception" nid id excBm) {M : Model} {rest : List Value} {kw : List (Str × Value)} {Q : Unit → Shared → Prop} (hC : h.get? C = some (excClassObj nm q C N bs excBm true sn sub ab col dd k0 k1 k2 k3 k5 nid))
    (hq : Q () ⟨h, g, d, t, os⟩) : wpAny M A (checkBuiltinCall nid ⟨.ref C :: rest, kw⟩) Q E ⟨h, g, d, t, os⟩ := by
  have hcont : (Value.ref C :: excBm).contains (.type "Exception") = true := by rw [List.contains_cons]; rfl
  have hstar := FB.noStar
  simp only [checkBuiltinCall, FB.newKind, FB.newSplit, FB.newRow]
  repeat (first | refine wpAny_loadPart_at hC ?_ | (refine wpAny_isSubtype_exc hC ?_; rw [hcont]) | refine wpAny_staticBase_exc hC ?_ | refine wpAny_madeBy_exc hC ?_ | simp only [bne_self_eq_false, Bool.false_eq_true, if_false] | wp_step)
  exact hq

theorem exc_type_call (FB : ExcBaseFacts "Exception" nid id excBm) {mN : Str → Option Value} {rest : List Value} {kw : List (Str × Value)} {fI : Addr} {oI : Obj} {Q : Fin → Shared → Prop}
    (hC : h.get? C = some (excClassObj nm q C N bs excBm true sn sub ab col dd k0 k1 k2 k3 k5 nid)) (hn : h.Ns N mN) (hi : mN "__init__" = some (.ref fI))
    (hfI : h.get? fI = some oI) (hfc : oI.cls = .type "function") (hrest : rest.length ≤ sizeLine)
    (hq : wpAny (model prog w) A (call (.ref fI) (.ref (h.objs.size + 1) :: rest) kw) (fun r s' => r = .none ∧ Q (.done (.ret (.ref (h.objs.size + 1)))) s') E ⟨(h.push (tupOf rest)).push (excO C h.objs.size), g, d, t, os⟩) :
    wpAny (model prog w) A (Builtin.«type.__call__» ⟨.ref C :: rest, kw⟩) Q E ⟨h, g, d, t, os⟩ := by
  have hC₁ := Heap.get?_push_of_some (excO C h.objs.size) (Heap.get?_push_of_some (tupOf rest) hC)
  have hfI₁ := Heap.get?_push_of_some (excO C h.objs.size) (Heap.get?_push_of_some (tupOf rest) hfI)
  have hn₁ : ((h.push (tupOf rest)).push (excO C h.objs.size)).Ns N mN :=
    let ⟨o, es, ep, e, r⟩ := hn; ⟨o, es, ep, Heap.get?_push_of_some _ (Heap.get?_push_of_some _ e), r⟩
  have hget : ((h.push (tupOf rest)).push (excO C h.objs.size)).get? (h.objs.size + 1) = some (excO C h.objs.size) := by heap_get
  have hcC : (Value.ref C :: excBm).contains (.ref C) = true := by simp
  repeat (first | with_reducible refine wpAny_loadPart_at hC ?_ | with_reducible refine wpAny_madeBy_exc hC ?_ | wp_step)
  refine codeAny_call_builtin_code (Code.quiet_builtin _ FB.quiet) (exc_check_new FB hC ?_)
  refine exc_new_code FB hC hrest ?_
  show wpAny _ _ _ _ _ _
  unfold isInstance
  repeat (first | with_reducible refine wpAny_loadPart_at hget ?_ | (with_reducible refine wpAny_isSubtype_exc hC₁ ?_; rw [hcC]) | wp_step)
  show wpAny _ _ (typeLookup (.ref C) _) _ _ _
  refine wpAny_typeLookup_exc hC₁ hn₁ FB.mroIs FB.init.lookup ?_
  rw [hi]
  refine wpAny_holding (wpAny_bind ?_)
  unfold bindSpecial
  refine wpAny_bind (wpAny_typeOf (T := "function") ⟨_, hfI₁, hfc⟩ ?_)
  rw [if_pos (by decide)]
  refine wpAny_pure (wpAny_bind (wpAny_mono hq (fun r s' hr => ?_) fun _ _ x => x))
  obtain ⟨rfl, hQ⟩ := hr
  wp_walk
  exact hQ

theorem exc_check_tc {M : Model} {rest : List Value} {kw : List (Str × Value)} {Q : Unit → Shared → Prop} (hC : h.get? C = some (excClassObj nm q C N bs excBm true sn sub ab col dd k0 k1 k2 k3 k5 nid))
    (hq : Q () ⟨h, g, d, t, os⟩) : wpAny M A (checkBuiltinCall "type.__call__" ⟨.ref C :: rest, kw⟩) Q E ⟨h, g, d, t, os⟩ := by
  refine check_slot tc_kind tc_split ?_ (tc_args _ _ _) hq
  intro A' Q' E' s' k q'
  obtain ⟨h', g', d', t', os'⟩ := s'
  unfold isInstance
  refine wpAny_bind (wpAny_bind (wpAny_loadPart_at (k _ _ hC) (wpAny_pure ?_)))
  exact wpAny_of_eq tc_sub q'

theorem exc_make (FB : ExcBaseFacts "Exception" nid id excBm) {mN : Str → Option Value} {rest : List Value} {kw : List (Str × Value)} {fI : Addr} {oI : Obj} {Q : Value → Shared → Prop}
    (hC : h.get? C = some (excClassObj nm q C N bs excBm true sn sub ab col dd k0 k1 k2 k3 k5 nid)) (hn : h.Ns N mN) (hi : mN "__init__" = some (.ref fI))
    (hfI : h.get? fI = some oI) (hfc : oI.cls = .type "function") (hrest : rest.length ≤ sizeLine)
    (hq : wpAny (model prog w) (A.under (.builtin "type.__call__" ⟨.ref C :: rest, kw⟩)) (call (.ref fI) (.ref (h.objs.size + 1) :: rest) kw) (fun r s' => r = .none ∧ Q (.ref (h.objs.size + 1)) s') E ⟨(h.push (tupOf rest)).push (excO C h.objs.size), g, d, t, os⟩) :
    wpAny (model prog w) A (call (.ref C) rest kw) Q E ⟨h, g, d, t, os⟩ := by
  have f1 := tc_lookup
  have f2 := tc_bind (.ref C)
  have hT : (⟨h, g, d, t, os⟩ : Shared).TypeIs (.ref C) "type" := ⟨_, hC, rfl⟩
  refine wpAny_call (codeAny_of_tree ?_)
  show wpAny _ _ (callAny (.ref C) _) _ _ _
  repeat (any_goals (first | assumption | with_reducible refine wpAny_loadPart_at hC ?_ | wp_step))
  refine ⟨rfl, ?_⟩
  exact codeAny_call_builtin_at (Code.quiet_builtin _ (by decide +kernel)) entry_typeCall (exc_check_tc hC (exc_type_call FB hC hn hi hfI hfc hrest hq))
end
end Mine
end
section
open PySem PySem.W PyProof.Rows PySem.Calls
set_option maxRecDepth 100000
set_option maxHeartbeats 2000000
namespace Mine
open Builtin Builtin.ObjectAttr

section
variable {prog : Program} {w : World} {A : Around} {E : Value → Shared → Prop} {s : Shared} {K : Frag} {h₀ : Heap} {L : Addr} {m : Str → Option Value} {news : List (Addr × Obj)} {gg : Obj → List (Addr × Obj)}
variable {nm q : Str} {C Nn e dx : Addr} {bs : List Value} {sn : List Str} {sub : List Value} {ab : Bool} {col : Option Bool} {dd : Option Addr} {k0 k1 k2 k3 k5 : Option Value} {nid : String}
  {name : Str} {v : Value} {vs : Array Value} {sl : Array (Option Value)} {mA : Str → Option Value} {od : Obj}

theorem kcls (X : K.In s.heap) (hk : K.lookup C = some (excClassObj nm q C Nn bs excBm true sn sub ab col dd k0 k1 k2 k3 k5 nid)) (hok : nsOkIn K Nn = true) :
    s.heap.get? C = some (excClassObj nm q C Nn bs excBm true sn sub ab col dd k0 k1 k2 k3 k5 nid) ∧ s.heap.Ns Nn (s.heap.nsMap Nn) := ⟨X _ _ hk, .of_isNs (isNs_of_in X hok)⟩

theorem kset0 {Q : Unit → Shared → Prop} (F : Fr h₀ L s.heap m) (X₀ : K.In h₀) (N : News h₀ L s.heap news)
    (hk : K.lookup C = some (excClassObj nm q C Nn bs excBm true sn sub ab col dd k0 k1 k2 k3 k5 nid)) (hok : nsOkIn K Nn = true) (hns : nsIn K Nn "__setattr__" = some none) (hna : nsIn K Nn name = some none)
    (hB : typeLookup (.type "Exception") name = pure none) (U : UpdF e ⟨.ref C, none, .fields vs, sl⟩ news gg)
    (h : ∀ dx od h' tk', Fr h₀ L h' m → News h₀ L h' ((dx, od) :: gg ⟨.ref C, some dx, .fields vs, sl⟩) → AttrObj od (fun y => if y = name then some v else none) → (∀ p ∈ news, p.1 < dx) → Q () { s with heap := h', toks := tk' }) :
    wpAny (model prog w) A (setAttr (.ref e) name v) Q E s := by
  have X := X₀.keeps F.keep
  obtain ⟨hC, hN⟩ := kcls X hk hok
  obtain ⟨pre, post, rfl, hg, h1, h2⟩ := U.split
  have hm := N (e, _) (List.mem_append_right _ (.head _))
  obtain ⟨hh, g, d, t, os⟩ := s
  refine exc_store0 hC hN (nsMap_none_of_in X hok hns) (nsMap_none_of_in X hok hna) hB hm.1 rfl rfl rfl fun h' od tk' e1 e2 e3 e4 => ?_
  have hLe : L ≠ e := Ne.symm hm.2.1
  refine h hh.objs.size od h' tk' ⟨F.ns.at' fun o q => e4 L o hLe q, fun b o q => e4 b o (fun z => by rw [z, hm.2.2] at q; cases q) (F.keep b o q), F.above⟩ ?_ e3 fun p hp => Heap.lt_size (N p hp).1
  rw [hg]
  intro p hp
  rcases List.mem_cons.mp hp with rfl | hp
  · refine ⟨e2, Nat.ne_of_gt F.ns.lt, ?_⟩
    cases z : h₀.get? hh.objs.size with
    | none => rfl
    | some o => exact absurd (Heap.lt_size (F.keep _ _ z)) (Nat.lt_irrefl _)
  · rcases List.mem_append.mp hp with hp | hp
    · have := N p (List.mem_append_left _ hp); exact ⟨e4 _ _ (h1 p hp) this.1, this.2⟩
    · rcases List.mem_cons.mp hp with rfl | hp
      · exact ⟨e1, hm.2⟩
      · have := N p (List.mem_append_right _ (.tail _ hp)); exact ⟨e4 _ _ (h2 p hp) this.1, this.2⟩

theorem kset {Q : Unit → Shared → Prop} {ns : List Str} (F : Fr h₀ L s.heap m) (X₀ : K.In h₀) (N : News h₀ L s.heap news)
    (hk : K.lookup C = some (excClassObj nm q C Nn bs excBm true sn sub ab col dd k0 k1 k2 k3 k5 nid)) (hok : nsOkIn K Nn = true) (hns : nsIn K Nn "__setattr__" = some none) (hna : nsIn K Nn name = some none)
    (hB : typeLookup (.type "Exception") name = pure none) (hm : (e, (⟨.ref C, some dx, .fields vs, sl⟩ : Obj)) ∈ news) (U : UpdF dx od news gg) (hat : AttrObj od mA) (hw : Within mA ns) (hsz : ns.length ≤ sizeLine)
    (h : ∀ od' h' tk', Fr h₀ L h' m → News h₀ L h' (gg od') → AttrObj od' (fun y => if y = name then some v else mA y) → Q () { s with heap := h', toks := tk' }) :
    wpAny (model prog w) A (setAttr (.ref e) name v) Q E s := by
  have X := X₀.keeps F.keep
  obtain ⟨hC, hN⟩ := kcls X hk hok
  obtain ⟨pre, post, rfl, hg, h1, h2⟩ := U.split
  have hme := N _ hm
  have hmd := N (dx, _) (List.mem_append_right _ (.head _))
  obtain ⟨hh, g, d, t, os⟩ := s
  refine exc_store hC hN (nsMap_none_of_in X hok hns) (nsMap_none_of_in X hok hna) hB hme.1 hmd.1 hat hw hsz fun h' od' tk' e1 e2 e3 => ?_
  refine h od' h' tk' ⟨F.ns.at' fun o q => e3 L o (Ne.symm hmd.2.1) q, fun b o q => e3 b o (fun z => by rw [z, hmd.2.2] at q; cases q) (F.keep b o q), F.above⟩ ?_ e2
  rw [hg]
  intro p hp
  rcases List.mem_append.mp hp with hp | hp
  · have := N p (List.mem_append_left _ hp); exact ⟨e3 _ _ (h1 p hp) this.1, this.2⟩
  · rcases List.mem_cons.mp hp with rfl | hp
    · exact ⟨e1, hmd.2⟩
    · have := N p (List.mem_append_right _ (.tail _ hp)); exact ⟨e3 _ _ (h2 p hp) this.1, this.2⟩

theorem inst_of {hh : Heap} (h1 : hh.get? e = some (⟨.ref C, some dx, .fields vs, sl⟩ : Obj)) (h2 : hh.get? dx = some od) (hat : AttrObj od mA) : hh.Inst e C mA := by
  refine ⟨_, h1, rfl, (fun c q => by cases q), .inr ⟨dx, rfl, fun z => ?_, hat.ns1 h2⟩⟩
  obtain ⟨es, ep, hd, _⟩ := hat
  rw [z, h1] at h2
  cases h2
  cases hd

theorem kget {expr : Bool} {Q : Value → Shared → Prop} (F : Fr h₀ L s.heap m) (X₀ : K.In h₀)
    (hk : K.lookup C = some (excClassObj nm q C Nn bs excBm true sn sub ab col dd k0 k1 k2 k3 k5 nid)) (hok : nsOkIn K Nn = true) (hng : nsIn K Nn "__getattribute__" = some none) (hnh : nsIn K Nn "__getattr__" = some none) (hna : nsIn K Nn name = some none)
    (hB : typeLookup (.type "Exception") name = pure none) (h1 : s.heap.get? e = some (⟨.ref C, some dx, .fields vs, sl⟩ : Obj)) (h2 : s.heap.get? dx = some od) (hat : AttrObj od mA) (hv : mA name = some v) (hh : handedOut v = pure v)
    (h : Q v { s with toks := s.toks + 1 }) : wpAny (model prog w) A (getAttr (.ref e) name expr) Q E s := by
  have X := X₀.keeps F.keep
  obtain ⟨hC, hN⟩ := kcls X hk hok
  obtain ⟨hp, g, d, t, os⟩ := s
  exact exc_load hC hN (nsMap_none_of_in X hok hng) (nsMap_none_of_in X hok hnh) (nsMap_none_of_in X hok hna) hB (inst_of h1 h2 hat) hv hh h

theorem instAt_exc {hh : Heap} (h1 : hh.get? e = some (⟨.ref C, some dx, .fields vs, sl⟩ : Obj)) (h2 : hh.get? dx = some od) : InstAt hh e ⟨.ref C, some dx, .fields vs, sl⟩ C (some od) := ⟨h1, rfl, rfl, h2⟩

theorem newsPush {h' : Heap} {a : Addr} {o : Obj} (F : Fr h₀ L s.heap m) (N : News h₀ L s.heap news) (ha : a = s.heap.objs.size) (ho : h'.get? a = some o) (k : ∀ b o, s.heap.get? b = some o → h'.get? b = some o) :
    Fr h₀ L h' m ∧ News h₀ L h' ((a, o) :: news) ∧ ∀ p ∈ news, p.1 < a := ks_newsPush F N ha ho k

theorem ksup_method {pl : Sem Bool} {Q : Value × List Value → Shared → Prop} {so : Addr} {oe : Obj} (F : Fr h₀ L s.heap m) (X₀ : K.In h₀) (N : News h₀ L s.heap news)
    (hk : K.lookup C = some (excClassObj nm q C Nn bs excBm true sn sub ab col dd k0 k1 k2 k3 k5 nid)) (ho : nsIn K cStatics "thirdparty.any" = some none)
    (hso : (so, ks_superObj C e C) ∈ news) (hm : (e, oe) ∈ news) (hc : oe.cls = .ref C) (hdt : oe.data = .fields vs)
    (h : ∀ mw h', Fr h₀ L h' m → News h₀ L h' ((mw, mwObj e) :: news) → (∀ p ∈ news, p.1 < mw) → Q (.ref mw, []) { s with heap := h', toks := s.toks + 1 }) :
    wpAny (model prog w) A (getMethod (.ref so) "__init__" pl) Q E s := by
  have X := X₀.keeps F.keep
  have hC := X _ _ hk
  have he := (N _ hm).1
  obtain ⟨hp, g, d, t, os⟩ := s
  have hne : e ≠ C := fun z => by rw [z, hC] at he; cases he; cases hdt
  refine sup_getMethod (N _ hso).1 (looks_opaque X ho) hC he hc hne ?_
  obtain ⟨F', N', l'⟩ := newsPush (s := ⟨hp, g, d, t, os⟩) (o := mwObj e) F N rfl (Heap.get?_push_at rfl rfl) (fun b o q => Heap.get?_push_of_some _ q)
  exact h _ _ F' N' l'

def MwP (mw e : Addr) (h : Heap) : Prop := h.get? mw = some (mwObj e)
theorem keeps_Mw {M : Model} {mw : Addr} (h : Heap) (X : MwP mw e h) : ∃ k, (k = Keeper.frame ∨ k = Keeper.machine ∨ k = Keeper.boundFrame) ∧ Looks M h (keeperOf (.ref mw)) k :=
  ⟨.machine, .inr (.inl rfl), (Looks.ld (part := none) X).andThen (Looks.of_pure (by rfl))⟩

theorem callWith_Mw {M : Model} {Q : Value → Shared → Prop} {env : Env} {pos : Pos} {mw : Addr} {ex : Expr} {rest : List Expr} (_N : News h₀ L s.heap news) (_q : (mw, mwObj e) ∈ news)
    (h : wpAny M A (spliced (backTo pos (starEach (ex :: rest) env))) (fun vs s₁ => MwP mw e s₁.heap ∧ wpAny M A (call (.ref mw) ([] ++ vs)) Q E s₁) E s)
    (he : starEach (ex :: rest) env = (false, eval ex env) :: starEach rest env := by rfl) (hplain : (backTo pos (starEach rest env)).any (·.1) = false := by rfl) :
    wpAny M A (callWith pos (.ref mw) [] (backTo pos (starEach (ex :: rest) env)) []) Q E s := by
  rw [he] at h ⊢
  exact callWith_of (by show ((false || (backTo pos (starEach rest env)).any (·.1)) || false) = false; rw [hplain]; rfl) keeps_Mw (evalArgs_plain h)

theorem mwP {mw : Addr} {h : Heap} (N : News h₀ L h news) (hq : (mw, mwObj e) ∈ news) : MwP mw e h := (N _ hq).1

theorem kmw_call {Q : Value → Shared → Prop} {mw a0 : Addr} {dxo : Option Addr} (F : Fr h₀ L s.heap m) (X₀ : K.In h₀) (N : News h₀ L s.heap news)
    (hk : K.lookup C = some (excClassObj nm q C Nn bs excBm true sn sub ab col dd k0 k1 k2 k3 k5 "Exception.__new__"))
    (hmw : (mw, mwObj e) ∈ news) (U : UpdF e ⟨.ref C, dxo, .fields vs, sl⟩ news gg) (h0 : vs[0]? = some (.ref a0))
    (h : ∀ t h', Fr h₀ L h' m → News h₀ L h' ((t, tupOf [v]) :: gg ⟨.ref C, dxo, .fields (vs.setIfInBounds 0 (.ref t)), sl⟩) → (∀ p ∈ news, p.1 < t) → Q .none { s with heap := h' }) :
    wpAny (model prog w) A (call (.ref mw) [v]) Q E s := by
  have X := X₀.keeps F.keep
  have hC := X _ _ hk
  obtain ⟨pre, post, rfl, hg, h1, h2⟩ := U.split
  have hme := N (e, _) (List.mem_append_right _ (.head _))
  obtain ⟨hp, g, d, t, os⟩ := s
  refine mw_call (N _ hmw).1 hC hme.1 rfl rfl h0 fun h' e1 e2 e3 => ?_
  refine h hp.objs.size h' ⟨F.ns.at' fun o q => e3 L o (Ne.symm hme.2.1) q, fun b o q => e3 b o (fun z => by rw [z, hme.2.2] at q; cases q) (F.keep b o q), F.above⟩ ?_ fun p hp => Heap.lt_size (N p hp).1
  rw [hg]
  intro p hpp
  rcases List.mem_cons.mp hpp with rfl | hpp
  · refine ⟨e2, Nat.ne_of_gt F.ns.lt, ?_⟩
    cases z : h₀.get? hp.objs.size with
    | none => rfl
    | some o => exact absurd (Heap.lt_size (F.keep _ _ z)) (Nat.lt_irrefl _)
  · rcases List.mem_append.mp hpp with hpp | hpp
    · have := N p (List.mem_append_left _ hpp); exact ⟨e3 _ _ (h1 p hpp) this.1, this.2⟩
    · rcases List.mem_cons.mp hpp with rfl | hpp
      · exact ⟨e1, hme.2⟩
      · have := N p (List.mem_append_right _ (.tail _ hpp)); exact ⟨e3 _ _ (h2 p hpp) this.1, this.2⟩
end
end Mine
end
section
open PySem PySem.W PyProof.Rows PySem.Calls
set_option maxRecDepth 100000
set_option maxHeartbeats 2000000
namespace Mine
open Builtin Builtin.ObjectAttr

section
variable {prog : Program} {w : World} {A₀ A : Around} {s : Shared} {base hb : Heap} {outer : List Env} {mg mb : Str → Option Value} {env : Env} {news : List (Addr × Obj)} {K : Frag} {p : Program} {loose : List Str} {mean : ExcName → Option Value}
  {R : Result → Shared → Prop} {name qual : Str} {params : Arguments} {body : List Stmt} {scope : Scope} {dV kV doc pm cdv ct oc : Value} {an od : Option Addr} {osl : Array (Option Value)} {f cc : Addr} {args : Args} {binds : List (Str × Value)}

theorem enter_super (hsub : hb.StaysIn s.heap) (hsz : hb.objs.size ≤ s.heap.objs.size) (Xb : K.In hb) (Tb : Top p loose mean mg mb hb) (N : ∀ p ∈ news, s.heap.get? p.1 = some p.2 ∧ hb.get? p.1 = none)
    (ho : K.lookup f = some ⟨oc, od, .func (ksFn name qual params body scope dV kV doc pm an cdv ct cc), osl⟩) (hcd : codeIn K cdv qual = true) (hroom : A.depth < recursionLimit)
    (hbind : BindsTo s (ksFn name qual params body scope dV kV doc pm an cdv ct cc) args binds) (hloc : ∀ y ∈ binds, scope.names.lookup y.1 = some .local)
    (h : ∀ L' h₁, Fr hb L' h₁ (fun y => binds.reverse.lookup y) → News hb L' h₁ news → (∀ p ∈ news, p.1 < L') →
      _root_.PySem.wpAt (model prog w) (A.deeper (ksEnv qual scope L' f cdv cc)) (.func body (ksEnv qual scope L' f cdv cc)) (execs body (ksEnv qual scope L' f cdv cc))
        (fun fl s' => Back s (fun v s' => R (.ok (.ret v)) s') (match fl with | .ret v => v | _ => .none) s')
        (fun e s' => wpAny (model prog w) (A.deeper (ksEnv qual scope L' f cdv cc)) (leaving (ksEnv qual scope L' f cdv cc) e) (fun _ s'' => R (.error e) s'') (fun e' s'' => R (.error e') s'') s')
        { s with heap := h₁, toks := s.toks + binds.length })
    (hcell : ∀ x ∈ scope.names, x.2 ≠ .cell) (hco : scope.isCoroutine = false) (hgen : scope.isGenerator = false) (hk : scope.kind = .function) : codeAny (model prog w) A (.call (.ref f) args) R s := by
  have Xs := Xb.keeps hsub
  refine ks_codeAny_call_defAt (fd := ksFn name qual params body scope dV kV doc pm an cdv ct cc) (body := body) (binds := binds) hroom (Xs _ _ ho) rfl (Tb.nolimit.keeps hsub) (codeRec_of Xs hcd) rfl hbind hcell hloc (fun h₁ hns hk₁ => ?_) hco hgen hk
  exact h s.heap.objs.size h₁ ⟨hns, fun b o e => hk₁ b o (hsub b o e), hsz⟩ (fun p hp => ⟨hk₁ _ _ (N p hp).1, Nat.ne_of_lt (Heap.lt_size (N p hp).1), (N p hp).2⟩) (fun p hp => Heap.lt_size (N p hp).1)
end

/-- the exception e: its attributes and its one argument -/
def ExcIs (h : Heap) (C e : Addr) (vs : Array Value) (msg pat pos line col : Value) (words : Str) : Prop :=
  ∃ dx sl od mA t tw, h.get? e = some ⟨.ref C, some dx, .fields vs, sl⟩ ∧ vs[0]? = some (.ref t) ∧ h.get? dx = some od ∧ AttrObj od mA ∧ mA "msg" = some msg ∧ mA "pattern" = some pat ∧ mA "pos" = some pos ∧
    mA "lineno" = some line ∧ mA "colno" = some col ∧ h.get? t = some (tupOf [.str words tw])
theorem ExcIs.keeps {h h' : Heap} {C e : Addr} {vs : Array Value} {msg pat pos line col : Value} {words : Str} (x : ExcIs h C e vs msg pat pos line col words) (k : h.StaysIn h') : ExcIs h' C e vs msg pat pos line col words :=
  let ⟨dx, sl, od, mA, t, tw, a, b, c, r1, r2, r3, r4, r5, r6, d⟩ := x
  ⟨dx, sl, od, mA, t, tw, k _ _ a, b, k _ _ c, r1, r2, r3, r4, r5, r6, k _ _ d⟩
end Mine
end
section
open PySem PySem.W PyProof.Rows PySem.Calls
set_option maxRecDepth 100000
set_option maxHeartbeats 2000000
namespace Mine
open Builtin Builtin.Str

/-- str.count(y, i, j), str.rfind(y, i, j) -/
def scount (x y : Str) (i j : Int) : Int := (occurrences x y (fromIndex x.length i) (min (fromIndex x.length j) x.length) (x.length + 1)).length
def srfind (x y : Str) (i j : Int) : Int := match lastOccurrence x y (fromIndex x.length i) (min (fromIndex x.length j) x.length) with | some k => (k : Int) | none => -1

theorem gives_scount (x y : Str) (i j : Int) (t u v v' : Tok) : Gives («str.count» ⟨[.str x t, .str y u, .int i v, .int j v'], []⟩) (.int (scount x y i j)) := by
  show Gives (retInt (occurrences x y (fromIndex x.length i) (min (fromIndex x.length j) x.length) (x.length + 1)).length) _
  exact .of_eq rfl
theorem gives_srfind (x y : Str) (i j : Int) (t u v v' : Tok) : Gives («str.rfind» ⟨[.str x t, .str y u, .int i v, .int j v'], []⟩) (.int (srfind x y i j)) := by
  show Gives (match lastOccurrence x y (fromIndex x.length i) (min (fromIndex x.length j) x.length) with | some k => retInt k | none => (do rule "str.rfind.not-found"; retInt (-1))) _
  unfold srfind
  cases lastOccurrence x y (fromIndex x.length i) (min (fromIndex x.length j) x.length) with
  | none => exact .rule (.of_eq rfl)
  | some k => exact .of_eq rfl
theorem args_scount (a b c d : Value) : argsOk "str.count" ⟨[a, b, c, d], []⟩ := by unfold argsOk; kernel_rfl
theorem args_srfind (a b c d : Value) : argsOk "str.rfind" ⟨[a, b, c, d], []⟩ := by unfold argsOk; kernel_rfl
section
variable {prog : Program} {w : World} {A : Around} {E : Value → Shared → Prop} {s : Shared} {x y : Str} {t u v v' : Tok} {i j : Int} {Q : Value → Shared → Prop}
theorem scount_call (hq : Q (.int (scount x y i j) s.toks) { s with toks := s.toks + 1 }) : wpAny (model prog w) A (call (.builtin "str.count") [.str x t, .str y u, .int i v, .int j v']) Q E s :=
  call_gives PySem.F.slot_str_count (typeIs_str _ _ _) PySem.F.entry_str_count (args_scount _ _ _ _) (gives_scount x y i j t u v v') hq
theorem srfind_call (hq : Q (.int (srfind x y i j) s.toks) { s with toks := s.toks + 1 }) : wpAny (model prog w) A (call (.builtin "str.rfind") [.str x t, .str y u, .int i v, .int j v']) Q E s :=
  call_gives PySem.F.slot_str_rfind (typeIs_str _ _ _) PySem.F.entry_str_rfind (args_srfind _ _ _ _) (gives_srfind x y i j t u v v') hq
end
end Mine
end
section
open PySem PySem.W PyProof.Rows PySem.Calls
set_option maxRecDepth 100000
set_option maxHeartbeats 2000000
namespace Mine
open Builtin Builtin.Str

/-- the last place of c in a list -/
def lastIdx (c : Nat) : List Nat → Option Nat
  | [] => none
  | a :: r => match lastIdx c r with
    | some k => some (k + 1)
    | none => if a = c then some 0 else none
/-- the line feeds ahead of pos; the last one's place, or -1 -/
def nlCount (l : List Nat) (pos : Nat) : Int := ((l.take pos).count 10 : Nat)
def nlLast (l : List Nat) (pos : Nat) : Int := match lastIdx 10 (l.take pos) with | some k => (k : Int) | none => -1

theorem lastIdx_lt {c : Nat} : ∀ {l : List Nat} {k : Nat}, lastIdx c l = some k → k < l.length
  | [], _, h => by cases h
  | a :: r, k, h => by
    unfold lastIdx at h
    cases q : lastIdx c r with
    | some j => rw [q] at h; cases h; have := lastIdx_lt q; simp; omega
    | none =>
      rw [q] at h
      by_cases e : a = c
      · simp [e] at h; simp [← h]
      · simp [e] at h
theorem nlCount_bound (l : List Nat) (pos : Nat) : 0 ≤ nlCount l pos ∧ nlCount l pos ≤ l.length ∧ nlCount l pos ≤ pos := by
  unfold nlCount
  have h1 := List.count_le_length (l := l.take pos) (a := 10)
  have h2 := List.length_take (l := l) (i := pos)
  omega
theorem nlLast_bound (l : List Nat) (pos : Nat) : -1 ≤ nlLast l pos ∧ nlLast l pos < l.length ∧ nlLast l pos < pos ∨ nlLast l pos = -1 := by
  unfold nlLast
  cases q : lastIdx 10 (l.take pos) with
  | none => exact .inr rfl
  | some k =>
    have h1 := lastIdx_lt q
    have h2 := List.length_take (l := l) (i := pos)
    refine .inl ⟨?_, ?_, ?_⟩ <;> dsimp only <;> omega

theorem sub1 (x : Str) (c i : Nat) (hi : Nat) (hl : hi ≤ x.cps.toList.length) : (i + (⟨#[c]⟩ : Str).length ≤ hi ∧ subAt x ⟨#[c]⟩ i = true) ↔ (i < hi ∧ x.cps.toList[i]? = some c) := by
  have := StrLaws.subAt_one x c i
  have hlen : x.length = x.cps.toList.length := by simp [Str.length]
  have h1 : (⟨#[c]⟩ : Str).length = 1 := rfl
  rw [h1] at this ⊢
  constructor
  · rintro ⟨a, b⟩
    exact ⟨by omega, this.mp ⟨by omega, b⟩⟩
  · rintro ⟨a, b⟩
    exact ⟨by omega, (this.mpr b).2⟩

theorem drop_take_cons {l : List Nat} {hi a : Nat} (h : a < hi) (hl : hi ≤ l.length) : ∃ c, l[a]? = some c ∧ (l.take hi).drop a = c :: (l.take hi).drop (a + 1) := by
  have h2 : a < (l.take hi).length := by rw [List.length_take]; omega
  refine ⟨l[a], List.getElem?_eq_getElem (by omega), ?_⟩
  rw [List.drop_eq_getElem_cons h2, List.getElem_take]

theorem occ_count (x : Str) (c hi limit : Nat) (hl : hi ≤ x.cps.toList.length) : ∀ (n a : Nat) (arr : Array Nat) (free : Nat), a + n = hi + 1 → free ≤ a → arr.size + n ≤ limit →
    (forIn (List.range' a n) (arr, free) (StrLaws.occBody x ⟨#[c]⟩ hi limit)).run.fst.size = arr.size + ((x.cps.toList.take hi).drop a).count c
  | 0, a, arr, free, h1, h2, h3 => by
    have : (x.cps.toList.take hi).drop a = [] := List.drop_eq_nil_of_le (by rw [List.length_take]; omega)
    rw [this]
    rfl
  | n + 1, a, arr, free, h1, h2, h3 => by
    rw [List.range'_succ, List.forIn_cons]
    unfold StrLaws.occBody
    by_cases hc : a < hi ∧ x.cps.toList[a]? = some c
    · have hc' := (sub1 x c a hi hl).mpr hc
      rw [if_pos ⟨⟨⟨by show arr.size < limit; omega, h2⟩, hc'.1⟩, hc'.2⟩]
      refine (occ_count x c hi limit hl n (a + 1) (arr.push a) (a + 1) (by omega) (Nat.le_refl _) (by rw [Array.size_push]; omega)).trans ?_
      obtain ⟨c', e1, e2⟩ := drop_take_cons hc.1 hl
      rw [e1] at hc
      have e3 : c' = c := Option.some.inj hc.2
      rw [e2, e3, Array.size_push, List.count_cons_self]
      omega
    · have hc' : ¬ (a + (⟨#[c]⟩ : Str).length ≤ hi ∧ subAt x ⟨#[c]⟩ a = true) := fun q => hc ((sub1 x c a hi hl).mp q)
      rw [if_neg (fun q => hc' ⟨q.1.2, q.2⟩)]
      refine (occ_count x c hi limit hl n (a + 1) arr free (by omega) (by omega) (by omega)).trans ?_
      by_cases ha : a < hi
      · obtain ⟨c', e1, e2⟩ := drop_take_cons ha hl
        have e3 : c' ≠ c := fun q => hc ⟨ha, by rw [e1, q]⟩
        rw [e2, List.count_cons_of_ne e3]
      · have k1 : (x.cps.toList.take hi).drop a = [] := List.drop_eq_nil_of_le (by rw [List.length_take]; omega)
        have k2 : (x.cps.toList.take hi).drop (a + 1) = [] := List.drop_eq_nil_of_le (by rw [List.length_take]; omega)
        rw [k1, k2]

theorem last_at (x : Str) (c hi : Nat) (hl : hi ≤ x.cps.toList.length) : ∀ (n a : Nat) (st : Option Nat), a + n = hi + 1 →
    (forIn (List.range' a n) st (StrLaws.lastBody x ⟨#[c]⟩ hi)).run = match lastIdx c ((x.cps.toList.take hi).drop a) with | some k => some (a + k) | none => st
  | 0, a, st, h1 => by
    have : (x.cps.toList.take hi).drop a = [] := List.drop_eq_nil_of_le (by rw [List.length_take]; omega)
    rw [this]
    rfl
  | n + 1, a, st, h1 => by
    rw [List.range'_succ, List.forIn_cons]
    unfold StrLaws.lastBody
    by_cases ha : a < hi
    · obtain ⟨c', e1, e2⟩ := drop_take_cons ha hl
      by_cases hc : c' = c
      · have hc' := (sub1 x c a hi hl).mpr ⟨ha, by rw [e1, hc]⟩
        rw [if_pos hc']
        refine (last_at x c hi hl n (a + 1) (some a) (by omega)).trans ?_
        rw [e2, lastIdx]
        cases q : lastIdx c ((x.cps.toList.take hi).drop (a + 1)) with
        | some k => simp; omega
        | none => simp [hc]
      · have hc' : ¬ (a + (⟨#[c]⟩ : Str).length ≤ hi ∧ subAt x ⟨#[c]⟩ a = true) := fun q => hc (by have := ((sub1 x c a hi hl).mp q).2; rw [e1] at this; exact Option.some.inj this)
        rw [if_neg hc']
        refine (last_at x c hi hl n (a + 1) st (by omega)).trans ?_
        rw [e2, lastIdx]
        cases q : lastIdx c ((x.cps.toList.take hi).drop (a + 1)) with
        | some k => simp; omega
        | none => simp [hc]
    · have hc' : ¬ (a + (⟨#[c]⟩ : Str).length ≤ hi ∧ subAt x ⟨#[c]⟩ a = true) := fun q => ha ((sub1 x c a hi hl).mp q).1
      rw [if_neg hc']
      refine (last_at x c hi hl n (a + 1) st (by omega)).trans ?_
      have k1 : (x.cps.toList.take hi).drop a = [] := List.drop_eq_nil_of_le (by rw [List.length_take]; omega)
      have k2 : (x.cps.toList.take hi).drop (a + 1) = [] := List.drop_eq_nil_of_le (by rw [List.length_take]; omega)
      rw [k1, k2]
      rfl

theorem scount_nl (x : Str) (pos : Int) (h : 0 ≤ pos) : scount x ⟨#[10]⟩ 0 pos = nlCount x.cps.toList pos.toNat := by
  unfold scount nlCount
  have hlen : x.length = x.cps.toList.length := by simp [Str.length]
  have f0 : fromIndex x.length 0 = 0 := by unfold fromIndex; simp
  have f1 : fromIndex x.length pos = pos.toNat := by unfold fromIndex; rw [if_neg (by omega), Int.max_eq_right h]
  rw [f0, f1, StrLaws.occ_eq]
  have := occ_count x 10 (min pos.toNat x.length) (x.length + 1) (by omega) (min pos.toNat x.length + 1) 0 #[] 0 (by omega) (Nat.le_refl _) (by simp; omega)
  rw [Array.length_toList, show min pos.toNat x.length + 1 - 0 = min pos.toNat x.length + 1 from rfl, this]
  rw [List.drop_zero, hlen, ← List.take_eq_take_min]
  simp

theorem srfind_nl (x : Str) (pos : Int) (h : 0 ≤ pos) : srfind x ⟨#[10]⟩ 0 pos = nlLast x.cps.toList pos.toNat := by
  unfold srfind nlLast
  have hlen : x.length = x.cps.toList.length := by simp [Str.length]
  have f0 : fromIndex x.length 0 = 0 := by unfold fromIndex; simp
  have f1 : fromIndex x.length pos = pos.toNat := by unfold fromIndex; rw [if_neg (by omega), Int.max_eq_right h]
  rw [f0, f1, StrLaws.last_eq]
  have := last_at x 10 (min pos.toNat x.length) (by omega) (min pos.toNat x.length + 1) 0 none (by omega)
  rw [show min pos.toNat x.length + 1 - 0 = min pos.toNat x.length + 1 from rfl, this]
  rw [List.drop_zero, hlen, ← List.take_eq_take_min]
  cases lastIdx 10 (x.cps.toList.take pos.toNat) <;> simp
end Mine
end
section
open PySem PySem.W PyProof.Rows PySem.Calls
set_option maxRecDepth 100000
set_option maxHeartbeats 2000000
namespace Mine
open Builtin Builtin.Bytes

def bwin (b : Array UInt8) (pos : Int) : Option (Nat × Nat) :=
  if (window b.size (some 0) (some pos)).2 - (window b.size (some 0) (some pos)).1 < ((#[10] : Array UInt8).size : Int) then none else some ((window b.size (some 0) (some pos)).1.toNat, (window b.size (some 0) (some pos)).2.toNat)
theorem bcount_eq (b : Array UInt8) (pos : Int) (t u v v' : Tok) : «bytes.count» ⟨[.bytes b t, .bytes #[10] u, .int 0 v, .int pos v'], []⟩ =
    (match bwin b pos with | none => retInt 0 | some (lo, hi) => retInt (occurrences b #[10] lo hi).length) := by kernel_rfl
theorem brfind_eq (b : Array UInt8) (pos : Int) (t u v v' : Tok) : «bytes.rfind» ⟨[.bytes b t, .bytes #[10] u, .int 0 v, .int pos v'], []⟩ =
    (match (bwin b pos).bind fun (lo, hi) => rfind? b #[10] lo hi with | some i => retInt i | none => (do rule "bytes.rfind.not-found"; retInt (-1))) := by kernel_rfl

/-- the numbers of some bytes -/
def codes (b : Array UInt8) : List Nat := b.toList.map UInt8.toNat
theorem codes_length (b : Array UInt8) : (codes b).length = b.size := by simp [codes]

theorem ext1 (b : Array UInt8) (i : Nat) (hi : i < b.size) : (b.extract i (i + (#[10] : Array UInt8).size) == (#[10] : Array UInt8)) = decide ((codes b)[i]? = some 10) := by
  have e : b.extract i (i + (#[10] : Array UInt8).size) = #[b[i]] := by
    apply Array.ext
    · simp; omega
    · intro j h1 h2
      simp at h2
      subst h2
      simp
  rw [e]
  have h2 : (codes b)[i]? = some b[i].toNat := by simp [codes, hi]
  rw [h2]
  by_cases q : b[i] = 10
  · rw [q]; rfl
  · have q' : b[i].toNat ≠ 10 := fun z => q (UInt8.toNat_inj.mp z)
    have h3 : (#[b[i]] == (#[10] : Array UInt8)) = false := by simp [q]
    rw [h3]
    simp [q']

theorem take_succ_at {l : List Nat} {n : Nat} (h : n < l.length) : l.take (n + 1) = l.take n ++ [l[n]] := by simp

theorem bocc (b : Array UInt8) : ∀ n, n ≤ b.size → ∃ acc k, ((List.range n).map (· + 0)).foldl (fun (acc : List Nat × Nat) i => if i ≥ acc.2 && b.extract i (i + (#[10] : Array UInt8).size) == #[10] then (i :: acc.1, i + (#[10] : Array UInt8).size) else acc) ([], 0) = (acc, k) ∧ k ≤ n ∧ acc.length = ((codes b).take n).count 10
  | 0, _ => ⟨[], 0, rfl, Nat.le_refl _, rfl⟩
  | n + 1, hn => by
    obtain ⟨acc, k, e, hk, hc⟩ := bocc b n (by omega)
    rw [List.range_succ, List.map_append, List.foldl_append, e]
    simp only [List.map_cons, List.map_nil, List.foldl_cons, List.foldl_nil, Nat.add_zero]
    rw [ext1 b n (by omega), take_succ_at (by rw [codes_length]; omega), List.count_append]
    have hg : (codes b)[n]? = some ((codes b)[n]'(by rw [codes_length]; omega)) := List.getElem?_eq_getElem _
    rw [hg]
    by_cases q : (codes b)[n]'(by rw [codes_length]; omega) = 10
    · refine ⟨n :: acc, n + 1, ?_, Nat.le_refl _, ?_⟩
      · simp [q, hk]
      · simp [hc, q]
    · refine ⟨acc, k, ?_, by omega, ?_⟩
      · simp [q]
      · simp [hc, List.count_cons, q]

theorem brf (b : Array UInt8) : ∀ n, n ≤ b.size → ((List.range n).map (· + 0)).reverse.find? (fun i => b.extract i (i + (#[10] : Array UInt8).size) == (#[10] : Array UInt8)) = lastIdx 10 ((codes b).take n)
  | 0, _ => rfl
  | n + 1, hn => by
    have ih := brf b n (by omega)
    have hg : (codes b)[n]? = some ((codes b)[n]'(by rw [codes_length]; omega)) := List.getElem?_eq_getElem _
    rw [List.range_succ, List.map_append, List.reverse_append]
    simp only [List.map_cons, List.map_nil, List.reverse_cons, List.reverse_nil, List.nil_append, List.cons_append, Nat.add_zero, List.find?_cons]
    rw [ext1 b n (by omega), hg, take_succ_at (by rw [codes_length]; omega)]
    have snoc : ∀ (l : List Nat) (c : Nat), lastIdx 10 (l ++ [c]) = if c = 10 then some l.length else lastIdx 10 l := by
      intro l c
      induction l with
      | nil => simp only [List.nil_append, lastIdx]; by_cases z : c = 10 <;> simp [z]
      | cons a r ih =>
        simp only [List.cons_append, lastIdx, ih]
        by_cases z : c = 10 <;> simp [z]
    rw [snoc]
    by_cases q : (codes b)[n]'(by rw [codes_length]; omega) = 10
    · simp [q, codes_length]; omega
    · simp only [q, if_false]
      rw [← ih]
      simp [q]

theorem bwin_is (b : Array UInt8) (pos : Int) (h : 0 ≤ pos) : bwin b pos = if min b.size pos.toNat = 0 then none else some (0, min b.size pos.toNat) := by
  unfold bwin window
  have e : (if pos < 0 then max 0 (pos + b.size) else pos) = pos := if_neg (by omega)
  simp only [Option.getD_some, e]
  have e2 : (min (b.size : Int) pos).toNat = min b.size pos.toNat := by omega
  by_cases z : min b.size pos.toNat = 0
  · rw [if_pos z, if_pos]
    simp; omega
  · rw [if_neg z, if_neg]
    · simp; omega
    · simp; omega

theorem bcount_nl (b : Array UInt8) (pos : Int) (h : 0 ≤ pos) (t u v v' : Tok) : Gives («bytes.count» ⟨[.bytes b t, .bytes #[10] u, .int 0 v, .int pos v'], []⟩) (.int (nlCount (codes b) pos.toNat)) := by
  rw [bcount_eq, bwin_is b pos h]
  have tk : (codes b).take (min b.size pos.toNat) = (codes b).take pos.toNat := by rw [Nat.min_comm, ← codes_length, ← List.take_eq_take_min]
  by_cases z : min b.size pos.toNat = 0
  · rw [if_pos z]
    have : nlCount (codes b) pos.toNat = 0 := by unfold nlCount; rw [← tk, z]; rfl
    rw [this]
    exact .of_eq rfl
  · rw [if_neg z]
    obtain ⟨acc, k, e, _, hc⟩ := bocc b (min b.size pos.toNat) (by omega)
    have : (occurrences b #[10] 0 (min b.size pos.toNat)).length = ((codes b).take (min b.size pos.toNat)).count 10 := by
      unfold occurrences
      rw [show min b.size pos.toNat + 1 - (0 + (#[10] : Array UInt8).size) = min b.size pos.toNat from by simp]
      dsimp only
      rw [e]
      simp [hc]
    dsimp only
    rw [this, tk]
    exact .of_eq rfl

theorem brfind_nl (b : Array UInt8) (pos : Int) (h : 0 ≤ pos) (t u v v' : Tok) : Gives («bytes.rfind» ⟨[.bytes b t, .bytes #[10] u, .int 0 v, .int pos v'], []⟩) (.int (nlLast (codes b) pos.toNat)) := by
  rw [brfind_eq, bwin_is b pos h]
  have tk : (codes b).take (min b.size pos.toNat) = (codes b).take pos.toNat := by rw [Nat.min_comm, ← codes_length, ← List.take_eq_take_min]
  by_cases z : min b.size pos.toNat = 0
  · rw [if_pos z]
    have : nlLast (codes b) pos.toNat = -1 := by unfold nlLast; rw [← tk, z]; rfl
    rw [this]
    exact .rule (.of_eq rfl)
  · rw [if_neg z]
    have : rfind? b #[10] 0 (min b.size pos.toNat) = lastIdx 10 ((codes b).take pos.toNat) := by
      unfold rfind?
      rw [show min b.size pos.toNat + 1 - (0 + (#[10] : Array UInt8).size) = min b.size pos.toNat from by simp]
      rw [brf b _ (by omega), tk]
    simp only [Option.bind_some, this]
    unfold nlLast
    cases lastIdx 10 ((codes b).take pos.toNat) with
    | none => exact .rule (.of_eq rfl)
    | some k => exact .of_eq rfl

namespace F
theorem slot_b_count : Slot "bytes" "count" "bytes.count" := .of (owner := "bytes") (n := "count") (by rw [typeLookup_type, builtinLookup_eq_fast]; kernel_rfl) (by decide +kernel) (by decide +kernel) (by decide +kernel)
  (by first | exact .inl (by decide +kernel) | exact .inr (by decide +kernel)) (by rw [isSubtype_type]; kernel_rfl)
theorem slot_b_rfind : Slot "bytes" "rfind" "bytes.rfind" := .of (owner := "bytes") (n := "rfind") (by rw [typeLookup_type, builtinLookup_eq_fast]; kernel_rfl) (by decide +kernel) (by decide +kernel) (by decide +kernel)
  (by first | exact .inl (by decide +kernel) | exact .inr (by decide +kernel)) (by rw [isSubtype_type]; kernel_rfl)
theorem entry_b_count : entryFor table "bytes.count" = some Builtin.«bytes.count» := entryFor_of_tree (by kernel_rfl)
theorem entry_b_rfind : entryFor table "bytes.rfind" = some Builtin.«bytes.rfind» := entryFor_of_tree (by kernel_rfl)
theorem args_b_count (a b c d : Value) : argsOk "bytes.count" ⟨[a, b, c, d], []⟩ := by unfold argsOk; kernel_rfl
theorem args_b_rfind (a b c d : Value) : argsOk "bytes.rfind" ⟨[a, b, c, d], []⟩ := by unfold argsOk; kernel_rfl
end F
section
variable {prog : Program} {w : World} {A : Around} {E : Value → Shared → Prop} {s : Shared} {b : Array UInt8} {x : Str} {t u v v' : Tok} {pos : Int} {Q : Value → Shared → Prop}
theorem bcount_call (h : 0 ≤ pos) (hq : Q (.int (nlCount (codes b) pos.toNat) s.toks) { s with toks := s.toks + 1 }) : wpAny (model prog w) A (call (.builtin "bytes.count") [.bytes b t, .bytes #[10] u, .int 0 v, .int pos v']) Q E s :=
  call_gives F.slot_b_count (by rfl) F.entry_b_count (F.args_b_count _ _ _ _) (bcount_nl b pos h t u v v') hq
theorem brfind_call (h : 0 ≤ pos) (hq : Q (.int (nlLast (codes b) pos.toNat) s.toks) { s with toks := s.toks + 1 }) : wpAny (model prog w) A (call (.builtin "bytes.rfind") [.bytes b t, .bytes #[10] u, .int 0 v, .int pos v']) Q E s :=
  call_gives F.slot_b_rfind (by rfl) F.entry_b_rfind (F.args_b_rfind _ _ _ _) (brfind_nl b pos h t u v v') hq
theorem nl_str : Str.ofString "\n" = ⟨#[10]⟩ := by decide +kernel
theorem scount_call' (h : 0 ≤ pos) (hq : Q (.int (nlCount x.cps.toList pos.toNat) s.toks) { s with toks := s.toks + 1 }) : wpAny (model prog w) A (call (.builtin "str.count") [.str x t, .str (Str.ofString "\n") u, .int 0 v, .int pos v']) Q E s := by
  rw [nl_str]
  exact scount_call (by rw [scount_nl x pos h]; exact hq)
theorem srfind_call' (h : 0 ≤ pos) (hq : Q (.int (nlLast x.cps.toList pos.toNat) s.toks) { s with toks := s.toks + 1 }) : wpAny (model prog w) A (call (.builtin "str.rfind") [.str x t, .str (Str.ofString "\n") u, .int 0 v, .int pos v']) Q E s := by
  rw [nl_str]
  exact srfind_call (by rw [srfind_nl x pos h]; exact hq)

theorem scount_n (h : 0 ≤ pos) (hq : ∀ n : Int, n = nlCount x.cps.toList pos.toNat → 0 ≤ n → n ≤ pos → Q (.int n s.toks) { s with toks := s.toks + 1 }) : wpAny (model prog w) A (call (.builtin "str.count") [.str x t, .str (Str.ofString "\n") u, .int 0 v, .int pos v']) Q E s :=
  scount_call' h (hq _ rfl (nlCount_bound _ _).1 (by have := (nlCount_bound x.cps.toList pos.toNat).2.2; omega))
theorem srfind_n (h : 0 ≤ pos) (hq : ∀ n : Int, n = nlLast x.cps.toList pos.toNat → -1 ≤ n → n < pos ∨ n = -1 → Q (.int n s.toks) { s with toks := s.toks + 1 }) : wpAny (model prog w) A (call (.builtin "str.rfind") [.str x t, .str (Str.ofString "\n") u, .int 0 v, .int pos v']) Q E s :=
  srfind_call' h (hq _ rfl (by have := nlLast_bound x.cps.toList pos.toNat; omega) (by have := nlLast_bound x.cps.toList pos.toNat; omega))
theorem bcount_n (h : 0 ≤ pos) (hq : ∀ n : Int, n = nlCount (codes b) pos.toNat → 0 ≤ n → n ≤ pos → Q (.int n s.toks) { s with toks := s.toks + 1 }) : wpAny (model prog w) A (call (.builtin "bytes.count") [.bytes b t, .bytes #[10] u, .int 0 v, .int pos v']) Q E s :=
  bcount_call h (hq _ rfl (nlCount_bound _ _).1 (by have := (nlCount_bound (codes b) pos.toNat).2.2; omega))
theorem brfind_n (h : 0 ≤ pos) (hq : ∀ n : Int, n = nlLast (codes b) pos.toNat → -1 ≤ n → n < pos ∨ n = -1 → Q (.int n s.toks) { s with toks := s.toks + 1 }) : wpAny (model prog w) A (call (.builtin "bytes.rfind") [.bytes b t, .bytes #[10] u, .int 0 v, .int pos v']) Q E s :=
  brfind_call h (hq _ rfl (by have := nlLast_bound (codes b) pos.toNat; omega) (by have := nlLast_bound (codes b) pos.toNat; omega))
end
end Mine
end
section
open PySem PySem.W PyProof.Rows PySem.Calls
set_option maxRecDepth 100000
set_option maxHeartbeats 4000000
namespace Mine
open Builtin Builtin.Str

/-- '%s at position %d', '%s (line %d, column %d)' -/
def words2 (msg : Str) (pos : Int) : Str := msg ++ Str.ofString " at position " ++ Str.ofString (toString pos)
def words3 (msg : Str) (line col : Int) : Str := msg ++ Str.ofString " (line " ++ Str.ofString (toString line) ++ Str.ofString ", column " ++ Str.ofString (toString col) ++ Str.ofString ")"

theorem fmt2 {b : Addr} {msg : Str} {pos : Int} {tm ti t : Tok} (hm : msg.length ≤ 1000000) (h0 : 0 ≤ pos) (h1 : pos < 10 ^ 10) (X' : Str) (hX : Str.ofString "%s at position %d" = X') :
    Meets («str.__mod__» ⟨[.str X' t, .ref b], []⟩) (fun _ R s => IsTup s.heap b #[.str msg tm, .int pos ti] ∧ ∀ t' k, R (.ok (.ret (.str (words2 msg pos) t'))) { s with toks := k }) := by
  have e : X' = ⟨#[37, 115, 32, 97, 116, 32, 112, 111, 115, 105, 116, 105, 111, 110, 32, 37, 100]⟩ := by rw [← hX]; decide +kernel
  subst e
  unfold words2
  k_dflt kpt_run
theorem fmt3 {b : Addr} {msg : Str} {line col : Int} {tm ti tj t : Tok} (hm : msg.length ≤ 1000000) (h0 : 0 ≤ line) (h1 : line < 10 ^ 10) (h2 : 0 ≤ col) (h3 : col < 10 ^ 10) (X' : Str) (hX : Str.ofString "%s (line %d, column %d)" = X') :
    Meets («str.__mod__» ⟨[.str X' t, .ref b], []⟩) (fun _ R s => IsTup s.heap b #[.str msg tm, .int line ti, .int col tj] ∧ ∀ t' k, R (.ok (.ret (.str (words3 msg line col) t'))) { s with toks := k }) := by
  have e : X' = ⟨#[37, 115, 32, 40, 108, 105, 110, 101, 32, 37, 100, 44, 32, 99, 111, 108, 117, 109, 110, 32, 37, 100, 41]⟩ := by rw [← hX]; decide +kernel
  subst e
  unfold words3
  k_dflt kpt_run
section
variable {prog : Program} {w : World} {A : Around} {E : Value → Shared → Prop} {s : Shared} {h₀ : Heap} {L b : Addr} {news : List (Addr × Obj)} {msg : Str} {pos line col : Int} {t tm ti tj : Tok} {n : Nat} {Q : Value → Shared → Prop}
theorem kfmt2 (N : News h₀ L s.heap news) (hb : (b, ({ cls := .type "tuple", data := .seq #[.str msg tm, .int pos ti] n } : Obj)) ∈ news) (hm : msg.length ≤ 1000000) (h0 : 0 ≤ pos) (h1 : pos < 10 ^ 10)
    (h : ∀ t' k, Q (.str (words2 msg pos) t') { s with toks := k }) : wpAny (model prog w) A (binaryOp .Mod (.str (Str.ofString "%s at position %d") t) (.ref b)) Q E s :=
  KPt.mod_tuple N hb rfl (fmt2 hm h0 h1 _ rfl) h
theorem kfmt3 (N : News h₀ L s.heap news) (hb : (b, ({ cls := .type "tuple", data := .seq #[.str msg tm, .int line ti, .int col tj] n } : Obj)) ∈ news) (hm : msg.length ≤ 1000000) (h0 : 0 ≤ line) (h1 : line < 10 ^ 10) (h2 : 0 ≤ col) (h3 : col < 10 ^ 10)
    (h : ∀ t' k, Q (.str (words3 msg line col) t') { s with toks := k }) : wpAny (model prog w) A (binaryOp .Mod (.str (Str.ofString "%s (line %d, column %d)") t) (.ref b)) Q E s :=
  KPt.mod_tuple N hb rfl (fmt3 hm h0 h1 h2 h3 _ rfl) h
end

theorem words2_len {msg : Str} {pos : Int} (h0 : 0 ≤ pos) (h1 : pos < 10 ^ 10) : (words2 msg pos).length ≤ msg.length + 24 := by
  unfold words2
  have h2 := toString_length_le (k := 10) h0 (by decide) h1
  have h3 : (Str.ofString " at position ").length = 13 := by decide +kernel
  rw [Str.length_append, Str.length_append]
  omega
theorem words3_len {msg : Str} {line col : Int} (h0 : 0 ≤ line) (h1 : line < 10 ^ 10) (h2 : 0 ≤ col) (h3 : col < 10 ^ 10) : (words3 msg line col).length ≤ msg.length + 40 := by
  unfold words3
  have e1 := toString_length_le (k := 10) h0 (by decide) h1
  have e2 := toString_length_le (k := 10) h2 (by decide) h3
  have e3 : (Str.ofString " (line ").length = 7 := by decide +kernel
  have e4 : (Str.ofString ", column ").length = 9 := by decide +kernel
  have e5 : (Str.ofString ")").length = 1 := by decide +kernel
  simp only [Str.length_append]
  omega

section
variable {prog : Program} {w : World} {M : Model} {A : Around} {E : Value → Shared → Prop} {s : Shared} {env : Env} {c : Code}
theorem execs_snoc (last : Stmt) : ∀ pre : List Stmt, execs (pre ++ [last]) env = (execs pre env >>= fun f => match f with | Flow.next => execs [last] env | f => pure f)
  | [] => by
    show execs [last] env = (pure Flow.next >>= _)
    rw [pure_bind]
  | st :: pre => by
    rw [List.cons_append, execs_cons, execs_cons, bind_assoc]
    congr 1
    funext f
    cases f with
    | next => exact execs_snoc last pre
    | _ => simp only [pure_bind]
/-- a goal at which the walk stands still -/
def Stop (P : Prop) : Prop := P
theorem wpAt_snoc {last : Stmt} {Q : Flow → Shared → Prop} {pre : List Stmt} (h : wpAny M A (execs pre env) (fun f s' => match f with | .next => Stop (_root_.PySem.wpAt M A c (execs [last] env) Q E s') | f => Q f s') E s) :
    _root_.PySem.wpAt M A c (execs (pre ++ [last]) env) Q E s := by
  intro Γ p hc hΓ
  rw [execs_snoc, Sem.wp_bind']
  refine Sem.wp_mono M Γ _ (fun f p' s' h' => ?_) (fun _ _ _ h' => h') _ _ (h Γ p hΓ)
  cases f <;> first | exact h' Γ p' hc hΓ | exact h'
end
end Mine
end
section
open PySem PySem.W PyProof.Rows PySem.Calls
set_option maxRecDepth 100000
set_option maxHeartbeats 2000000
namespace Mine
open Builtin Builtin.Bytes
section
variable {prog : Program} {w : World} {A : Around} {E : Value → Shared → Prop} {s : Shared} {b : Array UInt8} {x : Str} {t u : Tok} {Q : Value → Shared → Prop}
theorem str_in (h1 : 10 ∈ x.cps.toList → Q (.bool true) s) (h2 : 10 ∉ x.cps.toList → Q (.bool false) s) : wpAny (model prog w) A (compareOp .In (.str (Str.ofString "\n") u) (.str x t)) Q E s := by
  rw [nl_str]
  refine in_str ?_
  rw [StrLaws.found_one]
  by_cases q : 10 ∈ x.cps.toList
  · rw [decide_eq_true q]; exact h1 q
  · rw [decide_eq_false q]; exact h2 q
namespace F
theorem slot_b_in : Slot "bytes" "__contains__" "bytes.__contains__" := .of (owner := "bytes") (n := "__contains__") (by rw [typeLookup_type, builtinLookup_eq_fast]; kernel_rfl) (by decide +kernel) (by decide +kernel) (by decide +kernel)
  (by first | exact .inl (by decide +kernel) | exact .inr (by decide +kernel)) (by rw [isSubtype_type]; kernel_rfl)
theorem entry_b_in : entryFor table "bytes.__contains__" = some Builtin.«bytes.__contains__» := entryFor_of_tree (by kernel_rfl)
theorem args_b_in (a b : Value) : argsOk "bytes.__contains__" ⟨[a, b], []⟩ := by unfold argsOk; kernel_rfl
abbrev noIdx : String := toString "'" ++ toString ((Manifest.find? "bytes").elim "bytes" (·.tpName)) ++ toString "' object cannot be interpreted as an integer"
theorem idx_eq (c : Array UInt8) (u : Tok) : asIndex (.bytes c u) = raiseErrorMade "TypeError" noIdx := by kernel_rfl
theorem noIdx_len : (Str.ofString noIdx).length ≤ sizeLine := by decide +kernel
theorem buf_eq (id : String) (b : Array UInt8) (t : Tok) : buffer? id (.bytes b t) = pure (some b) := by kernel_rfl
end F
theorem find_one (b : Array UInt8) : (find? b #[10] 0 b.size).isSome = decide (10 ∈ codes b) := by
  have e : ∀ i ∈ ((List.range (b.size + 1 - (0 + (#[10] : Array UInt8).size))).map (· + 0)), (b.extract i (i + (#[10] : Array UInt8).size) == #[10]) = decide ((codes b)[i]? = some 10) := by
    intro i hi
    simp at hi
    exact ext1 b i (by omega)
  unfold find?
  rw [Bool.eq_iff_iff, List.find?_isSome, decide_eq_true_eq]
  constructor
  · rintro ⟨i, hi, hq⟩
    rw [e i hi, decide_eq_true_eq] at hq
    exact List.mem_of_getElem? hq
  · intro hm
    obtain ⟨i, hi, hq⟩ := List.mem_iff_getElem.mp hm
    have hi' : i < b.size := by rw [← codes_length]; exact hi
    refine ⟨i, by simp; omega, ?_⟩
    rw [e i (by simp; omega), decide_eq_true_eq]
    exact List.getElem?_eq_some_iff.mpr ⟨hi, hq⟩

theorem err_made {α : Type} {m : String} {Q : α → Shared → Prop} {E : Value → Shared → Prop} (hh : A.handled = none) (hm : (Str.ofString m).length ≤ sizeLine)
    (h : ∀ e h', s.heap.StaysIn h' → E e { s with heap := h', toks := s.toks + 1 }) : wpAny (model prog w) A (raiseErrorMade "TypeError" m : Sem α) Q E s := by
  unfold raiseErrorMade
  refine wpAny_bind (wpAny_mkStr ?_ hm)
  refine wpAny_bind (wpAny_newExc_plain plainExc_TypeError fun h' e hm => ?_)
  exact wpAny_raiseNew_none hh (h _ _ hm.keeps)

theorem bytes_in_run {Q : Fin → Shared → Prop} (hh : A.handled = none) (h : ∀ h' tk, s.heap.StaysIn h' → Q (.done (.ret (.bool (decide (10 ∈ codes b))))) { s with heap := h', toks := tk }) :
    wpAny (model prog w) A (Builtin.«bytes.__contains__» ⟨[.bytes b t, .bytes #[10] u], []⟩) Q E s := by
  show wpAny _ _ (containsIn "bytes.__contains__" (.bytes b t) (.bytes #[10] u) >>= fun r => ret (.bool r)) _ _ _
  unfold containsIn
  rw [F.idx_eq]
  refine wpAny_bind (wpAny_bind (wpAny_attempt (err_made hh F.noIdx_len fun e h' hk => ?_)))
  rw [F.buf_eq, F.buf_eq]
  refine wpAny_bind (wpAny_pure ?_)
  refine wpAny_bind (wpAny_pure ?_)
  refine wpAny_bind (wpAny_rule (wpAny_pure ?_))
  rw [find_one]
  exact wpAny_pure (h _ _ hk)

theorem bytes_in_code {R : Result → Shared → Prop} {id : String} (S : Slot "bytes" "__contains__" id) (he : entryFor table id = some Builtin.«bytes.__contains__») (ha : ∀ a b, argsOk id ⟨[a, b], []⟩) (hh : A.handled = none)
    (h : ∀ h' tk, s.heap.StaysIn h' → R (.ok (.ret (.bool (decide (10 ∈ codes b))))) { s with heap := h', toks := tk }) :
    codeAny (model prog w) A (.call (.builtin id) ⟨[.bytes b t, .bytes #[10] u], []⟩) R s :=
  codeAny_call_builtin S.plain he (S.check _ _ _ _ _ _ _ _ (by rfl) (ha _ _) (bytes_in_run hh h))

theorem bytes_in (hh : A.handled = none) (h1 : 10 ∈ codes b → ∀ h' tk, s.heap.StaysIn h' → Q (.bool true) { s with heap := h', toks := tk }) (h2 : 10 ∉ codes b → ∀ h' tk, s.heap.StaysIn h' → Q (.bool false) { s with heap := h', toks := tk }) :
    wpAny (model prog w) A (compareOp .In (.bytes #[10] u) (.bytes b t)) Q E s := by
  show wpAny _ A (do return .bool (← contains (.bytes b t) (.bytes #[10] u))) Q E s
  refine wpAny_bind (wpAny_contains_slot (by rfl) F.slot_b_in (wpAny_call (bytes_in_code F.slot_b_in F.entry_b_in F.args_b_in hh fun h' tk hk => ?_)))
  refine wpAny_truthy_bool (wpAny_pure ?_)
  by_cases q : 10 ∈ codes b
  · rw [decide_eq_true q]; exact h1 q h' tk hk
  · rw [decide_eq_false q]; exact h2 q h' tk hk

theorem kbytes_in {h₀ : Heap} {L : Addr} {m : Str → Option Value} {news : List (Addr × Obj)} (F : Fr h₀ L s.heap m) (N : News h₀ L s.heap news) (hh : A.handled = none)
    (h1 : 10 ∈ codes b → ∀ h' tk, Fr h₀ L h' m → News h₀ L h' news → Q (.bool true) { s with heap := h', toks := tk }) (h2 : 10 ∉ codes b → ∀ h' tk, Fr h₀ L h' m → News h₀ L h' news → Q (.bool false) { s with heap := h', toks := tk }) :
    wpAny (model prog w) A (compareOp .In (.bytes #[10] u) (.bytes b t)) Q E s :=
  bytes_in hh (fun q h' tk hk => h1 q h' tk (F.grownK hk) fun p hp => ⟨hk _ _ (N p hp).1, (N p hp).2⟩) (fun q h' tk hk => h2 q h' tk (F.grownK hk) fun p hp => ⟨hk _ _ (N p hp).1, (N p hp).2⟩)
end
end Mine
end
section
open PySem PySem.W PyProof.Rows PySem.Calls
set_option maxRecDepth 100000
set_option maxHeartbeats 2000000
namespace Mine
theorem F.type_b_count : typeOf (.builtin "bytes.count") = pure (.type "method_descriptor") := by show builtinType _ = _; rw [builtinType_eq_fast]; kernel_rfl
theorem F.type_b_rfind : typeOf (.builtin "bytes.rfind") = pure (.type "method_descriptor") := by show builtinType _ = _; rw [builtinType_eq_fast]; kernel_rfl
section
variable {A : Around} {E : Value → Shared → Prop} {s : Shared} {t : Tok} {M : Model} {b : Array UInt8} {pl : Sem Bool} {Q : Value × List Value → Shared → Prop}
theorem bm_count (h : Q (.builtin "bytes.count", [.bytes b t]) s) : wpAny M A (getMethod (.bytes b t) "count" pl) Q E s := by
  with_reducible exact KBd.method_of (.bytes b t) (typeIs_bytes _ _ _) F.slot_b_count F.type_b_count KBd.noRef h
theorem bm_rfind (h : Q (.builtin "bytes.rfind", [.bytes b t]) s) : wpAny M A (getMethod (.bytes b t) "rfind" pl) Q E s := by
  with_reducible exact KBd.method_of (.bytes b t) (typeIs_bytes _ _ _) F.slot_b_rfind F.type_b_rfind KBd.noRef h
end
end Mine
end
section
open PySem PySem.W PyProof.Rows
set_option maxRecDepth 100000
set_option maxHeartbeats 0
namespace Mine
open_top hd for PySem.Challenge.rw_dn0146_03
end Mine
namespace Mine
theorem walk_plain : True := by
  w_top off
  trivial
end Mine
end
section
open PySem PySem.W PyProof.Rows PySem.Calls
set_option maxRecDepth 100000
set_option maxHeartbeats 0
namespace Mine

local macro_rules | `(tactic| k_inst) => `(tactic| exact instAt_exc (News.get (by k_asm) (by k_mem)) (News.get (by k_asm) (by k_mem)))
local macro_rules | `(tactic| walk_at "setAttr ref") => `(tactic| (k_here; k_dflt (first
  | (refine' kset0 ?k1 ?k2 ?k3 ?k4 ?k5 ?k6 ?k7 ?k8 ?k9 ?_; (case k1 => k_asm); (case k2 => k_asm); (case k3 => k_asm); (case k9 => k_updF); (case k4 => k_is); (case k5 => kernel_rfl); (case k6 => k_is); (case k7 => k_is); (case k8 => (rw [typeLookup_type, builtinLookup_eq_fast]; kernel_rfl)); k_whole; intro d' o' h' tk' F' N' At' l1; (try k_lt l1); (try dsimp only at N'); (try dsimp only at At'); (try k_sweep))
  | (refine' kset (ns := ["msg", "pattern", "pos", "lineno", "colno"]) ?k1 ?k2 ?k3 ?k4 ?k5 ?k6 ?k7 ?k8 ?k9 ?k10 ?k11 ?k12 ?k13 ?_; (case k1 => k_asm); (case k2 => k_asm); (case k3 => k_asm); (case k9 => k_mem); (case k4 => k_is); (case k5 => kernel_rfl); (case k6 => k_is); (case k7 => k_is); (case k8 => (rw [typeLookup_type, builtinLookup_eq_fast]; kernel_rfl)); (case k10 => k_updF); (case k11 => assumption); (case k12 => (intro y hy; by_cases e1 : y = "msg"; (simp [e1]); by_cases e2 : y = "pattern"; (simp [e2]); by_cases e3 : y = "pos"; (simp [e3]); by_cases e4 : y = "lineno"; (simp [e4]); by_cases e5 : y = "colno"; (simp [e5]); simp [e1, e2, e3, e4, e5] at hy)); (case k13 => decide); k_whole; intro o' h' tk' F' N' At'; (try dsimp only at N'); (try dsimp only at At'); (try k_sweep)))))
local macro_rules | `(tactic| walk_at "getAttr ref") => `(tactic| (k_here; k_dflt (refine' kget ?k1 ?k2 ?k3 ?k4 ?k5 ?k6 ?k7 ?k8 ?k9 ?k10 ?k11 ?k12 ?k13 ?_; (case k1 => k_asm); (case k2 => k_asm); (case k9 => exact News.get (by k_asm) (by k_mem)); (case k10 => exact News.get (by k_asm) (by k_mem)); (case k3 => k_is); (case k4 => kernel_rfl); (case k5 => k_is); (case k6 => k_is); (case k7 => k_is); (case k8 => (rw [typeLookup_type, builtinLookup_eq_fast]; kernel_rfl)); (case k11 => assumption); (case k12 => rfl); (case k13 => rfl); k_whole)))
local macro_rules | `(tactic| walk_at "getMethod ref") => `(tactic| (k_here; k_dflt (refine' ksup_method ?k1 ?k2 ?k3 ?k4 ?k5 ?k6 ?k7 ?k8 ?k9 ?_; (case k1 => k_asm); (case k2 => k_asm); (case k3 => k_asm); (case k6 => k_mem); (case k7 => k_mem); (case k4 => k_is); (case k5 => k_is); (case k8 => rfl); (case k9 => rfl); k_whole; intro mw' h' F' N' l1; (try k_lt l1); (try k_sweep))))
local macro_rules | `(tactic| walk_at "callWith ref") => `(tactic| (k_here; k_dflt (refine' callWith_Mw ?k1 ?k2 ?_; (case k1 => k_asm); (case k2 => k_mem); k_whole)))
local macro_rules | `(tactic| walk_at "And") => `(tactic| ((with_reducible show MwP _ _ _ ∧ _); refine ⟨mwP (by k_asm) (by k_mem), ?_⟩; try dsimp only [List.nil_append, List.cons_append]))
local macro_rules | `(tactic| walk_at "call ref") => `(tactic| (k_here; k_dflt (refine' kmw_call ?k1 ?k2 ?k3 ?k4 ?k5 ?k6 ?k7 ?_; (case k1 => k_asm); (case k2 => k_asm); (case k3 => k_asm); (case k5 => k_mem); (case k6 => k_updF); (case k4 => k_is); (case k7 => rfl); k_whole; intro t' h' F' N' l1; (try k_lt l1); (try dsimp only at N'); (try k_sweep))))

local macro_rules | `(tactic| walk_at "call builtin:str.count") => `(tactic| (k_here; k_dflt (refine' scount_n ?k1 ?_; (case k1 => assumption); k_whole; intro nc hnc hnc0 hnc1)))
local macro_rules | `(tactic| walk_at "call builtin:str.rfind") => `(tactic| (k_here; k_dflt (refine' srfind_n ?k1 ?_; (case k1 => assumption); k_whole; intro nr hnr hnr0 hnr1)))
local macro_rules | `(tactic| walk_at "call builtin:bytes.count") => `(tactic| (k_here; k_dflt (refine' bcount_n ?k1 ?_; (case k1 => assumption); k_whole; intro nc hnc hnc0 hnc1)))
local macro_rules | `(tactic| walk_at "call builtin:bytes.rfind") => `(tactic| (k_here; k_dflt (refine' brfind_n ?k1 ?_; (case k1 => assumption); k_whole; intro nr hnr hnr0 hnr1)))

local macro_rules | `(tactic| walk_at "binaryOp Mod str ref") => `(tactic| (k_here; k_dflt (first
  | ((with_reducible show wpAny _ _ (binaryOp Operator.Mod (Value.str (PySem.Str.ofString "%s at position %d") _) _) _ _ _); refine' kfmt2 ?k1 ?k2 ?k3 ?k4 ?k5 ?_; (case k1 => k_asm); (case k2 => k_mem); (case k3 => omega); (case k4 => omega); (case k5 => omega); k_whole; intro tf' kf')
  | ((with_reducible show wpAny _ _ (binaryOp Operator.Mod (Value.str (PySem.Str.ofString "%s (line %d, column %d)") _) _) _ _ _); refine' kfmt3 ?k1 ?k2 ?k3 ?k4 ?k5 ?k6 ?k7 ?_; (case k1 => k_asm); (case k2 => k_mem); (case k3 => (refine Nat.le_trans (words2_len (by omega) (by omega)) ?_; omega)); (case k4 => omega); (case k5 => omega); (case k6 => omega); (case k7 => omega); k_whole; intro tf' kf'))))

local macro_rules | `(tactic| walk_at "compareOp In str str") => `(tactic| (k_here; k_dflt (refine' str_in ?_ ?_ <;> intro hin')))
local macro_rules | `(tactic| walk_at "compareOp In bytes bytes") => `(tactic| (k_here; k_dflt (refine' kbytes_in ?k1 ?k2 ?k3 ?_ ?_; (case k1 => k_asm); (case k2 => k_asm); (case k3 => rfl)) <;> (intro hin' h' tk' F' N'; (try k_sweep))))

theorem cls34 (P : Params) : ∃ nm q bs sn sub ab col dd k0 k1 k2 k3 k5, (hd.heap_39 P).lookup 34 = some (excClassObj nm q 34 33 bs excBm true sn sub ab col dd k0 k1 k2 k3 k5 "Exception.__new__") :=
  ⟨_, _, _, _, _, _, _, _, _, _, _, _, _, rfl⟩
theorem nsOk33 (P : Params) : nsOkIn (hd.heap_39 P) 33 = true := by kernel_rfl
theorem init31 (P : Params) : ∃ o, (hd.heap_39 P).lookup 31 = some o ∧ o.cls = .type "function" := ⟨_, rfl, rfl⟩


abbrev initScope : Scope := { kind := ScopeKind.function, names := [(Str.ofString "self", NameKind.local), (Str.ofString "msg", NameKind.local), (Str.ofString "pattern", NameKind.local), (Str.ofString "pos", NameKind.local), (Str.ofString "newline", NameKind.local), (Str.ofString "__class__", NameKind.free), (Str.ofString "isinstance", NameKind.globalImplicit), (Str.ofString "str", NameKind.globalImplicit), (Str.ofString "super", NameKind.globalImplicit)], isGenerator := false, isCoroutine := false }
abbrev superStmt : Stmt := Stmt.Expr ((((Expr.Name (Str.ofString "super") { line := 21, col := 8, endLine := 21, endCol := 13 }).Call [] [] { line := 21, col := 8, endLine := 21, endCol := 15 }).Attribute (Str.ofString "__init__") { line := 21, col := 8, endLine := 21, endCol := 24 }).Call [Expr.Name (Str.ofString "msg") { line := 21, col := 25, endLine := 21, endCol := 28 }] [] { line := 21, col := 8, endLine := 21, endCol := 29 }) { line := 21, col := 8, endLine := 21, endCol := 29 }
abbrev excD (C dx t : Addr) : Obj := { cls := .ref C, dict := some dx, data := .fields #[.ref t, .none, .none, .none, .bool false, .none] }

theorem sub3 {hb h : Heap} {L t mw so dx e : Addr} {a b c d o : Obj} (N : News hb L h [(t, a), (mw, b), (so, c), (dx, d), (e, o)]) : News hb L h [(t, a), (dx, d), (e, o)] := by
  intro p hp
  rcases List.mem_cons.mp hp with rfl | hp
  · exact N _ (.head _)
  rcases List.mem_cons.mp hp with rfl | hp
  · exact N _ (.tail _ (.tail _ (.tail _ (.head _))))
  rcases List.mem_cons.mp hp with rfl | hp
  · exact N _ (.tail _ (.tail _ (.tail _ (.tail _ (.head _)))))
  · cases hp
theorem super_tail {w : World} {A : Around} {E : Value → Shared → Prop} {s : Shared} {hb : Heap} {L' dx e t0 : Addr} {od : Obj} {m mg mb : Str → Option Value} {mean : ExcName → Option Value} {mm : Str} {tmm : Tok} {body : List Stmt} {Q : Flow → Shared → Prop} {q : Str}
    (F : Fr hb L' s.heap (fun y => if y = Str.ofString "self" then some (.ref e) else if y = Str.ofString "msg" then some (.str mm tmm) else m y)) (N : News hb L' s.heap [(dx, od), (e, excD 34 dx t0)]) (hne : dx ≠ e) (X : (hd.heap_39 w.params).In hb) (T : Top hd.view_39 (looseW hd.view_39 [Str.ofString "PatternError"]) mean mg mb hb)
    (ret : ∀ t h' tk, Fr hb L' h' (fun y => if y = Str.ofString "self" then some (.ref e) else if y = Str.ofString "msg" then some (.str mm tmm) else m y) → News hb L' h' [(t, tupOf [.str mm tmm]), (dx, od), (e, excD 34 dx t)] → Stop (Q .next { s with heap := h', toks := tk })) :
    _root_.PySem.wpAt (model PySem.Challenge.rw_dn0146_03.row.prog w) A (.func body (ksEnv q initScope L' 31 (.ref 30) 18)) (execs [superStmt] (ksEnv q initScope L' 31 (.ref 30) 18)) Q E s := by
  revert X; k_fill; intro X
  refine ks_wpAt_execs_cons ?_
  refine ks_wpAt_Expr_any ?_
  refine ks_wpAt_MethodCall ?_
  have I : InstAt s.heap e (excD 34 dx t0) 34 (some od) := instAt_exc (News.get N (.tail _ (.head _))) (News.get N (.head _))
  k_dflt (refine ks_node F X N T (by k_is) (by rfl) (by rfl) I (by k_is) (by rfl) (by first | rfl | decide +kernel) (by k_is) (by k_is) (by k_is) (by k_is) (by decide) (by rfl) (by rfl) (by rfl) (by rfl) (by decide +kernel) (by first | boot_by_name | rfl | kernel_rfl) ?_)
  intro so' h' F' N' l1
  k_lt l1
  k_steps
  all_goals (try exact mwP (by k_asm) (by k_mem))
  rename News _ _ _ _ => NN
  exact ret _ _ _ (by k_asm) (sub3 NN)

theorem super_tail' {w : World} {A : Around} {E : Value → Shared → Prop} {s : Shared} {hb : Heap} {L' dx e t0 : Addr} {od : Obj} {m mg mb : Str → Option Value} {mean : ExcName → Option Value} {mm : Str} {tmm : Tok} {body : List Stmt} {Q : Flow → Shared → Prop} {q : Str}
    (F : Fr hb L' s.heap m) (hs : m (Str.ofString "self") = some (.ref e)) (hm : m (Str.ofString "msg") = some (.str mm tmm)) (N : News hb L' s.heap [(dx, od), (e, excD 34 dx t0)]) (hne : dx ≠ e) (X : (hd.heap_39 w.params).In hb) (T : Top hd.view_39 (looseW hd.view_39 [Str.ofString "PatternError"]) mean mg mb hb)
    (ret : ∀ t h' tk, hb.StaysIn h' → News hb L' h' [(t, tupOf [.str mm tmm]), (dx, od), (e, excD 34 dx t)] → Stop (Q .next { s with heap := h', toks := tk })) :
    _root_.PySem.wpAt (model PySem.Challenge.rw_dn0146_03.row.prog w) A (.func body (ksEnv q initScope L' 31 (.ref 30) 18)) (execs [superStmt] (ksEnv q initScope L' 31 (.ref 30) 18)) Q E s := by
  have e1 : (fun y => if y = Str.ofString "self" then some (.ref e) else if y = Str.ofString "msg" then some (.str mm tmm) else m y) = m := by
    funext y
    by_cases h1 : y = Str.ofString "self"
    · rw [if_pos h1, h1, hs]
    · rw [if_neg h1]
      by_cases h2 : y = Str.ofString "msg"
      · rw [if_pos h2, h2, hm]
      · rw [if_neg h2]
  exact super_tail (m := m) (by rw [e1]; exact F) N hne X T fun t h' tk F' N' => ret t h' tk F'.keep N'

theorem sub2a {hb h : Heap} {L D D1 dx e t0 : Addr} {a b d o c : Obj} (N : News hb L h [(D, a), (D1, b), (dx, d), (e, o), (t0, c)]) : News hb L h [(dx, d), (e, o)] := by
  intro p hp
  rcases List.mem_cons.mp hp with rfl | hp
  · exact N _ (.tail _ (.tail _ (.head _)))
  rcases List.mem_cons.mp hp with rfl | hp
  · exact N _ (.tail _ (.tail _ (.tail _ (.head _))))
  · cases hp
theorem sub2b {hb h : Heap} {L D dx e t0 : Addr} {a d o c : Obj} (N : News hb L h [(D, a), (dx, d), (e, o), (t0, c)]) : News hb L h [(dx, d), (e, o)] := by
  intro p hp
  rcases List.mem_cons.mp hp with rfl | hp
  · exact N _ (.tail _ (.head _))
  rcases List.mem_cons.mp hp with rfl | hp
  · exact N _ (.tail _ (.tail _ (.head _)))
  · cases hp
theorem sub2c {hb h : Heap} {L dx e t0 : Addr} {d o c : Obj} (N : News hb L h [(dx, d), (e, o), (t0, c)]) : News hb L h [(dx, d), (e, o)] := by
  intro p hp
  rcases List.mem_cons.mp hp with rfl | hp
  · exact N _ (.head _)
  rcases List.mem_cons.mp hp with rfl | hp
  · exact N _ (.tail _ (.head _))
  · cases hp

/-- the words of the error -/
def peWords (msg : Str) (l : List Nat) (pos : Int) : Str :=
  if 10 ∈ l then words3 (words2 msg pos) (nlCount l pos.toNat + 1) (pos - nlLast l pos.toNat) else words2 msg pos
abbrev freshVs (t : Addr) : Array Value := #[.ref t, .none, .none, .none, .bool false, .none]
/-- a new exception, its attributes and its one argument -/
def ExcNew (h h' : Heap) (C e : Addr) (msg pat pos line col : Value) (words : Str) : Prop :=
  ∃ dx od mA t tw, h'.get? e = some ⟨.ref C, some dx, .fields (freshVs t), #[]⟩ ∧ h'.get? dx = some od ∧ h'.get? t = some (tupOf [.str words tw]) ∧ h.get? e = none ∧ h.get? dx = none ∧ h.get? t = none ∧
    AttrObj od mA ∧ mA "msg" = some msg ∧ mA "pattern" = some pat ∧ mA "pos" = some pos ∧ mA "lineno" = some line ∧ mA "colno" = some col
theorem pe_str {w : World} {dp un : Nat} {gd : Option (List Code)} {cn : Str} {cs : Scope} {a : Addr} {ccd : Value} {cl : List (Str × Addr)} {outer : List Env} {A₀ : Around} {base h₀ : Heap} {L : Addr} {m : Str → Option Value} {s : Shared} {Q E : Value → Shared → Prop}
  {mean : ExcName → Option Value} {mg mb : Str → Option Value} {msg pat : Str} {tm tp ti : Tok} {pos : Int}
  (B : Below A₀ base outer h₀) (F : Fr h₀ L s.heap m) (X : (hd.heap_39 w.params).In h₀) (T : Top hd.view_39 (looseW hd.view_39 [Str.ofString "PatternError"]) mean mg mb h₀) (hk : cs.kind = .function)
  (hdp : dp + 3 < recursionLimit) (hun : un + 20 < cLine) (hpos : 0 ≤ pos) (hpl : pos < 1000) (hlen : pat.length < 100000) (hml : msg.length < 100000)
  (ret : ∀ (e : Addr) (h' : Heap) (tk : Nat) (l c : Tok), s.heap.StaysIn h' → ExcNew s.heap h' 34 e (.str msg tm) (.str pat tp) (.int pos ti) (.int (nlCount pat.cps.toList pos.toNat + 1) l) (.int (pos - nlLast pat.cps.toList pos.toNat) c) (peWords msg pat.cps.toList pos) →
    Q (.ref e) { s with heap := h', toks := tk }) :
  wpAny (model PySem.Challenge.rw_dn0146_03.row.prog w) (ktrTop dp un gd cn cs L a ccd cl outer) (call (.ref 34) [.str msg tm, .str pat tp, .int pos ti]) Q E s := by
  revert X; k_fill; intro X
  have Xs := X.keeps F.keep
  obtain ⟨_, BG, _, _⟩ := groundX (A := ktrTop dp un gd cn cs L a ccd cl outer) (R := fun _ _ => True) (env := envX cn cs L a ccd cl) B F News.nil rfl rfl hk
  have Ts := T.keeps F.keep
  obtain ⟨nm, q, bs, sn, sub, ab, col, dd, k0, k1, k2, k3, k5, hk34⟩ := cls34 w.params
  obtain ⟨oI, hI, hIc⟩ := init31 w.params
  have hok := nsOk33 w.params
  have hC := Xs _ _ hk34
  have hN : s.heap.Ns 33 (s.heap.nsMap 33) := .of_isNs (isNs_of_in Xs hok)
  have hNi : s.heap.nsMap 33 "__init__" = some (.ref 31) := by
    obtain ⟨o, es, ep, ho, hd, _, hf⟩ := hN
    rw [← hf]
    have := Xs 33 _ rfl
    rw [ho] at this
    cases this
    cases hd
    rfl
  obtain ⟨hp, g, d, t, os⟩ := s
  dsimp only at *
  refine exc_make PySem.F.excBase_Exception (fI := 31) hC hN hNi (Xs _ _ hI) hIc (Nat.le_of_ble_eq_true rfl) ?_
  refine wpAny_call ?_
  have g1 : ((hp.push (tupOf [Value.str msg tm, Value.str pat tp, Value.int pos ti])).push (excO 34 hp.objs.size)).get? (hp.objs.size + 1) = some (excO 34 hp.objs.size) := by heap_get
  have g2 : ((hp.push (tupOf [Value.str msg tm, Value.str pat tp, Value.int pos ti])).push (excO 34 hp.objs.size)).get? hp.objs.size = some (tupOf [Value.str msg tm, Value.str pat tp, Value.int pos ti]) := Heap.get?_push_of_some _ (Heap.get?_push_at rfl rfl)
  have g3 : hp.StaysIn ((hp.push (tupOf [Value.str msg tm, Value.str pat tp, Value.int pos ti])).push (excO 34 hp.objs.size)) := fun b o e => Heap.get?_push_of_some _ (Heap.get?_push_of_some _ e)
  have g4 : hp.objs.size ≤ ((hp.push (tupOf [Value.str msg tm, Value.str pat tp, Value.int pos ti])).push (excO 34 hp.objs.size)).objs.size := by rw [Heap.size_push, Heap.size_push]; omega
  have g5 : hp.get? (hp.objs.size + 1) = none := Heap.get?_none_of_le (Nat.le_succ _)
  have g6 : hp.get? hp.objs.size = none := Heap.get?_none_of_le (Nat.le_refl _)
  generalize ((hp.push (tupOf [Value.str msg tm, Value.str pat tp, Value.int pos ti])).push (excO 34 hp.objs.size)) = hs at *
  have g7 : hp.objs.size < hp.objs.size + 1 := Nat.lt_succ_self _
  generalize hp.objs.size + 1 = e at *
  have BG' : Below (ktrTop dp un gd cn cs L a ccd cl outer) base (envX cn cs L a ccd cl :: outer) hp := BG
  clear BG
  have g8 := g4
  generalize ht0 : hp.objs.size = t0 at g1 g2 g5 g6 g7
  k_dflt (refine' enter_super (hb := hp) (news := [(e, excO 34 t0), (t0, tupOf [Value.str msg tm, Value.str pat tp, Value.int pos ti])]) ?k1 ?k2 ?k3 ?k4 ?k5 ?k6 ?k7 ?k8 ?k9 ?k10 ?_ ?c1 ?c2 ?c3 ?c4; (case k1 => exact g3); (case k2 => exact g4); (case k3 => exact Xs); (case k4 => exact Ts); (case k5 => (intro p hp; rcases List.mem_cons.mp hp with rfl | hp; exact ⟨g1, g5⟩; rcases List.mem_cons.mp hp with rfl | hp; exact ⟨g2, g6⟩; cases hp)); (case k6 => k_is); (case k7 => k_is); (case k8 => ktr_room); (case k9 => exact binds_K (binds := [(Str.ofString "self", Value.ref e), (Str.ofString "msg", Value.str msg tm), (Str.ofString "pattern", Value.str pat tp), (Str.ofString "pos", Value.int pos ti)]) (Xs.keeps g3) rfl (by k_is) rfl rfl rfl); (case k10 => exact locs rfl); (case c1 => decide); (case c2 => exact rfl); (case c3 => exact rfl); (case c4 => exact rfl); intro L' h' F' N' l1; (try k_lt l1); (try dsimp only))
  refine wpAt_snoc (pre := [_, _, _, _]) ?_
  k_steps
  all_goals (show Stop _; unfold Stop)
  all_goals (rename Fr _ _ _ _ => FF; rename News _ _ _ _ => NN; rename AttrObj _ _ => AA)
  all_goals subst_vars
  · refine super_tail' FF rfl rfl (sub2a NN) (by k_ne) Xs Ts fun t9 h9 tk9 st9 N9 => ?_
    exact ⟨rfl, ret e h9 tk9 _ _ st9 ⟨_, _, _, _, _, (N9 _ (.tail _ (.tail _ (.head _)))).1, (N9 _ (.tail _ (.head _))).1, (by unfold peWords; rw [if_pos (by assumption)]; exact (N9 _ (.head _)).1), (N9 _ (.tail _ (.tail _ (.head _)))).2.2, (N9 _ (.tail _ (.head _))).2.2, (N9 _ (.head _)).2.2, AA, rfl, rfl, rfl, rfl, rfl⟩⟩
  · refine super_tail' FF rfl rfl (sub2b NN) (by k_ne) Xs Ts fun t9 h9 tk9 st9 N9 => ?_
    exact ⟨rfl, ret e h9 tk9 _ _ st9 ⟨_, _, _, _, _, (N9 _ (.tail _ (.tail _ (.head _)))).1, (N9 _ (.tail _ (.head _))).1, (by unfold peWords; rw [if_neg (by assumption)]; exact (N9 _ (.head _)).1), (N9 _ (.tail _ (.tail _ (.head _)))).2.2, (N9 _ (.tail _ (.head _))).2.2, (N9 _ (.head _)).2.2, AA, rfl, rfl, rfl, rfl, rfl⟩⟩
end Mine
end
section
local macro_rules | `(tactic| walk_at "pad") => `(tactic| fail "pad")
local macro_rules | `(tactic| walk_at "pad") => `(tactic| fail "pad")
local macro_rules | `(tactic| walk_at "pad") => `(tactic| fail "pad")
local macro_rules | `(tactic| walk_at "pad") => `(tactic| fail "pad")
local macro_rules | `(tactic| walk_at "pad") => `(tactic| fail "pad")
local macro_rules | `(tactic| walk_at "pad") => `(tactic| fail "pad")
local macro_rules | `(tactic| walk_at "pad") => `(tactic| fail "pad")
local macro_rules | `(tactic| walk_at "pad") => `(tactic| fail "pad")
local macro_rules | `(tactic| walk_at "pad") => `(tactic| fail "pad")
local macro_rules | `(tactic| walk_at "pad") => `(tactic| fail "pad")
local macro_rules | `(tactic| walk_at "pad") => `(tactic| fail "pad")
local macro_rules | `(tactic| walk_at "pad") => `(tactic| fail "pad")
local macro_rules | `(tactic| walk_at "pad") => `(tactic| fail "pad")
open PySem PySem.W PyProof.Rows PySem.Calls
set_option maxRecDepth 100000
set_option maxHeartbeats 0
namespace Mine

local macro_rules | `(tactic| k_inst) => `(tactic| exact instAt_exc (News.get (by k_asm) (by k_mem)) (News.get (by k_asm) (by k_mem)))
local macro_rules | `(tactic| walk_at "setAttr ref") => `(tactic| (k_here; k_dflt (first
  | (refine' kset0 ?k1 ?k2 ?k3 ?k4 ?k5 ?k6 ?k7 ?k8 ?k9 ?_; (case k1 => k_asm); (case k2 => k_asm); (case k3 => k_asm); (case k9 => k_updF); (case k4 => k_is); (case k5 => kernel_rfl); (case k6 => k_is); (case k7 => k_is); (case k8 => (rw [typeLookup_type, builtinLookup_eq_fast]; kernel_rfl)); k_whole; intro d' o' h' tk' F' N' At' l1; (try k_lt l1); (try dsimp only at N'); (try dsimp only at At'); (try k_sweep))
  | (refine' kset (ns := ["msg", "pattern", "pos", "lineno", "colno"]) ?k1 ?k2 ?k3 ?k4 ?k5 ?k6 ?k7 ?k8 ?k9 ?k10 ?k11 ?k12 ?k13 ?_; (case k1 => k_asm); (case k2 => k_asm); (case k3 => k_asm); (case k9 => k_mem); (case k4 => k_is); (case k5 => kernel_rfl); (case k6 => k_is); (case k7 => k_is); (case k8 => (rw [typeLookup_type, builtinLookup_eq_fast]; kernel_rfl)); (case k10 => k_updF); (case k11 => assumption); (case k12 => (intro y hy; by_cases e1 : y = "msg"; (simp [e1]); by_cases e2 : y = "pattern"; (simp [e2]); by_cases e3 : y = "pos"; (simp [e3]); by_cases e4 : y = "lineno"; (simp [e4]); by_cases e5 : y = "colno"; (simp [e5]); simp [e1, e2, e3, e4, e5] at hy)); (case k13 => decide); k_whole; intro o' h' tk' F' N' At'; (try dsimp only at N'); (try dsimp only at At'); (try k_sweep)))))
local macro_rules | `(tactic| walk_at "getAttr ref") => `(tactic| (k_here; k_dflt (refine' kget ?k1 ?k2 ?k3 ?k4 ?k5 ?k6 ?k7 ?k8 ?k9 ?k10 ?k11 ?k12 ?k13 ?_; (case k1 => k_asm); (case k2 => k_asm); (case k9 => exact News.get (by k_asm) (by k_mem)); (case k10 => exact News.get (by k_asm) (by k_mem)); (case k3 => k_is); (case k4 => kernel_rfl); (case k5 => k_is); (case k6 => k_is); (case k7 => k_is); (case k8 => (rw [typeLookup_type, builtinLookup_eq_fast]; kernel_rfl)); (case k11 => assumption); (case k12 => rfl); (case k13 => rfl); k_whole)))
local macro_rules | `(tactic| walk_at "getMethod ref") => `(tactic| (k_here; k_dflt (refine' ksup_method ?k1 ?k2 ?k3 ?k4 ?k5 ?k6 ?k7 ?k8 ?k9 ?_; (case k1 => k_asm); (case k2 => k_asm); (case k3 => k_asm); (case k6 => k_mem); (case k7 => k_mem); (case k4 => k_is); (case k5 => k_is); (case k8 => rfl); (case k9 => rfl); k_whole; intro mw' h' F' N' l1; (try k_lt l1); (try k_sweep))))
local macro_rules | `(tactic| walk_at "callWith ref") => `(tactic| (k_here; k_dflt (refine' callWith_Mw ?k1 ?k2 ?_; (case k1 => k_asm); (case k2 => k_mem); k_whole)))
local macro_rules | `(tactic| walk_at "And") => `(tactic| ((with_reducible show MwP _ _ _ ∧ _); refine ⟨mwP (by k_asm) (by k_mem), ?_⟩; try dsimp only [List.nil_append, List.cons_append]))
local macro_rules | `(tactic| walk_at "call ref") => `(tactic| (k_here; k_dflt (refine' kmw_call ?k1 ?k2 ?k3 ?k4 ?k5 ?k6 ?k7 ?_; (case k1 => k_asm); (case k2 => k_asm); (case k3 => k_asm); (case k5 => k_mem); (case k6 => k_updF); (case k4 => k_is); (case k7 => rfl); k_whole; intro t' h' F' N' l1; (try k_lt l1); (try dsimp only at N'); (try k_sweep))))

local macro_rules | `(tactic| walk_at "call builtin:str.count") => `(tactic| (k_here; k_dflt (refine' scount_n ?k1 ?_; (case k1 => assumption); k_whole; intro nc hnc hnc0 hnc1)))
local macro_rules | `(tactic| walk_at "call builtin:str.rfind") => `(tactic| (k_here; k_dflt (refine' srfind_n ?k1 ?_; (case k1 => assumption); k_whole; intro nr hnr hnr0 hnr1)))
local macro_rules | `(tactic| walk_at "call builtin:bytes.count") => `(tactic| (k_here; k_dflt (refine' bcount_n ?k1 ?_; (case k1 => assumption); k_whole; intro nc hnc hnc0 hnc1)))
local macro_rules | `(tactic| walk_at "call builtin:bytes.rfind") => `(tactic| (k_here; k_dflt (refine' brfind_n ?k1 ?_; (case k1 => assumption); k_whole; intro nr hnr hnr0 hnr1)))

local macro_rules | `(tactic| walk_at "binaryOp Mod str ref") => `(tactic| (k_here; k_dflt (first
  | ((with_reducible show wpAny _ _ (binaryOp Operator.Mod (Value.str (PySem.Str.ofString "%s at position %d") _) _) _ _ _); refine' kfmt2 ?k1 ?k2 ?k3 ?k4 ?k5 ?_; (case k1 => k_asm); (case k2 => k_mem); (case k3 => omega); (case k4 => omega); (case k5 => omega); k_whole; intro tf' kf')
  | ((with_reducible show wpAny _ _ (binaryOp Operator.Mod (Value.str (PySem.Str.ofString "%s (line %d, column %d)") _) _) _ _ _); refine' kfmt3 ?k1 ?k2 ?k3 ?k4 ?k5 ?k6 ?k7 ?_; (case k1 => k_asm); (case k2 => k_mem); (case k3 => (refine Nat.le_trans (words2_len (by omega) (by omega)) ?_; omega)); (case k4 => omega); (case k5 => omega); (case k6 => omega); (case k7 => omega); k_whole; intro tf' kf'))))

local macro_rules | `(tactic| walk_at "compareOp In str str") => `(tactic| (k_here; k_dflt (refine' str_in ?_ ?_ <;> intro hin')))
local macro_rules | `(tactic| walk_at "compareOp In bytes bytes") => `(tactic| (k_here; k_dflt (refine' kbytes_in ?k1 ?k2 ?k3 ?_ ?_; (case k1 => k_asm); (case k2 => k_asm); (case k3 => rfl)) <;> (intro hin' h' tk' F' N'; (try k_sweep))))

local macro_rules | `(tactic| walk_at "getMethod bytes") => `(tactic| (k_here; (with_reducible refine bm_count ?_)))
local macro_rules | `(tactic| walk_at "getMethod bytes") => `(tactic| (k_here; (with_reducible refine bm_rfind ?_)))
theorem pe_bytes {w : World} {dp un : Nat} {gd : Option (List Code)} {cn : Str} {cs : Scope} {a : Addr} {ccd : Value} {cl : List (Str × Addr)} {outer : List Env} {A₀ : Around} {base h₀ : Heap} {L : Addr} {m : Str → Option Value} {s : Shared} {Q E : Value → Shared → Prop}
  {mean : ExcName → Option Value} {mg mb : Str → Option Value} {msg : Str} {pat : Array UInt8} {tm tp ti : Tok} {pos : Int}
  (B : Below A₀ base outer h₀) (F : Fr h₀ L s.heap m) (X : (hd.heap_39 w.params).In h₀) (T : Top hd.view_39 (looseW hd.view_39 [Str.ofString "PatternError"]) mean mg mb h₀) (hk : cs.kind = .function)
  (hdp : dp + 3 < recursionLimit) (hun : un + 20 < cLine) (hpos : 0 ≤ pos) (hpl : pos < 1000) (hlen : pat.size < 100000) (hml : msg.length < 100000)
  (ret : ∀ (e : Addr) (h' : Heap) (tk : Nat) (l c : Tok), s.heap.StaysIn h' → ExcNew s.heap h' 34 e (.str msg tm) (.bytes pat tp) (.int pos ti) (.int (nlCount (codes pat) pos.toNat + 1) l) (.int (pos - nlLast (codes pat) pos.toNat) c) (peWords msg (codes pat) pos) →
    Q (.ref e) { s with heap := h', toks := tk }) :
  wpAny (model PySem.Challenge.rw_dn0146_03.row.prog w) (ktrTop dp un gd cn cs L a ccd cl outer) (call (.ref 34) [.str msg tm, .bytes pat tp, .int pos ti]) Q E s := by
  revert X; k_fill; intro X
  have Xs := X.keeps F.keep
  obtain ⟨_, BG, _, _⟩ := groundX (A := ktrTop dp un gd cn cs L a ccd cl outer) (R := fun _ _ => True) (env := envX cn cs L a ccd cl) B F News.nil rfl rfl hk
  have Ts := T.keeps F.keep
  obtain ⟨nm, q, bs, sn, sub, ab, col, dd, k0, k1, k2, k3, k5, hk34⟩ := cls34 w.params
  obtain ⟨oI, hI, hIc⟩ := init31 w.params
  have hok := nsOk33 w.params
  have hC := Xs _ _ hk34
  have hN : s.heap.Ns 33 (s.heap.nsMap 33) := .of_isNs (isNs_of_in Xs hok)
  have hNi : s.heap.nsMap 33 "__init__" = some (.ref 31) := by
    obtain ⟨o, es, ep, ho, hd, _, hf⟩ := hN
    rw [← hf]
    have := Xs 33 _ rfl
    rw [ho] at this
    cases this
    cases hd
    rfl
  obtain ⟨hp, g, d, t, os⟩ := s
  dsimp only at *
  refine exc_make PySem.F.excBase_Exception (fI := 31) hC hN hNi (Xs _ _ hI) hIc (Nat.le_of_ble_eq_true rfl) ?_
  refine wpAny_call ?_
  have g1 : ((hp.push (tupOf [Value.str msg tm, Value.bytes pat tp, Value.int pos ti])).push (excO 34 hp.objs.size)).get? (hp.objs.size + 1) = some (excO 34 hp.objs.size) := by heap_get
  have g2 : ((hp.push (tupOf [Value.str msg tm, Value.bytes pat tp, Value.int pos ti])).push (excO 34 hp.objs.size)).get? hp.objs.size = some (tupOf [Value.str msg tm, Value.bytes pat tp, Value.int pos ti]) := Heap.get?_push_of_some _ (Heap.get?_push_at rfl rfl)
  have g3 : hp.StaysIn ((hp.push (tupOf [Value.str msg tm, Value.bytes pat tp, Value.int pos ti])).push (excO 34 hp.objs.size)) := fun b o e => Heap.get?_push_of_some _ (Heap.get?_push_of_some _ e)
  have g4 : hp.objs.size ≤ ((hp.push (tupOf [Value.str msg tm, Value.bytes pat tp, Value.int pos ti])).push (excO 34 hp.objs.size)).objs.size := by rw [Heap.size_push, Heap.size_push]; omega
  have g5 : hp.get? (hp.objs.size + 1) = none := Heap.get?_none_of_le (Nat.le_succ _)
  have g6 : hp.get? hp.objs.size = none := Heap.get?_none_of_le (Nat.le_refl _)
  generalize ((hp.push (tupOf [Value.str msg tm, Value.bytes pat tp, Value.int pos ti])).push (excO 34 hp.objs.size)) = hs at *
  have g7 : hp.objs.size < hp.objs.size + 1 := Nat.lt_succ_self _
  generalize hp.objs.size + 1 = e at *
  have BG' : Below (ktrTop dp un gd cn cs L a ccd cl outer) base (envX cn cs L a ccd cl :: outer) hp := BG
  clear BG
  have g8 := g4
  generalize ht0 : hp.objs.size = t0 at g1 g2 g5 g6 g7
  k_dflt (refine' enter_super (hb := hp) (news := [(e, excO 34 t0), (t0, tupOf [Value.str msg tm, Value.bytes pat tp, Value.int pos ti])]) ?k1 ?k2 ?k3 ?k4 ?k5 ?k6 ?k7 ?k8 ?k9 ?k10 ?_ ?c1 ?c2 ?c3 ?c4; (case k1 => exact g3); (case k2 => exact g4); (case k3 => exact Xs); (case k4 => exact Ts); (case k5 => (intro p hp; rcases List.mem_cons.mp hp with rfl | hp; exact ⟨g1, g5⟩; rcases List.mem_cons.mp hp with rfl | hp; exact ⟨g2, g6⟩; cases hp)); (case k6 => k_is); (case k7 => k_is); (case k8 => ktr_room); (case k9 => exact binds_K (binds := [(Str.ofString "self", Value.ref e), (Str.ofString "msg", Value.str msg tm), (Str.ofString "pattern", Value.bytes pat tp), (Str.ofString "pos", Value.int pos ti)]) (Xs.keeps g3) rfl (by k_is) rfl rfl rfl); (case k10 => exact locs rfl); (case c1 => decide); (case c2 => exact rfl); (case c3 => exact rfl); (case c4 => exact rfl); intro L' h' F' N' l1; (try k_lt l1); (try dsimp only))
  refine wpAt_snoc (pre := [_, _, _, _]) ?_
  k_steps
  all_goals (show Stop _; unfold Stop)
  all_goals (rename Fr _ _ _ _ => FF; rename News _ _ _ _ => NN; rename AttrObj _ _ => AA)
  all_goals subst_vars
  · refine super_tail' FF rfl rfl (sub2a NN) (by k_ne) Xs Ts fun t9 h9 tk9 st9 N9 => ?_
    exact ⟨rfl, ret e h9 tk9 _ _ st9 ⟨_, _, _, _, _, (N9 _ (.tail _ (.tail _ (.head _)))).1, (N9 _ (.tail _ (.head _))).1, (by unfold peWords; rw [if_pos (by assumption)]; exact (N9 _ (.head _)).1), (N9 _ (.tail _ (.tail _ (.head _)))).2.2, (N9 _ (.tail _ (.head _))).2.2, (N9 _ (.head _)).2.2, AA, rfl, rfl, rfl, rfl, rfl⟩⟩
  · refine super_tail' FF rfl rfl (sub2b NN) (by k_ne) Xs Ts fun t9 h9 tk9 st9 N9 => ?_
    exact ⟨rfl, ret e h9 tk9 _ _ st9 ⟨_, _, _, _, _, (N9 _ (.tail _ (.tail _ (.head _)))).1, (N9 _ (.tail _ (.head _))).1, (by unfold peWords; rw [if_neg (by assumption)]; exact (N9 _ (.head _)).1), (N9 _ (.tail _ (.tail _ (.head _)))).2.2, (N9 _ (.tail _ (.head _))).2.2, (N9 _ (.head _)).2.2, AA, rfl, rfl, rfl, rfl, rfl⟩⟩
end Mine
end
section
local macro_rules | `(tactic| walk_at "pad") => `(tactic| fail "pad")
local macro_rules | `(tactic| walk_at "pad") => `(tactic| fail "pad")
local macro_rules | `(tactic| walk_at "pad") => `(tactic| fail "pad")
local macro_rules | `(tactic| walk_at "pad") => `(tactic| fail "pad")
local macro_rules | `(tactic| walk_at "pad") => `(tactic| fail "pad")
local macro_rules | `(tactic| walk_at "pad") => `(tactic| fail "pad")
local macro_rules | `(tactic| walk_at "pad") => `(tactic| fail "pad")
local macro_rules | `(tactic| walk_at "pad") => `(tactic| fail "pad")
local macro_rules | `(tactic| walk_at "pad") => `(tactic| fail "pad")
local macro_rules | `(tactic| walk_at "pad") => `(tactic| fail "pad")
local macro_rules | `(tactic| walk_at "pad") => `(tactic| fail "pad")
local macro_rules | `(tactic| walk_at "pad") => `(tactic| fail "pad")
local macro_rules | `(tactic| walk_at "pad") => `(tactic| fail "pad")
local macro_rules | `(tactic| walk_at "pad") => `(tactic| fail "pad")
local macro_rules | `(tactic| walk_at "pad") => `(tactic| fail "pad")
local macro_rules | `(tactic| walk_at "pad") => `(tactic| fail "pad")
local macro_rules | `(tactic| walk_at "pad") => `(tactic| fail "pad")
local macro_rules | `(tactic| walk_at "pad") => `(tactic| fail "pad")
local macro_rules | `(tactic| walk_at "pad") => `(tactic| fail "pad")
local macro_rules | `(tactic| walk_at "pad") => `(tactic| fail "pad")
local macro_rules | `(tactic| walk_at "pad") => `(tactic| fail "pad")
local macro_rules | `(tactic| walk_at "pad") => `(tactic| fail "pad")
local macro_rules | `(tactic| walk_at "pad") => `(tactic| fail "pad")
local macro_rules | `(tactic| walk_at "pad") => `(tactic| fail "pad")
local macro_rules | `(tactic| walk_at "pad") => `(tactic| fail "pad")
local macro_rules | `(tactic| walk_at "pad") => `(tactic| fail "pad")
local macro_rules | `(tactic| walk_at "pad") => `(tactic| fail "pad")
local macro_rules | `(tactic| walk_at "pad") => `(tactic| fail "pad")
open PySem PySem.W PyProof.Rows PySem.Calls
set_option maxRecDepth 100000
set_option maxHeartbeats 0
namespace Mine

local macro_rules | `(tactic| k_inst) => `(tactic| exact instAt_exc (News.get (by k_asm) (by k_mem)) (News.get (by k_asm) (by k_mem)))
local macro_rules | `(tactic| walk_at "setAttr ref") => `(tactic| (k_here; k_dflt (first
  | (refine' kset0 ?k1 ?k2 ?k3 ?k4 ?k5 ?k6 ?k7 ?k8 ?k9 ?_; (case k1 => k_asm); (case k2 => k_asm); (case k3 => k_asm); (case k9 => k_updF); (case k4 => k_is); (case k5 => kernel_rfl); (case k6 => k_is); (case k7 => k_is); (case k8 => (rw [typeLookup_type, builtinLookup_eq_fast]; kernel_rfl)); k_whole; intro d' o' h' tk' F' N' At' l1; (try k_lt l1); (try dsimp only at N'); (try dsimp only at At'); (try k_sweep))
  | (refine' kset (ns := ["msg", "pattern", "pos", "lineno", "colno"]) ?k1 ?k2 ?k3 ?k4 ?k5 ?k6 ?k7 ?k8 ?k9 ?k10 ?k11 ?k12 ?k13 ?_; (case k1 => k_asm); (case k2 => k_asm); (case k3 => k_asm); (case k9 => k_mem); (case k4 => k_is); (case k5 => kernel_rfl); (case k6 => k_is); (case k7 => k_is); (case k8 => (rw [typeLookup_type, builtinLookup_eq_fast]; kernel_rfl)); (case k10 => k_updF); (case k11 => assumption); (case k12 => (intro y hy; by_cases e1 : y = "msg"; (simp [e1]); by_cases e2 : y = "pattern"; (simp [e2]); by_cases e3 : y = "pos"; (simp [e3]); by_cases e4 : y = "lineno"; (simp [e4]); by_cases e5 : y = "colno"; (simp [e5]); simp [e1, e2, e3, e4, e5] at hy)); (case k13 => decide); k_whole; intro o' h' tk' F' N' At'; (try dsimp only at N'); (try dsimp only at At'); (try k_sweep)))))
local macro_rules | `(tactic| walk_at "getAttr ref") => `(tactic| (k_here; k_dflt (refine' kget ?k1 ?k2 ?k3 ?k4 ?k5 ?k6 ?k7 ?k8 ?k9 ?k10 ?k11 ?k12 ?k13 ?_; (case k1 => k_asm); (case k2 => k_asm); (case k9 => exact News.get (by k_asm) (by k_mem)); (case k10 => exact News.get (by k_asm) (by k_mem)); (case k3 => k_is); (case k4 => kernel_rfl); (case k5 => k_is); (case k6 => k_is); (case k7 => k_is); (case k8 => (rw [typeLookup_type, builtinLookup_eq_fast]; kernel_rfl)); (case k11 => assumption); (case k12 => rfl); (case k13 => rfl); k_whole)))
local macro_rules | `(tactic| walk_at "getMethod ref") => `(tactic| (k_here; k_dflt (refine' ksup_method ?k1 ?k2 ?k3 ?k4 ?k5 ?k6 ?k7 ?k8 ?k9 ?_; (case k1 => k_asm); (case k2 => k_asm); (case k3 => k_asm); (case k6 => k_mem); (case k7 => k_mem); (case k4 => k_is); (case k5 => k_is); (case k8 => rfl); (case k9 => rfl); k_whole; intro mw' h' F' N' l1; (try k_lt l1); (try k_sweep))))
local macro_rules | `(tactic| walk_at "callWith ref") => `(tactic| (k_here; k_dflt (refine' callWith_Mw ?k1 ?k2 ?_; (case k1 => k_asm); (case k2 => k_mem); k_whole)))
local macro_rules | `(tactic| walk_at "And") => `(tactic| ((with_reducible show MwP _ _ _ ∧ _); refine ⟨mwP (by k_asm) (by k_mem), ?_⟩; try dsimp only [List.nil_append, List.cons_append]))
local macro_rules | `(tactic| walk_at "call ref") => `(tactic| (k_here; k_dflt (refine' kmw_call ?k1 ?k2 ?k3 ?k4 ?k5 ?k6 ?k7 ?_; (case k1 => k_asm); (case k2 => k_asm); (case k3 => k_asm); (case k5 => k_mem); (case k6 => k_updF); (case k4 => k_is); (case k7 => rfl); k_whole; intro t' h' F' N' l1; (try k_lt l1); (try dsimp only at N'); (try k_sweep))))

local macro_rules | `(tactic| walk_at "call builtin:str.count") => `(tactic| (k_here; k_dflt (refine' scount_n ?k1 ?_; (case k1 => assumption); k_whole; intro nc hnc hnc0 hnc1)))
local macro_rules | `(tactic| walk_at "call builtin:str.rfind") => `(tactic| (k_here; k_dflt (refine' srfind_n ?k1 ?_; (case k1 => assumption); k_whole; intro nr hnr hnr0 hnr1)))
local macro_rules | `(tactic| walk_at "call builtin:bytes.count") => `(tactic| (k_here; k_dflt (refine' bcount_n ?k1 ?_; (case k1 => assumption); k_whole; intro nc hnc hnc0 hnc1)))
local macro_rules | `(tactic| walk_at "call builtin:bytes.rfind") => `(tactic| (k_here; k_dflt (refine' brfind_n ?k1 ?_; (case k1 => assumption); k_whole; intro nr hnr hnr0 hnr1)))

local macro_rules | `(tactic| walk_at "binaryOp Mod str ref") => `(tactic| (k_here; k_dflt (first
  | ((with_reducible show wpAny _ _ (binaryOp Operator.Mod (Value.str (PySem.Str.ofString "%s at position %d") _) _) _ _ _); refine' kfmt2 ?k1 ?k2 ?k3 ?k4 ?k5 ?_; (case k1 => k_asm); (case k2 => k_mem); (case k3 => omega); (case k4 => omega); (case k5 => omega); k_whole; intro tf' kf')
  | ((with_reducible show wpAny _ _ (binaryOp Operator.Mod (Value.str (PySem.Str.ofString "%s (line %d, column %d)") _) _) _ _ _); refine' kfmt3 ?k1 ?k2 ?k3 ?k4 ?k5 ?k6 ?k7 ?_; (case k1 => k_asm); (case k2 => k_mem); (case k3 => (refine Nat.le_trans (words2_len (by omega) (by omega)) ?_; omega)); (case k4 => omega); (case k5 => omega); (case k6 => omega); (case k7 => omega); k_whole; intro tf' kf'))))

local macro_rules | `(tactic| walk_at "compareOp In str str") => `(tactic| (k_here; k_dflt (refine' str_in ?_ ?_ <;> intro hin')))
local macro_rules | `(tactic| walk_at "compareOp In bytes bytes") => `(tactic| (k_here; k_dflt (refine' kbytes_in ?k1 ?k2 ?k3 ?_ ?_; (case k1 => k_asm); (case k2 => k_asm); (case k3 => rfl)) <;> (intro hin' h' tk' F' N'; (try k_sweep))))

theorem pe_m {w : World} {dp un : Nat} {gd : Option (List Code)} {cn : Str} {cs : Scope} {a : Addr} {ccd : Value} {cl : List (Str × Addr)} {outer : List Env} {A₀ : Around} {base h₀ : Heap} {L : Addr} {m : Str → Option Value} {s : Shared} {Q E : Value → Shared → Prop}
  {mean : ExcName → Option Value} {mg mb : Str → Option Value} {msg : Str} {tm : Tok}
  (B : Below A₀ base outer h₀) (F : Fr h₀ L s.heap m) (X : (hd.heap_39 w.params).In h₀) (T : Top hd.view_39 (looseW hd.view_39 [Str.ofString "PatternError"]) mean mg mb h₀) (hk : cs.kind = .function)
  (hdp : dp + 3 < recursionLimit) (hun : un + 20 < cLine)
  (ret : ∀ (e : Addr) (h' : Heap) (tk : Nat), s.heap.StaysIn h' → ExcNew s.heap h' 34 e (.str msg tm) (Value.none) (Value.none) .none .none msg →
    Q (.ref e) { s with heap := h', toks := tk }) :
  wpAny (model PySem.Challenge.rw_dn0146_03.row.prog w) (ktrTop dp un gd cn cs L a ccd cl outer) (call (.ref 34) [Value.str msg tm] []) Q E s := by
  revert X; k_fill; intro X
  have Xs := X.keeps F.keep
  obtain ⟨_, BG, _, _⟩ := groundX (A := ktrTop dp un gd cn cs L a ccd cl outer) (R := fun _ _ => True) (env := envX cn cs L a ccd cl) B F News.nil rfl rfl hk
  have Ts := T.keeps F.keep
  obtain ⟨nm, q, bs, sn, sub, ab, col, dd, k0, k1, k2, k3, k5, hk34⟩ := cls34 w.params
  obtain ⟨oI, hI, hIc⟩ := init31 w.params
  have hok := nsOk33 w.params
  have hC := Xs _ _ hk34
  have hN : s.heap.Ns 33 (s.heap.nsMap 33) := .of_isNs (isNs_of_in Xs hok)
  have hNi : s.heap.nsMap 33 "__init__" = some (.ref 31) := by
    obtain ⟨o, es, ep, ho, hd, _, hf⟩ := hN
    rw [← hf]
    have := Xs 33 _ rfl
    rw [ho] at this
    cases this
    cases hd
    rfl
  obtain ⟨hp, g, d, t, os⟩ := s
  dsimp only at *
  refine exc_make PySem.F.excBase_Exception (fI := 31) hC hN hNi (Xs _ _ hI) hIc (Nat.le_of_ble_eq_true rfl) ?_
  refine wpAny_call ?_
  have g1 : ((hp.push (tupOf [Value.str msg tm])).push (excO 34 hp.objs.size)).get? (hp.objs.size + 1) = some (excO 34 hp.objs.size) := by heap_get
  have g2 : ((hp.push (tupOf [Value.str msg tm])).push (excO 34 hp.objs.size)).get? hp.objs.size = some (tupOf [Value.str msg tm]) := Heap.get?_push_of_some _ (Heap.get?_push_at rfl rfl)
  have g3 : hp.StaysIn ((hp.push (tupOf [Value.str msg tm])).push (excO 34 hp.objs.size)) := fun b o e => Heap.get?_push_of_some _ (Heap.get?_push_of_some _ e)
  have g4 : hp.objs.size ≤ ((hp.push (tupOf [Value.str msg tm])).push (excO 34 hp.objs.size)).objs.size := by rw [Heap.size_push, Heap.size_push]; omega
  have g5 : hp.get? (hp.objs.size + 1) = none := Heap.get?_none_of_le (Nat.le_succ _)
  have g6 : hp.get? hp.objs.size = none := Heap.get?_none_of_le (Nat.le_refl _)
  generalize ((hp.push (tupOf [Value.str msg tm])).push (excO 34 hp.objs.size)) = hs at *
  have g7 : hp.objs.size < hp.objs.size + 1 := Nat.lt_succ_self _
  generalize hp.objs.size + 1 = e at *
  have BG' : Below (ktrTop dp un gd cn cs L a ccd cl outer) base (envX cn cs L a ccd cl :: outer) hp := BG
  clear BG
  have g8 := g4
  generalize ht0 : hp.objs.size = t0 at g1 g2 g5 g6 g7
  k_dflt (refine' enter_super (hb := hp) (news := [(e, excO 34 t0), (t0, tupOf [Value.str msg tm])]) ?k1 ?k2 ?k3 ?k4 ?k5 ?k6 ?k7 ?k8 ?k9 ?k10 ?_ ?c1 ?c2 ?c3 ?c4; (case k1 => exact g3); (case k2 => exact g4); (case k3 => exact Xs); (case k4 => exact Ts); (case k5 => (intro p hp; rcases List.mem_cons.mp hp with rfl | hp; exact ⟨g1, g5⟩; rcases List.mem_cons.mp hp with rfl | hp; exact ⟨g2, g6⟩; cases hp)); (case k6 => k_is); (case k7 => k_is); (case k8 => ktr_room); (case k9 => exact binds_K (binds := [(Str.ofString "self", Value.ref e), (Str.ofString "msg", Value.str msg tm), (Str.ofString "pattern", Value.none), (Str.ofString "pos", Value.none)]) (Xs.keeps g3) rfl (by k_is) rfl rfl rfl); (case k10 => exact locs rfl); (case c1 => decide); (case c2 => exact rfl); (case c3 => exact rfl); (case c4 => exact rfl); intro L' h' F' N' l1; (try k_lt l1); (try dsimp only))
  refine wpAt_snoc (pre := [_, _, _, _]) ?_
  k_steps
  all_goals (show Stop _; unfold Stop)
  all_goals (rename Fr _ _ _ _ => FF; rename News _ _ _ _ => NN; rename AttrObj _ _ => AA)
  all_goals subst_vars
  · refine super_tail' FF rfl rfl (sub2c NN) (by k_ne) Xs Ts fun t9 h9 tk9 st9 N9 => ?_
    exact ⟨rfl, ret e h9 tk9 st9 ⟨_, _, _, _, _, (N9 _ (.tail _ (.tail _ (.head _)))).1, (N9 _ (.tail _ (.head _))).1, (N9 _ (.head _)).1, (N9 _ (.tail _ (.tail _ (.head _)))).2.2, (N9 _ (.tail _ (.head _))).2.2, (N9 _ (.head _)).2.2, AA, rfl, rfl, rfl, rfl, rfl⟩⟩
theorem pe_ms {w : World} {dp un : Nat} {gd : Option (List Code)} {cn : Str} {cs : Scope} {a : Addr} {ccd : Value} {cl : List (Str × Addr)} {outer : List Env} {A₀ : Around} {base h₀ : Heap} {L : Addr} {m : Str → Option Value} {s : Shared} {Q E : Value → Shared → Prop}
  {mean : ExcName → Option Value} {mg mb : Str → Option Value} {msg pat : Str} {tm tp : Tok}
  (B : Below A₀ base outer h₀) (F : Fr h₀ L s.heap m) (X : (hd.heap_39 w.params).In h₀) (T : Top hd.view_39 (looseW hd.view_39 [Str.ofString "PatternError"]) mean mg mb h₀) (hk : cs.kind = .function)
  (hdp : dp + 3 < recursionLimit) (hun : un + 20 < cLine)
  (ret : ∀ (e : Addr) (h' : Heap) (tk : Nat), s.heap.StaysIn h' → ExcNew s.heap h' 34 e (.str msg tm) (Value.str pat tp) (Value.none) .none .none msg →
    Q (.ref e) { s with heap := h', toks := tk }) :
  wpAny (model PySem.Challenge.rw_dn0146_03.row.prog w) (ktrTop dp un gd cn cs L a ccd cl outer) (call (.ref 34) [Value.str msg tm, Value.str pat tp] []) Q E s := by
  revert X; k_fill; intro X
  have Xs := X.keeps F.keep
  obtain ⟨_, BG, _, _⟩ := groundX (A := ktrTop dp un gd cn cs L a ccd cl outer) (R := fun _ _ => True) (env := envX cn cs L a ccd cl) B F News.nil rfl rfl hk
  have Ts := T.keeps F.keep
  obtain ⟨nm, q, bs, sn, sub, ab, col, dd, k0, k1, k2, k3, k5, hk34⟩ := cls34 w.params
  obtain ⟨oI, hI, hIc⟩ := init31 w.params
  have hok := nsOk33 w.params
  have hC := Xs _ _ hk34
  have hN : s.heap.Ns 33 (s.heap.nsMap 33) := .of_isNs (isNs_of_in Xs hok)
  have hNi : s.heap.nsMap 33 "__init__" = some (.ref 31) := by
    obtain ⟨o, es, ep, ho, hd, _, hf⟩ := hN
    rw [← hf]
    have := Xs 33 _ rfl
    rw [ho] at this
    cases this
    cases hd
    rfl
  obtain ⟨hp, g, d, t, os⟩ := s
  dsimp only at *
  refine exc_make PySem.F.excBase_Exception (fI := 31) hC hN hNi (Xs _ _ hI) hIc (Nat.le_of_ble_eq_true rfl) ?_
  refine wpAny_call ?_
  have g1 : ((hp.push (tupOf [Value.str msg tm, Value.str pat tp])).push (excO 34 hp.objs.size)).get? (hp.objs.size + 1) = some (excO 34 hp.objs.size) := by heap_get
  have g2 : ((hp.push (tupOf [Value.str msg tm, Value.str pat tp])).push (excO 34 hp.objs.size)).get? hp.objs.size = some (tupOf [Value.str msg tm, Value.str pat tp]) := Heap.get?_push_of_some _ (Heap.get?_push_at rfl rfl)
  have g3 : hp.StaysIn ((hp.push (tupOf [Value.str msg tm, Value.str pat tp])).push (excO 34 hp.objs.size)) := fun b o e => Heap.get?_push_of_some _ (Heap.get?_push_of_some _ e)
  have g4 : hp.objs.size ≤ ((hp.push (tupOf [Value.str msg tm, Value.str pat tp])).push (excO 34 hp.objs.size)).objs.size := by rw [Heap.size_push, Heap.size_push]; omega
  have g5 : hp.get? (hp.objs.size + 1) = none := Heap.get?_none_of_le (Nat.le_succ _)
  have g6 : hp.get? hp.objs.size = none := Heap.get?_none_of_le (Nat.le_refl _)
  generalize ((hp.push (tupOf [Value.str msg tm, Value.str pat tp])).push (excO 34 hp.objs.size)) = hs at *
  have g7 : hp.objs.size < hp.objs.size + 1 := Nat.lt_succ_self _
  generalize hp.objs.size + 1 = e at *
  have BG' : Below (ktrTop dp un gd cn cs L a ccd cl outer) base (envX cn cs L a ccd cl :: outer) hp := BG
  clear BG
  have g8 := g4
  generalize ht0 : hp.objs.size = t0 at g1 g2 g5 g6 g7
  k_dflt (refine' enter_super (hb := hp) (news := [(e, excO 34 t0), (t0, tupOf [Value.str msg tm, Value.str pat tp])]) ?k1 ?k2 ?k3 ?k4 ?k5 ?k6 ?k7 ?k8 ?k9 ?k10 ?_ ?c1 ?c2 ?c3 ?c4; (case k1 => exact g3); (case k2 => exact g4); (case k3 => exact Xs); (case k4 => exact Ts); (case k5 => (intro p hp; rcases List.mem_cons.mp hp with rfl | hp; exact ⟨g1, g5⟩; rcases List.mem_cons.mp hp with rfl | hp; exact ⟨g2, g6⟩; cases hp)); (case k6 => k_is); (case k7 => k_is); (case k8 => ktr_room); (case k9 => exact binds_K (binds := [(Str.ofString "self", Value.ref e), (Str.ofString "msg", Value.str msg tm), (Str.ofString "pattern", Value.str pat tp), (Str.ofString "pos", Value.none)]) (Xs.keeps g3) rfl (by k_is) rfl rfl rfl); (case k10 => exact locs rfl); (case c1 => decide); (case c2 => exact rfl); (case c3 => exact rfl); (case c4 => exact rfl); intro L' h' F' N' l1; (try k_lt l1); (try dsimp only))
  refine wpAt_snoc (pre := [_, _, _, _]) ?_
  k_steps
  all_goals (show Stop _; unfold Stop)
  all_goals (rename Fr _ _ _ _ => FF; rename News _ _ _ _ => NN; rename AttrObj _ _ => AA)
  all_goals subst_vars
  · refine super_tail' FF rfl rfl (sub2c NN) (by k_ne) Xs Ts fun t9 h9 tk9 st9 N9 => ?_
    exact ⟨rfl, ret e h9 tk9 st9 ⟨_, _, _, _, _, (N9 _ (.tail _ (.tail _ (.head _)))).1, (N9 _ (.tail _ (.head _))).1, (N9 _ (.head _)).1, (N9 _ (.tail _ (.tail _ (.head _)))).2.2, (N9 _ (.tail _ (.head _))).2.2, (N9 _ (.head _)).2.2, AA, rfl, rfl, rfl, rfl, rfl⟩⟩
theorem pe_mb {w : World} {dp un : Nat} {gd : Option (List Code)} {cn : Str} {cs : Scope} {a : Addr} {ccd : Value} {cl : List (Str × Addr)} {outer : List Env} {A₀ : Around} {base h₀ : Heap} {L : Addr} {m : Str → Option Value} {s : Shared} {Q E : Value → Shared → Prop}
  {mean : ExcName → Option Value} {mg mb : Str → Option Value} {msg : Str} {pat : Array UInt8} {tm tp : Tok}
  (B : Below A₀ base outer h₀) (F : Fr h₀ L s.heap m) (X : (hd.heap_39 w.params).In h₀) (T : Top hd.view_39 (looseW hd.view_39 [Str.ofString "PatternError"]) mean mg mb h₀) (hk : cs.kind = .function)
  (hdp : dp + 3 < recursionLimit) (hun : un + 20 < cLine)
  (ret : ∀ (e : Addr) (h' : Heap) (tk : Nat), s.heap.StaysIn h' → ExcNew s.heap h' 34 e (.str msg tm) (Value.bytes pat tp) (Value.none) .none .none msg →
    Q (.ref e) { s with heap := h', toks := tk }) :
  wpAny (model PySem.Challenge.rw_dn0146_03.row.prog w) (ktrTop dp un gd cn cs L a ccd cl outer) (call (.ref 34) [Value.str msg tm, Value.bytes pat tp] []) Q E s := by
  revert X; k_fill; intro X
  have Xs := X.keeps F.keep
  obtain ⟨_, BG, _, _⟩ := groundX (A := ktrTop dp un gd cn cs L a ccd cl outer) (R := fun _ _ => True) (env := envX cn cs L a ccd cl) B F News.nil rfl rfl hk
  have Ts := T.keeps F.keep
  obtain ⟨nm, q, bs, sn, sub, ab, col, dd, k0, k1, k2, k3, k5, hk34⟩ := cls34 w.params
  obtain ⟨oI, hI, hIc⟩ := init31 w.params
  have hok := nsOk33 w.params
  have hC := Xs _ _ hk34
  have hN : s.heap.Ns 33 (s.heap.nsMap 33) := .of_isNs (isNs_of_in Xs hok)
  have hNi : s.heap.nsMap 33 "__init__" = some (.ref 31) := by
    obtain ⟨o, es, ep, ho, hd, _, hf⟩ := hN
    rw [← hf]
    have := Xs 33 _ rfl
    rw [ho] at this
    cases this
    cases hd
    rfl
  obtain ⟨hp, g, d, t, os⟩ := s
  dsimp only at *
  refine exc_make PySem.F.excBase_Exception (fI := 31) hC hN hNi (Xs _ _ hI) hIc (Nat.le_of_ble_eq_true rfl) ?_
  refine wpAny_call ?_
  have g1 : ((hp.push (tupOf [Value.str msg tm, Value.bytes pat tp])).push (excO 34 hp.objs.size)).get? (hp.objs.size + 1) = some (excO 34 hp.objs.size) := by heap_get
  have g2 : ((hp.push (tupOf [Value.str msg tm, Value.bytes pat tp])).push (excO 34 hp.objs.size)).get? hp.objs.size = some (tupOf [Value.str msg tm, Value.bytes pat tp]) := Heap.get?_push_of_some _ (Heap.get?_push_at rfl rfl)
  have g3 : hp.StaysIn ((hp.push (tupOf [Value.str msg tm, Value.bytes pat tp])).push (excO 34 hp.objs.size)) := fun b o e => Heap.get?_push_of_some _ (Heap.get?_push_of_some _ e)
  have g4 : hp.objs.size ≤ ((hp.push (tupOf [Value.str msg tm, Value.bytes pat tp])).push (excO 34 hp.objs.size)).objs.size := by rw [Heap.size_push, Heap.size_push]; omega
  have g5 : hp.get? (hp.objs.size + 1) = none := Heap.get?_none_of_le (Nat.le_succ _)
  have g6 : hp.get? hp.objs.size = none := Heap.get?_none_of_le (Nat.le_refl _)
  generalize ((hp.push (tupOf [Value.str msg tm, Value.bytes pat tp])).push (excO 34 hp.objs.size)) = hs at *
  have g7 : hp.objs.size < hp.objs.size + 1 := Nat.lt_succ_self _
  generalize hp.objs.size + 1 = e at *
  have BG' : Below (ktrTop dp un gd cn cs L a ccd cl outer) base (envX cn cs L a ccd cl :: outer) hp := BG
  clear BG
  have g8 := g4
  generalize ht0 : hp.objs.size = t0 at g1 g2 g5 g6 g7
  k_dflt (refine' enter_super (hb := hp) (news := [(e, excO 34 t0), (t0, tupOf [Value.str msg tm, Value.bytes pat tp])]) ?k1 ?k2 ?k3 ?k4 ?k5 ?k6 ?k7 ?k8 ?k9 ?k10 ?_ ?c1 ?c2 ?c3 ?c4; (case k1 => exact g3); (case k2 => exact g4); (case k3 => exact Xs); (case k4 => exact Ts); (case k5 => (intro p hp; rcases List.mem_cons.mp hp with rfl | hp; exact ⟨g1, g5⟩; rcases List.mem_cons.mp hp with rfl | hp; exact ⟨g2, g6⟩; cases hp)); (case k6 => k_is); (case k7 => k_is); (case k8 => ktr_room); (case k9 => exact binds_K (binds := [(Str.ofString "self", Value.ref e), (Str.ofString "msg", Value.str msg tm), (Str.ofString "pattern", Value.bytes pat tp), (Str.ofString "pos", Value.none)]) (Xs.keeps g3) rfl (by k_is) rfl rfl rfl); (case k10 => exact locs rfl); (case c1 => decide); (case c2 => exact rfl); (case c3 => exact rfl); (case c4 => exact rfl); intro L' h' F' N' l1; (try k_lt l1); (try dsimp only))
  refine wpAt_snoc (pre := [_, _, _, _]) ?_
  k_steps
  all_goals (show Stop _; unfold Stop)
  all_goals (rename Fr _ _ _ _ => FF; rename News _ _ _ _ => NN; rename AttrObj _ _ => AA)
  all_goals subst_vars
  · refine super_tail' FF rfl rfl (sub2c NN) (by k_ne) Xs Ts fun t9 h9 tk9 st9 N9 => ?_
    exact ⟨rfl, ret e h9 tk9 st9 ⟨_, _, _, _, _, (N9 _ (.tail _ (.tail _ (.head _)))).1, (N9 _ (.tail _ (.head _))).1, (N9 _ (.head _)).1, (N9 _ (.tail _ (.tail _ (.head _)))).2.2, (N9 _ (.tail _ (.head _))).2.2, (N9 _ (.head _)).2.2, AA, rfl, rfl, rfl, rfl, rfl⟩⟩
theorem pe_mp {w : World} {dp un : Nat} {gd : Option (List Code)} {cn : Str} {cs : Scope} {a : Addr} {ccd : Value} {cl : List (Str × Addr)} {outer : List Env} {A₀ : Around} {base h₀ : Heap} {L : Addr} {m : Str → Option Value} {s : Shared} {Q E : Value → Shared → Prop}
  {mean : ExcName → Option Value} {mg mb : Str → Option Value} {msg : Str} {pos : Int} {tm ti : Tok}
  (B : Below A₀ base outer h₀) (F : Fr h₀ L s.heap m) (X : (hd.heap_39 w.params).In h₀) (T : Top hd.view_39 (looseW hd.view_39 [Str.ofString "PatternError"]) mean mg mb h₀) (hk : cs.kind = .function)
  (hdp : dp + 3 < recursionLimit) (hun : un + 20 < cLine)
  (ret : ∀ (e : Addr) (h' : Heap) (tk : Nat), s.heap.StaysIn h' → ExcNew s.heap h' 34 e (.str msg tm) (Value.none) (Value.int pos ti) .none .none msg →
    Q (.ref e) { s with heap := h', toks := tk }) :
  wpAny (model PySem.Challenge.rw_dn0146_03.row.prog w) (ktrTop dp un gd cn cs L a ccd cl outer) (call (.ref 34) [Value.str msg tm] [(Str.ofString "pos", Value.int pos ti)]) Q E s := by
  revert X; k_fill; intro X
  have Xs := X.keeps F.keep
  obtain ⟨_, BG, _, _⟩ := groundX (A := ktrTop dp un gd cn cs L a ccd cl outer) (R := fun _ _ => True) (env := envX cn cs L a ccd cl) B F News.nil rfl rfl hk
  have Ts := T.keeps F.keep
  obtain ⟨nm, q, bs, sn, sub, ab, col, dd, k0, k1, k2, k3, k5, hk34⟩ := cls34 w.params
  obtain ⟨oI, hI, hIc⟩ := init31 w.params
  have hok := nsOk33 w.params
  have hC := Xs _ _ hk34
  have hN : s.heap.Ns 33 (s.heap.nsMap 33) := .of_isNs (isNs_of_in Xs hok)
  have hNi : s.heap.nsMap 33 "__init__" = some (.ref 31) := by
    obtain ⟨o, es, ep, ho, hd, _, hf⟩ := hN
    rw [← hf]
    have := Xs 33 _ rfl
    rw [ho] at this
    cases this
    cases hd
    rfl
  obtain ⟨hp, g, d, t, os⟩ := s
  dsimp only at *
  refine exc_make PySem.F.excBase_Exception (fI := 31) hC hN hNi (Xs _ _ hI) hIc (Nat.le_of_ble_eq_true rfl) ?_
  refine wpAny_call ?_
  have g1 : ((hp.push (tupOf [Value.str msg tm])).push (excO 34 hp.objs.size)).get? (hp.objs.size + 1) = some (excO 34 hp.objs.size) := by heap_get
  have g2 : ((hp.push (tupOf [Value.str msg tm])).push (excO 34 hp.objs.size)).get? hp.objs.size = some (tupOf [Value.str msg tm]) := Heap.get?_push_of_some _ (Heap.get?_push_at rfl rfl)
  have g3 : hp.StaysIn ((hp.push (tupOf [Value.str msg tm])).push (excO 34 hp.objs.size)) := fun b o e => Heap.get?_push_of_some _ (Heap.get?_push_of_some _ e)
  have g4 : hp.objs.size ≤ ((hp.push (tupOf [Value.str msg tm])).push (excO 34 hp.objs.size)).objs.size := by rw [Heap.size_push, Heap.size_push]; omega
  have g5 : hp.get? (hp.objs.size + 1) = none := Heap.get?_none_of_le (Nat.le_succ _)
  have g6 : hp.get? hp.objs.size = none := Heap.get?_none_of_le (Nat.le_refl _)
  generalize ((hp.push (tupOf [Value.str msg tm])).push (excO 34 hp.objs.size)) = hs at *
  have g7 : hp.objs.size < hp.objs.size + 1 := Nat.lt_succ_self _
  generalize hp.objs.size + 1 = e at *
  have BG' : Below (ktrTop dp un gd cn cs L a ccd cl outer) base (envX cn cs L a ccd cl :: outer) hp := BG
  clear BG
  have g8 := g4
  generalize ht0 : hp.objs.size = t0 at g1 g2 g5 g6 g7
  k_dflt (refine' enter_super (hb := hp) (news := [(e, excO 34 t0), (t0, tupOf [Value.str msg tm])]) ?k1 ?k2 ?k3 ?k4 ?k5 ?k6 ?k7 ?k8 ?k9 ?k10 ?_ ?c1 ?c2 ?c3 ?c4; (case k1 => exact g3); (case k2 => exact g4); (case k3 => exact Xs); (case k4 => exact Ts); (case k5 => (intro p hp; rcases List.mem_cons.mp hp with rfl | hp; exact ⟨g1, g5⟩; rcases List.mem_cons.mp hp with rfl | hp; exact ⟨g2, g6⟩; cases hp)); (case k6 => k_is); (case k7 => k_is); (case k8 => ktr_room); (case k9 => exact binds_K (binds := [(Str.ofString "self", Value.ref e), (Str.ofString "msg", Value.str msg tm), (Str.ofString "pattern", Value.none), (Str.ofString "pos", Value.int pos ti)]) (Xs.keeps g3) rfl (by k_is) rfl rfl rfl); (case k10 => exact locs rfl); (case c1 => decide); (case c2 => exact rfl); (case c3 => exact rfl); (case c4 => exact rfl); intro L' h' F' N' l1; (try k_lt l1); (try dsimp only))
  refine wpAt_snoc (pre := [_, _, _, _]) ?_
  k_steps
  all_goals (show Stop _; unfold Stop)
  all_goals (rename Fr _ _ _ _ => FF; rename News _ _ _ _ => NN; rename AttrObj _ _ => AA)
  all_goals subst_vars
  · refine super_tail' FF rfl rfl (sub2c NN) (by k_ne) Xs Ts fun t9 h9 tk9 st9 N9 => ?_
    exact ⟨rfl, ret e h9 tk9 st9 ⟨_, _, _, _, _, (N9 _ (.tail _ (.tail _ (.head _)))).1, (N9 _ (.tail _ (.head _))).1, (N9 _ (.head _)).1, (N9 _ (.tail _ (.tail _ (.head _)))).2.2, (N9 _ (.tail _ (.head _))).2.2, (N9 _ (.head _)).2.2, AA, rfl, rfl, rfl, rfl, rfl⟩⟩
end Mine
end
section
open PySem PySem.W PyProof.Rows PySem.Calls
set_option maxRecDepth 100000
set_option maxHeartbeats 0
namespace Mine
theorem fresh_entry {h₀ h : Heap} {L b : Addr} {m : Str → Option Value} (F : Fr h₀ L h m) (n : h.get? b = none) : b ≠ L ∧ h₀.get? b = none := by
  constructor
  · intro q
    obtain ⟨o, _, _, ho, _⟩ := F.ns
    rw [q, ho] at n; cases n
  · cases q : h₀.get? b with
    | none => rfl
    | some o => rw [F.keep _ _ q] at n; cases n
theorem one {h₀ h h' : Heap} {L e : Addr} {m : Str → Option Value} {news : List (Addr × Obj)} {o1 : Obj} (F : Fr h₀ L h m) (N : News h₀ L h' news)
    (g1 : h'.get? e = some o1) (n1 : h.get? e = none) : News h₀ L h' ((e, o1) :: news) := by
  intro p hp
  rcases List.mem_cons.mp hp with rfl | hp
  · exact ⟨g1, fresh_entry F n1⟩
  · exact N p hp
theorem three {h₀ h h' : Heap} {L e d t : Addr} {m : Str → Option Value} {news : List (Addr × Obj)} {o1 o2 o3 : Obj} (F : Fr h₀ L h m) (N : News h₀ L h news) (st : h.StaysIn h')
    (g1 : h'.get? e = some o1) (g2 : h'.get? d = some o2) (g3 : h'.get? t = some o3) (n1 : h.get? e = none) (n2 : h.get? d = none) (n3 : h.get? t = none) : News h₀ L h' ((e, o1) :: (d, o2) :: (t, o3) :: news) :=
  one F (one F (one F (fun p hp => ⟨st _ _ (N p hp).1, (N p hp).2⟩) g3 n3) g2 n2) g1 n1
theorem pe_strK {w : World} {dp un : Nat} {gd : Option (List Code)} {cn : Str} {cs : Scope} {a : Addr} {ccd : Value} {cl : List (Str × Addr)} {outer : List Env} {A₀ : Around} {base h₀ : Heap} {L : Addr} {m : Str → Option Value} {s : Shared} {Q E : Value → Shared → Prop}
  {mean : ExcName → Option Value} {mg mb : Str → Option Value} {news : List (Addr × Obj)} {msg pat : Str} {tm tp ti : Tok} {pos : Int}
  (B : Below A₀ base outer h₀) (F : Fr h₀ L s.heap m) (N : News h₀ L s.heap news) (X : (hd.heap_39 w.params).In h₀) (T : Top hd.view_39 (looseW hd.view_39 [Str.ofString "PatternError"]) mean mg mb h₀) (hk : cs.kind = .function)
  (hdp : dp + 3 < recursionLimit) (hun : un + 20 < cLine) (hpos : 0 ≤ pos) (hpl : pos < 1000) (hlen : pat.length < 100000) (hml : msg.length < 100000)
  (ret : ∀ (e dx : Addr) (od : Obj) (mA : Str → Option Value) (t : Addr) (tw : Tok) (l c : Tok) (h' : Heap) (tk : Nat), Fr h₀ L h' m → News h₀ L h' ((e, excD 34 dx t) :: (dx, od) :: (t, tupOf [.str (peWords msg pat.cps.toList pos) tw]) :: news) → AttrObj od mA →
    mA "msg" = some (.str msg tm) → mA "pattern" = some (.str pat tp) → mA "pos" = some (.int pos ti) → mA "lineno" = some (.int (nlCount pat.cps.toList pos.toNat + 1) l) → mA "colno" = some (.int (pos - nlLast pat.cps.toList pos.toNat) c) → (∀ p ∈ news, p.1 ≠ e) → (∀ p ∈ news, p.1 ≠ dx) → (∀ p ∈ news, p.1 ≠ t) → dx ≠ e → t ≠ e → Q (.ref e) { s with heap := h', toks := tk }) :
  wpAny (model PySem.Challenge.rw_dn0146_03.row.prog w) (ktrTop dp un gd cn cs L a ccd cl outer) (call (.ref 34) [.str msg tm, .str pat tp, .int pos ti]) Q E s :=
  pe_str B F X T hk hdp hun hpos hpl hlen hml fun e h' tk l c st ⟨dx, od, mA, t, tw, g1, g2, g3, n1, n2, n3, AA, f1, f2, f3, f4, f5⟩ =>
    ret e dx od mA t tw l c h' tk (F.grownK st) (three F N st g1 g2 g3 n1 n2 n3) AA f1 f2 f3 f4 f5 (fun p hp q => by have := (N p hp).1; rw [q, n1] at this; cases this) (fun p hp q => by have := (N p hp).1; rw [q, n2] at this; cases this) (fun p hp q => by have := (N p hp).1; rw [q, n3] at this; cases this)
      (fun q => by rw [q, g1] at g2; cases g2; obtain ⟨_, _, hd, _⟩ := AA; cases hd) (fun q => by rw [q, g1] at g3; cases g3)
theorem pe_bytesK {w : World} {dp un : Nat} {gd : Option (List Code)} {cn : Str} {cs : Scope} {a : Addr} {ccd : Value} {cl : List (Str × Addr)} {outer : List Env} {A₀ : Around} {base h₀ : Heap} {L : Addr} {m : Str → Option Value} {s : Shared} {Q E : Value → Shared → Prop}
  {mean : ExcName → Option Value} {mg mb : Str → Option Value} {news : List (Addr × Obj)} {msg : Str} {pat : Array UInt8} {tm tp ti : Tok} {pos : Int}
  (B : Below A₀ base outer h₀) (F : Fr h₀ L s.heap m) (N : News h₀ L s.heap news) (X : (hd.heap_39 w.params).In h₀) (T : Top hd.view_39 (looseW hd.view_39 [Str.ofString "PatternError"]) mean mg mb h₀) (hk : cs.kind = .function)
  (hdp : dp + 3 < recursionLimit) (hun : un + 20 < cLine) (hpos : 0 ≤ pos) (hpl : pos < 1000) (hlen : pat.size < 100000) (hml : msg.length < 100000)
  (ret : ∀ (e dx : Addr) (od : Obj) (mA : Str → Option Value) (t : Addr) (tw : Tok) (l c : Tok) (h' : Heap) (tk : Nat), Fr h₀ L h' m → News h₀ L h' ((e, excD 34 dx t) :: (dx, od) :: (t, tupOf [.str (peWords msg (codes pat) pos) tw]) :: news) → AttrObj od mA →
    mA "msg" = some (.str msg tm) → mA "pattern" = some (.bytes pat tp) → mA "pos" = some (.int pos ti) → mA "lineno" = some (.int (nlCount (codes pat) pos.toNat + 1) l) → mA "colno" = some (.int (pos - nlLast (codes pat) pos.toNat) c) → (∀ p ∈ news, p.1 ≠ e) → (∀ p ∈ news, p.1 ≠ dx) → (∀ p ∈ news, p.1 ≠ t) → dx ≠ e → t ≠ e → Q (.ref e) { s with heap := h', toks := tk }) :
  wpAny (model PySem.Challenge.rw_dn0146_03.row.prog w) (ktrTop dp un gd cn cs L a ccd cl outer) (call (.ref 34) [.str msg tm, .bytes pat tp, .int pos ti]) Q E s :=
  pe_bytes B F X T hk hdp hun hpos hpl hlen hml fun e h' tk l c st ⟨dx, od, mA, t, tw, g1, g2, g3, n1, n2, n3, AA, f1, f2, f3, f4, f5⟩ =>
    ret e dx od mA t tw l c h' tk (F.grownK st) (three F N st g1 g2 g3 n1 n2 n3) AA f1 f2 f3 f4 f5 (fun p hp q => by have := (N p hp).1; rw [q, n1] at this; cases this) (fun p hp q => by have := (N p hp).1; rw [q, n2] at this; cases this) (fun p hp q => by have := (N p hp).1; rw [q, n3] at this; cases this)
      (fun q => by rw [q, g1] at g2; cases g2; obtain ⟨_, _, hd, _⟩ := AA; cases hd) (fun q => by rw [q, g1] at g3; cases g3)
theorem pe_mK {w : World} {dp un : Nat} {gd : Option (List Code)} {cn : Str} {cs : Scope} {a : Addr} {ccd : Value} {cl : List (Str × Addr)} {outer : List Env} {A₀ : Around} {base h₀ : Heap} {L : Addr} {m : Str → Option Value} {s : Shared} {Q E : Value → Shared → Prop}
  {mean : ExcName → Option Value} {mg mb : Str → Option Value} {news : List (Addr × Obj)} {msg : Str} {tm : Tok}
  (B : Below A₀ base outer h₀) (F : Fr h₀ L s.heap m) (N : News h₀ L s.heap news) (X : (hd.heap_39 w.params).In h₀) (T : Top hd.view_39 (looseW hd.view_39 [Str.ofString "PatternError"]) mean mg mb h₀) (hk : cs.kind = .function)
  (hdp : dp + 3 < recursionLimit) (hun : un + 20 < cLine) 
  (ret : ∀ (e dx : Addr) (od : Obj) (mA : Str → Option Value) (t : Addr) (tw : Tok) (h' : Heap) (tk : Nat), Fr h₀ L h' m → News h₀ L h' ((e, excD 34 dx t) :: (dx, od) :: (t, tupOf [.str (msg) tw]) :: news) → AttrObj od mA →
    mA "msg" = some (.str msg tm) → mA "pattern" = some .none → mA "pos" = some .none → mA "lineno" = some .none → mA "colno" = some .none → (∀ p ∈ news, p.1 ≠ e) → (∀ p ∈ news, p.1 ≠ dx) → (∀ p ∈ news, p.1 ≠ t) → dx ≠ e → t ≠ e → Q (.ref e) { s with heap := h', toks := tk }) :
  wpAny (model PySem.Challenge.rw_dn0146_03.row.prog w) (ktrTop dp un gd cn cs L a ccd cl outer) (call (.ref 34) [.str msg tm] []) Q E s :=
  pe_m B F X T hk hdp hun  fun e h' tk st ⟨dx, od, mA, t, tw, g1, g2, g3, n1, n2, n3, AA, f1, f2, f3, f4, f5⟩ =>
    ret e dx od mA t tw h' tk (F.grownK st) (three F N st g1 g2 g3 n1 n2 n3) AA f1 f2 f3 f4 f5 (fun p hp q => by have := (N p hp).1; rw [q, n1] at this; cases this) (fun p hp q => by have := (N p hp).1; rw [q, n2] at this; cases this) (fun p hp q => by have := (N p hp).1; rw [q, n3] at this; cases this)
      (fun q => by rw [q, g1] at g2; cases g2; obtain ⟨_, _, hd, _⟩ := AA; cases hd) (fun q => by rw [q, g1] at g3; cases g3)
theorem pe_msK {w : World} {dp un : Nat} {gd : Option (List Code)} {cn : Str} {cs : Scope} {a : Addr} {ccd : Value} {cl : List (Str × Addr)} {outer : List Env} {A₀ : Around} {base h₀ : Heap} {L : Addr} {m : Str → Option Value} {s : Shared} {Q E : Value → Shared → Prop}
  {mean : ExcName → Option Value} {mg mb : Str → Option Value} {news : List (Addr × Obj)} {msg pat : Str} {tm tp : Tok}
  (B : Below A₀ base outer h₀) (F : Fr h₀ L s.heap m) (N : News h₀ L s.heap news) (X : (hd.heap_39 w.params).In h₀) (T : Top hd.view_39 (looseW hd.view_39 [Str.ofString "PatternError"]) mean mg mb h₀) (hk : cs.kind = .function)
  (hdp : dp + 3 < recursionLimit) (hun : un + 20 < cLine) 
  (ret : ∀ (e dx : Addr) (od : Obj) (mA : Str → Option Value) (t : Addr) (tw : Tok) (h' : Heap) (tk : Nat), Fr h₀ L h' m → News h₀ L h' ((e, excD 34 dx t) :: (dx, od) :: (t, tupOf [.str (msg) tw]) :: news) → AttrObj od mA →
    mA "msg" = some (.str msg tm) → mA "pattern" = some (.str pat tp) → mA "pos" = some .none → mA "lineno" = some .none → mA "colno" = some .none → (∀ p ∈ news, p.1 ≠ e) → (∀ p ∈ news, p.1 ≠ dx) → (∀ p ∈ news, p.1 ≠ t) → dx ≠ e → t ≠ e → Q (.ref e) { s with heap := h', toks := tk }) :
  wpAny (model PySem.Challenge.rw_dn0146_03.row.prog w) (ktrTop dp un gd cn cs L a ccd cl outer) (call (.ref 34) [.str msg tm, .str pat tp] []) Q E s :=
  pe_ms B F X T hk hdp hun  fun e h' tk st ⟨dx, od, mA, t, tw, g1, g2, g3, n1, n2, n3, AA, f1, f2, f3, f4, f5⟩ =>
    ret e dx od mA t tw h' tk (F.grownK st) (three F N st g1 g2 g3 n1 n2 n3) AA f1 f2 f3 f4 f5 (fun p hp q => by have := (N p hp).1; rw [q, n1] at this; cases this) (fun p hp q => by have := (N p hp).1; rw [q, n2] at this; cases this) (fun p hp q => by have := (N p hp).1; rw [q, n3] at this; cases this)
      (fun q => by rw [q, g1] at g2; cases g2; obtain ⟨_, _, hd, _⟩ := AA; cases hd) (fun q => by rw [q, g1] at g3; cases g3)
theorem pe_mbK {w : World} {dp un : Nat} {gd : Option (List Code)} {cn : Str} {cs : Scope} {a : Addr} {ccd : Value} {cl : List (Str × Addr)} {outer : List Env} {A₀ : Around} {base h₀ : Heap} {L : Addr} {m : Str → Option Value} {s : Shared} {Q E : Value → Shared → Prop}
  {mean : ExcName → Option Value} {mg mb : Str → Option Value} {news : List (Addr × Obj)} {msg : Str} {pat : Array UInt8} {tm tp : Tok}
  (B : Below A₀ base outer h₀) (F : Fr h₀ L s.heap m) (N : News h₀ L s.heap news) (X : (hd.heap_39 w.params).In h₀) (T : Top hd.view_39 (looseW hd.view_39 [Str.ofString "PatternError"]) mean mg mb h₀) (hk : cs.kind = .function)
  (hdp : dp + 3 < recursionLimit) (hun : un + 20 < cLine) 
  (ret : ∀ (e dx : Addr) (od : Obj) (mA : Str → Option Value) (t : Addr) (tw : Tok) (h' : Heap) (tk : Nat), Fr h₀ L h' m → News h₀ L h' ((e, excD 34 dx t) :: (dx, od) :: (t, tupOf [.str (msg) tw]) :: news) → AttrObj od mA →
    mA "msg" = some (.str msg tm) → mA "pattern" = some (.bytes pat tp) → mA "pos" = some .none → mA "lineno" = some .none → mA "colno" = some .none → (∀ p ∈ news, p.1 ≠ e) → (∀ p ∈ news, p.1 ≠ dx) → (∀ p ∈ news, p.1 ≠ t) → dx ≠ e → t ≠ e → Q (.ref e) { s with heap := h', toks := tk }) :
  wpAny (model PySem.Challenge.rw_dn0146_03.row.prog w) (ktrTop dp un gd cn cs L a ccd cl outer) (call (.ref 34) [.str msg tm, .bytes pat tp] []) Q E s :=
  pe_mb B F X T hk hdp hun  fun e h' tk st ⟨dx, od, mA, t, tw, g1, g2, g3, n1, n2, n3, AA, f1, f2, f3, f4, f5⟩ =>
    ret e dx od mA t tw h' tk (F.grownK st) (three F N st g1 g2 g3 n1 n2 n3) AA f1 f2 f3 f4 f5 (fun p hp q => by have := (N p hp).1; rw [q, n1] at this; cases this) (fun p hp q => by have := (N p hp).1; rw [q, n2] at this; cases this) (fun p hp q => by have := (N p hp).1; rw [q, n3] at this; cases this)
      (fun q => by rw [q, g1] at g2; cases g2; obtain ⟨_, _, hd, _⟩ := AA; cases hd) (fun q => by rw [q, g1] at g3; cases g3)
theorem pe_mpK {w : World} {dp un : Nat} {gd : Option (List Code)} {cn : Str} {cs : Scope} {a : Addr} {ccd : Value} {cl : List (Str × Addr)} {outer : List Env} {A₀ : Around} {base h₀ : Heap} {L : Addr} {m : Str → Option Value} {s : Shared} {Q E : Value → Shared → Prop}
  {mean : ExcName → Option Value} {mg mb : Str → Option Value} {news : List (Addr × Obj)} {msg : Str} {pos : Int} {tm ti : Tok}
  (B : Below A₀ base outer h₀) (F : Fr h₀ L s.heap m) (N : News h₀ L s.heap news) (X : (hd.heap_39 w.params).In h₀) (T : Top hd.view_39 (looseW hd.view_39 [Str.ofString "PatternError"]) mean mg mb h₀) (hk : cs.kind = .function)
  (hdp : dp + 3 < recursionLimit) (hun : un + 20 < cLine) 
  (ret : ∀ (e dx : Addr) (od : Obj) (mA : Str → Option Value) (t : Addr) (tw : Tok) (h' : Heap) (tk : Nat), Fr h₀ L h' m → News h₀ L h' ((e, excD 34 dx t) :: (dx, od) :: (t, tupOf [.str (msg) tw]) :: news) → AttrObj od mA →
    mA "msg" = some (.str msg tm) → mA "pattern" = some .none → mA "pos" = some (.int pos ti) → mA "lineno" = some .none → mA "colno" = some .none → (∀ p ∈ news, p.1 ≠ e) → (∀ p ∈ news, p.1 ≠ dx) → (∀ p ∈ news, p.1 ≠ t) → dx ≠ e → t ≠ e → Q (.ref e) { s with heap := h', toks := tk }) :
  wpAny (model PySem.Challenge.rw_dn0146_03.row.prog w) (ktrTop dp un gd cn cs L a ccd cl outer) (call (.ref 34) [.str msg tm] [(Str.ofString "pos", .int pos ti)]) Q E s :=
  pe_mp B F X T hk hdp hun  fun e h' tk st ⟨dx, od, mA, t, tw, g1, g2, g3, n1, n2, n3, AA, f1, f2, f3, f4, f5⟩ =>
    ret e dx od mA t tw h' tk (F.grownK st) (three F N st g1 g2 g3 n1 n2 n3) AA f1 f2 f3 f4 f5 (fun p hp q => by have := (N p hp).1; rw [q, n1] at this; cases this) (fun p hp q => by have := (N p hp).1; rw [q, n2] at this; cases this) (fun p hp q => by have := (N p hp).1; rw [q, n3] at this; cases this)
      (fun q => by rw [q, g1] at g2; cases g2; obtain ⟨_, _, hd, _⟩ := AA; cases hd) (fun q => by rw [q, g1] at g3; cases g3)
end Mine
end
section
open PySem PySem.W PyProof.Rows PySem.Calls
set_option maxRecDepth 100000
set_option maxHeartbeats 2000000
namespace Mine
open Builtin Builtin.ObjectAttr

section
variable {prog : Program} {w : World} {A : Around} {E : Value → Shared → Prop} {h : Heap} {g : Array GenState} {d : Drawn} {t : Nat} {os : OsState}
variable {nm q : Str} {C N x t0 : Addr} {bs : List Value} {sn : List Str} {sub : List Value} {ab : Bool} {col : Option Bool} {dd : Option Addr} {k0 k1 k2 k3 k5 : Option Value} {newId : String}
  {mN : Str → Option Value} {o : Obj} {vs : Array Value}

theorem exc_args_entry {tk : Tok} {Q : Fin → Shared → Prop}
    (hC : h.get? C = some (excClassObj nm q C N bs excBm true sn sub ab col dd k0 k1 k2 k3 k5 newId)) (hn : h.Ns N mN) (hna : mN "args" = none)
    (hx : h.get? x = some o) (hc : o.cls = .ref C) (hd : o.data = .fields vs) (h0 : vs[0]? = some (.ref t0)) (hq : Q (.done (.ret (.ref t0))) ⟨h, g, d, t, os⟩) :
    wpAny (model prog w) A (Builtin.«object.__getattribute__» ⟨[.ref x, .str "args" tk], []⟩) Q E ⟨h, g, d, t, os⟩ := by
  have FB := PySem.F.attrBase_Exception
  have hT5 : (⟨h, g, d, t, os⟩ : Shared).TypeIs (.builtin "BaseException.args") "getset_descriptor" := PySem.F.typeOf_bexc_args
  have f5 := PySem.F.typeOf_bexc_args
  have f6 := PySem.F.slot_gs_get.lookup
  have f7 := PySem.F.slot_gs_set.lookup
  repeat (any_goals (first | assumption | (with_reducible refine wpAny_loadPart_at hx ?_; rw [hc]) | (with_reducible refine wpAny_typeLookup_exc hC hn FB.mro FB.lkArgs ?_; rw [hna]) | wp_step))
  refine args_get_own FB hC .base hx hc hd h0 ?_
  repeat (any_goals (first | assumption | wp_step))

theorem exc_args {expr : Bool} {Q : Value → Shared → Prop}
    (hC : h.get? C = some (excClassObj nm q C N bs excBm true sn sub ab col dd k0 k1 k2 k3 k5 newId)) (hn : h.Ns N mN) (hng : mN "__getattribute__" = none) (hnh : mN "__getattr__" = none) (hna : mN "args" = none)
    (hx : h.get? x = some o) (hc : o.cls = .ref C) (hd : o.data = .fields vs) (h0 : vs[0]? = some (.ref t0)) (hq : Q (.ref t0) ⟨h, g, d, t + 1, os⟩) :
    wpAny (model prog w) A (getAttr (.ref x) "args" expr) Q E ⟨h, g, d, t, os⟩ := by
  have FB := PySem.F.attrBase_Exception
  have f3 := FB.ga.bind (.ref x)
  have hx0 : (expr && onTheHeap (Value.builtin "BaseException.__getattribute__")) = false := by cases expr <;> rfl
  have hx2 : (Value.builtin "BaseException.__getattribute__" == Value.builtin "object.__getattribute__") = false := by decide +kernel
  have hx1 : (onTheHeap (Value.ref C) && Value.builtin "BaseException.__getattribute__" == Value.builtin "object.__getattribute__") = false := by rw [hx2]; rfl
  unfold getAttr getAttrBy
  repeat (first | (with_reducible refine wpAny_loadPart_at hx ?_; rw [hc]) | (with_reducible refine wpAny_typeLookup_exc hC hn FB.mro FB.ga.lookup ?_; rw [hng]) | (with_reducible refine wpAny_typeLookup_exc hC hn FB.mro FB.noGetattr ?_; rw [hnh]) | wp_step)
  refine codeAny_call_builtin FB.ga.plain PySem.F.entry_bexc_ga (exc_check_ga hC hx hc (exc_args_entry hC hn hna hx hc hd h0 ?_))
  repeat (first | assumption | wp_step)
end
section
variable {prog : Program} {w : World} {A : Around} {E : Value → Shared → Prop} {s : Shared} {K : Frag} {h₀ : Heap} {L : Addr} {m : Str → Option Value}
variable {nm q : Str} {C Nn e t0 : Addr} {bs : List Value} {sn : List Str} {sub : List Value} {ab : Bool} {col : Option Bool} {dd : Option Addr} {k0 k1 k2 k3 k5 : Option Value} {nid : String}
  {o : Obj} {vs : Array Value}
theorem kargs {expr : Bool} {Q : Value → Shared → Prop} (F : Fr h₀ L s.heap m) (X₀ : K.In h₀)
    (hk : K.lookup C = some (excClassObj nm q C Nn bs excBm true sn sub ab col dd k0 k1 k2 k3 k5 nid)) (hok : nsOkIn K Nn = true) (hng : nsIn K Nn "__getattribute__" = some none) (hnh : nsIn K Nn "__getattr__" = some none) (hna : nsIn K Nn "args" = some none)
    (h1 : s.heap.get? e = some o) (hc : o.cls = .ref C) (hd : o.data = .fields vs) (h0 : vs[0]? = some (.ref t0))
    (h : Q (.ref t0) { s with toks := s.toks + 1 }) : wpAny (model prog w) A (getAttr (.ref e) "args" expr) Q E s := by
  have X := X₀.keeps F.keep
  obtain ⟨hC, hN⟩ := kcls X hk hok
  obtain ⟨hp, g, d, t, os⟩ := s
  exact exc_args hC hN (nsMap_none_of_in X hok hng) (nsMap_none_of_in X hok hnh) (nsMap_none_of_in X hok hna) h1 hc hd h0 h
end
end Mine
end
section
open PySem PySem.W PyProof.Rows PySem.Calls PySem.SeqAt
set_option maxRecDepth 100000
set_option maxHeartbeats 2000000
namespace Mine
section
variable {A : Around} {s : Shared}
theorem eqv_str (a : Str) (t u : Tok) : EqAt A s (.str a t) (.str a u) true := by
  have := (PySem.SeqRoads2.EqGives.str a a t u).at A s
  rwa [beq_self_eq_true] at this
theorem eqv_int (a : Int) (t u : Tok) : EqAt A s (.int a t) (.int a u) true := by
  have := EqAt.int_int (A := A) (s := s) a t a u
  rwa [beq_self_eq_true] at this
theorem eqv_tup {t t2 : Addr} {a : Str} {ta tb : Tok} (h1 : s.heap.get? t = some (tupOf [.str a ta])) (h2 : s.heap.get? t2 = some (tupOf [.str a tb])) (hu : A.units < cLine) : EqAt A s (.ref t) (.ref t2) true := by
  by_cases q : t = t2
  · rw [q]; exact EqAt.same _
  · refine EqAt.of_refs q ?_
    have := RcAt.tuples (A := A) (s := s) (items := #[.str a ta]) (items2 := #[.str a tb]) (e := fun _ => true) ⟨_, h1, rfl, _, rfl⟩ ⟨_, h2, rfl, _, rfl⟩ hu (fun j j1 j2 => by
      have : j = 0 := by simpa using j1
      subst this
      exact eqv_str a ta tb)
    simpa using this

inductive Eqs (A : Around) (s : Shared) : List Value → List Value → Prop
  | nil : Eqs A s [] []
  | cons {x y : Value} {xs ys : List Value} : EqAt A s x y true → Eqs A s xs ys → Eqs A s (x :: xs) (y :: ys)
theorem Eqs.length {xs ys : List Value} (h : Eqs A s xs ys) : xs.length = ys.length := by
  induction h with
  | nil => rfl
  | cons _ _ ih => simp [ih]
theorem Eqs.get {xs ys : List Value} (h : Eqs A s xs ys) : ∀ j (h1 : j < xs.length) (h2 : j < ys.length), EqAt A s xs[j] ys[j] true := by
  induction h with
  | nil => intro j h1; cases h1
  | cons e _ ih =>
    intro j h1 h2
    cases j with
    | zero => exact e
    | succ j => exact ih j (by simpa using h1) (by simpa using h2)
theorem lists_ne {prog : Program} {w : World} {E : Value → Shared → Prop} {Q : Value → Shared → Prop} {r r2 : Addr} {xs ys : List Value} {k k2 : Nat} (hl : s.heap.get? r = some { cls := .type "list", data := .seq xs.toArray k }) (hb : s.heap.get? r2 = some { cls := .type "list", data := .seq ys.toArray k2 }) (hu : A.units < cLine)
    (he : Eqs A.in1 s xs ys) (h : Q (.bool false) s) : wpAny (model prog w) A (compareOp .NotEq (.ref r) (.ref r2)) Q E s := by
  have := RcNeAt.lists (A := A) (s := s) (items := xs.toArray) (items2 := ys.toArray) (e := fun _ => true) ⟨_, hl, rfl, _, rfl⟩ ⟨_, hb, rfl, _, rfl⟩ (by simpa using he.length) hu (fun j j1 j2 => by
    have := he.get j (by simpa using j1) (by simpa using j2)
    simpa using this)
  refine this prog w E Q ?_
  have e : (!(List.range xs.toArray.size).all fun _ => true) = false := by simp
  rw [e]; exact h
theorem look_ne {prog : Program} {w : World} {E : Value → Shared → Prop} {Q : Value → Shared → Prop} {r r2 t t2 : Addr} {m : Str} {pv : Value} {a b c : Int} {i : Int} {wd : Str} {u0 u1 u2 u3 u4 v0 v1 v2 v3 v4 tw tv : Tok} {k k2 : Nat}
    (hl : s.heap.get? r = some { cls := .type "list", data := .seq #[.str m u0, pv, .int a u1, .int b u2, .int c u3, .ref t, .int i u4] k }) (hb : s.heap.get? r2 = some { cls := .type "list", data := .seq #[.str m v0, pv, .int a v1, .int b v2, .int c v3, .ref t2, .int i v4] k2 })
    (h1 : s.heap.get? t = some (tupOf [.str wd tw])) (h2 : s.heap.get? t2 = some (tupOf [.str wd tv])) (hu : A.units + 2 < cLine) (h : Q (.bool false) s) : wpAny (model prog w) A (compareOp .NotEq (.ref r) (.ref r2)) Q E s :=
  lists_ne (xs := [.str m u0, pv, .int a u1, .int b u2, .int c u3, .ref t, .int i u4]) (ys := [.str m v0, pv, .int a v1, .int b v2, .int c v3, .ref t2, .int i v4]) hl hb (by omega)
    (.cons (eqv_str _ _ _) (.cons (.same _) (.cons (eqv_int _ _ _) (.cons (eqv_int _ _ _) (.cons (eqv_int _ _ _) (.cons (eqv_tup h1 h2 (by show A.units + 1 < cLine; omega)) (.cons (eqv_int _ _ _) .nil))))))) h
theorem look_neN {prog : Program} {w : World} {E : Value → Shared → Prop} {Q : Value → Shared → Prop} {r r2 t t2 : Addr} {m : Str} {pv : Value} {i : Int} {wd : Str} {u0 u4 v0 v4 tw tv : Tok} {k k2 : Nat}
    (hl : s.heap.get? r = some { cls := .type "list", data := .seq #[.str m u0, pv, .none, .none, .none, .ref t, .int i u4] k }) (hb : s.heap.get? r2 = some { cls := .type "list", data := .seq #[.str m v0, pv, .none, .none, .none, .ref t2, .int i v4] k2 })
    (h1 : s.heap.get? t = some (tupOf [.str wd tw])) (h2 : s.heap.get? t2 = some (tupOf [.str wd tv])) (hu : A.units + 2 < cLine) (h : Q (.bool false) s) : wpAny (model prog w) A (compareOp .NotEq (.ref r) (.ref r2)) Q E s :=
  lists_ne (xs := [.str m u0, pv, .none, .none, .none, .ref t, .int i u4]) (ys := [.str m v0, pv, .none, .none, .none, .ref t2, .int i v4]) hl hb (by omega)
    (.cons (eqv_str _ _ _) (.cons (.same _) (.cons (.same _) (.cons (.same _) (.cons (.same _) (.cons (eqv_tup h1 h2 (by show A.units + 1 < cLine; omega)) (.cons (eqv_int _ _ _) .nil))))))) h
theorem look_neI {prog : Program} {w : World} {E : Value → Shared → Prop} {Q : Value → Shared → Prop} {r r2 t t2 : Addr} {m : Str} {pv : Value} {i a : Int} {wd : Str} {u0 u1 u4 v0 v1 v4 tw tv : Tok} {k k2 : Nat}
    (hl : s.heap.get? r = some { cls := .type "list", data := .seq #[.str m u0, pv, .int a u1, .none, .none, .ref t, .int i u4] k }) (hb : s.heap.get? r2 = some { cls := .type "list", data := .seq #[.str m v0, pv, .int a v1, .none, .none, .ref t2, .int i v4] k2 })
    (h1 : s.heap.get? t = some (tupOf [.str wd tw])) (h2 : s.heap.get? t2 = some (tupOf [.str wd tv])) (hu : A.units + 2 < cLine) (h : Q (.bool false) s) : wpAny (model prog w) A (compareOp .NotEq (.ref r) (.ref r2)) Q E s :=
  lists_ne (xs := [.str m u0, pv, .int a u1, .none, .none, .ref t, .int i u4]) (ys := [.str m v0, pv, .int a v1, .none, .none, .ref t2, .int i v4]) hl hb (by omega)
    (.cons (eqv_str _ _ _) (.cons (.same _) (.cons (eqv_int _ _ _) (.cons (.same _) (.cons (.same _) (.cons (eqv_tup h1 h2 (by show A.units + 1 < cLine; omega)) (.cons (eqv_int _ _ _) .nil))))))) h
end
end Mine
end
section
open PySem PySem.W PyProof.Rows PySem.Calls PySem.SeqAt
set_option maxRecDepth 100000
set_option maxHeartbeats 2000000
namespace Mine
section
variable {A : Around} {s : Shared} {prog : Program} {w : World} {E : Value → Shared → Prop} {Q : Value → Shared → Prop} {r r2 : Addr} {xs ys : List Value} {k k2 : Nat}
theorem eqs_all {n m : Nat} (h : n = m) : ((List.range (min n m)).all (fun _ => true) && n == m) = true := by subst h; simp
theorem tups_eq (hl : s.heap.get? r = some { cls := .type "tuple", data := .seq xs.toArray k }) (hb : s.heap.get? r2 = some { cls := .type "tuple", data := .seq ys.toArray k2 }) (hu : A.units < cLine)
    (he : Eqs A.in1 s xs ys) (h : Q (.bool true) s) : wpAny (model prog w) A (compareOp .Eq (.ref r) (.ref r2)) Q E s := by
  have := RcAt.tuples (A := A) (s := s) (items := xs.toArray) (items2 := ys.toArray) (e := fun _ => true) ⟨_, hl, rfl, _, rfl⟩ ⟨_, hb, rfl, _, rfl⟩ hu (fun j j1 j2 => by
    have := he.get j (by simpa using j1) (by simpa using j2)
    simpa using this)
  refine this prog w E Q ?_
  rw [eqs_all (by simpa using he.length)]; exact h
theorem tups_ne (hl : s.heap.get? r = some { cls := .type "tuple", data := .seq xs.toArray k }) (hb : s.heap.get? r2 = some { cls := .type "tuple", data := .seq ys.toArray k2 }) (hu : A.units < cLine)
    (he : Eqs A.in1 s xs ys) (h : Q (.bool false) s) : wpAny (model prog w) A (compareOp .NotEq (.ref r) (.ref r2)) Q E s := by
  have := RcNeAt.tuples (A := A) (s := s) (items := xs.toArray) (items2 := ys.toArray) (e := fun _ => true) ⟨_, hl, rfl, _, rfl⟩ ⟨_, hb, rfl, _, rfl⟩ hu (fun j j1 j2 => by
    have := he.get j (by simpa using j1) (by simpa using j2)
    simpa using this)
  refine this prog w E Q ?_
  rw [eqs_all (by simpa using he.length)]; exact h
/-- (msg, pattern, place, args) -/
theorem four_eq {t t2 : Addr} {m : Str} {pv a b : Value} {wd : Str} {u0 v0 tw tv : Tok}
    (hl : s.heap.get? r = some { cls := .type "tuple", data := .seq #[.str m u0, pv, a, .ref t] k }) (hb : s.heap.get? r2 = some { cls := .type "tuple", data := .seq #[.str m v0, pv, b, .ref t2] k2 })
    (h1 : s.heap.get? t = some (tupOf [.str wd tw])) (h2 : s.heap.get? t2 = some (tupOf [.str wd tv])) (hu : A.units + 2 < cLine) (hab : ∀ A s, EqAt A s a b true) (h : Q (.bool true) s) : wpAny (model prog w) A (compareOp .Eq (.ref r) (.ref r2)) Q E s :=
  tups_eq (xs := [.str m u0, pv, a, .ref t]) (ys := [.str m v0, pv, b, .ref t2]) hl hb (by omega)
    (.cons (eqv_str _ _ _) (.cons (.same _) (.cons (hab _ _) (.cons (eqv_tup h1 h2 (by show A.units + 1 < cLine; omega)) .nil)))) h
/-- (line, column) -/
theorem two_ne {a b : Int} {u0 u1 v0 v1 : Tok}
    (hl : s.heap.get? r = some { cls := .type "tuple", data := .seq #[.int a u0, .int b u1] k }) (hb : s.heap.get? r2 = some { cls := .type "tuple", data := .seq #[.int a v0, .int b v1] k2 }) (hu : A.units + 2 < cLine) (h : Q (.bool false) s) : wpAny (model prog w) A (compareOp .NotEq (.ref r) (.ref r2)) Q E s :=
  tups_ne (xs := [.int a u0, .int b u1]) (ys := [.int a v0, .int b v1]) hl hb (by omega) (.cons (eqv_int _ _ _) (.cons (eqv_int _ _ _) .nil)) h
end
end Mine
end
section
open PySem PySem.W PyProof.Rows PySem.Calls
set_option maxRecDepth 100000
set_option maxHeartbeats 2000000
namespace Mine
section
variable {prog : Program} {w : World} {A : Around} {E : Value → Shared → Prop} {s : Shared} {env : Env} {h₀ : Heap} {x : Str} {body : List Stmt} {Q : Flow → Shared → Prop}

/-- a turn's end: the invariant stands again, the iterator and the list lie as they lay -/
def TurnEnd4 (h₀ : Heap) (L : Addr) (J : (Str → Option Value) → List (Addr × Obj) → Prop) (I : Addr) (oI : Obj) (l : Addr) (lo : Obj) (s₁ : Shared) (Q : Flow → Shared → Prop) (f : Flow) (s₂ : Shared) : Prop :=
  match f with
  | .ret v => Q (.ret v) s₂
  | .brk => Q .next s₂
  | _ => ∃ h' tk m' news', s₂ = { s₁ with heap := h', toks := tk } ∧ Fr h₀ L h' m' ∧ News h₀ L h' ((I, oI) :: (l, lo) :: news') ∧ (∀ p ∈ news', p.1 ≠ I) ∧ J m' news'

theorem list_loop {l : Addr} {vs : List Value} {k : Nat} {m₀ : Str → Option Value} {news : List (Addr × Obj)} (J : Nat → (Str → Option Value) → List (Addr × Obj) → Prop)
    (hh : A.handled = none) (F : Fr h₀ env.locals s.heap m₀) (N : News h₀ env.locals s.heap ((l, { cls := .type "list", data := .seq vs.toArray k }) :: news)) (hj : J 0 m₀ news)
    (turn : ∀ i v m₁ news₁ h tk I oI lo, vs[i]? = some v → J i m₁ news₁ → (∀ p ∈ news₁, p.1 ≠ I) → lo.cls = .type "list" → Fr h₀ env.locals h (fun y => if y = x then some v else m₁ y) → News h₀ env.locals h ((I, oI) :: (l, lo) :: news₁) →
      wpAny (model prog w) A (execs body env) (TurnEnd4 h₀ env.locals (J (i + 1)) I oI l lo { s with heap := h, toks := tk } Q) E { s with heap := h, toks := tk })
    (done : ∀ m₁ news₁ h tk, J vs.length m₁ news₁ → Fr h₀ env.locals h m₁ → News h₀ env.locals h news₁ → Q .next { s with heap := h, toks := tk }) :
    wpAny (model prog w) A (pyIter (.ref l)) (fun it s₂ => LoopAtV prog w A h₀ env x body Q E it s₂) E s := by
  have hol := N _ (.head _)
  have hls : s.heap.IsList l vs.toArray := ⟨_, hol.1, rfl, _, rfl⟩
  have hlt : l < s.heap.objs.size := Heap.lt_size hol.1
  have hne : l ≠ s.heap.objs.size := Nat.ne_of_lt hlt
  refine wpAny_pyIter_list hls ?_
  have W := Walks.list (prog := prog) (w := w) hh s.heap.objs.size l hne vs.toArray
  have hlen : vs.toArray.size = vs.length := by simp
  rw [hlen] at W
  refine ⟨_, _, _, vs.length, _, _, m₀, news, J, rfl, W, ?_, ?_, ?_, ⟨⟨_, Heap.get?_push_size _ rfl, rfl, rfl⟩, hls.at fun o e => Heap.get?_push_of_some _ e⟩, F.push _, (fun p hp => ⟨Heap.get?_push_of_some _ (N p (.tail _ hp)).1, (N p (.tail _ hp)).2⟩), hj, ?_, ?_⟩
  · intro hm
    rcases List.mem_cons.mp hm with e | hm
    · exact absurd F.ns.lt (e ▸ Nat.lt_irrefl _)
    · exact hol.2.1 (List.mem_singleton.mp hm).symm
  · intro b hb
    rw [List.mem_singleton.mp hb]
    exact next_is_new F
  · intro p hp hI
    exact absurd (Heap.lt_size (N p (.tail _ hp)).1) ((List.mem_singleton.mp hI) ▸ Nat.lt_irrefl _)
  · rintro i v m₁ news₁ s₁ own ⟨hh', tk', rfl⟩ hin hP hJ hoff hown howg hall st F₁ N₁
    have hP' : vs[i]? = some v := by simpa using hP
    obtain ⟨⟨oI, hI, _⟩, ol, hl', hlc, n', hld⟩ := st
    have mI : (s.heap.objs.size, oI) ∈ own := hall _ (by simp) (next_is_new F) _ hI
    have mL : (l, ol) ∈ own := hall _ (by simp) hol.2.2 _ hl'
    have offI : ∀ p ∈ news₁, p.1 ≠ s.heap.objs.size := fun p hp q => hoff p hp (by simp [q])
    have hin' : ∀ p ∈ own, p = (s.heap.objs.size, oI) ∨ p = (l, ol) := fun p hp => by
      have e := howg p hp
      rcases List.mem_cons.mp (hown p hp) with h1 | h1
      · left; rw [h1, hI] at e; cases e; exact Prod.ext h1 rfl
      · right; have h2 := List.mem_singleton.mp h1; rw [h2, hl'] at e; cases e; exact Prod.ext h2 rfl
    have N₂ : News h₀ env.locals hh' ((s.heap.objs.size, oI) :: (l, ol) :: news₁) := fun p hp => by
      rcases List.mem_cons.mp hp with rfl | hp
      · exact N₁ _ (List.mem_append_left _ mI)
      rcases List.mem_cons.mp hp with rfl | hp
      · exact N₁ _ (List.mem_append_left _ mL)
      · exact N₁ _ (List.mem_append_right _ hp)
    refine wpAny_mono (turn i v m₁ news₁ hh' tk' _ oI ol hP' hJ offI hlc F₁ N₂) (fun f s₂ p => ?_) fun _ _ e => e
    have fin : (∃ h' tk m' news', s₂ = { ({ s with heap := hh', toks := tk' } : Shared) with heap := h', toks := tk } ∧ Fr h₀ env.locals h' m' ∧ News h₀ env.locals h' ((s.heap.objs.size, oI) :: (l, ol) :: news') ∧ (∀ p ∈ news', p.1 ≠ s.heap.objs.size) ∧ J (i + 1) m' news') →
        LoopStepU h₀ env.locals [s.heap.objs.size] own (J (i + 1)) { s with heap := hh', toks := tk' } .next s₂ := by
      rintro ⟨h', tk, m', news', e, F', N', hn, hm⟩
      refine ⟨rfl, h', tk, m', news', e, F', fun p hp => ?_, fun p hp hq => hn p hp (List.mem_singleton.mp hq), hm⟩
      rcases List.mem_append.mp hp with hp | hp
      · rcases hin' p hp with rfl | rfl
        · exact N' _ (.head _)
        · exact N' _ (.tail _ (.head _))
      · exact N' _ (.tail _ (.tail _ hp))
    cases f with
    | ret v => exact .ret p
    | brk => exact .brk p
    | next => exact .next (fin p)
    | cont => exact .cont (fin p)
  · rintro h' tk m' news' F' N' _ hJ
    exact done m' news' h' tk hJ F' N'
end
end Mine
end
section
open PySem PySem.W PyProof.Rows PySem.Calls
set_option maxRecDepth 100000
set_option maxHeartbeats 2000000
namespace Mine
/-- a stop for the walk -/
def Halt (P : Prop) : Prop := P
theorem halt {P : Prop} (h : Halt P) : P := h
/-- LoopAtV under a name of its own, so that the walk stops at it -/
def LoopHere (prog : Program) (w : World) (A : Around) (h₀ : Heap) (env : Env) (x : Str) (body : List Stmt) (Q : Flow → Shared → Prop) (E : Value → Shared → Prop) (it : Value) (s₂ : Shared) : Prop := LoopAtV prog w A h₀ env x body Q E it s₂
section
variable {prog : Program} {w : World} {A : Around} {E : Value → Shared → Prop} {s : Shared} {env : Env} {h₀ : Heap} {x : Str} {body : List Stmt} {Q : Flow → Shared → Prop}
theorem For_here {m : Str → Option Value} {px pos : Pos} {iter : Expr} (_F : Fr h₀ env.locals s.heap m) (hx : env.kindOf x = some .local)
    (hp : (env.scope.kind == .class || (env.scope.kind == .module && env.locals != env.globals)) = false)
    (h : wpAny (model prog w) A (eval iter env) (fun xv s₁ => wpAny (model prog w) A (pyIter xv) (fun it s₂ => LoopHere prog w A h₀ env x body Q E it s₂) E s₁) E s)
    (hs : ∀ x, foldedSetIterable iter env x = pure x := by intro _; rfl)
    (hE : PassesOwn (model prog w) A env E := by passes_own) :
    wpAny (model prog w) A (exec (.For (.Name x px) iter body [] pos) env) Q E s := For_invV h₀ hx hp h hs hE
theorem loop_here {l : Addr} {vs : List Value} {k : Nat} {m₀ : Str → Option Value} {all news : List (Addr × Obj)} (J : Nat → (Str → Option Value) → List (Addr × Obj) → Prop)
    (hh : A.handled = none) (F : Fr h₀ env.locals s.heap m₀) (N : News h₀ env.locals s.heap all) (hl : (l, ({ cls := .type "list", data := .seq vs.toArray k } : Obj)) ∈ all) (hsub : ∀ p ∈ news, p ∈ all) (hj : J 0 m₀ news)
    (turn : ∀ i v m₁ news₁ h tk I oI lo, vs[i]? = some v → J i m₁ news₁ → (∀ p ∈ news₁, p.1 ≠ I) → lo.cls = .type "list" → Fr h₀ env.locals h (fun y => if y = x then some v else m₁ y) → News h₀ env.locals h ((I, oI) :: (l, lo) :: news₁) →
      wpAny (model prog w) A (execs body env) (TurnEnd4 h₀ env.locals (J (i + 1)) I oI l lo { s with heap := h, toks := tk } Q) E { s with heap := h, toks := tk })
    (done : ∀ m₁ news₁ h tk, J vs.length m₁ news₁ → Fr h₀ env.locals h m₁ → News h₀ env.locals h news₁ → Q .next { s with heap := h, toks := tk }) :
    wpAny (model prog w) A (pyIter (.ref l)) (fun it s₂ => LoopHere prog w A h₀ env x body Q E it s₂) E s :=
  list_loop J hh F (fun p hp => by
    rcases List.mem_cons.mp hp with rfl | hp
    · exact N _ hl
    · exact N _ (hsub _ hp)) hj turn done
end
def CutPost (Mid : Shared → Prop) (Q : Flow → Shared → Prop) (f : Flow) (s : Shared) : Prop := match f with | .next => Mid s | f => Q f s
section
variable {prog : Program} {w : World} {A : Around} {E : Value → Shared → Prop} {env : Env} {Q : Flow → Shared → Prop} {Mid : Shared → Prop}
theorem execs_cutG (M : Model) (Γ : _) (hΓ : Γ.In A) {post : List Stmt} (h2 : ∀ s', Mid s' → wpAny M A (execs post env) Q E s') : ∀ (pre : List Stmt) (p) (s : Shared), Sem.wp M Γ (execs pre env) (fun f _ s' => CutPost Mid Q f s') (fun e _ s' => E e s') p s → Sem.wp M Γ (execs (pre ++ post) env) (fun f _ s' => Q f s') (fun e _ s' => E e s') p s
  | [], p, s, h => h2 _ h Γ p hΓ
  | a :: r, p, s, h => by
    rw [List.cons_append, execs_cons, Sem.wp_bind']
    rw [execs_cons, Sem.wp_bind'] at h
    refine Sem.wp_mono _ Γ _ (fun f p' s' h' => ?_) (fun _ _ _ h' => h') _ _ h
    cases f with
    | next => exact execs_cutG M Γ hΓ h2 r p' s' h'
    | _ => exact h'
theorem execs_cut {M : Model} {pre post : List Stmt} {s : Shared} (Mid : Shared → Prop) (h1 : wpAny M A (execs pre env) (CutPost Mid Q) E s) (h2 : ∀ s', Mid s' → wpAny M A (execs post env) Q E s') : wpAny M A (execs (pre ++ post) env) Q E s :=
  fun Γ p hΓ => execs_cutG M Γ hΓ h2 pre p s (h1 Γ p hΓ)
theorem execs_at {M : Model} {body : List Stmt} {s : Shared} (k : Nat) (Mid : Shared → Prop) (h1 : wpAny M A (execs (body.take k) env) (CutPost Mid Q) E s) (h2 : ∀ s', Mid s' → wpAny M A (execs (body.drop k) env) Q E s') : wpAny M A (execs body env) Q E s := by
  have := execs_cut Mid h1 h2
  rwa [List.take_append_drop] at this
/-- what stands at a cut: frame, ledger, and a word of yours on both -/
def MidG (h₀ : Heap) (L : Addr) (s₁ : Shared) (P : (Str → Option Value) → List (Addr × Obj) → Prop) (s₂ : Shared) : Prop :=
  ∃ h' tk m' nw', s₂ = { s₁ with heap := h', toks := tk } ∧ Fr h₀ L h' m' ∧ News h₀ L h' nw' ∧ P m' nw'
theorem cutP {M : Model} {body : List Stmt} {s : Shared} {h₀ : Heap} {L : Addr} {h : Heap} {m : Str → Option Value} {nw : List (Addr × Obj)} (_F : Fr h₀ L h m) (_N : News h₀ L h nw) (k : Nat) (P : (Str → Option Value) → List (Addr × Obj) → (Str → Option Value) → List (Addr × Obj) → Prop)
    (h1 : wpAny M A (execs (body.take k) env) (CutPost (MidG h₀ L s (P m nw)) Q) E s)
    (h2 : ∀ h' tk m' nw', Fr h₀ L h' m' → News h₀ L h' nw' → P m nw m' nw' → wpAny M A (execs (body.drop k) env) Q E { s with heap := h', toks := tk }) : wpAny M A (execs body env) Q E s :=
  execs_at k _ h1 fun _ ⟨h', tk, m', nw', e, F', N', p⟩ => e ▸ h2 h' tk m' nw' F' N' p
theorem mapc {m m0 : Str → Option Value} {k : Str} {v : Value} (h : m k = some v) (r : m = m0) : m = fun y => if y = k then some v else m0 y := by
  subst r
  funext y
  by_cases q : y = k
  · rw [if_pos q, q, h]
  · rw [if_neg q]
end
theorem allObj_mono : ∀ {ws : List (Addr × String)} {k k' : List (Addr × Obj) → Prop}, AllObj ws k → (∀ its, k its → k' its) → AllObj ws k'
  | [], _, _, h, f => f _ h
  | _ :: _, _, _, h, f => fun o ho => allObj_mono (h o ho) fun its => f _
theorem subL_of {all : List (Addr × Obj)} : ∀ {l : List (Addr × Obj)}, (∀ p ∈ l, p ∈ all) → SubL l all
  | [], _ => trivial
  | p :: r, h => ⟨h p (.head _), subL_of fun q hq => h q (.tail _ hq)⟩
section
variable {prog : Program} {w : World} {A : Around} {E : Value → Shared → Prop} {s : Shared} {env : Env} {h₀ : Heap} {target : Expr} {body : List Stmt} {Q : Flow → Shared → Prop}
/-- the outer loop over two values: between the turns only `script` is known, and what is kept -/
def Between (sv : Value) (keep : List (Addr × Obj)) (m' : Str → Option Value) (n' : List (Addr × Obj)) : Prop := n' = keep ∧ m' (Str.ofString "script") = some sv
theorem items_two {sv : Value} {ws : List (Addr × String)} {keep : List (Addr × Obj)} {v v2 : Value} {m : Str → Option Value} {news : List (Addr × Obj)} (_hs : m (Str.ofString "script") = some sv)
    (h2 : ∀ m' : Str → Option Value, ItemsRest prog w A E h₀ env target body Q s ws keep [.val v2] (fun y => if y = Str.ofString "script" then some sv else m' y) keep)
    (h : ∀ h tk, Fr h₀ env.locals h m → AllObj ws (fun its => News h₀ env.locals h (its ++ news) →
      wpAny (model prog w) A (assign target env v) (fun _ s₂ => wpAny (model prog w) A (execs body env) (UnrPostW h₀ env.locals { s with heap := h, toks := tk } its (Between sv keep) Q) E s₂) E { s with heap := h, toks := tk })) :
    ItemsRest prog w A E h₀ env target body Q s ws keep [.val v, .val v2] m news := by
  refine ItemsRest.val fun h' tk' F' => allObj_mono (h h' tk' F') fun its hh N => ?_
  refine wpAny_mono (hh N) (fun _ s₂ q => wpAny_mono q (fun f s₃ p => ?_) fun _ _ e => e) fun _ _ e => e
  have fin : UnrEndW h₀ env.locals { s with heap := h', toks := tk' } its (Between sv keep) s₃ → UnrEndW h₀ env.locals { s with heap := h', toks := tk' } its (fun m' n' => SubL keep n' ∧ ItemsRest prog w A E h₀ env target body Q s ws keep [.val v2] m' n') s₃ := by
    rintro ⟨h1, tk1, m1, n1, e, F1, N1, off, rfl, hs⟩
    refine ⟨h1, tk1, m1, n1, e, F1, N1, off, subL_of fun _ hp => hp, ?_⟩
    have := h2 m1
    rwa [← mapc hs rfl] at this
  cases f with
  | ret v => exact p
  | brk => exact p
  | next => exact fin p
  | cont => exact fin p
theorem unr_two {sv : Value} {its keep all : List (Addr × Obj)} {h' : Heap} {L : Addr} {m' : Str → Option Value} {tk : Nat} {s₁ : Shared} (F : Fr h₀ L h' m') (N : News h₀ L h' all) (hI : SubL its all) (sub : SubL keep all) (off : OffW its keep) (hs : m' (Str.ofString "script") = some sv) :
    UnrEndW h₀ L s₁ its (Between sv keep) { s₁ with heap := h', toks := tk } := UnrEndW.intro F N keep hI sub off ⟨rfl, hs⟩
end
section
variable {h₀ : Heap} {L : Addr} {s₁ : Shared} {h' : Heap} {tk : Nat} {m' : Str → Option Value} {all : List (Addr × Obj)}
theorem unr_keep {its keep : List (Addr × Obj)} {R : (Str → Option Value) → List (Addr × Obj) → Prop} (F : Fr h₀ L h' m') (N : News h₀ L h' all) (hI : SubL its all) (sub : SubL keep all) (off : OffW its keep) (self : SubL keep keep) (r : R m' keep) :
    UnrEndW h₀ L s₁ its (fun m' n' => SubL keep n' ∧ R m' n') { s₁ with heap := h', toks := tk } := UnrEndW.intro F N keep hI sub off ⟨self, r⟩
end
end Mine
end
section
open PySem PySem.W PyProof.Rows PySem.Calls
set_option maxRecDepth 100000
set_option maxHeartbeats 2000000
namespace Mine
section
variable {prog : Program} {w : World} {A : Around} {E : Value → Shared → Prop} {s : Shared} {env : Env} {h₀ : Heap} {x : Str} {body : List Stmt} {Q : Flow → Shared → Prop}
/-- a loop over a list of ints of the base -/
theorem script_here {l : Addr} {vs : List Value} {ns : List Int} {m₀ : Str → Option Value} {all news : List (Addr × Obj)} (J : Nat → (Str → Option Value) → List (Addr × Obj) → Prop)
    (hh : A.handled = none) (hl : h₀.IsList l vs.toArray) (hi : IntsAre vs ns) (F : Fr h₀ env.locals s.heap m₀) (N : News h₀ env.locals s.heap all) (hsub : ∀ p ∈ news, p ∈ all) (hj : J 0 m₀ news)
    (turn : ∀ i n t m₁ news₁ h tk own, ns[i]? = some n → OwnOff own (news₁.map (·.1)) → J i m₁ news₁ → Fr h₀ env.locals h (fun y => if y = x then some (.int n t) else m₁ y) → News h₀ env.locals h (news₁ ++ own) →
      wpAny (model prog w) A (execs body env) (InvPostG h₀ env.locals (J (i + 1)) own { s with heap := h, toks := tk } Q) E { s with heap := h, toks := tk })
    (done : ∀ m₁ news₁ h tk, J ns.length m₁ news₁ → Fr h₀ env.locals h m₁ → News h₀ env.locals h news₁ → Q .next { s with heap := h, toks := tk }) :
    wpAny (model prog w) A (pyIter (.ref l)) (fun it s₂ => LoopHere prog w A h₀ env x body Q E it s₂) E s :=
  iter_invG J hh hl hi F (fun p hp => N p (hsub p hp)) hj (fun i n t m₁ news₁ h tk own hn _ => turn i n t m₁ news₁ h tk own hn) done
/-- a loop over a range by ones -/
theorem range_here {r : Addr} {a₀ b₀ : Int} {t₀ u₀ v₀ : Tok} {n : Nat} {m₀ : Str → Option Value} {all news : List (Addr × Obj)} (J : Nat → (Str → Option Value) → List (Addr × Obj) → Prop)
    (hh : A.handled = none) (hr : IsRange s.heap r a₀ b₀ 1 t₀ u₀ v₀) (hsmall : Builtin.Range.small a₀ b₀ 1 = true) (hsz : Builtin.Range.rangeSize a₀ b₀ 1 = (n : Int)) (F : Fr h₀ env.locals s.heap m₀) (N : News h₀ env.locals s.heap all) (hsub : ∀ p ∈ news, p ∈ all) (hj : J 0 m₀ news)
    (turn : ∀ (i : Nat) t m₁ news₁ h tk own, i < n → OwnOff own (news₁.map (·.1)) → J i m₁ news₁ → Fr h₀ env.locals h (fun y => if y = x then some (.int (a₀ + i) t) else m₁ y) → News h₀ env.locals h (news₁ ++ own) →
      wpAny (model prog w) A (execs body env) (InvPostG h₀ env.locals (J (i + 1)) own { s with heap := h, toks := tk } Q) E { s with heap := h, toks := tk })
    (done : ∀ m₁ news₁ h tk, J n m₁ news₁ → Fr h₀ env.locals h m₁ → News h₀ env.locals h news₁ → Q .next { s with heap := h, toks := tk }) :
    wpAny (model prog w) A (pyIter (.ref r)) (fun it s₂ => LoopHere prog w A h₀ env x body Q E it s₂) E s := by
  refine wpAny_pyIter_range hr hsmall ?_
  have W : Walks prog w A s.heap.objs.size [s.heap.objs.size] [s.heap.objs.size] n (fun i v => i < n ∧ ∃ t, v = .int (a₀ + i * 1) t)
      (fun i h => IsRangeIter h s.heap.objs.size (a₀ + (i : Nat) * 1) ((n : Int) - (i : Nat)) 1) := (Walks.range hh _ a₀ 1 n).bound
  refine kdr_loop J W (fun _ h => h) (fun _ h => h) ?_ ?_ ?_ ?_ (by show IsRangeIter _ _ _ _ _; rw [hsz]; simpa using Heap.get?_push_size _ rfl) (F.push _) (fun p hp => ⟨Heap.get?_push_of_some _ (N p (hsub p hp)).1, (N p (hsub p hp)).2⟩) hj ?_ ?_
  · intro i h hi b hb
    rw [List.mem_singleton.mp hb]
    exact ⟨_, hi⟩
  · intro hm
    exact absurd F.ns.lt (List.mem_singleton.mp hm ▸ Nat.lt_irrefl _)
  · intro b hb
    rw [List.mem_singleton.mp hb]
    exact next_is_new F
  · intro p hp hI
    exact absurd (Heap.lt_size (N p (hsub p hp)).1) ((List.mem_singleton.mp hI) ▸ Nat.lt_irrefl _)
  · rintro i v m₁ nx h tk own hi ⟨_, t, rfl⟩ hsep hJ F₁ N₁
    rw [Int.mul_one] at F₁
    exact turn i t m₁ nx h tk own hi hsep hJ F₁ N₁
  · exact done
/-- the last item -/
theorem last_item {value slice : Expr} {l : Addr} {vs : List Value} {u : Tok} {v : Value} {Q : Value → Shared → Prop} (hl : s.heap.IsList l (vs ++ [v]).toArray) (h : Q v s)
    (hs : subscripted slice false (.ref l) (.int (-1) u) = operate [.ref l, .int (-1) u] (getItem (.ref l) (.int (-1) u)) := by with_unfolding_all rfl) :
    wpAny (model prog w) A (subscriptTail value slice (.ref l) (.int (-1) u)) Q E s := by
  refine kde_neg (j := vs.length) hl (by decide) (by decide) ?_ (by simp) h hs
  have e : ((vs ++ [v]).length : Int) = (vs.length : Int) + 1 := by simp
  have hi : (if (-1 : Int) < 0 then -1 + ((vs ++ [v]).length : Int) else -1) = (vs.length : Int) := by rw [if_pos (by decide), e]; omega
  unfold seqIndex?
  simp only [hi]
  rw [if_pos (by simp; omega)]
  simp
/-- any item -/
theorem at_item {value slice : Expr} {l : Addr} {vs : List Value} {k : Int} {u : Tok} {v : Value} {Q : Value → Shared → Prop} (hl : s.heap.IsList l vs.toArray) (h0 : 0 ≤ k) (hhi : k < 2 ^ 63) (hx : vs[k.toNat]? = some v) (h : Q v s)
    (hs : subscripted slice false (.ref l) (.int k u) = operate [.ref l, .int k u] (getItem (.ref l) (.int k u)) := by with_unfolding_all rfl) :
    wpAny (model prog w) A (subscriptTail value slice (.ref l) (.int k u)) Q E s :=
  tail_any hl.typeIs slot_list_getitem.lookup (wpAny_getItem_list hl h0 hhi (by simpa using hx) h) hs
end
section
variable {prog : Program} {w : World} {A : Around} {E : Value → Shared → Prop} {s : Shared} {h₀ : Heap} {L : Addr} {m : Str → Option Value}
theorem len_at {l : Addr} {its : Array Value} {n : Nat} {Q : Value → Shared → Prop} (hl : s.heap.IsList l its) (hz : its.size = n) (hfit : n ≤ 100000) (h : ∀ t tk, Q (.int (n : Int) t) { s with toks := tk }) :
    wpAny (model prog w) A (call (.builtin "len") [.ref l]) Q E s :=
  Calls.call_len_list hl (by omega) (by rw [hz]; exact h _ _)
theorem len_base {l : Addr} {its : Array Value} {n : Nat} {Q : Value → Shared → Prop} (F : Fr h₀ L s.heap m) (hl : h₀.IsList l its) (hz : its.size = n) (hfit : n ≤ 100000) (h : ∀ t tk, Q (.int (n : Int) t) { s with toks := tk }) :
    wpAny (model prog w) A (call (.builtin "len") [.ref l]) Q E s :=
  len_at (hl.at fun o e => F.keep l o e) hz hfit h
theorem at_base {value slice : Expr} {l : Addr} {vs : List Value} {k : Int} {u : Tok} {v : Value} {Q : Value → Shared → Prop} (F : Fr h₀ L s.heap m) (hl : h₀.IsList l vs.toArray) (h0 : 0 ≤ k) (hhi : k < 2 ^ 63) (hx : vs[k.toNat]? = some v) (h : Q v s)
    (hs : subscripted slice false (.ref l) (.int k u) = operate [.ref l, .int k u] (getItem (.ref l) (.int k u)) := by with_unfolding_all rfl) :
    wpAny (model prog w) A (subscriptTail value slice (.ref l) (.int k u)) Q E s :=
  at_item (hl.at fun o e => F.keep l o e) h0 hhi hx h hs
theorem last_base {value slice : Expr} {l : Addr} {vs : List Value} {u : Tok} {v : Value} {Q : Value → Shared → Prop} (F : Fr h₀ L s.heap m) (hl : h₀.IsList l (vs ++ [v]).toArray) (h : Q v s)
    (hs : subscripted slice false (.ref l) (.int (-1) u) = operate [.ref l, .int (-1) u] (getItem (.ref l) (.int (-1) u)) := by with_unfolding_all rfl) :
    wpAny (model prog w) A (subscriptTail value slice (.ref l) (.int (-1) u)) Q E s :=
  last_item (hl.at fun o e => F.keep l o e) h hs
end
section
variable {prog : Program} {w : World} {A : Around} {E : Value → Shared → Prop} {s : Shared} {env : Env} {h₀ : Heap} {x : Str} {body : List Stmt} {Q : Flow → Shared → Prop}
/-- a loop over range(n) -/
theorem range0_here {r : Addr} {b : Int} {t₀ u₀ v₀ : Tok} {n : Nat} {m₀ : Str → Option Value} {all news : List (Addr × Obj)} (J : Nat → (Str → Option Value) → List (Addr × Obj) → Prop)
    (hh : A.handled = none) (hr : IsRange s.heap r 0 b 1 t₀ u₀ v₀) (hb : b = (n : Int)) (hn : n ≤ 100000) (F : Fr h₀ env.locals s.heap m₀) (N : News h₀ env.locals s.heap all) (hsub : ∀ p ∈ news, p ∈ all) (hj : J 0 m₀ news)
    (turn : ∀ (i : Nat) t m₁ news₁ h tk own, i < n → OwnOff own (news₁.map (·.1)) → J i m₁ news₁ → Fr h₀ env.locals h (fun y => if y = x then some (.int (i : Int) t) else m₁ y) → News h₀ env.locals h (news₁ ++ own) →
      wpAny (model prog w) A (execs body env) (InvPostG h₀ env.locals (J (i + 1)) own { s with heap := h, toks := tk } Q) E { s with heap := h, toks := tk })
    (done : ∀ m₁ news₁ h tk, J n m₁ news₁ → Fr h₀ env.locals h m₁ → News h₀ env.locals h news₁ → Q .next { s with heap := h, toks := tk }) :
    wpAny (model prog w) A (pyIter (.ref r)) (fun it s₂ => LoopHere prog w A h₀ env x body Q E it s₂) E s := by
  subst hb
  refine range_here J hh hr (small_one (by decide) (by decide) (by omega) (by omega)) ?_ F N hsub hj (fun i t m₁ news₁ h tk own hi ho hJ F1 N1 => turn i t m₁ news₁ h tk own hi ho hJ (by rw [Int.zero_add] at F1; exact F1) N1) done
  rw [rangeSize_one]
  by_cases q : (0 : Int) < (n : Int)
  · rw [if_pos q]; omega
  · rw [if_neg q]; omega
end
theorem szL {vs : List Value} (h : vs.length ≤ 100000) : vs.toArray.size ≤ sizeLine := by
  rw [List.size_toArray]; exact Nat.le_trans h (by decide)
theorem starEach_sub {a b : Expr} {p : Pos} {rest : List Expr} {env : Env} : starEach (.Subscript a b p :: rest) env = (false, eval (.Subscript a b p) env) :: starEach rest env := by simp only [starEach]
theorem starEach_tup {a : List Expr} {k : Nat} {p : Pos} {rest : List Expr} {env : Env} : starEach (.Tuple a k p :: rest) env = (false, eval (.Tuple a k p) env) :: starEach rest env := by simp only [starEach]
theorem starEach_call {f : Expr} {a : List Expr} {k : List Keyword} {p : Pos} {rest : List Expr} {env : Env} : starEach (.Call f a k p :: rest) env = (false, eval (.Call f a k p) env) :: starEach rest env := by simp only [starEach]
section
variable {M : Model} {A : Around} {E : Value → Shared → Prop} {s : Shared} {pos : Pos} {id : String} {first : List Value} {env : Env} {Q : Value → Shared → Prop}
theorem cw_sub {a b : Expr} {p : Pos} 
    (h : wpAny M A (spliced (backTo pos (starEach [.Subscript a b p] env))) (fun vs s₁ => wpAny M A (call (.builtin id) (first ++ vs)) Q E s₁) E s) :
    wpAny M A (callWith pos (.builtin id) first (backTo pos (starEach [.Subscript a b p] env)) []) Q E s :=
  callWith_method1 h starEach_sub (by rfl)
theorem cw_tup {a : List Expr} {k : Nat} {p : Pos}
    (h : wpAny M A (spliced (backTo pos (starEach [.Tuple a k p] env))) (fun vs s₁ => wpAny M A (call (.builtin id) (first ++ vs)) Q E s₁) E s) :
    wpAny M A (callWith pos (.builtin id) first (backTo pos (starEach [.Tuple a k p] env)) []) Q E s :=
  callWith_method1 h starEach_tup (by rfl)
end
theorem off_of {own tl : List (Addr × Obj)} {l : Addr} (h : OwnOff own (l :: tl.map (·.1))) : ∀ p ∈ own, p.1 ≠ l := fun p hp => h p hp l (.head _)
theorem all_app {a b : List (Addr × Obj)} {l : Addr} (h1 : ∀ p ∈ a, p.1 ≠ l) (h2 : ∀ p ∈ b, p.1 ≠ l) : ∀ p ∈ a ++ b, p.1 ≠ l := fun p hp => (List.mem_append.mp hp).elim (h1 p) (h2 p)
end Mine
end
section
open PySem PySem.W PyProof.Rows PySem.Calls
set_option maxRecDepth 100000
set_option maxHeartbeats 2000000
namespace Mine
section
variable {prog : Program} {w : World} {A : Around} {E : Value → Shared → Prop} {s : Shared} {h₀ : Heap} {L D b l : Addr} {m : Str → Option Value} {rest : List (Addr × Obj)} {xs ys : List Value} {n n2 : Nat}
theorem not_long {a b : Nat} {e : Bool} (h : a + b ≤ 100000) : ¬(!e && Builtin.List.listTooLong (a + b)) = true := by
  have : Builtin.List.listTooLong (a + b) = false := by
    unfold Builtin.List.listTooLong
    have hs : (100000 : Nat) ≤ sizeLine := by decide
    simp only [decide_eq_false_iff_not]
    omega
  rw [this]; simp
theorem ext_head {Q : Value → Shared → Prop} (F : Fr h₀ L s.heap m) (N : News h₀ L s.heap ((D, W.listOf xs.toArray n) :: rest)) (hb : (b, W.listOf ys.toArray n2) ∈ rest) (off : ∀ p ∈ rest, p.1 ≠ D) (hz : xs.length + ys.length ≤ 100000)
    (h : ∀ n' h', Fr h₀ L h' m → News h₀ L h' ((D, W.listOf (xs ++ ys).toArray n') :: rest) → Q .none { s with heap := h' }) : wpAny (model prog w) A (call (.builtin "list.extend") [.ref D, .ref b]) Q E s := by
  have hs : (100000 : Nat) ≤ sizeLine := by decide
  by_cases q : ys = []
  · subst q
    refine kxn_extend F N (.tail _ hb) (by simp) (Upd.head off) (not_long (by simpa using hz)) (by simp; omega) (by simp; omega) fun h' F' N' => ?_
    rw [show xs = xs ++ [] by simp] at N'
    exact h n h' F' N'
  · refine kl_extend (l := xs ++ ys) F N (.tail _ hb) (by simp) (by simpa using q) (Upd.head off) (not_long (by simpa using hz)) (by simp; omega) (by simp; omega) fun h' F' N' => h (n + 1) h' F' N'
theorem pick_tail (v : Value) (vr : List Value) : kms_pick (v :: vr).toArray.toList (some 1) none = vr := by
  unfold kms_pick kms_lo kms_hi
  simp
end
section
variable {prog : Program} {w : World} {A : Around} {E : Value → Shared → Prop} {s : Shared} {env : Env} {h₀ : Heap} {x : Str} {body : List Stmt} {Q : Flow → Shared → Prop}
theorem tup_loop {l : Addr} {vs : List Value} {k : Nat} {m₀ : Str → Option Value} {news : List (Addr × Obj)} (J : Nat → (Str → Option Value) → List (Addr × Obj) → Prop)
    (hh : A.handled = none) (F : Fr h₀ env.locals s.heap m₀) (N : News h₀ env.locals s.heap ((l, { cls := .type "tuple", data := .seq vs.toArray k }) :: news)) (hj : J 0 m₀ news)
    (turn : ∀ i v m₁ news₁ h tk I oI lo, vs[i]? = some v → J i m₁ news₁ → (∀ p ∈ news₁, p.1 ≠ I) → lo.cls = .type "tuple" → Fr h₀ env.locals h (fun y => if y = x then some v else m₁ y) → News h₀ env.locals h ((I, oI) :: (l, lo) :: news₁) →
      wpAny (model prog w) A (execs body env) (TurnEnd4 h₀ env.locals (J (i + 1)) I oI l lo { s with heap := h, toks := tk } Q) E { s with heap := h, toks := tk })
    (done : ∀ m₁ news₁ h tk, J vs.length m₁ news₁ → Fr h₀ env.locals h m₁ → News h₀ env.locals h news₁ → Q .next { s with heap := h, toks := tk }) :
    wpAny (model prog w) A (pyIter (.ref l)) (fun it s₂ => LoopAtV prog w A h₀ env x body Q E it s₂) E s := by
  have hol := N _ (.head _)
  have hls : s.heap.IsTuple l vs.toArray := ⟨_, hol.1, rfl, _, rfl⟩
  have hlt : l < s.heap.objs.size := Heap.lt_size hol.1
  have hne : l ≠ s.heap.objs.size := Nat.ne_of_lt hlt
  refine wpAny_pyIter_tuple hls ?_
  have W := Walks.tuple (prog := prog) (w := w) hh s.heap.objs.size l hne vs.toArray
  have hlen : vs.toArray.size = vs.length := by simp
  rw [hlen] at W
  refine ⟨_, _, _, vs.length, _, _, m₀, news, J, rfl, W, ?_, ?_, ?_, ⟨⟨_, Heap.get?_push_size _ rfl, rfl, rfl⟩, hls.push _⟩, F.push _, (fun p hp => ⟨Heap.get?_push_of_some _ (N p (.tail _ hp)).1, (N p (.tail _ hp)).2⟩), hj, ?_, ?_⟩
  · intro hm
    rcases List.mem_cons.mp hm with e | hm
    · exact absurd F.ns.lt (e ▸ Nat.lt_irrefl _)
    · exact hol.2.1 (List.mem_singleton.mp hm).symm
  · intro b hb
    rw [List.mem_singleton.mp hb]
    exact next_is_new F
  · intro p hp hI
    exact absurd (Heap.lt_size (N p (.tail _ hp)).1) ((List.mem_singleton.mp hI) ▸ Nat.lt_irrefl _)
  · rintro i v m₁ news₁ s₁ own ⟨hh', tk', rfl⟩ hin hP hJ hoff hown howg hall st F₁ N₁
    have hP' : vs[i]? = some v := by simpa using hP
    obtain ⟨⟨oI, hI, _⟩, ol, hl', hlc, n', hld⟩ := st
    have mI : (s.heap.objs.size, oI) ∈ own := hall _ (by simp) (next_is_new F) _ hI
    have mL : (l, ol) ∈ own := hall _ (by simp) hol.2.2 _ hl'
    have offI : ∀ p ∈ news₁, p.1 ≠ s.heap.objs.size := fun p hp q => hoff p hp (by simp [q])
    have hin' : ∀ p ∈ own, p = (s.heap.objs.size, oI) ∨ p = (l, ol) := fun p hp => by
      have e := howg p hp
      rcases List.mem_cons.mp (hown p hp) with h1 | h1
      · left; rw [h1, hI] at e; cases e; exact Prod.ext h1 rfl
      · right; have h2 := List.mem_singleton.mp h1; rw [h2, hl'] at e; cases e; exact Prod.ext h2 rfl
    have N₂ : News h₀ env.locals hh' ((s.heap.objs.size, oI) :: (l, ol) :: news₁) := fun p hp => by
      rcases List.mem_cons.mp hp with rfl | hp
      · exact N₁ _ (List.mem_append_left _ mI)
      rcases List.mem_cons.mp hp with rfl | hp
      · exact N₁ _ (List.mem_append_left _ mL)
      · exact N₁ _ (List.mem_append_right _ hp)
    refine wpAny_mono (turn i v m₁ news₁ hh' tk' _ oI ol hP' hJ offI hlc F₁ N₂) (fun f s₂ p => ?_) fun _ _ e => e
    have fin : (∃ h' tk m' news', s₂ = { ({ s with heap := hh', toks := tk' } : Shared) with heap := h', toks := tk } ∧ Fr h₀ env.locals h' m' ∧ News h₀ env.locals h' ((s.heap.objs.size, oI) :: (l, ol) :: news') ∧ (∀ p ∈ news', p.1 ≠ s.heap.objs.size) ∧ J (i + 1) m' news') →
        LoopStepU h₀ env.locals [s.heap.objs.size] own (J (i + 1)) { s with heap := hh', toks := tk' } .next s₂ := by
      rintro ⟨h', tk, m', news', e, F', N', hn, hm⟩
      refine ⟨rfl, h', tk, m', news', e, F', fun p hp => ?_, fun p hp hq => hn p hp (List.mem_singleton.mp hq), hm⟩
      rcases List.mem_append.mp hp with hp | hp
      · rcases hin' p hp with rfl | rfl
        · exact N' _ (.head _)
        · exact N' _ (.tail _ (.head _))
      · exact N' _ (.tail _ (.tail _ hp))
    cases f with
    | ret v => exact .ret p
    | brk => exact .brk p
    | next => exact .next (fin p)
    | cont => exact .cont (fin p)
  · rintro h' tk m' news' F' N' _ hJ
    exact done m' news' h' tk hJ F' N'
theorem tup_here {l : Addr} {vs : List Value} {k : Nat} {m₀ : Str → Option Value} {all news : List (Addr × Obj)} (J : Nat → (Str → Option Value) → List (Addr × Obj) → Prop)
    (hh : A.handled = none) (F : Fr h₀ env.locals s.heap m₀) (N : News h₀ env.locals s.heap all) (hl : (l, ({ cls := .type "tuple", data := .seq vs.toArray k } : Obj)) ∈ all) (hsub : ∀ p ∈ news, p ∈ all) (hj : J 0 m₀ news)
    (turn : ∀ i v m₁ news₁ h tk I oI lo, vs[i]? = some v → J i m₁ news₁ → (∀ p ∈ news₁, p.1 ≠ I) → lo.cls = .type "tuple" → Fr h₀ env.locals h (fun y => if y = x then some v else m₁ y) → News h₀ env.locals h ((I, oI) :: (l, lo) :: news₁) →
      wpAny (model prog w) A (execs body env) (TurnEnd4 h₀ env.locals (J (i + 1)) I oI l lo { s with heap := h, toks := tk } Q) E { s with heap := h, toks := tk })
    (done : ∀ m₁ news₁ h tk, J vs.length m₁ news₁ → Fr h₀ env.locals h m₁ → News h₀ env.locals h news₁ → Q .next { s with heap := h, toks := tk }) :
    wpAny (model prog w) A (pyIter (.ref l)) (fun it s₂ => LoopHere prog w A h₀ env x body Q E it s₂) E s :=
  tup_loop J hh F (fun p hp => by
    rcases List.mem_cons.mp hp with rfl | hp
    · exact N _ hl
    · exact N _ (hsub _ hp)) hj turn done
end
section
variable {prog : Program} {w : World} {A : Around} {E : Value → Shared → Prop} {s : Shared}
/-- one of four texts -/
theorem msg_item {value slice : Expr} {t : Addr} {x0 x1 x2 x3 : Str} {t0 t1 t2 t3 : Tok} {k : Int} {u : Tok} {Q : Value → Shared → Prop} (ht : IsTup s.heap t #[.str x0 t0, .str x1 t1, .str x2 t2, .str x3 t3]) (h0 : 0 ≤ k) (h1 : k < 4)
    (l0 : x0.length ≤ 100) (l1 : x1.length ≤ 100) (l2 : x2.length ≤ 100) (l3 : x3.length ≤ 100) (h : ∀ ms tms, ms.length ≤ 100 → Q (.str ms tms) s)
    (hs : subscripted slice false (.ref t) (.int k u) = operate [.ref t, .int k u] (getItem (.ref t) (.int k u)) := by with_unfolding_all rfl) :
    wpAny (model prog w) A (subscriptTail value slice (.ref t) (.int k u)) Q E s := by
  have hj : ∀ j : Nat, k = j → j < 4 → seqIndex? k ([Value.str x0 t0, .str x1 t1, .str x2 t2, .str x3 t3] : List Value).length = some j := by
    intro j e hj
    subst e
    have : ¬ ((j : Int) < 0) := by omega
    unfold seqIndex?
    simp only [List.length_cons, List.length_nil, if_neg this]
    rw [if_pos (by simp; omega)]
    simp
  rcases (by omega : k = (0 : Nat) ∨ k = (1 : Nat) ∨ k = (2 : Nat) ∨ k = (3 : Nat)) with e | e | e | e
  · exact item_tupleT (l := [.str x0 t0, .str x1 t1, .str x2 t2, .str x3 t3]) (x := .str x0 t0) ht (by omega) (by omega) (hj 0 e (by decide)) rfl (h _ _ l0) hs
  · exact item_tupleT (l := [.str x0 t0, .str x1 t1, .str x2 t2, .str x3 t3]) (x := .str x1 t1) ht (by omega) (by omega) (hj 1 e (by decide)) rfl (h _ _ l1) hs
  · exact item_tupleT (l := [.str x0 t0, .str x1 t1, .str x2 t2, .str x3 t3]) (x := .str x2 t2) ht (by omega) (by omega) (hj 2 e (by decide)) rfl (h _ _ l2) hs
  · exact item_tupleT (l := [.str x0 t0, .str x1 t1, .str x2 t2, .str x3 t3]) (x := .str x3 t3) ht (by omega) (by omega) (hj 3 e (by decide)) rfl (h _ _ l3) hs
end
theorem fm4 (n : Int) : n.fmod 4 = n % 4 := Int.fmod_eq_emod_of_nonneg n (by omega)
section
variable {prog : Program} {w : World} {A : Around} {E : Value → Shared → Prop} {s : Shared} {env : Env} {h₀ : Heap} {target : Expr} {body : List Stmt} {Q : Flow → Shared → Prop}
/-- a turn's end where the ledger stays as it was -/
def TurnEnd5 (h₀ : Heap) (L : Addr) (P : (Str → Option Value) → Prop) (c : Addr × Obj) (nw : List (Addr × Obj)) (s₁ : Shared) (Q : Flow → Shared → Prop) (f : Flow) (s₂ : Shared) : Prop :=
  match f with
  | .ret v => Q (.ret v) s₂
  | .brk => Q .next s₂
  | _ => ∃ h' tk m', s₂ = { s₁ with heap := h', toks := tk } ∧ Fr h₀ L h' m' ∧ News h₀ L h' (c :: nw) ∧ P m'
theorem items_all {P : (Str → Option Value) → Prop} {nw keep : List (Addr × Obj)} {I : Addr} {cn : String} (hk : ∀ p ∈ keep, p ∈ nw) (hI : ∀ p ∈ nw, p.1 ≠ I) : ∀ (vs : List Value),
    (∀ v ∈ vs, ∀ m h tk oI, P m → Fr h₀ env.locals h m → News h₀ env.locals h ((I, oI) :: nw) → wpAny (model prog w) A (assign target env v) (fun _ s₂ => wpAny (model prog w) A (execs body env) (TurnEnd5 h₀ env.locals P (I, oI) nw { s with heap := h, toks := tk } Q) E s₂) E { s with heap := h, toks := tk }) →
    (∀ m h tk, P m → Fr h₀ env.locals h m → News h₀ env.locals h nw → Q .next { s with heap := h, toks := tk }) → ∀ m, P m → ItemsRest prog w A E h₀ env target body Q s [(I, cn)] keep (vs.map .val) m nw
  | [], _, done, m, hp => ItemsRest.zero fun h tk F N => done m h tk hp F N
  | v :: r, turn, done, m, hp => by
    have ih := items_all (P := P) (nw := nw) (keep := keep) (I := I) (cn := cn) hk hI r (fun u hu => turn u (.tail _ hu)) done
    refine ItemsRest.val fun h tk F oI _ N => ?_
    refine wpAny_mono (turn v (.head _) m h tk oI hp F N) (fun _ s₂ q => wpAny_mono q (fun f s₃ p => ?_) fun _ _ e => e) fun _ _ e => e
    have fin : (∃ h' tk' m', s₃ = { ({ s with heap := h, toks := tk } : Shared) with heap := h', toks := tk' } ∧ Fr h₀ env.locals h' m' ∧ News h₀ env.locals h' ((I, oI) :: nw) ∧ P m') →
        UnrEndW h₀ env.locals { s with heap := h, toks := tk } [(I, oI)] (fun m' n' => SubL keep n' ∧ ItemsRest prog w A E h₀ env target body Q s [(I, cn)] keep (r.map .val) m' n') s₃ := by
      rintro ⟨h', tk', m', e, F', N', hp'⟩
      refine ⟨h', tk', m', nw, e, F', N', fun p hp q hq => ?_, subL_of hk, ih m' hp'⟩
      rw [List.mem_singleton.mp hq]
      exact hI p hp
    cases f with
    | ret v => exact p
    | brk => exact p
    | next => exact fin p
    | cont => exact fin p
theorem tup_turns {ax : Addr} {lo : Obj} {vs : List Value} {n : Nat} {m₀ : Str → Option Value} {nw : List (Addr × Obj)} (P : (Str → Option Value) → Prop)
    (hh : A.handled = none) (F : Fr h₀ env.locals s.heap m₀) (N : News h₀ env.locals s.heap nw) (hm : (ax, lo) ∈ nw) (hc : lo.cls = .type "tuple") (hd : lo.data = .seq vs.toArray n) (hp : P m₀)
    (turn : ∀ v ∈ vs, ∀ m h tk I oI, P m → (∀ p ∈ nw, p.1 ≠ I) → Fr h₀ env.locals h m → News h₀ env.locals h ((I, oI) :: nw) → wpAny (model prog w) A (assign target env v) (fun _ s₂ => wpAny (model prog w) A (execs body env) (TurnEnd5 h₀ env.locals P (I, oI) nw { s with heap := h, toks := tk } Q) E s₂) E { s with heap := h, toks := tk })
    (done : ∀ m h tk, P m → Fr h₀ env.locals h m → News h₀ env.locals h nw → Q .next { s with heap := h, toks := tk }) :
    wpAny (model prog w) A (pyIter (.ref ax)) (fun it s₂ => TurnsAt prog w A h₀ env target body Q E it s₂) E s :=
  iter_tupTurns hh F N hm hc hd fun I hI => items_all (fun p hp => by rw [List.mem_singleton.mp hp]; exact hm) (fun p hp => Nat.ne_of_lt (hI p hp)) vs (fun v hv m h tk oI hP F' N' => turn v hv m h tk I oI hP (fun p hp => Nat.ne_of_lt (hI p hp)) F' N') done m₀ hp
end
end Mine
end
section
local macro_rules | `(tactic| walk_at "pad") => `(tactic| fail "pad")
local macro_rules | `(tactic| walk_at "pad") => `(tactic| fail "pad")
local macro_rules | `(tactic| walk_at "pad") => `(tactic| fail "pad")
local macro_rules | `(tactic| walk_at "pad") => `(tactic| fail "pad")
local macro_rules | `(tactic| walk_at "pad") => `(tactic| fail "pad")
local macro_rules | `(tactic| walk_at "pad") => `(tactic| fail "pad")
local macro_rules | `(tactic| walk_at "pad") => `(tactic| fail "pad")
local macro_rules | `(tactic| walk_at "pad") => `(tactic| fail "pad")
local macro_rules | `(tactic| walk_at "pad") => `(tactic| fail "pad")
local macro_rules | `(tactic| walk_at "pad") => `(tactic| fail "pad")
local macro_rules | `(tactic| walk_at "pad") => `(tactic| fail "pad")
local macro_rules | `(tactic| walk_at "pad") => `(tactic| fail "pad")
local macro_rules | `(tactic| walk_at "pad") => `(tactic| fail "pad")
local macro_rules | `(tactic| walk_at "pad") => `(tactic| fail "pad")
local macro_rules | `(tactic| walk_at "pad") => `(tactic| fail "pad")
local macro_rules | `(tactic| walk_at "pad") => `(tactic| fail "pad")
local macro_rules | `(tactic| walk_at "pad") => `(tactic| fail "pad")
local macro_rules | `(tactic| walk_at "pad") => `(tactic| fail "pad")
local macro_rules | `(tactic| walk_at "pad") => `(tactic| fail "pad")
local macro_rules | `(tactic| walk_at "pad") => `(tactic| fail "pad")
local macro_rules | `(tactic| walk_at "pad") => `(tactic| fail "pad")
local macro_rules | `(tactic| walk_at "pad") => `(tactic| fail "pad")
local macro_rules | `(tactic| walk_at "pad") => `(tactic| fail "pad")
local macro_rules | `(tactic| walk_at "pad") => `(tactic| fail "pad")
local macro_rules | `(tactic| walk_at "pad") => `(tactic| fail "pad")
local macro_rules | `(tactic| walk_at "pad") => `(tactic| fail "pad")
local macro_rules | `(tactic| walk_at "pad") => `(tactic| fail "pad")
local macro_rules | `(tactic| walk_at "pad") => `(tactic| fail "pad")
local macro_rules | `(tactic| walk_at "pad") => `(tactic| fail "pad")
local macro_rules | `(tactic| walk_at "pad") => `(tactic| fail "pad")
local macro_rules | `(tactic| walk_at "pad") => `(tactic| fail "pad")
local macro_rules | `(tactic| walk_at "pad") => `(tactic| fail "pad")
local macro_rules | `(tactic| walk_at "pad") => `(tactic| fail "pad")
local macro_rules | `(tactic| walk_at "pad") => `(tactic| fail "pad")
local macro_rules | `(tactic| walk_at "pad") => `(tactic| fail "pad")
local macro_rules | `(tactic| walk_at "pad") => `(tactic| fail "pad")
local macro_rules | `(tactic| walk_at "pad") => `(tactic| fail "pad")
local macro_rules | `(tactic| walk_at "pad") => `(tactic| fail "pad")
local macro_rules | `(tactic| walk_at "pad") => `(tactic| fail "pad")
local macro_rules | `(tactic| walk_at "pad") => `(tactic| fail "pad")
local macro_rules | `(tactic| walk_at "pad") => `(tactic| fail "pad")
open PySem PySem.W PyProof.Rows PySem.Calls
set_option maxRecDepth 100000
set_option maxHeartbeats 0
namespace Mine
local macro_rules | `(tactic| walk_at "exec For") => `(tactic| (k_here; k_dflt (refine' For_here ?kF ?k1 ?k2 ?_; (case kF => k_asm); (case k1 => rfl); (case k2 => rfl))))
local macro_rules | `(tactic| walk_at "exec For Name Name cons nil") => `(tactic| (k_here; k_dflt (refine' For_here ?kF ?k1 ?k2 ?_; (case kF => k_asm); (case k1 => rfl); (case k2 => rfl))))
local macro_rules | `(tactic| walk_at "exec For Name Call cons nil") => `(tactic| (k_here; k_dflt (refine' For_here ?kF ?k1 ?k2 ?_; (case kF => k_asm); (case k1 => rfl); (case k2 => rfl))))

local macro_rules | `(tactic| k_all) => `(tactic| assumption)
local macro_rules | `(tactic| walk_at "subscriptTail Name UnaryOp ref int") => `(tactic| (k_here; k_dflt (refine' last_item ?k1 ?_ ?k2; (case k1 => exact News.isList (by k_asm) (by k_mem)); (case k2 => with_unfolding_all rfl); k_whole)))
local macro_rules | `(tactic| walk_at "call builtin:list.append") => `(tactic| (k_here; (with_reducible show wpAny _ _ (call (Value.builtin _) [Value.ref _, _]) _ _ _); k_dflt (refine' append_K ?k1 ?k2 ?k3 ?_ ?z; (case k1 => k_asm); (case k2 => k_asm); (case k3 => k_upd); (case z => exact szL (by assumption)); k_whole); intro h' F' N'; (try k_sweep)))
theorem fm9 (n : Int) : n.fmod 9 = n % 9 := Int.fmod_eq_emod_of_nonneg n (by omega)
local macro_rules | `(tactic| walk_at "subscriptTail") => `(tactic| (k_here; (with_reducible show wpAny _ _ (subscriptTail (Expr.Tuple _ _ _) _ (Value.ref _) (Value.int _ _)) _ _ _); k_dflt (refine' item_anyT ?k1 ?k2 ?k3 ?k4 ?k5 ?_ ?k6; (case k1 => exact News.isTup (by k_asm) (by k_mem)); (case k2 => l_ints); (case k3 => omega); (case k4 => (simp only [List.length_cons, List.length_nil]; omega)); (case k5 => omega); (case k6 => with_unfolding_all rfl); k_whole; intro _)))
local macro_rules | `(tactic| walk_at "getMethod ref") => `(tactic| (k_here; (with_reducible show wpAny _ _ (getMethod (Value.ref _) (PySem.Str.ofString "append") _) _ _ _); k_dflt (refine' listMethod_K ?N ?m PySem.F.slot_list_append PySem.F.type_list_append ?_; (case N => k_asm); (case m => k_mem))))
local macro_rules | `(tactic| walk_at "callWith") => `(tactic| (k_here; (with_reducible show wpAny _ _ (callWith _ _ _ (backTo _ (starEach [Expr.Subscript _ _ _] _)) []) _ _ _); (show wpAny _ _ (callWith _ (Value.builtin "list.append") [Value.ref _] _ _) _ _ _); (with_reducible refine cw_sub ?_)))
abbrev menuL : List Int := [97, 13, 37, 133, 28, 11, 12, 255]
def stepP (st : List (List Int) × List Int) (x : Int) : List (List Int) × List Int :=
  if x % 9 = 0 then (st.1 ++ [st.2], []) else (st.1, st.2 ++ [menuL.getD (x % 9 - 1).toNat 0])
def datL (l : List Int) : Dat := .list (l.map .int)
def JLn (ns : List Int) (i : Nat) (m : Str → Option Value) (nw : List (Addr × Obj)) : Prop :=
  ∃ (l last : Addr) (vs us : List Value) (n1 n2 : Nat) (ls : List (List Int)) (cur : List Int) (tl : List (Addr × Obj)), m (Str.ofString "lines") = some (.ref l) ∧
    nw = (l, W.listOf (vs ++ [Value.ref last]).toArray n1) :: (last, W.listOf us.toArray n2) :: tl ∧ @Ne Nat l last ∧ (∀ p ∈ tl, p.1 ≠ l) ∧ (∀ p ∈ tl, p.1 ≠ last) ∧ IntsAre us cur ∧ DatAll tl vs (ls.map datL) ∧
    (ns.take i).foldl stepP ([], []) = (ls, cur) ∧ ls.length + cur.length ≤ i
def linesOf (ns : List Int) : List (List Int) := (ns.foldl stepP ([], [])).1 ++ [(ns.foldl stepP ([], [])).2]
theorem dat_ints {tl : List (Addr × Obj)} : ∀ {us : List Value} {cur : List Int}, IntsAre us cur → DatAll tl us (cur.map .int)
  | _, _, .nil => .nil
  | _, _, .cons n t h => .cons (.int n t) (dat_ints h)
section
variable {ns : List Int} {i : Nat} {n : Int} {h₀ h' : Heap} {L l last nw D : Addr} {m' : Str → Option Value} {us ws : List Value} {k n1 n2 tk : Nat} {tl own : List (Addr × Obj)} {ls : List (List Int)} {cur : List Int} {s₁ : Shared} {oD : Obj} {tt : Tok}
theorem take_fold (hn : ns[i]? = some n) (hs : (ns.take i).foldl stepP ([], []) = (ls, cur)) : (ns.take (i + 1)).foldl stepP ([], []) = stepP (ls, cur) n := by
  rw [List.take_add_one, hn, List.foldl_append, hs]; rfl
theorem ln_end1 (F : Fr h₀ L h' m') (N : News h₀ L h' ((nw, W.listOf #[] 0) :: (l, W.listOf ((us ++ [Value.ref last]).toArray.push (.ref nw)) k) :: (last, W.listOf ws.toArray n2) :: (tl ++ own))) (hm : m' (Str.ofString "lines") = some (.ref l))
    (hn : ns[i]? = some n) (h9 : n % 9 = 0) (hs : (ns.take i).foldl stepP ([], []) = (ls, cur)) (hI : IntsAre ws cur) (hD : DatAll tl us (ls.map datL)) (hlen : ls.length + cur.length ≤ i) (hlt : @LT.lt Nat _ l nw ∧ @LT.lt Nat _ last nw ∧ AllLt nw (tl ++ own))
    (hll : @Ne Nat l last) (ht1 : ∀ p ∈ tl, p.1 ≠ l) (ht2 : ∀ p ∈ tl, p.1 ≠ last) (ho : OwnOff own (((l, W.listOf (us ++ [Value.ref last]).toArray n1) :: (last, W.listOf ws.toArray n2) :: tl).map (·.1))) (hl2 : ls.length ≤ i) :
    InvEndG h₀ L (JLn ns (i + 1)) own s₁ { s₁ with heap := h', toks := tk } := by
  have hnw := tbn_neAll hlt.2.2
  rw [List.push_toArray] at N
  refine InvEndG.intro F N (nx := (l, W.listOf ((us ++ [Value.ref last]) ++ [Value.ref nw]).toArray k) :: (nw, W.listOf ([] : List Value).toArray 0) :: (last, W.listOf ws.toArray n2) :: tl) ?_ ?_ ?_ ?_
  · refine ⟨l, nw, us ++ [.ref last], [], k, 0, ls ++ [cur], [], (last, W.listOf ws.toArray n2) :: tl, hm, rfl, Nat.ne_of_lt hlt.1, ?_, ?_, .nil, ?_, ?_, ?_⟩
    · intro p hp
      rcases List.mem_cons.mp hp with rfl | hp
      · exact Ne.symm hll
      · exact ht1 p hp
    · intro p hp
      rcases List.mem_cons.mp hp with rfl | hp
      · exact Nat.ne_of_lt hlt.2.1
      · exact hnw p (List.mem_append_left _ hp)
    · rw [List.map_append]
      exact (hD.mono fun p hp => .tail _ hp).append (DatAll.one (.list (n := n2) (.head _) (dat_ints hI)))
    · rw [take_fold hn hs]; unfold stepP; rw [if_pos h9]
    · simp only [List.length_append, List.length_cons, List.length_nil]; omega
  · intro p hp b hb
    rcases List.mem_cons.mp hb with rfl | hb
    · exact ho p hp _ (.head _)
    rcases List.mem_cons.mp hb with rfl | hb
    · exact hnw p (List.mem_append_right _ hp)
    · exact ho p hp _ (.tail _ hb)
  · intro p hp
    rcases List.mem_cons.mp hp with rfl | hp
    · exact .tail _ (.head _)
    rcases List.mem_cons.mp hp with rfl | hp
    · exact .head _
    rcases List.mem_cons.mp hp with rfl | hp
    · exact .tail _ (.tail _ (.head _))
    · exact .tail _ (.tail _ (.tail _ (List.mem_append_left _ hp)))
  · intro p hp
    exact .tail _ (.tail _ (.tail _ (List.mem_append_right _ hp)))
theorem ln_end2 (F : Fr h₀ L h' m') (N : News h₀ L h' ((D, oD) :: (l, W.listOf (us ++ [Value.ref last]).toArray n1) :: (last, W.listOf (ws.toArray.push (.int (menuL.getD (n.fmod 9 - 1).toNat 0) tt)) k) :: (tl ++ own))) (hm : m' (Str.ofString "lines") = some (.ref l))
    (hn : ns[i]? = some n) (h9 : n.fmod 9 ≠ 0) (h9' : n.fmod 9 = n % 9) (hs : (ns.take i).foldl stepP ([], []) = (ls, cur)) (hI : IntsAre ws cur) (hD : DatAll tl us (ls.map datL)) (hlen : ls.length + cur.length ≤ i)
    (hll : @Ne Nat l last) (ht1 : ∀ p ∈ tl, p.1 ≠ l) (ht2 : ∀ p ∈ tl, p.1 ≠ last) (ho : OwnOff own (((l, W.listOf (us ++ [Value.ref last]).toArray n1) :: (last, W.listOf ws.toArray n2) :: tl).map (·.1))) :
    InvEndG h₀ L (JLn ns (i + 1)) own s₁ { s₁ with heap := h', toks := tk } := by
  rw [List.push_toArray] at N
  refine InvEndG.intro F N (nx := (l, W.listOf (us ++ [Value.ref last]).toArray n1) :: (last, W.listOf (ws ++ [Value.int (menuL.getD (n.fmod 9 - 1).toNat 0) tt]).toArray k) :: tl) ?_ ?_ ?_ ?_
  · refine ⟨l, last, us, _, n1, k, ls, cur ++ [menuL.getD (n.fmod 9 - 1).toNat 0], tl, hm, rfl, hll, ht1, ht2, hI.append (.cons _ _ .nil), hD, ?_, ?_⟩
    · rw [take_fold hn hs]; unfold stepP; rw [if_neg (by rw [← h9']; exact h9), h9']
    · simp only [List.length_append, List.length_cons, List.length_nil]; omega
  · intro p hp b hb
    exact ho p hp _ hb
  · intro p hp
    rcases List.mem_cons.mp hp with rfl | hp
    · exact .tail _ (.head _)
    rcases List.mem_cons.mp hp with rfl | hp
    · exact .tail _ (.tail _ (.head _))
    · exact .tail _ (.tail _ (.tail _ (List.mem_append_left _ hp)))
  · intro p hp
    exact .tail _ (.tail _ (.tail _ (List.mem_append_right _ hp)))
end
theorem lines_call {w : World} {dp un : Nat} {gd : Option (List Code)} {cn : Str} {cs : Scope} {a : Addr} {ccd : Value} {cl : List (Str × Addr)} {outer : List Env} {A₀ : Around} {base h₀ : Heap} {L : Addr} {m : Str → Option Value} {s : Shared} {Q E : Value → Shared → Prop}
  {mean : ExcName → Option Value} {mg mb : Str → Option Value} {lv : Addr} {vs : List Value} {ns : List Int}
  (B : Below A₀ base outer h₀) (F : Fr h₀ L s.heap m) (X : (hd.heap_39 w.params).In h₀) (T : Top hd.view_39 (looseW hd.view_39 [Str.ofString "PatternError"]) mean mg mb h₀) (hk : cs.kind = .function)
  (hdp : dp + 1 < recursionLimit) (hl : s.heap.IsList lv vs.toArray) (hi : IntsAre vs ns) (hn : ns.length ≤ 63)
  (ret : ∀ (r : Addr) (us : List Value) (k : Nat) (tl : List (Addr × Obj)) (L' : Addr) (h' : Heap) (tk : Nat), s.heap.StaysIn h' → News s.heap L' h' ((r, W.listOf us.toArray k) :: tl) → DatAll tl us ((linesOf ns).map datL) → Q (.ref r) { s with heap := h', toks := tk }) :
  wpAny (model PySem.Challenge.rw_dn0146_03.row.prog w) (ktrTop dp un gd cn cs L a ccd cl outer) (call (.ref 44) [.ref lv]) Q E s := by
  revert X; k_fill; intro X
  refine wpAny_call ?_
  k_dflt (refine' enter_pure ?k1 ?k2 ?k3 ?k5 ?kA ?kF ?kK ?k6 ?k7 ?k8 ?k9 ?kB ?_ ?c2 ?c3 ?c4 ?c5; (case kA => exact rfl); (case kF => exact rfl); (case kK => assumption); (case k1 => k_asm); (case k2 => k_asm); (case k3 => k_asm); (case k5 => k_asm); (case k6 => k_is); (case k7 => k_is); (case k8 => ktr_room); (case k9 => exact BindsTo.of_eq rfl); (case c5 => decide); (case kB => exact locs rfl); (case c2 => exact rfl); (case c3 => exact rfl); (case c4 => exact rfl); intro L' h' F' N' B' X' T'; (try dsimp only); (try k_fold))
  k_steps
  rename News _ _ _ _ => N1
  rename Fr _ _ _ _ => F1
  refine script_here (JLn ns) ?hh hl hi F1 N1 (fun _ hp => hp) ?start ?turn ?done
  case hh => rfl
  case start =>
    exact ⟨_, _, [], [], _, _, [], [], [], rfl, rfl, by omega, by simp, by simp, .nil, .nil, rfl, by simp⟩
  case turn =>
    clear F1 N1
    intro i n tn m₁ news₁ h tk own hn' ho hJ F1 N1
    obtain ⟨l, last, us, ws, n1, n2, ls, cur, tl, hm, rfl, hll, ht1, ht2, hI, hD, hs, hlen⟩ := hJ
    rw [mapc hm rfl] at F1
    have hi63 : i < 63 := by have := (List.getElem?_eq_some_iff.mp hn').1; omega
    have hul : us.length ≤ 1000 := by have := hD.length; rw [List.length_map] at this; omega
    have hul' : (us ++ [Value.ref last]).length ≤ 1000 := by have := hD.length; rw [List.length_map] at this; simp; omega
    have hwl : ws.length ≤ 1000 := by have := hI.length; omega
    obtain ⟨T0, hT0⟩ : ∃ T0, T0 = tl ++ own := ⟨_, rfl⟩
    have hT1 : ∀ p ∈ T0, p.1 ≠ l := hT0 ▸ all_app ht1 fun p hp => ho p hp l (.head _)
    have hT2 : ∀ p ∈ T0, p.1 ≠ last := hT0 ▸ all_app ht2 fun p hp => ho p hp last (.tail _ (.head _))
    replace N1 : News s.heap L' h ((l, W.listOf (us ++ [Value.ref last]).toArray n1) :: (last, W.listOf ws.toArray n2) :: T0) := hT0 ▸ N1
    have h9 := fm9 n
    k_steps
    all_goals (rename News _ _ _ _ => N9; rename Fr _ _ _ _ => F9; subst hT0)
    · exact ln_end1 F9 N9 rfl hn' (by omega) hs hI hD hlen (by assumption) hll ht1 ht2 ho (by omega)
    · exact ln_end2 F9 N9 rfl hn' (by assumption) h9 hs hI hD hlen hll ht1 ht2 ho
  case done =>
    clear F1 N1
    intro m₁ news₁ h tk hJ F1 N1
    obtain ⟨l, last, us, ws, n1, n2, ls, cur, tl, hm, rfl, hll, ht1, ht2, hI, hD, hs, hlen⟩ := hJ
    rw [mapc hm rfl] at F1
    k_steps
    rename News _ _ _ _ => N9
    rename Fr _ _ _ _ => F9
    refine ret _ _ _ _ _ _ _ F9.keep N9 ?_
    rw [List.take_length] at hs
    unfold linesOf
    rw [hs, List.map_append]
    exact (hD.mono fun p hp => .tail _ hp).append (DatAll.one (.list (n := n2) (.head _) (dat_ints hI)))
end Mine
end
section
local macro_rules | `(tactic| walk_at "pad") => `(tactic| fail "pad")
local macro_rules | `(tactic| walk_at "pad") => `(tactic| fail "pad")
local macro_rules | `(tactic| walk_at "pad") => `(tactic| fail "pad")
local macro_rules | `(tactic| walk_at "pad") => `(tactic| fail "pad")
local macro_rules | `(tactic| walk_at "pad") => `(tactic| fail "pad")
local macro_rules | `(tactic| walk_at "pad") => `(tactic| fail "pad")
local macro_rules | `(tactic| walk_at "pad") => `(tactic| fail "pad")
local macro_rules | `(tactic| walk_at "pad") => `(tactic| fail "pad")
local macro_rules | `(tactic| walk_at "pad") => `(tactic| fail "pad")
local macro_rules | `(tactic| walk_at "pad") => `(tactic| fail "pad")
local macro_rules | `(tactic| walk_at "pad") => `(tactic| fail "pad")
local macro_rules | `(tactic| walk_at "pad") => `(tactic| fail "pad")
local macro_rules | `(tactic| walk_at "pad") => `(tactic| fail "pad")
local macro_rules | `(tactic| walk_at "pad") => `(tactic| fail "pad")
local macro_rules | `(tactic| walk_at "pad") => `(tactic| fail "pad")
local macro_rules | `(tactic| walk_at "pad") => `(tactic| fail "pad")
local macro_rules | `(tactic| walk_at "pad") => `(tactic| fail "pad")
local macro_rules | `(tactic| walk_at "pad") => `(tactic| fail "pad")
local macro_rules | `(tactic| walk_at "pad") => `(tactic| fail "pad")
local macro_rules | `(tactic| walk_at "pad") => `(tactic| fail "pad")
local macro_rules | `(tactic| walk_at "pad") => `(tactic| fail "pad")
local macro_rules | `(tactic| walk_at "pad") => `(tactic| fail "pad")
local macro_rules | `(tactic| walk_at "pad") => `(tactic| fail "pad")
local macro_rules | `(tactic| walk_at "pad") => `(tactic| fail "pad")
local macro_rules | `(tactic| walk_at "pad") => `(tactic| fail "pad")
local macro_rules | `(tactic| walk_at "pad") => `(tactic| fail "pad")
local macro_rules | `(tactic| walk_at "pad") => `(tactic| fail "pad")
local macro_rules | `(tactic| walk_at "pad") => `(tactic| fail "pad")
local macro_rules | `(tactic| walk_at "pad") => `(tactic| fail "pad")
local macro_rules | `(tactic| walk_at "pad") => `(tactic| fail "pad")
local macro_rules | `(tactic| walk_at "pad") => `(tactic| fail "pad")
local macro_rules | `(tactic| walk_at "pad") => `(tactic| fail "pad")
local macro_rules | `(tactic| walk_at "pad") => `(tactic| fail "pad")
local macro_rules | `(tactic| walk_at "pad") => `(tactic| fail "pad")
local macro_rules | `(tactic| walk_at "pad") => `(tactic| fail "pad")
local macro_rules | `(tactic| walk_at "pad") => `(tactic| fail "pad")
local macro_rules | `(tactic| walk_at "pad") => `(tactic| fail "pad")
local macro_rules | `(tactic| walk_at "pad") => `(tactic| fail "pad")
local macro_rules | `(tactic| walk_at "pad") => `(tactic| fail "pad")
local macro_rules | `(tactic| walk_at "pad") => `(tactic| fail "pad")
local macro_rules | `(tactic| walk_at "pad") => `(tactic| fail "pad")
local macro_rules | `(tactic| walk_at "pad") => `(tactic| fail "pad")
local macro_rules | `(tactic| walk_at "pad") => `(tactic| fail "pad")
local macro_rules | `(tactic| walk_at "pad") => `(tactic| fail "pad")
local macro_rules | `(tactic| walk_at "pad") => `(tactic| fail "pad")
local macro_rules | `(tactic| walk_at "pad") => `(tactic| fail "pad")
local macro_rules | `(tactic| walk_at "pad") => `(tactic| fail "pad")
local macro_rules | `(tactic| walk_at "pad") => `(tactic| fail "pad")
local macro_rules | `(tactic| walk_at "pad") => `(tactic| fail "pad")
open PySem PySem.W PyProof.Rows PySem.Calls
set_option maxRecDepth 100000
set_option maxHeartbeats 0
namespace Mine
local macro_rules | `(tactic| walk_at "exec For") => `(tactic| (k_here; k_dflt (refine' For_here ?kF ?k1 ?k2 ?_; (case kF => k_asm); (case k1 => rfl); (case k2 => rfl))))
local macro_rules | `(tactic| walk_at "exec For Name Name cons nil") => `(tactic| (k_here; k_dflt (refine' For_here ?kF ?k1 ?k2 ?_; (case kF => k_asm); (case k1 => rfl); (case k2 => rfl))))
local macro_rules | `(tactic| walk_at "exec For Name Call cons nil") => `(tactic| (k_here; k_dflt (refine' For_here ?kF ?k1 ?k2 ?_; (case kF => k_asm); (case k1 => rfl); (case k2 => rfl))))

local macro_rules | `(tactic| k_all) => `(tactic| assumption)
local macro_rules | `(tactic| walk_at "call builtin:len") => `(tactic| (k_here; (with_reducible show wpAny _ _ (call (Value.builtin "len") [Value.ref _]) _ _ _); k_dflt (refine' len_base ?k1 ?k2 ?k3 ?k4 ?_; (case k1 => k_asm); (case k2 => assumption); (case k3 => assumption); (case k4 => assumption); k_whole; intro _ _)))
/-- lists of the lengths lens -/
def LensAt (h : Heap) (vs : List Value) (lens : List Nat) : Prop := vs.length = lens.length ∧ ∀ (i n : Nat), lens[i]? = some n → ∃ (r : Addr) (us : Array Value), vs[i]? = some (Value.ref r) ∧ h.IsList r us ∧ us.size = n
def row (k n : Nat) : List (Int × Int) := (List.range n).map fun (j : Nat) => ((k : Int) + 1, (j : Int) + 1)
def rows : Nat → List Nat → List (Int × Int)
  | _, [] => []
  | k, n :: r => row k (n + 1) ++ rows (k + 1) r
def datP (p : Int × Int) : Dat := .tuple [.int p.1, .int p.2]
def readOf (lens : List Nat) : List (Int × Int) := rows 0 lens ++ [((lens.length : Int), (lens.getLastD 0 : Int) + 2), ((lens.length : Int), (lens.getLastD 0 : Int) + 3)]
def JOut (lens : List Nat) (lv : Addr) (i : Nat) (m : Str → Option Value) (nw : List (Addr × Obj)) : Prop :=
  ∃ (d : Addr) (ds : List Value) (k : Nat) (tl : List (Addr × Obj)), m (Str.ofString "due") = some (Value.ref d) ∧ m (Str.ofString "lines") = some (Value.ref lv) ∧ nw = (d, W.listOf ds.toArray k) :: tl ∧ (∀ p ∈ tl, p.1 ≠ d) ∧ DatAll tl ds ((rows 0 (lens.take i)).map datP)
local macro_rules | `(tactic| walk_at "subscriptTail Name Name ref int") => `(tactic| (k_here; k_dflt (refine' at_base ?k0 ?k1 ?k2 ?k3 ?k4 ?_ ?k5; (case k0 => k_asm); (case k1 => assumption); (case k2 => omega); (case k3 => omega); (case k4 => assumption); (case k5 => with_unfolding_all rfl); k_whole)))
local macro_rules | `(tactic| walk_at "subscriptTail Name UnaryOp ref int") => `(tactic| (k_here; k_dflt (refine' last_base ?k0 ?k1 ?_ ?k2; (case k0 => k_asm); (case k1 => assumption); (case k2 => with_unfolding_all rfl); k_whole)))
local macro_rules | `(tactic| walk_at "call builtin:list.append") => `(tactic| (k_here; (with_reducible show wpAny _ _ (call (Value.builtin _) [Value.ref _, _]) _ _ _); k_dflt (refine' append_K ?k1 ?k2 ?k3 ?_ ?z; (case k1 => k_asm); (case k2 => k_asm); (case k3 => k_upd); (case z => first | exact szL (by assumption) | (rw [List.push_toArray]; exact szL (‹∀ v : Value, (_ ++ [v]).length ≤ 100000› _))); k_whole); intro h' F' N'; (try k_sweep)))
local macro_rules | `(tactic| walk_at "getMethod ref") => `(tactic| (k_here; (with_reducible show wpAny _ _ (getMethod (Value.ref _) (PySem.Str.ofString "append") _) _ _ _); k_dflt (refine' listMethod_K ?N ?m PySem.F.slot_list_append PySem.F.type_list_append ?_; (case N => k_asm); (case m => k_mem))))
local macro_rules | `(tactic| walk_at "callWith") => `(tactic| (k_here; (with_reducible show wpAny _ _ (callWith _ _ _ (backTo _ (starEach [Expr.Tuple _ _ _] _)) []) _ _ _); (show wpAny _ _ (callWith _ (Value.builtin "list.append") [Value.ref _] _ _) _ _ _); (with_reducible refine cw_tup ?_)))
def JIn (lens : List Nat) (lv : Addr) (i : Nat) (ti : Tok) (own : List (Addr × Obj)) (d : Addr) (j : Nat) (m : Str → Option Value) (nw : List (Addr × Obj)) : Prop :=
  ∃ (ds : List Value) (k : Nat) (tl : List (Addr × Obj)), m (Str.ofString "due") = some (Value.ref d) ∧ m (Str.ofString "lines") = some (Value.ref lv) ∧ m (Str.ofString "i") = some (Value.int i ti) ∧ nw = (d, W.listOf ds.toArray k) :: (tl ++ own) ∧ (∀ p ∈ tl, p.1 ≠ d) ∧ OwnOff own (tl.map (·.1)) ∧ DatAll tl ds ((rows 0 (lens.take i) ++ row i j).map datP)
theorem row_snoc (k n : Nat) : row k (n + 1) = row k n ++ [((k : Int) + 1, (n : Int) + 1)] := by
  unfold row; rw [List.range_succ, List.map_append]; rfl
theorem rows_snoc : ∀ (k : Nat) (l : List Nat) (n : Nat), rows k (l ++ [n]) = rows k l ++ row (k + l.length) (n + 1)
  | k, [], n => by simp [rows]
  | k, a :: r, n => by
    rw [List.cons_append, rows, rows, rows_snoc (k + 1) r n, List.append_assoc, List.length_cons]
    rw [show k + 1 + r.length = k + (r.length + 1) by omega]
theorem rows_len : ∀ (k : Nat) (l : List Nat), (∀ n ∈ l, n ≤ 64) → (rows k l).length ≤ 65 * l.length
  | k, [], _ => by simp [rows]
  | k, a :: r, h => by
    have h1 := h a (.head _)
    have h2 := rows_len (k + 1) r fun n hn => h n (.tail _ hn)
    simp only [rows, row, List.length_append, List.length_map, List.length_range, List.length_cons]
    omega
section
variable {h₀ h' : Heap} {L d D lv : Addr} {m' : Str → Option Value} {ds : List Value} {k n2 tk i j : Nat} {tl own own' : List (Addr × Obj)} {lens : List Nat} {s₁ : Shared} {t1 t2 ti : Tok}
theorem in_end (F : Fr h₀ L h' m') (N : News h₀ L h' ((D, ({ cls := .type "tuple", data := .seq #[.int ((i : Int) + 1) t1, .int ((j : Int) + 1) t2] n2 } : Obj)) :: (d, W.listOf (ds.toArray.push (.ref D)) k) :: ((tl ++ own) ++ own')))
    (hm1 : m' (Str.ofString "due") = some (Value.ref d)) (hm2 : m' (Str.ofString "lines") = some (Value.ref lv)) (hm3 : m' (Str.ofString "i") = some (Value.int i ti)) (ht : ∀ p ∈ tl, p.1 ≠ d) (ho : OwnOff own (tl.map (·.1)))
    (hD : DatAll tl ds ((rows 0 (lens.take i) ++ row i j).map datP)) (hlt : @LT.lt Nat _ d D ∧ AllLt D ((tl ++ own) ++ own')) (ho' : OwnOff own' (d :: (tl ++ own).map (·.1))) :
    InvEndG h₀ L (JIn lens lv i ti own d (j + 1)) own' s₁ { s₁ with heap := h', toks := tk } := by
  have hnw := tbn_neAll hlt.2
  rw [List.push_toArray] at N
  refine InvEndG.intro F N (nx := (d, W.listOf (ds ++ [Value.ref D]).toArray k) :: (((D, ({ cls := .type "tuple", data := .seq #[.int ((i : Int) + 1) t1, .int ((j : Int) + 1) t2] n2 } : Obj)) :: tl) ++ own)) ?_ ?_ ?_ ?_
  · refine ⟨_, k, _, hm1, hm2, hm3, rfl, ?_, ?_, ?_⟩
    · intro p hp
      rcases List.mem_cons.mp hp with rfl | hp
      · exact Nat.ne_of_gt hlt.1
      · exact ht p hp
    · intro p hp b hb
      rcases List.mem_cons.mp hb with rfl | hb
      · exact hnw p (List.mem_append_left _ (List.mem_append_right _ hp))
      · exact ho p hp b hb
    · rw [row_snoc, ← List.append_assoc, List.map_append]
      exact (hD.mono fun p hp => .tail _ hp).append (DatAll.one (.tuple (n := n2) (vs := [.int ((i : Int) + 1) t1, .int ((j : Int) + 1) t2]) (.head _) (.cons (.int _ _) (.cons (.int _ _) .nil))))
  · intro p hp b hb
    rcases List.mem_cons.mp hb with rfl | hb
    · exact ho' p hp _ (.head _)
    rcases List.mem_cons.mp hb with rfl | hb
    · exact hnw p (List.mem_append_right _ hp)
    · exact ho' p hp _ (.tail _ hb)
  · intro p hp
    rcases List.mem_cons.mp hp with rfl | hp
    · exact .tail _ (.head _)
    rcases List.mem_cons.mp hp with rfl | hp
    · exact .head _
    · exact .tail _ (.tail _ (List.mem_append_left _ hp))
  · intro p hp
    exact .tail _ (.tail _ (List.mem_append_right _ hp))
theorem out_end {n : Nat} (F : Fr h₀ L h' m') (N : News h₀ L h' ((d, W.listOf ds.toArray k) :: (tl ++ own)))
    (hm1 : m' (Str.ofString "due") = some (Value.ref d)) (hm2 : m' (Str.ofString "lines") = some (Value.ref lv)) (ht : ∀ p ∈ tl, p.1 ≠ d) (ho : OwnOff own (tl.map (·.1))) (hod : ∀ p ∈ own, p.1 ≠ d)
    (hD : DatAll tl ds ((rows 0 (lens.take i) ++ row i (n + 1)).map datP)) (hni : lens[i]? = some n) (hi : i < lens.length) :
    InvEndG h₀ L (JOut lens lv (i + 1)) own s₁ { s₁ with heap := h', toks := tk } := by
  refine InvEndG.intro F N (nx := (d, W.listOf ds.toArray k) :: tl) ?_ ?_ ?_ ?_
  · refine ⟨d, ds, k, tl, hm1, hm2, rfl, ht, ?_⟩
    rw [List.take_add_one, hni]
    show DatAll tl ds ((rows 0 (lens.take i ++ [n])).map datP)
    rw [rows_snoc, Nat.zero_add, List.length_take, Nat.min_eq_left (Nat.le_of_lt hi)]
    exact hD
  · intro p hp b hb
    rcases List.mem_cons.mp hb with rfl | hb
    · exact hod p hp
    · exact ho p hp b hb
  · intro p hp
    rcases List.mem_cons.mp hp with rfl | hp
    · exact .head _
    · exact .tail _ (List.mem_append_left _ hp)
  · intro p hp
    exact .tail _ (List.mem_append_right _ hp)
theorem rows_take {k i : Nat} (h : ∀ n ∈ lens, n ≤ 64) : (rows k (lens.take i)).length ≤ 65 * lens.length := by
  refine Nat.le_trans (rows_len k _ fun n hn => h n (List.mem_of_mem_take hn)) ?_
  rw [List.length_take]
  exact Nat.mul_le_mul_left _ (Nat.min_le_right _ _)
theorem rot3 {a b c : Addr × Obj} (N : News h₀ L h' (a :: b :: c :: tl)) : News h₀ L h' (c :: b :: a :: tl) := by
  intro p hp
  refine N p ?_
  rcases List.mem_cons.mp hp with rfl | hp
  · exact .tail _ (.tail _ (.head _))
  rcases List.mem_cons.mp hp with rfl | hp
  · exact .tail _ (.head _)
  rcases List.mem_cons.mp hp with rfl | hp
  · exact .head _
  · exact .tail _ (.tail _ (.tail _ hp))
theorem row_len (k n : Nat) : (row k n).length = n := by simp [row]
end
theorem reading_call {w : World} {dp un : Nat} {gd : Option (List Code)} {cn : Str} {cs : Scope} {a : Addr} {ccd : Value} {cl : List (Str × Addr)} {outer : List Env} {A₀ : Around} {base h₀ : Heap} {L : Addr} {m : Str → Option Value} {s : Shared} {Q E : Value → Shared → Prop}
  {mean : ExcName → Option Value} {mg mb : Str → Option Value} {lv : Addr} {vs : List Value} {lens : List Nat}
  (B : Below A₀ base outer h₀) (F : Fr h₀ L s.heap m) (X : (hd.heap_39 w.params).In h₀) (T : Top hd.view_39 (looseW hd.view_39 [Str.ofString "PatternError"]) mean mg mb h₀) (hk : cs.kind = .function)
  (hdp : dp + 1 < recursionLimit) (hl : s.heap.IsList lv vs.toArray) (hL : LensAt s.heap vs lens) (hne : lens ≠ []) (hn : lens.length ≤ 64) (hb : ∀ n ∈ lens, n ≤ 64)
  (ret : ∀ (r : Addr) (us : List Value) (k : Nat) (tl : List (Addr × Obj)) (L' : Addr) (h' : Heap) (tk : Nat), s.heap.StaysIn h' → News s.heap L' h' ((r, W.listOf us.toArray k) :: tl) → DatAll tl us ((readOf lens).map datP) → Q (.ref r) { s with heap := h', toks := tk }) :
  wpAny (model PySem.Challenge.rw_dn0146_03.row.prog w) (ktrTop dp un gd cn cs L a ccd cl outer) (call (.ref 51) [.ref lv]) Q E s := by
  revert X; k_fill; intro X
  refine wpAny_call ?_
  k_dflt (refine' enter_pure ?k1 ?k2 ?k3 ?k5 ?kA ?kF ?kK ?k6 ?k7 ?k8 ?k9 ?kB ?_ ?c2 ?c3 ?c4 ?c5; (case kA => exact rfl); (case kF => exact rfl); (case kK => assumption); (case k1 => k_asm); (case k2 => k_asm); (case k3 => k_asm); (case k5 => k_asm); (case k6 => k_is); (case k7 => k_is); (case k8 => ktr_room); (case k9 => exact BindsTo.of_eq rfl); (case c5 => decide); (case kB => exact locs rfl); (case c2 => exact rfl); (case c3 => exact rfl); (case c4 => exact rfl); intro L' h' F' N' B' X' T'; (try dsimp only); (try k_fold))
  have hvl : vs.toArray.size = lens.length := by rw [List.size_toArray]; exact hL.1
  have hvb : lens.length ≤ 100000 := by omega
  k_steps
  rename News _ _ _ _ => N1
  rename Fr _ _ _ _ => F1
  rename IsRange _ _ _ _ _ _ _ _ => R1
  refine range0_here (n := lens.length) (JOut lens lv) ?hh R1 rfl (by omega) F1 N1 (fun _ hp => hp) ?start ?turn ?done
  case hh => rfl
  case start =>
    exact ⟨_, [], _, [], rfl, rfl, rfl, by simp, .nil⟩
  case turn =>
    clear F1 N1 R1
    intro i ti m₁ news₁ h tk own hi ho hJ F1 N1
    obtain ⟨d, ds, k, tl, hm1, hm2, rfl, ht, hD⟩ := hJ
    rw [mapc hm1 (mapc hm2 rfl)] at F1
    obtain ⟨n, hni⟩ : ∃ n, lens[i]? = some n := ⟨_, List.getElem?_eq_getElem hi⟩
    obtain ⟨r, us, hr, hus, hun⟩ := hL.2 i n hni
    have hn64 : n ≤ 64 := hb n (List.mem_of_getElem? hni)
    have hn2 : n ≤ 100000 := by omega
    have hri : vs[((i : Nat) : Int).toNat]? = some (Value.ref r) := by rw [Int.toNat_natCast]; exact hr
    obtain ⟨T0, hT0⟩ : ∃ T0, T0 = tl ++ own := ⟨_, rfl⟩
    have hT1 : ∀ p ∈ T0, p.1 ≠ d := hT0 ▸ all_app ht fun p hp => ho p hp d (.head _)
    replace N1 : News s.heap L' h ((d, W.listOf ds.toArray k) :: T0) := hT0 ▸ N1
    k_steps
    rename News _ _ _ _ => N2
    rename Fr _ _ _ _ => F2
    rename IsRange _ _ _ _ _ _ _ _ => R2
    subst hT0
    have hod : ∀ p ∈ own, p.1 ≠ d := fun p hp => ho p hp d (.head _)
    refine range0_here (n := n + 1) (JIn lens lv i ti own d) ?hh2 R2 (by simp) (by omega) F2 N2 (fun _ hp => hp) ?start2 ?turn2 ?done2
    case hh2 => rfl
    case start2 =>
      exact ⟨ds, k, tl, rfl, rfl, rfl, rfl, ht, fun p hp b hb => ho p hp b (.tail _ hb), by simpa [row] using hD⟩
    case turn2 =>
      clear F2 N2 R2 hT1
      intro j tj m₂ news₂ h2 tk2 own' hj ho' hJ F1 N1
      clear hD ho
      obtain ⟨ds, k, tl, hm1, hm2, hm3, rfl, ht, ho, hD⟩ := hJ
      rw [mapc hm1 (mapc hm2 (mapc hm3 rfl))] at F1
      have hdl : ds.length ≤ 100000 := by
        have h1 := hD.length
        have h2 := rows_take (k := 0) (i := i) hb
        rw [List.length_map, List.length_append, row_len] at h1
        omega
      obtain ⟨T0, hT0⟩ : ∃ T0, T0 = (tl ++ own) ++ own' := ⟨_, rfl⟩
      have hT1 : ∀ p ∈ T0, p.1 ≠ d := hT0 ▸ all_app (all_app ht hod) fun p hp => ho' p hp d (.head _)
      replace N1 : News s.heap L' h2 ((d, W.listOf ds.toArray k) :: T0) := hT0 ▸ N1
      k_steps
      rename News _ _ _ _ => N9
      rename Fr _ _ _ _ => F9
      subst hT0
      exact in_end F9 N9 rfl rfl rfl ht ho hD (by assumption) ho'
    case done2 =>
      clear F2 N2 R2
      intro m₂ news₂ h2 tk2 hJ F1 N1
      clear hD
      obtain ⟨ds, k, tl, hm1, hm2, hm3, rfl, ht, ho2, hD⟩ := hJ
      rw [mapc hm1 (mapc hm2 (mapc hm3 rfl))] at F1
      k_steps
      rename News _ _ _ _ => N9
      rename Fr _ _ _ _ => F9
      exact out_end F9 N9 rfl rfl ht ho2 (fun p hp => ho p hp d (.head _)) hD hni hi
  case done =>
    clear F1 N1 R1
    intro m₁ news₁ h tk hJ F1 N1
    obtain ⟨d, ds, k, tl, hm1, hm2, rfl, ht, hD⟩ := hJ
    rw [mapc hm1 (mapc hm2 rfl)] at F1
    rw [List.take_length] at hD
    obtain ⟨lens', nl, rfl⟩ : ∃ l' n, lens = l' ++ [n] := ⟨_, _, (List.dropLast_concat_getLast hne).symm⟩
    obtain ⟨rl, ul, hrl, hul, huz⟩ := hL.2 lens'.length nl (by simp)
    obtain ⟨vs', rfl⟩ : ∃ vs', vs = vs' ++ [Value.ref rl] := by
      have h1 := hL.1
      rw [List.length_append] at h1
      have hv : vs ≠ [] := by intro q; rw [q] at h1; simp at h1
      refine ⟨vs.dropLast, ?_⟩
      have h2 : vs.getLast hv = Value.ref rl := by
        rw [List.getLast_eq_getElem]
        have : vs[lens'.length]? = vs[vs.length - 1]? := by rw [h1]; rfl
        rw [this] at hrl
        rw [List.getElem?_eq_getElem (by have := List.length_pos_iff.mpr hv; omega)] at hrl
        exact Option.some.inj hrl
      rw [← h2]
      exact (List.dropLast_concat_getLast hv).symm
    have hnl : nl ≤ 100000 := by have := hb nl (by simp); omega
    have hdl : ds.length ≤ 100000 := by
      have h1 := hD.length
      have h2 := rows_len 0 _ hb
      rw [List.length_map] at h1
      omega
    have hdl2 : ∀ v : Value, (ds ++ [v]).length ≤ 100000 := by
      have h1 := hD.length
      have h2 := rows_len 0 _ hb
      rw [List.length_map] at h1
      intro v
      rw [List.length_append, List.length_cons, List.length_nil]
      omega
    k_steps
    rename News _ _ _ _ => N9
    rename Fr _ _ _ _ => F9
    rw [List.push_toArray, List.push_toArray] at N9
    refine ret _ _ _ _ _ _ _ F9.keep (rot3 N9) ?_
    unfold readOf
    rw [List.getLastD_concat, List.map_append, List.append_assoc]
    exact (hD.mono fun p hp => .tail _ (.tail _ hp)).append (.cons (.tuple (n := 0) (vs := [_, _]) (.head _) (.cons (.int _ _) (.cons (.int _ _) .nil))) (.cons (.tuple (n := 0) (vs := [_, _]) (.tail _ (.head _)) (.cons (.int _ _) (.cons (.int _ _) .nil))) .nil))
end Mine
end
section
open PySem PySem.W PyProof.Rows PySem.Calls
set_option maxHeartbeats 2000000
namespace Mine

/-- place, line and column of a pattern, and whether there is a line feed in it -/
structure Placed (l : List Nat) (p line col : Int) (feed : Bool) : Prop where
  lo : 0 ≤ p
  hi : p ≤ l.length
  line : line = nlCount l p.toNat + 1
  col : col = p - nlLast l p.toNat
  feed : feed = true ↔ 10 ∈ l

theorem lastIdx_none {c : Nat} : ∀ {l : List Nat}, lastIdx c l = none ↔ l.count c = 0
  | [] => by simp [lastIdx]
  | a :: r => by
    have ih := lastIdx_none (c := c) (l := r)
    unfold lastIdx
    cases q : lastIdx c r with
    | some j =>
      have : r.count c ≠ 0 := fun z => by rw [ih.mpr z] at q; cases q
      simp only [List.count_cons]
      constructor
      · intro h; cases h
      · intro h; omega
    | none =>
      have := ih.mp q
      by_cases e : a = c <;> simp [e, List.count_cons, this]

theorem lastIdx_cons (c a : Nat) (r : List Nat) : lastIdx c (a :: r) = match lastIdx c r with | some k => some (k + 1) | none => if a = c then some 0 else none := rfl
theorem Placed.first : Placed [] 0 1 1 false := ⟨by omega, by simp, by simp [nlCount], by simp [nlLast, lastIdx], by simp⟩

section
variable {l : List Nat} {p line col : Int} {feed : Bool} {n : Nat}
theorem take_succ (h : 0 ≤ p) : (n :: l).take (p + 1).toNat = n :: l.take p.toNat := by
  have : (p + 1).toNat = p.toNat + 1 := by omega
  rw [this, List.take_succ_cons]
theorem Placed.behind (P : Placed l p line col feed) (f : Bool) (hf : f = true ↔ 10 ∈ l ++ [n]) : Placed (l ++ [n]) p line col f := by
  have h1 := P.lo
  have h2 := P.hi
  have e : (l ++ [n]).take p.toNat = l.take p.toNat := List.take_append_of_le_length (by omega)
  refine ⟨h1, by simp only [List.length_append, List.length_singleton]; omega, ?_, ?_, hf⟩
  · rw [P.line]; unfold nlCount; rw [e]
  · rw [P.col]; unfold nlLast; rw [e]
theorem Placed.feeds (P : Placed l p line col feed) (f : Bool) (hf : f = true ↔ 10 ∈ 10 :: l) : Placed (10 :: l) (p + 1) (line + 1) col f := by
  have h1 := P.lo
  have h2 := P.hi
  have e := take_succ (n := 10) (l := l) h1
  refine ⟨by omega, by simp only [List.length_cons]; omega, ?_, ?_, hf⟩
  · rw [P.line]; unfold nlCount; rw [e, List.count_cons]; simp
  · rw [P.col]; unfold nlLast; rw [e, lastIdx_cons]
    cases q : lastIdx 10 (l.take p.toNat) with
    | some k => dsimp only; omega
    | none => simp
theorem Placed.other (P : Placed l p line col feed) (f : Bool) (hn : n ≠ 10) (h1' : line = 1) (hf : f = true ↔ 10 ∈ n :: l) : Placed (n :: l) (p + 1) line (col + 1) f := by
  have h1 := P.lo
  have h2 := P.hi
  have e := take_succ (n := n) (l := l) h1
  have z : lastIdx 10 (l.take p.toNat) = none := lastIdx_none.mpr (by have := P.line; unfold nlCount at this; omega)
  refine ⟨by omega, by simp only [List.length_cons]; omega, ?_, ?_, hf⟩
  · rw [P.line]; unfold nlCount; rw [e, List.count_cons]; simp [hn]
  · rw [P.col]; unfold nlLast; rw [e, lastIdx_cons, z]; simp [hn]
theorem Placed.further (P : Placed l p line col feed) (f : Bool) (hn : n ≠ 10) (h1' : line ≠ 1) (hf : f = true ↔ 10 ∈ n :: l) : Placed (n :: l) (p + 1) line col f := by
  have h1 := P.lo
  have h2 := P.hi
  have e := take_succ (n := n) (l := l) h1
  refine ⟨by omega, by simp only [List.length_cons]; omega, ?_, ?_, hf⟩
  · rw [P.line]; unfold nlCount; rw [e, List.count_cons]; simp [hn]
  · rw [P.col]; unfold nlLast; rw [e, lastIdx_cons]
    cases q : lastIdx 10 (l.take p.toNat) with
    | some k => dsimp only; omega
    | none =>
      have := lastIdx_none.mp q
      exact absurd (by rw [P.line]; unfold nlCount; omega) h1'
theorem Placed.bounds (P : Placed l p line col feed) : 0 ≤ line ∧ line ≤ p + 1 ∧ 0 ≤ col ∧ col ≤ p + 1 := by
  have h1 := P.lo
  have h3 := nlCount_bound l p.toNat
  have h4 := nlLast_bound l p.toNat
  have h5 := P.line
  have h6 := P.col
  omega
end
end Mine
end
section
open PySem PySem.W PyProof.Rows PySem.Calls
set_option maxRecDepth 100000
set_option maxHeartbeats 2000000
namespace Mine
/-- the lines with a line feed between any two -/
def joinN : List (List Nat) → List Nat
  | [] => []
  | [l] => l
  | l :: r :: q => l ++ 10 :: joinN (r :: q)
def full (k : Nat) (lens : List Nat) : List (Int × Int) := rows k lens ++ [((k : Int) + (lens.length : Int), (lens.getLastD 0 : Int) + 2), ((k : Int) + (lens.length : Int), (lens.getLastD 0 : Int) + 3)]
theorem readOf_full (lens : List Nat) : readOf lens = full 0 lens := by simp [readOf, full]
theorem full_one (k n : Nat) : full k [n] = row k (n + 3) := by
  unfold full
  rw [row_snoc, row_snoc]
  have e1 : ((n + 1 : Nat) : Int) + 1 = (n : Int) + 2 := by omega
  have e2 : ((n + 2 : Nat) : Int) + 1 = (n : Int) + 3 := by omega
  have e3 : (k : Int) + (([n].length : Nat) : Int) = (k : Int) + 1 := by simp
  have e4 : rows k [n] = row k (n + 1) := by simp [rows]
  have e5 : [n].getLastD 0 = n := rfl
  rw [e1, e2, e3, e4, e5, List.append_assoc]
  rfl
theorem full_cons (k n a : Nat) (r : List Nat) : full k (n :: a :: r) = row k (n + 1) ++ full (k + 1) (a :: r) := by
  unfold full
  rw [show rows k (n :: a :: r) = row k (n + 1) ++ rows (k + 1) (a :: r) from rfl, List.append_assoc]
  congr 2
  simp only [List.length_cons, List.getLastD_cons]
  have : ((k : Int) + ((r.length + 1 + 1 : Nat) : Int)) = ((k + 1 : Nat) : Int) + ((r.length + 1 : Nat) : Int) := by omega
  rw [this]
theorem row_get {k n p : Nat} (h : p < n) : (row k n)[p]? = some ((k : Int) + 1, (p : Int) + 1) := by
  unfold row
  rw [List.getElem?_map, List.getElem?_range h]; rfl
theorem lastIdx_app (c : Nat) (m : List Nat) : ∀ l : List Nat, lastIdx c (l ++ m) = match lastIdx c m with | some j => some (l.length + j) | none => lastIdx c l
  | [] => by
    rw [List.nil_append]
    cases lastIdx c m <;> simp [lastIdx]
  | a :: r => by
    rw [List.cons_append, lastIdx_cons, lastIdx_app c m r]
    cases q : lastIdx c m with
    | some j => dsimp only; rw [List.length_cons]; congr 1; omega
    | none => dsimp only; rw [lastIdx_cons]
theorem no_count {l : List Nat} (h : 10 ∉ l) : l.count 10 = 0 := List.count_eq_zero.mpr h
theorem no_last {l : List Nat} (h : 10 ∉ l) : lastIdx 10 l = none := lastIdx_none.mpr (no_count h)
theorem no_take {l : List Nat} (h : 10 ∉ l) (p : Nat) : 10 ∉ l.take p := fun q => h (List.mem_of_mem_take q)
theorem full_len : ∀ (k : Nat) (ls : List (List Nat)), ls ≠ [] → (full k (ls.map List.length)).length = (joinN ls).length + 3
  | _, [], h => absurd rfl h
  | k, [l], _ => by show (full k [l.length]).length = _; rw [full_one, row_len]; rfl
  | k, l :: r :: q, _ => by
    have ih := full_len (k + 1) (r :: q) (by simp)
    simp only [List.map_cons] at ih ⊢
    rw [full_cons, List.length_append, row_len, ih]
    simp only [joinN, List.length_append, List.length_cons]
    omega
theorem full_at : ∀ (k : Nat) (ls : List (List Nat)) (p : Nat), ls ≠ [] → (∀ l ∈ ls, 10 ∉ l) → p < (joinN ls).length + 3 → (full k (ls.map List.length))[p]? = some ((k : Int) + nlCount (joinN ls) p + 1, (p : Int) - nlLast (joinN ls) p)
  | _, [], _, h, _, _ => absurd rfl h
  | k, [l], p, _, hn, hp => by
    have h10 := no_take (hn l (.head _)) p
    show (full k [l.length])[p]? = _
    have hp : p < l.length + 3 := hp
    rw [full_one, row_get hp]
    show _ = some ((k : Int) + nlCount l p + 1, (p : Int) - nlLast l p)
    unfold nlCount nlLast
    rw [no_count h10, no_last h10]
    simp
  | k, l :: r :: q, p, _, hn, hp => by
    have h10 := hn l (.head _)
    have ih := full_at (k + 1) (r :: q)
    simp only [List.map_cons] at ih ⊢
    rw [full_cons]
    have ej : joinN (l :: r :: q) = l ++ 10 :: joinN (r :: q) := rfl
    rw [ej] at hp ⊢
    by_cases hpl : p < l.length + 1
    · rw [List.getElem?_append_left (by rw [row_len]; exact hpl), row_get hpl]
      have et : (l ++ 10 :: joinN (r :: q)).take p = l.take p := List.take_append_of_le_length (by omega)
      unfold nlCount nlLast
      rw [et, no_count (no_take h10 p), no_last (no_take h10 p)]
      simp
    · obtain ⟨u, rfl⟩ : ∃ u, p = l.length + 1 + u := ⟨p - (l.length + 1), by omega⟩
      rw [List.getElem?_append_right (by rw [row_len]; omega), row_len]
      rw [show l.length + 1 + u - (l.length + 1) = u by omega]
      rw [ih u (by simp) (fun x hx => hn x (.tail _ hx)) (by simp only [List.length_append, List.length_cons] at hp; omega)]
      have et : (l ++ 10 :: joinN (r :: q)).take (l.length + 1 + u) = l ++ 10 :: (joinN (r :: q)).take u := by
        rw [List.take_append, List.take_of_length_le (by omega), show l.length + 1 + u - l.length = u + 1 by omega, List.take_succ_cons]
      unfold nlCount nlLast
      rw [et, List.count_append, no_count h10, lastIdx_app, lastIdx_cons]
      cases q2 : lastIdx 10 ((joinN (r :: q)).take u) with
      | some j => simp [List.count_cons]; omega
      | none => simp [List.count_cons]; omega
theorem join_feed : ∀ (ls : List (List Nat)), (∀ l ∈ ls, 10 ∉ l) → (10 ∈ joinN ls ↔ 1 < ls.length)
  | [], _ => by simp [joinN]
  | [l], h => by
    have := h l (.head _)
    simp [joinN, this]
  | l :: r :: q, _ => by simp [joinN]
theorem join_flat (l : List Nat) : ∀ r : List (List Nat), joinN (l :: r) = l ++ (r.map (10 :: ·)).flatten
  | [] => by simp [joinN]
  | a :: q => by
    show l ++ 10 :: joinN (a :: q) = _
    rw [join_flat a q]; simp
/-- the signs of the pattern, line by line -/
def signsOf (ls : List (List Int)) : List Int := match ls with | [] => [] | l :: r => l ++ (r.map (10 :: ·)).flatten
def nats (l : List Int) : List Nat := l.map Int.toNat
theorem nats_signs (ls : List (List Int)) : nats (signsOf ls) = joinN (ls.map nats) := by
  cases ls with
  | nil => rfl
  | cons l r =>
    rw [List.map_cons, join_flat]
    simp only [signsOf, nats, List.map_append, List.map_flatten, List.map_map]
    congr 2
theorem menu_ok (k : Nat) : ∀ x, x = menuL.getD k 0 → 0 ≤ x ∧ x ≤ 255 ∧ x ≠ 10 := by
  intro x hx
  rw [hx]
  rcases k with _ | _ | _ | _ | _ | _ | _ | _ | k <;> simp [menuL]
def OkL (l : List Int) : Prop := ∀ x ∈ l, 0 ≤ x ∧ x ≤ 255 ∧ x ≠ 10
theorem fold_ok : ∀ (ns : List Int) (st : List (List Int) × List Int), (∀ l ∈ st.1, OkL l) → OkL st.2 → (∀ l ∈ (ns.foldl stepP st).1, OkL l) ∧ OkL (ns.foldl stepP st).2
  | [], _, h1, h2 => ⟨h1, h2⟩
  | n :: r, st, h1, h2 => by
    rw [List.foldl_cons]
    refine fold_ok r _ ?_ ?_
    · unfold stepP
      split
      · intro l hl
        rcases List.mem_append.mp hl with hl | hl
        · exact h1 l hl
        · rw [List.mem_singleton.mp hl]; exact h2
      · exact h1
    · unfold stepP
      split
      · intro x hx; cases hx
      · intro x hx
        rcases List.mem_append.mp hx with hx | hx
        · exact h2 x hx
        · exact menu_ok _ x (List.mem_singleton.mp hx)
theorem lines_ok (ns : List Int) : ∀ l ∈ linesOf ns, OkL l := by
  obtain ⟨h1, h2⟩ := fold_ok ns ([], []) (by simp) (by intro x hx; cases hx)
  intro l hl
  rcases List.mem_append.mp hl with hl | hl
  · exact h1 l hl
  · rw [List.mem_singleton.mp hl]; exact h2
theorem lines_ne (ns : List Int) : linesOf ns ≠ [] := by unfold linesOf; simp
def tot (ls : List (List Int)) : Nat := (ls.map (fun l => l.length + 1)).sum
theorem fold_tot : ∀ (ns : List Int) (st : List (List Int) × List Int), tot ((ns.foldl stepP st).1 ++ [(ns.foldl stepP st).2]) = tot (st.1 ++ [st.2]) + ns.length
  | [], _ => rfl
  | n :: r, st => by
    rw [List.foldl_cons, fold_tot r]
    have : tot ((stepP st n).1 ++ [(stepP st n).2]) = tot (st.1 ++ [st.2]) + 1 := by
      unfold stepP tot
      split <;> simp <;> omega
    rw [this, List.length_cons]; omega
theorem lines_tot (ns : List Int) : tot (linesOf ns) = ns.length + 1 := by
  unfold linesOf
  rw [fold_tot]
  simp [tot]; omega
theorem tot_len (ls : List (List Int)) : ls.length ≤ tot ls := by
  unfold tot
  induction ls with
  | nil => simp
  | cons a r ih => simp only [List.map_cons, List.sum_cons, List.length_cons]; omega
theorem tot_one {ls : List (List Int)} {l : List Int} (h : l ∈ ls) : l.length + 1 ≤ tot ls := by
  unfold tot
  induction ls with
  | nil => cases h
  | cons a r ih =>
    simp only [List.map_cons, List.sum_cons]
    rcases List.mem_cons.mp h with rfl | h
    · omega
    · have := ih h; omega
theorem signs_len (ls : List (List Int)) : (signsOf ls).length ≤ tot ls := by
  cases ls with
  | nil => simp [signsOf, tot]
  | cons l r =>
    simp only [signsOf, tot, List.length_append, List.map_cons, List.sum_cons]
    have : ((r.map (10 :: ·)).flatten).length = (r.map (fun l => l.length + 1)).sum := by
      induction r with
      | nil => rfl
      | cons a q ih => simp only [List.map_cons, List.flatten_cons, List.length_append, List.length_cons, List.sum_cons, ih]
    omega
theorem signs_ok (ls : List (List Int)) (h : ∀ l ∈ ls, OkL l) : ∀ x ∈ signsOf ls, 0 ≤ x ∧ x ≤ 255 := by
  cases ls with
  | nil => intro x hx; cases hx
  | cons l r =>
    intro x hx
    rcases List.mem_append.mp hx with hx | hx
    · exact ⟨(h l (.head _) x hx).1, (h l (.head _) x hx).2.1⟩
    · obtain ⟨y, hy, hxy⟩ := List.mem_flatten.mp hx
      obtain ⟨z, hz, rfl⟩ := List.mem_map.mp hy
      rcases List.mem_cons.mp hxy with rfl | hxy
      · omega
      · exact ⟨(h z (.tail _ hz) x hxy).1, (h z (.tail _ hz) x hxy).2.1⟩
/-- the reading, place by place -/
theorem reading_at {ns : List Int} {p : Nat} (hp : p < (readOf ((linesOf ns).map List.length)).length) :
    (readOf ((linesOf ns).map List.length))[p]? = some (nlCount (nats (signsOf (linesOf ns))) p + 1, (p : Int) - nlLast (nats (signsOf (linesOf ns))) p) := by
  have hl : (linesOf ns).map List.length = ((linesOf ns).map nats).map List.length := by
    rw [List.map_map]; congr 1; funext l; simp [nats]
  have hne : (linesOf ns).map nats ≠ [] := by simpa using lines_ne ns
  rw [hl, readOf_full] at hp ⊢
  rw [full_len 0 _ hne] at hp
  rw [nats_signs, full_at 0 _ p hne ?_ hp]
  · simp
  · intro l hl h10
    obtain ⟨x, hx, rfl⟩ := List.mem_map.mp hl
    obtain ⟨y, hy, hy2⟩ := List.mem_map.mp h10
    have := lines_ok ns x hx y hy
    omega
theorem reading_len (ns : List Int) : (readOf ((linesOf ns).map List.length)).length = (signsOf (linesOf ns)).length + 3 := by
  have hl : (linesOf ns).map List.length = ((linesOf ns).map nats).map List.length := by
    rw [List.map_map]; congr 1; funext l; simp [nats]
  have hne : (linesOf ns).map nats ≠ [] := by simpa using lines_ne ns
  rw [hl, readOf_full, full_len 0 _ hne, ← nats_signs]
  simp [nats]
theorem feed_lines (ns : List Int) : 10 ∈ nats (signsOf (linesOf ns)) ↔ 1 < (linesOf ns).length := by
  rw [nats_signs, join_feed, List.length_map]
  intro l hl h10
  obtain ⟨x, hx, rfl⟩ := List.mem_map.mp hl
  obtain ⟨y, hy, hy2⟩ := List.mem_map.mp h10
  have := lines_ok ns x hx y hy
  omega
end Mine
end
section
local macro_rules | `(tactic| walk_at "pad") => `(tactic| fail "pad")
local macro_rules | `(tactic| walk_at "pad") => `(tactic| fail "pad")
local macro_rules | `(tactic| walk_at "pad") => `(tactic| fail "pad")
local macro_rules | `(tactic| walk_at "pad") => `(tactic| fail "pad")
local macro_rules | `(tactic| walk_at "pad") => `(tactic| fail "pad")
local macro_rules | `(tactic| walk_at "pad") => `(tactic| fail "pad")
local macro_rules | `(tactic| walk_at "pad") => `(tactic| fail "pad")
local macro_rules | `(tactic| walk_at "pad") => `(tactic| fail "pad")
local macro_rules | `(tactic| walk_at "pad") => `(tactic| fail "pad")
local macro_rules | `(tactic| walk_at "pad") => `(tactic| fail "pad")
local macro_rules | `(tactic| walk_at "pad") => `(tactic| fail "pad")
local macro_rules | `(tactic| walk_at "pad") => `(tactic| fail "pad")
local macro_rules | `(tactic| walk_at "pad") => `(tactic| fail "pad")
local macro_rules | `(tactic| walk_at "pad") => `(tactic| fail "pad")
local macro_rules | `(tactic| walk_at "pad") => `(tactic| fail "pad")
local macro_rules | `(tactic| walk_at "pad") => `(tactic| fail "pad")
local macro_rules | `(tactic| walk_at "pad") => `(tactic| fail "pad")
local macro_rules | `(tactic| walk_at "pad") => `(tactic| fail "pad")
local macro_rules | `(tactic| walk_at "pad") => `(tactic| fail "pad")
local macro_rules | `(tactic| walk_at "pad") => `(tactic| fail "pad")
local macro_rules | `(tactic| walk_at "pad") => `(tactic| fail "pad")
local macro_rules | `(tactic| walk_at "pad") => `(tactic| fail "pad")
local macro_rules | `(tactic| walk_at "pad") => `(tactic| fail "pad")
local macro_rules | `(tactic| walk_at "pad") => `(tactic| fail "pad")
local macro_rules | `(tactic| walk_at "pad") => `(tactic| fail "pad")
local macro_rules | `(tactic| walk_at "pad") => `(tactic| fail "pad")
local macro_rules | `(tactic| walk_at "pad") => `(tactic| fail "pad")
local macro_rules | `(tactic| walk_at "pad") => `(tactic| fail "pad")
local macro_rules | `(tactic| walk_at "pad") => `(tactic| fail "pad")
local macro_rules | `(tactic| walk_at "pad") => `(tactic| fail "pad")
local macro_rules | `(tactic| walk_at "pad") => `(tactic| fail "pad")
local macro_rules | `(tactic| walk_at "pad") => `(tactic| fail "pad")
local macro_rules | `(tactic| walk_at "pad") => `(tactic| fail "pad")
local macro_rules | `(tactic| walk_at "pad") => `(tactic| fail "pad")
local macro_rules | `(tactic| walk_at "pad") => `(tactic| fail "pad")
local macro_rules | `(tactic| walk_at "pad") => `(tactic| fail "pad")
local macro_rules | `(tactic| walk_at "pad") => `(tactic| fail "pad")
local macro_rules | `(tactic| walk_at "pad") => `(tactic| fail "pad")
local macro_rules | `(tactic| walk_at "pad") => `(tactic| fail "pad")
local macro_rules | `(tactic| walk_at "pad") => `(tactic| fail "pad")
local macro_rules | `(tactic| walk_at "pad") => `(tactic| fail "pad")
local macro_rules | `(tactic| walk_at "pad") => `(tactic| fail "pad")
local macro_rules | `(tactic| walk_at "pad") => `(tactic| fail "pad")
local macro_rules | `(tactic| walk_at "pad") => `(tactic| fail "pad")
local macro_rules | `(tactic| walk_at "pad") => `(tactic| fail "pad")
local macro_rules | `(tactic| walk_at "pad") => `(tactic| fail "pad")
local macro_rules | `(tactic| walk_at "pad") => `(tactic| fail "pad")
local macro_rules | `(tactic| walk_at "pad") => `(tactic| fail "pad")
local macro_rules | `(tactic| walk_at "pad") => `(tactic| fail "pad")
local macro_rules | `(tactic| walk_at "pad") => `(tactic| fail "pad")
local macro_rules | `(tactic| walk_at "pad") => `(tactic| fail "pad")
local macro_rules | `(tactic| walk_at "pad") => `(tactic| fail "pad")
local macro_rules | `(tactic| walk_at "pad") => `(tactic| fail "pad")
local macro_rules | `(tactic| walk_at "pad") => `(tactic| fail "pad")
local macro_rules | `(tactic| walk_at "pad") => `(tactic| fail "pad")
local macro_rules | `(tactic| walk_at "pad") => `(tactic| fail "pad")
local macro_rules | `(tactic| walk_at "pad") => `(tactic| fail "pad")
local macro_rules | `(tactic| walk_at "pad") => `(tactic| fail "pad")
open PySem PySem.W PyProof.Rows PySem.Calls PySem.SeqAt
set_option maxRecDepth 100000
set_option maxHeartbeats 0
namespace Mine
local macro_rules | `(tactic| walk_at "getAttr ref") => `(tactic| (k_here; k_dflt (first
  | ((with_reducible show wpAny _ _ (getAttr _ (Str.ofString "args") _) _ _ _); refine' kargs ?k1 ?k2 ?k3 ?k4 ?k5 ?k6 ?k7 ?k8 ?k9 ?k10 ?k11 ?_; (case k1 => k_asm); (case k2 => k_asm); (case k8 => exact Fr.keep (by k_asm) _ _ (by assumption)); (case k9 => rfl); (case k10 => rfl); (case k3 => k_is); (case k4 => kernel_rfl); (case k5 => k_is); (case k6 => k_is); (case k7 => k_is); (case k11 => assumption); k_whole)
  | (refine' kget ?k1 ?k2 ?k3 ?k4 ?k5 ?k6 ?k7 ?k8 ?k9 ?k10 ?k11 ?k12 ?k13 ?_; (case k1 => k_asm); (case k2 => k_asm); (case k9 => exact Fr.keep (by k_asm) _ _ (by assumption)); (case k10 => exact Fr.keep (by k_asm) _ _ (by assumption)); (case k3 => k_is); (case k4 => kernel_rfl); (case k5 => k_is); (case k6 => k_is); (case k7 => k_is); (case k8 => (rw [typeLookup_type, builtinLookup_eq_fast]; kernel_rfl)); (case k11 => assumption); (case k12 => assumption); (case k13 => first | rfl | assumption); k_whole))))
local macro_rules | `(tactic| walk_at "compareOp Eq ref ref") => `(tactic| (refine halt ?_))
theorem holds_call {w : World} {dp un : Nat} {gd : Option (List Code)} {cn : Str} {cs : Scope} {a : Addr} {ccd : Value} {cl : List (Str × Addr)} {outer : List Env} {A₀ : Around} {base h₀ : Heap} {L : Addr} {m : Str → Option Value} {s : Shared} {Q E : Value → Shared → Prop}
  {mean : ExcName → Option Value} {mg mb : Str → Option Value} {e dx t : Addr} {sl : Array (Option Value)} {od : Obj} {mA : Str → Option Value} {vs : Array Value} {msg : Str} {pv qv rv : Value} {tm tm' tw tw' : Tok} {wd : Str}
  (B : Below A₀ base outer h₀) (F : Fr h₀ L s.heap m) (X : (hd.heap_39 w.params).In h₀) (T : Top hd.view_39 (looseW hd.view_39 [Str.ofString "PatternError"]) mean mg mb h₀) (hk : cs.kind = .function)
  (hdp : dp + 3 < recursionLimit) (hun : un + 20 < cLine) (he : s.heap.get? e = some ⟨.ref 34, some dx, .fields vs, sl⟩) (h0 : vs[0]? = some (.ref t)) (hdx : s.heap.get? dx = some od) (hA : AttrObj od mA) (a1 : mA "msg" = some (.str msg tm)) (a2 : mA "pattern" = some pv) (a3 : mA "pos" = some qv) (hand : handedOut pv = pure pv) (hand2 : handedOut qv = pure qv)
  (ht : s.heap.get? t = some (tupOf [.str wd tw])) (hqr : ∀ A s, EqAt A s qv rv true)
  (ret : ∀ (h' : Heap) (tk : Nat), s.heap.StaysIn h' → Q (.bool true) { s with heap := h', toks := tk }) :
  wpAny (model PySem.Challenge.rw_dn0146_03.row.prog w) (ktrTop dp un gd cn cs L a ccd cl outer) (call (.ref 58) [.ref e, .str msg tm', pv, rv, .str wd tw']) Q E s := by
  revert X; k_fill; intro X
  refine wpAny_call ?_
  k_dflt (refine' enter_pure ?k1 ?k2 ?k3 ?k5 ?kA ?kF ?kK ?k6 ?k7 ?k8 ?k9 ?kB ?_ ?c2 ?c3 ?c4 ?c5; (case kA => exact rfl); (case kF => exact rfl); (case kK => assumption); (case k1 => k_asm); (case k2 => k_asm); (case k3 => k_asm); (case k5 => k_asm); (case k6 => k_is); (case k7 => k_is); (case k8 => ktr_room); (case k9 => exact BindsTo.of_eq rfl); (case c5 => decide); (case kB => exact locs rfl); (case c2 => exact rfl); (case c3 => exact rfl); (case c4 => exact rfl); intro L' h' F' N' B' X' T'; (try dsimp only); (try k_fold))
  k_steps
  unfold Halt
  rename News _ _ _ _ => NN
  rename Fr _ _ _ _ => FF
  refine four_eq (NN _ (.tail _ (.tail _ (.head _)))).1 (NN _ (.head _)).1 (FF.keep _ _ ht) (NN _ (.tail _ (.head _))).1 ?_ hqr ?_
  · show un + 5 < cLine
    exact Nat.lt_trans (Nat.add_lt_add_left (by decide) un) hun
  · exact ret _ _ FF.keep
end Mine
end
section
open PySem PySem.W PyProof.Rows PySem.Calls PySem.SeqAt
set_option maxRecDepth 100000
set_option maxHeartbeats 0
namespace Mine
theorem many {h₀ h h' : Heap} {L L' : Addr} {m : Str → Option Value} {news tl : List (Addr × Obj)} (F : Fr h₀ L h m) (N : News h₀ L h news) (st : h.StaysIn h') (N' : News h L' h' tl) : News h₀ L h' (news ++ tl) := by
  intro p hp
  rcases List.mem_append.mp hp with hp | hp
  · exact ⟨st _ _ (N p hp).1, (N p hp).2⟩
  · exact ⟨(N' p hp).1, fresh_entry F (N' p hp).2.2⟩
theorem up_one {h₀ h h' : Heap} {L L' : Addr} {m : Str → Option Value} {news tl : List (Addr × Obj)} {q : Addr × Obj} (F : Fr h₀ L h m) (N : News h₀ L h news) (st : h.StaysIn h') (N' : News h L' h' (q :: tl)) : News h₀ L h' (q :: (news ++ tl)) := by
  intro p hp
  rcases List.mem_cons.mp hp with rfl | hp
  · exact ⟨(N' _ (.head _)).1, fresh_entry F (N' _ (.head _)).2.2⟩
  · exact many F N st (fun p hp => N' p (.tail _ hp)) p hp
theorem dat_lens {h₀ h : Heap} {L : Addr} {news : List (Addr × Obj)} (N : News h₀ L h news) : ∀ {us : List Value} {ls : List (List Int)}, DatAll news us (ls.map datL) → LensAt h us (ls.map List.length)
  | [], [], _ => ⟨rfl, fun i n h => by simp at h⟩
  | v :: us, l :: ls, D => by
    cases D with
    | cons d r =>
      have ih := dat_lens N r
      cases d with
      | list hm hd =>
        refine ⟨by simpa using ih.1, fun i n hi => ?_⟩
        cases i with
        | zero =>
          rename_i a vs k
          have : n = l.length := by simpa using hi.symm
          refine ⟨a, vs.toArray, rfl, News.isList N hm, ?_⟩
          have h2 := hd.length
          rw [this]; simpa using h2
        | succ i => exact ih.2 i n (by simpa using hi)
  | [], _ :: _, D => by cases D
  | _ :: _, [], D => by cases D
theorem linesK {w : World} {dp un : Nat} {gd : Option (List Code)} {cn : Str} {cs : Scope} {a : Addr} {ccd : Value} {cl : List (Str × Addr)} {outer : List Env} {A₀ : Around} {base h₀ : Heap} {L : Addr} {m : Str → Option Value} {s : Shared} {Q E : Value → Shared → Prop}
  {mean : ExcName → Option Value} {mg mb : Str → Option Value} {news : List (Addr × Obj)} {lv : Addr} {vs : List Value} {ns : List Int}
  (B : Below A₀ base outer h₀) (F : Fr h₀ L s.heap m) (N : News h₀ L s.heap news) (X : (hd.heap_39 w.params).In h₀) (T : Top hd.view_39 (looseW hd.view_39 [Str.ofString "PatternError"]) mean mg mb h₀) (hk : cs.kind = .function)
  (hdp : dp + 1 < recursionLimit) (hl : h₀.IsList lv vs.toArray) (hi : IntsAre vs ns) (hn : ns.length ≤ 63)
  (ret : ∀ (r : Addr) (us : List Value) (k : Nat) (tl : List (Addr × Obj)) (h' : Heap) (tk : Nat), Fr h₀ L h' m → News h₀ L h' ((r, W.listOf us.toArray k) :: (news ++ tl)) → DatAll tl us ((linesOf ns).map datL) → Q (.ref r) { s with heap := h', toks := tk }) :
  wpAny (model PySem.Challenge.rw_dn0146_03.row.prog w) (ktrTop dp un gd cn cs L a ccd cl outer) (call (.ref 44) [.ref lv]) Q E s :=
  lines_call B F X T hk hdp (hl.at fun o e => F.keep lv o e) hi hn fun r us k tl L' h' tk st N' D => ret r us k tl h' tk (F.grownK st) (up_one F N st N') D
theorem readingK {w : World} {dp un : Nat} {gd : Option (List Code)} {cn : Str} {cs : Scope} {a : Addr} {ccd : Value} {cl : List (Str × Addr)} {outer : List Env} {A₀ : Around} {base h₀ : Heap} {L : Addr} {m : Str → Option Value} {s : Shared} {Q E : Value → Shared → Prop}
  {mean : ExcName → Option Value} {mg mb : Str → Option Value} {news tl0 : List (Addr × Obj)} {lv : Addr} {us : List Value} {k : Nat} {ns : List Int}
  (B : Below A₀ base outer h₀) (F : Fr h₀ L s.heap m) (N : News h₀ L s.heap news) (X : (hd.heap_39 w.params).In h₀) (T : Top hd.view_39 (looseW hd.view_39 [Str.ofString "PatternError"]) mean mg mb h₀) (hk : cs.kind = .function)
  (hdp : dp + 1 < recursionLimit) (hl : (lv, W.listOf us.toArray k) ∈ news) (hD : DatAll tl0 us ((linesOf ns).map datL)) (hsub : ∀ p ∈ tl0, p ∈ news) (hn : ns.length ≤ 63)
  (ret : ∀ (r : Addr) (ds : List Value) (k : Nat) (tl : List (Addr × Obj)) (h' : Heap) (tk : Nat), Fr h₀ L h' m → News h₀ L h' ((r, W.listOf ds.toArray k) :: (news ++ tl)) → DatAll tl ds ((readOf ((linesOf ns).map List.length)).map datP) → Q (.ref r) { s with heap := h', toks := tk }) :
  wpAny (model PySem.Challenge.rw_dn0146_03.row.prog w) (ktrTop dp un gd cn cs L a ccd cl outer) (call (.ref 51) [.ref lv]) Q E s := by
  have ht := lines_tot ns
  refine reading_call B F X T hk hdp (News.isList N hl) (dat_lens N (hD.mono hsub)) (by simpa using lines_ne ns) ?_ ?_ fun r ds k tl L' h' tk st N' D => ret r ds k tl h' tk (F.grownK st) (up_one F N st N') D
  · have := tot_len (linesOf ns)
    rw [List.length_map]; omega
  · intro n hn'
    obtain ⟨l, hl, rfl⟩ := List.mem_map.mp hn'
    have := tot_one hl
    omega
theorem holdsK {w : World} {dp un : Nat} {gd : Option (List Code)} {cn : Str} {cs : Scope} {a : Addr} {ccd : Value} {cl : List (Str × Addr)} {outer : List Env} {A₀ : Around} {base h₀ : Heap} {L : Addr} {m : Str → Option Value} {s : Shared} {Q E : Value → Shared → Prop}
  {mean : ExcName → Option Value} {mg mb : Str → Option Value} {news : List (Addr × Obj)} {e dx t : Addr} {sl : Array (Option Value)} {od : Obj} {mA : Str → Option Value} {vs : Array Value} {msg : Str} {pv qv rv : Value} {tm tm' tw tw' : Tok} {wd wd' : Str}
  (B : Below A₀ base outer h₀) (F : Fr h₀ L s.heap m) (N : News h₀ L s.heap news) (X : (hd.heap_39 w.params).In h₀) (T : Top hd.view_39 (looseW hd.view_39 [Str.ofString "PatternError"]) mean mg mb h₀) (hk : cs.kind = .function)
  (hdp : dp + 3 < recursionLimit) (hun : un + 20 < cLine) (he : (e, (⟨.ref 34, some dx, .fields vs, sl⟩ : Obj)) ∈ news) (h0 : vs[0]? = some (.ref t)) (hdx : (dx, od) ∈ news) (hA : AttrObj od mA) (a1 : mA "msg" = some (.str msg tm)) (a2 : mA "pattern" = some pv) (a3 : mA "pos" = some qv) (hand : handedOut pv = pure pv) (hand2 : handedOut qv = pure qv)
  (ht : (t, tupOf [.str wd tw]) ∈ news) (hw : wd = wd') (hqr : ∀ A s, EqAt A s qv rv true)
  (ret : ∀ (h' : Heap) (tk : Nat), Fr h₀ L h' m → News h₀ L h' news → Q (.bool true) { s with heap := h', toks := tk }) :
  wpAny (model PySem.Challenge.rw_dn0146_03.row.prog w) (ktrTop dp un gd cn cs L a ccd cl outer) (call (.ref 58) [.ref e, .str msg tm', pv, rv, .str wd' tw']) Q E s := by
  subst hw
  exact holds_call B F X T hk hdp hun (N _ he).1 h0 (N _ hdx).1 hA a1 a2 a3 hand hand2 (N _ ht).1 hqr fun h' tk st => ret h' tk (F.grownK st) fun p hp => ⟨st _ _ (N p hp).1, (N p hp).2⟩
end Mine
end
section
local macro_rules | `(tactic| walk_at "pad") => `(tactic| fail "pad")
local macro_rules | `(tactic| walk_at "pad") => `(tactic| fail "pad")
local macro_rules | `(tactic| walk_at "pad") => `(tactic| fail "pad")
local macro_rules | `(tactic| walk_at "pad") => `(tactic| fail "pad")
local macro_rules | `(tactic| walk_at "pad") => `(tactic| fail "pad")
local macro_rules | `(tactic| walk_at "pad") => `(tactic| fail "pad")
local macro_rules | `(tactic| walk_at "pad") => `(tactic| fail "pad")
local macro_rules | `(tactic| walk_at "pad") => `(tactic| fail "pad")
local macro_rules | `(tactic| walk_at "pad") => `(tactic| fail "pad")
local macro_rules | `(tactic| walk_at "pad") => `(tactic| fail "pad")
local macro_rules | `(tactic| walk_at "pad") => `(tactic| fail "pad")
local macro_rules | `(tactic| walk_at "pad") => `(tactic| fail "pad")
local macro_rules | `(tactic| walk_at "pad") => `(tactic| fail "pad")
local macro_rules | `(tactic| walk_at "pad") => `(tactic| fail "pad")
local macro_rules | `(tactic| walk_at "pad") => `(tactic| fail "pad")
local macro_rules | `(tactic| walk_at "pad") => `(tactic| fail "pad")
local macro_rules | `(tactic| walk_at "pad") => `(tactic| fail "pad")
local macro_rules | `(tactic| walk_at "pad") => `(tactic| fail "pad")
local macro_rules | `(tactic| walk_at "pad") => `(tactic| fail "pad")
local macro_rules | `(tactic| walk_at "pad") => `(tactic| fail "pad")
local macro_rules | `(tactic| walk_at "pad") => `(tactic| fail "pad")
local macro_rules | `(tactic| walk_at "pad") => `(tactic| fail "pad")
local macro_rules | `(tactic| walk_at "pad") => `(tactic| fail "pad")
local macro_rules | `(tactic| walk_at "pad") => `(tactic| fail "pad")
local macro_rules | `(tactic| walk_at "pad") => `(tactic| fail "pad")
local macro_rules | `(tactic| walk_at "pad") => `(tactic| fail "pad")
local macro_rules | `(tactic| walk_at "pad") => `(tactic| fail "pad")
local macro_rules | `(tactic| walk_at "pad") => `(tactic| fail "pad")
local macro_rules | `(tactic| walk_at "pad") => `(tactic| fail "pad")
local macro_rules | `(tactic| walk_at "pad") => `(tactic| fail "pad")
local macro_rules | `(tactic| walk_at "pad") => `(tactic| fail "pad")
local macro_rules | `(tactic| walk_at "pad") => `(tactic| fail "pad")
local macro_rules | `(tactic| walk_at "pad") => `(tactic| fail "pad")
local macro_rules | `(tactic| walk_at "pad") => `(tactic| fail "pad")
local macro_rules | `(tactic| walk_at "pad") => `(tactic| fail "pad")
local macro_rules | `(tactic| walk_at "pad") => `(tactic| fail "pad")
local macro_rules | `(tactic| walk_at "pad") => `(tactic| fail "pad")
local macro_rules | `(tactic| walk_at "pad") => `(tactic| fail "pad")
local macro_rules | `(tactic| walk_at "pad") => `(tactic| fail "pad")
local macro_rules | `(tactic| walk_at "pad") => `(tactic| fail "pad")
local macro_rules | `(tactic| walk_at "pad") => `(tactic| fail "pad")
local macro_rules | `(tactic| walk_at "pad") => `(tactic| fail "pad")
local macro_rules | `(tactic| walk_at "pad") => `(tactic| fail "pad")
local macro_rules | `(tactic| walk_at "pad") => `(tactic| fail "pad")
local macro_rules | `(tactic| walk_at "pad") => `(tactic| fail "pad")
local macro_rules | `(tactic| walk_at "pad") => `(tactic| fail "pad")
local macro_rules | `(tactic| walk_at "pad") => `(tactic| fail "pad")
local macro_rules | `(tactic| walk_at "pad") => `(tactic| fail "pad")
local macro_rules | `(tactic| walk_at "pad") => `(tactic| fail "pad")
local macro_rules | `(tactic| walk_at "pad") => `(tactic| fail "pad")
local macro_rules | `(tactic| walk_at "pad") => `(tactic| fail "pad")
local macro_rules | `(tactic| walk_at "pad") => `(tactic| fail "pad")
local macro_rules | `(tactic| walk_at "pad") => `(tactic| fail "pad")
local macro_rules | `(tactic| walk_at "pad") => `(tactic| fail "pad")
local macro_rules | `(tactic| walk_at "pad") => `(tactic| fail "pad")
local macro_rules | `(tactic| walk_at "pad") => `(tactic| fail "pad")
local macro_rules | `(tactic| walk_at "pad") => `(tactic| fail "pad")
local macro_rules | `(tactic| walk_at "pad") => `(tactic| fail "pad")
local macro_rules | `(tactic| walk_at "pad") => `(tactic| fail "pad")
local macro_rules | `(tactic| walk_at "pad") => `(tactic| fail "pad")
open PySem PySem.W PyProof.Rows PySem.Calls PySem.SeqAt
set_option maxRecDepth 100000
set_option maxHeartbeats 0
namespace Mine
local macro_rules | `(tactic| walk_at "getAttr ref") => `(tactic| (k_here; k_dflt (refine' kget ?k1 ?k2 ?k3 ?k4 ?k5 ?k6 ?k7 ?k8 ?k9 ?k10 ?k11 ?k12 ?k13 ?_; (case k1 => k_asm); (case k2 => k_asm); (case k9 => exact News.get (by k_asm) (by k_mem)); (case k10 => exact News.get (by k_asm) (by k_mem)); (case k3 => k_is); (case k4 => kernel_rfl); (case k5 => k_is); (case k6 => k_is); (case k7 => k_is); (case k8 => (rw [typeLookup_type, builtinLookup_eq_fast]; kernel_rfl)); (case k11 => assumption); (case k12 => assumption); (case k13 => rfl); k_whole)))
local macro_rules | `(tactic| walk_at "call ref") => `(tactic| (k_here; (with_reducible show wpAny _ _ (call (Value.ref 34) [Value.str _ _, Value.str _ _, Value.int _ _]) _ _ _); k_dflt (refine' pe_strK ?kB ?kF ?kN ?kX ?kT ?hk ?hdp ?hun ?h1 ?h2 ?h3 ?h4 ?_; (case kB => k_asm); (case kF => k_asm); (case kN => k_asm); (case kX => k_asm); (case kT => k_asm); (case hk => rfl); (case hdp => first | decide | ktr_room | omega); (case hun => first | decide | omega); (case h1 => first | decide | omega); (case h2 => first | decide | omega); (case h3 => first | decide | assumption | omega); (case h4 => first | decide | omega); k_whole; intro e' dx' od' mA' t' tw' l' c' h' tk' F' N' AA' f1' f2' f3' f4' f5' ne1' ne1a' ne1b' ne2' ne3')))
local macro_rules | `(tactic| walk_at "call ref") => `(tactic| (k_here; (with_reducible show wpAny _ _ (call (Value.ref 34) [Value.str _ _, Value.bytes _ _, Value.int _ _]) _ _ _); k_dflt (refine' pe_bytesK ?kB ?kF ?kN ?kX ?kT ?hk ?hdp ?hun ?h1 ?h2 ?h3 ?h4 ?_; (case kB => k_asm); (case kF => k_asm); (case kN => k_asm); (case kX => k_asm); (case kT => k_asm); (case hk => rfl); (case hdp => first | decide | ktr_room | omega); (case hun => first | decide | omega); (case h1 => first | decide | omega); (case h2 => first | decide | omega); (case h3 => first | decide | assumption | omega); (case h4 => first | decide | omega); k_whole; intro e' dx' od' mA' t' tw' l' c' h' tk' F' N' AA' f1' f2' f3' f4' f5' ne1' ne1a' ne1b' ne2' ne3')))
local macro_rules | `(tactic| walk_at "call ref") => `(tactic| (k_here; (with_reducible show wpAny _ _ (call (Value.ref 34) [Value.str _ _] []) _ _ _); k_dflt (refine' pe_mK ?kB ?kF ?kN ?kX ?kT ?hk ?hdp ?hun ?_; (case kB => k_asm); (case kF => k_asm); (case kN => k_asm); (case kX => k_asm); (case kT => k_asm); (case hk => rfl); (case hdp => first | decide | ktr_room | omega); (case hun => first | decide | omega); k_whole; intro e' dx' od' mA' t' tw' h' tk' F' N' AA' f1' f2' f3' f4' f5' ne1' ne1a' ne1b' ne2' ne3')))
local macro_rules | `(tactic| walk_at "call ref") => `(tactic| (k_here; (with_reducible show wpAny _ _ (call (Value.ref 34) [Value.str _ _, Value.str _ _] []) _ _ _); k_dflt (refine' pe_msK ?kB ?kF ?kN ?kX ?kT ?hk ?hdp ?hun ?_; (case kB => k_asm); (case kF => k_asm); (case kN => k_asm); (case kX => k_asm); (case kT => k_asm); (case hk => rfl); (case hdp => first | decide | ktr_room | omega); (case hun => first | decide | omega); k_whole; intro e' dx' od' mA' t' tw' h' tk' F' N' AA' f1' f2' f3' f4' f5' ne1' ne1a' ne1b' ne2' ne3')))
local macro_rules | `(tactic| walk_at "call ref") => `(tactic| (k_here; (with_reducible show wpAny _ _ (call (Value.ref 34) [Value.str _ _, Value.bytes _ _] []) _ _ _); k_dflt (refine' pe_mbK ?kB ?kF ?kN ?kX ?kT ?hk ?hdp ?hun ?_; (case kB => k_asm); (case kF => k_asm); (case kN => k_asm); (case kX => k_asm); (case kT => k_asm); (case hk => rfl); (case hdp => first | decide | ktr_room | omega); (case hun => first | decide | omega); k_whole; intro e' dx' od' mA' t' tw' h' tk' F' N' AA' f1' f2' f3' f4' f5' ne1' ne1a' ne1b' ne2' ne3')))
local macro_rules | `(tactic| walk_at "call ref") => `(tactic| (k_here; (with_reducible show wpAny _ _ (call (Value.ref 34) [Value.str _ _] (List.zip _ _)) _ _ _); k_dflt ((show wpAny _ _ (call (Value.ref 34) [Value.str _ _] [(Str.ofString "pos", Value.int _ _)]) _ _ _); refine' pe_mpK ?kB ?kF ?kN ?kX ?kT ?hk ?hdp ?hun ?_; (case kB => k_asm); (case kF => k_asm); (case kN => k_asm); (case kX => k_asm); (case kT => k_asm); (case hk => rfl); (case hdp => first | decide | ktr_room | omega); (case hun => first | decide | omega); k_whole; intro e' dx' od' mA' t' tw' h' tk' F' N' AA' f1' f2' f3' f4' f5' ne1' ne1a' ne1b' ne2' ne3')))
local macro_rules | `(tactic| k_all) => `(tactic| assumption)
local macro_rules | `(tactic| walk_at "call ref") => `(tactic| (k_here; (with_reducible show wpAny _ _ (call (Value.ref 44) [Value.ref _]) _ _ _); k_dflt (refine' linesK ?kB ?kF ?kN ?kX ?kT ?hk ?hdp ?h1 ?h2 ?h3 ?_; (case kB => k_asm); (case kF => k_asm); (case kN => k_asm); (case kX => k_asm); (case kT => k_asm); (case hk => rfl); (case hdp => first | decide | ktr_room | omega); (case h1 => assumption); (case h2 => assumption); (case h3 => assumption); k_whole; intro l' us' k' tl' h' tk' F' N' D')))
local macro_rules | `(tactic| walk_at "call ref") => `(tactic| (k_here; (with_reducible show wpAny _ _ (call (Value.ref 51) [Value.ref _]) _ _ _); k_dflt (refine' readingK ?kB ?kF ?kN ?kX ?kT ?hk ?hdp ?h1 ?h2 ?h3 ?h4 ?_; (case kB => k_asm); (case kF => k_asm); (case kN => k_asm); (case kX => k_asm); (case kT => k_asm); (case hk => rfl); (case hdp => first | decide | ktr_room | omega); (case h1 => k_mem); (case h2 => assumption); (case h3 => exact fun p hp => List.mem_cons_of_mem _ hp); (case h4 => assumption); k_whole; intro d' ds' k' tl' h' tk' F' N' D')))
local macro_rules | `(tactic| walk_at "subscriptTail Name Constant ref int") => `(tactic| (k_here; k_dflt (refine' at_item ?k1 ?k2 ?k3 ?k4 ?_ ?k5; (case k1 => exact News.isList (by k_asm) (by k_mem)); (case k2 => decide); (case k3 => decide); (case k4 => rfl); (case k5 => with_unfolding_all rfl); k_whole)))
local macro_rules | `(tactic| walk_at "call builtin:list.append") => `(tactic| (k_here; (with_reducible show wpAny _ _ (call (Value.builtin _) [Value.ref _, _]) _ _ _); k_dflt (refine' append_K ?k1 ?k2 ?k3 ?_ ?z; (case k1 => k_asm); (case k2 => k_asm); (case k3 => k_upd); (case z => exact szL (by assumption)); k_whole); intro h' F' N'; (simp only [List.push_toArray] at N'); (try k_sweep)))
local macro_rules | `(tactic| walk_at "getMethod ref") => `(tactic| (k_here; (with_reducible show wpAny _ _ (getMethod (Value.ref _) (PySem.Str.ofString "append") _) _ _ _); k_dflt (refine' listMethod_K ?N ?m PySem.F.slot_list_append PySem.F.type_list_append ?_; (case N => k_asm); (case m => k_mem))))
local macro_rules | `(tactic| walk_at "getMethod ref") => `(tactic| (k_here; (with_reducible show wpAny _ _ (getMethod (Value.ref _) (PySem.Str.ofString "extend") _) _ _ _); k_dflt (refine' kl_method ?N ?m PySem.F.slot_list_extend PySem.F.type_list_extend ?_; (case N => k_asm); (case m => k_mem))))
local macro_rules | `(tactic| walk_at "call builtin:list.extend") => `(tactic| (k_here; (with_reducible show wpAny _ _ (call (Value.builtin _) [Value.ref _, Value.ref _]) _ _ _); k_dflt (refine' ext_head ?F ?N ?b ?o ?z ?_; (case F => k_asm); (case N => k_asm); (case b => k_mem); (case o => assumption); (case z => exact ‹∀ tv : Value, (_ ++ [tv]).length + _ ≤ 100000› _); k_whole); intro n' h' F' N'; (try k_sweep)))
local macro_rules | `(tactic| walk_at "eval ListComp") => `(tactic| (k_here; k_dflt (refine LCg.ListComp_U (F₀ := by k_asm) (by with_unfolding_all rfl) (by decide) (by rfl) (by decide) (by rfl) ?_)))
def chrS (k : Int) : Str := ⟨#[k.toNat]⟩
local macro_rules | `(tactic| walk_at "CompSrc") => `(tactic| (k_here; k_dflt (refine LCg.CompSrc.ledger (by rfl) (by k_asm) (by k_asm) (by k_mem) (szL (by assumption)) ?_; intro g'; (refine' kct_list chrS (by assumption) (fun k' t' I' oI' C' oC' D' m' ys' h' tk' E' hk' hC' hx' F' N' off' ne' => ?_) ?_); (all_goals (try (have hkb' := (‹∀ n : Int, n ∈ _ → 0 ≤ n ∧ n < 256›) _ hk'))); (all_goals (try ((show KPfMark → _); intro hMark'))); kcf_last)))
local macro_rules | `(tactic| walk_at "CompEnd") => `(tactic| (k_dflt (refine LCg.CompEnd.intro (by k_asm) (by k_asm) _ (fun p hp => hp) (by assumption) (Or.inr ⟨_, by k_mem, rfl, _, rfl⟩) ⟨rfl, _, rfl⟩)))
local macro_rules | `(tactic| walk_at "call builtin:len") => `(tactic| (k_here; (with_reducible show wpAny _ _ (call (Value.builtin "len") [Value.ref _]) _ _ _); k_dflt (refine' len_at ?k2 ?k3 ?k4 ?_; (case k2 => exact News.isList (by k_asm) (by k_mem)); (case k3 => assumption); (case k4 => assumption); k_whole; intro _ _)))
local macro_rules | `(tactic| walk_at "subscriptTail") => `(tactic| (k_here; (with_reducible show wpAny _ _ (subscriptTail (Expr.Tuple _ _ _) _ (Value.ref _) (Value.int _ _)) _ _ _); k_dflt (refine' msg_item ?k1 ?k2 ?k3 ?l0 ?l1 ?l2 ?l3 ?_ ?k6; (case k1 => exact News.isTup (by k_asm) (by k_mem)); (case k2 => omega); (case k3 => omega); (case l0 => decide); (case l1 => decide); (case l2 => decide); (case l3 => decide); (case k6 => with_unfolding_all rfl); k_whole; intro ms' tms' hms')))
local macro_rules | `(tactic| walk_at "subscriptTail Name Name ref int") => `(tactic| (k_here; k_dflt (refine' at_item ?k1 ?k2 ?k3 ?k4 ?_ ?k5; (case k1 => exact News.isList (by k_asm) (by k_mem)); (case k2 => omega); (case k3 => omega); (case k4 => assumption); (case k5 => with_unfolding_all rfl); k_whole)))
local macro_rules | `(tactic| walk_at "call ref") => `(tactic| (k_here; (with_reducible show wpAny _ _ (call (Value.ref 58) [_, _, _, _, _]) _ _ _); k_dflt (refine' holdsK ?kB ?kF ?kN ?kX ?kT ?hk ?hdp ?hun ?he ?h0 ?hdx ?hA ?a1 ?a2 ?a3 ?hand ?hand2 ?ht ?hw ?hqr ?_; (case kB => k_asm); (case kF => k_asm); (case kN => k_asm); (case kX => k_asm); (case kT => k_asm); (case hk => rfl); (case hdp => first | decide | ktr_room | omega); (case hun => first | decide | omega); (case he => k_mem); (case h0 => rfl); (case hdx => k_mem); (case hA => assumption); (case a1 => assumption); (case a2 => assumption); (case a3 => assumption); (case hand => rfl); (case hand2 => rfl); (case ht => k_mem); (case hw => rfl); (case hqr => first | exact fun _ _ => EqAt.same _ | exact fun _ _ => eqv_int _ _ _); k_whole; intro h' tk' F' N')))
local macro_rules | `(tactic| walk_at "call type:list") => `(tactic| (k_here; (with_reducible show wpAny _ _ (call (Value.type _) [Value.ref _]) _ _ _); k_dflt (refine' list_copyK ?k1 ?k2 ?k3 ?_ ?z; (case k1 => k_asm); (case k2 => k_asm); (case k3 => exact News.isList (by k_asm) (by k_mem)); (case z => exact szL (by assumption)); k_whole); intro D' c' h' F' N' l1; (try k_lt l1); (try k_sweep)))
local macro_rules | `(tactic| walk_at "subscriptTail Name Slice ref ref") => `(tactic| (k_here; (with_reducible show wpAny _ _ (subscriptTail _ (PySem.Expr.Slice _ _ none _) (Value.ref _) (Value.ref _)) _ _ _); k_dflt (refine' kms_slice_lit ?F ?N ?l ?p ?q ?e ?_ ?s ?t ?z; (case F => k_asm); (case N => k_asm); (case l => exact News.isList (by k_asm) (by k_mem)); (case p => kmk_part); (case q => kmk_part); (case e => exact pick_tail _ _); (case s => with_unfolding_all rfl); (case t => kmk_pure); (case z => exact szL (by assumption))); intro D' h' F' N' l1; (try k_lt l1); (try k_sweep)))
local macro_rules | `(tactic| walk_at "exec For") => `(tactic| (k_here; (with_reducible show wpAny _ _ (exec (Stmt.For (Expr.Name _ _) _ _ _ _) _) _ _ _); k_dflt (refine' For_here ?kF ?k1 ?k2 ?_; (case kF => k_asm); (case k1 => rfl); (case k2 => rfl))))
local macro_rules | `(tactic| walk_at "exec For Name Name cons nil") => `(tactic| (k_here; (with_reducible show wpAny _ _ (exec (Stmt.For (Expr.Name _ _) _ _ _ _) _) _ _ _); k_dflt (refine' For_here ?kF ?k1 ?k2 ?_; (case kF => k_asm); (case k1 => rfl); (case k2 => rfl))))
local macro_rules | `(tactic| walk_at "exec For Name Call cons nil") => `(tactic| (k_here; (with_reducible show wpAny _ _ (exec (Stmt.For (Expr.Name _ _) _ _ _ _) _) _ _ _); k_dflt (refine' For_here ?kF ?k1 ?k2 ?_; (case kF => k_asm); (case k1 => rfl); (case k2 => rfl))))
local macro_rules | `(tactic| walk_at "exec For Name Subscript cons nil") => `(tactic| (k_here; (with_reducible show wpAny _ _ (exec (Stmt.For (Expr.Name _ _) _ _ _ _) _) _ _ _); k_dflt (refine' For_here ?kF ?k1 ?k2 ?_; (case kF => k_asm); (case k1 => rfl); (case k2 => rfl))))
local macro_rules | `(tactic| walk_at "exec For Name Tuple cons nil") => `(tactic| (k_here; (with_reducible show wpAny _ _ (exec (Stmt.For (Expr.Name _ _) _ _ _ _) _) _ _ _); k_dflt (refine' For_here ?kF ?k1 ?k2 ?_; (case kF => k_asm); (case k1 => rfl); (case k2 => rfl))))

theorem ints_of_dat {T : List (Addr × Obj)} : ∀ {xs : List Value} {l : List Int}, DatAll T xs (l.map .int) → IntsAre xs l
  | [], [], _ => .nil
  | _ :: _, _ :: _, .cons (.int n t) r => .cons n t (ints_of_dat r)
  | [], _ :: _, D => by cases D
  | _ :: _, [], D => by cases D
theorem list_of_dat {T : List (Addr × Obj)} {v : Value} {l : List Int} (D : DatIn T v (datL l)) : ∃ (r : Addr) (xs : List Value) (n : Nat), v = .ref r ∧ (r, W.listOf xs.toArray n) ∈ T ∧ IntsAre xs l := by
  cases D with
  | list hm hd => exact ⟨_, _, _, rfl, hm, ints_of_dat hd⟩
theorem dat_cons {T : List (Addr × Obj)} {us : List Value} {d : Dat} {ds : List Dat} (D : DatAll T us (d :: ds)) : ∃ v vs, us = v :: vs ∧ DatIn T v d ∧ DatAll T vs ds := by
  cases D with
  | cons h r => exact ⟨_, _, rfl, h, r⟩
theorem forget3 {a b c : Addr × Obj} {d : Addr × Obj} {e : Addr × Obj} {T : List (Addr × Obj)} : ∀ p ∈ b :: d :: e :: T, p ∈ a :: b :: c :: d :: e :: T := fun p hp => by
  rcases List.mem_cons.mp hp with rfl | hp
  · exact .tail _ (.head _)
  · exact .tail _ (.tail _ (.tail _ hp))
theorem order6 {h₀ h : Heap} {L : Addr} {T : List (Addr × Obj)} {a b c d e p : Addr × Obj} (N : News h₀ L h (a :: b :: c :: d :: e :: T)) (hp : p ∈ T) : News h₀ L h (c :: p :: a :: b :: d :: e :: T) := fun q hq => by
  refine N q ?_
  rcases List.mem_cons.mp hq with rfl | hq
  · exact .tail _ (.tail _ (.head _))
  rcases List.mem_cons.mp hq with rfl | hq
  · exact .tail _ (.tail _ (.tail _ (.tail _ (.tail _ hp))))
  rcases List.mem_cons.mp hq with rfl | hq
  · exact .head _
  rcases List.mem_cons.mp hq with rfl | hq
  · exact .tail _ (.head _)
  · exact .tail _ (.tail _ (.tail _ hq))
theorem flat_len : ∀ (r : List (List Int)), ((r.map (10 :: ·)).flatten).length = (r.map (fun l => l.length + 1)).sum
  | [] => rfl
  | a :: q => by simp only [List.map_cons, List.flatten_cons, List.length_append, List.length_cons, List.sum_cons, flat_len q]
theorem take_sum {i : Nat} : ∀ {r : List (List Int)}, (hi : i < r.length) → ((r.take i).map (fun l => l.length + 1)).sum + (r[i].length + 1) ≤ (r.map (fun l => l.length + 1)).sum := by
  induction i with
  | zero => intro r hi; cases r with
    | nil => cases hi
    | cons a q => simp
  | succ i ih => intro r hi; cases r with
    | nil => cases hi
    | cons a q =>
      have := ih (r := q) (by simpa using hi)
      simp only [List.take_succ_cons, List.map_cons, List.sum_cons, List.getElem_cons_succ] at this ⊢
      omega
theorem take_tot (l0 : List Int) {lr : List (List Int)} {i : Nat} (hi : i < lr.length) : (l0 ++ ((lr.take i).map (10 :: ·)).flatten).length + 1 + (lr[i]).length ≤ tot (l0 :: lr) := by
  have := take_sum hi
  rw [List.length_append, flat_len]
  unfold tot
  simp only [List.map_cons, List.sum_cons]
  omega
theorem back6 {h₀ h : Heap} {L : Addr} {T : List (Addr × Obj)} {a b c d e p : Addr × Obj} (N : News h₀ L h (c :: p :: a :: b :: d :: e :: T)) : News h₀ L h (a :: b :: c :: d :: e :: T) := fun q hq => by
  refine N q ?_
  rcases List.mem_cons.mp hq with rfl | hq
  · exact .tail _ (.tail _ (.head _))
  rcases List.mem_cons.mp hq with rfl | hq
  · exact .tail _ (.tail _ (.tail _ (.head _)))
  rcases List.mem_cons.mp hq with rfl | hq
  · exact .head _
  · exact .tail _ (.tail _ (.tail _ (.tail _ hq)))
theorem take_flat (l0 : List Int) {lr : List (List Int)} {i : Nat} (hi : i < lr.length) : l0 ++ ((lr.take (i + 1)).map (10 :: ·)).flatten = l0 ++ ((lr.take i).map (10 :: ·)).flatten ++ [10] ++ lr[i] := by
  rw [List.take_add_one, List.getElem?_eq_getElem hi, Option.toList_some, List.map_append, List.flatten_append, List.append_assoc, List.append_assoc]
  simp only [List.map_cons, List.map_nil, List.flatten_cons, List.flatten_nil, List.append_nil, List.append_assoc, List.cons_append, List.nil_append]
theorem front {h₀ h : Heap} {L : Addr} {news : List (Addr × Obj)} {p : Addr × Obj} (N : News h₀ L h news) (hp : p ∈ news) : News h₀ L h (p :: news) := fun q hq => by
  rcases List.mem_cons.mp hq with rfl | hq
  · exact N _ hp
  · exact N _ hq
theorem str_len (x : Str) : x.length = x.cps.toList.length := by simp [Str.length]
theorem pw_t {ms y : Str} {cds : List Nat} {p : Nat} {a b : Int} {tw : Tok} (h10 : 10 ∈ cds) (ha : nlCount cds p + 1 = a) (hb : (p : Int) - nlLast cds p = b) (hy : y = ms ++ Str.ofString " at position " ++ Str.ofString (toString (p : Int)) ++ Str.ofString " (line " ++ Str.ofString (toString a) ++ Str.ofString ", column " ++ Str.ofString (toString b) ++ Str.ofString ")") : some (Value.str y tw) = some (Value.str (peWords ms cds p) tw) := by
  unfold peWords words3 words2
  rw [if_pos h10, Int.toNat_natCast, ha, hb, hy]
theorem pw_f {ms y : Str} {cds : List Nat} {p : Nat} {tw : Tok} (h10 : 10 ∉ cds) (hy : y = ms ++ Str.ofString " at position " ++ Str.ofString (toString (p : Int))) : some (Value.str y tw) = some (Value.str (peWords ms cds p) tw) := by
  unfold peWords words2
  rw [if_neg h10, hy]
theorem two_ne2 {A : Around} {s : Shared} {prog : Program} {w : World} {E : Value → Shared → Prop} {Q : Value → Shared → Prop} {r r2 : Addr} {k k2 : Nat} {a b a' b' : Int} {u0 u1 v0 v1 : Tok}
    (hl : s.heap.get? r = some { cls := .type "tuple", data := .seq #[.int a u0, .int b u1] k }) (hb : s.heap.get? r2 = some { cls := .type "tuple", data := .seq #[.int a' v0, .int b' v1] k2 }) (ha : a = a') (hbb : b = b') (hu : A.units + 2 < cLine) (h : Q (.bool false) s) : wpAny (model prog w) A (compareOp .NotEq (.ref r) (.ref r2)) Q E s := by
  subst ha hbb
  exact two_ne hl hb hu h
theorem in_five {a1 a2 a3 a4 a5 c1 c2 c3 c4 : Addr × Obj} {T own T0 : List (Addr × Obj)} (hT : T0 = T ++ own) : ∀ q ∈ c1 :: c2 :: c3 :: c4 :: T, q ∈ a1 :: a2 :: a3 :: a4 :: a5 :: c1 :: c2 :: c3 :: c4 :: T0 := by
  subst hT
  intro q hq
  exact .tail _ (.tail _ (.tail _ (.tail _ (.tail _ (List.mem_append_left own hq)))))
theorem own_five {a1 a2 a3 a4 a5 c1 c2 c3 c4 : Addr × Obj} {T own T0 : List (Addr × Obj)} (hT : T0 = T ++ own) : ∀ q ∈ own, q ∈ a1 :: a2 :: a3 :: a4 :: a5 :: c1 :: c2 :: c3 :: c4 :: T0 := by
  subst hT
  intro q hq
  exact .tail _ (.tail _ (.tail _ (.tail _ (.tail _ (.tail _ (.tail _ (.tail _ (.tail _ (List.mem_append_right T hq)))))))))
theorem glue_fold : ∀ (l : List Int) (acc : Array Nat), ((l.map chrS).foldl (fun acc p => acc ++ (Str.ofString "").cps ++ p.cps) acc).toList = acc.toList ++ nats l
  | [], acc => by simp [nats]
  | n :: r, acc => by
    rw [List.map_cons, List.foldl_cons, glue_fold r]
    have : (Str.ofString "").cps = #[] := rfl
    rw [this]
    simp [chrS, nats]
theorem join_cps (l : List Int) : (PySem.Txt.join (Str.ofString "") (l.map chrS)).cps.toList = nats l := by
  show (Builtin.Str.glued (PySem.Str.ofString "") (l.map chrS)).cps.toList = _
  unfold Builtin.Str.glued
  cases l with
  | nil => rfl
  | cons n r =>
    show (((r.map chrS)).foldl (fun acc p => acc ++ (Str.ofString "").cps ++ p.cps) (chrS n).cps).toList = _
    rw [glue_fold]
    rfl
theorem codes_arr (l : List Int) (h : ∀ n ∈ l, 0 ≤ n ∧ n < 256) : codes (byteArr l) = nats l := by
  unfold codes byteArr nats
  simp only [List.map_map]
  refine List.map_congr_left fun n hn => ?_
  have hb := PySem.W.byte_back (h n hn).1 (h n hn).2
  show n.toNat.toUInt8.toNat = n.toNat
  omega
def JQ (d : Addr) (ds : List Value) (k' : Nat) (l : Addr) (us : List Value) (k : Nat) (T : List (Addr × Obj)) (pv : Value) (c1 c2 : Addr × Obj) (_i : Nat) (m : Str → Option Value) (nw : List (Addr × Obj)) : Prop :=
  m (Str.ofString "lines") = some (Value.ref l) ∧ m (Str.ofString "due") = some (Value.ref d) ∧ m (Str.ofString "pattern") = some pv ∧ nw = c1 :: c2 :: (d, W.listOf ds.toArray k') :: (l, W.listOf us.toArray k) :: T
theorem tup_of_dat {T : List (Addr × Obj)} {v : Value} {a b : Int} (D : DatIn T v (datP (a, b))) : ∃ (r : Addr) (ta tb : Tok) (n : Nat), v = .ref r ∧ (r, ({ cls := .type "tuple", data := .seq #[.int a ta, .int b tb] n } : Obj)) ∈ T := by
  cases D with
  | tuple hm hd =>
    cases hd with
    | cons d1 r1 => cases d1; cases r1 with
      | cons d2 r2 => cases d2; cases r2; exact ⟨_, _, _, _, rfl, hm⟩
theorem tail_is {h₀ h : Heap} {L : Addr} {c p a d e : Addr × Obj} {T own T0 : List (Addr × Obj)} (N : News h₀ L h (c :: ((p :: a :: d :: e :: T) ++ own))) (hT : T0 = T ++ own) : News h₀ L h (c :: p :: a :: d :: e :: T0) := by subst hT; exact N
def JP (d : Addr) (ds : List Value) (k' : Nat) (l : Addr) (us : List Value) (k : Nat) (T : List (Addr × Obj)) (_i : Nat) (m : Str → Option Value) (nw : List (Addr × Obj)) : Prop :=
  m (Str.ofString "lines") = some (Value.ref l) ∧ m (Str.ofString "due") = some (Value.ref d) ∧ nw = (d, W.listOf ds.toArray k') :: (l, W.listOf us.toArray k) :: T
theorem skip3 {a b c : Addr × Obj} {T : List (Addr × Obj)} {d e : Addr × Obj} : ∀ p ∈ d :: e :: T, p ∈ a :: b :: c :: d :: e :: T := fun _ hp => .tail _ (.tail _ (.tail _ hp))
def JS (l : Addr) (us : List Value) (k : Nat) (d : Addr) (ds : List Value) (k' : Nat) (T : List (Addr × Obj)) (l0 : List Int) (lr : List (List Int)) (sg : Addr) (i : Nat) (m : Str → Option Value) (nw : List (Addr × Obj)) : Prop :=
  ∃ (ss : List Value) (kk : Nat), m (Str.ofString "signs") = some (Value.ref sg) ∧ m (Str.ofString "lines") = some (Value.ref l) ∧ m (Str.ofString "due") = some (Value.ref d) ∧ nw = (sg, W.listOf ss.toArray kk) :: (d, W.listOf ds.toArray k') :: (l, W.listOf us.toArray k) :: T ∧ IntsAre ss (l0 ++ ((lr.take i).map (10 :: ·)).flatten)
local macro_rules | `(tactic| walk_at "compareOp NotEq ref ref") => `(tactic| (k_here; k_dflt (refine' two_ne2 ?h1 ?h2 ?h3 ?h4 ?hu ?_; (case h1 => exact News.get (by k_asm) (by k_mem)); (case h2 => exact News.get (by k_asm) (by k_mem)); (case h3 => assumption); (case h4 => assumption); (case hu => first | exact Nat.le_of_ble_eq_true rfl | decide | omega); k_whole)))
theorem law_walk : PySem.Challenge.rw_dn0146_03.Holds := hd (by
  w_strict (
    k_go0; (all_goals try k_fold))
  rename_i ns hs0 hlay hL1 hr1 hl2 w4 w3 lv vs w0 hL ra w1 r0 hI hr h63 hT0 K0 hD0 h1 F1 N1
  have hn63 : ns.length ≤ 63 := by omega
  clear hs0 hlay hL1 hr1 ra w1 r0 hT0 hD0
  refine cutP F1 N1 2 (fun m nw m' nw' => ∃ (l : Addr) (us : List Value) (k : Nat) (d : Addr) (ds : List Value) (k' : Nat) (T : List (Addr × Obj)), m' (Str.ofString "lines") = some (Value.ref l) ∧ m' (Str.ofString "due") = some (Value.ref d) ∧ nw' = (d, W.listOf ds.toArray k') :: (l, W.listOf us.toArray k) :: T ∧ DatAll T us ((linesOf ns).map datL) ∧ DatAll T ds ((readOf ((linesOf ns).map List.length)).map datP)) ?a1 ?a2
  case a1 =>
    show wpAny _ _ (execs [_, _] _) _ _ _
    k_steps
    rename News _ _ _ _ => N9
    rename Fr _ _ _ _ => F9
    rename DatAll _ _ ((linesOf ns).map datL) => D1
    rename DatAll _ _ ((readOf _).map datP) => D2
    exact ⟨_, _, _, _, rfl, F9, N9, _, _, _, _, _, _, _, rfl, rfl, rfl, D1.mono fun p hp => List.mem_append_left _ hp, D2.mono fun p hp => List.mem_append_right _ hp⟩
  case a2 =>
  clear F1 N1
  rintro h1 tk1 m1 nw1 F1 N1 ⟨l, us, k, d, ds, k', T, hm1, hm2, rfl, hDl, hDd⟩
  rw [mapc hm1 (mapc hm2 rfl)] at F1
  obtain ⟨ls, hls⟩ : ∃ ls, ls = linesOf ns := ⟨_, rfl⟩
  rw [← hls] at hDl hDd
  obtain ⟨l0, lr, hl0⟩ : ∃ l0 lr, ls = l0 :: lr := by
    cases q : ls with
    | nil => exact absurd (hls ▸ q) (lines_ne ns)
    | cons a b => exact ⟨a, b, rfl⟩
  rw [hl0] at hDl
  obtain ⟨v0, vr, rfl, hv0, hvr⟩ := dat_cons hDl
  obtain ⟨ra, xs0, n0, rfl, hra, hIx⟩ := list_of_dat hv0
  replace N1 := front N1 (.tail _ (.tail _ hra))
  clear hDl hv0
  have htot := lines_tot ns
  have hxl : xs0.length ≤ 100000 := by
    have h1 := hIx.length
    have h2 := tot_one (ls := linesOf ns) (l := l0) (by rw [← hls, hl0]; exact .head _)
    omega
  have hul : (Value.ref ra :: vr).length ≤ 100000 := by
    have h1 := hvr.length
    have h2 := tot_len (linesOf ns)
    rw [← hls, hl0, List.length_cons] at h2
    rw [List.length_map] at h1
    rw [List.length_cons]
    rw [← hls, hl0] at htot
    omega
  refine cutP F1 N1 2 (fun m nw m' nw' => ∃ (sg : Addr) (ss : List Value) (kk : Nat), m' (Str.ofString "signs") = some (Value.ref sg) ∧ m' (Str.ofString "lines") = some (Value.ref l) ∧ m' (Str.ofString "due") = some (Value.ref d) ∧ nw' = (sg, W.listOf ss.toArray kk) :: (d, W.listOf ds.toArray k') :: (l, W.listOf (Value.ref ra :: vr).toArray k) :: T ∧ IntsAre ss (signsOf ls)) ?b1 ?b2
  case b1 =>
    show wpAny _ _ (execs [_, _] _) _ _ _
    k_steps
    rename News _ _ _ _ => N2
    rename Fr _ _ _ _ => F2
    rename_i sg c9 h9 lt1 h8 vl h7 lt2
    refine loop_here (JS l (Value.ref ra :: vr) k d ds k' T l0 lr sg) ?hh F2 N2 (.head _) forget3 ?start ?turn ?done
    case hh => rfl
    case start => exact ⟨_, _, rfl, rfl, rfl, rfl, by simpa using hIx⟩
    case turn =>
      clear F2 N2
      intro i v m₁ news₁ h tk I oI lo hv hJ hoff hlo F1 N1
      obtain ⟨ss, kk, hq1, hq2, hq3, rfl, hIs⟩ := hJ
      rw [mapc hq1 (mapc hq2 (mapc hq3 rfl))] at F1
      have hvi : i < lr.length := by
        have h1 := (List.getElem?_eq_some_iff.mp hv).1
        have h2 := hvr.length
        rw [List.length_map] at h2; omega
      obtain ⟨v2, hv2, hvd⟩ := hvr.get (k := i) (by simpa using hvi)
      rw [hv] at hv2
      cases hv2
      rw [List.getElem_map] at hvd
      obtain ⟨rr, ys, ny, rfl, hrr, hIy⟩ := list_of_dat hvd
      have hsl : (signsOf ls).length ≤ tot ls := signs_len ls
      have hpre : (l0 ++ ((lr.take i).map (10 :: ·)).flatten).length + 1 + (lr[i]).length ≤ tot ls := by
        rw [hl0]
        exact take_tot l0 hvi
      rw [hls] at hpre
      have hsl1 : ss.length ≤ 100000 := by have := hIs.length; omega
      have hsl2 : ∀ tv : Value, (ss ++ [tv]).length + ys.length ≤ 100000 := by
        intro tv
        have h1 := hIs.length
        have h2 := hIy.length
        rw [List.length_append, List.length_singleton]; omega
      have hTs : ∀ p ∈ T, p.1 ≠ sg := tbn_neAll lt1.2.2.2
      have hI0 := hoff (sg, W.listOf ss.toArray kk) (.head _)
      have hrest : ∀ p ∈ (rr, W.listOf ys.toArray ny) :: (I, oI) :: (vl, lo) :: (d, W.listOf ds.toArray k') :: (l, W.listOf (Value.ref ra :: vr).toArray k) :: T, p.1 ≠ sg :=
        List.forall_mem_cons.mpr ⟨hTs _ hrr, List.forall_mem_cons.mpr ⟨Ne.symm hI0, List.forall_mem_cons.mpr ⟨Nat.ne_of_gt lt2.1, List.forall_mem_cons.mpr ⟨Nat.ne_of_lt lt1.2.1, List.forall_mem_cons.mpr ⟨Nat.ne_of_lt lt1.2.2.1, hTs⟩⟩⟩⟩⟩
      replace N1 := order6 N1 hrr
      k_steps
      rename News _ _ _ _ => N9
      rename Fr _ _ _ _ => F9
      refine ⟨_, _, _, _, rfl, F9, back6 N9, List.forall_mem_cons.mpr ⟨hI0, fun p hp => hoff p (.tail _ hp)⟩, ⟨_, _, rfl, rfl, rfl, rfl, ?_⟩⟩
      rw [take_flat l0 hvi]
      exact (hIs.append (.cons 10 _ .nil)).append hIy
    case done =>
      clear F2 N2
      intro m₁ news₁ h tk hJ F1 N1
      obtain ⟨ss, kk, hq1, hq2, hq3, rfl, hIs⟩ := hJ
      rw [mapc hq1 (mapc hq2 (mapc hq3 rfl))] at F1
      k_steps
      rename News _ _ _ _ => N9
      rename Fr _ _ _ _ => F9
      have hvl := hvr.length
      rw [List.length_map] at hvl
      rw [hvl, List.take_length] at hIs
      exact ⟨_, _, _, _, rfl, F9, N9, sg, ss, kk, rfl, rfl, rfl, rfl, by rw [hl0]; exact hIs⟩
  case b2 =>
  clear F1 N1
  rintro h1 tk1 m1 nw1 F1 N1 ⟨sg, ss, kk, hm3, hm4, hm5, rfl, hIs⟩
  rw [mapc hm3 (mapc hm4 (mapc hm5 rfl))] at F1
  have hsl : ss.length ≤ 100000 := by
    have h1 := signs_len ls
    have h2 := hIs.length
    rw [hls] at h1 h2; omega
  have hso : ∀ n ∈ signsOf ls, 0 ≤ n ∧ n < 256 := by
    intro n hn
    have := signs_ok ls (by rw [hls]; exact lines_ok ns) n hn
    omega
  show wpAny _ _ (execs [_, _] _) _ _ _
  k_steps
  rename News _ _ _ _ => N2
  rename Fr _ _ _ _ => F2
  refine tup_here (JP d ds k' l (Value.ref ra :: vr) k T) ?hp F2 N2 (.head _) (skip3 (T := T)) ?pstart ?pturn ?pdone
  case hp => rfl
  case pstart => exact ⟨rfl, rfl, rfl⟩
  case pturn =>
    clear F2 N2
    intro i v m₁ news₁ h tk I oI lo hv hJ hoff hlo F1 N1
    obtain ⟨hq1, hq2, rfl⟩ := hJ
    have hlens : ds.toArray.size = (readOf (ls.map List.length)).length := by
      rw [List.size_toArray, hDd.length, List.length_map]
    have hrl : (readOf (ls.map List.length)).length ≤ 100 := by
      rw [hls, reading_len]
      have := signs_len (linesOf ns)
      omega
    have hrl2 : (readOf (ls.map List.length)).length ≤ 100000 := by omega
    have hlenl : (Value.ref ra :: vr).toArray.size = ls.length := by
      have := hvr.length
      rw [List.size_toArray, List.length_cons, this, List.length_map, hl0, List.length_cons]
    have hlenl2 : ls.length ≤ 100000 := by
      have := tot_len ls
      rw [hls] at this ⊢; omega
    have hi2 : i = 0 ∨ i = 1 := by
      have := (List.getElem?_eq_some_iff.mp hv).1
      simp at this; omega
    rcases hi2 with rfl | rfl
    · obtain ⟨x, tx, rfl, hxc⟩ : ∃ x tx, v = Value.str x tx ∧ x.cps.toList = nats (signsOf ls) := by cases hv; exact ⟨_, _, rfl, join_cps _⟩
      clear hv
      rw [mapc hq1 (mapc hq2 rfl)] at F1
      k_steps
      rename IsRange _ _ _ _ _ _ _ _ => R2
      rename News _ _ _ _ => N2
      rename Fr _ _ _ _ => F2
      refine range0_here (n := (readOf (ls.map List.length)).length) (JQ d ds k' l (Value.ref ra :: vr) k T _ (I, oI) (_, lo)) ?hq R2 rfl hrl2 F2 N2 (fun _ hp => hp) ⟨rfl, rfl, rfl, rfl⟩ ?qturn ?qdone
      case hq => rfl
      case qturn =>
        clear F2 N2 R2
        intro p tp m₂ news₂ h2 tk2 own hp ho hJ F1 N1
        obtain ⟨hw1, hw2, hw3, rfl⟩ := hJ
        rw [mapc hw1 (mapc hw2 (mapc hw3 rfl))] at F1
        obtain ⟨vd, hvd, hvD⟩ := hDd.get (k := p) (by rw [List.length_map]; exact hp)
        rw [List.getElem_map] at hvD
        obtain ⟨a, b, hab⟩ : ∃ a b, (readOf (ls.map List.length))[p] = (a, b) := ⟨_, _, rfl⟩
        rw [hab] at hvD
        have hat : (readOf (ls.map List.length))[p]? = some (a, b) := by rw [List.getElem?_eq_getElem hp, hab]
        obtain ⟨tr, ta, tb, nt, rfl, htr⟩ := tup_of_dat hvD
        have hvd' : ds[((p : Nat) : Int).toNat]? = some (Value.ref tr) := by rw [Int.toNat_natCast]; exact hvd
        obtain ⟨cds, hcds⟩ : ∃ cds, cds = nats (signsOf ls) := ⟨_, rfl⟩
        have hfeed : 10 ∈ cds ↔ 1 < ls.length := by rw [hcds, hls]; exact feed_lines ns
        have hval := hat
        rw [hls, reading_at (by rw [← hls]; exact hp), ← hls, ← hcds] at hval
        obtain ⟨hav, hbv⟩ : nlCount cds p + 1 = a ∧ (p : Int) - nlLast cds p = b := by cases hval; exact ⟨rfl, rfl⟩
        have hcl : cds.length ≤ 100 := by
          have h1 := signs_len (linesOf ns)
          rw [hcds, hls]; simp only [nats, List.length_map]; omega
        have bp : p < 100 := by omega
        have ba : 0 ≤ a ∧ a < 1000 := by have := nlCount_bound cds p; omega
        have bb : 0 ≤ b ∧ b < 1000 := by have := nlLast_bound cds p; omega
        replace N1 := front N1 (List.mem_append_left _ (.tail _ (.tail _ (.tail _ (.tail _ htr)))))
        obtain ⟨T0, hT0⟩ : ∃ T0, T0 = T ++ own := ⟨_, rfl⟩
        replace N1 := tail_is N1 hT0
        clear hvd hvD hat hab hval
        refine cutP F1 N1 1 (fun m nw m' nw' => nw' = nw ∧ ∃ ms tms, m' = (fun y => if y = Str.ofString "msg" then some (.str ms tms) else m y) ∧ ms.length ≤ 100) ?q1 ?q2
        case q1 =>
          show wpAny _ _ (execs [_] _) _ _ _
          have hf4 := fm4 (p : Int)
          k_steps
          all_goals (
            rename News _ _ _ _ => N9
            rename Fr _ _ _ _ => F9
            exact ⟨_, _, _, _, rfl, F9, fun p hp => N9 p (by repeat (first | exact hp | apply List.mem_cons_of_mem)), rfl, _, _, rfl, by assumption⟩)
        case q2 =>
        clear F1 N1
        rintro h3 tk3 m3 nw3 F1 N1 ⟨rfl, ms, tms, rfl, hms⟩
        refine cutP F1 N1 2 (fun m nw m' nw' => nw' = nw ∧ ∃ tw, m' (Str.ofString "msg") = some (.str ms tms) ∧ m' (Str.ofString "words") = some (.str (peWords ms cds p) tw) ∧ m' (Str.ofString "place") = m (Str.ofString "place") ∧ m' (Str.ofString "lines") = m (Str.ofString "lines") ∧ m' (Str.ofString "due") = m (Str.ofString "due") ∧ m' (Str.ofString "pattern") = m (Str.ofString "pattern")) ?q3 ?q4
        case q3 =>
          show wpAny _ _ (execs [_, _] _) _ _ _
          k_steps
          all_goals (
            rename News _ _ _ _ => N9
            rename Fr _ _ _ _ => F9
            first
              | exact ⟨_, _, _, _, rfl, F9, N9, rfl, _, rfl, pw_t (hfeed.mpr (by omega)) hav hbv rfl, rfl, rfl, rfl, rfl⟩
              | exact ⟨_, _, _, _, rfl, F9, N9, rfl, _, rfl, pw_f (fun z => absurd (hfeed.mp z) (by omega)) rfl, rfl, rfl, rfl, rfl⟩)
        case q4 =>
        clear F1 N1
        rintro h4 tk4 m4 nw4 F1 N1 ⟨rfl, tw, z1, z2, z3, z4, z5, z6⟩
        rw [mapc z1 (mapc z2 (mapc (z3.trans rfl) (mapc (z4.trans rfl) (mapc (z5.trans rfl) (mapc (z6.trans rfl) rfl)))))] at F1
        clear z1 z2 z3 z4 z5 z6
        obtain rfl : x.cps.toList = cds := hxc.trans hcds.symm
        have hxl : x.length < 100000 := by rw [str_len]; omega
        have hav' : nlCount (x.cps.toList) ((p : Nat) : Int).toNat + 1 = a := by rw [Int.toNat_natCast]; exact hav
        have hbv' : ((p : Nat) : Int) - nlLast (x.cps.toList) ((p : Nat) : Int).toNat = b := by rw [Int.toNat_natCast]; exact hbv
        show wpAny _ _ (execs [_, _, _, _] _) _ _ _
        k_steps
        rename News _ _ _ _ => N9
        rename Fr _ _ _ _ => F9
        exact InvEndG.intro F9 N9 ⟨rfl, rfl, rfl, rfl⟩ ho (in_five hT0) (own_five hT0)
      case qdone =>
        clear F2 N2 R2
        intro m₂ news₂ h2 tk2 hJ F1 N1
        obtain ⟨hw1, hw2, hw3, rfl⟩ := hJ
        rw [mapc hw1 (mapc hw2 (mapc hw3 rfl))] at F1
        k_steps
        rename News _ _ _ _ => N2
        rename Fr _ _ _ _ => F2
        refine tup_turns (vs := [_, _, _]) (fun m => m (Str.ofString "lines") = some (Value.ref l) ∧ m (Str.ofString "due") = some (Value.ref d)) ?ch F2 N2 (.head _) rfl rfl ⟨rfl, rfl⟩ ?ct ?cd
        case ch => rfl
        case ct =>
          intro v hv m h tk I' oI' hP hI' F1 N1
          clear F2 N2
          obtain ⟨w1, w2⟩ := hP
          rw [mapc w1 (mapc w2 rfl)] at F1
          rcases List.mem_cons.mp hv with rfl | hv
          · k_steps
            rename News _ _ _ _ => N9
            rename Fr _ _ _ _ => F9
            exact ⟨_, _, _, rfl, F9, N9, rfl, rfl⟩
          rcases List.mem_cons.mp hv with rfl | hv
          · k_steps
            rename News _ _ _ _ => N9
            rename Fr _ _ _ _ => F9
            exact ⟨_, _, _, rfl, F9, N9, rfl, rfl⟩
          obtain rfl := List.mem_singleton.mp hv
          · k_steps
            rename News _ _ _ _ => N9
            rename Fr _ _ _ _ => F9
            exact ⟨_, _, _, rfl, F9, N9, rfl, rfl⟩
        case cd =>
          intro m h tk hP F1 N1
          clear F2 N2
          obtain ⟨w1, w2⟩ := hP
          rw [mapc w1 (mapc w2 rfl)] at F1
          k_steps
          rename News _ _ _ _ => N9
          rename Fr _ _ _ _ => F9
          exact ⟨_, _, _, _, rfl, F9, fun p hp => N9 p (by repeat (first | exact hp | apply List.mem_cons_of_mem)), hoff, ⟨rfl, rfl, rfl⟩⟩
    · obtain ⟨x, tx, rfl, hxc⟩ : ∃ x tx, v = Value.bytes x tx ∧ codes x = nats (signsOf ls) := by cases hv; exact ⟨_, _, rfl, codes_arr _ hso⟩
      clear hv
      rw [mapc hq1 (mapc hq2 rfl)] at F1
      k_steps
      rename IsRange _ _ _ _ _ _ _ _ => R2
      rename News _ _ _ _ => N2
      rename Fr _ _ _ _ => F2
      refine range0_here (n := (readOf (ls.map List.length)).length) (JQ d ds k' l (Value.ref ra :: vr) k T _ (I, oI) (_, lo)) ?hq R2 rfl hrl2 F2 N2 (fun _ hp => hp) ⟨rfl, rfl, rfl, rfl⟩ ?qturn ?qdone
      case hq => rfl
      case qturn =>
        clear F2 N2 R2
        intro p tp m₂ news₂ h2 tk2 own hp ho hJ F1 N1
        obtain ⟨hw1, hw2, hw3, rfl⟩ := hJ
        rw [mapc hw1 (mapc hw2 (mapc hw3 rfl))] at F1
        obtain ⟨vd, hvd, hvD⟩ := hDd.get (k := p) (by rw [List.length_map]; exact hp)
        rw [List.getElem_map] at hvD
        obtain ⟨a, b, hab⟩ : ∃ a b, (readOf (ls.map List.length))[p] = (a, b) := ⟨_, _, rfl⟩
        rw [hab] at hvD
        have hat : (readOf (ls.map List.length))[p]? = some (a, b) := by rw [List.getElem?_eq_getElem hp, hab]
        obtain ⟨tr, ta, tb, nt, rfl, htr⟩ := tup_of_dat hvD
        have hvd' : ds[((p : Nat) : Int).toNat]? = some (Value.ref tr) := by rw [Int.toNat_natCast]; exact hvd
        obtain ⟨cds, hcds⟩ : ∃ cds, cds = nats (signsOf ls) := ⟨_, rfl⟩
        have hfeed : 10 ∈ cds ↔ 1 < ls.length := by rw [hcds, hls]; exact feed_lines ns
        have hval := hat
        rw [hls, reading_at (by rw [← hls]; exact hp), ← hls, ← hcds] at hval
        obtain ⟨hav, hbv⟩ : nlCount cds p + 1 = a ∧ (p : Int) - nlLast cds p = b := by cases hval; exact ⟨rfl, rfl⟩
        have hcl : cds.length ≤ 100 := by
          have h1 := signs_len (linesOf ns)
          rw [hcds, hls]; simp only [nats, List.length_map]; omega
        have bp : p < 100 := by omega
        have ba : 0 ≤ a ∧ a < 1000 := by have := nlCount_bound cds p; omega
        have bb : 0 ≤ b ∧ b < 1000 := by have := nlLast_bound cds p; omega
        replace N1 := front N1 (List.mem_append_left _ (.tail _ (.tail _ (.tail _ (.tail _ htr)))))
        obtain ⟨T0, hT0⟩ : ∃ T0, T0 = T ++ own := ⟨_, rfl⟩
        replace N1 := tail_is N1 hT0
        clear hvd hvD hat hab hval
        refine cutP F1 N1 1 (fun m nw m' nw' => nw' = nw ∧ ∃ ms tms, m' = (fun y => if y = Str.ofString "msg" then some (.str ms tms) else m y) ∧ ms.length ≤ 100) ?q1 ?q2
        case q1 =>
          show wpAny _ _ (execs [_] _) _ _ _
          have hf4 := fm4 (p : Int)
          k_steps
          all_goals (
            rename News _ _ _ _ => N9
            rename Fr _ _ _ _ => F9
            exact ⟨_, _, _, _, rfl, F9, fun p hp => N9 p (by repeat (first | exact hp | apply List.mem_cons_of_mem)), rfl, _, _, rfl, by assumption⟩)
        case q2 =>
        clear F1 N1
        rintro h3 tk3 m3 nw3 F1 N1 ⟨rfl, ms, tms, rfl, hms⟩
        refine cutP F1 N1 2 (fun m nw m' nw' => nw' = nw ∧ ∃ tw, m' (Str.ofString "msg") = some (.str ms tms) ∧ m' (Str.ofString "words") = some (.str (peWords ms cds p) tw) ∧ m' (Str.ofString "place") = m (Str.ofString "place") ∧ m' (Str.ofString "lines") = m (Str.ofString "lines") ∧ m' (Str.ofString "due") = m (Str.ofString "due") ∧ m' (Str.ofString "pattern") = m (Str.ofString "pattern")) ?q3 ?q4
        case q3 =>
          show wpAny _ _ (execs [_, _] _) _ _ _
          k_steps
          all_goals (
            rename News _ _ _ _ => N9
            rename Fr _ _ _ _ => F9
            first
              | exact ⟨_, _, _, _, rfl, F9, N9, rfl, _, rfl, pw_t (hfeed.mpr (by omega)) hav hbv rfl, rfl, rfl, rfl, rfl⟩
              | exact ⟨_, _, _, _, rfl, F9, N9, rfl, _, rfl, pw_f (fun z => absurd (hfeed.mp z) (by omega)) rfl, rfl, rfl, rfl, rfl⟩)
        case q4 =>
        clear F1 N1
        rintro h4 tk4 m4 nw4 F1 N1 ⟨rfl, tw, z1, z2, z3, z4, z5, z6⟩
        rw [mapc z1 (mapc z2 (mapc (z3.trans rfl) (mapc (z4.trans rfl) (mapc (z5.trans rfl) (mapc (z6.trans rfl) rfl)))))] at F1
        clear z1 z2 z3 z4 z5 z6
        obtain rfl : codes x = cds := hxc.trans hcds.symm
        have hxl : x.size < 100000 := by rw [← codes_length]; omega
        have hav' : nlCount (codes x) ((p : Nat) : Int).toNat + 1 = a := by rw [Int.toNat_natCast]; exact hav
        have hbv' : ((p : Nat) : Int) - nlLast (codes x) ((p : Nat) : Int).toNat = b := by rw [Int.toNat_natCast]; exact hbv
        show wpAny _ _ (execs [_, _, _, _] _) _ _ _
        k_steps
        rename News _ _ _ _ => N9
        rename Fr _ _ _ _ => F9
        exact InvEndG.intro F9 N9 ⟨rfl, rfl, rfl, rfl⟩ ho (in_five hT0) (own_five hT0)
      case qdone =>
        clear F2 N2 R2
        intro m₂ news₂ h2 tk2 hJ F1 N1
        obtain ⟨hw1, hw2, hw3, rfl⟩ := hJ
        rw [mapc hw1 (mapc hw2 (mapc hw3 rfl))] at F1
        k_steps
        rename News _ _ _ _ => N2
        rename Fr _ _ _ _ => F2
        refine tup_turns (vs := [_, _, _]) (fun m => m (Str.ofString "lines") = some (Value.ref l) ∧ m (Str.ofString "due") = some (Value.ref d)) ?ch F2 N2 (.head _) rfl rfl ⟨rfl, rfl⟩ ?ct ?cd
        case ch => rfl
        case ct =>
          intro v hv m h tk I' oI' hP hI' F1 N1
          clear F2 N2
          obtain ⟨w1, w2⟩ := hP
          rw [mapc w1 (mapc w2 rfl)] at F1
          rcases List.mem_cons.mp hv with rfl | hv
          · k_steps
            rename News _ _ _ _ => N9
            rename Fr _ _ _ _ => F9
            exact ⟨_, _, _, rfl, F9, N9, rfl, rfl⟩
          rcases List.mem_cons.mp hv with rfl | hv
          · k_steps
            rename News _ _ _ _ => N9
            rename Fr _ _ _ _ => F9
            exact ⟨_, _, _, rfl, F9, N9, rfl, rfl⟩
          obtain rfl := List.mem_singleton.mp hv
          · k_steps
            rename News _ _ _ _ => N9
            rename Fr _ _ _ _ => F9
            exact ⟨_, _, _, rfl, F9, N9, rfl, rfl⟩
        case cd =>
          intro m h tk hP F1 N1
          clear F2 N2
          obtain ⟨w1, w2⟩ := hP
          rw [mapc w1 (mapc w2 rfl)] at F1
          k_steps
          rename News _ _ _ _ => N9
          rename Fr _ _ _ _ => F9
          exact ⟨_, _, _, _, rfl, F9, fun p hp => N9 p (by repeat (first | exact hp | apply List.mem_cons_of_mem)), hoff, ⟨rfl, rfl, rfl⟩⟩
  case pdone =>
    clear F2 N2
    intro m₁ news₁ h tk hJ F1 N1
    k_steps)
end Mine
end
open PySem PySem.W PyProof.Rows
theorem PySem.Challenge.cw_dn0146_03_holds : PySem.Challenge.rw_dn0146_03.Holds := by
  exact Mine.law_walk
