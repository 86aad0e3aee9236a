import PyProof.Rows.All
import Wide.All
import OpenK.AllK
import Wide.FinOn
import PySem.Challenge.RW_dn0146_06
set_option Elab.async false
set_option maxRecDepth 100000
set_option maxHeartbeats 0
set_option linter.all false
open PySem PySem.W PyProof.Rows PySem.Calls PySem.SeqAt
local macro_rules | `(tactic| walk_at $s:str) => `(tactic| k_extra $s)
open PySem PySem.W PyProof.Rows PySem.Calls
namespace Mine

/-- what a pure callee hands back: a value, upon a heap that keeps all that was there -/
def Back (s : Shared) (R : Value → Shared → Prop) (v : Value) (s' : Shared) : Prop := R v s'

section
variable {prog : Program} {w : World} {A₀ A : Around} {s : Shared} {base h₀ : Heap} {outer : List Env} {L : Addr} {m mg mb : Str → Option Value} {env : Env} {K : Frag} {p : Program} {loose : List Str} {mean : ExcName → Option Value}
  {R : Result → Shared → Prop} {name qual : Str} {params : Arguments} {body : List Stmt} {scope : Scope} {dV kV doc pm cdv ct oc : Value} {an od : Option Addr} {osl : Array (Option Value)} {f : Addr} {args : Args} {binds : List (Str × Value)}

theorem enter_pure (B : Below A₀ base outer h₀) (F : Fr h₀ L s.heap m) (X₀ : K.In h₀) (T : Top p loose mean mg mb h₀) (hA : A.frames = some (env :: outer)) (hf : env.frame = some L) (hke : env.scope.kind = .function)
    (ho : K.lookup f = some ⟨oc, od, .func (fnOf name qual params body scope dV kV doc pm an cdv ct), osl⟩) (hcd : codeIn K cdv qual = true) (hroom : A.depth < recursionLimit)
    (hbind : BindsTo s (fnOf name qual params body scope dV kV doc pm an cdv ct) args binds) (hloc : ∀ y ∈ binds, scope.names.lookup y.1 = some .local)
    (h : ∀ L' h₁, Fr s.heap L' h₁ (fun y => binds.reverse.lookup y) → News s.heap L' h₁ [] → Below A base (env :: outer) s.heap → K.In s.heap → Top p loose mean mg mb s.heap →
      wpAny (model prog w) (A.deeper (envOf qual scope L' f cdv)) (execs body (envOf qual scope L' f cdv))
        (fun fl s' => Back s (fun v s' => R (.ok (.ret v)) s') (match fl with | .ret v => v | _ => .none) s')
        (fun e s' => wpAny (model prog w) (A.deeper (envOf qual scope L' f cdv)) (leaving (envOf qual scope L' f cdv) e) (fun _ s'' => R (.error e) s'') (fun e' s'' => R (.error e') s'') s')
        { s with heap := h₁, toks := s.toks + binds.length })
    (hco : scope.isCoroutine = false) (hgen : scope.isGenerator = false) (hk : scope.kind = .function)
    (hcell : ∀ x ∈ scope.names, x.2 ≠ .cell) : codeAny (model prog w) A (.call (.ref f) args) R s := by
  have Xs := X₀.keeps F.keep
  obtain ⟨_, BG, _, _⟩ := groundX (R := R) B F News.nil hA hf hke
  refine codeAny_call_def (fd := fnOf name qual params body scope dV kV doc pm an cdv ct) (body := body) (binds := binds) hroom (Xs _ _ ho) rfl (T.nolimit.keeps F.keep) (codeRec_of Xs hcd) rfl hbind hcell hloc (fun h₁ hns hk₁ => ?_) hco hgen hk
  exact h s.heap.objs.size h₁ ⟨hns, hk₁, Nat.le_refl _⟩ News.nil BG Xs (T.keeps F.keep)
end
end Mine
open PySem PySem.W PyProof.Rows PySem.Calls
namespace Mine
section
variable {prog : Program} {w : World} {A₀ A : Around} {s : Shared} {base h₀ : Heap} {outer : List Env} {L : Addr} {m mg mb : Str → Option Value} {env : Env} {K : Frag} {p : Program} {loose : List Str} {mean : ExcName → Option Value}
  {R : Result → Shared → Prop} {name qual : Str} {params : Arguments} {body : List Stmt} {scope : Scope} {dV kV doc pm cdv ct oc : Value} {an od : Option Addr} {osl : Array (Option Value)} {f : Addr} {args : Args} {binds : List (Str × Value)}
/-- enter_pure for a def whose locals are captured -/
theorem enter_pureC (B : Below A₀ base outer h₀) (F : Fr h₀ L s.heap m) (X₀ : K.In h₀) (T : Top p loose mean mg mb h₀) (hA : A.frames = some (env :: outer)) (hf : env.frame = some L) (hke : env.scope.kind = .function)
    (ho : K.lookup f = some ⟨oc, od, .func (fnOf name qual params body scope dV kV doc pm an cdv ct), osl⟩) (hcd : codeIn K cdv qual = true) (hroom : A.depth < recursionLimit)
    (hbind : BindsTo s (fnOf name qual params body scope dV kV doc pm an cdv ct) args binds) (hkind : (binds.all fun y => scope.names.lookup y.1 == some .local || scope.names.lookup y.1 == some .cell) = true)
    (hnd : ((cellsFrom 0 scope.names []).map (·.1)).Nodup)
    (h : ∀ L' h₁ tk cells, Fr s.heap L' h₁ (bindL (envOfC qual scope L' f cdv).kindOf binds fun _ => none) → News s.heap L' h₁ cells →
      CellsAre (bindC (envOfC qual scope L' f cdv).kindOf binds fun _ => none) (cellsFrom (L' + 1) scope.names []) cells → Below A base (env :: outer) s.heap → K.In s.heap → Top p loose mean mg mb s.heap →
      wpAny (model prog w) (A.deeper (envOfC qual scope L' f cdv)) (execs body (envOfC qual scope L' f cdv))
        (fun fl s' => Back s (fun v s' => R (.ok (.ret v)) s') (match fl with | .ret v => v | _ => .none) s')
        (fun e s' => wpAny (model prog w) (A.deeper (envOfC qual scope L' f cdv)) (leaving (envOfC qual scope L' f cdv) e) (fun _ s'' => R (.error e) s'') (fun e' s'' => R (.error e') s'') s')
        { s with heap := h₁, toks := tk })
    (hco : scope.isCoroutine = false) (hgen : scope.isGenerator = false) (hk : scope.kind = .function) : codeAny (model prog w) A (.call (.ref f) args) R s := by
  have Xs := X₀.keeps F.keep
  obtain ⟨_, BG, _, _⟩ := groundX (R := R) B F News.nil hA hf hke
  refine codeAny_call_function (fd := fnOf name qual params body scope dV kV doc pm an cdv ct) hroom (Xs _ _ ho) rfl hco hgen rfl (codeRec_of Xs hcd) (hbind _ _ _ _ ?_)
  refine wpAny_newFunctionEnv_cells hk (kindsX hkind _) fun env' he s' x => ?_
  subst he
  refine ⟨(T.nolimit.keeps F.keep).keeps x.toInCall.keep, codeAny_func ?_⟩
  obtain ⟨h₁, tk, rfl, _⟩ := x.done
  have hk₁ := x.toInCall.keep
  obtain ⟨cells, NC, Y⟩ := Cl.news (h₀ := s.heap) (Nat.le_refl _) fun n c hm => ⟨x.cell n c (lookup_of_mem_nodup (cellsFrom_names scope.names 0 (s.heap.objs.size + 1) [] [] rfl ▸ hnd) hm), x.above n c hm⟩
  exact h s.heap.objs.size h₁ tk cells ⟨x.toInCall.ns, hk₁, Nat.le_refl _⟩ NC Y BG Xs (T.keeps F.keep)
end
end Mine
open PySem PySem.W PyProof.Rows PySem.Calls
namespace Mine
open Builtin Builtin.ObjectAttr

section
variable {prog : Program} {w : World} {A : Around} {E : Value → Shared → Prop} {h : Heap} {g : Array GenState} {d : Drawn} {t : Nat} {os : OsState}
variable {nm q : Str} {C N x : Addr} {bs : List Value} {sn : List Str} {sub : List Value} {ab : Bool} {col : Option Bool} {dd : Option Addr} {k0 k1 k2 k3 k5 : Option Value} {newId : String}
  {mN mA : Str → Option Value} {name : Str} {v : Value}

abbrev excBm : List Value := [.type "Exception", .type "BaseException", .type "object"]

theorem exc_load_entry {tk : Tok} {Q : Fin → Shared → Prop}
    (hC : h.get? C = some (excClassObj nm q C N bs excBm true sn sub ab col dd k0 k1 k2 k3 k5 newId)) (hn : h.Ns N mN) (hna : mN name = none)
    (hB : typeLookup (.type "Exception") name = pure none) (I : h.Inst x C mA) (hv : mA name = some v) (hq : Q (.done (.ret v)) ⟨h, g, d, t, os⟩) :
    wpAny (model prog w) A (Builtin.«object.__getattribute__» ⟨[.ref x, .str name tk], []⟩) Q E ⟨h, g, d, t, os⟩ := by
  obtain ⟨o, hx, hc, hnc, hd⟩ := I
  rcases hd with ⟨_, hmA⟩ | ⟨dx, hdx, hne, hns⟩
  · rw [hmA name] at hv; cases hv
  unfold Builtin.«object.__getattribute__»
  repeat (first | (with_reducible refine wpAny_loadPart_at hx ?_; rw [hc]) | (with_reducible refine wpAny_typeLookup_exc hC hn PySem.F.excBase_Exception.mroIs hB ?_; rw [hna]) | wp_step)
  split
  · rename_i c hcd
    exact absurd hcd (hnc c)
  unfold instanceDict
  repeat (first | (with_reducible refine wpAny_loadPart_at hx ?_; rw [hc]) | with_reducible refine wpAny_loadPart_at hC ?_ | wp_step)
  rw [hdx]
  repeat (first | (with_reducible refine wpAny_nsGet hns.ns ?_; rw [hv]) | wp_step)
  exact hq

theorem exc_check_ga {M : Model} {o : Obj} {nameV : Value} {Q : Unit → Shared → Prop} (hC : h.get? C = some (excClassObj nm q C N bs excBm true sn sub ab col dd k0 k1 k2 k3 k5 newId))
    (hx : h.get? x = some o) (hc : o.cls = .ref C) (hq : Q () ⟨h, g, d, t, os⟩) : wpAny M A (checkBuiltinCall "BaseException.__getattribute__" ⟨[.ref x, nameV], []⟩) Q E ⟨h, g, d, t, os⟩ := by
  have hk : builtinKind "BaseException.__getattribute__" = some .slot := by decide +kernel
  have hsplit : splitId "BaseException.__getattribute__" = some ("BaseException", "__getattribute__") := by decide +kernel
  have hcB : (Value.ref C :: excBm).contains (.type "BaseException") = true := by rw [List.contains_cons]; rfl
  have ha := PySem.F.args_bexc_ga (.ref x) nameV
  simp only [checkBuiltinCall, hk, hsplit]
  refine wpAny_bind ?_
  unfold isInstance
  repeat (first | (with_reducible refine wpAny_loadPart_at hx ?_; rw [hc]) | (with_reducible refine wpAny_isSubtype_exc hC ?_; rw [hcB]) | wp_step)
  exact hq

theorem exc_load {expr : Bool} {Q : Value → Shared → Prop}
    (hC : h.get? C = some (excClassObj nm q C N bs excBm true sn sub ab col dd k0 k1 k2 k3 k5 newId)) (hn : h.Ns N mN) (hng : mN "__getattribute__" = none) (hnh : mN "__getattr__" = none) (hna : mN name = none)
    (hB : typeLookup (.type "Exception") name = pure none) (I : h.Inst x C mA) (hv : mA name = some v) (hh : handedOut v = pure v) (hq : Q v ⟨h, g, d, t + 1, os⟩) :
    wpAny (model prog w) A (getAttr (.ref x) name expr) Q E ⟨h, g, d, t, os⟩ := by
  obtain ⟨o, hx, hc, _⟩ := id I
  have FB := PySem.F.attrBase_Exception
  have f3 := FB.ga.bind (.ref x)
  have hx0 : (expr && onTheHeap (Value.builtin "BaseException.__getattribute__")) = false := by cases expr <;> rfl
  have hx2 : (Value.builtin "BaseException.__getattribute__" == Value.builtin "object.__getattribute__") = false := by decide +kernel
  have hx1 : (onTheHeap (Value.ref C) && Value.builtin "BaseException.__getattribute__" == Value.builtin "object.__getattribute__") = false := by rw [hx2]; rfl
  unfold getAttr getAttrBy
  repeat (first | (with_reducible refine wpAny_loadPart_at hx ?_; rw [hc]) | (with_reducible refine wpAny_typeLookup_exc hC hn FB.mro FB.ga.lookup ?_; rw [hng]) | (with_reducible refine wpAny_typeLookup_exc hC hn FB.mro FB.noGetattr ?_; rw [hnh]) | wp_step)
  refine codeAny_call_builtin FB.ga.plain PySem.F.entry_bexc_ga (exc_check_ga hC hx hc (exc_load_entry hC hn hna hB I hv ?_))
  repeat (first | (rw [hh]) | wp_step)
  exact hq
end
end Mine
open PySem PySem.W PyProof.Rows PySem.Calls
namespace Mine
open Builtin Builtin.ObjectAttr

/-- a dict's object that bears the attributes mA -/
def AttrObj (o : Obj) (mA : Str → Option Value) : Prop := ∃ es ep, o.data = .dict es ep ∧ StrKeys es ∧ UniqKeys es ∧ ∀ name, nsFind es name = mA name

theorem AttrObj.ns1 {h : Heap} {a : Addr} {o : Obj} {mA : Str → Option Value} (x : AttrObj o mA) (e : h.get? a = some o) : h.Ns1 a mA :=
  let ⟨es, ep, d, k, u, f⟩ := x; ⟨o, es, ep, e, d, k, u, f⟩
theorem AttrObj.of_ns1 {h : Heap} {a : Addr} {mA : Str → Option Value} (x : h.Ns1 a mA) : ∃ o, h.get? a = some o ∧ AttrObj o mA :=
  let ⟨o, es, ep, e, d, k, u, f⟩ := x; ⟨o, e, es, ep, d, k, u, f⟩

section
variable {prog : Program} {w : World} {A : Around} {E : Value → Shared → Prop} {h : Heap} {g : Array GenState} {d : Drawn} {t : Nat} {os : OsState}
variable {nm q : Str} {C N x : Addr} {bs : List Value} {sn : List Str} {sub : List Value} {ab : Bool} {col : Option Bool} {dd : Option Addr} {k0 k1 k2 k3 k5 : Option Value} {newId : String}
  {mN mA : Str → Option Value} {name : Str} {v : Value} {vs : Array Value}

theorem exc_store0_entry {tk : Tok} {Q : Fin → Shared → Prop} {o : Obj}
    (hC : h.get? C = some (excClassObj nm q C N bs excBm true sn sub ab col dd k0 k1 k2 k3 k5 newId)) (hn : h.Ns N mN) (hna : mN name = none)
    (hB : typeLookup (.type "Exception") name = pure none) (hx : h.get? x = some o) (hc : o.cls = .ref C) (hdn : o.dict = none) (hdt : o.data = .fields vs)
    (hq : ∀ h' od tk', h'.get? x = some ⟨.ref C, some h.objs.size, .fields vs, o.slots⟩ → h'.get? h.objs.size = some od → AttrObj od (fun y => if y = name then some v else none) →
      (∀ b o, b ≠ x → h.get? b = some o → h'.get? b = some o) → Q (.done (.ret .none)) ⟨h', g, d, tk', os⟩) :
    wpAny (model prog w) A (Builtin.«object.__setattr__» ⟨[.ref x, .str name tk, v], []⟩) Q E ⟨h, g, d, t, os⟩ := by
  have hpass := PySem.F.store_Exception.passes (.ref x)
  have hmro := PySem.F.store_Exception.mro
  unfold Builtin.«object.__setattr__»
  repeat (first | rw [refuse_eq] | (rw [refuseLoop_ref, hpass]) | (with_reducible refine wpAny_loadPart_at hx ?_; rw [hc]) | with_reducible refine wpAny_mroOf_exc hC ?_ | (with_reducible refine wpAny_typeLookup_exc hC hn hmro hB ?_; rw [hna]) | wp_step)
  rw [hdn, if_neg (by simp [typeHasDict])]
  rw [hdt]
  have hx₁ : (h.push { cls := .type "dict", data := .dict #[] }).get? x = some o := Heap.get?_push_of_some _ hx
  have hxs : x ≠ h.objs.size := Nat.ne_of_lt (Heap.lt_size hx)
  have hgd : ((h.push { cls := .type "dict", data := .dict #[] }).update x fun o => { cls := o.cls, dict := some h.objs.size, data := o.data, slots := o.slots }).get? h.objs.size
      = some { cls := .type "dict", data := .dict #[] } :=
    (Heap.get?_update_ne _ _ _ _ hxs.symm).trans (Heap.get?_push_at rfl rfl)
  have hnd : ((h.push { cls := .type "dict", data := .dict #[] }).update x fun o => { cls := o.cls, dict := some h.objs.size, data := o.data, slots := o.slots }).Ns h.objs.size (fun _ => none) :=
    ⟨_, #[], _, hgd, rfl, fun e he => absurd he (by simp), fun _ => rfl⟩
  refine wpAny_bind (wpAny_alloc' ?_)
  refine wpAny_bind (wpAny_update' hx₁ ?_)
  refine wpAny_pure ?_
  show wpAny _ _ (storeInDict h.objs.size (.str name tk) name v) _ _ _
  unfold storeInDict newKeyGuard
  refine wpAny_bind (wpAny_pure (wpAny_bind (wpAny_nsSet1 (Heap.Ns1.of_empty hnd) fun h' hn' hs => ?_)))
  obtain ⟨oD, esD, epD, hoD, hdD, hcD⟩ := hn'.count (Within.cons name v Within.nil)
  refine wpAny_bind (wpAny_lookBehind hoD (by rw [hdD]; exact pastItsLine_dict (Nat.le_trans hcD (by rw [List.length_cons, List.length_nil, sizeLine_eq]; omega))) ?_)
  wp_walk
  obtain ⟨od, hod, hAt⟩ := AttrObj.of_ns1 hn'
  refine hq h' od _ ?_ hod hAt fun b ob hbx hb => ?_
  · refine (hs.2 x hxs).trans ((Heap.get?_update_self _ hx₁ ?_).trans ?_)
    · show Obj.isFreed ⟨o.cls, some h.objs.size, o.data, o.slots⟩ = false
      rw [hdt]; rfl
    · rw [hc, hdt]
  · exact (hs.2 b (Nat.ne_of_lt (Heap.lt_size hb))).trans ((Heap.get?_update_ne _ _ _ _ hbx).trans (Heap.get?_push_of_some _ hb))

theorem exc_store0_call {tk : Tok} {R : Result → Shared → Prop} {o : Obj} {sa owner : String} (SF : StoreFacts "Exception" excBm sa owner)
    (hC : h.get? C = some (excClassObj nm q C N bs excBm true sn sub ab col dd k0 k1 k2 k3 k5 newId)) (hn : h.Ns N mN) (hna : mN name = none)
    (hB : typeLookup (.type "Exception") name = pure none) (hx : h.get? x = some o) (hc : o.cls = .ref C) (hdn : o.dict = none) (hdt : o.data = .fields vs)
    (hq : ∀ h' od tk', h'.get? x = some ⟨.ref C, some h.objs.size, .fields vs, o.slots⟩ → h'.get? h.objs.size = some od → AttrObj od (fun y => if y = name then some v else none) →
      (∀ b o, b ≠ x → h.get? b = some o → h'.get? b = some o) → R (.ok (.ret .none)) ⟨h', g, d, tk', os⟩) :
    codeAny (model prog w) A (.call (.builtin sa) ⟨[.ref x, .str name tk, v], []⟩) R ⟨h, g, d, t, os⟩ :=
  codeAny_call_builtin SF.slot.plain SF.entry (wpAny_check_sa SF hC hx hc (exc_store0_entry hC hn hna hB hx hc hdn hdt hq))

theorem exc_store0 {Q : Unit → Shared → Prop} {o : Obj}
    (hC : h.get? C = some (excClassObj nm q C N bs excBm true sn sub ab col dd k0 k1 k2 k3 k5 newId)) (hn : h.Ns N mN) (hns : mN "__setattr__" = none) (hna : mN name = none)
    (hB : typeLookup (.type "Exception") name = pure none) (hx : h.get? x = some o) (hc : o.cls = .ref C) (hdn : o.dict = none) (hdt : o.data = .fields vs)
    (hq : ∀ h' od tk', h'.get? x = some ⟨.ref C, some h.objs.size, .fields vs, o.slots⟩ → h'.get? h.objs.size = some od → AttrObj od (fun y => if y = name then some v else none) →
      (∀ b o, b ≠ x → h.get? b = some o → h'.get? b = some o) → Q () ⟨h', g, d, tk', os⟩) :
    wpAny (model prog w) A (setAttr (.ref x) name v) Q E ⟨h, g, d, t, os⟩ := by
  have SF := PySem.F.store_Exception
  have f3 := SF.slot.bind (.ref x)
  unfold setAttr callSpecial? specialOf
  repeat (first | (with_reducible refine wpAny_loadPart_at hx ?_; rw [hc]) | (with_reducible refine wpAny_typeLookup_exc hC hn SF.mro SF.slot.lookup ?_; rw [hns]) | wp_step)
  refine exc_store0_call SF hC hn hna hB hx hc hdn hdt fun h' od tk' e1 e2 e3 e4 => ?_
  repeat wp_step
  exact hq h' od tk' e1 e2 e3 e4

theorem exc_store {Q : Unit → Shared → Prop} {sl : Array (Option Value)} {dx : Addr} {od : Obj} {ns : List Str}
    (hC : h.get? C = some (excClassObj nm q C N bs excBm true sn sub ab col dd k0 k1 k2 k3 k5 newId)) (hn : h.Ns N mN) (hns : mN "__setattr__" = none) (hna : mN name = none)
    (hB : typeLookup (.type "Exception") name = pure none) (hx : h.get? x = some ⟨.ref C, some dx, .fields vs, sl⟩) (hod : h.get? dx = some od) (hat : AttrObj od mA)
    (hw : Within mA ns) (hsz : ns.length ≤ sizeLine)
    (hq : ∀ h' od' tk', h'.get? dx = some od' → AttrObj od' (fun y => if y = name then some v else mA y) → (∀ b o, b ≠ dx → h.get? b = some o → h'.get? b = some o) → Q () ⟨h', g, d, tk', os⟩) :
    wpAny (model prog w) A (setAttr (.ref x) name v) Q E ⟨h, g, d, t, os⟩ := by
  have hxC : x ≠ C := fun e => by rw [e, hC] at hx; cases hx
  have hxd : dx ≠ x := fun e => by
    obtain ⟨es, ep, hd, _⟩ := hat
    rw [e, hx] at hod
    cases hod
    cases hd
  refine store_attr PySem.F.store_Exception hC hn hns hna hB hxC ⟨_, hx, rfl, (fun c q => by cases q), .inr ⟨dx, rfl, hxd, hat.ns1 hod⟩⟩ (fun h' tk' I' hk hsame => ?_) hw hsz
  obtain ⟨o₁, ho₁, c1, c2, c3, c4⟩ := hsame _ hx
  obtain ⟨o, ho, hc, hnc, hd⟩ := I'
  obtain rfl : o₁ = o := Option.some.inj (ho₁.symm.trans ho)
  have hd1 := c4 dx rfl
  rcases hd with ⟨hdn, _⟩ | ⟨d', hd', _, hn1⟩
  · rw [hd1] at hdn; cases hdn
  · rw [hd1] at hd'
    cases hd'
    obtain ⟨od', hod', hat'⟩ := AttrObj.of_ns1 hn1
    refine hq h' od' tk' hod' hat' fun b o hb e => ?_
    by_cases hbx : b = x
    · subst hbx
      rw [hx] at e
      cases e
      rw [ho₁]
      obtain ⟨oc, odi, oda, osl⟩ := o₁
      dsimp only at c1 c2 c3 hd1
      rw [c1, c2, c3, hd1]
    · exact hk b o hbx (fun o₀ dx' h0 h1 => by rw [hx] at h0; cases h0; cases h1; exact hb) e
end
end Mine
open PySem PySem.W PyProof.Rows PySem.Calls
namespace Mine
open Builtin Builtin.ObjectAttr

namespace F
theorem own_exc_init : classOwn (.type "Exception") "__init__" = pure (some (.builtin "Exception.__init__")) := by kernel_rfl
theorem ty_exc_init : typeOf (.builtin "Exception.__init__") = pure (.type "wrapper_descriptor") := by kernel_rfl
theorem slot_wd_get : Slot "wrapper_descriptor" "__get__" "wrapper_descriptor.__get__" := .of (owner := "wrapper_descriptor") (n := "__get__") (by rw [typeLookup_type, builtinLookup_eq_fast]; kernel_rfl) (by decide +kernel) (by decide +kernel) (by decide +kernel)
  (by first | exact .inl (by decide +kernel) | exact .inr (by decide +kernel)) (by rw [isSubtype_type]; kernel_rfl)
theorem entry_wd_get : entryFor table "wrapper_descriptor.__get__" = some Builtin.«wrapper_descriptor.__get__» := entryFor_of_tree (by kernel_rfl)
theorem args_wd_get (a b c : Value) : argsOk "wrapper_descriptor.__get__" ⟨[a, b, c], []⟩ := by unfold argsOk; kernel_rfl
end F

abbrev mwObj (x : Addr) : Obj := { cls := .type "method-wrapper", data := .fields #[.builtin "Exception.__init__", .ref x] }
section
variable {prog : Program} {w : World} {A : Around} {E : Value → Shared → Prop} {h : Heap} {g : Array GenState} {d : Drawn} {t : Nat} {os : OsState}
variable {nm q : Str} {C N x : Addr} {bs : List Value} {sn : List Str} {sub : List Value} {ab : Bool} {col : Option Bool} {dd : Option Addr} {k0 k1 k2 k3 k5 : Option Value} {newId : String}

theorem wd_get {Q : Fin → Shared → Prop} {o : Obj} {C' : Value} (hne : (C' == Value.none) = false)
    (hC : h.get? C = some (excClassObj nm q C N bs excBm true sn sub ab col dd k0 k1 k2 k3 k5 newId)) (hx : h.get? x = some o) (hc : o.cls = .ref C)
    (hq : Q (.done (.ret (.ref h.objs.size))) ⟨h.push (mwObj x), g, d, t, os⟩) :
    wpAny (model prog w) A (Builtin.«wrapper_descriptor.__get__» ⟨[.builtin "Exception.__init__", .ref x, C'], []⟩) Q E ⟨h, g, d, t, os⟩ := by
  have hcB : (Value.ref C :: excBm).contains (.type (".".intercalate ("Exception.__init__".cutAt '.').dropLast)) = true := by
    rw [show (".".intercalate ("Exception.__init__".cutAt '.').dropLast) = "Exception" from by decide +kernel, List.contains_cons]; rfl
  unfold Builtin.«wrapper_descriptor.__get__»
  repeat (first | (with_reducible refine wpAny_loadPart_at hx ?_; rw [hc]) | (with_reducible refine wpAny_isSubtype_exc hC ?_; rw [hcB]) | (with_reducible refine wpAny_newObj_type ?_ (by size_fits)) | wp_step)
  exact hq

theorem wd_call {R : Result → Shared → Prop} {o : Obj} {id : String} {C' : Value} (hne : (C' == Value.none) = false) (S : Slot "wrapper_descriptor" "__get__" id) (he : entryFor table id = some Builtin.«wrapper_descriptor.__get__») (ha : ∀ a b c, argsOk id ⟨[a, b, c], []⟩)
    (hC : h.get? C = some (excClassObj nm q C N bs excBm true sn sub ab col dd k0 k1 k2 k3 k5 newId)) (hx : h.get? x = some o) (hc : o.cls = .ref C)
    (hq : R (.ok (.ret (.ref h.objs.size))) ⟨h.push (mwObj x), g, d, t, os⟩) :
    codeAny (model prog w) A (.call (.builtin id) ⟨[.builtin "Exception.__init__", .ref x, C'], []⟩) R ⟨h, g, d, t, os⟩ :=
  codeAny_call_builtin S.plain he (S.check _ _ _ _ _ _ _ _ F.ty_exc_init (ha _ _ _) (wd_get hne hC hx hc hq))

theorem sup_ga {so : Addr} {o : Obj} {tk : Tok} {Q : Fin → Shared → Prop} (hso : h.get? so = some (ks_superObj C x C)) (hno : Looks (model prog w) h (opaqueClassAbove (.ref C)) none)
    (hC : h.get? C = some (excClassObj nm q C N bs excBm true sn sub ab col dd k0 k1 k2 k3 k5 newId)) (hx : h.get? x = some o) (hc : o.cls = .ref C) (hxC : x ≠ C)
    (hq : Q (.done (.ret (.ref h.objs.size))) ⟨h.push (mwObj x), g, d, t, os⟩) :
    wpAny (model prog w) A (Builtin.«super.__getattribute__» ⟨[.ref so, .str "__init__" tk], []⟩) Q E ⟨h, g, d, t, os⟩ := by
  have hlk := F.slot_wd_get.lookup
  have hty := F.ty_exc_init
  have hown := F.own_exc_init
  have hne : (Value.ref x == Value.ref C) = false := by simp [hxC]
  have hdt : (ks_superObj C x C).data = .fields #[.ref C, .ref x, .ref C] := rfl
  have f0 : (#[.ref C, .ref x, .ref C] : Array Value)[0]? = some (.ref C) := rfl
  have f1 : (#[.ref C, .ref x, .ref C] : Array Value)[1]? = some (.ref x) := rfl
  have f2 : (#[.ref C, .ref x, .ref C] : Array Value)[2]? = some (.ref C) := rfl
  have hl : (((Value.ref C :: excBm).dropWhile (· != Value.ref C)).drop 1) = excBm := by simp [List.dropWhile_cons]
  unfold Builtin.«super.__getattribute__»
  repeat (first
    | (with_reducible refine wpAny_field hso hdt f0 ?_) | (with_reducible refine wpAny_field hso hdt f1 ?_) | (with_reducible refine wpAny_field hso hdt f2 ?_)
    | (with_reducible refine ks_wpAny_notOpaque hno ?_)
    | (with_reducible refine wpAny_mroOf_exc hC ?_; rw [hl])
    | wp_step)
  rw [hne]
  refine wd_call rfl F.slot_wd_get F.entry_wd_get F.args_wd_get hC hx hc ?_
  repeat wp_step
  exact hq

theorem sup_call {so : Addr} {o : Obj} {tk : Tok} {R : Result → Shared → Prop} {id : String} (S : Slot "super" "__getattribute__" id) (he : entryFor table id = some Builtin.«super.__getattribute__») (ha : ∀ a b, argsOk id ⟨[a, b], []⟩)
    (hso : h.get? so = some (ks_superObj C x C)) (hno : Looks (model prog w) h (opaqueClassAbove (.ref C)) none)
    (hC : h.get? C = some (excClassObj nm q C N bs excBm true sn sub ab col dd k0 k1 k2 k3 k5 newId)) (hx : h.get? x = some o) (hc : o.cls = .ref C) (hxC : x ≠ C)
    (hq : R (.ok (.ret (.ref h.objs.size))) ⟨h.push (mwObj x), g, d, t, os⟩) :
    codeAny (model prog w) A (.call (.builtin id) ⟨[.ref so, .str "__init__" tk], []⟩) R ⟨h, g, d, t, os⟩ :=
  codeAny_call_builtin S.plain he (S.check _ _ _ _ _ _ _ _ ⟨_, hso, rfl⟩ (ha _ _) (sup_ga hso hno hC hx hc hxC hq))

theorem sup_getMethod {so : Addr} {o : Obj} {pl : Sem Bool} {Q : Value × List Value → Shared → Prop} (hso : h.get? so = some (ks_superObj C x C)) (hno : Looks (model prog w) h (opaqueClassAbove (.ref C)) none)
    (hC : h.get? C = some (excClassObj nm q C N bs excBm true sn sub ab col dd k0 k1 k2 k3 k5 newId)) (hx : h.get? x = some o) (hc : o.cls = .ref C) (hxC : x ≠ C)
    (hq : Q (.ref h.objs.size, []) ⟨h.push (mwObj x), g, d, t + 1, os⟩) :
    wpAny (model prog w) A (getMethod (.ref so) "__init__" pl) Q E ⟨h, g, d, t, os⟩ := by
  have hlk := PySem.F.ks_slot_super_ga.lookup
  have hcan := PySem.F.ks_canon_super_ga
  have hbd := PySem.F.ks_slot_super_ga.bind (.ref so)
  have hT : ∀ t', (⟨h, g, d, t', os⟩ : Shared).TypeIs (.ref so) "super" := fun _ => ⟨_, hso, rfl⟩
  unfold getMethod
  refine wpAny_bind (wpAny_specialOf (hT _) hlk ?_)
  dsimp only
  rw [if_pos hcan]
  unfold getAttr getAttrBy
  refine wpAny_bind (wpAny_bind (wpAny_mkText (wpAny_holding (wpAny_bind (wpAny_typeOf (hT _) (wpAny_bind (wpAny_of_eq hlk ?_)))))))
  show wpAny _ _ (getAttrByItsOwn (.ref so) (.str "__init__" t) (.type "super") (.builtin "super.__getattribute__") true false) _ _ _
  unfold getAttrByItsOwn hookBefore callGetattribute boundAndCalled
  refine wpAny_bind (wpAny_of_eq (show (if onTheHeap (.type "super") then typeLookup (.type "super") "__getattr__" else pure none) = pure none from rfl) ?_)
  refine wpAny_bind (wpAny_attempt (wpAny_holding ?_))
  show wpAny _ _ (bindSpecial (.builtin "super.__getattribute__") (.ref so) >>= _) _ _ _
  refine wpAny_bind (wpAny_of_eq hbd ?_)
  refine wpAny_call (sup_call PySem.F.ks_slot_super_ga PySem.F.ks_entry_super_ga PySem.F.ks_gaArgs_super hso hno hC hx hc hxC ?_)
  exact wpAny_pure (wpAny_pure hq)

/-- the call of the bound __init__: the arguments' tuple is laid anew -/
theorem exc_init_run {a0 : Addr} {vs : Array Value} {o : Obj} {Q : Fin → Shared → Prop} (hx : h.get? x = some o) (hdt : o.data = .fields vs) (h0 : vs[0]? = some (.ref a0))
    {v : Value} (hq : ∀ h', h'.get? x = some { o with data := .fields (vs.setIfInBounds 0 (.ref h.objs.size)) } → h'.get? h.objs.size = some { cls := .type "tuple", data := .seq #[v] } →
      (∀ b o, b ≠ x → h.get? b = some o → h'.get? b = some o) → Q (.done (.ret .none)) ⟨h', g, d, t, os⟩) :
    wpAny (model prog w) A (Builtin.«BaseException.__init__» ⟨[.ref x, v], []⟩) Q E ⟨h, g, d, t, os⟩ := by
  have hx₁ : (h.push { cls := .type "tuple", data := .seq #[v] }).get? x = some o := Heap.get?_push_of_some _ hx
  have hk : 0 < vs.size := by
    cases q : vs.size with
    | zero => simp [Array.getElem?_eq_none (Nat.le_of_eq q)] at h0
    | succ n => exact Nat.succ_pos n
  have hxs : x ≠ h.objs.size := Nat.ne_of_lt (Heap.lt_size hx)
  unfold Builtin.«BaseException.__init__»
  repeat (first | (with_reducible refine wpAny_newObj_type ?_ (by size_fits)) | (with_reducible refine wpAny_field hx₁ hdt h0 ?_) | (with_reducible refine wpAny_setField hx₁ hdt hk ?_) | wp_step)
  refine hq _ ((Heap.get?_update_self _ hx₁ ?_).trans ?_) ((Heap.get?_update_ne _ _ _ _ hxs.symm).trans (Heap.get?_push_at rfl rfl)) fun b ob hb e => (Heap.get?_update_ne _ _ _ _ hb).trans (Heap.get?_push_of_some _ e)
  · obtain ⟨oc, od, odt, osl⟩ := o
    dsimp only at hdt
    subst hdt
    rfl
  · obtain ⟨oc, od, odt, osl⟩ := o
    dsimp only at hdt
    subst hdt
    rfl

end
end Mine
open PySem PySem.W PyProof.Rows PySem.Calls
namespace Mine
open Builtin Builtin.ObjectAttr
section
variable {prog : Program} {w : World} {A : Around} {E : Value → Shared → Prop} {h : Heap} {g : Array GenState} {d : Drawn} {t : Nat} {os : OsState}
variable {nm q : Str} {C N x : Addr} {bs : List Value} {sn : List Str} {sub : List Value} {ab : Bool} {col : Option Bool} {dd : Option Addr} {k0 k1 k2 k3 k5 : Option Value}


theorem exc_init_code {a0 : Addr} {vs : Array Value} {o : Obj} {R : Result → Shared → Prop} {nid id : String} (FB : ExcBaseFacts "Exception" nid id excBm)
    (hx : h.get? x = some o) (hdt : o.data = .fields vs) (h0 : vs[0]? = some (.ref a0))
    {v : Value} (hq : ∀ h', h'.get? x = some { o with data := .fields (vs.setIfInBounds 0 (.ref h.objs.size)) } → h'.get? h.objs.size = some { cls := .type "tuple", data := .seq #[v] } →
      (∀ b o, b ≠ x → h.get? b = some o → h'.get? b = some o) → R (.ok (.ret .none)) ⟨h', g, d, t, os⟩) :
    codeAny (model prog w) A (.builtin id ⟨[.ref x, v], []⟩) R ⟨h, g, d, t, os⟩ :=
  codeAny_builtin FB.initEntry (exc_init_run hx hdt h0 hq)

theorem exc_init_bound {M : Model} {o : Obj} {rest : List Value} {Q : Unit → Shared → Prop} {nid id : String} (FB : ExcBaseFacts "Exception" nid id excBm)
    (hC : h.get? C = some (excClassObj nm q C N bs excBm true sn sub ab col dd k0 k1 k2 k3 k5 nid)) (hx : h.get? x = some o) (hc : o.cls = .ref C) (hq : Q () ⟨h, g, d, t, os⟩) :
    wpAny M A (checkBoundCall id ⟨.ref x :: rest, []⟩) Q E ⟨h, g, d, t, os⟩ := by
  have hshort := FB.noStar
  simp only [checkBoundCall, FB.initKind, FB.initRow]
  repeat (first | (with_reducible refine wpAny_loadPart_at hx ?_; rw [hc]) | with_reducible refine wpAny_loadPart_at hC ?_ | wp_step)
  refine wpAny_onRaise ?_
  rw [show ∀ (a b : String) (n : Nat), Bind.check ⟨.positional, "*", "Exception", .self, [⟨"args", .varPos, false⟩]⟩ a b n (List.map (fun x => x.fst) ({ pos := Value.ref x :: rest } : Args).kw) = pure () from
    fun a b n => check_star_args _ _ _ _ _ _]
  exact wpAny_pure hq

theorem mw_call_at {mw a0 : Addr} {vs : Array Value} {o : Obj} {Q : Value → Shared → Prop} {v : Value} {nid id : String} (FB : ExcBaseFacts "Exception" nid id excBm) (hqt : id.startsWith "lifetime." = false) (hmw : h.get? mw = some { cls := .type "method-wrapper", data := .fields #[.builtin id, .ref x] })
    (hC : h.get? C = some (excClassObj nm q C N bs excBm true sn sub ab col dd k0 k1 k2 k3 k5 nid)) (hx : h.get? x = some o) (hc : o.cls = .ref C) (hdt : o.data = .fields vs) (h0 : vs[0]? = some (.ref a0))
    (hq : ∀ h', h'.get? x = some { o with data := .fields (vs.setIfInBounds 0 (.ref h.objs.size)) } → h'.get? h.objs.size = some { cls := .type "tuple", data := .seq #[v] } →
      (∀ b o, b ≠ x → h.get? b = some o → h'.get? b = some o) → Q .none ⟨h', g, d, t, os⟩) :
    wpAny (model prog w) A (call (.ref mw) [v]) Q E ⟨h, g, d, t, os⟩ := by
  refine wpAny_call (codeAny_of_tree ?_)
  show wpAny _ _ (callAny (.ref mw) _) _ _ _
  unfold callAny
  refine wpAny_bind (wpAny_load hmw ?_)
  show wpAny _ _ (do checkBoundCall id ⟨[.ref x, v], []⟩; again (.builtin id ⟨[.ref x, v], []⟩)) _ _ _
  refine wpAny_bind (exc_init_bound FB hC hx hc ?_)
  exact wpAny_pure ⟨Code.quiet_builtin _ hqt, exc_init_code FB hx hdt h0 hq⟩

theorem mw_call {mw a0 : Addr} {vs : Array Value} {o : Obj} {Q : Value → Shared → Prop} {v : Value} (hmw : h.get? mw = some (mwObj x))
    (hC : h.get? C = some (excClassObj nm q C N bs excBm true sn sub ab col dd k0 k1 k2 k3 k5 "Exception.__new__")) (hx : h.get? x = some o) (hc : o.cls = .ref C) (hdt : o.data = .fields vs) (h0 : vs[0]? = some (.ref a0))
    (hq : ∀ h', h'.get? x = some { o with data := .fields (vs.setIfInBounds 0 (.ref h.objs.size)) } → h'.get? h.objs.size = some { cls := .type "tuple", data := .seq #[v] } →
      (∀ b o, b ≠ x → h.get? b = some o → h'.get? b = some o) → Q .none ⟨h', g, d, t, os⟩) :
    wpAny (model prog w) A (call (.ref mw) [v]) Q E ⟨h, g, d, t, os⟩ :=
  mw_call_at PySem.F.excBase_Exception (by decide +kernel) hmw hC hx hc hdt h0 hq
end
end Mine
open PySem PySem.W PyProof.Rows PySem.Calls
namespace Mine
open Builtin Builtin.ObjectAttr

abbrev tupOf (vs : List Value) : Obj := { cls := .type "tuple", data := .seq vs.toArray }
abbrev excO (C t : Addr) : Obj := { cls := .ref C, data := .fields #[.ref t, .none, .none, .none, .bool false, .none] }
section
variable {prog : Program} {w : World} {A : Around} {E : Value → Shared → Prop} {h : Heap} {g : Array GenState} {d : Drawn} {t : Nat} {os : OsState}
variable {nm q : Str} {C N x : Addr} {bs : List Value} {sn : List Str} {sub : List Value} {ab : Bool} {col : Option Bool} {dd : Option Addr} {k0 k1 k2 k3 k5 : Option Value} {nid id : String}

theorem exc_new_code (FB : ExcBaseFacts "Exception" nid id excBm) {rest : List Value} {kw : List (Str × Value)} {R : Result → Shared → Prop}
    (hC : h.get? C = some (excClassObj nm q C N bs excBm true sn sub ab col dd k0 k1 k2 k3 k5 nid)) (hrest : rest.length ≤ sizeLine)
    (hq : R (.ok (.ret (.ref (h.objs.size + 1)))) ⟨(h.push (tupOf rest)).push (excO C h.objs.size), g, d, t, os⟩) :
    codeAny (model prog w) A (.builtin nid ⟨.ref C :: rest, kw⟩) R ⟨h, g, d, t, os⟩ := by
  have hends := FB.ends
  have hcB : (Value.ref C :: excBm).contains (.type "Exception") = true := by rw [List.contains_cons]; rfl
  have hcA : (Value.ref C :: excBm).contains (.type "AttributeError") = false := by rw [List.contains_cons]; rfl
  have hcN : (Value.ref C :: excBm).contains (.type "NameError") = false := by rw [List.contains_cons]; rfl
  refine codeAny_builtinAt FB.entry ?_
  unfold Builtin.«BaseException.__new__»
  refine _root_.PySem.wpAt_bind ?_
  show _root_.PySem.wpAt _ _ _ (stack >>= _) _ _ _
  refine _root_.PySem.wpAt_bind (_root_.PySem.wpAt_stack fun p below => _root_.PySem.wpAt_of_wpAny ?_)
  wp_walk
  refine _root_.PySem.wpAt_of_wpAny ?_
  rw [FB.owner]
  repeat (first | with_reducible refine wpAny_madeHere_exc FB.canon hC ?_ | with_reducible refine wpAny_loadPart_at hC ?_ | (with_reducible refine wpAny_isSubtype_exc hC ?_; first | rw [hcB] | rw [hcA] | rw [hcN]) | wp_step)
  show R _ _
  rw [Heap.size_push]
  exact hq

theorem exc_check_new (FB : ExcBaseFacts "Exception" nid id excBm) {M : Model} {rest : List Value} {kw : List (Str × Value)} {Q : Unit → Shared → Prop} (hC : h.get? C = some (excClassObj nm q C N bs excBm true sn sub ab col dd k0 k1 k2 k3 k5 nid))
    (hq : Q () ⟨h, g, d, t, os⟩) : wpAny M A (checkBuiltinCall nid ⟨.ref C :: rest, kw⟩) Q E ⟨h, g, d, t, os⟩ := by
  have hcont : (Value.ref C :: excBm).contains (.type "Exception") = true := by rw [List.contains_cons]; rfl
  have hstar := FB.noStar
  simp only [checkBuiltinCall, FB.newKind, FB.newSplit, FB.newRow]
  repeat (first | refine wpAny_loadPart_at hC ?_ | (refine wpAny_isSubtype_exc hC ?_; rw [hcont]) | refine wpAny_staticBase_exc hC ?_ | refine wpAny_madeBy_exc hC ?_ | simp only [bne_self_eq_false, Bool.false_eq_true, if_false] | wp_step)
  exact hq

theorem exc_type_call (FB : ExcBaseFacts "Exception" nid id excBm) {mN : Str → Option Value} {rest : List Value} {kw : List (Str × Value)} {fI : Addr} {oI : Obj} {Q : Fin → Shared → Prop}
    (hC : h.get? C = some (excClassObj nm q C N bs excBm true sn sub ab col dd k0 k1 k2 k3 k5 nid)) (hn : h.Ns N mN) (hi : mN "__init__" = some (.ref fI))
    (hfI : h.get? fI = some oI) (hfc : oI.cls = .type "function") (hrest : rest.length ≤ sizeLine)
    (hq : wpAny (model prog w) A (call (.ref fI) (.ref (h.objs.size + 1) :: rest) kw) (fun r s' => r = .none ∧ Q (.done (.ret (.ref (h.objs.size + 1)))) s') E ⟨(h.push (tupOf rest)).push (excO C h.objs.size), g, d, t, os⟩) :
    wpAny (model prog w) A (Builtin.«type.__call__» ⟨.ref C :: rest, kw⟩) Q E ⟨h, g, d, t, os⟩ := by
  have hC₁ := Heap.get?_push_of_some (excO C h.objs.size) (Heap.get?_push_of_some (tupOf rest) hC)
  have hfI₁ := Heap.get?_push_of_some (excO C h.objs.size) (Heap.get?_push_of_some (tupOf rest) hfI)
  have hn₁ : ((h.push (tupOf rest)).push (excO C h.objs.size)).Ns N mN :=
    let ⟨o, es, ep, e, r⟩ := hn; ⟨o, es, ep, Heap.get?_push_of_some _ (Heap.get?_push_of_some _ e), r⟩
  have hget : ((h.push (tupOf rest)).push (excO C h.objs.size)).get? (h.objs.size + 1) = some (excO C h.objs.size) := by heap_get
  have hcC : (Value.ref C :: excBm).contains (.ref C) = true := by simp
  repeat (first | with_reducible refine wpAny_loadPart_at hC ?_ | with_reducible refine wpAny_madeBy_exc hC ?_ | wp_step)
  refine codeAny_call_builtin_code (Code.quiet_builtin _ FB.quiet) (exc_check_new FB hC ?_)
  refine exc_new_code FB hC hrest ?_
  show wpAny _ _ _ _ _ _
  unfold isInstance
  repeat (first | with_reducible refine wpAny_loadPart_at hget ?_ | (with_reducible refine wpAny_isSubtype_exc hC₁ ?_; rw [hcC]) | wp_step)
  show wpAny _ _ (typeLookup (.ref C) _) _ _ _
  refine wpAny_typeLookup_exc hC₁ hn₁ FB.mroIs FB.init.lookup ?_
  rw [hi]
  refine wpAny_holding (wpAny_bind ?_)
  unfold bindSpecial
  refine wpAny_bind (wpAny_typeOf (T := "function") ⟨_, hfI₁, hfc⟩ ?_)
  rw [if_pos (by decide)]
  refine wpAny_pure (wpAny_bind (wpAny_mono hq (fun r s' hr => ?_) fun _ _ x => x))
  obtain ⟨rfl, hQ⟩ := hr
  wp_walk
  exact hQ

theorem exc_check_tc {M : Model} {rest : List Value} {kw : List (Str × Value)} {Q : Unit → Shared → Prop} (hC : h.get? C = some (excClassObj nm q C N bs excBm true sn sub ab col dd k0 k1 k2 k3 k5 nid))
    (hq : Q () ⟨h, g, d, t, os⟩) : wpAny M A (checkBuiltinCall "type.__call__" ⟨.ref C :: rest, kw⟩) Q E ⟨h, g, d, t, os⟩ := by
  refine check_slot tc_kind tc_split ?_ (tc_args _ _ _) hq
  intro A' Q' E' s' k q'
  obtain ⟨h', g', d', t', os'⟩ := s'
  unfold isInstance
  refine wpAny_bind (wpAny_bind (wpAny_loadPart_at (k _ _ hC) (wpAny_pure ?_)))
  exact wpAny_of_eq tc_sub q'

theorem exc_make (FB : ExcBaseFacts "Exception" nid id excBm) {mN : Str → Option Value} {rest : List Value} {kw : List (Str × Value)} {fI : Addr} {oI : Obj} {Q : Value → Shared → Prop}
    (hC : h.get? C = some (excClassObj nm q C N bs excBm true sn sub ab col dd k0 k1 k2 k3 k5 nid)) (hn : h.Ns N mN) (hi : mN "__init__" = some (.ref fI))
    (hfI : h.get? fI = some oI) (hfc : oI.cls = .type "function") (hrest : rest.length ≤ sizeLine)
    (hq : wpAny (model prog w) (A.under (.builtin "type.__call__" ⟨.ref C :: rest, kw⟩)) (call (.ref fI) (.ref (h.objs.size + 1) :: rest) kw) (fun r s' => r = .none ∧ Q (.ref (h.objs.size + 1)) s') E ⟨(h.push (tupOf rest)).push (excO C h.objs.size), g, d, t, os⟩) :
    wpAny (model prog w) A (call (.ref C) rest kw) Q E ⟨h, g, d, t, os⟩ := by
  have f1 := tc_lookup
  have f2 := tc_bind (.ref C)
  have hT : (⟨h, g, d, t, os⟩ : Shared).TypeIs (.ref C) "type" := ⟨_, hC, rfl⟩
  refine wpAny_call (codeAny_of_tree ?_)
  show wpAny _ _ (callAny (.ref C) _) _ _ _
  repeat (any_goals (first | assumption | with_reducible refine wpAny_loadPart_at hC ?_ | wp_step))
  refine ⟨rfl, ?_⟩
  exact codeAny_call_builtin_at (Code.quiet_builtin _ (by decide +kernel)) entry_typeCall (exc_check_tc hC (exc_type_call FB hC hn hi hfI hfc hrest hq))
end
end Mine
open PySem PySem.W PyProof.Rows PySem.Calls
namespace Mine
open Builtin Builtin.ObjectAttr

section
variable {prog : Program} {w : World} {A : Around} {E : Value → Shared → Prop} {s : Shared} {K : Frag} {h₀ : Heap} {L : Addr} {m : Str → Option Value} {news : List (Addr × Obj)} {gg : Obj → List (Addr × Obj)}
variable {nm q : Str} {C Nn e dx : Addr} {bs : List Value} {sn : List Str} {sub : List Value} {ab : Bool} {col : Option Bool} {dd : Option Addr} {k0 k1 k2 k3 k5 : Option Value} {nid : String}
  {name : Str} {v : Value} {vs : Array Value} {sl : Array (Option Value)} {mA : Str → Option Value} {od : Obj}

theorem kcls (X : K.In s.heap) (hk : K.lookup C = some (excClassObj nm q C Nn bs excBm true sn sub ab col dd k0 k1 k2 k3 k5 nid)) (hok : nsOkIn K Nn = true) :
    s.heap.get? C = some (excClassObj nm q C Nn bs excBm true sn sub ab col dd k0 k1 k2 k3 k5 nid) ∧ s.heap.Ns Nn (s.heap.nsMap Nn) := ⟨X _ _ hk, .of_isNs (isNs_of_in X hok)⟩

theorem kset0 {Q : Unit → Shared → Prop} (F : Fr h₀ L s.heap m) (X₀ : K.In h₀) (N : News h₀ L s.heap news)
    (hk : K.lookup C = some (excClassObj nm q C Nn bs excBm true sn sub ab col dd k0 k1 k2 k3 k5 nid)) (hok : nsOkIn K Nn = true) (hns : nsIn K Nn "__setattr__" = some none) (hna : nsIn K Nn name = some none)
    (hB : typeLookup (.type "Exception") name = pure none) (U : UpdF e ⟨.ref C, none, .fields vs, sl⟩ news gg)
    (h : ∀ dx od h' tk', Fr h₀ L h' m → News h₀ L h' ((dx, od) :: gg ⟨.ref C, some dx, .fields vs, sl⟩) → AttrObj od (fun y => if y = name then some v else none) → (∀ p ∈ news, p.1 < dx) → Q () { s with heap := h', toks := tk' }) :
    wpAny (model prog w) A (setAttr (.ref e) name v) Q E s := by
  have X := X₀.keeps F.keep
  obtain ⟨hC, hN⟩ := kcls X hk hok
  obtain ⟨pre, post, rfl, hg, h1, h2⟩ := U.split
  have hm := N (e, _) (List.mem_append_right _ (.head _))
  obtain ⟨hh, g, d, t, os⟩ := s
  refine exc_store0 hC hN (nsMap_none_of_in X hok hns) (nsMap_none_of_in X hok hna) hB hm.1 rfl rfl rfl fun h' od tk' e1 e2 e3 e4 => ?_
  have hLe : L ≠ e := Ne.symm hm.2.1
  refine h hh.objs.size od h' tk' ⟨F.ns.at' fun o q => e4 L o hLe q, fun b o q => e4 b o (fun z => by rw [z, hm.2.2] at q; cases q) (F.keep b o q), F.above⟩ ?_ e3 fun p hp => Heap.lt_size (N p hp).1
  rw [hg]
  intro p hp
  rcases List.mem_cons.mp hp with rfl | hp
  · refine ⟨e2, Nat.ne_of_gt F.ns.lt, ?_⟩
    cases z : h₀.get? hh.objs.size with
    | none => rfl
    | some o => exact absurd (Heap.lt_size (F.keep _ _ z)) (Nat.lt_irrefl _)
  · rcases List.mem_append.mp hp with hp | hp
    · have := N p (List.mem_append_left _ hp); exact ⟨e4 _ _ (h1 p hp) this.1, this.2⟩
    · rcases List.mem_cons.mp hp with rfl | hp
      · exact ⟨e1, hm.2⟩
      · have := N p (List.mem_append_right _ (.tail _ hp)); exact ⟨e4 _ _ (h2 p hp) this.1, this.2⟩

theorem kset {Q : Unit → Shared → Prop} {ns : List Str} (F : Fr h₀ L s.heap m) (X₀ : K.In h₀) (N : News h₀ L s.heap news)
    (hk : K.lookup C = some (excClassObj nm q C Nn bs excBm true sn sub ab col dd k0 k1 k2 k3 k5 nid)) (hok : nsOkIn K Nn = true) (hns : nsIn K Nn "__setattr__" = some none) (hna : nsIn K Nn name = some none)
    (hB : typeLookup (.type "Exception") name = pure none) (hm : (e, (⟨.ref C, some dx, .fields vs, sl⟩ : Obj)) ∈ news) (U : UpdF dx od news gg) (hat : AttrObj od mA) (hw : Within mA ns) (hsz : ns.length ≤ sizeLine)
    (h : ∀ od' h' tk', Fr h₀ L h' m → News h₀ L h' (gg od') → AttrObj od' (fun y => if y = name then some v else mA y) → Q () { s with heap := h', toks := tk' }) :
    wpAny (model prog w) A (setAttr (.ref e) name v) Q E s := by
  have X := X₀.keeps F.keep
  obtain ⟨hC, hN⟩ := kcls X hk hok
  obtain ⟨pre, post, rfl, hg, h1, h2⟩ := U.split
  have hme := N _ hm
  have hmd := N (dx, _) (List.mem_append_right _ (.head _))
  obtain ⟨hh, g, d, t, os⟩ := s
  refine exc_store hC hN (nsMap_none_of_in X hok hns) (nsMap_none_of_in X hok hna) hB hme.1 hmd.1 hat hw hsz fun h' od' tk' e1 e2 e3 => ?_
  refine h od' h' tk' ⟨F.ns.at' fun o q => e3 L o (Ne.symm hmd.2.1) q, fun b o q => e3 b o (fun z => by rw [z, hmd.2.2] at q; cases q) (F.keep b o q), F.above⟩ ?_ e2
  rw [hg]
  intro p hp
  rcases List.mem_append.mp hp with hp | hp
  · have := N p (List.mem_append_left _ hp); exact ⟨e3 _ _ (h1 p hp) this.1, this.2⟩
  · rcases List.mem_cons.mp hp with rfl | hp
    · exact ⟨e1, hmd.2⟩
    · have := N p (List.mem_append_right _ (.tail _ hp)); exact ⟨e3 _ _ (h2 p hp) this.1, this.2⟩

theorem inst_of {hh : Heap} (h1 : hh.get? e = some (⟨.ref C, some dx, .fields vs, sl⟩ : Obj)) (h2 : hh.get? dx = some od) (hat : AttrObj od mA) : hh.Inst e C mA := by
  refine ⟨_, h1, rfl, (fun c q => by cases q), .inr ⟨dx, rfl, fun z => ?_, hat.ns1 h2⟩⟩
  obtain ⟨es, ep, hd, _⟩ := hat
  rw [z, h1] at h2
  cases h2
  cases hd

theorem kget {expr : Bool} {Q : Value → Shared → Prop} (F : Fr h₀ L s.heap m) (X₀ : K.In h₀)
    (hk : K.lookup C = some (excClassObj nm q C Nn bs excBm true sn sub ab col dd k0 k1 k2 k3 k5 nid)) (hok : nsOkIn K Nn = true) (hng : nsIn K Nn "__getattribute__" = some none) (hnh : nsIn K Nn "__getattr__" = some none) (hna : nsIn K Nn name = some none)
    (hB : typeLookup (.type "Exception") name = pure none) (h1 : s.heap.get? e = some (⟨.ref C, some dx, .fields vs, sl⟩ : Obj)) (h2 : s.heap.get? dx = some od) (hat : AttrObj od mA) (hv : mA name = some v) (hh : handedOut v = pure v)
    (h : Q v { s with toks := s.toks + 1 }) : wpAny (model prog w) A (getAttr (.ref e) name expr) Q E s := by
  have X := X₀.keeps F.keep
  obtain ⟨hC, hN⟩ := kcls X hk hok
  obtain ⟨hp, g, d, t, os⟩ := s
  exact exc_load hC hN (nsMap_none_of_in X hok hng) (nsMap_none_of_in X hok hnh) (nsMap_none_of_in X hok hna) hB (inst_of h1 h2 hat) hv hh h

theorem instAt_exc {hh : Heap} (h1 : hh.get? e = some (⟨.ref C, some dx, .fields vs, sl⟩ : Obj)) (h2 : hh.get? dx = some od) : InstAt hh e ⟨.ref C, some dx, .fields vs, sl⟩ C (some od) := ⟨h1, rfl, rfl, h2⟩

theorem newsPush {h' : Heap} {a : Addr} {o : Obj} (F : Fr h₀ L s.heap m) (N : News h₀ L s.heap news) (ha : a = s.heap.objs.size) (ho : h'.get? a = some o) (k : ∀ b o, s.heap.get? b = some o → h'.get? b = some o) :
    Fr h₀ L h' m ∧ News h₀ L h' ((a, o) :: news) ∧ ∀ p ∈ news, p.1 < a := ks_newsPush F N ha ho k

theorem ksup_method {pl : Sem Bool} {Q : Value × List Value → Shared → Prop} {so : Addr} {oe : Obj} (F : Fr h₀ L s.heap m) (X₀ : K.In h₀) (N : News h₀ L s.heap news)
    (hk : K.lookup C = some (excClassObj nm q C Nn bs excBm true sn sub ab col dd k0 k1 k2 k3 k5 nid)) (ho : nsIn K cStatics "thirdparty.any" = some none)
    (hso : (so, ks_superObj C e C) ∈ news) (hm : (e, oe) ∈ news) (hc : oe.cls = .ref C) (hdt : oe.data = .fields vs)
    (h : ∀ mw h', Fr h₀ L h' m → News h₀ L h' ((mw, mwObj e) :: news) → (∀ p ∈ news, p.1 < mw) → Q (.ref mw, []) { s with heap := h', toks := s.toks + 1 }) :
    wpAny (model prog w) A (getMethod (.ref so) "__init__" pl) Q E s := by
  have X := X₀.keeps F.keep
  have hC := X _ _ hk
  have he := (N _ hm).1
  obtain ⟨hp, g, d, t, os⟩ := s
  have hne : e ≠ C := fun z => by rw [z, hC] at he; cases he; cases hdt
  refine sup_getMethod (N _ hso).1 (looks_opaque X ho) hC he hc hne ?_
  obtain ⟨F', N', l'⟩ := newsPush (s := ⟨hp, g, d, t, os⟩) (o := mwObj e) F N rfl (Heap.get?_push_at rfl rfl) (fun b o q => Heap.get?_push_of_some _ q)
  exact h _ _ F' N' l'

def MwP (mw e : Addr) (h : Heap) : Prop := h.get? mw = some (mwObj e)
theorem keeps_Mw {M : Model} {mw : Addr} (h : Heap) (X : MwP mw e h) : ∃ k, (k = Keeper.frame ∨ k = Keeper.machine ∨ k = Keeper.boundFrame) ∧ Looks M h (keeperOf (.ref mw)) k :=
  ⟨.machine, .inr (.inl rfl), (Looks.ld (part := none) X).andThen (Looks.of_pure (by rfl))⟩

theorem callWith_Mw {M : Model} {Q : Value → Shared → Prop} {env : Env} {pos : Pos} {mw : Addr} {ex : Expr} {rest : List Expr} (_N : News h₀ L s.heap news) (_q : (mw, mwObj e) ∈ news)
    (h : wpAny M A (spliced (backTo pos (starEach (ex :: rest) env))) (fun vs s₁ => MwP mw e s₁.heap ∧ wpAny M A (call (.ref mw) ([] ++ vs)) Q E s₁) E s)
    (he : starEach (ex :: rest) env = (false, eval ex env) :: starEach rest env := by rfl) (hplain : (backTo pos (starEach rest env)).any (·.1) = false := by rfl) :
    wpAny M A (callWith pos (.ref mw) [] (backTo pos (starEach (ex :: rest) env)) []) Q E s := by
  rw [he] at h ⊢
  exact callWith_of (by show ((false || (backTo pos (starEach rest env)).any (·.1)) || false) = false; rw [hplain]; rfl) keeps_Mw (evalArgs_plain h)

theorem mwP {mw : Addr} {h : Heap} (N : News h₀ L h news) (hq : (mw, mwObj e) ∈ news) : MwP mw e h := (N _ hq).1

theorem kmw_call {Q : Value → Shared → Prop} {mw a0 : Addr} {dxo : Option Addr} (F : Fr h₀ L s.heap m) (X₀ : K.In h₀) (N : News h₀ L s.heap news)
    (hk : K.lookup C = some (excClassObj nm q C Nn bs excBm true sn sub ab col dd k0 k1 k2 k3 k5 "Exception.__new__"))
    (hmw : (mw, mwObj e) ∈ news) (U : UpdF e ⟨.ref C, dxo, .fields vs, sl⟩ news gg) (h0 : vs[0]? = some (.ref a0))
    (h : ∀ t h', Fr h₀ L h' m → News h₀ L h' ((t, tupOf [v]) :: gg ⟨.ref C, dxo, .fields (vs.setIfInBounds 0 (.ref t)), sl⟩) → (∀ p ∈ news, p.1 < t) → Q .none { s with heap := h' }) :
    wpAny (model prog w) A (call (.ref mw) [v]) Q E s := by
  have X := X₀.keeps F.keep
  have hC := X _ _ hk
  obtain ⟨pre, post, rfl, hg, h1, h2⟩ := U.split
  have hme := N (e, _) (List.mem_append_right _ (.head _))
  obtain ⟨hp, g, d, t, os⟩ := s
  refine mw_call (N _ hmw).1 hC hme.1 rfl rfl h0 fun h' e1 e2 e3 => ?_
  refine h hp.objs.size h' ⟨F.ns.at' fun o q => e3 L o (Ne.symm hme.2.1) q, fun b o q => e3 b o (fun z => by rw [z, hme.2.2] at q; cases q) (F.keep b o q), F.above⟩ ?_ fun p hp => Heap.lt_size (N p hp).1
  rw [hg]
  intro p hpp
  rcases List.mem_cons.mp hpp with rfl | hpp
  · refine ⟨e2, Nat.ne_of_gt F.ns.lt, ?_⟩
    cases z : h₀.get? hp.objs.size with
    | none => rfl
    | some o => exact absurd (Heap.lt_size (F.keep _ _ z)) (Nat.lt_irrefl _)
  · rcases List.mem_append.mp hpp with hpp | hpp
    · have := N p (List.mem_append_left _ hpp); exact ⟨e3 _ _ (h1 p hpp) this.1, this.2⟩
    · rcases List.mem_cons.mp hpp with rfl | hpp
      · exact ⟨e1, hme.2⟩
      · have := N p (List.mem_append_right _ (.tail _ hpp)); exact ⟨e3 _ _ (h2 p hpp) this.1, this.2⟩
end
end Mine
open PySem PySem.W PyProof.Rows PySem.Calls
namespace Mine
open Builtin Builtin.ObjectAttr

section
variable {prog : Program} {w : World} {A₀ A : Around} {s : Shared} {base hb : Heap} {outer : List Env} {mg mb : Str → Option Value} {env : Env} {news : List (Addr × Obj)} {K : Frag} {p : Program} {loose : List Str} {mean : ExcName → Option Value}
  {R : Result → Shared → Prop} {name qual : Str} {params : Arguments} {body : List Stmt} {scope : Scope} {dV kV doc pm cdv ct oc : Value} {an od : Option Addr} {osl : Array (Option Value)} {f cc : Addr} {args : Args} {binds : List (Str × Value)}

theorem enter_super (hsub : hb.StaysIn s.heap) (hsz : hb.objs.size ≤ s.heap.objs.size) (Xb : K.In hb) (Tb : Top p loose mean mg mb hb) (N : ∀ p ∈ news, s.heap.get? p.1 = some p.2 ∧ hb.get? p.1 = none)
    (ho : K.lookup f = some ⟨oc, od, .func (ksFn name qual params body scope dV kV doc pm an cdv ct cc), osl⟩) (hcd : codeIn K cdv qual = true) (hroom : A.depth < recursionLimit)
    (hbind : BindsTo s (ksFn name qual params body scope dV kV doc pm an cdv ct cc) args binds) (hloc : ∀ y ∈ binds, scope.names.lookup y.1 = some .local)
    (h : ∀ L' h₁, Fr hb L' h₁ (fun y => binds.reverse.lookup y) → News hb L' h₁ news → (∀ p ∈ news, p.1 < L') →
      _root_.PySem.wpAt (model prog w) (A.deeper (ksEnv qual scope L' f cdv cc)) (.func body (ksEnv qual scope L' f cdv cc)) (execs body (ksEnv qual scope L' f cdv cc))
        (fun fl s' => Back s (fun v s' => R (.ok (.ret v)) s') (match fl with | .ret v => v | _ => .none) s')
        (fun e s' => wpAny (model prog w) (A.deeper (ksEnv qual scope L' f cdv cc)) (leaving (ksEnv qual scope L' f cdv cc) e) (fun _ s'' => R (.error e) s'') (fun e' s'' => R (.error e') s'') s')
        { s with heap := h₁, toks := s.toks + binds.length })
    (hcell : ∀ x ∈ scope.names, x.2 ≠ .cell) (hco : scope.isCoroutine = false) (hgen : scope.isGenerator = false) (hk : scope.kind = .function) : codeAny (model prog w) A (.call (.ref f) args) R s := by
  have Xs := Xb.keeps hsub
  refine ks_codeAny_call_defAt (fd := ksFn name qual params body scope dV kV doc pm an cdv ct cc) (body := body) (binds := binds) hroom (Xs _ _ ho) rfl (Tb.nolimit.keeps hsub) (codeRec_of Xs hcd) rfl hbind hcell hloc (fun h₁ hns hk₁ => ?_) hco hgen hk
  exact h s.heap.objs.size h₁ ⟨hns, fun b o e => hk₁ b o (hsub b o e), hsz⟩ (fun p hp => ⟨hk₁ _ _ (N p hp).1, Nat.ne_of_lt (Heap.lt_size (N p hp).1), (N p hp).2⟩) (fun p hp => Heap.lt_size (N p hp).1)
end

/-- the exception e: its attributes and its one argument -/
def ExcIs (h : Heap) (C e : Addr) (vs : Array Value) (msg pat pos line col : Value) (words : Str) : Prop :=
  ∃ dx sl od mA t tw, h.get? e = some ⟨.ref C, some dx, .fields vs, sl⟩ ∧ vs[0]? = some (.ref t) ∧ h.get? dx = some od ∧ AttrObj od mA ∧ mA "msg" = some msg ∧ mA "pattern" = some pat ∧ mA "pos" = some pos ∧
    mA "lineno" = some line ∧ mA "colno" = some col ∧ h.get? t = some (tupOf [.str words tw])
theorem ExcIs.keeps {h h' : Heap} {C e : Addr} {vs : Array Value} {msg pat pos line col : Value} {words : Str} (x : ExcIs h C e vs msg pat pos line col words) (k : h.StaysIn h') : ExcIs h' C e vs msg pat pos line col words :=
  let ⟨dx, sl, od, mA, t, tw, a, b, c, r1, r2, r3, r4, r5, r6, d⟩ := x
  ⟨dx, sl, od, mA, t, tw, k _ _ a, b, k _ _ c, r1, r2, r3, r4, r5, r6, k _ _ d⟩
end Mine
open PySem PySem.W PyProof.Rows PySem.Calls
namespace Mine
open Builtin Builtin.Str

/-- str.count(y, i, j), str.rfind(y, i, j) -/
def scount (x y : Str) (i j : Int) : Int := (occurrences x y (fromIndex x.length i) (min (fromIndex x.length j) x.length) (x.length + 1)).length
def srfind (x y : Str) (i j : Int) : Int := match lastOccurrence x y (fromIndex x.length i) (min (fromIndex x.length j) x.length) with | some k => (k : Int) | none => -1

theorem gives_scount (x y : Str) (i j : Int) (t u v v' : Tok) : Gives («str.count» ⟨[.str x t, .str y u, .int i v, .int j v'], []⟩) (.int (scount x y i j)) := by
  show Gives (retInt (occurrences x y (fromIndex x.length i) (min (fromIndex x.length j) x.length) (x.length + 1)).length) _
  exact .of_eq rfl
theorem gives_srfind (x y : Str) (i j : Int) (t u v v' : Tok) : Gives («str.rfind» ⟨[.str x t, .str y u, .int i v, .int j v'], []⟩) (.int (srfind x y i j)) := by
  show Gives (match lastOccurrence x y (fromIndex x.length i) (min (fromIndex x.length j) x.length) with | some k => retInt k | none => (do rule "str.rfind.not-found"; retInt (-1))) _
  unfold srfind
  cases lastOccurrence x y (fromIndex x.length i) (min (fromIndex x.length j) x.length) with
  | none => exact .rule (.of_eq rfl)
  | some k => exact .of_eq rfl
theorem args_scount (a b c d : Value) : argsOk "str.count" ⟨[a, b, c, d], []⟩ := by unfold argsOk; kernel_rfl
theorem args_srfind (a b c d : Value) : argsOk "str.rfind" ⟨[a, b, c, d], []⟩ := by unfold argsOk; kernel_rfl
section
variable {prog : Program} {w : World} {A : Around} {E : Value → Shared → Prop} {s : Shared} {x y : Str} {t u v v' : Tok} {i j : Int} {Q : Value → Shared → Prop}
theorem scount_call (hq : Q (.int (scount x y i j) s.toks) { s with toks := s.toks + 1 }) : wpAny (model prog w) A (call (.builtin "str.count") [.str x t, .str y u, .int i v, .int j v']) Q E s :=
  call_gives PySem.F.slot_str_count (typeIs_str _ _ _) PySem.F.entry_str_count (args_scount _ _ _ _) (gives_scount x y i j t u v v') hq
theorem srfind_call (hq : Q (.int (srfind x y i j) s.toks) { s with toks := s.toks + 1 }) : wpAny (model prog w) A (call (.builtin "str.rfind") [.str x t, .str y u, .int i v, .int j v']) Q E s :=
  call_gives PySem.F.slot_str_rfind (typeIs_str _ _ _) PySem.F.entry_str_rfind (args_srfind _ _ _ _) (gives_srfind x y i j t u v v') hq
end
end Mine
open PySem PySem.W PyProof.Rows PySem.Calls
namespace Mine
open Builtin Builtin.Str

/-- the last place of c in a list -/
def lastIdx (c : Nat) : List Nat → Option Nat
  | [] => none
  | a :: r => match lastIdx c r with
    | some k => some (k + 1)
    | none => if a = c then some 0 else none
/-- the line feeds ahead of pos; the last one's place, or -1 -/
def nlCount (l : List Nat) (pos : Nat) : Int := ((l.take pos).count 10 : Nat)
def nlLast (l : List Nat) (pos : Nat) : Int := match lastIdx 10 (l.take pos) with | some k => (k : Int) | none => -1

theorem lastIdx_lt {c : Nat} : ∀ {l : List Nat} {k : Nat}, lastIdx c l = some k → k < l.length
  | [], _, h => by cases h
  | a :: r, k, h => by
    unfold lastIdx at h
    cases q : lastIdx c r with
    | some j => rw [q] at h; cases h; have := lastIdx_lt q; simp; omega
    | none =>
      rw [q] at h
      by_cases e : a = c
      · simp [e] at h; simp [← h]
      · simp [e] at h
theorem nlCount_bound (l : List Nat) (pos : Nat) : 0 ≤ nlCount l pos ∧ nlCount l pos ≤ l.length ∧ nlCount l pos ≤ pos := by
  unfold nlCount
  have h1 := List.count_le_length (l := l.take pos) (a := 10)
  have h2 := List.length_take (l := l) (i := pos)
  omega
theorem nlLast_bound (l : List Nat) (pos : Nat) : -1 ≤ nlLast l pos ∧ nlLast l pos < l.length ∧ nlLast l pos < pos ∨ nlLast l pos = -1 := by
  unfold nlLast
  cases q : lastIdx 10 (l.take pos) with
  | none => exact .inr rfl
  | some k =>
    have h1 := lastIdx_lt q
    have h2 := List.length_take (l := l) (i := pos)
    refine .inl ⟨?_, ?_, ?_⟩ <;> dsimp only <;> omega

theorem sub1 (x : Str) (c i : Nat) (hi : Nat) (hl : hi ≤ x.cps.toList.length) : (i + (⟨#[c]⟩ : Str).length ≤ hi ∧ subAt x ⟨#[c]⟩ i = true) ↔ (i < hi ∧ x.cps.toList[i]? = some c) := by
  have := StrLaws.subAt_one x c i
  have hlen : x.length = x.cps.toList.length := by simp [Str.length]
  have h1 : (⟨#[c]⟩ : Str).length = 1 := rfl
  rw [h1] at this ⊢
  constructor
  · rintro ⟨a, b⟩
    exact ⟨by omega, this.mp ⟨by omega, b⟩⟩
  · rintro ⟨a, b⟩
    exact ⟨by omega, (this.mpr b).2⟩

theorem drop_take_cons {l : List Nat} {hi a : Nat} (h : a < hi) (hl : hi ≤ l.length) : ∃ c, l[a]? = some c ∧ (l.take hi).drop a = c :: (l.take hi).drop (a + 1) := by
  have h2 : a < (l.take hi).length := by rw [List.length_take]; omega
  refine ⟨l[a], List.getElem?_eq_getElem (by omega), ?_⟩
  rw [List.drop_eq_getElem_cons h2, List.getElem_take]

theorem occ_count (x : Str) (c hi limit : Nat) (hl : hi ≤ x.cps.toList.length) : ∀ (n a : Nat) (arr : Array Nat) (free : Nat), a + n = hi + 1 → free ≤ a → arr.size + n ≤ limit →
    (forIn (List.range' a n) (arr, free) (StrLaws.occBody x ⟨#[c]⟩ hi limit)).run.fst.size = arr.size + ((x.cps.toList.take hi).drop a).count c
  | 0, a, arr, free, h1, h2, h3 => by
    have : (x.cps.toList.take hi).drop a = [] := List.drop_eq_nil_of_le (by rw [List.length_take]; omega)
    rw [this]
    rfl
  | n + 1, a, arr, free, h1, h2, h3 => by
    rw [List.range'_succ, List.forIn_cons]
    unfold StrLaws.occBody
    by_cases hc : a < hi ∧ x.cps.toList[a]? = some c
    · have hc' := (sub1 x c a hi hl).mpr hc
      rw [if_pos ⟨⟨⟨by show arr.size < limit; omega, h2⟩, hc'.1⟩, hc'.2⟩]
      refine (occ_count x c hi limit hl n (a + 1) (arr.push a) (a + 1) (by omega) (Nat.le_refl _) (by rw [Array.size_push]; omega)).trans ?_
      obtain ⟨c', e1, e2⟩ := drop_take_cons hc.1 hl
      rw [e1] at hc
      have e3 : c' = c := Option.some.inj hc.2
      rw [e2, e3, Array.size_push, List.count_cons_self]
      omega
    · have hc' : ¬ (a + (⟨#[c]⟩ : Str).length ≤ hi ∧ subAt x ⟨#[c]⟩ a = true) := fun q => hc ((sub1 x c a hi hl).mp q)
      rw [if_neg (fun q => hc' ⟨q.1.2, q.2⟩)]
      refine (occ_count x c hi limit hl n (a + 1) arr free (by omega) (by omega) (by omega)).trans ?_
      by_cases ha : a < hi
      · obtain ⟨c', e1, e2⟩ := drop_take_cons ha hl
        have e3 : c' ≠ c := fun q => hc ⟨ha, by rw [e1, q]⟩
        rw [e2, List.count_cons_of_ne e3]
      · have k1 : (x.cps.toList.take hi).drop a = [] := List.drop_eq_nil_of_le (by rw [List.length_take]; omega)
        have k2 : (x.cps.toList.take hi).drop (a + 1) = [] := List.drop_eq_nil_of_le (by rw [List.length_take]; omega)
        rw [k1, k2]

theorem last_at (x : Str) (c hi : Nat) (hl : hi ≤ x.cps.toList.length) : ∀ (n a : Nat) (st : Option Nat), a + n = hi + 1 →
    (forIn (List.range' a n) st (StrLaws.lastBody x ⟨#[c]⟩ hi)).run = match lastIdx c ((x.cps.toList.take hi).drop a) with | some k => some (a + k) | none => st
  | 0, a, st, h1 => by
    have : (x.cps.toList.take hi).drop a = [] := List.drop_eq_nil_of_le (by rw [List.length_take]; omega)
    rw [this]
    rfl
  | n + 1, a, st, h1 => by
    rw [List.range'_succ, List.forIn_cons]
    unfold StrLaws.lastBody
    by_cases ha : a < hi
    · obtain ⟨c', e1, e2⟩ := drop_take_cons ha hl
      by_cases hc : c' = c
      · have hc' := (sub1 x c a hi hl).mpr ⟨ha, by rw [e1, hc]⟩
        rw [if_pos hc']
        refine (last_at x c hi hl n (a + 1) (some a) (by omega)).trans ?_
        rw [e2, lastIdx]
        cases q : lastIdx c ((x.cps.toList.take hi).drop (a + 1)) with
        | some k => simp; omega
        | none => simp [hc]
      · have hc' : ¬ (a + (⟨#[c]⟩ : Str).length ≤ hi ∧ subAt x ⟨#[c]⟩ a = true) := fun q => hc (by have := ((sub1 x c a hi hl).mp q).2; rw [e1] at this; exact Option.some.inj this)
        rw [if_neg hc']
        refine (last_at x c hi hl n (a + 1) st (by omega)).trans ?_
        rw [e2, lastIdx]
        cases q : lastIdx c ((x.cps.toList.take hi).drop (a + 1)) with
        | some k => simp; omega
        | none => simp [hc]
    · have hc' : ¬ (a + (⟨#[c]⟩ : Str).length ≤ hi ∧ subAt x ⟨#[c]⟩ a = true) := fun q => ha ((sub1 x c a hi hl).mp q).1
      rw [if_neg hc']
      refine (last_at x c hi hl n (a + 1) st (by omega)).trans ?_
      have k1 : (x.cps.toList.take hi).drop a = [] := List.drop_eq_nil_of_le (by rw [List.length_take]; omega)
      have k2 : (x.cps.toList.take hi).drop (a + 1) = [] := List.drop_eq_nil_of_le (by rw [List.length_take]; omega)
      rw [k1, k2]
      rfl

theorem scount_nl (x : Str) (pos : Int) (h : 0 ≤ pos) : scount x ⟨#[10]⟩ 0 pos = nlCount x.cps.toList pos.toNat := by
  unfold scount nlCount
  have hlen : x.length = x.cps.toList.length := by simp [Str.length]
  have f0 : fromIndex x.length 0 = 0 := by unfold fromIndex; simp
  have f1 : fromIndex x.length pos = pos.toNat := by unfold fromIndex; rw [if_neg (by omega), Int.max_eq_right h]
  rw [f0, f1, StrLaws.occ_eq]
  have := occ_count x 10 (min pos.toNat x.length) (x.length + 1) (by omega) (min pos.toNat x.length + 1) 0 #[] 0 (by omega) (Nat.le_refl _) (by simp; omega)
  rw [Array.length_toList, show min pos.toNat x.length + 1 - 0 = min pos.toNat x.length + 1 from rfl, this]
  rw [List.drop_zero, hlen, ← List.take_eq_take_min]
  simp

theorem srfind_nl (x : Str) (pos : Int) (h : 0 ≤ pos) : srfind x ⟨#[10]⟩ 0 pos = nlLast x.cps.toList pos.toNat := by
  unfold srfind nlLast
  have hlen : x.length = x.cps.toList.length := by simp [Str.length]
  have f0 : fromIndex x.length 0 = 0 := by unfold fromIndex; simp
  have f1 : fromIndex x.length pos = pos.toNat := by unfold fromIndex; rw [if_neg (by omega), Int.max_eq_right h]
  rw [f0, f1, StrLaws.last_eq]
  have := last_at x 10 (min pos.toNat x.length) (by omega) (min pos.toNat x.length + 1) 0 none (by omega)
  rw [show min pos.toNat x.length + 1 - 0 = min pos.toNat x.length + 1 from rfl, this]
  rw [List.drop_zero, hlen, ← List.take_eq_take_min]
  cases lastIdx 10 (x.cps.toList.take pos.toNat) <;> simp
end Mine
open PySem PySem.W PyProof.Rows PySem.Calls
namespace Mine
open Builtin Builtin.Bytes

def bwin (b : Array UInt8) (pos : Int) : Option (Nat × Nat) :=
  if (window b.size (some 0) (some pos)).2 - (window b.size (some 0) (some pos)).1 < ((#[10] : Array UInt8).size : Int) then none else some ((window b.size (some 0) (some pos)).1.toNat, (window b.size (some 0) (some pos)).2.toNat)
theorem bcount_eq (b : Array UInt8) (pos : Int) (t u v v' : Tok) : «bytes.count» ⟨[.bytes b t, .bytes #[10] u, .int 0 v, .int pos v'], []⟩ =
    (match bwin b pos with | none => retInt 0 | some (lo, hi) => retInt (occurrences b #[10] lo hi).length) := by kernel_rfl
theorem brfind_eq (b : Array UInt8) (pos : Int) (t u v v' : Tok) : «bytes.rfind» ⟨[.bytes b t, .bytes #[10] u, .int 0 v, .int pos v'], []⟩ =
    (match (bwin b pos).bind fun (lo, hi) => rfind? b #[10] lo hi with | some i => retInt i | none => (do rule "bytes.rfind.not-found"; retInt (-1))) := by kernel_rfl

/-- the numbers of some bytes -/
def codes (b : Array UInt8) : List Nat := b.toList.map UInt8.toNat
theorem codes_length (b : Array UInt8) : (codes b).length = b.size := by simp [codes]

theorem ext1 (b : Array UInt8) (i : Nat) (hi : i < b.size) : (b.extract i (i + (#[10] : Array UInt8).size) == (#[10] : Array UInt8)) = decide ((codes b)[i]? = some 10) := by
  have e : b.extract i (i + (#[10] : Array UInt8).size) = #[b[i]] := by
    apply Array.ext
    · simp; omega
    · intro j h1 h2
      simp at h2
      subst h2
      simp
  rw [e]
  have h2 : (codes b)[i]? = some b[i].toNat := by simp [codes, hi]
  rw [h2]
  by_cases q : b[i] = 10
  · rw [q]; rfl
  · have q' : b[i].toNat ≠ 10 := fun z => q (UInt8.toNat_inj.mp z)
    have h3 : (#[b[i]] == (#[10] : Array UInt8)) = false := by simp [q]
    rw [h3]
    simp [q']

theorem take_succ_at {l : List Nat} {n : Nat} (h : n < l.length) : l.take (n + 1) = l.take n ++ [l[n]] := by simp

theorem bocc (b : Array UInt8) : ∀ n, n ≤ b.size → ∃ acc k, ((List.range n).map (· + 0)).foldl (fun (acc : List Nat × Nat) i => if i ≥ acc.2 && b.extract i (i + (#[10] : Array UInt8).size) == #[10] then (i :: acc.1, i + (#[10] : Array UInt8).size) else acc) ([], 0) = (acc, k) ∧ k ≤ n ∧ acc.length = ((codes b).take n).count 10
  | 0, _ => ⟨[], 0, rfl, Nat.le_refl _, rfl⟩
  | n + 1, hn => by
    obtain ⟨acc, k, e, hk, hc⟩ := bocc b n (by omega)
    rw [List.range_succ, List.map_append, List.foldl_append, e]
    simp only [List.map_cons, List.map_nil, List.foldl_cons, List.foldl_nil, Nat.add_zero]
    rw [ext1 b n (by omega), take_succ_at (by rw [codes_length]; omega), List.count_append]
    have hg : (codes b)[n]? = some ((codes b)[n]'(by rw [codes_length]; omega)) := List.getElem?_eq_getElem _
    rw [hg]
    by_cases q : (codes b)[n]'(by rw [codes_length]; omega) = 10
    · refine ⟨n :: acc, n + 1, ?_, Nat.le_refl _, ?_⟩
      · simp [q, hk]
      · simp [hc, q]
    · refine ⟨acc, k, ?_, by omega, ?_⟩
      · simp [q]
      · simp [hc, List.count_cons, q]

theorem brf (b : Array UInt8) : ∀ n, n ≤ b.size → ((List.range n).map (· + 0)).reverse.find? (fun i => b.extract i (i + (#[10] : Array UInt8).size) == (#[10] : Array UInt8)) = lastIdx 10 ((codes b).take n)
  | 0, _ => rfl
  | n + 1, hn => by
    have ih := brf b n (by omega)
    have hg : (codes b)[n]? = some ((codes b)[n]'(by rw [codes_length]; omega)) := List.getElem?_eq_getElem _
    rw [List.range_succ, List.map_append, List.reverse_append]
    simp only [List.map_cons, List.map_nil, List.reverse_cons, List.reverse_nil, List.nil_append, List.cons_append, Nat.add_zero, List.find?_cons]
    rw [ext1 b n (by omega), hg, take_succ_at (by rw [codes_length]; omega)]
    have snoc : ∀ (l : List Nat) (c : Nat), lastIdx 10 (l ++ [c]) = if c = 10 then some l.length else lastIdx 10 l := by
      intro l c
      induction l with
      | nil => simp only [List.nil_append, lastIdx]; by_cases z : c = 10 <;> simp [z]
      | cons a r ih =>
        simp only [List.cons_append, lastIdx, ih]
        by_cases z : c = 10 <;> simp [z]
    rw [snoc]
    by_cases q : (codes b)[n]'(by rw [codes_length]; omega) = 10
    · simp [q, codes_length]; omega
    · simp only [q, if_false]
      rw [← ih]
      simp [q]

theorem bwin_is (b : Array UInt8) (pos : Int) (h : 0 ≤ pos) : bwin b pos = if min b.size pos.toNat = 0 then none else some (0, min b.size pos.toNat) := by
  unfold bwin window
  have e : (if pos < 0 then max 0 (pos + b.size) else pos) = pos := if_neg (by omega)
  simp only [Option.getD_some, e]
  have e2 : (min (b.size : Int) pos).toNat = min b.size pos.toNat := by omega
  by_cases z : min b.size pos.toNat = 0
  · rw [if_pos z, if_pos]
    simp; omega
  · rw [if_neg z, if_neg]
    · simp; omega
    · simp; omega

theorem bcount_nl (b : Array UInt8) (pos : Int) (h : 0 ≤ pos) (t u v v' : Tok) : Gives («bytes.count» ⟨[.bytes b t, .bytes #[10] u, .int 0 v, .int pos v'], []⟩) (.int (nlCount (codes b) pos.toNat)) := by
  rw [bcount_eq, bwin_is b pos h]
  have tk : (codes b).take (min b.size pos.toNat) = (codes b).take pos.toNat := by rw [Nat.min_comm, ← codes_length, ← List.take_eq_take_min]
  by_cases z : min b.size pos.toNat = 0
  · rw [if_pos z]
    have : nlCount (codes b) pos.toNat = 0 := by unfold nlCount; rw [← tk, z]; rfl
    rw [this]
    exact .of_eq rfl
  · rw [if_neg z]
    obtain ⟨acc, k, e, _, hc⟩ := bocc b (min b.size pos.toNat) (by omega)
    have : (occurrences b #[10] 0 (min b.size pos.toNat)).length = ((codes b).take (min b.size pos.toNat)).count 10 := by
      unfold occurrences
      rw [show min b.size pos.toNat + 1 - (0 + (#[10] : Array UInt8).size) = min b.size pos.toNat from by simp]
      dsimp only
      rw [e]
      simp [hc]
    dsimp only
    rw [this, tk]
    exact .of_eq rfl

theorem brfind_nl (b : Array UInt8) (pos : Int) (h : 0 ≤ pos) (t u v v' : Tok) : Gives («bytes.rfind» ⟨[.bytes b t, .bytes #[10] u, .int 0 v, .int pos v'], []⟩) (.int (nlLast (codes b) pos.toNat)) := by
  rw [brfind_eq, bwin_is b pos h]
  have tk : (codes b).take (min b.size pos.toNat) = (codes b).take pos.toNat := by rw [Nat.min_comm, ← codes_length, ← List.take_eq_take_min]
  by_cases z : min b.size pos.toNat = 0
  · rw [if_pos z]
    have : nlLast (codes b) pos.toNat = -1 := by unfold nlLast; rw [← tk, z]; rfl
    rw [this]
    exact .rule (.of_eq rfl)
  · rw [if_neg z]
    have : rfind? b #[10] 0 (min b.size pos.toNat) = lastIdx 10 ((codes b).take pos.toNat) := by
      unfold rfind?
      rw [show min b.size pos.toNat + 1 - (0 + (#[10] : Array UInt8).size) = min b.size pos.toNat from by simp]
      rw [brf b _ (by omega), tk]
    simp only [Option.bind_some, this]
    unfold nlLast
    cases lastIdx 10 ((codes b).take pos.toNat) with
    | none => exact .rule (.of_eq rfl)
    | some k => exact .of_eq rfl

namespace F
theorem slot_b_count : Slot "bytes" "count" "bytes.count" := .of (owner := "bytes") (n := "count") (by rw [typeLookup_type, builtinLookup_eq_fast]; kernel_rfl) (by decide +kernel) (by decide +kernel) (by decide +kernel)
  (by first | exact .inl (by decide +kernel) | exact .inr (by decide +kernel)) (by rw [isSubtype_type]; kernel_rfl)
theorem slot_b_rfind : Slot "bytes" "rfind" "bytes.rfind" := .of (owner := "bytes") (n := "rfind") (by rw [typeLookup_type, builtinLookup_eq_fast]; kernel_rfl) (by decide +kernel) (by decide +kernel) (by decide +kernel)
  (by first | exact .inl (by decide +kernel) | exact .inr (by decide +kernel)) (by rw [isSubtype_type]; kernel_rfl)
theorem entry_b_count : entryFor table "bytes.count" = some Builtin.«bytes.count» := entryFor_of_tree (by kernel_rfl)
theorem entry_b_rfind : entryFor table "bytes.rfind" = some Builtin.«bytes.rfind» := entryFor_of_tree (by kernel_rfl)
theorem args_b_count (a b c d : Value) : argsOk "bytes.count" ⟨[a, b, c, d], []⟩ := by unfold argsOk; kernel_rfl
theorem args_b_rfind (a b c d : Value) : argsOk "bytes.rfind" ⟨[a, b, c, d], []⟩ := by unfold argsOk; kernel_rfl
end F
section
variable {prog : Program} {w : World} {A : Around} {E : Value → Shared → Prop} {s : Shared} {b : Array UInt8} {x : Str} {t u v v' : Tok} {pos : Int} {Q : Value → Shared → Prop}
theorem bcount_call (h : 0 ≤ pos) (hq : Q (.int (nlCount (codes b) pos.toNat) s.toks) { s with toks := s.toks + 1 }) : wpAny (model prog w) A (call (.builtin "bytes.count") [.bytes b t, .bytes #[10] u, .int 0 v, .int pos v']) Q E s :=
  call_gives F.slot_b_count (by rfl) F.entry_b_count (F.args_b_count _ _ _ _) (bcount_nl b pos h t u v v') hq
theorem brfind_call (h : 0 ≤ pos) (hq : Q (.int (nlLast (codes b) pos.toNat) s.toks) { s with toks := s.toks + 1 }) : wpAny (model prog w) A (call (.builtin "bytes.rfind") [.bytes b t, .bytes #[10] u, .int 0 v, .int pos v']) Q E s :=
  call_gives F.slot_b_rfind (by rfl) F.entry_b_rfind (F.args_b_rfind _ _ _ _) (brfind_nl b pos h t u v v') hq
theorem nl_str : Str.ofString "\n" = ⟨#[10]⟩ := by decide +kernel
theorem scount_call' (h : 0 ≤ pos) (hq : Q (.int (nlCount x.cps.toList pos.toNat) s.toks) { s with toks := s.toks + 1 }) : wpAny (model prog w) A (call (.builtin "str.count") [.str x t, .str (Str.ofString "\n") u, .int 0 v, .int pos v']) Q E s := by
  rw [nl_str]
  exact scount_call (by rw [scount_nl x pos h]; exact hq)
theorem srfind_call' (h : 0 ≤ pos) (hq : Q (.int (nlLast x.cps.toList pos.toNat) s.toks) { s with toks := s.toks + 1 }) : wpAny (model prog w) A (call (.builtin "str.rfind") [.str x t, .str (Str.ofString "\n") u, .int 0 v, .int pos v']) Q E s := by
  rw [nl_str]
  exact srfind_call (by rw [srfind_nl x pos h]; exact hq)

theorem scount_n (h : 0 ≤ pos) (hq : ∀ n : Int, n = nlCount x.cps.toList pos.toNat → 0 ≤ n → n ≤ pos → Q (.int n s.toks) { s with toks := s.toks + 1 }) : wpAny (model prog w) A (call (.builtin "str.count") [.str x t, .str (Str.ofString "\n") u, .int 0 v, .int pos v']) Q E s :=
  scount_call' h (hq _ rfl (nlCount_bound _ _).1 (by have := (nlCount_bound x.cps.toList pos.toNat).2.2; omega))
theorem srfind_n (h : 0 ≤ pos) (hq : ∀ n : Int, n = nlLast x.cps.toList pos.toNat → -1 ≤ n → n < pos ∨ n = -1 → Q (.int n s.toks) { s with toks := s.toks + 1 }) : wpAny (model prog w) A (call (.builtin "str.rfind") [.str x t, .str (Str.ofString "\n") u, .int 0 v, .int pos v']) Q E s :=
  srfind_call' h (hq _ rfl (by have := nlLast_bound x.cps.toList pos.toNat; omega) (by have := nlLast_bound x.cps.toList pos.toNat; omega))
theorem bcount_n (h : 0 ≤ pos) (hq : ∀ n : Int, n = nlCount (codes b) pos.toNat → 0 ≤ n → n ≤ pos → Q (.int n s.toks) { s with toks := s.toks + 1 }) : wpAny (model prog w) A (call (.builtin "bytes.count") [.bytes b t, .bytes #[10] u, .int 0 v, .int pos v']) Q E s :=
  bcount_call h (hq _ rfl (nlCount_bound _ _).1 (by have := (nlCount_bound (codes b) pos.toNat).2.2; omega))
theorem brfind_n (h : 0 ≤ pos) (hq : ∀ n : Int, n = nlLast (codes b) pos.toNat → -1 ≤ n → n < pos ∨ n = -1 → Q (.int n s.toks) { s with toks := s.toks + 1 }) : wpAny (model prog w) A (call (.builtin "bytes.rfind") [.bytes b t, .bytes #[10] u, .int 0 v, .int pos v']) Q E s :=
  brfind_call h (hq _ rfl (by have := nlLast_bound (codes b) pos.toNat; omega) (by have := nlLast_bound (codes b) pos.toNat; omega))
end
end Mine
open PySem PySem.W PyProof.Rows PySem.Calls
namespace Mine
open Builtin Builtin.Str

/-- '%s at position %d', '%s (line %d, column %d)' -/
def words2 (msg : Str) (pos : Int) : Str := msg ++ Str.ofString " at position " ++ Str.ofString (toString pos)
def words3 (msg : Str) (line col : Int) : Str := msg ++ Str.ofString " (line " ++ Str.ofString (toString line) ++ Str.ofString ", column " ++ Str.ofString (toString col) ++ Str.ofString ")"

theorem fmt2 {b : Addr} {msg : Str} {pos : Int} {tm ti t : Tok} (hm : msg.length ≤ 1000000) (h0 : 0 ≤ pos) (h1 : pos < 10 ^ 10) (X' : Str) (hX : Str.ofString "%s at position %d" = X') :
    Meets («str.__mod__» ⟨[.str X' t, .ref b], []⟩) (fun _ R s => IsTup s.heap b #[.str msg tm, .int pos ti] ∧ ∀ t' k, R (.ok (.ret (.str (words2 msg pos) t'))) { s with toks := k }) := by
  have e : X' = ⟨#[37, 115, 32, 97, 116, 32, 112, 111, 115, 105, 116, 105, 111, 110, 32, 37, 100]⟩ := by rw [← hX]; decide +kernel
  subst e
  unfold words2
  k_dflt kpt_run
theorem fmt3 {b : Addr} {msg : Str} {line col : Int} {tm ti tj t : Tok} (hm : msg.length ≤ 1000000) (h0 : 0 ≤ line) (h1 : line < 10 ^ 10) (h2 : 0 ≤ col) (h3 : col < 10 ^ 10) (X' : Str) (hX : Str.ofString "%s (line %d, column %d)" = X') :
    Meets («str.__mod__» ⟨[.str X' t, .ref b], []⟩) (fun _ R s => IsTup s.heap b #[.str msg tm, .int line ti, .int col tj] ∧ ∀ t' k, R (.ok (.ret (.str (words3 msg line col) t'))) { s with toks := k }) := by
  have e : X' = ⟨#[37, 115, 32, 40, 108, 105, 110, 101, 32, 37, 100, 44, 32, 99, 111, 108, 117, 109, 110, 32, 37, 100, 41]⟩ := by rw [← hX]; decide +kernel
  subst e
  unfold words3
  k_dflt kpt_run
section
variable {prog : Program} {w : World} {A : Around} {E : Value → Shared → Prop} {s : Shared} {h₀ : Heap} {L b : Addr} {news : List (Addr × Obj)} {msg : Str} {pos line col : Int} {t tm ti tj : Tok} {n : Nat} {Q : Value → Shared → Prop}
theorem kfmt2 (N : News h₀ L s.heap news) (hb : (b, ({ cls := .type "tuple", data := .seq #[.str msg tm, .int pos ti] n } : Obj)) ∈ news) (hm : msg.length ≤ 1000000) (h0 : 0 ≤ pos) (h1 : pos < 10 ^ 10)
    (h : ∀ t' k, Q (.str (words2 msg pos) t') { s with toks := k }) : wpAny (model prog w) A (binaryOp .Mod (.str (Str.ofString "%s at position %d") t) (.ref b)) Q E s :=
  KPt.mod_tuple N hb rfl (fmt2 hm h0 h1 _ rfl) h
theorem kfmt3 (N : News h₀ L s.heap news) (hb : (b, ({ cls := .type "tuple", data := .seq #[.str msg tm, .int line ti, .int col tj] n } : Obj)) ∈ news) (hm : msg.length ≤ 1000000) (h0 : 0 ≤ line) (h1 : line < 10 ^ 10) (h2 : 0 ≤ col) (h3 : col < 10 ^ 10)
    (h : ∀ t' k, Q (.str (words3 msg line col) t') { s with toks := k }) : wpAny (model prog w) A (binaryOp .Mod (.str (Str.ofString "%s (line %d, column %d)") t) (.ref b)) Q E s :=
  KPt.mod_tuple N hb rfl (fmt3 hm h0 h1 h2 h3 _ rfl) h
end

theorem words2_len {msg : Str} {pos : Int} (h0 : 0 ≤ pos) (h1 : pos < 10 ^ 10) : (words2 msg pos).length ≤ msg.length + 24 := by
  unfold words2
  have h2 := toString_length_le (k := 10) h0 (by decide) h1
  have h3 : (Str.ofString " at position ").length = 13 := by decide +kernel
  rw [Str.length_append, Str.length_append]
  omega
theorem words3_len {msg : Str} {line col : Int} (h0 : 0 ≤ line) (h1 : line < 10 ^ 10) (h2 : 0 ≤ col) (h3 : col < 10 ^ 10) : (words3 msg line col).length ≤ msg.length + 40 := by
  unfold words3
  have e1 := toString_length_le (k := 10) h0 (by decide) h1
  have e2 := toString_length_le (k := 10) h2 (by decide) h3
  have e3 : (Str.ofString " (line ").length = 7 := by decide +kernel
  have e4 : (Str.ofString ", column ").length = 9 := by decide +kernel
  have e5 : (Str.ofString ")").length = 1 := by decide +kernel
  simp only [Str.length_append]
  omega

section
variable {prog : Program} {w : World} {M : Model} {A : Around} {E : Value → Shared → Prop} {s : Shared} {env : Env} {c : Code}
theorem execs_snoc (last : Stmt) : ∀ pre : List Stmt, execs (pre ++ [last]) env = (execs pre env >>= fun f => match f with | Flow.next => execs [last] env | f => pure f)
  | [] => by
    show execs [last] env = (pure Flow.next >>= _)
    rw [pure_bind]
  | st :: pre => by
    rw [List.cons_append, execs_cons, execs_cons, bind_assoc]
    congr 1
    funext f
    cases f with
    | next => exact execs_snoc last pre
    | _ => simp only [pure_bind]
/-- a goal at which the walk stands still -/
def Stop (P : Prop) : Prop := P
theorem wpAt_snoc {last : Stmt} {Q : Flow → Shared → Prop} {pre : List Stmt} (h : wpAny M A (execs pre env) (fun f s' => match f with | .next => Stop (_root_.PySem.wpAt M A c (execs [last] env) Q E s') | f => Q f s') E s) :
    _root_.PySem.wpAt M A c (execs (pre ++ [last]) env) Q E s := by
  intro Γ p hc hΓ
  rw [execs_snoc, Sem.wp_bind']
  refine Sem.wp_mono M Γ _ (fun f p' s' h' => ?_) (fun _ _ _ h' => h') _ _ (h Γ p hΓ)
  cases f <;> first | exact h' Γ p' hc hΓ | exact h'
end
end Mine
open PySem PySem.W PyProof.Rows PySem.Calls
namespace Mine
open Builtin Builtin.Bytes
section
variable {prog : Program} {w : World} {A : Around} {E : Value → Shared → Prop} {s : Shared} {b : Array UInt8} {x : Str} {t u : Tok} {Q : Value → Shared → Prop}
theorem str_in (h1 : 10 ∈ x.cps.toList → Q (.bool true) s) (h2 : 10 ∉ x.cps.toList → Q (.bool false) s) : wpAny (model prog w) A (compareOp .In (.str (Str.ofString "\n") u) (.str x t)) Q E s := by
  rw [nl_str]
  refine in_str ?_
  rw [StrLaws.found_one]
  by_cases q : 10 ∈ x.cps.toList
  · rw [decide_eq_true q]; exact h1 q
  · rw [decide_eq_false q]; exact h2 q
namespace F
theorem slot_b_in : Slot "bytes" "__contains__" "bytes.__contains__" := .of (owner := "bytes") (n := "__contains__") (by rw [typeLookup_type, builtinLookup_eq_fast]; kernel_rfl) (by decide +kernel) (by decide +kernel) (by decide +kernel)
  (by first | exact .inl (by decide +kernel) | exact .inr (by decide +kernel)) (by rw [isSubtype_type]; kernel_rfl)
theorem entry_b_in : entryFor table "bytes.__contains__" = some Builtin.«bytes.__contains__» := entryFor_of_tree (by kernel_rfl)
theorem args_b_in (a b : Value) : argsOk "bytes.__contains__" ⟨[a, b], []⟩ := by unfold argsOk; kernel_rfl
abbrev noIdx : String := toString "'" ++ toString ((Manifest.find? "bytes").elim "bytes" (·.tpName)) ++ toString "' object cannot be interpreted as an integer"
theorem idx_eq (c : Array UInt8) (u : Tok) : asIndex (.bytes c u) = raiseErrorMade "TypeError" noIdx := by kernel_rfl
theorem noIdx_len : (Str.ofString noIdx).length ≤ sizeLine := by decide +kernel
theorem buf_eq (id : String) (b : Array UInt8) (t : Tok) : buffer? id (.bytes b t) = pure (some b) := by kernel_rfl
end F
theorem find_one (b : Array UInt8) : (find? b #[10] 0 b.size).isSome = decide (10 ∈ codes b) := by
  have e : ∀ i ∈ ((List.range (b.size + 1 - (0 + (#[10] : Array UInt8).size))).map (· + 0)), (b.extract i (i + (#[10] : Array UInt8).size) == #[10]) = decide ((codes b)[i]? = some 10) := by
    intro i hi
    simp at hi
    exact ext1 b i (by omega)
  unfold find?
  rw [Bool.eq_iff_iff, List.find?_isSome, decide_eq_true_eq]
  constructor
  · rintro ⟨i, hi, hq⟩
    rw [e i hi, decide_eq_true_eq] at hq
    exact List.mem_of_getElem? hq
  · intro hm
    obtain ⟨i, hi, hq⟩ := List.mem_iff_getElem.mp hm
    have hi' : i < b.size := by rw [← codes_length]; exact hi
    refine ⟨i, by simp; omega, ?_⟩
    rw [e i (by simp; omega), decide_eq_true_eq]
    exact List.getElem?_eq_some_iff.mpr ⟨hi, hq⟩

theorem err_made {α : Type} {m : String} {Q : α → Shared → Prop} {E : Value → Shared → Prop} (hh : A.handled = none) (hm : (Str.ofString m).length ≤ sizeLine)
    (h : ∀ e h', s.heap.StaysIn h' → E e { s with heap := h', toks := s.toks + 1 }) : wpAny (model prog w) A (raiseErrorMade "TypeError" m : Sem α) Q E s := by
  unfold raiseErrorMade
  refine wpAny_bind (wpAny_mkStr ?_ hm)
  refine wpAny_bind (wpAny_newExc_plain plainExc_TypeError fun h' e hm => ?_)
  exact wpAny_raiseNew_none hh (h _ _ hm.keeps)

theorem bytes_in_run {Q : Fin → Shared → Prop} (hh : A.handled = none) (h : ∀ h' tk, s.heap.StaysIn h' → Q (.done (.ret (.bool (decide (10 ∈ codes b))))) { s with heap := h', toks := tk }) :
    wpAny (model prog w) A (Builtin.«bytes.__contains__» ⟨[.bytes b t, .bytes #[10] u], []⟩) Q E s := by
  show wpAny _ _ (containsIn "bytes.__contains__" (.bytes b t) (.bytes #[10] u) >>= fun r => ret (.bool r)) _ _ _
  unfold containsIn
  rw [F.idx_eq]
  refine wpAny_bind (wpAny_bind (wpAny_attempt (err_made hh F.noIdx_len fun e h' hk => ?_)))
  rw [F.buf_eq, F.buf_eq]
  refine wpAny_bind (wpAny_pure ?_)
  refine wpAny_bind (wpAny_pure ?_)
  refine wpAny_bind (wpAny_rule (wpAny_pure ?_))
  rw [find_one]
  exact wpAny_pure (h _ _ hk)

theorem bytes_in_code {R : Result → Shared → Prop} {id : String} (S : Slot "bytes" "__contains__" id) (he : entryFor table id = some Builtin.«bytes.__contains__») (ha : ∀ a b, argsOk id ⟨[a, b], []⟩) (hh : A.handled = none)
    (h : ∀ h' tk, s.heap.StaysIn h' → R (.ok (.ret (.bool (decide (10 ∈ codes b))))) { s with heap := h', toks := tk }) :
    codeAny (model prog w) A (.call (.builtin id) ⟨[.bytes b t, .bytes #[10] u], []⟩) R s :=
  codeAny_call_builtin S.plain he (S.check _ _ _ _ _ _ _ _ (by rfl) (ha _ _) (bytes_in_run hh h))

theorem bytes_in (hh : A.handled = none) (h1 : 10 ∈ codes b → ∀ h' tk, s.heap.StaysIn h' → Q (.bool true) { s with heap := h', toks := tk }) (h2 : 10 ∉ codes b → ∀ h' tk, s.heap.StaysIn h' → Q (.bool false) { s with heap := h', toks := tk }) :
    wpAny (model prog w) A (compareOp .In (.bytes #[10] u) (.bytes b t)) Q E s := by
  show wpAny _ A (do return .bool (← contains (.bytes b t) (.bytes #[10] u))) Q E s
  refine wpAny_bind (wpAny_contains_slot (by rfl) F.slot_b_in (wpAny_call (bytes_in_code F.slot_b_in F.entry_b_in F.args_b_in hh fun h' tk hk => ?_)))
  refine wpAny_truthy_bool (wpAny_pure ?_)
  by_cases q : 10 ∈ codes b
  · rw [decide_eq_true q]; exact h1 q h' tk hk
  · rw [decide_eq_false q]; exact h2 q h' tk hk

theorem kbytes_in {h₀ : Heap} {L : Addr} {m : Str → Option Value} {news : List (Addr × Obj)} (F : Fr h₀ L s.heap m) (N : News h₀ L s.heap news) (hh : A.handled = none)
    (h1 : 10 ∈ codes b → ∀ h' tk, Fr h₀ L h' m → News h₀ L h' news → Q (.bool true) { s with heap := h', toks := tk }) (h2 : 10 ∉ codes b → ∀ h' tk, Fr h₀ L h' m → News h₀ L h' news → Q (.bool false) { s with heap := h', toks := tk }) :
    wpAny (model prog w) A (compareOp .In (.bytes #[10] u) (.bytes b t)) Q E s :=
  bytes_in hh (fun q h' tk hk => h1 q h' tk (F.grownK hk) fun p hp => ⟨hk _ _ (N p hp).1, (N p hp).2⟩) (fun q h' tk hk => h2 q h' tk (F.grownK hk) fun p hp => ⟨hk _ _ (N p hp).1, (N p hp).2⟩)
end
end Mine
open PySem PySem.W PyProof.Rows PySem.Calls
namespace Mine
theorem F.type_b_count : typeOf (.builtin "bytes.count") = pure (.type "method_descriptor") := by show builtinType _ = _; rw [builtinType_eq_fast]; kernel_rfl
theorem F.type_b_rfind : typeOf (.builtin "bytes.rfind") = pure (.type "method_descriptor") := by show builtinType _ = _; rw [builtinType_eq_fast]; kernel_rfl
section
variable {A : Around} {E : Value → Shared → Prop} {s : Shared} {t : Tok} {M : Model} {b : Array UInt8} {pl : Sem Bool} {Q : Value × List Value → Shared → Prop}
theorem bm_count (h : Q (.builtin "bytes.count", [.bytes b t]) s) : wpAny M A (getMethod (.bytes b t) "count" pl) Q E s := by
  with_reducible exact KBd.method_of (.bytes b t) (typeIs_bytes _ _ _) F.slot_b_count F.type_b_count KBd.noRef h
theorem bm_rfind (h : Q (.builtin "bytes.rfind", [.bytes b t]) s) : wpAny M A (getMethod (.bytes b t) "rfind" pl) Q E s := by
  with_reducible exact KBd.method_of (.bytes b t) (typeIs_bytes _ _ _) F.slot_b_rfind F.type_b_rfind KBd.noRef h
end
end Mine
open PySem PySem.W PyProof.Rows
namespace Mine
open_top hd for PySem.Challenge.rw_dn0146_06
end Mine
namespace Mine
theorem walk_plain : True := by
  w_top off
  trivial
end Mine
open PySem PySem.W PyProof.Rows PySem.Calls
namespace Mine

local macro_rules | `(tactic| k_inst) => `(tactic| exact instAt_exc (News.get (by k_asm) (by k_mem)) (News.get (by k_asm) (by k_mem)))
local macro_rules | `(tactic| walk_at "setAttr ref") => `(tactic| (k_here; k_dflt (first
  | (refine' kset0 ?k1 ?k2 ?k3 ?k4 ?k5 ?k6 ?k7 ?k8 ?k9 ?_; (case k1 => k_asm); (case k2 => k_asm); (case k3 => k_asm); (case k9 => k_updF); (case k4 => k_is); (case k5 => kernel_rfl); (case k6 => k_is); (case k7 => k_is); (case k8 => (rw [typeLookup_type, builtinLookup_eq_fast]; kernel_rfl)); k_whole; intro d' o' h' tk' F' N' At' l1; (try k_lt l1); (try dsimp only at N'); (try dsimp only at At'); (try k_sweep))
  | (refine' kset (ns := ["msg", "pattern", "pos", "lineno", "colno"]) ?k1 ?k2 ?k3 ?k4 ?k5 ?k6 ?k7 ?k8 ?k9 ?k10 ?k11 ?k12 ?k13 ?_; (case k1 => k_asm); (case k2 => k_asm); (case k3 => k_asm); (case k9 => k_mem); (case k4 => k_is); (case k5 => kernel_rfl); (case k6 => k_is); (case k7 => k_is); (case k8 => (rw [typeLookup_type, builtinLookup_eq_fast]; kernel_rfl)); (case k10 => k_updF); (case k11 => assumption); (case k12 => (intro y hy; by_cases e1 : y = "msg"; (simp [e1]); by_cases e2 : y = "pattern"; (simp [e2]); by_cases e3 : y = "pos"; (simp [e3]); by_cases e4 : y = "lineno"; (simp [e4]); by_cases e5 : y = "colno"; (simp [e5]); simp [e1, e2, e3, e4, e5] at hy)); (case k13 => decide); k_whole; intro o' h' tk' F' N' At'; (try dsimp only at N'); (try dsimp only at At'); (try k_sweep)))))
local macro_rules | `(tactic| walk_at "getAttr ref") => `(tactic| (k_here; k_dflt (refine' kget ?k1 ?k2 ?k3 ?k4 ?k5 ?k6 ?k7 ?k8 ?k9 ?k10 ?k11 ?k12 ?k13 ?_; (case k1 => k_asm); (case k2 => k_asm); (case k9 => exact News.get (by k_asm) (by k_mem)); (case k10 => exact News.get (by k_asm) (by k_mem)); (case k3 => k_is); (case k4 => kernel_rfl); (case k5 => k_is); (case k6 => k_is); (case k7 => k_is); (case k8 => (rw [typeLookup_type, builtinLookup_eq_fast]; kernel_rfl)); (case k11 => assumption); (case k12 => rfl); (case k13 => rfl); k_whole)))
local macro_rules | `(tactic| walk_at "getMethod ref") => `(tactic| (k_here; k_dflt (refine' ksup_method ?k1 ?k2 ?k3 ?k4 ?k5 ?k6 ?k7 ?k8 ?k9 ?_; (case k1 => k_asm); (case k2 => k_asm); (case k3 => k_asm); (case k6 => k_mem); (case k7 => k_mem); (case k4 => k_is); (case k5 => k_is); (case k8 => rfl); (case k9 => rfl); k_whole; intro mw' h' F' N' l1; (try k_lt l1); (try k_sweep))))
local macro_rules | `(tactic| walk_at "call ref") => `(tactic| (k_here; k_dflt (refine' kmw_call ?k1 ?k2 ?k3 ?k4 ?k5 ?k6 ?k7 ?_; (case k1 => k_asm); (case k2 => k_asm); (case k3 => k_asm); (case k5 => k_mem); (case k6 => k_updF); (case k4 => k_is); (case k7 => rfl); k_whole; intro t' h' F' N' l1; (try k_lt l1); (try dsimp only at N'); (try k_sweep))))
theorem walk_lines_1 : True := by
  k_with "callWith ref" => (k_here; k_dflt (refine' callWith_Mw (by k_asm) (by k_mem) ?_; k_whole))
  k_with "And" => ((with_reducible show MwP _ _ _ ∧ _); refine ⟨mwP (by k_asm) (by k_mem), ?_⟩; try dsimp only [List.nil_append, List.cons_append])
  k_with "call builtin:str.count" => (k_here; k_dflt (refine' scount_n (by assumption) ?_; k_whole; intro _ _ _ _))
  k_with "call builtin:str.rfind" => (k_here; k_dflt (refine' srfind_n (by assumption) ?_; k_whole; intro _ _ _ _))
  k_with "call builtin:bytes.count" => (k_here; k_dflt (refine' bcount_n (by assumption) ?_; k_whole; intro _ _ _ _))
  k_with "call builtin:bytes.rfind" => (k_here; k_dflt (refine' brfind_n (by assumption) ?_; k_whole; intro _ _ _ _))
  k_with "binaryOp Mod str ref" => (k_here; k_dflt (first
  | ((with_reducible show wpAny _ _ (binaryOp Operator.Mod (Value.str (PySem.Str.ofString "%s at position %d") _) _) _ _ _); refine' kfmt2 (by k_asm) (by k_mem) (by omega) (by omega) (by omega) ?_; k_whole; intro tf' kf')
  | ((with_reducible show wpAny _ _ (binaryOp Operator.Mod (Value.str (PySem.Str.ofString "%s (line %d, column %d)") _) _) _ _ _); refine' kfmt3 (by k_asm) (by k_mem) (by (refine Nat.le_trans (words2_len (by omega) (by omega)) ?_; omega)) (by omega) (by omega) (by omega) (by omega) ?_; k_whole; intro tf' kf')))
  k_with "compareOp In str str" => (k_here; k_dflt (refine' str_in ?_ ?_ <;> intro _))
  k_with "compareOp In bytes bytes" => (k_here; k_dflt (refine' kbytes_in (by k_asm) (by k_asm) (by rfl) ?_ ?_) <;> (intro _ _ _ _ _; (try k_sweep)))
  trivial
theorem cls34 (P : Params) : ∃ nm q bs sn sub ab col dd k0 k1 k2 k3 k5, (hd.heap_39 P).lookup 34 = some (excClassObj nm q 34 33 bs excBm true sn sub ab col dd k0 k1 k2 k3 k5 "Exception.__new__") :=
  ⟨_, _, _, _, _, _, _, _, _, _, _, _, _, rfl⟩
theorem nsOk33 (P : Params) : nsOkIn (hd.heap_39 P) 33 = true := by kernel_rfl
theorem init31 (P : Params) : ∃ o, (hd.heap_39 P).lookup 31 = some o ∧ o.cls = .type "function" := ⟨_, rfl, rfl⟩


abbrev initScope : Scope := { kind := ScopeKind.function, names := [(Str.ofString "self", NameKind.local), (Str.ofString "msg", NameKind.local), (Str.ofString "pattern", NameKind.local), (Str.ofString "pos", NameKind.local), (Str.ofString "newline", NameKind.local), (Str.ofString "__class__", NameKind.free), (Str.ofString "isinstance", NameKind.globalImplicit), (Str.ofString "str", NameKind.globalImplicit), (Str.ofString "super", NameKind.globalImplicit)], isGenerator := false, isCoroutine := false }
abbrev superStmt : Stmt := Stmt.Expr ((((Expr.Name (Str.ofString "super") { line := 21, col := 8, endLine := 21, endCol := 13 }).Call [] [] { line := 21, col := 8, endLine := 21, endCol := 15 }).Attribute (Str.ofString "__init__") { line := 21, col := 8, endLine := 21, endCol := 24 }).Call [Expr.Name (Str.ofString "msg") { line := 21, col := 25, endLine := 21, endCol := 28 }] [] { line := 21, col := 8, endLine := 21, endCol := 29 }) { line := 21, col := 8, endLine := 21, endCol := 29 }
abbrev excD (C dx t : Addr) : Obj := { cls := .ref C, dict := some dx, data := .fields #[.ref t, .none, .none, .none, .bool false, .none] }

theorem sub3 {hb h : Heap} {L t mw so dx e : Addr} {a b c d o : Obj} (N : News hb L h [(t, a), (mw, b), (so, c), (dx, d), (e, o)]) : News hb L h [(t, a), (dx, d), (e, o)] := by
  intro p hp
  rcases List.mem_cons.mp hp with rfl | hp
  · exact N _ (.head _)
  rcases List.mem_cons.mp hp with rfl | hp
  · exact N _ (.tail _ (.tail _ (.tail _ (.head _))))
  rcases List.mem_cons.mp hp with rfl | hp
  · exact N _ (.tail _ (.tail _ (.tail _ (.tail _ (.head _)))))
  · cases hp
theorem super_tail {w : World} {A : Around} {E : Value → Shared → Prop} {s : Shared} {hb : Heap} {L' dx e t0 : Addr} {od : Obj} {m mg mb : Str → Option Value} {mean : ExcName → Option Value} {mm : Str} {tmm : Tok} {body : List Stmt} {Q : Flow → Shared → Prop} {q : Str}
    (F : Fr hb L' s.heap (fun y => if y = Str.ofString "self" then some (.ref e) else if y = Str.ofString "msg" then some (.str mm tmm) else m y)) (N : News hb L' s.heap [(dx, od), (e, excD 34 dx t0)]) (hne : dx ≠ e) (X : (hd.heap_39 w.params).In hb) (T : Top hd.view_39 (looseW hd.view_39 [Str.ofString "PatternError"]) mean mg mb hb)
    (ret : ∀ t h' tk, Fr hb L' h' (fun y => if y = Str.ofString "self" then some (.ref e) else if y = Str.ofString "msg" then some (.str mm tmm) else m y) → News hb L' h' [(t, tupOf [.str mm tmm]), (dx, od), (e, excD 34 dx t)] → Stop (Q .next { s with heap := h', toks := tk })) :
    _root_.PySem.wpAt (model PySem.Challenge.rw_dn0146_06.row.prog w) A (.func body (ksEnv q initScope L' 31 (.ref 30) 18)) (execs [superStmt] (ksEnv q initScope L' 31 (.ref 30) 18)) Q E s := by
  revert X; k_fill; intro X
  refine ks_wpAt_execs_cons ?_
  refine ks_wpAt_Expr_any ?_
  refine ks_wpAt_MethodCall ?_
  have I : InstAt s.heap e (excD 34 dx t0) 34 (some od) := instAt_exc (News.get N (.tail _ (.head _))) (News.get N (.head _))
  k_dflt (refine ks_node F X N T (by k_is) (by rfl) (by rfl) I (by k_is) (by rfl) (by first | rfl | decide +kernel) (by k_is) (by k_is) (by k_is) (by k_is) (by decide) (by rfl) (by rfl) (by rfl) (by rfl) (by decide +kernel) (by first | boot_by_name | rfl | kernel_rfl) ?_)
  intro so' h' F' N' l1
  k_lt l1
  k_steps
  all_goals (try exact mwP (by k_asm) (by k_mem))
  rename News _ _ _ _ => NN
  exact ret _ _ _ (by k_asm) (sub3 NN)

theorem super_tail' {w : World} {A : Around} {E : Value → Shared → Prop} {s : Shared} {hb : Heap} {L' dx e t0 : Addr} {od : Obj} {m mg mb : Str → Option Value} {mean : ExcName → Option Value} {mm : Str} {tmm : Tok} {body : List Stmt} {Q : Flow → Shared → Prop} {q : Str}
    (F : Fr hb L' s.heap m) (hs : m (Str.ofString "self") = some (.ref e)) (hm : m (Str.ofString "msg") = some (.str mm tmm)) (N : News hb L' s.heap [(dx, od), (e, excD 34 dx t0)]) (hne : dx ≠ e) (X : (hd.heap_39 w.params).In hb) (T : Top hd.view_39 (looseW hd.view_39 [Str.ofString "PatternError"]) mean mg mb hb)
    (ret : ∀ t h' tk, hb.StaysIn h' → News hb L' h' [(t, tupOf [.str mm tmm]), (dx, od), (e, excD 34 dx t)] → Stop (Q .next { s with heap := h', toks := tk })) :
    _root_.PySem.wpAt (model PySem.Challenge.rw_dn0146_06.row.prog w) A (.func body (ksEnv q initScope L' 31 (.ref 30) 18)) (execs [superStmt] (ksEnv q initScope L' 31 (.ref 30) 18)) Q E s := by
  have e1 : (fun y => if y = Str.ofString "self" then some (.ref e) else if y = Str.ofString "msg" then some (.str mm tmm) else m y) = m := by
    funext y
    by_cases h1 : y = Str.ofString "self"
    · rw [if_pos h1, h1, hs]
    · rw [if_neg h1]
      by_cases h2 : y = Str.ofString "msg"
      · rw [if_pos h2, h2, hm]
      · rw [if_neg h2]
  exact super_tail (m := m) (by rw [e1]; exact F) N hne X T fun t h' tk F' N' => ret t h' tk F'.keep N'

theorem sub2a {hb h : Heap} {L D D1 dx e t0 : Addr} {a b d o c : Obj} (N : News hb L h [(D, a), (D1, b), (dx, d), (e, o), (t0, c)]) : News hb L h [(dx, d), (e, o)] := by
  intro p hp
  rcases List.mem_cons.mp hp with rfl | hp
  · exact N _ (.tail _ (.tail _ (.head _)))
  rcases List.mem_cons.mp hp with rfl | hp
  · exact N _ (.tail _ (.tail _ (.tail _ (.head _))))
  · cases hp
theorem sub2b {hb h : Heap} {L D dx e t0 : Addr} {a d o c : Obj} (N : News hb L h [(D, a), (dx, d), (e, o), (t0, c)]) : News hb L h [(dx, d), (e, o)] := by
  intro p hp
  rcases List.mem_cons.mp hp with rfl | hp
  · exact N _ (.tail _ (.head _))
  rcases List.mem_cons.mp hp with rfl | hp
  · exact N _ (.tail _ (.tail _ (.head _)))
  · cases hp
theorem sub2c {hb h : Heap} {L dx e t0 : Addr} {d o c : Obj} (N : News hb L h [(dx, d), (e, o), (t0, c)]) : News hb L h [(dx, d), (e, o)] := by
  intro p hp
  rcases List.mem_cons.mp hp with rfl | hp
  · exact N _ (.head _)
  rcases List.mem_cons.mp hp with rfl | hp
  · exact N _ (.tail _ (.head _))
  · cases hp

/-- the words of the error -/
def peWords (msg : Str) (l : List Nat) (pos : Int) : Str :=
  if 10 ∈ l then words3 (words2 msg pos) (nlCount l pos.toNat + 1) (pos - nlLast l pos.toNat) else words2 msg pos
abbrev freshVs (t : Addr) : Array Value := #[.ref t, .none, .none, .none, .bool false, .none]
/-- a new exception, its attributes and its one argument -/
def ExcNew (h h' : Heap) (C e : Addr) (msg pat pos line col : Value) (words : Str) : Prop :=
  ∃ dx od mA t tw, h'.get? e = some ⟨.ref C, some dx, .fields (freshVs t), #[]⟩ ∧ h'.get? dx = some od ∧ h'.get? t = some (tupOf [.str words tw]) ∧ h.get? e = none ∧ h.get? dx = none ∧ h.get? t = none ∧
    AttrObj od mA ∧ mA "msg" = some msg ∧ mA "pattern" = some pat ∧ mA "pos" = some pos ∧ mA "lineno" = some line ∧ mA "colno" = some col
theorem pe_str {w : World} {dp un : Nat} {gd : Option (List Code)} {cn : Str} {cs : Scope} {a : Addr} {ccd : Value} {cl : List (Str × Addr)} {outer : List Env} {A₀ : Around} {base h₀ : Heap} {L : Addr} {m : Str → Option Value} {s : Shared} {Q E : Value → Shared → Prop}
  {mean : ExcName → Option Value} {mg mb : Str → Option Value} {msg pat : Str} {tm tp ti : Tok} {pos : Int}
  (B : Below A₀ base outer h₀) (F : Fr h₀ L s.heap m) (X : (hd.heap_39 w.params).In h₀) (T : Top hd.view_39 (looseW hd.view_39 [Str.ofString "PatternError"]) mean mg mb h₀) (hk : cs.kind = .function)
  (hdp : dp + 3 < recursionLimit) (hun : un + 20 < cLine) (hpos : 0 ≤ pos) (hpl : pos < 1000) (hlen : pat.length < 100000) (hml : msg.length < 100000)
  (ret : ∀ (e : Addr) (h' : Heap) (tk : Nat) (l c : Tok), s.heap.StaysIn h' → ExcNew s.heap h' 34 e (.str msg tm) (.str pat tp) (.int pos ti) (.int (nlCount pat.cps.toList pos.toNat + 1) l) (.int (pos - nlLast pat.cps.toList pos.toNat) c) (peWords msg pat.cps.toList pos) →
    Q (.ref e) { s with heap := h', toks := tk }) :
  wpAny (model PySem.Challenge.rw_dn0146_06.row.prog w) (ktrTop dp un gd cn cs L a ccd cl outer) (call (.ref 34) [.str msg tm, .str pat tp, .int pos ti]) Q E s := by
  revert X; k_fill; intro X
  have Xs := X.keeps F.keep
  obtain ⟨_, BG, _, _⟩ := groundX (A := ktrTop dp un gd cn cs L a ccd cl outer) (R := fun _ _ => True) (env := envX cn cs L a ccd cl) B F News.nil rfl rfl hk
  have Ts := T.keeps F.keep
  obtain ⟨nm, q, bs, sn, sub, ab, col, dd, k0, k1, k2, k3, k5, hk34⟩ := cls34 w.params
  obtain ⟨oI, hI, hIc⟩ := init31 w.params
  have hok := nsOk33 w.params
  have hC := Xs _ _ hk34
  have hN : s.heap.Ns 33 (s.heap.nsMap 33) := .of_isNs (isNs_of_in Xs hok)
  have hNi : s.heap.nsMap 33 "__init__" = some (.ref 31) := by
    obtain ⟨o, es, ep, ho, hd, _, hf⟩ := hN
    rw [← hf]
    have := Xs 33 _ rfl
    rw [ho] at this
    cases this
    cases hd
    rfl
  obtain ⟨hp, g, d, t, os⟩ := s
  dsimp only at *
  refine exc_make PySem.F.excBase_Exception (fI := 31) hC hN hNi (Xs _ _ hI) hIc (Nat.le_of_ble_eq_true rfl) ?_
  refine wpAny_call ?_
  have g1 : ((hp.push (tupOf [Value.str msg tm, Value.str pat tp, Value.int pos ti])).push (excO 34 hp.objs.size)).get? (hp.objs.size + 1) = some (excO 34 hp.objs.size) := by heap_get
  have g2 : ((hp.push (tupOf [Value.str msg tm, Value.str pat tp, Value.int pos ti])).push (excO 34 hp.objs.size)).get? hp.objs.size = some (tupOf [Value.str msg tm, Value.str pat tp, Value.int pos ti]) := Heap.get?_push_of_some _ (Heap.get?_push_at rfl rfl)
  have g3 : hp.StaysIn ((hp.push (tupOf [Value.str msg tm, Value.str pat tp, Value.int pos ti])).push (excO 34 hp.objs.size)) := fun b o e => Heap.get?_push_of_some _ (Heap.get?_push_of_some _ e)
  have g4 : hp.objs.size ≤ ((hp.push (tupOf [Value.str msg tm, Value.str pat tp, Value.int pos ti])).push (excO 34 hp.objs.size)).objs.size := by rw [Heap.size_push, Heap.size_push]; omega
  have g5 : hp.get? (hp.objs.size + 1) = none := Heap.get?_none_of_le (Nat.le_succ _)
  have g6 : hp.get? hp.objs.size = none := Heap.get?_none_of_le (Nat.le_refl _)
  generalize ((hp.push (tupOf [Value.str msg tm, Value.str pat tp, Value.int pos ti])).push (excO 34 hp.objs.size)) = hs at *
  have g7 : hp.objs.size < hp.objs.size + 1 := Nat.lt_succ_self _
  generalize hp.objs.size + 1 = e at *
  have BG' : Below (ktrTop dp un gd cn cs L a ccd cl outer) base (envX cn cs L a ccd cl :: outer) hp := BG
  clear BG
  have g8 := g4
  generalize ht0 : hp.objs.size = t0 at g1 g2 g5 g6 g7
  k_dflt (refine' enter_super (hb := hp) (news := [(e, excO 34 t0), (t0, tupOf [Value.str msg tm, Value.str pat tp, Value.int pos ti])]) ?k1 ?k2 ?k3 ?k4 ?k5 ?k6 ?k7 ?k8 ?k9 ?k10 ?_ ?c1 ?c2 ?c3 ?c4; (case k1 => exact g3); (case k2 => exact g4); (case k3 => exact Xs); (case k4 => exact Ts); (case k5 => (intro p hp; rcases List.mem_cons.mp hp with rfl | hp; exact ⟨g1, g5⟩; rcases List.mem_cons.mp hp with rfl | hp; exact ⟨g2, g6⟩; cases hp)); (case k6 => k_is); (case k7 => k_is); (case k8 => ktr_room); (case k9 => exact binds_K (binds := [(Str.ofString "self", Value.ref e), (Str.ofString "msg", Value.str msg tm), (Str.ofString "pattern", Value.str pat tp), (Str.ofString "pos", Value.int pos ti)]) (Xs.keeps g3) rfl (by k_is) rfl rfl rfl); (case k10 => exact locs rfl); (case c1 => decide); (case c2 => exact rfl); (case c3 => exact rfl); (case c4 => exact rfl); intro L' h' F' N' l1; (try k_lt l1); (try dsimp only))
  refine wpAt_snoc (pre := [_, _, _, _]) ?_
  k_steps
  all_goals (show Stop _; unfold Stop)
  all_goals (rename Fr _ _ _ _ => FF; rename News _ _ _ _ => NN; rename AttrObj _ _ => AA)
  all_goals subst_vars
  · refine super_tail' FF rfl rfl (sub2a NN) (by k_ne) Xs Ts fun t9 h9 tk9 st9 N9 => ?_
    exact ⟨rfl, ret e h9 tk9 _ _ st9 ⟨_, _, _, _, _, (N9 _ (.tail _ (.tail _ (.head _)))).1, (N9 _ (.tail _ (.head _))).1, (by unfold peWords; rw [if_pos (by assumption)]; exact (N9 _ (.head _)).1), (N9 _ (.tail _ (.tail _ (.head _)))).2.2, (N9 _ (.tail _ (.head _))).2.2, (N9 _ (.head _)).2.2, AA, rfl, rfl, rfl, rfl, rfl⟩⟩
  · refine super_tail' FF rfl rfl (sub2b NN) (by k_ne) Xs Ts fun t9 h9 tk9 st9 N9 => ?_
    exact ⟨rfl, ret e h9 tk9 _ _ st9 ⟨_, _, _, _, _, (N9 _ (.tail _ (.tail _ (.head _)))).1, (N9 _ (.tail _ (.head _))).1, (by unfold peWords; rw [if_neg (by assumption)]; exact (N9 _ (.head _)).1), (N9 _ (.tail _ (.tail _ (.head _)))).2.2, (N9 _ (.tail _ (.head _))).2.2, (N9 _ (.head _)).2.2, AA, rfl, rfl, rfl, rfl, rfl⟩⟩
end Mine
namespace Mine
theorem walk_none_Pe3_06 : True := by
  k_with_none
  trivial
end Mine
open PySem PySem.W PyProof.Rows PySem.Calls
namespace Mine

local macro_rules | `(tactic| k_inst) => `(tactic| exact instAt_exc (News.get (by k_asm) (by k_mem)) (News.get (by k_asm) (by k_mem)))
local macro_rules | `(tactic| walk_at "setAttr ref") => `(tactic| (k_here; k_dflt (first
  | (refine' kset0 ?k1 ?k2 ?k3 ?k4 ?k5 ?k6 ?k7 ?k8 ?k9 ?_; (case k1 => k_asm); (case k2 => k_asm); (case k3 => k_asm); (case k9 => k_updF); (case k4 => k_is); (case k5 => kernel_rfl); (case k6 => k_is); (case k7 => k_is); (case k8 => (rw [typeLookup_type, builtinLookup_eq_fast]; kernel_rfl)); k_whole; intro d' o' h' tk' F' N' At' l1; (try k_lt l1); (try dsimp only at N'); (try dsimp only at At'); (try k_sweep))
  | (refine' kset (ns := ["msg", "pattern", "pos", "lineno", "colno"]) ?k1 ?k2 ?k3 ?k4 ?k5 ?k6 ?k7 ?k8 ?k9 ?k10 ?k11 ?k12 ?k13 ?_; (case k1 => k_asm); (case k2 => k_asm); (case k3 => k_asm); (case k9 => k_mem); (case k4 => k_is); (case k5 => kernel_rfl); (case k6 => k_is); (case k7 => k_is); (case k8 => (rw [typeLookup_type, builtinLookup_eq_fast]; kernel_rfl)); (case k10 => k_updF); (case k11 => assumption); (case k12 => (intro y hy; by_cases e1 : y = "msg"; (simp [e1]); by_cases e2 : y = "pattern"; (simp [e2]); by_cases e3 : y = "pos"; (simp [e3]); by_cases e4 : y = "lineno"; (simp [e4]); by_cases e5 : y = "colno"; (simp [e5]); simp [e1, e2, e3, e4, e5] at hy)); (case k13 => decide); k_whole; intro o' h' tk' F' N' At'; (try dsimp only at N'); (try dsimp only at At'); (try k_sweep)))))
local macro_rules | `(tactic| walk_at "getAttr ref") => `(tactic| (k_here; k_dflt (refine' kget ?k1 ?k2 ?k3 ?k4 ?k5 ?k6 ?k7 ?k8 ?k9 ?k10 ?k11 ?k12 ?k13 ?_; (case k1 => k_asm); (case k2 => k_asm); (case k9 => exact News.get (by k_asm) (by k_mem)); (case k10 => exact News.get (by k_asm) (by k_mem)); (case k3 => k_is); (case k4 => kernel_rfl); (case k5 => k_is); (case k6 => k_is); (case k7 => k_is); (case k8 => (rw [typeLookup_type, builtinLookup_eq_fast]; kernel_rfl)); (case k11 => assumption); (case k12 => rfl); (case k13 => rfl); k_whole)))
local macro_rules | `(tactic| walk_at "getMethod ref") => `(tactic| (k_here; k_dflt (refine' ksup_method ?k1 ?k2 ?k3 ?k4 ?k5 ?k6 ?k7 ?k8 ?k9 ?_; (case k1 => k_asm); (case k2 => k_asm); (case k3 => k_asm); (case k6 => k_mem); (case k7 => k_mem); (case k4 => k_is); (case k5 => k_is); (case k8 => rfl); (case k9 => rfl); k_whole; intro mw' h' F' N' l1; (try k_lt l1); (try k_sweep))))
local macro_rules | `(tactic| walk_at "call ref") => `(tactic| (k_here; k_dflt (refine' kmw_call ?k1 ?k2 ?k3 ?k4 ?k5 ?k6 ?k7 ?_; (case k1 => k_asm); (case k2 => k_asm); (case k3 => k_asm); (case k5 => k_mem); (case k6 => k_updF); (case k4 => k_is); (case k7 => rfl); k_whole; intro t' h' F' N' l1; (try k_lt l1); (try dsimp only at N'); (try k_sweep))))
theorem walk_lines_2 : True := by
  k_with "callWith ref" => (k_here; k_dflt (refine' callWith_Mw (by k_asm) (by k_mem) ?_; k_whole))
  k_with "And" => ((with_reducible show MwP _ _ _ ∧ _); refine ⟨mwP (by k_asm) (by k_mem), ?_⟩; try dsimp only [List.nil_append, List.cons_append])
  k_with "call builtin:str.count" => (k_here; k_dflt (refine' scount_n (by assumption) ?_; k_whole; intro _ _ _ _))
  k_with "call builtin:str.rfind" => (k_here; k_dflt (refine' srfind_n (by assumption) ?_; k_whole; intro _ _ _ _))
  k_with "call builtin:bytes.count" => (k_here; k_dflt (refine' bcount_n (by assumption) ?_; k_whole; intro _ _ _ _))
  k_with "call builtin:bytes.rfind" => (k_here; k_dflt (refine' brfind_n (by assumption) ?_; k_whole; intro _ _ _ _))
  k_with "binaryOp Mod str ref" => (k_here; k_dflt (first
  | ((with_reducible show wpAny _ _ (binaryOp Operator.Mod (Value.str (PySem.Str.ofString "%s at position %d") _) _) _ _ _); refine' kfmt2 (by k_asm) (by k_mem) (by omega) (by omega) (by omega) ?_; k_whole; intro tf' kf')
  | ((with_reducible show wpAny _ _ (binaryOp Operator.Mod (Value.str (PySem.Str.ofString "%s (line %d, column %d)") _) _) _ _ _); refine' kfmt3 (by k_asm) (by k_mem) (by (refine Nat.le_trans (words2_len (by omega) (by omega)) ?_; omega)) (by omega) (by omega) (by omega) (by omega) ?_; k_whole; intro tf' kf')))
  k_with "compareOp In str str" => (k_here; k_dflt (refine' str_in ?_ ?_ <;> intro _))
  k_with "compareOp In bytes bytes" => (k_here; k_dflt (refine' kbytes_in (by k_asm) (by k_asm) (by rfl) ?_ ?_) <;> (intro _ _ _ _ _; (try k_sweep)))
  k_with "getMethod bytes" => (k_here; (with_reducible refine bm_count ?_))
  k_with "getMethod bytes" => (k_here; (with_reducible refine bm_rfind ?_))
  trivial
theorem pe_bytes {w : World} {dp un : Nat} {gd : Option (List Code)} {cn : Str} {cs : Scope} {a : Addr} {ccd : Value} {cl : List (Str × Addr)} {outer : List Env} {A₀ : Around} {base h₀ : Heap} {L : Addr} {m : Str → Option Value} {s : Shared} {Q E : Value → Shared → Prop}
  {mean : ExcName → Option Value} {mg mb : Str → Option Value} {msg : Str} {pat : Array UInt8} {tm tp ti : Tok} {pos : Int}
  (B : Below A₀ base outer h₀) (F : Fr h₀ L s.heap m) (X : (hd.heap_39 w.params).In h₀) (T : Top hd.view_39 (looseW hd.view_39 [Str.ofString "PatternError"]) mean mg mb h₀) (hk : cs.kind = .function)
  (hdp : dp + 3 < recursionLimit) (hun : un + 20 < cLine) (hpos : 0 ≤ pos) (hpl : pos < 1000) (hlen : pat.size < 100000) (hml : msg.length < 100000)
  (ret : ∀ (e : Addr) (h' : Heap) (tk : Nat) (l c : Tok), s.heap.StaysIn h' → ExcNew s.heap h' 34 e (.str msg tm) (.bytes pat tp) (.int pos ti) (.int (nlCount (codes pat) pos.toNat + 1) l) (.int (pos - nlLast (codes pat) pos.toNat) c) (peWords msg (codes pat) pos) →
    Q (.ref e) { s with heap := h', toks := tk }) :
  wpAny (model PySem.Challenge.rw_dn0146_06.row.prog w) (ktrTop dp un gd cn cs L a ccd cl outer) (call (.ref 34) [.str msg tm, .bytes pat tp, .int pos ti]) Q E s := by
  revert X; k_fill; intro X
  have Xs := X.keeps F.keep
  obtain ⟨_, BG, _, _⟩ := groundX (A := ktrTop dp un gd cn cs L a ccd cl outer) (R := fun _ _ => True) (env := envX cn cs L a ccd cl) B F News.nil rfl rfl hk
  have Ts := T.keeps F.keep
  obtain ⟨nm, q, bs, sn, sub, ab, col, dd, k0, k1, k2, k3, k5, hk34⟩ := cls34 w.params
  obtain ⟨oI, hI, hIc⟩ := init31 w.params
  have hok := nsOk33 w.params
  have hC := Xs _ _ hk34
  have hN : s.heap.Ns 33 (s.heap.nsMap 33) := .of_isNs (isNs_of_in Xs hok)
  have hNi : s.heap.nsMap 33 "__init__" = some (.ref 31) := by
    obtain ⟨o, es, ep, ho, hd, _, hf⟩ := hN
    rw [← hf]
    have := Xs 33 _ rfl
    rw [ho] at this
    cases this
    cases hd
    rfl
  obtain ⟨hp, g, d, t, os⟩ := s
  dsimp only at *
  refine exc_make PySem.F.excBase_Exception (fI := 31) hC hN hNi (Xs _ _ hI) hIc (Nat.le_of_ble_eq_true rfl) ?_
  refine wpAny_call ?_
  have g1 : ((hp.push (tupOf [Value.str msg tm, Value.bytes pat tp, Value.int pos ti])).push (excO 34 hp.objs.size)).get? (hp.objs.size + 1) = some (excO 34 hp.objs.size) := by heap_get
  have g2 : ((hp.push (tupOf [Value.str msg tm, Value.bytes pat tp, Value.int pos ti])).push (excO 34 hp.objs.size)).get? hp.objs.size = some (tupOf [Value.str msg tm, Value.bytes pat tp, Value.int pos ti]) := Heap.get?_push_of_some _ (Heap.get?_push_at rfl rfl)
  have g3 : hp.StaysIn ((hp.push (tupOf [Value.str msg tm, Value.bytes pat tp, Value.int pos ti])).push (excO 34 hp.objs.size)) := fun b o e => Heap.get?_push_of_some _ (Heap.get?_push_of_some _ e)
  have g4 : hp.objs.size ≤ ((hp.push (tupOf [Value.str msg tm, Value.bytes pat tp, Value.int pos ti])).push (excO 34 hp.objs.size)).objs.size := by rw [Heap.size_push, Heap.size_push]; omega
  have g5 : hp.get? (hp.objs.size + 1) = none := Heap.get?_none_of_le (Nat.le_succ _)
  have g6 : hp.get? hp.objs.size = none := Heap.get?_none_of_le (Nat.le_refl _)
  generalize ((hp.push (tupOf [Value.str msg tm, Value.bytes pat tp, Value.int pos ti])).push (excO 34 hp.objs.size)) = hs at *
  have g7 : hp.objs.size < hp.objs.size + 1 := Nat.lt_succ_self _
  generalize hp.objs.size + 1 = e at *
  have BG' : Below (ktrTop dp un gd cn cs L a ccd cl outer) base (envX cn cs L a ccd cl :: outer) hp := BG
  clear BG
  have g8 := g4
  generalize ht0 : hp.objs.size = t0 at g1 g2 g5 g6 g7
  k_dflt (refine' enter_super (hb := hp) (news := [(e, excO 34 t0), (t0, tupOf [Value.str msg tm, Value.bytes pat tp, Value.int pos ti])]) ?k1 ?k2 ?k3 ?k4 ?k5 ?k6 ?k7 ?k8 ?k9 ?k10 ?_ ?c1 ?c2 ?c3 ?c4; (case k1 => exact g3); (case k2 => exact g4); (case k3 => exact Xs); (case k4 => exact Ts); (case k5 => (intro p hp; rcases List.mem_cons.mp hp with rfl | hp; exact ⟨g1, g5⟩; rcases List.mem_cons.mp hp with rfl | hp; exact ⟨g2, g6⟩; cases hp)); (case k6 => k_is); (case k7 => k_is); (case k8 => ktr_room); (case k9 => exact binds_K (binds := [(Str.ofString "self", Value.ref e), (Str.ofString "msg", Value.str msg tm), (Str.ofString "pattern", Value.bytes pat tp), (Str.ofString "pos", Value.int pos ti)]) (Xs.keeps g3) rfl (by k_is) rfl rfl rfl); (case k10 => exact locs rfl); (case c1 => decide); (case c2 => exact rfl); (case c3 => exact rfl); (case c4 => exact rfl); intro L' h' F' N' l1; (try k_lt l1); (try dsimp only))
  refine wpAt_snoc (pre := [_, _, _, _]) ?_
  k_steps
  all_goals (show Stop _; unfold Stop)
  all_goals (rename Fr _ _ _ _ => FF; rename News _ _ _ _ => NN; rename AttrObj _ _ => AA)
  all_goals subst_vars
  · refine super_tail' FF rfl rfl (sub2a NN) (by k_ne) Xs Ts fun t9 h9 tk9 st9 N9 => ?_
    exact ⟨rfl, ret e h9 tk9 _ _ st9 ⟨_, _, _, _, _, (N9 _ (.tail _ (.tail _ (.head _)))).1, (N9 _ (.tail _ (.head _))).1, (by unfold peWords; rw [if_pos (by assumption)]; exact (N9 _ (.head _)).1), (N9 _ (.tail _ (.tail _ (.head _)))).2.2, (N9 _ (.tail _ (.head _))).2.2, (N9 _ (.head _)).2.2, AA, rfl, rfl, rfl, rfl, rfl⟩⟩
  · refine super_tail' FF rfl rfl (sub2b NN) (by k_ne) Xs Ts fun t9 h9 tk9 st9 N9 => ?_
    exact ⟨rfl, ret e h9 tk9 _ _ st9 ⟨_, _, _, _, _, (N9 _ (.tail _ (.tail _ (.head _)))).1, (N9 _ (.tail _ (.head _))).1, (by unfold peWords; rw [if_neg (by assumption)]; exact (N9 _ (.head _)).1), (N9 _ (.tail _ (.tail _ (.head _)))).2.2, (N9 _ (.tail _ (.head _))).2.2, (N9 _ (.head _)).2.2, AA, rfl, rfl, rfl, rfl, rfl⟩⟩
end Mine
namespace Mine
theorem walk_none_Pe4_06 : True := by
  k_with_none
  trivial
end Mine
open PySem PySem.W PyProof.Rows PySem.Calls
namespace Mine

local macro_rules | `(tactic| k_inst) => `(tactic| exact instAt_exc (News.get (by k_asm) (by k_mem)) (News.get (by k_asm) (by k_mem)))
local macro_rules | `(tactic| walk_at "setAttr ref") => `(tactic| (k_here; k_dflt (first
  | (refine' kset0 ?k1 ?k2 ?k3 ?k4 ?k5 ?k6 ?k7 ?k8 ?k9 ?_; (case k1 => k_asm); (case k2 => k_asm); (case k3 => k_asm); (case k9 => k_updF); (case k4 => k_is); (case k5 => kernel_rfl); (case k6 => k_is); (case k7 => k_is); (case k8 => (rw [typeLookup_type, builtinLookup_eq_fast]; kernel_rfl)); k_whole; intro d' o' h' tk' F' N' At' l1; (try k_lt l1); (try dsimp only at N'); (try dsimp only at At'); (try k_sweep))
  | (refine' kset (ns := ["msg", "pattern", "pos", "lineno", "colno"]) ?k1 ?k2 ?k3 ?k4 ?k5 ?k6 ?k7 ?k8 ?k9 ?k10 ?k11 ?k12 ?k13 ?_; (case k1 => k_asm); (case k2 => k_asm); (case k3 => k_asm); (case k9 => k_mem); (case k4 => k_is); (case k5 => kernel_rfl); (case k6 => k_is); (case k7 => k_is); (case k8 => (rw [typeLookup_type, builtinLookup_eq_fast]; kernel_rfl)); (case k10 => k_updF); (case k11 => assumption); (case k12 => (intro y hy; by_cases e1 : y = "msg"; (simp [e1]); by_cases e2 : y = "pattern"; (simp [e2]); by_cases e3 : y = "pos"; (simp [e3]); by_cases e4 : y = "lineno"; (simp [e4]); by_cases e5 : y = "colno"; (simp [e5]); simp [e1, e2, e3, e4, e5] at hy)); (case k13 => decide); k_whole; intro o' h' tk' F' N' At'; (try dsimp only at N'); (try dsimp only at At'); (try k_sweep)))))
local macro_rules | `(tactic| walk_at "getAttr ref") => `(tactic| (k_here; k_dflt (refine' kget ?k1 ?k2 ?k3 ?k4 ?k5 ?k6 ?k7 ?k8 ?k9 ?k10 ?k11 ?k12 ?k13 ?_; (case k1 => k_asm); (case k2 => k_asm); (case k9 => exact News.get (by k_asm) (by k_mem)); (case k10 => exact News.get (by k_asm) (by k_mem)); (case k3 => k_is); (case k4 => kernel_rfl); (case k5 => k_is); (case k6 => k_is); (case k7 => k_is); (case k8 => (rw [typeLookup_type, builtinLookup_eq_fast]; kernel_rfl)); (case k11 => assumption); (case k12 => rfl); (case k13 => rfl); k_whole)))
local macro_rules | `(tactic| walk_at "getMethod ref") => `(tactic| (k_here; k_dflt (refine' ksup_method ?k1 ?k2 ?k3 ?k4 ?k5 ?k6 ?k7 ?k8 ?k9 ?_; (case k1 => k_asm); (case k2 => k_asm); (case k3 => k_asm); (case k6 => k_mem); (case k7 => k_mem); (case k4 => k_is); (case k5 => k_is); (case k8 => rfl); (case k9 => rfl); k_whole; intro mw' h' F' N' l1; (try k_lt l1); (try k_sweep))))
local macro_rules | `(tactic| walk_at "call ref") => `(tactic| (k_here; k_dflt (refine' kmw_call ?k1 ?k2 ?k3 ?k4 ?k5 ?k6 ?k7 ?_; (case k1 => k_asm); (case k2 => k_asm); (case k3 => k_asm); (case k5 => k_mem); (case k6 => k_updF); (case k4 => k_is); (case k7 => rfl); k_whole; intro t' h' F' N' l1; (try k_lt l1); (try dsimp only at N'); (try k_sweep))))
theorem walk_lines_3 : True := by
  k_with "callWith ref" => (k_here; k_dflt (refine' callWith_Mw (by k_asm) (by k_mem) ?_; k_whole))
  k_with "And" => ((with_reducible show MwP _ _ _ ∧ _); refine ⟨mwP (by k_asm) (by k_mem), ?_⟩; try dsimp only [List.nil_append, List.cons_append])
  k_with "call builtin:str.count" => (k_here; k_dflt (refine' scount_n (by assumption) ?_; k_whole; intro _ _ _ _))
  k_with "call builtin:str.rfind" => (k_here; k_dflt (refine' srfind_n (by assumption) ?_; k_whole; intro _ _ _ _))
  k_with "call builtin:bytes.count" => (k_here; k_dflt (refine' bcount_n (by assumption) ?_; k_whole; intro _ _ _ _))
  k_with "call builtin:bytes.rfind" => (k_here; k_dflt (refine' brfind_n (by assumption) ?_; k_whole; intro _ _ _ _))
  k_with "binaryOp Mod str ref" => (k_here; k_dflt (first
  | ((with_reducible show wpAny _ _ (binaryOp Operator.Mod (Value.str (PySem.Str.ofString "%s at position %d") _) _) _ _ _); refine' kfmt2 (by k_asm) (by k_mem) (by omega) (by omega) (by omega) ?_; k_whole; intro tf' kf')
  | ((with_reducible show wpAny _ _ (binaryOp Operator.Mod (Value.str (PySem.Str.ofString "%s (line %d, column %d)") _) _) _ _ _); refine' kfmt3 (by k_asm) (by k_mem) (by (refine Nat.le_trans (words2_len (by omega) (by omega)) ?_; omega)) (by omega) (by omega) (by omega) (by omega) ?_; k_whole; intro tf' kf')))
  k_with "compareOp In str str" => (k_here; k_dflt (refine' str_in ?_ ?_ <;> intro _))
  k_with "compareOp In bytes bytes" => (k_here; k_dflt (refine' kbytes_in (by k_asm) (by k_asm) (by rfl) ?_ ?_) <;> (intro _ _ _ _ _; (try k_sweep)))
  trivial
theorem pe_n {w : World} {dp un : Nat} {gd : Option (List Code)} {cn : Str} {cs : Scope} {a : Addr} {ccd : Value} {cl : List (Str × Addr)} {outer : List Env} {A₀ : Around} {base h₀ : Heap} {L : Addr} {m : Str → Option Value} {s : Shared} {Q E : Value → Shared → Prop}
  {mean : ExcName → Option Value} {mg mb : Str → Option Value} {msg : Str} {pos : Int} {tm ti : Tok}
  (B : Below A₀ base outer h₀) (F : Fr h₀ L s.heap m) (X : (hd.heap_39 w.params).In h₀) (T : Top hd.view_39 (looseW hd.view_39 [Str.ofString "PatternError"]) mean mg mb h₀) (hk : cs.kind = .function)
  (hdp : dp + 3 < recursionLimit) (hun : un + 20 < cLine)
  (ret : ∀ (e : Addr) (h' : Heap) (tk : Nat), s.heap.StaysIn h' → ExcNew s.heap h' 34 e (.str msg tm) (Value.none) (Value.int pos ti) .none .none msg →
    Q (.ref e) { s with heap := h', toks := tk }) :
  wpAny (model PySem.Challenge.rw_dn0146_06.row.prog w) (ktrTop dp un gd cn cs L a ccd cl outer) (call (.ref 34) [Value.str msg tm, Value.none, Value.int pos ti] ) Q E s := by
  revert X; k_fill; intro X
  have Xs := X.keeps F.keep
  obtain ⟨_, BG, _, _⟩ := groundX (A := ktrTop dp un gd cn cs L a ccd cl outer) (R := fun _ _ => True) (env := envX cn cs L a ccd cl) B F News.nil rfl rfl hk
  have Ts := T.keeps F.keep
  obtain ⟨nm, q, bs, sn, sub, ab, col, dd, k0, k1, k2, k3, k5, hk34⟩ := cls34 w.params
  obtain ⟨oI, hI, hIc⟩ := init31 w.params
  have hok := nsOk33 w.params
  have hC := Xs _ _ hk34
  have hN : s.heap.Ns 33 (s.heap.nsMap 33) := .of_isNs (isNs_of_in Xs hok)
  have hNi : s.heap.nsMap 33 "__init__" = some (.ref 31) := by
    obtain ⟨o, es, ep, ho, hd, _, hf⟩ := hN
    rw [← hf]
    have := Xs 33 _ rfl
    rw [ho] at this
    cases this
    cases hd
    rfl
  obtain ⟨hp, g, d, t, os⟩ := s
  dsimp only at *
  refine exc_make PySem.F.excBase_Exception (fI := 31) hC hN hNi (Xs _ _ hI) hIc (Nat.le_of_ble_eq_true rfl) ?_
  refine wpAny_call ?_
  have g1 : ((hp.push (tupOf [Value.str msg tm, Value.none, Value.int pos ti])).push (excO 34 hp.objs.size)).get? (hp.objs.size + 1) = some (excO 34 hp.objs.size) := by heap_get
  have g2 : ((hp.push (tupOf [Value.str msg tm, Value.none, Value.int pos ti])).push (excO 34 hp.objs.size)).get? hp.objs.size = some (tupOf [Value.str msg tm, Value.none, Value.int pos ti]) := Heap.get?_push_of_some _ (Heap.get?_push_at rfl rfl)
  have g3 : hp.StaysIn ((hp.push (tupOf [Value.str msg tm, Value.none, Value.int pos ti])).push (excO 34 hp.objs.size)) := fun b o e => Heap.get?_push_of_some _ (Heap.get?_push_of_some _ e)
  have g4 : hp.objs.size ≤ ((hp.push (tupOf [Value.str msg tm, Value.none, Value.int pos ti])).push (excO 34 hp.objs.size)).objs.size := by rw [Heap.size_push, Heap.size_push]; omega
  have g5 : hp.get? (hp.objs.size + 1) = none := Heap.get?_none_of_le (Nat.le_succ _)
  have g6 : hp.get? hp.objs.size = none := Heap.get?_none_of_le (Nat.le_refl _)
  generalize ((hp.push (tupOf [Value.str msg tm, Value.none, Value.int pos ti])).push (excO 34 hp.objs.size)) = hs at *
  have g7 : hp.objs.size < hp.objs.size + 1 := Nat.lt_succ_self _
  generalize hp.objs.size + 1 = e at *
  have BG' : Below (ktrTop dp un gd cn cs L a ccd cl outer) base (envX cn cs L a ccd cl :: outer) hp := BG
  clear BG
  have g8 := g4
  generalize ht0 : hp.objs.size = t0 at g1 g2 g5 g6 g7
  k_dflt (refine' enter_super (hb := hp) (news := [(e, excO 34 t0), (t0, tupOf [Value.str msg tm, Value.none, Value.int pos ti])]) ?k1 ?k2 ?k3 ?k4 ?k5 ?k6 ?k7 ?k8 ?k9 ?k10 ?_ ?c1 ?c2 ?c3 ?c4; (case k1 => exact g3); (case k2 => exact g4); (case k3 => exact Xs); (case k4 => exact Ts); (case k5 => (intro p hp; rcases List.mem_cons.mp hp with rfl | hp; exact ⟨g1, g5⟩; rcases List.mem_cons.mp hp with rfl | hp; exact ⟨g2, g6⟩; cases hp)); (case k6 => k_is); (case k7 => k_is); (case k8 => ktr_room); (case k9 => exact binds_K (binds := [(Str.ofString "self", Value.ref e), (Str.ofString "msg", Value.str msg tm), (Str.ofString "pattern", Value.none), (Str.ofString "pos", Value.int pos ti)]) (Xs.keeps g3) rfl (by k_is) rfl rfl rfl); (case k10 => exact locs rfl); (case c1 => decide); (case c2 => exact rfl); (case c3 => exact rfl); (case c4 => exact rfl); intro L' h' F' N' l1; (try k_lt l1); (try dsimp only))
  refine wpAt_snoc (pre := [_, _, _, _]) ?_
  k_steps
  all_goals (show Stop _; unfold Stop)
  all_goals (rename Fr _ _ _ _ => FF; rename News _ _ _ _ => NN; rename AttrObj _ _ => AA)
  all_goals subst_vars
  · refine super_tail' FF rfl rfl (sub2c NN) (by k_ne) Xs Ts fun t9 h9 tk9 st9 N9 => ?_
    exact ⟨rfl, ret e h9 tk9 st9 ⟨_, _, _, _, _, (N9 _ (.tail _ (.tail _ (.head _)))).1, (N9 _ (.tail _ (.head _))).1, (N9 _ (.head _)).1, (N9 _ (.tail _ (.tail _ (.head _)))).2.2, (N9 _ (.tail _ (.head _))).2.2, (N9 _ (.head _)).2.2, AA, rfl, rfl, rfl, rfl, rfl⟩⟩
theorem pe_sn {w : World} {dp un : Nat} {gd : Option (List Code)} {cn : Str} {cs : Scope} {a : Addr} {ccd : Value} {cl : List (Str × Addr)} {outer : List Env} {A₀ : Around} {base h₀ : Heap} {L : Addr} {m : Str → Option Value} {s : Shared} {Q E : Value → Shared → Prop}
  {mean : ExcName → Option Value} {mg mb : Str → Option Value} {msg pat : Str} {tm tp : Tok}
  (B : Below A₀ base outer h₀) (F : Fr h₀ L s.heap m) (X : (hd.heap_39 w.params).In h₀) (T : Top hd.view_39 (looseW hd.view_39 [Str.ofString "PatternError"]) mean mg mb h₀) (hk : cs.kind = .function)
  (hdp : dp + 3 < recursionLimit) (hun : un + 20 < cLine)
  (ret : ∀ (e : Addr) (h' : Heap) (tk : Nat), s.heap.StaysIn h' → ExcNew s.heap h' 34 e (.str msg tm) (Value.str pat tp) (Value.none) .none .none msg →
    Q (.ref e) { s with heap := h', toks := tk }) :
  wpAny (model PySem.Challenge.rw_dn0146_06.row.prog w) (ktrTop dp un gd cn cs L a ccd cl outer) (call (.ref 34) [Value.str msg tm, Value.str pat tp, Value.none] ) Q E s := by
  revert X; k_fill; intro X
  have Xs := X.keeps F.keep
  obtain ⟨_, BG, _, _⟩ := groundX (A := ktrTop dp un gd cn cs L a ccd cl outer) (R := fun _ _ => True) (env := envX cn cs L a ccd cl) B F News.nil rfl rfl hk
  have Ts := T.keeps F.keep
  obtain ⟨nm, q, bs, sn, sub, ab, col, dd, k0, k1, k2, k3, k5, hk34⟩ := cls34 w.params
  obtain ⟨oI, hI, hIc⟩ := init31 w.params
  have hok := nsOk33 w.params
  have hC := Xs _ _ hk34
  have hN : s.heap.Ns 33 (s.heap.nsMap 33) := .of_isNs (isNs_of_in Xs hok)
  have hNi : s.heap.nsMap 33 "__init__" = some (.ref 31) := by
    obtain ⟨o, es, ep, ho, hd, _, hf⟩ := hN
    rw [← hf]
    have := Xs 33 _ rfl
    rw [ho] at this
    cases this
    cases hd
    rfl
  obtain ⟨hp, g, d, t, os⟩ := s
  dsimp only at *
  refine exc_make PySem.F.excBase_Exception (fI := 31) hC hN hNi (Xs _ _ hI) hIc (Nat.le_of_ble_eq_true rfl) ?_
  refine wpAny_call ?_
  have g1 : ((hp.push (tupOf [Value.str msg tm, Value.str pat tp, Value.none])).push (excO 34 hp.objs.size)).get? (hp.objs.size + 1) = some (excO 34 hp.objs.size) := by heap_get
  have g2 : ((hp.push (tupOf [Value.str msg tm, Value.str pat tp, Value.none])).push (excO 34 hp.objs.size)).get? hp.objs.size = some (tupOf [Value.str msg tm, Value.str pat tp, Value.none]) := Heap.get?_push_of_some _ (Heap.get?_push_at rfl rfl)
  have g3 : hp.StaysIn ((hp.push (tupOf [Value.str msg tm, Value.str pat tp, Value.none])).push (excO 34 hp.objs.size)) := fun b o e => Heap.get?_push_of_some _ (Heap.get?_push_of_some _ e)
  have g4 : hp.objs.size ≤ ((hp.push (tupOf [Value.str msg tm, Value.str pat tp, Value.none])).push (excO 34 hp.objs.size)).objs.size := by rw [Heap.size_push, Heap.size_push]; omega
  have g5 : hp.get? (hp.objs.size + 1) = none := Heap.get?_none_of_le (Nat.le_succ _)
  have g6 : hp.get? hp.objs.size = none := Heap.get?_none_of_le (Nat.le_refl _)
  generalize ((hp.push (tupOf [Value.str msg tm, Value.str pat tp, Value.none])).push (excO 34 hp.objs.size)) = hs at *
  have g7 : hp.objs.size < hp.objs.size + 1 := Nat.lt_succ_self _
  generalize hp.objs.size + 1 = e at *
  have BG' : Below (ktrTop dp un gd cn cs L a ccd cl outer) base (envX cn cs L a ccd cl :: outer) hp := BG
  clear BG
  have g8 := g4
  generalize ht0 : hp.objs.size = t0 at g1 g2 g5 g6 g7
  k_dflt (refine' enter_super (hb := hp) (news := [(e, excO 34 t0), (t0, tupOf [Value.str msg tm, Value.str pat tp, Value.none])]) ?k1 ?k2 ?k3 ?k4 ?k5 ?k6 ?k7 ?k8 ?k9 ?k10 ?_ ?c1 ?c2 ?c3 ?c4; (case k1 => exact g3); (case k2 => exact g4); (case k3 => exact Xs); (case k4 => exact Ts); (case k5 => (intro p hp; rcases List.mem_cons.mp hp with rfl | hp; exact ⟨g1, g5⟩; rcases List.mem_cons.mp hp with rfl | hp; exact ⟨g2, g6⟩; cases hp)); (case k6 => k_is); (case k7 => k_is); (case k8 => ktr_room); (case k9 => exact binds_K (binds := [(Str.ofString "self", Value.ref e), (Str.ofString "msg", Value.str msg tm), (Str.ofString "pattern", Value.str pat tp), (Str.ofString "pos", Value.none)]) (Xs.keeps g3) rfl (by k_is) rfl rfl rfl); (case k10 => exact locs rfl); (case c1 => decide); (case c2 => exact rfl); (case c3 => exact rfl); (case c4 => exact rfl); intro L' h' F' N' l1; (try k_lt l1); (try dsimp only))
  refine wpAt_snoc (pre := [_, _, _, _]) ?_
  k_steps
  all_goals (show Stop _; unfold Stop)
  all_goals (rename Fr _ _ _ _ => FF; rename News _ _ _ _ => NN; rename AttrObj _ _ => AA)
  all_goals subst_vars
  · refine super_tail' FF rfl rfl (sub2c NN) (by k_ne) Xs Ts fun t9 h9 tk9 st9 N9 => ?_
    exact ⟨rfl, ret e h9 tk9 st9 ⟨_, _, _, _, _, (N9 _ (.tail _ (.tail _ (.head _)))).1, (N9 _ (.tail _ (.head _))).1, (N9 _ (.head _)).1, (N9 _ (.tail _ (.tail _ (.head _)))).2.2, (N9 _ (.tail _ (.head _))).2.2, (N9 _ (.head _)).2.2, AA, rfl, rfl, rfl, rfl, rfl⟩⟩
theorem pe_bn {w : World} {dp un : Nat} {gd : Option (List Code)} {cn : Str} {cs : Scope} {a : Addr} {ccd : Value} {cl : List (Str × Addr)} {outer : List Env} {A₀ : Around} {base h₀ : Heap} {L : Addr} {m : Str → Option Value} {s : Shared} {Q E : Value → Shared → Prop}
  {mean : ExcName → Option Value} {mg mb : Str → Option Value} {msg : Str} {pat : Array UInt8} {tm tp : Tok}
  (B : Below A₀ base outer h₀) (F : Fr h₀ L s.heap m) (X : (hd.heap_39 w.params).In h₀) (T : Top hd.view_39 (looseW hd.view_39 [Str.ofString "PatternError"]) mean mg mb h₀) (hk : cs.kind = .function)
  (hdp : dp + 3 < recursionLimit) (hun : un + 20 < cLine)
  (ret : ∀ (e : Addr) (h' : Heap) (tk : Nat), s.heap.StaysIn h' → ExcNew s.heap h' 34 e (.str msg tm) (Value.bytes pat tp) (Value.none) .none .none msg →
    Q (.ref e) { s with heap := h', toks := tk }) :
  wpAny (model PySem.Challenge.rw_dn0146_06.row.prog w) (ktrTop dp un gd cn cs L a ccd cl outer) (call (.ref 34) [Value.str msg tm, Value.bytes pat tp, Value.none] ) Q E s := by
  revert X; k_fill; intro X
  have Xs := X.keeps F.keep
  obtain ⟨_, BG, _, _⟩ := groundX (A := ktrTop dp un gd cn cs L a ccd cl outer) (R := fun _ _ => True) (env := envX cn cs L a ccd cl) B F News.nil rfl rfl hk
  have Ts := T.keeps F.keep
  obtain ⟨nm, q, bs, sn, sub, ab, col, dd, k0, k1, k2, k3, k5, hk34⟩ := cls34 w.params
  obtain ⟨oI, hI, hIc⟩ := init31 w.params
  have hok := nsOk33 w.params
  have hC := Xs _ _ hk34
  have hN : s.heap.Ns 33 (s.heap.nsMap 33) := .of_isNs (isNs_of_in Xs hok)
  have hNi : s.heap.nsMap 33 "__init__" = some (.ref 31) := by
    obtain ⟨o, es, ep, ho, hd, _, hf⟩ := hN
    rw [← hf]
    have := Xs 33 _ rfl
    rw [ho] at this
    cases this
    cases hd
    rfl
  obtain ⟨hp, g, d, t, os⟩ := s
  dsimp only at *
  refine exc_make PySem.F.excBase_Exception (fI := 31) hC hN hNi (Xs _ _ hI) hIc (Nat.le_of_ble_eq_true rfl) ?_
  refine wpAny_call ?_
  have g1 : ((hp.push (tupOf [Value.str msg tm, Value.bytes pat tp, Value.none])).push (excO 34 hp.objs.size)).get? (hp.objs.size + 1) = some (excO 34 hp.objs.size) := by heap_get
  have g2 : ((hp.push (tupOf [Value.str msg tm, Value.bytes pat tp, Value.none])).push (excO 34 hp.objs.size)).get? hp.objs.size = some (tupOf [Value.str msg tm, Value.bytes pat tp, Value.none]) := Heap.get?_push_of_some _ (Heap.get?_push_at rfl rfl)
  have g3 : hp.StaysIn ((hp.push (tupOf [Value.str msg tm, Value.bytes pat tp, Value.none])).push (excO 34 hp.objs.size)) := fun b o e => Heap.get?_push_of_some _ (Heap.get?_push_of_some _ e)
  have g4 : hp.objs.size ≤ ((hp.push (tupOf [Value.str msg tm, Value.bytes pat tp, Value.none])).push (excO 34 hp.objs.size)).objs.size := by rw [Heap.size_push, Heap.size_push]; omega
  have g5 : hp.get? (hp.objs.size + 1) = none := Heap.get?_none_of_le (Nat.le_succ _)
  have g6 : hp.get? hp.objs.size = none := Heap.get?_none_of_le (Nat.le_refl _)
  generalize ((hp.push (tupOf [Value.str msg tm, Value.bytes pat tp, Value.none])).push (excO 34 hp.objs.size)) = hs at *
  have g7 : hp.objs.size < hp.objs.size + 1 := Nat.lt_succ_self _
  generalize hp.objs.size + 1 = e at *
  have BG' : Below (ktrTop dp un gd cn cs L a ccd cl outer) base (envX cn cs L a ccd cl :: outer) hp := BG
  clear BG
  have g8 := g4
  generalize ht0 : hp.objs.size = t0 at g1 g2 g5 g6 g7
  k_dflt (refine' enter_super (hb := hp) (news := [(e, excO 34 t0), (t0, tupOf [Value.str msg tm, Value.bytes pat tp, Value.none])]) ?k1 ?k2 ?k3 ?k4 ?k5 ?k6 ?k7 ?k8 ?k9 ?k10 ?_ ?c1 ?c2 ?c3 ?c4; (case k1 => exact g3); (case k2 => exact g4); (case k3 => exact Xs); (case k4 => exact Ts); (case k5 => (intro p hp; rcases List.mem_cons.mp hp with rfl | hp; exact ⟨g1, g5⟩; rcases List.mem_cons.mp hp with rfl | hp; exact ⟨g2, g6⟩; cases hp)); (case k6 => k_is); (case k7 => k_is); (case k8 => ktr_room); (case k9 => exact binds_K (binds := [(Str.ofString "self", Value.ref e), (Str.ofString "msg", Value.str msg tm), (Str.ofString "pattern", Value.bytes pat tp), (Str.ofString "pos", Value.none)]) (Xs.keeps g3) rfl (by k_is) rfl rfl rfl); (case k10 => exact locs rfl); (case c1 => decide); (case c2 => exact rfl); (case c3 => exact rfl); (case c4 => exact rfl); intro L' h' F' N' l1; (try k_lt l1); (try dsimp only))
  refine wpAt_snoc (pre := [_, _, _, _]) ?_
  k_steps
  all_goals (show Stop _; unfold Stop)
  all_goals (rename Fr _ _ _ _ => FF; rename News _ _ _ _ => NN; rename AttrObj _ _ => AA)
  all_goals subst_vars
  · refine super_tail' FF rfl rfl (sub2c NN) (by k_ne) Xs Ts fun t9 h9 tk9 st9 N9 => ?_
    exact ⟨rfl, ret e h9 tk9 st9 ⟨_, _, _, _, _, (N9 _ (.tail _ (.tail _ (.head _)))).1, (N9 _ (.tail _ (.head _))).1, (N9 _ (.head _)).1, (N9 _ (.tail _ (.tail _ (.head _)))).2.2, (N9 _ (.tail _ (.head _))).2.2, (N9 _ (.head _)).2.2, AA, rfl, rfl, rfl, rfl, rfl⟩⟩
theorem fresh_entry {h₀ h : Heap} {L b : Addr} {m : Str → Option Value} (F : Fr h₀ L h m) (n : h.get? b = none) : b ≠ L ∧ h₀.get? b = none := by
  constructor
  · intro q
    obtain ⟨o, _, _, ho, _⟩ := F.ns
    rw [q, ho] at n; cases n
  · cases q : h₀.get? b with
    | none => rfl
    | some o => rw [F.keep _ _ q] at n; cases n
theorem one {h₀ h h' : Heap} {L e : Addr} {m : Str → Option Value} {news : List (Addr × Obj)} {o1 : Obj} (F : Fr h₀ L h m) (N : News h₀ L h' news)
    (g1 : h'.get? e = some o1) (n1 : h.get? e = none) : News h₀ L h' ((e, o1) :: news) := by
  intro p hp
  rcases List.mem_cons.mp hp with rfl | hp
  · exact ⟨g1, fresh_entry F n1⟩
  · exact N p hp
theorem three {h₀ h h' : Heap} {L e d t : Addr} {m : Str → Option Value} {news : List (Addr × Obj)} {o1 o2 o3 : Obj} (F : Fr h₀ L h m) (N : News h₀ L h news) (st : h.StaysIn h')
    (g1 : h'.get? e = some o1) (g2 : h'.get? d = some o2) (g3 : h'.get? t = some o3) (n1 : h.get? e = none) (n2 : h.get? d = none) (n3 : h.get? t = none) : News h₀ L h' ((e, o1) :: (d, o2) :: (t, o3) :: news) :=
  one F (one F (one F (fun p hp => ⟨st _ _ (N p hp).1, (N p hp).2⟩) g3 n3) g2 n2) g1 n1
theorem pe_strK {w : World} {dp un : Nat} {gd : Option (List Code)} {cn : Str} {cs : Scope} {a : Addr} {ccd : Value} {cl : List (Str × Addr)} {outer : List Env} {A₀ : Around} {base h₀ : Heap} {L : Addr} {m : Str → Option Value} {s : Shared} {Q E : Value → Shared → Prop}
  {mean : ExcName → Option Value} {mg mb : Str → Option Value} {news : List (Addr × Obj)} {msg pat : Str} {tm tp ti : Tok} {pos : Int}
  (B : Below A₀ base outer h₀) (F : Fr h₀ L s.heap m) (N : News h₀ L s.heap news) (X : (hd.heap_39 w.params).In h₀) (T : Top hd.view_39 (looseW hd.view_39 [Str.ofString "PatternError"]) mean mg mb h₀) (hk : cs.kind = .function)
  (hdp : dp + 3 < recursionLimit) (hun : un + 20 < cLine) (hpos : 0 ≤ pos) (hpl : pos < 1000) (hlen : pat.length < 100000) (hml : msg.length < 100000)
  (ret : ∀ (e dx : Addr) (od : Obj) (mA : Str → Option Value) (t : Addr) (tw : Tok) (l c : Tok) (h' : Heap) (tk : Nat), Fr h₀ L h' m → News h₀ L h' ((e, excD 34 dx t) :: (dx, od) :: (t, tupOf [.str (peWords msg pat.cps.toList pos) tw]) :: news) → AttrObj od mA →
    mA "msg" = some (.str msg tm) → mA "pattern" = some (.str pat tp) → mA "pos" = some (.int pos ti) → mA "lineno" = some (.int (nlCount pat.cps.toList pos.toNat + 1) l) → mA "colno" = some (.int (pos - nlLast pat.cps.toList pos.toNat) c) → (∀ p ∈ news, p.1 ≠ e) → (∀ p ∈ news, p.1 ≠ dx) → (∀ p ∈ news, p.1 ≠ t) → dx ≠ e → t ≠ e → Q (.ref e) { s with heap := h', toks := tk }) :
  wpAny (model PySem.Challenge.rw_dn0146_06.row.prog w) (ktrTop dp un gd cn cs L a ccd cl outer) (call (.ref 34) [.str msg tm, .str pat tp, .int pos ti]) Q E s :=
  pe_str B F X T hk hdp hun hpos hpl hlen hml fun e h' tk l c st w => by
    obtain ⟨dx, od, mA, t, tw, g1, g2, g3, n1, n2, n3, AA, f1, f2, f3, f4, f5⟩ := w
    exact ret e dx od mA t tw l c h' tk (F.grownK st) (three F N st g1 g2 g3 n1 n2 n3) AA f1 f2 f3 f4 f5 (fun p hp q => by have := (N p hp).1; rw [q, n1] at this; cases this) (fun p hp q => by have := (N p hp).1; rw [q, n2] at this; cases this) (fun p hp q => by have := (N p hp).1; rw [q, n3] at this; cases this)
      (fun q => by rw [q, g1] at g2; cases g2; obtain ⟨_, _, hd, _⟩ := AA; cases hd) (fun q => by rw [q, g1] at g3; cases g3)
theorem pe_bytesK {w : World} {dp un : Nat} {gd : Option (List Code)} {cn : Str} {cs : Scope} {a : Addr} {ccd : Value} {cl : List (Str × Addr)} {outer : List Env} {A₀ : Around} {base h₀ : Heap} {L : Addr} {m : Str → Option Value} {s : Shared} {Q E : Value → Shared → Prop}
  {mean : ExcName → Option Value} {mg mb : Str → Option Value} {news : List (Addr × Obj)} {msg : Str} {pat : Array UInt8} {tm tp ti : Tok} {pos : Int}
  (B : Below A₀ base outer h₀) (F : Fr h₀ L s.heap m) (N : News h₀ L s.heap news) (X : (hd.heap_39 w.params).In h₀) (T : Top hd.view_39 (looseW hd.view_39 [Str.ofString "PatternError"]) mean mg mb h₀) (hk : cs.kind = .function)
  (hdp : dp + 3 < recursionLimit) (hun : un + 20 < cLine) (hpos : 0 ≤ pos) (hpl : pos < 1000) (hlen : pat.size < 100000) (hml : msg.length < 100000)
  (ret : ∀ (e dx : Addr) (od : Obj) (mA : Str → Option Value) (t : Addr) (tw : Tok) (l c : Tok) (h' : Heap) (tk : Nat), Fr h₀ L h' m → News h₀ L h' ((e, excD 34 dx t) :: (dx, od) :: (t, tupOf [.str (peWords msg (codes pat) pos) tw]) :: news) → AttrObj od mA →
    mA "msg" = some (.str msg tm) → mA "pattern" = some (.bytes pat tp) → mA "pos" = some (.int pos ti) → mA "lineno" = some (.int (nlCount (codes pat) pos.toNat + 1) l) → mA "colno" = some (.int (pos - nlLast (codes pat) pos.toNat) c) → (∀ p ∈ news, p.1 ≠ e) → (∀ p ∈ news, p.1 ≠ dx) → (∀ p ∈ news, p.1 ≠ t) → dx ≠ e → t ≠ e → Q (.ref e) { s with heap := h', toks := tk }) :
  wpAny (model PySem.Challenge.rw_dn0146_06.row.prog w) (ktrTop dp un gd cn cs L a ccd cl outer) (call (.ref 34) [.str msg tm, .bytes pat tp, .int pos ti]) Q E s :=
  pe_bytes B F X T hk hdp hun hpos hpl hlen hml fun e h' tk l c st w => by
    obtain ⟨dx, od, mA, t, tw, g1, g2, g3, n1, n2, n3, AA, f1, f2, f3, f4, f5⟩ := w
    exact ret e dx od mA t tw l c h' tk (F.grownK st) (three F N st g1 g2 g3 n1 n2 n3) AA f1 f2 f3 f4 f5 (fun p hp q => by have := (N p hp).1; rw [q, n1] at this; cases this) (fun p hp q => by have := (N p hp).1; rw [q, n2] at this; cases this) (fun p hp q => by have := (N p hp).1; rw [q, n3] at this; cases this)
      (fun q => by rw [q, g1] at g2; cases g2; obtain ⟨_, _, hd, _⟩ := AA; cases hd) (fun q => by rw [q, g1] at g3; cases g3)
theorem pe_snK {w : World} {dp un : Nat} {gd : Option (List Code)} {cn : Str} {cs : Scope} {a : Addr} {ccd : Value} {cl : List (Str × Addr)} {outer : List Env} {A₀ : Around} {base h₀ : Heap} {L : Addr} {m : Str → Option Value} {s : Shared} {Q E : Value → Shared → Prop}
  {mean : ExcName → Option Value} {mg mb : Str → Option Value} {news : List (Addr × Obj)} {msg pat : Str} {tm tp : Tok}
  (B : Below A₀ base outer h₀) (F : Fr h₀ L s.heap m) (N : News h₀ L s.heap news) (X : (hd.heap_39 w.params).In h₀) (T : Top hd.view_39 (looseW hd.view_39 [Str.ofString "PatternError"]) mean mg mb h₀) (hk : cs.kind = .function)
  (hdp : dp + 3 < recursionLimit) (hun : un + 20 < cLine) 
  (ret : ∀ (e dx : Addr) (od : Obj) (mA : Str → Option Value) (t : Addr) (tw : Tok) (h' : Heap) (tk : Nat), Fr h₀ L h' m → News h₀ L h' ((e, excD 34 dx t) :: (dx, od) :: (t, tupOf [.str (msg) tw]) :: news) → AttrObj od mA →
    mA "msg" = some (.str msg tm) → mA "pattern" = some (.str pat tp) → mA "pos" = some .none → mA "lineno" = some .none → mA "colno" = some .none → (∀ p ∈ news, p.1 ≠ e) → (∀ p ∈ news, p.1 ≠ dx) → (∀ p ∈ news, p.1 ≠ t) → dx ≠ e → t ≠ e → Q (.ref e) { s with heap := h', toks := tk }) :
  wpAny (model PySem.Challenge.rw_dn0146_06.row.prog w) (ktrTop dp un gd cn cs L a ccd cl outer) (call (.ref 34) [.str msg tm, .str pat tp, .none]) Q E s :=
  pe_sn B F X T hk hdp hun  fun e h' tk st w => by
    obtain ⟨dx, od, mA, t, tw, g1, g2, g3, n1, n2, n3, AA, f1, f2, f3, f4, f5⟩ := w
    exact ret e dx od mA t tw h' tk (F.grownK st) (three F N st g1 g2 g3 n1 n2 n3) AA f1 f2 f3 f4 f5 (fun p hp q => by have := (N p hp).1; rw [q, n1] at this; cases this) (fun p hp q => by have := (N p hp).1; rw [q, n2] at this; cases this) (fun p hp q => by have := (N p hp).1; rw [q, n3] at this; cases this)
      (fun q => by rw [q, g1] at g2; cases g2; obtain ⟨_, _, hd, _⟩ := AA; cases hd) (fun q => by rw [q, g1] at g3; cases g3)
theorem pe_bnK {w : World} {dp un : Nat} {gd : Option (List Code)} {cn : Str} {cs : Scope} {a : Addr} {ccd : Value} {cl : List (Str × Addr)} {outer : List Env} {A₀ : Around} {base h₀ : Heap} {L : Addr} {m : Str → Option Value} {s : Shared} {Q E : Value → Shared → Prop}
  {mean : ExcName → Option Value} {mg mb : Str → Option Value} {news : List (Addr × Obj)} {msg : Str} {pat : Array UInt8} {tm tp : Tok}
  (B : Below A₀ base outer h₀) (F : Fr h₀ L s.heap m) (N : News h₀ L s.heap news) (X : (hd.heap_39 w.params).In h₀) (T : Top hd.view_39 (looseW hd.view_39 [Str.ofString "PatternError"]) mean mg mb h₀) (hk : cs.kind = .function)
  (hdp : dp + 3 < recursionLimit) (hun : un + 20 < cLine) 
  (ret : ∀ (e dx : Addr) (od : Obj) (mA : Str → Option Value) (t : Addr) (tw : Tok) (h' : Heap) (tk : Nat), Fr h₀ L h' m → News h₀ L h' ((e, excD 34 dx t) :: (dx, od) :: (t, tupOf [.str (msg) tw]) :: news) → AttrObj od mA →
    mA "msg" = some (.str msg tm) → mA "pattern" = some (.bytes pat tp) → mA "pos" = some .none → mA "lineno" = some .none → mA "colno" = some .none → (∀ p ∈ news, p.1 ≠ e) → (∀ p ∈ news, p.1 ≠ dx) → (∀ p ∈ news, p.1 ≠ t) → dx ≠ e → t ≠ e → Q (.ref e) { s with heap := h', toks := tk }) :
  wpAny (model PySem.Challenge.rw_dn0146_06.row.prog w) (ktrTop dp un gd cn cs L a ccd cl outer) (call (.ref 34) [.str msg tm, .bytes pat tp, .none]) Q E s :=
  pe_bn B F X T hk hdp hun  fun e h' tk st w => by
    obtain ⟨dx, od, mA, t, tw, g1, g2, g3, n1, n2, n3, AA, f1, f2, f3, f4, f5⟩ := w
    exact ret e dx od mA t tw h' tk (F.grownK st) (three F N st g1 g2 g3 n1 n2 n3) AA f1 f2 f3 f4 f5 (fun p hp q => by have := (N p hp).1; rw [q, n1] at this; cases this) (fun p hp q => by have := (N p hp).1; rw [q, n2] at this; cases this) (fun p hp q => by have := (N p hp).1; rw [q, n3] at this; cases this)
      (fun q => by rw [q, g1] at g2; cases g2; obtain ⟨_, _, hd, _⟩ := AA; cases hd) (fun q => by rw [q, g1] at g3; cases g3)
theorem pe_nK {w : World} {dp un : Nat} {gd : Option (List Code)} {cn : Str} {cs : Scope} {a : Addr} {ccd : Value} {cl : List (Str × Addr)} {outer : List Env} {A₀ : Around} {base h₀ : Heap} {L : Addr} {m : Str → Option Value} {s : Shared} {Q E : Value → Shared → Prop}
  {mean : ExcName → Option Value} {mg mb : Str → Option Value} {news : List (Addr × Obj)} {msg : Str} {pos : Int} {tm ti : Tok}
  (B : Below A₀ base outer h₀) (F : Fr h₀ L s.heap m) (N : News h₀ L s.heap news) (X : (hd.heap_39 w.params).In h₀) (T : Top hd.view_39 (looseW hd.view_39 [Str.ofString "PatternError"]) mean mg mb h₀) (hk : cs.kind = .function)
  (hdp : dp + 3 < recursionLimit) (hun : un + 20 < cLine) 
  (ret : ∀ (e dx : Addr) (od : Obj) (mA : Str → Option Value) (t : Addr) (tw : Tok) (h' : Heap) (tk : Nat), Fr h₀ L h' m → News h₀ L h' ((e, excD 34 dx t) :: (dx, od) :: (t, tupOf [.str (msg) tw]) :: news) → AttrObj od mA →
    mA "msg" = some (.str msg tm) → mA "pattern" = some .none → mA "pos" = some (.int pos ti) → mA "lineno" = some .none → mA "colno" = some .none → (∀ p ∈ news, p.1 ≠ e) → (∀ p ∈ news, p.1 ≠ dx) → (∀ p ∈ news, p.1 ≠ t) → dx ≠ e → t ≠ e → Q (.ref e) { s with heap := h', toks := tk }) :
  wpAny (model PySem.Challenge.rw_dn0146_06.row.prog w) (ktrTop dp un gd cn cs L a ccd cl outer) (call (.ref 34) [.str msg tm, .none, .int pos ti]) Q E s :=
  pe_n B F X T hk hdp hun  fun e h' tk st w => by
    obtain ⟨dx, od, mA, t, tw, g1, g2, g3, n1, n2, n3, AA, f1, f2, f3, f4, f5⟩ := w
    exact ret e dx od mA t tw h' tk (F.grownK st) (three F N st g1 g2 g3 n1 n2 n3) AA f1 f2 f3 f4 f5 (fun p hp q => by have := (N p hp).1; rw [q, n1] at this; cases this) (fun p hp q => by have := (N p hp).1; rw [q, n2] at this; cases this) (fun p hp q => by have := (N p hp).1; rw [q, n3] at this; cases this)
      (fun q => by rw [q, g1] at g2; cases g2; obtain ⟨_, _, hd, _⟩ := AA; cases hd) (fun q => by rw [q, g1] at g3; cases g3)
end Mine
namespace Mine
theorem walk_none_Pe7_06 : True := by
  k_with_none
  trivial
end Mine
open PySem PySem.W PyProof.Rows PySem.Calls
namespace Mine
open Builtin Builtin.ObjectAttr

section
variable {prog : Program} {w : World} {A : Around} {E : Value → Shared → Prop} {h : Heap} {g : Array GenState} {d : Drawn} {t : Nat} {os : OsState}
variable {nm q : Str} {C N x t0 : Addr} {bs : List Value} {sn : List Str} {sub : List Value} {ab : Bool} {col : Option Bool} {dd : Option Addr} {k0 k1 k2 k3 k5 : Option Value} {newId : String}
  {mN : Str → Option Value} {o : Obj} {vs : Array Value}

theorem exc_args_entry {tk : Tok} {Q : Fin → Shared → Prop}
    (hC : h.get? C = some (excClassObj nm q C N bs excBm true sn sub ab col dd k0 k1 k2 k3 k5 newId)) (hn : h.Ns N mN) (hna : mN "args" = none)
    (hx : h.get? x = some o) (hc : o.cls = .ref C) (hd : o.data = .fields vs) (h0 : vs[0]? = some (.ref t0)) (hq : Q (.done (.ret (.ref t0))) ⟨h, g, d, t, os⟩) :
    wpAny (model prog w) A (Builtin.«object.__getattribute__» ⟨[.ref x, .str "args" tk], []⟩) Q E ⟨h, g, d, t, os⟩ := by
  have FB := PySem.F.attrBase_Exception
  have hT5 : (⟨h, g, d, t, os⟩ : Shared).TypeIs (.builtin "BaseException.args") "getset_descriptor" := PySem.F.typeOf_bexc_args
  have f5 := PySem.F.typeOf_bexc_args
  have f6 := PySem.F.slot_gs_get.lookup
  have f7 := PySem.F.slot_gs_set.lookup
  repeat (any_goals (first | assumption | (with_reducible refine wpAny_loadPart_at hx ?_; rw [hc]) | (with_reducible refine wpAny_typeLookup_exc hC hn FB.mro FB.lkArgs ?_; rw [hna]) | wp_step))
  refine args_get_own FB hC .base hx hc hd h0 ?_
  repeat (any_goals (first | assumption | wp_step))

theorem exc_args {expr : Bool} {Q : Value → Shared → Prop}
    (hC : h.get? C = some (excClassObj nm q C N bs excBm true sn sub ab col dd k0 k1 k2 k3 k5 newId)) (hn : h.Ns N mN) (hng : mN "__getattribute__" = none) (hnh : mN "__getattr__" = none) (hna : mN "args" = none)
    (hx : h.get? x = some o) (hc : o.cls = .ref C) (hd : o.data = .fields vs) (h0 : vs[0]? = some (.ref t0)) (hq : Q (.ref t0) ⟨h, g, d, t + 1, os⟩) :
    wpAny (model prog w) A (getAttr (.ref x) "args" expr) Q E ⟨h, g, d, t, os⟩ := by
  have FB := PySem.F.attrBase_Exception
  have f3 := FB.ga.bind (.ref x)
  have hx0 : (expr && onTheHeap (Value.builtin "BaseException.__getattribute__")) = false := by cases expr <;> rfl
  have hx2 : (Value.builtin "BaseException.__getattribute__" == Value.builtin "object.__getattribute__") = false := by decide +kernel
  have hx1 : (onTheHeap (Value.ref C) && Value.builtin "BaseException.__getattribute__" == Value.builtin "object.__getattribute__") = false := by rw [hx2]; rfl
  unfold getAttr getAttrBy
  repeat (first | (with_reducible refine wpAny_loadPart_at hx ?_; rw [hc]) | (with_reducible refine wpAny_typeLookup_exc hC hn FB.mro FB.ga.lookup ?_; rw [hng]) | (with_reducible refine wpAny_typeLookup_exc hC hn FB.mro FB.noGetattr ?_; rw [hnh]) | wp_step)
  refine codeAny_call_builtin FB.ga.plain PySem.F.entry_bexc_ga (exc_check_ga hC hx hc (exc_args_entry hC hn hna hx hc hd h0 ?_))
  repeat (first | assumption | wp_step)
end
section
variable {prog : Program} {w : World} {A : Around} {E : Value → Shared → Prop} {s : Shared} {K : Frag} {h₀ : Heap} {L : Addr} {m : Str → Option Value}
variable {nm q : Str} {C Nn e t0 : Addr} {bs : List Value} {sn : List Str} {sub : List Value} {ab : Bool} {col : Option Bool} {dd : Option Addr} {k0 k1 k2 k3 k5 : Option Value} {nid : String}
  {o : Obj} {vs : Array Value}
theorem kargs {expr : Bool} {Q : Value → Shared → Prop} (F : Fr h₀ L s.heap m) (X₀ : K.In h₀)
    (hk : K.lookup C = some (excClassObj nm q C Nn bs excBm true sn sub ab col dd k0 k1 k2 k3 k5 nid)) (hok : nsOkIn K Nn = true) (hng : nsIn K Nn "__getattribute__" = some none) (hnh : nsIn K Nn "__getattr__" = some none) (hna : nsIn K Nn "args" = some none)
    (h1 : s.heap.get? e = some o) (hc : o.cls = .ref C) (hd : o.data = .fields vs) (h0 : vs[0]? = some (.ref t0))
    (h : Q (.ref t0) { s with toks := s.toks + 1 }) : wpAny (model prog w) A (getAttr (.ref e) "args" expr) Q E s := by
  have X := X₀.keeps F.keep
  obtain ⟨hC, hN⟩ := kcls X hk hok
  obtain ⟨hp, g, d, t, os⟩ := s
  exact exc_args hC hN (nsMap_none_of_in X hok hng) (nsMap_none_of_in X hok hnh) (nsMap_none_of_in X hok hna) h1 hc hd h0 h
end
end Mine
namespace Mine
theorem walk_none_Arg1 : True := by
  k_with_none
  trivial
end Mine
open PySem PySem.W PyProof.Rows PySem.Calls PySem.SeqAt
namespace Mine
section
variable {A : Around} {s : Shared}
theorem eqv_str (a : Str) (t u : Tok) : EqAt A s (.str a t) (.str a u) true := by
  have := (PySem.SeqRoads2.EqGives.str a a t u).at A s
  rwa [beq_self_eq_true] at this
theorem eqv_int (a : Int) (t u : Tok) : EqAt A s (.int a t) (.int a u) true := by
  have := EqAt.int_int (A := A) (s := s) a t a u
  rwa [beq_self_eq_true] at this
theorem eqv_tup {t t2 : Addr} {a : Str} {ta tb : Tok} (h1 : s.heap.get? t = some (tupOf [.str a ta])) (h2 : s.heap.get? t2 = some (tupOf [.str a tb])) (hu : A.units < cLine) : EqAt A s (.ref t) (.ref t2) true := by
  by_cases q : t = t2
  · rw [q]; exact EqAt.same _
  · refine EqAt.of_refs q ?_
    have := RcAt.tuples (A := A) (s := s) (items := #[.str a ta]) (items2 := #[.str a tb]) (e := fun _ => true) ⟨_, h1, rfl, _, rfl⟩ ⟨_, h2, rfl, _, rfl⟩ hu (fun j j1 j2 => by
      have : j = 0 := by simpa using j1
      subst this
      exact eqv_str a ta tb)
    simpa using this

inductive Eqs (A : Around) (s : Shared) : List Value → List Value → Prop
  | nil : Eqs A s [] []
  | cons {x y : Value} {xs ys : List Value} : EqAt A s x y true → Eqs A s xs ys → Eqs A s (x :: xs) (y :: ys)
theorem Eqs.length {xs ys : List Value} (h : Eqs A s xs ys) : xs.length = ys.length := by
  induction h with
  | nil => rfl
  | cons _ _ ih => simp [ih]
theorem Eqs.get {xs ys : List Value} (h : Eqs A s xs ys) : ∀ j (h1 : j < xs.length) (h2 : j < ys.length), EqAt A s xs[j] ys[j] true := by
  induction h with
  | nil => intro j h1; cases h1
  | cons e _ ih =>
    intro j h1 h2
    cases j with
    | zero => exact e
    | succ j => exact ih j (by simpa using h1) (by simpa using h2)
theorem lists_ne {prog : Program} {w : World} {E : Value → Shared → Prop} {Q : Value → Shared → Prop} {r r2 : Addr} {xs ys : List Value} {k k2 : Nat} (hl : s.heap.get? r = some { cls := .type "list", data := .seq xs.toArray k }) (hb : s.heap.get? r2 = some { cls := .type "list", data := .seq ys.toArray k2 }) (hu : A.units < cLine)
    (he : Eqs A.in1 s xs ys) (h : Q (.bool false) s) : wpAny (model prog w) A (compareOp .NotEq (.ref r) (.ref r2)) Q E s := by
  have := RcNeAt.lists (A := A) (s := s) (items := xs.toArray) (items2 := ys.toArray) (e := fun _ => true) ⟨_, hl, rfl, _, rfl⟩ ⟨_, hb, rfl, _, rfl⟩ (by simpa using he.length) hu (fun j j1 j2 => by
    have := he.get j (by simpa using j1) (by simpa using j2)
    simpa using this)
  refine this prog w E Q ?_
  have e : (!(List.range xs.toArray.size).all fun _ => true) = false := by simp
  rw [e]; exact h
end
end Mine
namespace Mine
theorem walk_none_Eq1 : True := by
  k_with_none
  trivial
end Mine
open PySem PySem.W PyProof.Rows PySem.Calls PySem.SeqAt
namespace Mine
section
variable {A : Around} {s : Shared} {prog : Program} {w : World} {E : Value → Shared → Prop} {Q : Value → Shared → Prop} {r r2 : Addr} {xs ys : List Value} {k k2 : Nat}
theorem eqs_all {n m : Nat} (h : n = m) : ((List.range (min n m)).all (fun _ => true) && n == m) = true := by subst h; simp
theorem tups_ne (hl : s.heap.get? r = some { cls := .type "tuple", data := .seq xs.toArray k }) (hb : s.heap.get? r2 = some { cls := .type "tuple", data := .seq ys.toArray k2 }) (hu : A.units < cLine)
    (he : Eqs A.in1 s xs ys) (h : Q (.bool false) s) : wpAny (model prog w) A (compareOp .NotEq (.ref r) (.ref r2)) Q E s := by
  have := RcNeAt.tuples (A := A) (s := s) (items := xs.toArray) (items2 := ys.toArray) (e := fun _ => true) ⟨_, hl, rfl, _, rfl⟩ ⟨_, hb, rfl, _, rfl⟩ hu (fun j j1 j2 => by
    have := he.get j (by simpa using j1) (by simpa using j2)
    simpa using this)
  refine this prog w E Q ?_
  rw [eqs_all (by simpa using he.length)]; exact h
end
end Mine
namespace Mine
theorem walk_none_Eq2 : True := by
  k_with_none
  trivial
end Mine
open PySem PySem.W PyProof.Rows PySem.Calls PySem.SeqAt
namespace Mine
section
variable {A : Around} {s : Shared} {prog : Program} {w : World} {E : Value → Shared → Prop} {Q : Value → Shared → Prop} {r r2 : Addr} {xs ys : List Value} {k k2 : Nat}
theorem three_ne {t t2 : Addr} {pv qv : Value} {wd : Str} {tw tv : Tok}
    (hl : s.heap.get? r = some { cls := .type "tuple", data := .seq #[.ref t, pv, qv] k }) (hb : s.heap.get? r2 = some { cls := .type "tuple", data := .seq #[.ref t2, pv, qv] k2 })
    (h1 : s.heap.get? t = some (tupOf [.str wd tw])) (h2 : s.heap.get? t2 = some (tupOf [.str wd tv])) (hu : A.units + 2 < cLine) (h : Q (.bool false) s) : wpAny (model prog w) A (compareOp .NotEq (.ref r) (.ref r2)) Q E s :=
  tups_ne (xs := [.ref t, pv, qv]) (ys := [.ref t2, pv, qv]) hl hb (by omega)
    (.cons (eqv_tup h1 h2 (by show A.units + 1 < cLine; omega)) (.cons (.same _) (.cons (.same _) .nil))) h
theorem more_ne {x : Value} (hl : s.heap.get? r = some { cls := .type "list", data := .seq (x :: xs).toArray k }) (hb : s.heap.get? r2 = some { cls := .type "list", data := .seq #[] k2 }) (hu : A.units < cLine)
    (h : Q (.bool true) s) : wpAny (model prog w) A (compareOp .NotEq (.ref r) (.ref r2)) Q E s :=
  RcNeAt.lists_lengths (A := A) (s := s) (items := (x :: xs).toArray) (items2 := #[]) ⟨_, hl, rfl, _, rfl⟩ ⟨_, hb, rfl, _, rfl⟩ (by simp) hu prog w E Q h
theorem eqv_two {t t2 : Addr} {x y : Value} {b : Bool} (h1 : s.heap.get? t = some { cls := .type "tuple", data := .seq #[x, .bool b] k }) (h2 : s.heap.get? t2 = some { cls := .type "tuple", data := .seq #[y, .bool b] k2 }) (hu : A.units < cLine) (he : EqAt A.in1 s x y true) : EqAt A s (.ref t) (.ref t2) true := by
  by_cases q : t = t2
  · rw [q]; exact EqAt.same _
  · refine EqAt.of_refs q ?_
    have := RcAt.tuples (A := A) (s := s) (items := #[x, .bool b]) (items2 := #[y, .bool b]) (e := fun _ => true) ⟨_, h1, rfl, _, rfl⟩ ⟨_, h2, rfl, _, rfl⟩ hu (fun j j1 j2 => by
      have : j < 2 := by simpa using j1
      rcases j with _ | _ | j
      · exact he
      · exact EqAt.same _
      · omega)
    exact (eqs_all (n := #[x, Value.bool b].size) (m := #[y, Value.bool b].size) rfl) ▸ this
theorem pairs_ne {t t2 u u2 : Addr} {x y x2 y2 : Value} {b : Bool} {q1 q2 q3 q4 : Nat} (hl : s.heap.get? r = some { cls := .type "list", data := .seq #[.ref t, .ref u] k }) (hb : s.heap.get? r2 = some { cls := .type "list", data := .seq #[.ref t2, .ref u2] k2 })
    (h1 : s.heap.get? t = some { cls := .type "tuple", data := .seq #[x, .bool b] q1 }) (h2 : s.heap.get? t2 = some { cls := .type "tuple", data := .seq #[x2, .bool b] q2 })
    (h3 : s.heap.get? u = some { cls := .type "tuple", data := .seq #[y, .bool b] q3 }) (h4 : s.heap.get? u2 = some { cls := .type "tuple", data := .seq #[y2, .bool b] q4 }) (hu : A.units + 2 < cLine) (he : ∀ A s, EqAt A s x x2 true) (he2 : ∀ A s, EqAt A s y y2 true)
    (h : Q (.bool false) s) : wpAny (model prog w) A (compareOp .NotEq (.ref r) (.ref r2)) Q E s :=
  lists_ne (xs := [.ref t, .ref u]) (ys := [.ref t2, .ref u2]) hl hb (by omega)
    (.cons (eqv_two h1 h2 (by show A.units + 1 < cLine; omega) (he _ _)) (.cons (eqv_two h3 h4 (by show A.units + 1 < cLine; omega) (he2 _ _)) .nil)) h
end
end Mine
namespace Mine
theorem walk_none_Eq6 : True := by
  k_with_none
  trivial
end Mine
open PySem PySem.W PyProof.Rows PySem.Calls
namespace Mine
open Builtin Builtin.BaseException
section
variable {prog : Program} {w : World} {A : Around} {E : Value → Shared → Prop} {s : Shared} {h : Heap} {g : Array GenState} {d : Drawn} {t : Nat} {os : OsState}
variable {nm q : Str} {C N e t0 : Addr} {bs : List Value} {sn : List Str} {sub : List Value} {ab : Bool} {col : Option Bool} {dd : Option Addr} {k0 k1 k2 k3 k5 : Option Value} {newId : String}
  {mN : Str → Option Value} {o : Obj} {vs : Array Value} {m : Str} {tm : Tok}
theorem exc_check_str {M : Model} {Q : Unit → Shared → Prop} (hC : h.get? C = some (excClassObj nm q C N bs excBm true sn sub ab col dd k0 k1 k2 k3 k5 newId))
    (hx : h.get? e = some o) (hc : o.cls = .ref C) (hq : Q () ⟨h, g, d, t, os⟩) : wpAny M A (checkBuiltinCall "BaseException.__str__" ⟨[.ref e], []⟩) Q E ⟨h, g, d, t, os⟩ := by
  have hk : builtinKind "BaseException.__str__" = some .slot := by decide +kernel
  have hsplit : splitId "BaseException.__str__" = some ("BaseException", "__str__") := by decide +kernel
  have hcB : (Value.ref C :: excBm).contains (.type "BaseException") = true := by rw [List.contains_cons]; rfl
  have ha := PySem.F.args_bexc_str (.ref e)
  simp only [checkBuiltinCall, hk, hsplit]
  refine wpAny_bind ?_
  unfold isInstance
  repeat (first | (with_reducible refine wpAny_loadPart_at hx ?_; rw [hc]) | (with_reducible refine wpAny_isSubtype_exc hC ?_; rw [hcB]) | wp_step)
  exact hq
theorem exc_args_of {M : Model} {items : List Value} {Q : Value × List Value → Shared → Prop} (hx : s.heap.get? e = some o) (hd : o.data = .fields vs) (h0 : vs[0]? = some (.ref t0)) (ht : s.heap.TupAt t0 items) (hq : Q (.ref t0, items) s) :
    wpAny M A (Builtin.BaseException.bexcArgs (.ref e)) Q E s := by
  obtain ⟨ot, k, hto, _, htd⟩ := ht
  unfold bexcArgs
  refine wpAny_bind (wpAny_field hx hd h0 (wpAny_bind (wpAny_seqItems hto htd ?_)))
  have : items.toArray.toList = items := by simp
  show wpAny M A (pure (Value.ref t0, items.toArray.toList)) Q E s
  rw [this]; exact wpAny_pure hq
theorem exc_str_entry {Q : Fin → Shared → Prop} (hx : s.heap.get? e = some o) (hd : o.data = .fields vs) (h0 : vs[0]? = some (.ref t0)) (ht : s.heap.TupAt t0 [.str m tm]) (hq : Q (.done (.ret (.str m tm))) s) :
    wpAny (model prog w) A (Builtin.«BaseException.__str__» ⟨[.ref e], []⟩) Q E s := by
  unfold Builtin.«BaseException.__str__»
  repeat (first | with_reducible refine exc_args_of hx hd h0 ht ?_ | wp_step)
  exact hq
theorem exc_strOf {Q : Value → Shared → Prop} (hC : h.get? C = some (excClassObj nm q C N bs excBm true sn sub ab col dd k0 k1 k2 k3 k5 newId)) (hn : h.Ns N mN) (hns : mN "__str__" = none)
    (hx : h.get? e = some o) (hc : o.cls = .ref C) (hd : o.data = .fields vs) (h0 : vs[0]? = some (.ref t0)) (ht : h.TupAt t0 [.str m tm]) (hu : A.units < cLine) (hq : Q (.str m tm) ⟨h, g, d, t, os⟩) :
    wpAny (model prog w) A (Builtin.Str.strOf (.ref e)) Q E ⟨h, g, d, t, os⟩ := by
  have FB := PySem.F.attrBase_Exception
  have FX := PySem.F.excStr_Exception
  have hlk := FX.str.lookup
  have fb := FX.str.bind (.ref e)
  unfold Builtin.Str.strOf callSpecial? specialOf
  repeat (first | assumption | with_reducible refine wpAny_cRoomFor hu ?_ | (with_reducible refine wpAny_loadPart_at hx ?_; rw [hc]) | (with_reducible refine wpAny_typeLookup_exc hC hn FB.mro hlk ?_; rw [hns]) | wp_step)
  refine codeAny_call_builtin FX.str.plain PySem.F.entry_bexc_str (exc_check_str hC hx hc (exc_str_entry hx hd h0 ht ?_))
  repeat (first | assumption | wp_step)
theorem exc_str {Q : Value → Shared → Prop} (hC : h.get? C = some (excClassObj nm q C N bs excBm true sn sub ab col dd k0 k1 k2 k3 k5 newId)) (hn : h.Ns N mN) (hns : mN "__str__" = none)
    (hx : h.get? e = some o) (hc : o.cls = .ref C) (hd : o.data = .fields vs) (h0 : vs[0]? = some (.ref t0)) (ht : h.TupAt t0 [.str m tm]) (hu : A.units + 2 < cLine) (hq : Q (.str m tm) ⟨h, g, d, t, os⟩) :
    wpAny (model prog w) A (call (.type "str") [.ref e]) Q E ⟨h, g, d, t, os⟩ :=
  callType_new F.called_str (by decide) (F.typeCall_str_1 _) (F.newCall_str_1 _) (fun obj => F.args_object_init_2 obj _) F.entry_str_new
    (meets_str_new (S := fun A' R s' => A'.units + 1 < cLine ∧ s'.heap = h ∧ R (.ok (.ret (.str m tm))) s')
      fun _ _ A' _ s' hq => by
        obtain ⟨hp, g', d', t', os'⟩ := s'
        obtain ⟨h1, h2, h3⟩ := hq
        dsimp only at h2
        subst h2
        exact exc_strOf (A := A'.in1) hC hn hns hx hc hd h0 ht h1 h3)
    ⟨(show A.units + 1 + 1 < cLine from hu), rfl, typeIs_str _ _ _, hq⟩
end
end Mine
namespace Mine
theorem walk_none_Es6 : True := by
  k_with_none
  trivial
end Mine
open PySem PySem.W PyProof.Rows PySem.Calls
namespace Mine
section
variable {prog : Program} {w : World} {A : Around} {E : Value → Shared → Prop} {s : Shared} {env : Env} {h₀ : Heap} {x : Str} {body : List Stmt} {Q : Flow → Shared → Prop}

/-- a turn's end: the invariant stands again, the iterator and the list lie as they lay -/
def TurnEnd4 (h₀ : Heap) (L : Addr) (J : (Str → Option Value) → List (Addr × Obj) → Prop) (I : Addr) (oI : Obj) (l : Addr) (lo : Obj) (s₁ : Shared) (Q : Flow → Shared → Prop) (f : Flow) (s₂ : Shared) : Prop :=
  match f with
  | .ret v => Q (.ret v) s₂
  | .brk => Q .next s₂
  | _ => ∃ h' tk m' news', s₂ = { s₁ with heap := h', toks := tk } ∧ Fr h₀ L h' m' ∧ News h₀ L h' ((I, oI) :: (l, lo) :: news') ∧ (∀ p ∈ news', p.1 ≠ I) ∧ J m' news'

theorem list_loop {l : Addr} {vs : List Value} {k : Nat} {m₀ : Str → Option Value} {news : List (Addr × Obj)} (J : Nat → (Str → Option Value) → List (Addr × Obj) → Prop)
    (hh : A.handled = none) (F : Fr h₀ env.locals s.heap m₀) (N : News h₀ env.locals s.heap ((l, { cls := .type "list", data := .seq vs.toArray k }) :: news)) (hj : J 0 m₀ news)
    (turn : ∀ i v m₁ news₁ h tk I oI lo, vs[i]? = some v → J i m₁ news₁ → (∀ p ∈ news₁, p.1 ≠ I) → lo.cls = .type "list" → Fr h₀ env.locals h (fun y => if y = x then some v else m₁ y) → News h₀ env.locals h ((I, oI) :: (l, lo) :: news₁) →
      wpAny (model prog w) A (execs body env) (TurnEnd4 h₀ env.locals (J (i + 1)) I oI l lo { s with heap := h, toks := tk } Q) E { s with heap := h, toks := tk })
    (done : ∀ m₁ news₁ h tk, J vs.length m₁ news₁ → Fr h₀ env.locals h m₁ → News h₀ env.locals h news₁ → Q .next { s with heap := h, toks := tk }) :
    wpAny (model prog w) A (pyIter (.ref l)) (fun it s₂ => LoopAtV prog w A h₀ env x body Q E it s₂) E s := by
  have hol := N _ (.head _)
  have hls : s.heap.IsList l vs.toArray := ⟨_, hol.1, rfl, _, rfl⟩
  have hlt : l < s.heap.objs.size := Heap.lt_size hol.1
  have hne : l ≠ s.heap.objs.size := Nat.ne_of_lt hlt
  refine wpAny_pyIter_list hls ?_
  have W := Walks.list (prog := prog) (w := w) hh s.heap.objs.size l hne vs.toArray
  have hlen : vs.toArray.size = vs.length := by simp
  rw [hlen] at W
  refine ⟨_, _, _, vs.length, _, _, m₀, news, J, rfl, W, ?_, ?_, ?_, ⟨⟨_, Heap.get?_push_size _ rfl, rfl, rfl⟩, hls.at fun o e => Heap.get?_push_of_some _ e⟩, F.push _, (fun p hp => ⟨Heap.get?_push_of_some _ (N p (.tail _ hp)).1, (N p (.tail _ hp)).2⟩), hj, ?_, ?_⟩
  · intro hm
    rcases List.mem_cons.mp hm with e | hm
    · exact absurd F.ns.lt (e ▸ Nat.lt_irrefl _)
    · exact hol.2.1 (List.mem_singleton.mp hm).symm
  · intro b hb
    rw [List.mem_singleton.mp hb]
    exact next_is_new F
  · intro p hp hI
    exact absurd (Heap.lt_size (N p (.tail _ hp)).1) ((List.mem_singleton.mp hI) ▸ Nat.lt_irrefl _)
  · rintro i v m₁ news₁ s₁ own ⟨hh', tk', rfl⟩ hin hP hJ hoff hown howg hall st F₁ N₁
    have hP' : vs[i]? = some v := by simpa using hP
    obtain ⟨⟨oI, hI, _⟩, ol, hl', hlc, n', hld⟩ := st
    have mI : (s.heap.objs.size, oI) ∈ own := hall _ (by simp) (next_is_new F) _ hI
    have mL : (l, ol) ∈ own := hall _ (by simp) hol.2.2 _ hl'
    have offI : ∀ p ∈ news₁, p.1 ≠ s.heap.objs.size := fun p hp q => hoff p hp (by simp [q])
    have hin' : ∀ p ∈ own, p = (s.heap.objs.size, oI) ∨ p = (l, ol) := fun p hp => by
      have e := howg p hp
      rcases List.mem_cons.mp (hown p hp) with h1 | h1
      · left; rw [h1, hI] at e; cases e; exact Prod.ext h1 rfl
      · right; have h2 := List.mem_singleton.mp h1; rw [h2, hl'] at e; cases e; exact Prod.ext h2 rfl
    have N₂ : News h₀ env.locals hh' ((s.heap.objs.size, oI) :: (l, ol) :: news₁) := fun p hp => by
      rcases List.mem_cons.mp hp with rfl | hp
      · exact N₁ _ (List.mem_append_left _ mI)
      rcases List.mem_cons.mp hp with rfl | hp
      · exact N₁ _ (List.mem_append_left _ mL)
      · exact N₁ _ (List.mem_append_right _ hp)
    refine wpAny_mono (turn i v m₁ news₁ hh' tk' _ oI ol hP' hJ offI hlc F₁ N₂) (fun f s₂ p => ?_) fun _ _ e => e
    have fin : (∃ h' tk m' news', s₂ = { ({ s with heap := hh', toks := tk' } : Shared) with heap := h', toks := tk } ∧ Fr h₀ env.locals h' m' ∧ News h₀ env.locals h' ((s.heap.objs.size, oI) :: (l, ol) :: news') ∧ (∀ p ∈ news', p.1 ≠ s.heap.objs.size) ∧ J (i + 1) m' news') →
        LoopStepU h₀ env.locals [s.heap.objs.size] own (J (i + 1)) { s with heap := hh', toks := tk' } .next s₂ := by
      rintro ⟨h', tk, m', news', e, F', N', hn, hm⟩
      refine ⟨rfl, h', tk, m', news', e, F', fun p hp => ?_, fun p hp hq => hn p hp (List.mem_singleton.mp hq), hm⟩
      rcases List.mem_append.mp hp with hp | hp
      · rcases hin' p hp with rfl | rfl
        · exact N' _ (.head _)
        · exact N' _ (.tail _ (.head _))
      · exact N' _ (.tail _ (.tail _ hp))
    cases f with
    | ret v => exact .ret p
    | brk => exact .brk p
    | next => exact .next (fin p)
    | cont => exact .cont (fin p)
  · rintro h' tk m' news' F' N' _ hJ
    exact done m' news' h' tk hJ F' N'
end
end Mine
namespace Mine
theorem walk_none_Lp1 : True := by
  k_with_none
  trivial
end Mine
open PySem PySem.W PyProof.Rows PySem.Calls
namespace Mine
/-- a stop for the walk -/
def Halt (P : Prop) : Prop := P
theorem halt {P : Prop} (h : Halt P) : P := h
/-- LoopAtV under a name of its own, so that the walk stops at it -/
def LoopHere (prog : Program) (w : World) (A : Around) (h₀ : Heap) (env : Env) (x : Str) (body : List Stmt) (Q : Flow → Shared → Prop) (E : Value → Shared → Prop) (it : Value) (s₂ : Shared) : Prop := LoopAtV prog w A h₀ env x body Q E it s₂
section
variable {prog : Program} {w : World} {A : Around} {E : Value → Shared → Prop} {s : Shared} {env : Env} {h₀ : Heap} {x : Str} {body : List Stmt} {Q : Flow → Shared → Prop}
theorem For_here {m : Str → Option Value} {px pos : Pos} {iter : Expr} (_F : Fr h₀ env.locals s.heap m) (hx : env.kindOf x = some .local)
    (hp : (env.scope.kind == .class || (env.scope.kind == .module && env.locals != env.globals)) = false)
    (h : wpAny (model prog w) A (eval iter env) (fun xv s₁ => wpAny (model prog w) A (pyIter xv) (fun it s₂ => LoopHere prog w A h₀ env x body Q E it s₂) E s₁) E s)
    (hs : ∀ x, foldedSetIterable iter env x = pure x := by intro _; rfl)
    (hE : PassesOwn (model prog w) A env E := by passes_own) :
    wpAny (model prog w) A (exec (.For (.Name x px) iter body [] pos) env) Q E s := For_invV h₀ hx hp h hs hE
theorem loop_here {l : Addr} {vs : List Value} {k : Nat} {m₀ : Str → Option Value} {all news : List (Addr × Obj)} (J : Nat → (Str → Option Value) → List (Addr × Obj) → Prop)
    (hh : A.handled = none) (F : Fr h₀ env.locals s.heap m₀) (N : News h₀ env.locals s.heap all) (hl : (l, ({ cls := .type "list", data := .seq vs.toArray k } : Obj)) ∈ all) (hsub : ∀ p ∈ news, p ∈ all) (hj : J 0 m₀ news)
    (turn : ∀ i v m₁ news₁ h tk I oI lo, vs[i]? = some v → J i m₁ news₁ → (∀ p ∈ news₁, p.1 ≠ I) → lo.cls = .type "list" → Fr h₀ env.locals h (fun y => if y = x then some v else m₁ y) → News h₀ env.locals h ((I, oI) :: (l, lo) :: news₁) →
      wpAny (model prog w) A (execs body env) (TurnEnd4 h₀ env.locals (J (i + 1)) I oI l lo { s with heap := h, toks := tk } Q) E { s with heap := h, toks := tk })
    (done : ∀ m₁ news₁ h tk, J vs.length m₁ news₁ → Fr h₀ env.locals h m₁ → News h₀ env.locals h news₁ → Q .next { s with heap := h, toks := tk }) :
    wpAny (model prog w) A (pyIter (.ref l)) (fun it s₂ => LoopHere prog w A h₀ env x body Q E it s₂) E s :=
  list_loop J hh F (fun p hp => by
    rcases List.mem_cons.mp hp with rfl | hp
    · exact N _ hl
    · exact N _ (hsub _ hp)) hj turn done
end
def CutPost (Mid : Shared → Prop) (Q : Flow → Shared → Prop) (f : Flow) (s : Shared) : Prop := match f with | .next => Mid s | f => Q f s
section
variable {prog : Program} {w : World} {A : Around} {E : Value → Shared → Prop} {env : Env} {Q : Flow → Shared → Prop} {Mid : Shared → Prop}
theorem execs_cutG (M : Model) (Γ : _) (hΓ : Γ.In A) {post : List Stmt} (h2 : ∀ s', Mid s' → wpAny M A (execs post env) Q E s') : ∀ (pre : List Stmt) (p) (s : Shared), Sem.wp M Γ (execs pre env) (fun f _ s' => CutPost Mid Q f s') (fun e _ s' => E e s') p s → Sem.wp M Γ (execs (pre ++ post) env) (fun f _ s' => Q f s') (fun e _ s' => E e s') p s
  | [], p, s, h => h2 _ h Γ p hΓ
  | a :: r, p, s, h => by
    rw [List.cons_append, execs_cons, Sem.wp_bind']
    rw [execs_cons, Sem.wp_bind'] at h
    refine Sem.wp_mono _ Γ _ (fun f p' s' h' => ?_) (fun _ _ _ h' => h') _ _ h
    cases f with
    | next => exact execs_cutG M Γ hΓ h2 r p' s' h'
    | _ => exact h'
theorem execs_cut {M : Model} {pre post : List Stmt} {s : Shared} (Mid : Shared → Prop) (h1 : wpAny M A (execs pre env) (CutPost Mid Q) E s) (h2 : ∀ s', Mid s' → wpAny M A (execs post env) Q E s') : wpAny M A (execs (pre ++ post) env) Q E s :=
  fun Γ p hΓ => execs_cutG M Γ hΓ h2 pre p s (h1 Γ p hΓ)
theorem execs_at {M : Model} {body : List Stmt} {s : Shared} (k : Nat) (Mid : Shared → Prop) (h1 : wpAny M A (execs (body.take k) env) (CutPost Mid Q) E s) (h2 : ∀ s', Mid s' → wpAny M A (execs (body.drop k) env) Q E s') : wpAny M A (execs body env) Q E s := by
  have := execs_cut Mid h1 h2
  rwa [List.take_append_drop] at this
/-- what stands at a cut: frame, ledger, and a word of yours on both -/
def MidG (h₀ : Heap) (L : Addr) (s₁ : Shared) (P : (Str → Option Value) → List (Addr × Obj) → Prop) (s₂ : Shared) : Prop :=
  ∃ h' tk m' nw', s₂ = { s₁ with heap := h', toks := tk } ∧ Fr h₀ L h' m' ∧ News h₀ L h' nw' ∧ P m' nw'
theorem cutP {M : Model} {body : List Stmt} {s : Shared} {h₀ : Heap} {L : Addr} {h : Heap} {m : Str → Option Value} {nw : List (Addr × Obj)} (_F : Fr h₀ L h m) (_N : News h₀ L h nw) (k : Nat) (P : (Str → Option Value) → List (Addr × Obj) → (Str → Option Value) → List (Addr × Obj) → Prop)
    (h1 : wpAny M A (execs (body.take k) env) (CutPost (MidG h₀ L s (P m nw)) Q) E s)
    (h2 : ∀ h' tk m' nw', Fr h₀ L h' m' → News h₀ L h' nw' → P m nw m' nw' → wpAny M A (execs (body.drop k) env) Q E { s with heap := h', toks := tk }) : wpAny M A (execs body env) Q E s :=
  execs_at k _ h1 fun _ ⟨h', tk, m', nw', e, F', N', p⟩ => e ▸ h2 h' tk m' nw' F' N' p
theorem mapc {m m0 : Str → Option Value} {k : Str} {v : Value} (h : m k = some v) (r : m = m0) : m = fun y => if y = k then some v else m0 y := by
  subst r
  funext y
  by_cases q : y = k
  · rw [if_pos q, q, h]
  · rw [if_neg q]
end
theorem allObj_mono : ∀ {ws : List (Addr × String)} {k k' : List (Addr × Obj) → Prop}, AllObj ws k → (∀ its, k its → k' its) → AllObj ws k'
  | [], _, _, h, f => f _ h
  | _ :: _, _, _, h, f => fun o ho => allObj_mono (h o ho) fun its => f _
theorem subL_of {all : List (Addr × Obj)} : ∀ {l : List (Addr × Obj)}, (∀ p ∈ l, p ∈ all) → SubL l all
  | [], _ => trivial
  | p :: r, h => ⟨h p (.head _), subL_of fun q hq => h q (.tail _ hq)⟩
section
variable {prog : Program} {w : World} {A : Around} {E : Value → Shared → Prop} {s : Shared} {env : Env} {h₀ : Heap} {target : Expr} {body : List Stmt} {Q : Flow → Shared → Prop}
/-- the outer loop over two values: between the turns only `script` is known, and what is kept -/
def Between (sv : Value) (keep : List (Addr × Obj)) (m' : Str → Option Value) (n' : List (Addr × Obj)) : Prop := n' = keep ∧ m' (Str.ofString "script") = some sv
end
section
variable {h₀ : Heap} {L : Addr} {s₁ : Shared} {h' : Heap} {tk : Nat} {m' : Str → Option Value} {all : List (Addr × Obj)}
end
end Mine
namespace Mine
theorem walk_none_Gen1 : True := by
  k_with_none
  trivial
end Mine
open PySem PySem.W PyProof.Rows PySem.Calls
namespace Mine
section
variable {prog : Program} {w : World} {A : Around} {E : Value → Shared → Prop} {s : Shared} {env : Env} {h₀ : Heap} {x : Str} {body : List Stmt} {Q : Flow → Shared → Prop}
/-- any item -/
theorem at_item {value slice : Expr} {l : Addr} {vs : List Value} {k : Int} {u : Tok} {v : Value} {Q : Value → Shared → Prop} (hl : s.heap.IsList l vs.toArray) (h0 : 0 ≤ k) (hhi : k < 2 ^ 63) (hx : vs[k.toNat]? = some v) (h : Q v s)
    (hs : subscripted slice false (.ref l) (.int k u) = operate [.ref l, .int k u] (getItem (.ref l) (.int k u)) := by with_unfolding_all rfl) :
    wpAny (model prog w) A (subscriptTail value slice (.ref l) (.int k u)) Q E s :=
  tail_any hl.typeIs slot_list_getitem.lookup (wpAny_getItem_list hl h0 hhi (by simpa using hx) h) hs
end
section
variable {prog : Program} {w : World} {A : Around} {E : Value → Shared → Prop} {s : Shared} {h₀ : Heap} {L : Addr} {m : Str → Option Value}
end
section
variable {prog : Program} {w : World} {A : Around} {E : Value → Shared → Prop} {s : Shared} {env : Env} {h₀ : Heap} {x : Str} {body : List Stmt} {Q : Flow → Shared → Prop}
end
theorem szL {vs : List Value} (h : vs.length ≤ 100000) : vs.toArray.size ≤ sizeLine := by
  rw [List.size_toArray]; exact Nat.le_trans h (by decide)
theorem starEach_tup {a : List Expr} {k : Nat} {p : Pos} {rest : List Expr} {env : Env} : starEach (.Tuple a k p :: rest) env = (false, eval (.Tuple a k p) env) :: starEach rest env := by simp only [starEach]
section
variable {M : Model} {A : Around} {E : Value → Shared → Prop} {s : Shared} {pos : Pos} {id : String} {first : List Value} {env : Env} {Q : Value → Shared → Prop}
theorem cw_tup {a : List Expr} {k : Nat} {p : Pos}
    (h : wpAny M A (spliced (backTo pos (starEach [.Tuple a k p] env))) (fun vs s₁ => wpAny M A (call (.builtin id) (first ++ vs)) Q E s₁) E s) :
    wpAny M A (callWith pos (.builtin id) first (backTo pos (starEach [.Tuple a k p] env)) []) Q E s :=
  callWith_method1 h starEach_tup (by rfl)
end
end Mine
namespace Mine
theorem walk_none_Gen2 : True := by
  k_with_none
  trivial
end Mine
open PySem PySem.W PyProof.Rows PySem.Calls
namespace Mine
section
variable {prog : Program} {w : World} {A : Around} {E : Value → Shared → Prop} {s : Shared} {h₀ : Heap} {L D b l : Addr} {m : Str → Option Value} {rest : List (Addr × Obj)} {xs ys : List Value} {n n2 : Nat}
end
section
variable {prog : Program} {w : World} {A : Around} {E : Value → Shared → Prop} {s : Shared} {env : Env} {h₀ : Heap} {x : Str} {body : List Stmt} {Q : Flow → Shared → Prop}
end
section
variable {prog : Program} {w : World} {A : Around} {E : Value → Shared → Prop} {s : Shared}
/-- one of four texts -/
theorem msg_item {value slice : Expr} {t : Addr} {x0 x1 x2 x3 : Str} {t0 t1 t2 t3 : Tok} {k : Int} {u : Tok} {Q : Value → Shared → Prop} (ht : IsTup s.heap t #[.str x0 t0, .str x1 t1, .str x2 t2, .str x3 t3]) (h0 : 0 ≤ k) (h1 : k < 4)
    (l0 : x0.length ≤ 100) (l1 : x1.length ≤ 100) (l2 : x2.length ≤ 100) (l3 : x3.length ≤ 100) (h : ∀ ms tms, ms.length ≤ 100 → Q (.str ms tms) s)
    (hs : subscripted slice false (.ref t) (.int k u) = operate [.ref t, .int k u] (getItem (.ref t) (.int k u)) := by with_unfolding_all rfl) :
    wpAny (model prog w) A (subscriptTail value slice (.ref t) (.int k u)) Q E s := by
  have hj : ∀ j : Nat, k = j → j < 4 → seqIndex? k ([Value.str x0 t0, .str x1 t1, .str x2 t2, .str x3 t3] : List Value).length = some j := by
    intro j e hj
    subst e
    have : ¬ ((j : Int) < 0) := by omega
    unfold seqIndex?
    simp only [List.length_cons, List.length_nil, if_neg this]
    rw [if_pos (by simp; omega)]
    simp
  rcases (by omega : k = (0 : Nat) ∨ k = (1 : Nat) ∨ k = (2 : Nat) ∨ k = (3 : Nat)) with e | e | e | e
  · exact item_tupleT (l := [.str x0 t0, .str x1 t1, .str x2 t2, .str x3 t3]) (x := .str x0 t0) ht (by omega) (by omega) (hj 0 e (by decide)) rfl (h _ _ l0) hs
  · exact item_tupleT (l := [.str x0 t0, .str x1 t1, .str x2 t2, .str x3 t3]) (x := .str x1 t1) ht (by omega) (by omega) (hj 1 e (by decide)) rfl (h _ _ l1) hs
  · exact item_tupleT (l := [.str x0 t0, .str x1 t1, .str x2 t2, .str x3 t3]) (x := .str x2 t2) ht (by omega) (by omega) (hj 2 e (by decide)) rfl (h _ _ l2) hs
  · exact item_tupleT (l := [.str x0 t0, .str x1 t1, .str x2 t2, .str x3 t3]) (x := .str x3 t3) ht (by omega) (by omega) (hj 3 e (by decide)) rfl (h _ _ l3) hs
end
theorem fm4 (n : Int) : n.fmod 4 = n % 4 := Int.fmod_eq_emod_of_nonneg n (by omega)
section
variable {prog : Program} {w : World} {A : Around} {E : Value → Shared → Prop} {s : Shared} {env : Env} {h₀ : Heap} {target : Expr} {body : List Stmt} {Q : Flow → Shared → Prop}
/-- a turn's end where the ledger stays as it was -/
def TurnEnd5 (h₀ : Heap) (L : Addr) (P : (Str → Option Value) → Prop) (c : Addr × Obj) (nw : List (Addr × Obj)) (s₁ : Shared) (Q : Flow → Shared → Prop) (f : Flow) (s₂ : Shared) : Prop :=
  match f with
  | .ret v => Q (.ret v) s₂
  | .brk => Q .next s₂
  | _ => ∃ h' tk m', s₂ = { s₁ with heap := h', toks := tk } ∧ Fr h₀ L h' m' ∧ News h₀ L h' (c :: nw) ∧ P m'
theorem items_all {P : (Str → Option Value) → Prop} {nw keep : List (Addr × Obj)} {I : Addr} {cn : String} (hk : ∀ p ∈ keep, p ∈ nw) (hI : ∀ p ∈ nw, p.1 ≠ I) : ∀ (vs : List Value),
    (∀ v ∈ vs, ∀ m h tk oI, P m → Fr h₀ env.locals h m → News h₀ env.locals h ((I, oI) :: nw) → wpAny (model prog w) A (assign target env v) (fun _ s₂ => wpAny (model prog w) A (execs body env) (TurnEnd5 h₀ env.locals P (I, oI) nw { s with heap := h, toks := tk } Q) E s₂) E { s with heap := h, toks := tk }) →
    (∀ m h tk, P m → Fr h₀ env.locals h m → News h₀ env.locals h nw → Q .next { s with heap := h, toks := tk }) → ∀ m, P m → ItemsRest prog w A E h₀ env target body Q s [(I, cn)] keep (vs.map .val) m nw
  | [], _, done, m, hp => ItemsRest.zero fun h tk F N => done m h tk hp F N
  | v :: r, turn, done, m, hp => by
    have ih := items_all (P := P) (nw := nw) (keep := keep) (I := I) (cn := cn) hk hI r (fun u hu => turn u (.tail _ hu)) done
    refine ItemsRest.val fun h tk F oI _ N => ?_
    refine wpAny_mono (turn v (.head _) m h tk oI hp F N) (fun _ s₂ q => wpAny_mono q (fun f s₃ p => ?_) fun _ _ e => e) fun _ _ e => e
    have fin : (∃ h' tk' m', s₃ = { ({ s with heap := h, toks := tk } : Shared) with heap := h', toks := tk' } ∧ Fr h₀ env.locals h' m' ∧ News h₀ env.locals h' ((I, oI) :: nw) ∧ P m') →
        UnrEndW h₀ env.locals { s with heap := h, toks := tk } [(I, oI)] (fun m' n' => SubL keep n' ∧ ItemsRest prog w A E h₀ env target body Q s [(I, cn)] keep (r.map .val) m' n') s₃ := by
      rintro ⟨h', tk', m', e, F', N', hp'⟩
      refine ⟨h', tk', m', nw, e, F', N', fun p hp q hq => ?_, subL_of hk, ih m' hp'⟩
      rw [List.mem_singleton.mp hq]
      exact hI p hp
    cases f with
    | ret v => exact p
    | brk => exact p
    | next => exact fin p
    | cont => exact fin p
end
end Mine
namespace Mine
theorem walk_none_Gen3 : True := by
  k_with_none
  trivial
end Mine
open PySem PySem.W PyProof.Rows PySem.Calls
namespace Mine
section
variable {prog : Program} {w : World} {A : Around} {h₀ : Heap} {L : Addr} {m : Str → Option Value} {env : Env} {elt : Expr} {x : Str} {scope : Scope} {cl : List (Str × Addr)} {s : Shared} {S : List (Addr × Obj) → Prop} {P : Nat → Value → Prop} {Fin : List Value → List (Addr × Obj) → Prop} {news : List (Addr × Obj)}
/-- a comprehension by what holds of each element -/
theorem comp_rel {n : Nat} (R : Nat → Value → Prop)
    (turn : ∀ i v I oI C oC D m₂ ys h tk (E' : Value → Shared → Prop), i < n → P i v → LCg.NsObj oC m₂ → m₂ x = some v → Fr h₀ L h m → News h₀ L h ((I, oI) :: (C, oC) :: (D, LCg.lst ys) :: news) → LCg.Off3 I C D news → ((@Ne Nat I C) ∧ (@Ne Nat I D) ∧ (@Ne Nat C D)) →
      wpAny (model prog w) A (eval elt (compEnvC scope cl C env)) (LCg.CompEnd h₀ L m { s with heap := h, toks := tk } I oI C oC D (LCg.lst ys) S (fun y news' => news' = news ∧ R i y)) E' { s with heap := h, toks := tk })
    (fin : ∀ ys : List Value, ys.length = n → (∀ i y, ys[i]? = some y → R i y) → Fin ys news) : LCg.CompRest prog w A h₀ L m env elt x scope cl s S P Fin n 0 [] news := by
  have key : ∀ (j i : Nat) (ys : List Value), i + j = n → ys.length = i → (∀ i y, ys[i]? = some y → R i y) → LCg.CompRest prog w A h₀ L m env elt x scope cl s S P Fin j i ys news := by
    intro j
    induction j with
    | zero =>
      intro i ys hi hl hy
      exact LCg.CompRest.zero (fin ys (by omega) hy)
    | succ j ih =>
      intro i ys hi hl hy
      refine LCg.CompRest.succ ?_
      intro v I oI C oC D m₂ h tk E' hv hC hx F N off ne
      refine wpAny_mono (turn i v I oI C oC D m₂ ys h tk E' (by omega) hv hC hx F N off ne) (fun y s₂ hq => ?_) fun _ _ e => e
      obtain ⟨h', tk', nw, e, F', N', off', hS, hnw, hR⟩ := hq
      rw [hnw] at N' off' hS
      refine ⟨h', tk', news, e, F', N', off', hS, ih (i + 1) _ (by omega) (by rw [List.length_append, hl]; rfl) ?_⟩
      intro i' y' hy'
      rcases Nat.lt_or_ge i' ys.length with q | q
      · rw [List.getElem?_append_left q] at hy'
        exact hy i' y' hy'
      · rw [List.getElem?_append_right q] at hy'
        have h0 : i' - ys.length = 0 := by
          have := (List.getElem?_eq_some_iff.mp hy').1
          simp at this; omega
        rw [h0] at hy'
        have e1 : i' = i := by omega
        cases hy'
        rw [e1]; exact hR
  exact key n 0 [] (by omega) rfl (fun i y h => by simp at h)
theorem comp_end {I C D : Addr} {oI oC oD : Obj} {y : Value} {h' : Heap} {tk : Nat} {s₁ : Shared} {Rest : Value → Prop} {all : List (Addr × Obj)} (F : Fr h₀ L h' m) (N : News h₀ L h' all) (sub : ∀ p ∈ (I, oI) :: (C, oC) :: (D, oD) :: news, p ∈ all) (off : LCg.Off3 I C D news) (hS : S news) (r : Rest y) :
    LCg.CompEnd h₀ L m s₁ I oI C oC D oD S (fun y news' => news' = news ∧ Rest y) y { s₁ with heap := h', toks := tk } := LCg.CompEnd.intro F N news sub off hS ⟨rfl, r⟩
end
end Mine
namespace Mine
theorem walk_none_Cm6 : True := by
  k_with_none
  trivial
end Mine
open PySem PySem.W PyProof.Rows PySem.Calls
namespace Mine
section
variable {prog : Program} {w : World} {A : Around} {E : Value → Shared → Prop} {s : Shared} {env : Env} {h₀ : Heap} {target : Expr} {body : List Stmt} {Q : Flow → Shared → Prop}
theorem letGo_rev {I l : Addr} {i : Int} {v : Value} {Q' : Unit → Shared → Prop} {s' : Shared} (hit : s'.heap.IsRevIter I l i) (h : Q' () s') :
    wpAny (model prog w) A (letOwnedTupleGo target (.ref I) v) Q' E s' := by
  obtain ⟨o, ho, hc, hd⟩ := hit
  unfold letOwnedTupleGo
  cases target <;> first
    | exact wpAny_pure h
    | (cases v <;> first
        | exact wpAny_pure h
        | (refine wpAny_bind (wpAny_load ho ?_)
           rw [hc, hd]
           exact wpAny_pure h))
/-- a turn's end of the loop over a list from behind: iterator and ledger lie as they lay -/
def TurnEnd6 (h₀ : Heap) (L : Addr) (J : (Str → Option Value) → Prop) (c : Addr × Obj) (nw : List (Addr × Obj)) (s₁ : Shared) (Q : Flow → Shared → Prop) (f : Flow) (s₂ : Shared) : Prop :=
  match f with
  | .ret v => Q (.ret v) s₂
  | .brk => Q .next s₂
  | _ => ∃ h' tk m', s₂ = { s₁ with heap := h', toks := tk } ∧ Fr h₀ L h' m' ∧ News h₀ L h' (c :: nw) ∧ J m'
theorem rev_turns {ax I : Addr} {lo : Obj} {vs : List Value} {n : Nat} {m₀ : Str → Option Value} {nw : List (Addr × Obj)} (J : Nat → (Str → Option Value) → Prop)
    (hh : A.handled = none) (F : Fr h₀ env.locals s.heap m₀) (N : News h₀ env.locals s.heap ((I, revObj ax ((vs.length : Int) - 1)) :: nw)) (hm : (ax, lo) ∈ nw) (hc : lo.cls = .type "list") (hd : lo.data = .seq vs.toArray n) (hoff : ∀ p ∈ nw, p.1 ≠ I) (hj : J 0 m₀)
    (turn : ∀ i v m h tk oI, i < vs.length → vs[vs.length - 1 - i]? = some v → J i m → Fr h₀ env.locals h m → News h₀ env.locals h ((I, oI) :: nw) → wpAny (model prog w) A (assign target env v) (fun _ s₂ => wpAny (model prog w) A (execs body env) (TurnEnd6 h₀ env.locals (J (i + 1)) (I, oI) nw { s with heap := h, toks := tk } Q) E s₂) E { s with heap := h, toks := tk })
    (done : ∀ m h tk, J vs.length m → Fr h₀ env.locals h m → News h₀ env.locals h nw → Q .next { s with heap := h, toks := tk }) :
    wpAny (model prog w) A (pyIter (.ref I)) (fun it s₂ => TurnsAt prog w A h₀ env target body Q E it s₂) E s := by
  have hIx := N _ (List.mem_cons_self ..)
  have hax := N _ (List.mem_cons_of_mem _ hm)
  have hl : s.heap.IsList ax vs.toArray := ⟨lo, hax.1, hc, n, hd⟩
  have hne : ax ≠ I := hoff _ hm
  have hit : s.heap.IsRevIter I ax ((vs.length : Int) - 1) := ⟨_, hIx.1, rfl, rfl⟩
  refine wpAny_pyIter_revIter hit ?_
  have W := Walks.listRev (prog := prog) (w := w) hh I ax hne vs.toArray
  have hlen : vs.toArray.size = vs.length := by simp
  rw [hlen] at W
  refine ⟨I, _, _, vs.length, _, _, _, m₀, nw, fun i m₁ news₁ => news₁ = nw ∧ J i m₁, rfl, KTurns.ofWalks W fun i v s Q E st q => letGo_rev st.2.1 q, ?_, ?_, ?_, ⟨Nat.zero_le _, ?_, hl⟩, F, (fun p hp => N p (List.mem_cons_of_mem _ hp)), ⟨rfl, hj⟩, ?_, ?_⟩
  · intro hmm
    rcases List.mem_cons.mp hmm with e | hmm
    · exact hIx.2.1 e.symm
    · exact hax.2.1 (List.mem_singleton.mp hmm).symm
  · intro b hb
    rw [List.mem_singleton.mp hb]
    exact hIx.2.2
  · intro p hp hI
    exact hoff p hp (List.mem_singleton.mp hI)
  · have e : (vs.length : Int) - 1 - ((0 : Nat) : Int) = (vs.length : Int) - 1 := by omega
    rw [e]
    exact hit
  · rintro i v m₁ news₁ h₁ tk₁ own hin hP ⟨rfl, hJ⟩ hofs hown hget hall hst F₁ N₁
    obtain ⟨oI, hoI, _⟩ := hst.2.1
    have mI : (I, oI) ∈ own := hall _ (by simp) hIx.2.2 _ hoI
    have hP' : vs[vs.length - 1 - i]? = some v := by simpa using hP
    have hin' : ∀ p ∈ own, p = (I, oI) ∨ p ∈ news₁ := fun p hp => by
      have e := hget p hp
      rcases List.mem_cons.mp (hown p hp) with h1 | h1
      · left; rw [h1, hoI] at e; cases e; exact Prod.ext h1 rfl
      · right
        have h2 := List.mem_singleton.mp h1
        have h3 := (N₁ _ (List.mem_append_right _ hm)).1
        dsimp only at h3
        rw [h2, h3] at e; cases e
        have : p = (ax, p.2) := Prod.ext h2 rfl
        rw [this]; exact hm
    refine wpAny_mono (turn i v m₁ h₁ tk₁ oI hin hP' hJ F₁ (fun p hp => by
      rcases List.mem_cons.mp hp with rfl | hp
      · exact N₁ _ (List.mem_append_left _ mI)
      · exact N₁ _ (List.mem_append_right _ hp))) (fun _ s₂ q => wpAny_mono q (fun f s₃ p => ?_) fun _ _ e => e) fun _ _ e => e
    have fin : (∃ h' tk m', s₃ = { ({ s with heap := h₁, toks := tk₁ } : Shared) with heap := h', toks := tk } ∧ Fr h₀ env.locals h' m' ∧ News h₀ env.locals h' ((I, oI) :: news₁) ∧ J (i + 1) m') →
        LoopStepU h₀ env.locals [I] own (fun m₁ n₁ => n₁ = news₁ ∧ J (i + 1) m₁) { s with heap := h₁, toks := tk₁ } .next s₃ := by
      rintro ⟨h', tk, m', e, F', N', hJ'⟩
      refine ⟨rfl, h', tk, m', news₁, e, F', fun p hp => ?_, fun p hp hq => hoff p hp (List.mem_singleton.mp hq), rfl, hJ'⟩
      rcases List.mem_append.mp hp with hp | hp
      · rcases hin' p hp with rfl | hp
        · exact N' _ (.head _)
        · exact N' _ (.tail _ hp)
      · exact N' _ (.tail _ hp)
    cases f with
    | ret v => exact .ret p
    | brk => exact .brk p
    | next => exact .next (fin p)
    | cont => exact .cont (fin p)
  · rintro h' tk m' news' F' N' _ ⟨rfl, hJ⟩
    exact done m' h' tk hJ F' N'
end
end Mine
namespace Mine
theorem walk_none_Rv6 : True := by
  k_with_none
  trivial
end Mine
open PySem PySem.W PyProof.Rows PySem.Calls
namespace Mine
def digs (n : Nat) : List Nat := (Str.ofString (toString (n : Int))).cps.toList
theorem digs_ok100 : (List.range 1000).all (fun n => (digs n).foldl (fun a c => 10 * a + (c - 48)) 0 == n && (digs n).all (fun c => 48 ≤ c && c ≤ 57) && (digs n).length ≤ 3 && !(digs n).isEmpty) = true := by decide +kernel
end Mine
namespace Mine
theorem walk_none_Dg : True := by
  k_with_none
  trivial
end Mine
open PySem PySem.W PyProof.Rows PySem.Calls
namespace Mine
section
variable {prog : Program} {w : World} {A : Around} {E : Value → Shared → Prop} {s : Shared} {env : Env} {h₀ : Heap} {Q : Flow → Shared → Prop}
/-- a while's turn ends: the word holds again, at a smaller measure -/
def WhileEnd (h₀ : Heap) (L : Addr) (J : Nat → (Str → Option Value) → List (Addr × Obj) → Prop) (n : Nat) (s₁ : Shared) (Q : Flow → Shared → Prop) (f : Flow) (s₂ : Shared) : Prop :=
  match f with
  | .ret v => Q (.ret v) s₂
  | .brk => Q .next s₂
  | _ => ∃ n' h' tk m' nw', n' < n ∧ s₂ = { s₁ with heap := h', toks := tk } ∧ Fr h₀ L h' m' ∧ News h₀ L h' nw' ∧ J n' m' nw'
theorem while_here {test : Expr} {body : List Stmt} {pos : Pos} {n₀ : Nat} {m₀ : Str → Option Value} {all news : List (Addr × Obj)} (J : Nat → (Str → Option Value) → List (Addr × Obj) → Prop)
    (hE : PassesOwn (model prog w) A env E) (F : Fr h₀ env.locals s.heap m₀) (N : News h₀ env.locals s.heap all) (hsub : ∀ p ∈ news, p ∈ all) (hj : J n₀ m₀ news)
    (turn : ∀ n m nw h tk, J n m nw → Fr h₀ env.locals h m → News h₀ env.locals h nw → wpAny (model prog w) A (isTrue test env (eval test env)) (fun b s₂ => WhlIf b (wpAny (model prog w) A (execs body env) (WhileEnd h₀ env.locals J n { s with heap := h, toks := tk } Q) E s₂) (wpAny (model prog w) A (execs [] env) Q E s₂)) E { s with heap := h, toks := tk }) :
    wpAny (model prog w) A (exec (.While test body [] pos) env) Q E s := by
  have key : ∀ n m nw h tk, J n m nw → Fr h₀ env.locals h m → News h₀ env.locals h nw → WhlRest prog w A E env test body [] Q 0 { s with heap := h, toks := tk } := by
    intro n
    induction n using Nat.strongRecOn with
    | _ n ih =>
      intro m nw h tk hJ F' N'
      refine whl_turn (k := 0) hE (wpAny_mono (turn n m nw h tk hJ F' N') (fun b s₂ q => ?_) fun _ _ e => e)
      cases b with
      | false => exact q
      | true =>
        have q' : wpAny (model prog w) A (execs body env) (WhileEnd h₀ env.locals J n { s with heap := h, toks := tk } Q) E s₂ := q
        refine WhlIf.yes rfl (wpAny_mono q' (fun f s₃ p => ?_) fun _ _ e => e)
        have fin : (∃ n' h' tk' m' nw', n' < n ∧ s₃ = { ({ s with heap := h, toks := tk } : Shared) with heap := h', toks := tk' } ∧ Fr h₀ env.locals h' m' ∧ News h₀ env.locals h' nw' ∧ J n' m' nw') → WhlRest prog w A E env test body [] Q 0 s₃ := by
          rintro ⟨n', h', tk', m', nw', hn, rfl, F'', N'', hJ'⟩
          exact ih n' hn m' nw' h' tk' hJ' F'' N''
        cases f with
        | ret v => exact p
        | brk => exact p
        | next => exact fin p
        | cont => exact fin p
  exact whl_start 0 (key n₀ m₀ news s.heap s.toks hj F fun p hp => N p (hsub p hp))
end
section
variable {prog : Program} {w : World} {A : Around} {E : Value → Shared → Prop} {s : Shared} {env : Env} {h₀ : Heap} {x : Str} {body : List Stmt} {Q : Flow → Shared → Prop}
/-- a loop over a text -/
theorem str_here {y : Str} {ty : Tok} {m₀ : Str → Option Value} {all news : List (Addr × Obj)} (J : Nat → (Str → Option Value) → List (Addr × Obj) → Prop)
    (hh : A.handled = none) (F : Fr h₀ env.locals s.heap m₀) (N : News h₀ env.locals s.heap all) (hsub : ∀ p ∈ news, p ∈ all) (hj : J 0 m₀ news)
    (turn : ∀ (i c : Nat) t m₁ news₁ h tk own, y.cps.toList[i]? = some c → OwnOff own (news₁.map (·.1)) → J i m₁ news₁ → Fr h₀ env.locals h (fun z => if z = x then some (.str ⟨#[c]⟩ t) else m₁ z) → News h₀ env.locals h (news₁ ++ own) →
      wpAny (model prog w) A (execs body env) (InvPostG h₀ env.locals (J (i + 1)) own { s with heap := h, toks := tk } Q) E { s with heap := h, toks := tk })
    (done : ∀ m₁ news₁ h tk, J y.cps.toList.length m₁ news₁ → Fr h₀ env.locals h m₁ → News h₀ env.locals h news₁ → Q .next { s with heap := h, toks := tk }) :
    wpAny (model prog w) A (pyIter (.str y ty)) (fun it s₂ => LoopHere prog w A h₀ env x body Q E it s₂) E s := by
  have go : ∀ (cn : String) (W : Walks prog w A s.heap.objs.size [s.heap.objs.size] [s.heap.objs.size] y.cps.size (SignAt y) (fun i h => h.IsStrIter s.heap.objs.size cn y ty i)),
      LoopHere prog w A h₀ env x body Q E (.ref s.heap.objs.size) { s with heap := s.heap.push { cls := .type cn, data := .fields #[.str y ty, .int 0 0] } } := by
    intro cn W
    refine kdr_loop J W (fun _ h => h) (fun _ h => h) ?_ ?_ ?_ ?_ ⟨_, Heap.get?_push_size _ rfl, rfl, rfl⟩ (F.push _) (fun p hp => ⟨Heap.get?_push_of_some _ (N p (hsub p hp)).1, (N p (hsub p hp)).2⟩) hj ?_ ?_
    · intro i h hi b hb
      rw [List.mem_singleton.mp hb]
      obtain ⟨o, ho, _⟩ := hi
      exact ⟨o, ho⟩
    · intro hm
      exact absurd F.ns.lt (List.mem_singleton.mp hm ▸ Nat.lt_irrefl _)
    · intro b hb
      rw [List.mem_singleton.mp hb]
      exact next_is_new F
    · intro p hp hI
      exact absurd (Heap.lt_size (N p (hsub p hp)).1) ((List.mem_singleton.mp hI) ▸ Nat.lt_irrefl _)
    · rintro i v m₁ nx h tk own hi ⟨c, u, hc, rfl⟩ hsep hJ F₁ N₁
      exact turn i c u m₁ nx h tk own (by simpa using hc) hsep hJ F₁ N₁
    · intro m₁ nx h tk hJ F₁ N₁
      exact done m₁ nx h tk (by simpa using hJ) F₁ N₁
  cases ha : y.cps.all (· < 128)
  · exact wpAny_pyIter_wide ha (go _ (Walks.strWide hh _ y ty))
  · exact wpAny_pyIter_ascii ha (go _ (Walks.strAscii hh _ y ty))
end
end Mine
namespace Mine
theorem walk_none_Tx6 : True := by
  k_with_none
  trivial
end Mine
open PySem PySem.W PyProof.Rows PySem.Calls
namespace Mine
theorem digs_fold {n : Nat} (h : n < 1000) : (digs n).foldl (fun a c => 10 * a + (c - 48)) 0 = n ∧ (∀ c ∈ digs n, 48 ≤ c ∧ c ≤ 57) ∧ (digs n).length ≤ 3 ∧ digs n ≠ [] := by
  have := List.all_eq_true.mp digs_ok100 n (List.mem_range.mpr h)
  simp only [Bool.and_eq_true, beq_iff_eq, List.all_eq_true, decide_eq_true_eq, Bool.not_eq_true', List.isEmpty_eq_false_iff] at this
  exact ⟨this.1.1.1, this.1.1.2, this.1.2, this.2⟩
theorem str_ext {a b : Str} (h : a.cps.toList = b.cps.toList) : a = b := by
  cases a; cases b
  congr 1
  exact Array.toList_inj.mp h
theorem slen (x : Str) : x.length = x.cps.toList.length := by simp [Str.length]
section
variable {prog : Program} {w : World} {A : Around} {E : Value → Shared → Prop} {s : Shared} {h₀ : Heap} {L : Addr} {m : Str → Option Value} {news : List (Addr × Obj)} {x : Str} {t : Tok}
theorem str_at {value slice : Expr} {k : Int} {u : Tok} {c : Nat} {Q : Value → Shared → Prop} (h0 : 0 ≤ k) (hc : x.cps.toList[k.toNat]? = some c) (hl : x.length ≤ 100000) (h : ∀ t tk, Q (.str ⟨#[c]⟩ t) { s with toks := tk })
    (hs : subscripted slice false (.str x t) (.int k u) = operate [.str x t, .int k u] (getItem (.str x t) (.int k u)) := by with_unfolding_all rfl)
    (ht : ∀ r, letTemporaryGo value (.str x t) r = pure () := by intro _; with_unfolding_all rfl) :
    wpAny (model prog w) A (subscriptTail value slice (.str x t) (.int k u)) Q E s := by
  have hlt : k.toNat < x.cps.toList.length := (List.getElem?_eq_some_iff.mp hc).1
  rw [← slen] at hlt
  have e : Txt.item x k = ⟨#[c]⟩ := by
    rw [beq_iff_eq.mp (item_closes ⟨h0, by omega⟩)]
    have : x.cps.getD k.toNat 0 = c := by
      have h2 : x.cps[k.toNat]? = some c := by simpa using hc
      rw [Array.getD_eq_getD_getElem?, h2]; rfl
    rw [this]
  refine item_str (fitsSsize_of (N := 9223372036854775808) (by omega) (by omega) (Int.le_refl _)) (by omega) (by omega) (fun _ => ?_) hs ht
  rw [e]
  exact h _ _
theorem in_digit {c : Nat} {u : Tok} {Q : Value → Shared → Prop} (hc : 48 ≤ c ∧ c ≤ 57) (h : Q (.bool true) s) : wpAny (model prog w) A (compareOp .In (.str ⟨#[c]⟩ u) (.str (Str.ofString "0123456789") t)) Q E s := by
  refine in_str ?_
  rw [StrLaws.found_one]
  have : c ∈ (Str.ofString "0123456789").cps.toList := by
    show c ∈ [48, 49, 50, 51, 52, 53, 54, 55, 56, 57]
    simp; omega
  rw [decide_eq_true this]; exact h
theorem in_digit_no {c : Nat} {u : Tok} {Q : Value → Shared → Prop} (hc : c < 48) (h : Q (.bool false) s) : wpAny (model prog w) A (compareOp .In (.str ⟨#[c]⟩ u) (.str (Str.ofString "0123456789") t)) Q E s := by
  refine in_str ?_
  rw [StrLaws.found_one]
  have : c ∉ (Str.ofString "0123456789").cps.toList := by
    show c ∉ [48, 49, 50, 51, 52, 53, 54, 55, 56, 57]
    simp; omega
  rw [decide_eq_false this]; exact h
theorem find_digit {c : Nat} (hc : 48 ≤ c ∧ c ≤ 57) : Txt.find (Str.ofString "0123456789") ⟨#[c]⟩ = (c : Int) - 48 := by
  rcases (by omega : c = 48 ∨ c = 49 ∨ c = 50 ∨ c = 51 ∨ c = 52 ∨ c = 53 ∨ c = 54 ∨ c = 55 ∨ c = 56 ∨ c = 57) with h | h | h | h | h | h | h | h | h | h <;> subst h <;> decide +kernel
theorem index_digit {c : Nat} {u : Tok} {Q : Value → Shared → Prop} (hA : A.handled = none) (hc : 48 ≤ c ∧ c ≤ 57) (h : ∀ t tk, Q (.int ((c : Int) - 48) t) { s with toks := tk }) : wpAny (model prog w) A (call (.builtin "str.index") [.str (Str.ofString "0123456789") t, .str ⟨#[c]⟩ u]) Q E s := by
  have e := find_digit hc
  refine index_or hA (fun h1 => ?_) fun _ _ => ?_
  · rw [e] at h1; omega
  · rw [e]; exact h _ _
theorem slice_from {value slice : Expr} {i : Int} {ui : Tok} {Q : Value → Shared → Prop} (hF : Fr h₀ L s.heap m) (hN : News h₀ L s.heap news) (h0 : 0 ≤ i) (h2 : i ≤ x.length) (hl : x.length ≤ 100000)
    (h : ∀ y h' t' k, y.cps.toList = x.cps.toList.drop i.toNat → Fr h₀ L h' m → News h₀ L h' news → Q (.str y t') { s with heap := h', toks := k })
    (hs : subscripted slice false (.str x t) (.ref s.heap.objs.size) = operate [.ref s.heap.objs.size, .str x t] (getItem (.str x t) (.ref s.heap.objs.size)) := by with_unfolding_all rfl)
    (ht : ∀ r, letTemporaryGo value (.str x t) r = pure () := by intro _; with_unfolding_all rfl) :
    wpAny (model prog w) A (subscriptTail value slice (.str x t) (.ref s.heap.objs.size)) Q E { s with heap := s.heap.push { cls := .type "slice", data := .fields #[.int i ui, .none, .none] } } := by
  refine slice_strN_sn hF hN (fun h' t' k F' N' => h _ h' t' k ?_ F' N') hs ht (Nat.le_trans hl (by decide))
  rw [slice_from_eq h0 h2 rfl]
  show ((x.cps.toList.drop i.toNat).take _) = _
  rw [List.take_of_length_le]
  rw [List.length_drop, ← slen]; omega
theorem slice_to {value slice : Expr} {j : Int} {uj : Tok} {Q : Value → Shared → Prop} (hF : Fr h₀ L s.heap m) (hN : News h₀ L s.heap news) (h0 : 0 ≤ j) (h2 : j ≤ x.length) (hl : x.length ≤ 100000)
    (h : ∀ y h' t' k, y.cps.toList = x.cps.toList.take j.toNat → Fr h₀ L h' m → News h₀ L h' news → Q (.str y t') { s with heap := h', toks := k })
    (hs : subscripted slice false (.str x t) (.ref s.heap.objs.size) = operate [.ref s.heap.objs.size, .str x t] (getItem (.str x t) (.ref s.heap.objs.size)) := by with_unfolding_all rfl)
    (ht : ∀ r, letTemporaryGo value (.str x t) r = pure () := by intro _; with_unfolding_all rfl) :
    wpAny (model prog w) A (subscriptTail value slice (.str x t) (.ref s.heap.objs.size)) Q E { s with heap := s.heap.push { cls := .type "slice", data := .fields #[.none, .int j uj, .none] } } := by
  refine slice_strN_ns hF hN (fun h' t' k F' N' => h _ h' t' k ?_ F' N') hs ht (Nat.le_trans hl (by decide))
  rw [beq_iff_eq.mp (slice_closes_toL h0 h2)]
  show ((x.cps.toList.drop 0).take (j - 0).toNat) = _
  rw [List.drop_zero, Int.sub_zero]
theorem slen_at {n : Nat} {Q : Value → Shared → Prop} (hz : x.length = n) (hl : n ≤ 100000) (h : ∀ t tk, Q (.int (n : Int) t) { s with toks := tk }) : wpAny (model prog w) A (call (.builtin "len") [.str x t]) Q E s :=
  len_str (by omega) (by rw [hz]; exact h _ _)
theorem ends_with {y : Str} {pre : List Nat} (h : x.cps.toList = pre ++ y.cps.toList) : Txt.endswith x y = true := by
  have h1 : x.length = pre.length + y.length := by rw [slen, slen, h, List.length_append]
  unfold Txt.endswith
  rw [StrLaws.subAt_eq, h, show x.length - y.length = pre.length by omega, List.drop_left, slen y, List.take_length, h1]
  simp [slen]
end
end Mine
namespace Mine
theorem walk_none_Tx7 : True := by
  k_with_none
  trivial
end Mine
open PySem PySem.W PyProof.Rows PySem.Calls
namespace Mine

/-- place, line and column of a pattern, and whether there is a line feed in it -/
structure Placed (l : List Nat) (p line col : Int) (feed : Bool) : Prop where
  lo : 0 ≤ p
  hi : p ≤ l.length
  line : line = nlCount l p.toNat + 1
  col : col = p - nlLast l p.toNat
  feed : feed = true ↔ 10 ∈ l

theorem lastIdx_none {c : Nat} : ∀ {l : List Nat}, lastIdx c l = none ↔ l.count c = 0
  | [] => by simp [lastIdx]
  | a :: r => by
    have ih := lastIdx_none (c := c) (l := r)
    unfold lastIdx
    cases q : lastIdx c r with
    | some j =>
      have : r.count c ≠ 0 := fun z => by rw [ih.mpr z] at q; cases q
      simp only [List.count_cons]
      constructor
      · intro h; cases h
      · intro h; omega
    | none =>
      have := ih.mp q
      by_cases e : a = c <;> simp [e, List.count_cons, this]

theorem lastIdx_cons (c a : Nat) (r : List Nat) : lastIdx c (a :: r) = match lastIdx c r with | some k => some (k + 1) | none => if a = c then some 0 else none := rfl
theorem Placed.first : Placed [] 0 1 1 false := ⟨by omega, by simp, by simp [nlCount], by simp [nlLast, lastIdx], by simp⟩

section
variable {l : List Nat} {p line col : Int} {feed : Bool} {n : Nat}
theorem take_succ (h : 0 ≤ p) : (n :: l).take (p + 1).toNat = n :: l.take p.toNat := by
  have : (p + 1).toNat = p.toNat + 1 := by omega
  rw [this, List.take_succ_cons]
theorem Placed.behind (P : Placed l p line col feed) (f : Bool) (hf : f = true ↔ 10 ∈ l ++ [n]) : Placed (l ++ [n]) p line col f := by
  have h1 := P.lo
  have h2 := P.hi
  have e : (l ++ [n]).take p.toNat = l.take p.toNat := List.take_append_of_le_length (by omega)
  refine ⟨h1, by simp only [List.length_append, List.length_singleton]; omega, ?_, ?_, hf⟩
  · rw [P.line]; unfold nlCount; rw [e]
  · rw [P.col]; unfold nlLast; rw [e]
theorem Placed.feeds (P : Placed l p line col feed) (f : Bool) (hf : f = true ↔ 10 ∈ 10 :: l) : Placed (10 :: l) (p + 1) (line + 1) col f := by
  have h1 := P.lo
  have h2 := P.hi
  have e := take_succ (n := 10) (l := l) h1
  refine ⟨by omega, by simp only [List.length_cons]; omega, ?_, ?_, hf⟩
  · rw [P.line]; unfold nlCount; rw [e, List.count_cons]; simp
  · rw [P.col]; unfold nlLast; rw [e, lastIdx_cons]
    cases q : lastIdx 10 (l.take p.toNat) with
    | some k => dsimp only; omega
    | none => simp
theorem Placed.other (P : Placed l p line col feed) (f : Bool) (hn : n ≠ 10) (h1' : line = 1) (hf : f = true ↔ 10 ∈ n :: l) : Placed (n :: l) (p + 1) line (col + 1) f := by
  have h1 := P.lo
  have h2 := P.hi
  have e := take_succ (n := n) (l := l) h1
  have z : lastIdx 10 (l.take p.toNat) = none := lastIdx_none.mpr (by have := P.line; unfold nlCount at this; omega)
  refine ⟨by omega, by simp only [List.length_cons]; omega, ?_, ?_, hf⟩
  · rw [P.line]; unfold nlCount; rw [e, List.count_cons]; simp [hn]
  · rw [P.col]; unfold nlLast; rw [e, lastIdx_cons, z]; simp [hn]
theorem Placed.further (P : Placed l p line col feed) (f : Bool) (hn : n ≠ 10) (h1' : line ≠ 1) (hf : f = true ↔ 10 ∈ n :: l) : Placed (n :: l) (p + 1) line col f := by
  have h1 := P.lo
  have h2 := P.hi
  have e := take_succ (n := n) (l := l) h1
  refine ⟨by omega, by simp only [List.length_cons]; omega, ?_, ?_, hf⟩
  · rw [P.line]; unfold nlCount; rw [e, List.count_cons]; simp [hn]
  · rw [P.col]; unfold nlLast; rw [e, lastIdx_cons]
    cases q : lastIdx 10 (l.take p.toNat) with
    | some k => dsimp only; omega
    | none =>
      have := lastIdx_none.mp q
      exact absurd (by rw [P.line]; unfold nlCount; omega) h1'
theorem Placed.bounds (P : Placed l p line col feed) : 0 ≤ line ∧ line ≤ p + 1 ∧ 0 ≤ col ∧ col ≤ p + 1 := by
  have h1 := P.lo
  have h3 := nlCount_bound l p.toNat
  have h4 := nlLast_bound l p.toNat
  have h5 := P.line
  have h6 := P.col
  omega
end
end Mine
namespace Mine
theorem walk_none_Pl1 : True := by
  k_with_none
  trivial
end Mine
open PySem PySem.W PyProof.Rows PySem.Calls
namespace Mine
/-- the lines with a line feed between any two -/
def joinN : List (List Nat) → List Nat
  | [] => []
  | [l] => l
  | l :: r :: q => l ++ 10 :: joinN (r :: q)
theorem lastIdx_app (c : Nat) (m : List Nat) : ∀ l : List Nat, lastIdx c (l ++ m) = match lastIdx c m with | some j => some (l.length + j) | none => lastIdx c l
  | [] => by
    rw [List.nil_append]
    cases lastIdx c m <;> simp [lastIdx]
  | a :: r => by
    rw [List.cons_append, lastIdx_cons, lastIdx_app c m r]
    cases q : lastIdx c m with
    | some j => dsimp only; rw [List.length_cons]; congr 1; omega
    | none => dsimp only; rw [lastIdx_cons]
theorem no_count {l : List Nat} (h : 10 ∉ l) : l.count 10 = 0 := List.count_eq_zero.mpr h
theorem no_last {l : List Nat} (h : 10 ∉ l) : lastIdx 10 l = none := lastIdx_none.mpr (no_count h)
theorem no_take {l : List Nat} (h : 10 ∉ l) (p : Nat) : 10 ∉ l.take p := fun q => h (List.mem_of_mem_take q)
theorem join_feed : ∀ (ls : List (List Nat)), (∀ l ∈ ls, 10 ∉ l) → (10 ∈ joinN ls ↔ 1 < ls.length)
  | [], _ => by simp [joinN]
  | [l], h => by
    have := h l (.head _)
    simp [joinN, this]
  | l :: r :: q, _ => by simp [joinN]
theorem join_flat (l : List Nat) : ∀ r : List (List Nat), joinN (l :: r) = l ++ (r.map (10 :: ·)).flatten
  | [] => by simp [joinN]
  | a :: q => by
    show l ++ 10 :: joinN (a :: q) = _
    rw [join_flat a q]; simp
def totN (ls : List (List Nat)) : Nat := (ls.map fun l => l.length + 1).sum
/-- place, line and column by the lines -/
theorem place_at : ∀ (ls : List (List Nat)) (i j : Nat) (hi : i < ls.length), (∀ l ∈ ls, 10 ∉ l) → j ≤ (ls[i]).length → nlCount (joinN ls) (totN (ls.take i) + j) = i ∧ ((totN (ls.take i) + j : Nat) : Int) - nlLast (joinN ls) (totN (ls.take i) + j) = (j : Int) + 1
  | [], _, _, hi, _, _ => absurd hi (Nat.not_lt_zero _)
  | l :: r, 0, j, _, hn, hj => by
    have h10 := hn l (.head _)
    have e0 : totN ((l :: r).take 0) + j = j := by simp [totN]
    have hj' : j ≤ l.length := hj
    have et : (joinN (l :: r)).take j = l.take j := by
      cases r with
      | nil => rfl
      | cons a q => exact List.take_append_of_le_length hj'
    rw [e0]
    unfold nlCount nlLast
    rw [et, no_count (no_take h10 j), no_last (no_take h10 j)]
    simp
  | l :: [], i + 1, _, hi, _, _ => by simp at hi
  | l :: a :: q, i + 1, j, hi, hn, hj => by
    have h10 := hn l (.head _)
    have hi' : i < (a :: q).length := by simpa using hi
    have ih := place_at (a :: q) i j hi' (fun x hx => hn x (.tail _ hx)) (by simpa using hj)
    obtain ⟨u, hu⟩ : ∃ u, u = totN ((a :: q).take i) + j := ⟨_, rfl⟩
    rw [← hu] at ih
    have e0 : totN ((l :: a :: q).take (i + 1)) + j = l.length + 1 + u := by
      rw [List.take_succ_cons, hu]
      simp only [totN, List.map_cons, List.sum_cons]
      omega
    rw [e0]
    have ej : joinN (l :: a :: q) = l ++ 10 :: joinN (a :: q) := rfl
    have et : (joinN (l :: a :: q)).take (l.length + 1 + u) = l ++ 10 :: (joinN (a :: q)).take u := by
      rw [ej, List.take_append, List.take_of_length_le (by omega), show l.length + 1 + u - l.length = u + 1 by omega, List.take_succ_cons]
    unfold nlCount nlLast at ih ⊢
    rw [et, List.count_append, no_count h10, lastIdx_app, lastIdx_cons]
    obtain ⟨ih1, ih2⟩ := ih
    rw [List.count_cons]
    cases q2 : lastIdx 10 ((joinN (a :: q)).take u) with
    | some k => rw [q2] at ih2; simp at ih1 ih2 ⊢; omega
    | none => rw [q2] at ih2; simp at ih1 ih2 ⊢; omega
theorem joinN_len : ∀ ls : List (List Nat), (joinN ls).length ≤ totN ls
  | [] => by simp [joinN]
  | [l] => by simp [joinN, totN]
  | l :: a :: q => by
    have := joinN_len (a :: q)
    simp only [joinN, totN, List.length_append, List.length_cons, List.map_cons, List.sum_cons] at this ⊢
    omega
theorem totN_le {ls : List (List Nat)} (h : ∀ l ∈ ls, l.length ≤ 9) : totN ls ≤ 10 * ls.length := by
  induction ls with
  | nil => simp [totN]
  | cons a r ih =>
    have h1 := h a (.head _)
    have h2 := ih fun l hl => h l (.tail _ hl)
    simp only [totN, List.map_cons, List.sum_cons, List.length_cons] at h2 ⊢
    omega
end Mine
namespace Mine
theorem walk_none_Jn : True := by
  k_with_none
  trivial
end Mine
open PySem PySem.W PyProof.Rows PySem.Calls
namespace Mine
open Builtin Builtin.Bytes
theorem F.slot_b_join : Slot "bytes" "join" "bytes.join" :=
  .of (owner := "bytes") (n := "join") (by rw [typeLookup_type, builtinLookup_eq_fast]; kernel_rfl) (by decide +kernel) (by decide +kernel) (by decide +kernel)
    (by first | exact .inl (by decide +kernel) | exact .inr (by decide +kernel)) (by rw [isSubtype_type]; kernel_rfl)
theorem F.type_b_join : typeOf (.builtin "bytes.join") = pure (.type "method_descriptor") := by show builtinType _ = _; rw [builtinType_eq_fast]; kernel_rfl
theorem F.entry_b_join : entryFor table "bytes.join" = some Builtin.«bytes.join» := entryFor_of_tree (by kernel_rfl)
theorem F.args_b_join_2 (a b : Value) : argsOk "bytes.join" ⟨[a, b], []⟩ := by unfold argsOk; kernel_rfl
theorem bm_join {A : Around} {E : Value → Shared → Prop} {s : Shared} {t : Tok} {M : Model} {b : Array UInt8} {pl : Sem Bool} {Q : Value × List Value → Shared → Prop} (h : Q (.builtin "bytes.join", [.bytes b t]) s) : wpAny M A (getMethod (.bytes b t) "join" pl) Q E s := by
  with_reducible exact KBd.method_of (.bytes b t) (typeIs_bytes _ _ _) F.slot_b_join F.type_b_join KBd.noRef h
theorem take_b (b : Array UInt8) (t : Tok) : takeBufferQuiet? "bytes.join" (.bytes b t) 0 = pure (some (b, none)) := by kernel_rfl
section
variable {prog : Program} {w : World} {A : Around} {E : Value → Shared → Prop} {s : Shared} {t : Tok} {D : Addr} {o : Obj} {k : Nat} {b1 b2 b3 b4 : Array UInt8} {t1 t2 t3 t4 : Tok}
theorem bj1 {Q : Fin → Shared → Prop} (ho : s.heap.get? D = some o) (hc : o.cls = .type "list") (hd : o.data = .seq #[.bytes b1 t1] k) (hq : Q (.done (.ret (.bytes b1 t1))) s) :
    wpAny (model prog w) A (Builtin.«bytes.join» ⟨[.bytes #[10] t, .ref D], []⟩) Q E s := by
  unfold Builtin.«bytes.join» Builtin.Bytes.joinM Builtin.Bytes.joinItems
  repeat (first | (with_reducible refine wpAny_seqItems ho hd ?_) | (with_reducible refine wpAny_loadPart_at ho ?_; rw [hc]) | wp_step)
  exact hq
theorem bj2 {Q : Fin → Shared → Prop} (ho : s.heap.get? D = some o) (hc : o.cls = .type "list") (hd : o.data = .seq #[.bytes b1 t1, .bytes b2 t2] k) (h1 : b1.size ≤ 9) (h2 : b2.size ≤ 9) (hq : ∀ t tk, Q (.done (.ret (.bytes (joined #[10] [b1, b2]) t))) { s with toks := tk }) :
    wpAny (model prog w) A (Builtin.«bytes.join» ⟨[.bytes #[10] t, .ref D], []⟩) Q E s := by
  unfold Builtin.«bytes.join» Builtin.Bytes.joinM Builtin.Bytes.joinItems
  repeat (first | ((with_reducible show wpAny _ _ (takeBufferQuiet? _ _ _) _ _ _); first | refine wpAny_of_eq (take_b b1 t1) ?_ | refine wpAny_of_eq (take_b b2 t2) ?_) | (rw [Std.Legacy.Range.forIn_eq_forIn_range']; simp only [Std.Legacy.Range.size, List.size_toArray, List.length_cons, List.length_nil, Nat.reduceAdd, Nat.reduceSub, Nat.reduceDiv, List.range', List.forIn_cons, List.forIn_nil]) | (with_reducible refine wpAny_seqItems ho hd ?_) | (with_reducible refine wpAny_loadPart_at ho ?_; rw [hc]) | wp_step)
  rw [if_neg (by
    have hz : (200 : Nat) ≤ sizeLine := by decide
    simp [tooLong]
    omega)]
  repeat (first | wp_step)
  rw [if_neg (by
    have hz : (200 : Nat) ≤ sizeLine := by decide
    simp [joined]
    omega)]
  repeat (first | wp_step)
  exact hq _ _
theorem bj3 {Q : Fin → Shared → Prop} (ho : s.heap.get? D = some o) (hc : o.cls = .type "list") (hd : o.data = .seq #[.bytes b1 t1, .bytes b2 t2, .bytes b3 t3] k) (h1 : b1.size ≤ 9) (h2 : b2.size ≤ 9) (h3 : b3.size ≤ 9) (hq : ∀ t tk, Q (.done (.ret (.bytes (joined #[10] [b1, b2, b3]) t))) { s with toks := tk }) :
    wpAny (model prog w) A (Builtin.«bytes.join» ⟨[.bytes #[10] t, .ref D], []⟩) Q E s := by
  unfold Builtin.«bytes.join» Builtin.Bytes.joinM Builtin.Bytes.joinItems
  repeat (first | ((with_reducible show wpAny _ _ (takeBufferQuiet? _ _ _) _ _ _); first | refine wpAny_of_eq (take_b b1 t1) ?_ | refine wpAny_of_eq (take_b b2 t2) ?_ | refine wpAny_of_eq (take_b b3 t3) ?_) | (rw [Std.Legacy.Range.forIn_eq_forIn_range']; simp only [Std.Legacy.Range.size, List.size_toArray, List.length_cons, List.length_nil, Nat.reduceAdd, Nat.reduceSub, Nat.reduceDiv, List.range', List.forIn_cons, List.forIn_nil]) | (with_reducible refine wpAny_seqItems ho hd ?_) | (with_reducible refine wpAny_loadPart_at ho ?_; rw [hc]) | wp_step)
  rw [if_neg (by
    have hz : (200 : Nat) ≤ sizeLine := by decide
    simp [tooLong]
    omega)]
  repeat (first | wp_step)
  rw [if_neg (by
    have hz : (200 : Nat) ≤ sizeLine := by decide
    simp [joined]
    omega)]
  repeat (first | wp_step)
  exact hq _ _
theorem bj4 {Q : Fin → Shared → Prop} (ho : s.heap.get? D = some o) (hc : o.cls = .type "list") (hd : o.data = .seq #[.bytes b1 t1, .bytes b2 t2, .bytes b3 t3, .bytes b4 t4] k) (h1 : b1.size ≤ 9) (h2 : b2.size ≤ 9) (h3 : b3.size ≤ 9) (h4 : b4.size ≤ 9) (hq : ∀ t tk, Q (.done (.ret (.bytes (joined #[10] [b1, b2, b3, b4]) t))) { s with toks := tk }) :
    wpAny (model prog w) A (Builtin.«bytes.join» ⟨[.bytes #[10] t, .ref D], []⟩) Q E s := by
  unfold Builtin.«bytes.join» Builtin.Bytes.joinM Builtin.Bytes.joinItems
  repeat (first | ((with_reducible show wpAny _ _ (takeBufferQuiet? _ _ _) _ _ _); first | refine wpAny_of_eq (take_b b1 t1) ?_ | refine wpAny_of_eq (take_b b2 t2) ?_ | refine wpAny_of_eq (take_b b3 t3) ?_ | refine wpAny_of_eq (take_b b4 t4) ?_) | (rw [Std.Legacy.Range.forIn_eq_forIn_range']; simp only [Std.Legacy.Range.size, List.size_toArray, List.length_cons, List.length_nil, Nat.reduceAdd, Nat.reduceSub, Nat.reduceDiv, List.range', List.forIn_cons, List.forIn_nil]) | (with_reducible refine wpAny_seqItems ho hd ?_) | (with_reducible refine wpAny_loadPart_at ho ?_; rw [hc]) | wp_step)
  rw [if_neg (by
    have hz : (200 : Nat) ≤ sizeLine := by decide
    simp [tooLong]
    omega)]
  repeat (first | wp_step)
  rw [if_neg (by
    have hz : (200 : Nat) ≤ sizeLine := by decide
    simp [joined]
    omega)]
  repeat (first | wp_step)
  exact hq _ _
end
/-- the codes of a text or of bytes -/
def codesV : Value → List Nat
  | .str z _ => z.cps.toList
  | .bytes b _ => codes b
  | _ => []
def LineB (y : Value) : Prop := ∃ z t, y = Value.bytes z t ∧ z.size ≤ 9 ∧ 10 ∉ codes z
theorem codes_join2 (a b : Array UInt8) : codes (joined #[10] [a, b]) = joinN [codes a, codes b] := by simp [joined, codes, joinN]
theorem codes_join3 (a b c : Array UInt8) : codes (joined #[10] [a, b, c]) = joinN [codes a, codes b, codes c] := by simp [joined, codes, joinN]
theorem codes_join4 (a b c d : Array UInt8) : codes (joined #[10] [a, b, c, d]) = joinN [codes a, codes b, codes c, codes d] := by simp [joined, codes, joinN]
theorem join_bytes {prog : Program} {w : World} {A : Around} {E : Value → Shared → Prop} {s : Shared} {t : Tok} {D : Addr} {ys : List Value} {Q : Value → Shared → Prop} (hl : s.heap.IsList D ys.toArray) (h1 : 1 ≤ ys.length) (h4 : ys.length ≤ 4) (hB : ∀ (i : Nat) (y : Value), ys[i]? = some y → LineB y)
    (h : ∀ y t' k, codes y = joinN (ys.map codesV) → Q (.bytes y t') { s with toks := k }) : wpAny (model prog w) A (call (.builtin "bytes.join") [.bytes #[10] t, .ref D]) Q E s := by
  obtain ⟨o, ho, hc, k, hd⟩ := hl
  refine wpAny_call_entry F.slot_b_join (typeIs_bytes _ _ _) F.entry_b_join ?_ (F.args_b_join_2 _ _)
  match ys, h1, h4, hB, hd, h with
  | [y1], _, _, hB, hd, h =>
    obtain ⟨z1, t1, rfl, a1, _⟩ := hB 0 y1 rfl
    exact bj1 ho hc hd ⟨_, rfl, h _ _ _ (by simp [joinN, codesV])⟩
  | [y1, y2], _, _, hB, hd, h =>
    obtain ⟨z1, t1, rfl, a1, _⟩ := hB 0 y1 rfl
    obtain ⟨z2, t2, rfl, a2, _⟩ := hB 1 y2 rfl
    exact bj2 ho hc hd a1 a2 fun _ _ => ⟨_, rfl, h _ _ _ (codes_join2 _ _)⟩
  | [y1, y2, y3], _, _, hB, hd, h =>
    obtain ⟨z1, t1, rfl, a1, _⟩ := hB 0 y1 rfl
    obtain ⟨z2, t2, rfl, a2, _⟩ := hB 1 y2 rfl
    obtain ⟨z3, t3, rfl, a3, _⟩ := hB 2 y3 rfl
    exact bj3 ho hc hd a1 a2 a3 fun _ _ => ⟨_, rfl, h _ _ _ (codes_join3 _ _ _)⟩
  | [y1, y2, y3, y4], _, _, hB, hd, h =>
    obtain ⟨z1, t1, rfl, a1, _⟩ := hB 0 y1 rfl
    obtain ⟨z2, t2, rfl, a2, _⟩ := hB 1 y2 rfl
    obtain ⟨z3, t3, rfl, a3, _⟩ := hB 2 y3 rfl
    obtain ⟨z4, t4, rfl, a4, _⟩ := hB 3 y4 rfl
    exact bj4 ho hc hd a1 a2 a3 a4 fun _ _ => ⟨_, rfl, h _ _ _ (codes_join4 _ _ _ _)⟩
  | [], h1, _, _, _, _ => simp at h1
  | _ :: _ :: _ :: _ :: _ :: _, _, h4, _, _, _ => simp at h4
end Mine
namespace Mine
theorem walk_none_Bj6 : True := by
  k_with_none
  trivial
end Mine
open PySem PySem.W PyProof.Rows PySem.Calls
namespace Mine
theorem walk_lines_4 : True := by
  k_with "exec For" => (k_here; (with_reducible show wpAny _ _ (exec (Stmt.For (Expr.Name _ _) _ _ _ _) _) _ _ _); k_dflt (refine' For_here (by k_asm) (by rfl) (by rfl) ?_))
  k_with "exec For Name Name cons nil" => (k_here; (with_reducible show wpAny _ _ (exec (Stmt.For (Expr.Name _ _) _ _ _ _) _) _ _ _); k_dflt (refine' For_here (by k_asm) (by rfl) (by rfl) ?_))
  k_with "exec For Name Call cons nil" => (k_here; (with_reducible show wpAny _ _ (exec (Stmt.For (Expr.Name _ _) _ _ _ _) _) _ _ _); k_dflt (refine' For_here (by k_asm) (by rfl) (by rfl) ?_))
  k_with "exec For Name Subscript cons nil" => (k_here; (with_reducible show wpAny _ _ (exec (Stmt.For (Expr.Name _ _) _ _ _ _) _) _ _ _); k_dflt (refine' For_here (by k_asm) (by rfl) (by rfl) ?_))
  k_with "exec While" => (refine halt ?_)
  k_with "exec While BoolOp cons nil" => (refine halt ?_)
  k_with "call builtin:len" => (k_here; (with_reducible show wpAny _ _ (call (Value.builtin "len") [Value.str _ _]) _ _ _); k_dflt (refine' slen_at (by assumption) (by assumption) ?_; k_whole; intro _ _))
  k_with "subscriptTail Name BinOp str int" => (k_here; k_dflt (refine' str_at (by omega) (by assumption) (by assumption) ?_ (by with_unfolding_all rfl) (by (intro _; with_unfolding_all rfl)); k_whole; intro _ _))
  k_with "compareOp In str str" => (k_here; k_dflt (first | (refine' in_digit (by assumption) ?_; k_whole) | (refine' in_digit_no (by assumption) ?_; k_whole)))
  k_with "subscriptTail Name Slice str ref" => (k_here; (with_reducible show wpAny _ _ (subscriptTail _ (Expr.Slice (some _) none none _) _ _) _ _ _); (with_reducible rename Fr _ _ _ _ => F'); (with_reducible rename News _ _ _ _ => N'); k_dflt (refine' slice_from (s := ⟨_, _, _, _, _⟩) F' N' (by omega) (by omega) (by assumption) ?_ (by with_unfolding_all rfl) (by (intro _; with_unfolding_all rfl)); k_whole; intro _ _ _ _ _ F' N'))
  k_with "subscriptTail Name Slice str ref" => (k_here; (with_reducible show wpAny _ _ (subscriptTail _ (Expr.Slice none (some _) none _) _ _) _ _ _); (with_reducible rename Fr _ _ _ _ => F'); (with_reducible rename News _ _ _ _ => N'); k_dflt (refine' slice_to (s := ⟨_, _, _, _, _⟩) F' N' (by omega) (by omega) (by assumption) ?_ (by with_unfolding_all rfl) (by (intro _; with_unfolding_all rfl)); k_whole; intro _ _ _ _ _ F' N'))
  k_with "call builtin:str.index" => (k_here; k_dflt (refine' index_digit (by rfl) (by assumption) ?_; k_whole; intro _ _))
  trivial
theorem drop_eq {W : Str} {P D : List Nat} (h : W.cps.toList = P ++ D) : List.drop ((P.length : Int)).toNat W.cps.toList = D := by
  rw [h, Int.toNat_natCast, List.drop_left]
theorem val_bound (D : List Nat) (i : Nat) (h : ∀ c ∈ D, 48 ≤ c ∧ c ≤ 57) (hl : D.length ≤ 3) : (D.take i).foldl (fun a c => 10 * a + (c - 48)) 0 < 1000 := by
  have h2 : ∀ c ∈ D.take i, 48 ≤ c ∧ c ≤ 57 := fun c hc => h c (List.mem_of_mem_take hc)
  have h3 : (D.take i).length ≤ 3 := by rw [List.length_take]; omega
  generalize D.take i = l at h2 h3
  match l, h2, h3 with
  | [], _, _ => simp
  | [a], h2, _ => have := h2 a (by simp); simp; omega
  | [a, b], h2, _ => have := h2 a (by simp); have := h2 b (by simp); simp; omega
  | [a, b, c], h2, _ => have := h2 a (by simp); have := h2 b (by simp); have := h2 c (by simp); simp; omega
  | _ :: _ :: _ :: _ :: _, _, h3 => simp at h3
def JSg (W ah : Str) (tw ta : Tok) (pl : Nat) (tk : Tok) (D : List Nat) (i : Nat) (m : Str → Option Value) (nw : List (Addr × Obj)) : Prop :=
  ∃ tn, m (Str.ofString "words") = some (Value.str W tw) ∧ m (Str.ofString "ahead") = some (Value.str ah ta) ∧ m (Str.ofString "k") = some (Value.int (pl : Int) tk) ∧ m (Str.ofString "number") = some (Value.int (((D.take i).foldl (fun a c => 10 * a + (c - 48)) 0 : Nat) : Int) tn) ∧ nw = []
theorem take_eq {W : Str} {P D : List Nat} (h : W.cps.toList = P ++ D) : List.take ((P.length : Int)).toNat W.cps.toList = P := by
  rw [h, Int.toNat_natCast, List.take_left]
theorem sg_val {D : List Nat} {i v c : Nat} {t : Tok} (hv : v = (D.take i).foldl (fun a c => 10 * a + (c - 48)) 0) (hc : D[i]? = some c) (hcc : 48 ≤ c ∧ c ≤ 57) : some (Value.int (10 * (v : Int) + ((c : Int) - 48)) t) = some (Value.int (((D.take (i + 1)).foldl (fun a c => 10 * a + (c - 48)) 0 : Nat) : Int) t) := by
  rw [List.take_add_one, hc, List.foldl_append, ← hv]
  congr 2
  show (10 * (v : Int) + ((c : Int) - 48)) = ((10 * v + (c - 48) : Nat) : Int)
  omega
section
variable {prog : Program} {w : World} {A : Around} {E : Value → Shared → Prop} {s : Shared}
theorem ne_dig {y : Str} {n k : Nat} {Wl : List Nat} {t u : Tok} {Q : Value → Shared → Prop} (hy : y.cps.toList = List.drop k Wl) (hd : List.drop k Wl = digs n) (h : Q (.bool false) s) : wpAny (model prog w) A (compareOp .NotEq (.str (Str.ofString (toString ((n : Nat) : Int))) t) (.str y u)) Q E s := by
  refine ne_str ?_
  have e : Str.ofString (toString ((n : Nat) : Int)) = y := str_ext (hy.trans hd).symm
  rw [e]
  simpa using h
theorem ends_dig {y ah : Str} {k : Nat} {Wl pl : List Nat} {t u : Tok} {Q : Value → Shared → Prop} (hy : y.cps.toList = List.take k Wl) (hd : List.take k Wl = pl ++ ah.cps.toList) (h : Q (.bool true) s) : wpAny (model prog w) A (call (.builtin "str.endswith") [.str y t, .str ah u]) Q E s :=
  SC.endswith (by rw [ends_with (hy.trans hd)]; exact h)
end
theorem walk_lines_5 : True := by
  k_with "compareOp NotEq str str" => (k_here; k_dflt (refine' ne_dig (by assumption) (by assumption) ?_; k_whole))
  k_with "call builtin:str.endswith" => (k_here; k_dflt (refine' ends_dig (by assumption) (by assumption) ?_; k_whole))
  trivial
theorem k_less {P d : Nat} {t : Tok} : some (Value.int (((P + (d + 1) : Nat) : Int) - 1) t) = some (Value.int ((P + d : Nat) : Int) t) := by
  congr 2
  omega
def JWh (W ah : Str) (tw ta : Tok) (pl dl : Nat) (d : Nat) (m : Str → Option Value) (nw : List (Addr × Obj)) : Prop :=
  ∃ tk, m (Str.ofString "words") = some (Value.str W tw) ∧ m (Str.ofString "ahead") = some (Value.str ah ta) ∧ m (Str.ofString "k") = some (Value.int ((pl + d : Nat) : Int) tk) ∧ nw = [] ∧ d ≤ dl
theorem cut_call {w : World} {dp un : Nat} {gd : Option (List Code)} {cn : Str} {cs : Scope} {a : Addr} {ccd : Value} {cl : List (Str × Addr)} {outer : List Env} {A₀ : Around} {base h₀ : Heap} {L : Addr} {m : Str → Option Value} {s : Shared} {Q E : Value → Shared → Prop}
  {mean : ExcName → Option Value} {mg mb : Str → Option Value} {W ah pre : Str} {tw ta : Tok} {n : Nat} {ap : List Nat}
  (B : Below A₀ base outer h₀) (F : Fr h₀ L s.heap m) (X : (hd.heap_39 w.params).In h₀) (T : Top hd.view_39 (looseW hd.view_39 [Str.ofString "PatternError"]) mean mg mb h₀) (hk : cs.kind = .function)
  (hdp : dp + 1 < recursionLimit) (hW : W.cps.toList = pre.cps.toList ++ ah.cps.toList ++ digs n) (hn : n < 1000) (hl : W.length ≤ 100000) (ha : ah.cps.toList = ap ++ [32])
  (ret : ∀ (r : Addr) (t1 t2 : Tok) (h' : Heap) (tk : Nat), s.heap.StaysIn h' → s.heap.get? r = none → h'.get? r = some (tupOf [.str pre t1, .int (n : Int) t2]) → Q (.ref r) { s with heap := h', toks := tk }) :
  wpAny (model PySem.Challenge.rw_dn0146_06.row.prog w) (ktrTop dp un gd cn cs L a ccd cl outer) (call (.ref 49) [.str W tw, .str ah ta]) Q E s := by
  revert X; k_fill; intro X
  refine wpAny_call ?_
  k_dflt (refine' enter_pure ?k1 ?k2 ?k3 ?k5 ?kA ?kF ?kK ?k6 ?k7 ?k8 ?k9 ?kB ?_ ?c2 ?c3 ?c4 ?c5; (case kA => exact rfl); (case kF => exact rfl); (case kK => assumption); (case k1 => k_asm); (case k2 => k_asm); (case k3 => k_asm); (case k5 => k_asm); (case k6 => k_is); (case k7 => k_is); (case k8 => ktr_room); (case k9 => exact BindsTo.of_eq rfl); (case c5 => decide); (case kB => exact locs rfl); (case c2 => exact rfl); (case c3 => exact rfl); (case c4 => exact rfl); intro L' h' F' N' B' X' T'; (try dsimp only); (try k_fold))
  obtain ⟨hd1, hd2, hd3, hd4⟩ := digs_fold hn
  obtain ⟨P, hP⟩ : ∃ P, P = pre.cps.toList ++ ah.cps.toList := ⟨_, rfl⟩
  have hW2 : W.cps.toList = P ++ digs n := by rw [hP]; exact hW
  have hwl : W.length = P.length + (digs n).length := by rw [slen, hW2, List.length_append]
  have hwl2 : P.length + (digs n).length ≤ 100000 := by omega
  have hal : ah.length = ap.length + 1 := by rw [slen, ha, List.length_append]; rfl
  have hPl : P.length = pre.length + ah.length := by rw [hP, List.length_append, ← slen, ← slen]
  have hPn : ah.length ≤ 100000 := by omega
  k_steps
  unfold Halt
  rename News _ _ _ _ => N1
  rename Fr _ _ _ _ => F1
  refine while_here (n₀ := (digs n).length) (JWh W ah tw ta P.length (digs n).length) ?wE F1 N1 (fun _ hp => hp) ?wj ?wt
  case wE => passes_own
  case wj => exact ⟨_, rfl, rfl, rfl, rfl, Nat.le_refl _⟩
  case wt =>
    clear F1 N1
    intro d m₁ nw h tk hJ F1 N1
    obtain ⟨tk', hm1, hm2, hm3, rfl, hd⟩ := hJ
    cases d with
    | zero =>
      rw [Nat.add_zero] at hm3
      rw [mapc hm1 (mapc hm2 (mapc hm3 rfl))] at F1
      have hc : W.cps.toList[((P.length : Int) - 1).toNat]? = some 32 := by
        rw [hW2, show ((P.length : Int) - 1).toNat = P.length - 1 by omega, List.getElem?_append_left (by omega), hP, ha]
        rw [← List.append_assoc, List.getElem?_append_right (by simp)]
        simp
      have h32 : (32 : Nat) < 48 := by decide
      k_steps
      rename News _ _ _ _ => N2
      rename Fr _ _ _ _ => F2
      rename _ = List.drop _ _ => hy
      have hyd := hy.trans (drop_eq hW2)
      clear hy
      refine str_here (JSg W ah tw ta P.length tk' (digs n)) ?sh F2 N2 (fun _ hp => hp) ?sj ?st ?sd
      case sh => rfl
      case sj => exact ⟨_, rfl, rfl, rfl, rfl, rfl⟩
      case st =>
        clear F2 N2
        intro i c tc m₂ news₂ h2 tk2 own hci ho hJ F1 N1
        obtain ⟨tn, hm1, hm2, hm3, hm4, rfl⟩ := hJ
        rw [mapc hm1 (mapc hm2 (mapc hm3 (mapc hm4 rfl)))] at F1
        rw [hyd] at hci
        have hcc := hd2 c (List.mem_of_getElem? hci)
        replace N1 : News s.heap L' h2 own := N1
        have hvb := val_bound (digs n) i hd2 hd3
        obtain ⟨v, hv⟩ : ∃ v, v = ((digs n).take i).foldl (fun a c => 10 * a + (c - 48)) 0 := ⟨_, rfl⟩
        rw [← hv] at hvb F1
        k_steps
        rename News _ _ _ _ => N9
        rename Fr _ _ _ _ => F9
        refine InvEndG.intro F9 N9 (nx := []) ⟨_, rfl, rfl, rfl, sg_val hv hci hcc, rfl⟩ (fun _ _ _ hb => (nomatch hb)) (fun _ hp => (nomatch hp)) (fun _ hp => hp)
      case sd =>
        clear F2 N2
        intro m₂ news₂ h2 tk2 hJ F1 N1
        obtain ⟨tn, hm1, hm2, hm3, hm4, rfl⟩ := hJ
        rw [hyd, List.take_length, hd1] at hm4
        rw [mapc hm1 (mapc hm2 (mapc hm3 (mapc hm4 rfl)))] at F1
        have hdr := drop_eq hW2
        have htk := take_eq hW2
        rw [hP] at htk
        rw [← hP] at htk
        have htk2 : List.take ((P.length : Int)).toNat W.cps.toList = pre.cps.toList ++ ah.cps.toList := by rw [htk, hP]
        have htk3 : List.take ((P.length : Int) - (ah.length : Int)).toNat W.cps.toList = pre.cps.toList := by
          rw [hW, show ((P.length : Int) - (ah.length : Int)).toNat = pre.cps.toList.length by rw [← slen]; omega, List.append_assoc, List.take_left]
        k_steps
        rename News _ _ _ _ => N9
        rename Fr _ _ _ _ => F9
        rename _ = List.take ((P.length : Int) - (ah.length : Int)).toNat W.cps.toList => hy9
        obtain rfl := str_ext (hy9.trans htk3)
        exact ret _ _ _ _ _ F9.keep (N9 _ (.head _)).2.2 (N9 _ (.head _)).1
    | succ d =>
      rw [mapc hm1 (mapc hm2 (mapc hm3 rfl))] at F1
      obtain ⟨c, hcd⟩ : ∃ c, (digs n)[d]? = some c := ⟨_, List.getElem?_eq_getElem (by omega)⟩
      have hcc := hd2 c (List.mem_of_getElem? hcd)
      have hc : W.cps.toList[((((P.length + (d + 1) : Nat)) : Int) - 1).toNat]? = some c := by
        rw [hW2, show ((((P.length + (d + 1) : Nat)) : Int) - 1).toNat = P.length + d by omega, List.getElem?_append_right (by omega), Nat.add_sub_cancel_left]
        exact hcd
      k_steps
      rename News _ _ _ _ => N9
      rename Fr _ _ _ _ => F9
      exact ⟨d, _, _, _, _, Nat.lt_succ_self _, rfl, F9, N9, ⟨_, rfl, rfl, k_less, rfl, by omega⟩⟩
end Mine
namespace Mine
theorem walk_none_Ct6 : True := by
  k_with_none
  trivial
end Mine
open PySem PySem.W PyProof.Rows PySem.Calls
namespace Mine
theorem slice_neg (x : Str) (h : 1 ≤ x.length) : (Txt.slice x none (some (-1))).cps.toList = x.cps.toList.take (x.length - 1) := by
  have e : Txt.slice x none (some (-1)) = Txt.slice x none (some ((x.length : Int) - 1)) := by
    have e2 : Builtin.Str.strSliceIndices none (some (-1)) 1 x.length = Builtin.Str.strSliceIndices none (some ((x.length : Int) - 1)) 1 x.length := by
      unfold Builtin.Str.strSliceIndices
      simp only [show (1 : Int) > 0 by decide, if_true, show (-1 : Int) < 0 by decide]
      rw [if_neg (by omega : ¬ ((x.length : Int) - 1 < 0))]
      congr 2
    unfold Txt.slice
    rw [e2]
  rw [e, beq_iff_eq.mp (slice_closes_toL (by omega) (by omega))]
  show ((x.cps.toList.drop 0).take (((x.length : Int) - 1) - 0).toNat) = _
  rw [List.drop_zero, show (((x.length : Int) - 1) - 0).toNat = x.length - 1 by omega]
section
variable {prog : Program} {w : World} {A : Around} {E : Value → Shared → Prop} {s : Shared} {h₀ : Heap} {L : Addr} {m : Str → Option Value} {news : List (Addr × Obj)} {x : Str} {t : Tok}
theorem slice_but1 {value slice : Expr} {uj : Tok} {Q : Value → Shared → Prop} (hF : Fr h₀ L s.heap m) (hN : News h₀ L s.heap news) (h0 : 1 ≤ x.length) (hl : x.length ≤ 100000)
    (h : ∀ y h' t' k, y.cps.toList = x.cps.toList.take (x.length - 1) → Fr h₀ L h' m → News h₀ L h' news → Q (.str y t') { s with heap := h', toks := k })
    (hs : subscripted slice false (.str x t) (.ref s.heap.objs.size) = operate [.ref s.heap.objs.size, .str x t] (getItem (.str x t) (.ref s.heap.objs.size)) := by with_unfolding_all rfl)
    (ht : ∀ r, letTemporaryGo value (.str x t) r = pure () := by intro _; with_unfolding_all rfl) :
    wpAny (model prog w) A (subscriptTail value slice (.str x t) (.ref s.heap.objs.size)) Q E { s with heap := s.heap.push { cls := .type "slice", data := .fields #[.none, .int (-1) uj, .none] } } :=
  slice_strN_ns hF hN (fun h' t' k F' N' => h _ h' t' k (slice_neg x h0) F' N') hs ht (Nat.le_trans hl (by decide))
theorem ends_is {y : Str} {b : Bool} {u : Tok} {Q : Value → Shared → Prop} (hb : Txt.endswith x y = b) (h : Q (.bool b) s) : wpAny (model prog w) A (call (.builtin "str.endswith") [.str x t, .str y u]) Q E s :=
  SC.endswith (by rw [hb]; exact h)
end
theorem ends_no {x : Str} {pre : List Nat} {c : Nat} (h : x.cps.toList = pre ++ [c]) (hc : c ≠ 41) : Txt.endswith x (Str.ofString ")") = false := by
  have h1 : x.length = pre.length + 1 := by rw [slen, h, List.length_append]; rfl
  have e1 : (Str.ofString ")").length = 1 := by decide
  have e2 : (Str.ofString ")").cps.toList = [41] := by decide
  unfold Txt.endswith
  rw [StrLaws.subAt_eq, h, e1, h1, e2, show pre.length + 1 - 1 = pre.length by omega, List.drop_left]
  simp [hc]
theorem cutK {w : World} {dp un : Nat} {gd : Option (List Code)} {cn : Str} {cs : Scope} {a : Addr} {ccd : Value} {cl : List (Str × Addr)} {outer : List Env} {A₀ : Around} {base h₀ : Heap} {L : Addr} {m : Str → Option Value} {s : Shared} {Q E : Value → Shared → Prop}
  {mean : ExcName → Option Value} {mg mb : Str → Option Value} {news : List (Addr × Obj)} {W ah pre : Str} {tw ta : Tok} {n : Nat} {ap : List Nat}
  (B : Below A₀ base outer h₀) (F : Fr h₀ L s.heap m) (N : News h₀ L s.heap news) (X : (hd.heap_39 w.params).In h₀) (T : Top hd.view_39 (looseW hd.view_39 [Str.ofString "PatternError"]) mean mg mb h₀) (hk : cs.kind = .function)
  (hdp : dp + 1 < recursionLimit) (hW : W.cps.toList = pre.cps.toList ++ ah.cps.toList ++ digs n) (hn : n < 1000) (hl : W.length ≤ 100000) (ha : ah.cps.toList = ap ++ [32])
  (ret : ∀ (r : Addr) (t1 t2 : Tok) (h' : Heap) (tk : Nat), Fr h₀ L h' m → News h₀ L h' ((r, tupOf [.str pre t1, .int (n : Int) t2]) :: news) → (∀ p ∈ news, p.1 ≠ r) → Q (.ref r) { s with heap := h', toks := tk }) :
  wpAny (model PySem.Challenge.rw_dn0146_06.row.prog w) (ktrTop dp un gd cn cs L a ccd cl outer) (call (.ref 49) [.str W tw, .str ah ta]) Q E s :=
  cut_call B F X T hk hdp hW hn hl ha fun r t1 t2 h' tk st nr gr => ret r t1 t2 h' tk (F.grownK st) (one F (fun p hp => ⟨st _ _ (N p hp).1, (N p hp).2⟩) gr nr) fun p hp q => by
    have := (N p hp).1
    rw [q, nr] at this; cases this
theorem walk_lines_6 : True := by
  k_with "call ref" => (k_here; (with_reducible show wpAny _ _ (call (Value.ref 49) [Value.str _ _, Value.str _ _]) _ _ _); k_dflt (refine' cutK (by k_asm) (by k_asm) (by k_asm) (by k_asm) (by k_asm) (by rfl) (by first | decide | ktr_room | omega) (by assumption) (by assumption) (by assumption) (by assumption) ?_; k_whole; intro _ _ _ _ _ _ _ _))
  k_with "call builtin:str.endswith" => (k_here; k_dflt (refine' ends_is (by assumption) ?_; k_whole))
  trivial
theorem peel_one {w : World} {dp un : Nat} {gd : Option (List Code)} {cn : Str} {cs : Scope} {a : Addr} {ccd : Value} {cl : List (Str × Addr)} {outer : List Env} {A₀ : Around} {base h₀ : Heap} {L : Addr} {m : Str → Option Value} {s : Shared} {Q E : Value → Shared → Prop}
  {mean : ExcName → Option Value} {mg mb : Str → Option Value} {Wd msg : Str} {tw : Tok} {p : Nat}
  (B : Below A₀ base outer h₀) (F : Fr h₀ L s.heap m) (X : (hd.heap_39 w.params).In h₀) (T : Top hd.view_39 (looseW hd.view_39 [Str.ofString "PatternError"]) mean mg mb h₀) (hk : cs.kind = .function)
  (hdp : dp + 3 < recursionLimit) (hW : Wd.cps.toList = msg.cps.toList ++ (Str.ofString " at position ").cps.toList ++ digs p) (hp : p < 1000) (hl : Wd.length ≤ 100000)
  (ret : ∀ (r q : Addr) (t1 t2 : Tok) (k : Nat) (h' : Heap) (tk : Nat), s.heap.StaysIn h' → s.heap.get? r = none → s.heap.get? q = none → h'.get? r = some (tupOf [.str msg t1, .ref q]) → h'.get? q = some (W.listOf #[.int (p : Int) t2] k) → Q (.ref r) { s with heap := h', toks := tk }) :
  wpAny (model PySem.Challenge.rw_dn0146_06.row.prog w) (ktrTop dp un gd cn cs L a ccd cl outer) (call (.ref 56) [.str Wd tw]) Q E s := by
  revert X; k_fill; intro X
  refine wpAny_call ?_
  k_dflt (refine' enter_pure ?k1 ?k2 ?k3 ?k5 ?kA ?kF ?kK ?k6 ?k7 ?k8 ?k9 ?kB ?_ ?c2 ?c3 ?c4 ?c5; (case kA => exact rfl); (case kF => exact rfl); (case kK => assumption); (case k1 => k_asm); (case k2 => k_asm); (case k3 => k_asm); (case k5 => k_asm); (case k6 => k_is); (case k7 => k_is); (case k8 => ktr_room); (case k9 => exact BindsTo.of_eq rfl); (case c5 => decide); (case kB => exact locs rfl); (case c2 => exact rfl); (case c3 => exact rfl); (case c4 => exact rfl); intro L' h' F' N' B' X' T'; (try dsimp only); (try k_fold))
  obtain ⟨hd1, hd2, hd3, hd4⟩ := digs_fold hp
  have hno : Txt.endswith Wd (Str.ofString ")") = false := by
    have hg := List.dropLast_concat_getLast hd4
    refine ends_no (pre := msg.cps.toList ++ (Str.ofString " at position ").cps.toList ++ (digs p).dropLast) (c := (digs p).getLast hd4) ?_ ?_
    · rw [List.append_assoc, hg]; exact hW
    · have := hd2 _ (List.getLast_mem hd4); omega
  have hs32 : (Str.ofString " at position ").cps.toList = [32, 97, 116, 32, 112, 111, 115, 105, 116, 105, 111, 110] ++ [32] := by decide +kernel
  k_steps
  rename News _ _ _ _ => N9
  rename Fr _ _ _ _ => F9
  exact ret _ _ _ _ _ _ _ F9.keep (N9 _ (.head _)).2.2 (N9 _ (.tail _ (.head _))).2.2 (N9 _ (.head _)).1 (N9 _ (.tail _ (.head _))).1
theorem slice_but {prog : Program} {w : World} {A : Around} {E : Value → Shared → Prop} {s : Shared} {h₀ : Heap} {L : Addr} {m : Str → Option Value} {news : List (Addr × Obj)} {x Y : Str} {t : Tok} {value slice : Expr} {uj : Tok} {Q : Value → Shared → Prop} (hF : Fr h₀ L s.heap m) (hN : News h₀ L s.heap news) (hY : Y.cps.toList = x.cps.toList.take (x.length - 1)) (h0 : 1 ≤ x.length) (hl : x.length ≤ 100000)
    (h : ∀ h' t' k, Fr h₀ L h' m → News h₀ L h' news → Q (.str Y t') { s with heap := h', toks := k })
    (hs : subscripted slice false (.str x t) (.ref s.heap.objs.size) = operate [.ref s.heap.objs.size, .str x t] (getItem (.str x t) (.ref s.heap.objs.size)) := by with_unfolding_all rfl)
    (ht : ∀ r, letTemporaryGo value (.str x t) r = pure () := by intro _; with_unfolding_all rfl) :
    wpAny (model prog w) A (subscriptTail value slice (.str x t) (.ref s.heap.objs.size)) Q E { s with heap := s.heap.push { cls := .type "slice", data := .fields #[.none, .int (-1) uj, .none] } } :=
  slice_but1 hF hN h0 hl (fun y h' t' k hy F' N' => by rw [str_ext (hy.trans hY.symm)]; exact h h' t' k F' N') hs ht
theorem walk_lines_7 : True := by
  k_with "subscriptTail Name Slice str ref" => (k_here; (with_reducible show wpAny _ _ (subscriptTail _ (Expr.Slice none (some _) none _) _ _) _ _ _); (with_reducible rename Fr _ _ _ _ => F'); (with_reducible rename News _ _ _ _ => N'); k_dflt (refine' slice_but (s := ⟨_, _, _, _, _⟩) F' N' (by assumption) (by assumption) (by assumption) ?_ (by with_unfolding_all rfl) (by (intro _; with_unfolding_all rfl)); k_whole; intro _ _ _ F' N'))
  trivial
theorem peel_three {w : World} {dp un : Nat} {gd : Option (List Code)} {cn : Str} {cs : Scope} {a : Addr} {ccd : Value} {cl : List (Str × Addr)} {outer : List Env} {A₀ : Around} {base h₀ : Heap} {L : Addr} {m : Str → Option Value} {s : Shared} {Q E : Value → Shared → Prop}
  {mean : ExcName → Option Value} {mg mb : Str → Option Value} {Wd msg Y P2 P1 : Str} {tw : Tok} {p l c : Nat}
  (B : Below A₀ base outer h₀) (F : Fr h₀ L s.heap m) (X : (hd.heap_39 w.params).In h₀) (T : Top hd.view_39 (looseW hd.view_39 [Str.ofString "PatternError"]) mean mg mb h₀) (hk : cs.kind = .function)
  (hdp : dp + 3 < recursionLimit) (hY : Y.cps.toList = Wd.cps.toList.take (Wd.length - 1)) (hends : Txt.endswith Wd (Str.ofString ")") = true) (h1 : 1 ≤ Wd.length) (hc1 : Y.cps.toList = P2.cps.toList ++ (Str.ofString ", column ").cps.toList ++ digs c) (hc2 : P2.cps.toList = P1.cps.toList ++ (Str.ofString " (line ").cps.toList ++ digs l) (hc3 : P1.cps.toList = msg.cps.toList ++ (Str.ofString " at position ").cps.toList ++ digs p)
  (hp : p < 1000) (hll : l < 1000) (hcc : c < 1000) (hl : Wd.length ≤ 100000) (hlY : Y.length ≤ 100000) (hl2 : P2.length ≤ 100000) (hl1 : P1.length ≤ 100000)
  (ret : ∀ (r q : Addr) (t1 t2 t3 t4 : Tok) (k : Nat) (h' : Heap) (tk : Nat), s.heap.StaysIn h' → s.heap.get? r = none → s.heap.get? q = none → h'.get? r = some (tupOf [.str msg t1, .ref q]) → h'.get? q = some (W.listOf #[.int (p : Int) t2, .int (l : Int) t3, .int (c : Int) t4] k) → Q (.ref r) { s with heap := h', toks := tk }) :
  wpAny (model PySem.Challenge.rw_dn0146_06.row.prog w) (ktrTop dp un gd cn cs L a ccd cl outer) (call (.ref 56) [.str Wd tw]) Q E s := by
  revert X; k_fill; intro X
  refine wpAny_call ?_
  k_dflt (refine' enter_pure ?k1 ?k2 ?k3 ?k5 ?kA ?kF ?kK ?k6 ?k7 ?k8 ?k9 ?kB ?_ ?c2 ?c3 ?c4 ?c5; (case kA => exact rfl); (case kF => exact rfl); (case kK => assumption); (case k1 => k_asm); (case k2 => k_asm); (case k3 => k_asm); (case k5 => k_asm); (case k6 => k_is); (case k7 => k_is); (case k8 => ktr_room); (case k9 => exact BindsTo.of_eq rfl); (case c5 => decide); (case kB => exact locs rfl); (case c2 => exact rfl); (case c3 => exact rfl); (case c4 => exact rfl); intro L' h' F' N' B' X' T'; (try dsimp only); (try k_fold))
  have hs32 : (Str.ofString " at position ").cps.toList = [32, 97, 116, 32, 112, 111, 115, 105, 116, 105, 111, 110] ++ [32] := by decide +kernel
  have hs33 : (Str.ofString " (line ").cps.toList = [32, 40, 108, 105, 110, 101] ++ [32] := by decide +kernel
  have hs34 : (Str.ofString ", column ").cps.toList = [44, 32, 99, 111, 108, 117, 109, 110] ++ [32] := by decide +kernel
  k_steps
  rename News _ _ _ _ => N9
  rename Fr _ _ _ _ => F9
  exact ret _ _ _ _ _ _ _ _ _ F9.keep (N9 _ (.head _)).2.2 (N9 _ (.tail _ (.head _))).2.2 (N9 _ (.head _)).1 (N9 _ (.tail _ (.head _))).1
end Mine
namespace Mine
theorem walk_none_Pe6 : True := by
  k_with_none
  trivial
end Mine
open PySem PySem.W PyProof.Rows PySem.Calls
namespace Mine
theorem walk_lines_8 : True := by
  k_with "exec Assign cons ListComp" => (k_here; k_dflt (refine LCg.Assign_ListComp_U (F₀ := by k_asm) (by rfl) (by with_unfolding_all rfl) (by with_unfolding_all rfl) (by decide) (by rfl) (by decide) (by rfl) (by rfl) (by rfl) ?_))
  k_with "eval ListComp" => (k_here; k_dflt (refine LCg.ListComp_U (F₀ := by k_asm) (by with_unfolding_all rfl) (by decide) (by rfl) (by decide) (by rfl) ?_))
  k_with "CompSrc" => (refine halt ?_)
  trivial
section
variable {prog : Program} {w : World} {A : Around} {E : Value → Shared → Prop} {s : Shared}
theorem pow4 {k : Int} {t u : Tok} {Q : Value → Shared → Prop} (h0 : 0 ≤ k) (h1 : k ≤ 3) (h : ∀ z t tk, 0 < z ∧ z < 1000 → Q (.int z t) { s with toks := tk }) : wpAny (model prog w) A (binaryOp .Pow (.int 4 t) (.int k u)) Q E s := by
  refine pow_int_small h0 (by omega) (by decide) ?_
  refine h _ _ _ ?_
  rcases (by omega : k = 0 ∨ k = 1 ∨ k = 2 ∨ k = 3) with e | e | e | e <;> subst e <;> decide
theorem div_by {a z : Int} {t u : Tok} {Q : Value → Shared → Prop} (h0 : 0 ≤ a) (h1 : a < 1000000) (hz : 0 < z ∧ z < 1000) (h : ∀ q t tk, 0 ≤ q → q < 1000000 → Q (.int q t) { s with toks := tk }) : wpAny (model prog w) A (binaryOp .FloorDiv (.int a t) (.int z u)) Q E s := by
  refine floordiv_int (by omega) (h _ _ _ ?_ ?_) (Or.inl (PyProof.noPylong_small (by omega)))
  · rw [Int.fdiv_eq_ediv_of_nonneg _ (by omega)]; exact Int.ediv_nonneg h0 (by omega)
  · rw [Int.fdiv_eq_ediv_of_nonneg _ (by omega)]
    exact Int.lt_of_le_of_lt (Int.ediv_le_self z h0) h1
/-- one of 9, 2, 1, 0 -/
theorem size_item {value slice : Expr} {t : Addr} {t0 t1 t2 t3 : Tok} {k : Int} {u : Tok} {Q : Value → Shared → Prop} (ht : IsTup s.heap t #[.int 9 t0, .int 2 t1, .int 1 t2, .int 0 t3]) (h0 : 0 ≤ k) (h1 : k < 4) (h : ∀ n t, 0 ≤ n → n ≤ 9 → Q (.int n t) s)
    (hs : subscripted slice false (.ref t) (.int k u) = operate [.ref t, .int k u] (getItem (.ref t) (.int k u)) := by with_unfolding_all rfl) :
    wpAny (model prog w) A (subscriptTail value slice (.ref t) (.int k u)) Q E s := by
  refine item_anyT (ns := [9, 2, 1, 0]) ht (.cons _ _ (.cons _ _ (.cons _ _ (.cons _ _ .nil)))) h0 (by simpa using h1) (by omega) (fun t => ?_) hs
  rcases (by omega : k = 0 ∨ k = 1 ∨ k = 2 ∨ k = 3) with e | e | e | e <;> subst e
  · exact h 9 t (by decide) (by decide)
  · exact h 2 t (by decide) (by decide)
  · exact h 1 t (by decide) (by decide)
  · exact h 0 t (by decide) (by decide)
end
theorem fmod4 (n : Int) : 0 ≤ n.fmod 4 ∧ n.fmod 4 < 4 := by rw [Int.fmod_eq_emod_of_nonneg n (by omega)]; omega
theorem fd1280 {X0 : Int} (h : 0 ≤ X0 ∧ X0 < 327680) : 0 ≤ X0.fdiv 1280 ∧ X0.fdiv 1280 < 1000000 := by rw [Int.fdiv_eq_ediv_of_nonneg _ (by omega)]; omega
local macro_rules | `(tactic| walk_at "binaryOp FloorDiv int int") => `(tactic| (k_here; k_dflt (refine' div_by ?k1 ?k2 ?k3 ?_; (case k3 => assumption); (case k1 => omega); (case k2 => omega); k_whole; intro q' t' tk' hq0' hq1')))
theorem walk_lines_9 : True := by
  k_with "binaryOp Pow int int" => (k_here; k_dflt (refine' pow4 (by omega) (by omega) ?_; k_whole; intro _ _ _ _))
  k_with "subscriptTail" => (k_here; (with_reducible show wpAny _ _ (subscriptTail (Expr.Tuple _ _ _) _ (Value.ref _) (Value.int _ _)) _ _ _); k_dflt (refine' size_item (by exact News.isTup (by k_asm) (by k_mem)) (by exact (fmod4 _).1) (by exact (fmod4 _).2) ?_ (by with_unfolding_all rfl); k_whole; intro _ _ _ _))
  k_with "subscriptTail Name Slice str ref" => (k_here; (with_reducible show wpAny _ _ (subscriptTail _ (Expr.Slice none (some _) none _) _ _) _ _ _); (with_reducible rename Fr _ _ _ _ => F'); (with_reducible rename News _ _ _ _ => N'); k_dflt (refine' slice_to (s := ⟨_, _, _, _, _⟩) F' N' (by omega) (by (refine Int.le_trans ‹_ ≤ (9 : Int)› ?_; decide)) (by decide) ?_ (by with_unfolding_all rfl) (by (intro _; with_unfolding_all rfl)); k_whole; intro _ _ _ _ _ F' N'))
  trivial
theorem sign_take {y : Str} {n : Nat} (h : y.cps.toList = List.take n (Str.ofString "a\x0d%1\u0085b)\x1c9").cps.toList) : y.length ≤ 9 ∧ 10 ∉ y.cps.toList := by
  have h1 : (Str.ofString "a\x0d%1\u0085b)\x1c9").cps.toList = [97, 13, 37, 49, 133, 98, 41, 28, 57] := by decide +kernel
  rw [slen, h, h1]
  refine ⟨?_, fun q => absurd (List.mem_of_mem_take q) (by decide)⟩
  rw [List.length_take]
  exact Nat.min_le_right _ _
def LineS (y : Value) : Prop := ∃ z t, y = Value.str z t ∧ z.length ≤ 9 ∧ 10 ∉ z.cps.toList
theorem walk_lines_10 : True := by
  k_with "subscriptTail Name Name ref int" => (k_here; k_dflt (refine' at_item (by exact News.isList (by k_asm) (by k_mem)) (by omega) (by omega) (by assumption) ?_ (by with_unfolding_all rfl); k_whole))
  k_with "call builtin:len" => (k_here; (with_reducible show wpAny _ _ (call (Value.builtin "len") [Value.str _ _]) _ _ _); k_dflt (refine' slen_at (by assumption) (by assumption) ?_; k_whole; intro _ _))
  trivial
theorem lines_rel {ys : List Value} (h : ∀ (i : Nat) (y : Value), ys[i]? = some y → LineS y) : ∀ l ∈ ys.map codesV, 10 ∉ l ∧ l.length ≤ 9 := by
  intro l hl
  obtain ⟨y, hy, rfl⟩ := List.mem_map.mp hl
  obtain ⟨i, hi⟩ := List.getElem?_of_mem hy
  obtain ⟨z, t, rfl, h1, h2⟩ := h i y hi
  exact ⟨h2, by show z.cps.toList.length ≤ 9; rw [← slen]; exact h1⟩
theorem take_rel {ys : List Value} {ii i : Nat} {v : Value} (h : ∀ (i : Nat) (y : Value), ys[i]? = some y → LineS y) (hv : (ys.take ii).toArray[i]? = some v) : ∃ z t, v = Value.str z t ∧ z.length ≤ 9 ∧ ((ys.map codesV).take ii)[i]?.map (fun l => (l.length : Int) + 1) = some ((z.length : Int) + 1) := by
  have hv' : (ys.take ii)[i]? = some v := by simpa using hv
  have hi : i < ii := by
    have := (List.getElem?_eq_some_iff.mp hv').1
    rw [List.length_take] at this; omega
  rw [List.getElem?_take_of_lt hi] at hv'
  obtain ⟨z, t, rfl, h1, h2⟩ := h i v hv'
  refine ⟨z, t, rfl, h1, ?_⟩
  rw [List.getElem?_take_of_lt hi, List.getElem?_map, hv']
  show some ((z.cps.toList.length : Int) + 1) = _
  rw [← slen]
theorem ints_rel {ws : List Value} {ls : List (List Nat)} (hl : ws.length = ls.length) (h : ∀ (i : Nat) (y : Value), ws[i]? = some y → ∃ n t, ls[i]?.map (fun l => (l.length : Int) + 1) = some n ∧ y = Value.int n t) : IntsAre ws (ls.map fun l => (l.length : Int) + 1) := by
  induction ws generalizing ls with
  | nil => cases ls with
    | nil => exact .nil
    | cons a r => simp at hl
  | cons w r ih => cases ls with
    | nil => simp at hl
    | cons a q =>
      obtain ⟨n, t, h1, rfl⟩ := h 0 w rfl
      have e : (a.length : Int) + 1 = n := by simpa using h1
      rw [List.map_cons, e]
      exact .cons n t (ih (by simpa using hl) fun i y hy => h (i + 1) y (by simpa using hy))
theorem pick_take {ys : List Value} {ii : Nat} (h : ii ≤ ys.length) : kms_pick ys.toArray.toList none (some (ii : Int)) = ys.take ii := by
  unfold kms_pick kms_lo kms_hi
  have : ¬ ((ii : Int) < 0) := by omega
  simp only [if_neg this, Int.toNat_natCast, List.drop_zero, Nat.sub_zero]
  rw [Nat.min_eq_left h]
theorem strs_rel {ys : List Value} (h : ∀ (i : Nat) (y : Value), ys[i]? = some y → LineS y) : ∃ texts : List Str, CarriedAll ys (texts.map fun a => PyData.str a) ∧ (∀ a ∈ texts, a.length ≤ 9) ∧ texts.length = ys.length ∧ texts.map (·.cps.toList) = ys.map codesV := by
  induction ys with
  | nil => exact ⟨[], .nil, by simp, rfl, rfl⟩
  | cons y r ih =>
    obtain ⟨ts, h1, h2, h3, h4⟩ := ih fun i y hy => h (i + 1) y (by simpa using hy)
    obtain ⟨z, t, rfl, hz, _⟩ := h 0 y rfl
    exact ⟨z :: ts, .cons (.str _ _) h1, List.forall_mem_cons.mpr ⟨hz, h2⟩, by simp [h3], by simp [h4, codesV]⟩
theorem sum_tot (ls : List (List Nat)) : (ls.map fun l => (l.length : Int) + 1).sum = (totN ls : Int) := by
  induction ls with
  | nil => rfl
  | cons a r ih =>
    simp only [List.map_cons, List.sum_cons, ih]
    simp only [totN, List.map_cons, List.sum_cons]
    omega
theorem glue_nl : ∀ (l : List Str) (acc : Array Nat), (l.foldl (fun acc p => acc ++ (Str.ofString "\n").cps ++ p.cps) acc).toList = acc.toList ++ ((l.map (·.cps.toList)).map (10 :: ·)).flatten
  | [], acc => by simp
  | a :: r, acc => by
    rw [List.foldl_cons, glue_nl r]
    have : (Str.ofString "\n").cps = #[10] := by decide +kernel
    rw [this]
    simp
theorem join_nl (l : List Str) : (PySem.Txt.join (Str.ofString "\n") l).cps.toList = joinN (l.map (·.cps.toList)) := by
  show (Builtin.Str.glued (PySem.Str.ofString "\n") l).cps.toList = _
  unfold Builtin.Str.glued
  cases l with
  | nil => rfl
  | cons n r =>
    show ((r).foldl (fun acc p => acc ++ (Str.ofString "\n").cps ++ p.cps) n.cps).toList = _
    rw [glue_nl, List.map_cons, join_flat]
section
variable {prog : Program} {w : World} {A : Around} {E : Value → Shared → Prop} {s : Shared}
theorem join_lines {D : Addr} {ys : List Value} {texts : List Str} {t : Tok} {Q : Value → Shared → Prop} (hl : s.heap.IsList D ys.toArray) (hc : CarriedAll ys (texts.map fun a => PyData.str a)) (hB : ∀ a ∈ texts, a.length ≤ 9) (hn : texts.length ≤ 1000)
    (h : ∀ y t' k, y.cps.toList = joinN (texts.map (·.cps.toList)) → Q (.str y t') { s with toks := k }) : wpAny (model prog w) A (call (.builtin "str.join") [.str (Str.ofString "\n") t, .ref D]) Q E s :=
  KT.join_B (g := id) 9 hl hc hB (by omega) (by decide) fun t' k => h _ t' k (by rw [List.map_id]; exact join_nl texts)
end
theorem walk_lines_11 : True := by
  k_with "call builtin:str.join" => (k_here; k_dflt (refine' join_lines (by exact News.isList (by k_asm) (by k_mem)) (by assumption) (by assumption) (by assumption) ?_; k_whole; intro _ _ _ _))
  k_with "subscriptTail Name Slice ref ref" => (k_here; (with_reducible show wpAny _ _ (subscriptTail _ (PySem.Expr.Slice none (some _) none _) (Value.ref _) (Value.ref _)) _ _ _); k_dflt (refine' kms_slice_lit (by k_asm) (by k_asm) (by exact News.isList (by k_asm) (by k_mem)) (by kmk_part) (by kmk_part) (by exact pick_take (by assumption)) ?_ (by with_unfolding_all rfl) (by kmk_pure) (by exact szL (by assumption))); intro _ _ _ _ l1; (try k_lt l1); (try k_sweep))
  trivial
section
variable {prog : Program} {w : World} {A : Around} {E : Value → Shared → Prop} {s : Shared} {h₀ : Heap} {L : Addr} {m : Str → Option Value} {news : List (Addr × Obj)} {t : Tok}
abbrev signsB : Array UInt8 := #[97, 13, 37, 49, 133, 98, 41, 28, 57]
theorem bslice_to {value slice : Expr} {j : Int} {uj : Tok} {Q : Value → Shared → Prop} (hF : Fr h₀ L s.heap m) (hN : News h₀ L s.heap news)
    (h : ∀ y h' t' k, (y.size ≤ 9 ∧ 10 ∉ codes y) → Fr h₀ L h' m → News h₀ L h' news → Q (.bytes y t') { s with heap := h', toks := k })
    (hs : subscripted slice false (.bytes signsB t) (.ref s.heap.objs.size) = operate [.ref s.heap.objs.size, .bytes signsB t] (getItem (.bytes signsB t) (.ref s.heap.objs.size)) := by with_unfolding_all rfl)
    (ht : ∀ r, letTemporaryGo value (.bytes signsB t) r = pure () := by intro _; with_unfolding_all rfl) :
    wpAny (model prog w) A (subscriptTail value slice (.bytes signsB t) (.ref s.heap.objs.size)) Q E { s with heap := s.heap.push { cls := .type "slice", data := .fields #[.none, .int j uj, .none] } } := by
  refine KBc.slice_K (ks := KBw.bInts signsB) (lo := none) (hi := some j) hF hN rfl (by constructor) (by constructor) (by decide) (fun h' t' k F' N' hk => h _ h' t' k ⟨KBc.size_picked_le _ _ _, fun q => ?_⟩ F' N') hs ht
  have q2 : (10 : Int) ∈ KBw.bInts (KBy.picked signsB none (some j)) := by
    obtain ⟨c, hc, e⟩ := List.mem_map.mp q
    exact List.mem_map.mpr ⟨c, hc, by rw [e]; rfl⟩
  rw [hk] at q2
  exact absurd (List.mem_of_mem_drop (List.mem_of_mem_take q2)) (by decide)
theorem blen_at {b : Array UInt8} {n : Nat} {Q : Value → Shared → Prop} (hz : b.size = n) (hl : n ≤ 100000) (h : ∀ t tk, Q (.int (n : Int) t) { s with toks := tk }) : wpAny (model prog w) A (call (.builtin "len") [.bytes b t]) Q E s :=
  len_bytes (by omega) (by rw [hz]; exact h _ _)
end
theorem lines_relB {ys : List Value} (h : ∀ (i : Nat) (y : Value), ys[i]? = some y → LineB y) : ∀ l ∈ ys.map codesV, 10 ∉ l ∧ l.length ≤ 9 := by
  intro l hl
  obtain ⟨y, hy, rfl⟩ := List.mem_map.mp hl
  obtain ⟨i, hi⟩ := List.getElem?_of_mem hy
  obtain ⟨z, t, rfl, h1, h2⟩ := h i y hi
  exact ⟨h2, by show (codes z).length ≤ 9; rw [codes_length]; exact h1⟩
theorem take_relB {ys : List Value} {ii i : Nat} {v : Value} (h : ∀ (i : Nat) (y : Value), ys[i]? = some y → LineB y) (hv : (ys.take ii).toArray[i]? = some v) : ∃ z t, v = Value.bytes z t ∧ z.size ≤ 9 ∧ ((ys.map codesV).take ii)[i]?.map (fun l => (l.length : Int) + 1) = some ((z.size : Int) + 1) := by
  have hv' : (ys.take ii)[i]? = some v := by simpa using hv
  have hi : i < ii := by
    have := (List.getElem?_eq_some_iff.mp hv').1
    rw [List.length_take] at this; omega
  rw [List.getElem?_take_of_lt hi] at hv'
  obtain ⟨z, t, rfl, h1, h2⟩ := h i v hv'
  refine ⟨z, t, rfl, h1, ?_⟩
  rw [List.getElem?_take_of_lt hi, List.getElem?_map, hv']
  show some (((codes z).length : Int) + 1) = _
  rw [codes_length]
theorem walk_lines_12 : True := by
  k_with "subscriptTail" => (k_here; (with_reducible show wpAny _ _ (subscriptTail _ (Expr.Slice none (some _) none _) (Value.bytes _ _) (Value.ref _)) _ _ _); (with_reducible rename Fr _ _ _ _ => F'); (with_reducible rename News _ _ _ _ => N'); k_dflt (refine' bslice_to (s := ⟨_, _, _, _, _⟩) F' N' ?_ (by with_unfolding_all rfl) (by (intro _; with_unfolding_all rfl)); k_whole; intro _ _ _ _ _ F' N'))
  k_with "call builtin:len" => (k_here; (with_reducible show wpAny _ _ (call (Value.builtin "len") [Value.bytes _ _]) _ _ _); k_dflt (refine' blen_at (by assumption) (by assumption) ?_; k_whole; intro _ _))
  k_with "getMethod bytes" => (k_here; k_dflt (refine bm_join ?_))
  k_with "call builtin:bytes.join" => (k_here; k_dflt (refine' join_bytes (by exact News.isList (by k_asm) (by k_mem)) (by assumption) (by assumption) (by assumption) ?_; k_whole; intro _ _ _ _))
  trivial
/-- a text or bytes of these codes -/
def PatOf (pv : Value) (cds : List Nat) : Prop := (∃ x t, pv = .str x t ∧ x.cps.toList = cds) ∨ (∃ x t, pv = .bytes x t ∧ codes x = cds)
/-- what is drawn: pattern, place, the numbers told, line and column -/
def DrawnV (pv qv : Value) (tv kv : List Value) : Prop :=
  (pv = .none ∧ (∃ (p : Nat) (t : Tok), qv = .int (p : Int) t ∧ p < 100) ∧ tv = [] ∧ kv = [.none, .none]) ∨
  (∃ cds : List Nat, PatOf pv cds ∧ cds.length ≤ 100 ∧ qv = .none ∧ tv = [] ∧ kv = [.none, .none]) ∨
  (∃ (cds : List Nat) (p i j : Nat) (t1 t2 t3 : Tok), PatOf pv cds ∧ cds.length ≤ 100 ∧ qv = .int (p : Int) t1 ∧ p < 100 ∧ nlCount cds p = (i : Int) ∧ (p : Int) - nlLast cds p = (j : Int) + 1 ∧ i < 100 ∧ j < 100 ∧ kv = [.int ((i : Int) + 1) t2, .int ((j : Int) + 1) t3] ∧
    ((10 ∈ cds ∧ ∃ t4 t5 t6, tv = [.int (p : Int) t4, .int ((i : Int) + 1) t5, .int ((j : Int) + 1) t6]) ∨ (10 ∉ cds ∧ ∃ t4, tv = [.int (p : Int) t4])))
theorem drawn_fact {ls : List (List Nat)} {i j p c : Nat} {cds : List Nat} (hc : ls.length = c) (hc4 : c ≤ 4) (hl : ∀ l ∈ ls, 10 ∉ l ∧ l.length ≤ 9) (hi : i < c) (hj : j ≤ (ls[i]'(by omega)).length) (hp : p = totN (ls.take i) + j) (hcds : cds = joinN ls) :
    cds.length ≤ 100 ∧ p < 100 ∧ nlCount cds p = (i : Int) ∧ (p : Int) - nlLast cds p = (j : Int) + 1 ∧ i < 100 ∧ j < 100 ∧ (10 ∈ cds ↔ 1 < c) := by
  have h1 := place_at ls i j (by omega) (fun l h => (hl l h).1) hj
  have h2 := joinN_len ls
  have h3 := totN_le (fun l h => (hl l h).2)
  have h4 := totN_le (ls := ls.take i) (fun l h => (hl l (List.mem_of_mem_take h)).2)
  have h5 := (hl _ (List.getElem_mem (by omega : i < ls.length))).2
  have h6 : (ls.take i).length ≤ i := by rw [List.length_take]; omega
  subst hp hcds
  refine ⟨by omega, by omega, h1.1, h1.2, by omega, by omega, ?_⟩
  rw [← hc]
  exact join_feed ls fun l h => (hl l h).1
theorem drawn_call {w : World} {dp un : Nat} {gd : Option (List Code)} {cn : Str} {cs : Scope} {a : Addr} {ccd : Value} {cl : List (Str × Addr)} {outer : List Env} {A₀ : Around} {base h₀ : Heap} {L : Addr} {m : Str → Option Value} {s : Shared} {Q E : Value → Shared → Prop}
  {mean : ExcName → Option Value} {mg mb : Str → Option Value} {x : Int} {tx : Tok}
  (B : Below A₀ base outer h₀) (F : Fr h₀ L s.heap m) (X : (hd.heap_39 w.params).In h₀) (T : Top hd.view_39 (looseW hd.view_39 [Str.ofString "PatternError"]) mean mg mb h₀) (hk : cs.kind = .function)
  (hdp : dp + 3 < recursionLimit)
  (ret : ∀ (r told known : Addr) (pv qv : Value) (tv kv : List Value) (k1 k2 : Nat) (L' : Addr) (h' : Heap) (tk : Nat), s.heap.StaysIn h' → News s.heap L' h' [(r, tupOf [pv, qv, .ref told, .ref known]), (known, W.listOf kv.toArray k1), (told, W.listOf tv.toArray k2)] → DrawnV pv qv tv kv → Q (.ref r) { s with heap := h', toks := tk }) :
  wpAny (model PySem.Challenge.rw_dn0146_06.row.prog w) (ktrTop dp un gd cn cs L a ccd cl outer) (call (.ref 42) [.int x tx]) Q E s := by
  revert X; k_fill; intro X
  refine wpAny_call ?_
  k_dflt (refine' enter_pureC ?k1 ?k2 ?k3 ?k5 ?kA ?kF ?kK ?k6 ?k7 ?k8 ?k9 ?kB ?kD ?_ ?c2 ?c3 ?c4; (case kA => exact rfl); (case kF => exact rfl); (case kK => assumption); (case k1 => k_asm); (case k2 => k_asm); (case k3 => k_asm); (case k5 => k_asm); (case k6 => k_is); (case k7 => k_is); (case k8 => ktr_room); (case k9 => exact BindsTo.of_eq rfl); (case kB => exact rfl); (case kD => decide +kernel); (case c2 => exact rfl); (case c3 => exact rfl); (case c4 => exact rfl); intro L' h' tk' cells' F' N' Y' B' X' T'; k_cells Y'; (try simp only [List.cons_append, List.nil_append] at N'); (try dsimp only); (try k_fold))
  have hXb : 0 ≤ x.fmod 327680 ∧ x.fmod 327680 < 327680 := by rw [Int.fmod_eq_emod_of_nonneg x (by omega)]; omega
  have hK : 0 ≤ (x.fmod 327680).fmod 8 ∧ (x.fmod 327680).fmod 8 < 8 := by rw [Int.fmod_eq_emod_of_nonneg _ (by omega)]; omega
  obtain ⟨c, hc, hcb⟩ : ∃ c : Nat, ((x.fmod 327680).fdiv 8).fmod 4 + 1 = (c : Int) ∧ 1 ≤ c ∧ c ≤ 4 := by
    rw [Int.fmod_eq_emod_of_nonneg _ (by omega)]
    exact ⟨(((x.fmod 327680).fdiv 8) % 4 + 1).toNat, by omega, by omega, by omega⟩
  refine cutP F' N' 3 (fun m nw m' nw' => ∃ (oS oX : Obj) (X0 K : Int) (c : Nat) (tk tc tX : Tok), nw' = [(L' + 1 + 1, oS), (L' + 1, oX)] ∧ oX.data = .cell (some (.int X0 tX)) ∧ (0 ≤ X0 ∧ X0 < 327680) ∧ (0 ≤ K ∧ K < 8) ∧ (1 ≤ c ∧ c ≤ 4) ∧ m' (Str.ofString "kind") = some (.int K tk) ∧ m' (Str.ofString "count") = some (.int (c : Int) tc) ∧
    ((∃ tS tF, oS.data = .cell (some (.str (Str.ofString "a\x0d%1\u0085b)\x1c9") tS)) ∧ m' (Str.ofString "feed") = some (.str (Str.ofString "\n") tF)) ∨ (∃ tS tF, oS.data = .cell (some (.bytes #[97, 13, 37, 49, 133, 98, 41, 28, 57] tS)) ∧ m' (Str.ofString "feed") = some (.bytes #[10] tF)))) ?p1 ?p2
  case p1 =>
    show wpAny _ _ (execs [_, _, _] _) _ _ _
    k_steps
    all_goals (
      rename News _ _ _ _ => N9
      rename Fr _ _ _ _ => F9
      rename _ = Data.cell (some (Value.int (x.fmod 327680) _)) => dX
      refine ⟨_, _, _, _, rfl, F9, fun p hp => N9 p (by repeat (first | exact hp | apply List.mem_cons_of_mem)), _, _, x.fmod 327680, (x.fmod 327680).fmod 8, c, _, _, _, rfl, dX, hXb, hK, hcb, rfl, congrArg some (congrArg (fun z => Value.int z _) hc), ?_⟩)
    · exact Or.inl ⟨_, _, by assumption, rfl⟩
    · exact Or.inr ⟨_, _, by assumption, rfl⟩
  case p2 =>
    clear F' N'
    rintro h1 tk1 m1 nw1 F1 N1 ⟨oS, oX, X0, K, c, tK, tc, tX, rfl, dX, hX, hK, hc, hm1, hm2, hsf⟩
    rcases hsf with ⟨tS, tF, dS, hm3⟩ | ⟨tS, tF, dS, hm3⟩
    · rw [mapc hm1 (mapc hm2 (mapc hm3 rfl))] at F1
      have hX2 := fd1280 hX
      refine cutP F1 N1 1 (fun m nw m' nw' => ∃ (ln : Addr) (ys : List Value), m' (Str.ofString "lines") = some (.ref ln) ∧ m' (Str.ofString "kind") = some (.int K tK) ∧ m' (Str.ofString "count") = some (.int (c : Int) tc) ∧ m' (Str.ofString "feed") = some (.str (Str.ofString "\n") tF) ∧ nw' = (ln, LCg.lst ys) :: nw ∧ ys.length = c ∧ (∀ (i : Nat) (y : Value), ys[i]? = some y → LineS y)) ?q1 ?q2
      case q1 =>
        show wpAny _ _ (execs [_] _) _ _ _
        k_steps
        unfold Halt
        rename News _ _ _ _ => N2
        rename Fr _ _ _ _ => F2
        rename IsRange _ _ _ _ _ _ _ _ => R2
        refine LCg.CompSrc.range rfl F2 N2 R2 (small_one (by decide) (by decide) (by omega) (by omega)) (n := c) (by rw [rangeSize_one]; rw [if_pos (by omega)]; omega) (Nat.le_trans hc.2 (by decide)) (fun g' => comp_rel (fun _ y => LineS y) ?turn ?fin)
        case turn =>
          clear F2 N2 R2
          intro i v I oI C oC D m₂ ys h tk E' hi hv hC hx F2 N2 off ne
          obtain ⟨t, rfl⟩ := hv
          rw [Int.zero_add] at hx
          k_steps
          rename News _ _ _ _ => N9
          rename Fr _ _ _ _ => F9
          rename _ = List.take _ _ => hy9
          exact comp_end F9 N9 (fun p hp => .tail _ hp) off trivial ⟨_, _, rfl, sign_take hy9⟩
        case fin =>
          clear F2 N2 R2
          intro ys hyl hys D h tk F2 N2 off
          k_steps
          rename News _ _ _ _ => N9
          rename Fr _ _ _ _ => F9
          exact ⟨_, _, _, _, rfl, F9, N9, D, ys, rfl, rfl, rfl, rfl, rfl, hyl, hys⟩
      case q2 =>
      clear F1 N1
      rintro h2 tk2 m2 nw2 F1 N1 ⟨ln, ys, z1, z2, z3, z4, rfl, hyl, hys⟩
      rw [mapc z1 (mapc z2 (mapc z3 (mapc z4 rfl)))] at F1
      clear z1 z2 z3 z4 hm1 hm2 hm3
      refine cutP F1 N1 2 (fun m nw m' nw' => ∃ (ii jj : Nat) (ti tj tz : Tok) (z : Str), m' (Str.ofString "i") = some (.int (ii : Int) ti) ∧ m' (Str.ofString "j") = some (.int (jj : Int) tj) ∧ m' (Str.ofString "lines") = some (.ref ln) ∧ m' (Str.ofString "kind") = some (.int K tK) ∧ m' (Str.ofString "count") = some (.int (c : Int) tc) ∧ m' (Str.ofString "feed") = some (.str (Str.ofString "\n") tF) ∧ nw' = nw ∧ ii < c ∧ ys[ii]? = some (.str z tz) ∧ jj ≤ z.length) ?q3 ?q4
      case q3 =>
        show wpAny _ _ (execs [_, _] _) _ _ _
        obtain ⟨ii, hii, hic⟩ : ∃ ii : Nat, ((X0.fdiv 32).fmod 40).fmod (c : Int) = (ii : Int) ∧ ii < c := by
          have h1 := Int.fmod_nonneg_of_pos ((X0.fdiv 32).fmod 40) (by omega : (0 : Int) < c)
          have h2 := Int.fmod_lt_of_pos ((X0.fdiv 32).fmod 40) (by omega : (0 : Int) < c)
          exact ⟨(((X0.fdiv 32).fmod 40).fmod (c : Int)).toNat, by omega, by omega⟩
        obtain ⟨z, tz, hz, hz9, _⟩ := hys ii _ (List.getElem?_eq_getElem (by omega))
        have hzi : ys[(((X0.fdiv 32).fmod 40).fmod (c : Int)).toNat]? = some (.str z tz) := by rw [hii, Int.toNat_natCast, List.getElem?_eq_getElem (by omega), hz]
        have hzl : z.length = z.length := rfl
        have hzm : z.length ≤ 100000 := by omega
        have hii0 : 0 ≤ ((X0.fdiv 32).fmod 40).fmod (c : Int) := by omega
        have hii1 : ((X0.fdiv 32).fmod 40).fmod (c : Int) < 4 := by omega
        obtain ⟨jj, hjj, hjz⟩ : ∃ jj : Nat, (((X0.fdiv 32).fmod 40).fdiv (c : Int)).fmod ((z.length : Int) + 1) = (jj : Int) ∧ jj ≤ z.length := by
          have h1 := Int.fmod_nonneg_of_pos (((X0.fdiv 32).fmod 40).fdiv (c : Int)) (by omega : (0 : Int) < (z.length : Int) + 1)
          have h2 := Int.fmod_lt_of_pos (((X0.fdiv 32).fmod 40).fdiv (c : Int)) (by omega : (0 : Int) < (z.length : Int) + 1)
          exact ⟨((((X0.fdiv 32).fmod 40).fdiv (c : Int)).fmod ((z.length : Int) + 1)).toNat, by omega, by omega⟩
        k_steps
        rename News _ _ _ _ => N9
        rename Fr _ _ _ _ => F9
        exact ⟨_, _, _, _, rfl, F9, N9, ii, jj, _, _, _, z, congrArg some (congrArg (fun q => Value.int q _) hii), congrArg some (congrArg (fun q => Value.int q _) hjj), rfl, rfl, rfl, rfl, rfl, hic, by rw [hii, Int.toNat_natCast] at hzi; exact hzi, hjz⟩
      case q4 =>
      clear F1 N1
      rintro h3 tk3 m3 nw3 F1 N1 ⟨ii, jj, ti, tj, tz, z, z1, z2, z3, z4, z5, z6, rfl, hic, hzi, hjz⟩
      rw [mapc z1 (mapc z2 (mapc z3 (mapc z4 (mapc z5 (mapc z6 rfl)))))] at F1
      clear z1 z2 z3 z4 z5 z6
      have hyl2 : ys.length ≤ 100000 := by omega
      have hyt : ii ≤ ys.length := by omega
      have hlr := lines_rel hys
      refine cutP F1 N1 2 (fun m nw m' nw' => ∃ (p : Nat) (tp tpt : Tok) (pat : Str), m' (Str.ofString "place") = some (.int (p : Int) tp) ∧ m' (Str.ofString "pattern") = some (.str pat tpt) ∧ m' (Str.ofString "i") = m (Str.ofString "i") ∧ m' (Str.ofString "j") = m (Str.ofString "j") ∧ m' (Str.ofString "kind") = m (Str.ofString "kind") ∧ m' (Str.ofString "count") = m (Str.ofString "count") ∧ nw' = [] ∧ p = totN ((ys.map codesV).take ii) + jj ∧ pat.cps.toList = joinN (ys.map codesV)) ?q5 ?q6
      case q5 =>
        show wpAny _ _ (execs [_, _] _) _ _ _
        k_steps
        unfold Halt
        rename News _ _ _ _ => N2
        rename Fr _ _ _ _ => F2
        refine LCg.CompSrc.ledger rfl F2 N2 (.head _) (szL (by rw [List.length_take]; omega)) (fun g' => comp_rel (fun i y => ∃ n t, ((ys.map codesV).take ii)[i]?.map (fun l => (l.length : Int) + 1) = some n ∧ y = Value.int n t) ?turn2 ?fin2)
        case turn2 =>
          clear F2 N2
          intro i v I oI C oC D m₂ ws h tk E' hi hv hC hx F2 N2 off ne
          obtain ⟨z', tz', rfl, hz1, hz2⟩ := take_rel hys hv
          have hzl : z'.length = z'.length := rfl
          have hzm : z'.length ≤ 100000 := by omega
          k_steps
          rename News _ _ _ _ => N9
          rename Fr _ _ _ _ => F9
          exact comp_end F9 N9 (fun p hp => hp) off (Or.inr ⟨_, .head _, rfl, _, rfl⟩) ⟨_, _, hz2, rfl⟩
        case fin2 =>
          clear F2 N2
          intro ws hwl hws D h tk F2 N2 off
          have hIw := ints_rel (by rw [hwl]; simp) hws
          obtain ⟨texts, hcar, htx, htl, hte⟩ := strs_rel hys
          have htl4 : texts.length ≤ 1000 := by omega
          have hsum := sum_tot ((ys.map codesV).take ii)
          k_steps
          rename News _ _ _ _ => N9
          rename Fr _ _ _ _ => F9
          rename _ = joinN _ => hj9
          exact ⟨_, _, _, [], rfl, F9, fun p hp => (nomatch hp), totN ((ys.map codesV).take ii) + jj, _, _, _, congrArg some (congrArg (fun q => Value.int q _) (by rw [hsum]; rfl)), rfl, rfl, rfl, rfl, rfl, rfl, rfl, by rw [hj9, hte]⟩
      case q6 =>
      clear F1 N1
      rintro h4 tk4 m4 nw4 F1 N1 ⟨p, tp, tpt, pat, z1, z2, z3, z4, z5, z6, rfl, hp, hpat⟩
      rw [mapc z1 (mapc z2 (mapc (z3.trans rfl) (mapc (z4.trans rfl) (mapc (z5.trans rfl) (mapc (z6.trans rfl) rfl)))))] at F1
      clear z1 z2 z3 z4 z5 z6
      have hiy : ii < (ys.map codesV).length := by rw [List.length_map]; omega
      have hjl : jj ≤ ((ys.map codesV)[ii]).length := by
        have e1 : (ys.map codesV)[ii]? = some z.cps.toList := by rw [List.getElem?_map, hzi]; rfl
        have e2 := (List.getElem?_eq_some_iff.mp e1).2
        rw [e2, ← slen]; exact hjz
      obtain ⟨d1, d2, d3, d4, d5, d6, d7⟩ := drawn_fact (by rw [List.length_map]; exact hyl) hc.2 hlr hic hjl hp hpat
      clear hp hiy hjl hzi hys hlr hyt hyl2
      show wpAny _ _ (execs [_, _, _] _) _ _ _
      k_steps
      all_goals (rename News _ _ _ _ => N9; rename Fr _ _ _ _ => F9)
      · exact ret _ _ _ _ _ [] [_, _] _ _ _ _ _ F9.keep N9 (Or.inl ⟨rfl, ⟨p, _, rfl, d2⟩, rfl, rfl⟩)
      · exact ret _ _ _ _ _ [] [_, _] _ _ _ _ _ F9.keep N9 (Or.inr (Or.inl ⟨_, Or.inl ⟨_, _, rfl, rfl⟩, d1, rfl, rfl, rfl⟩))
      · exact ret _ _ _ _ _ [_, _, _] [_, _] _ _ _ _ _ F9.keep N9 (Or.inr (Or.inr ⟨_, p, ii, jj, _, _, _, Or.inl ⟨_, _, rfl, rfl⟩, d1, rfl, d2, d3, d4, d5, d6, rfl, Or.inl ⟨d7.mpr (by omega), _, _, _, rfl⟩⟩))
      · exact ret _ _ _ _ _ [_] [_, _] _ _ _ _ _ F9.keep N9 (Or.inr (Or.inr ⟨_, p, ii, jj, _, _, _, Or.inl ⟨_, _, rfl, rfl⟩, d1, rfl, d2, d3, d4, d5, d6, rfl, Or.inr ⟨fun z => absurd (d7.mp z) (by omega), _, rfl⟩⟩))
    · rw [mapc hm1 (mapc hm2 (mapc hm3 rfl))] at F1
      have hX2 := fd1280 hX
      refine cutP F1 N1 1 (fun m nw m' nw' => ∃ (ln : Addr) (ys : List Value), m' (Str.ofString "lines") = some (.ref ln) ∧ m' (Str.ofString "kind") = some (.int K tK) ∧ m' (Str.ofString "count") = some (.int (c : Int) tc) ∧ m' (Str.ofString "feed") = some (.bytes #[10] tF) ∧ nw' = (ln, LCg.lst ys) :: nw ∧ ys.length = c ∧ (∀ (i : Nat) (y : Value), ys[i]? = some y → LineB y)) ?q1 ?q2
      case q1 =>
        show wpAny _ _ (execs [_] _) _ _ _
        k_steps
        unfold Halt
        rename News _ _ _ _ => N2
        rename Fr _ _ _ _ => F2
        rename IsRange _ _ _ _ _ _ _ _ => R2
        refine LCg.CompSrc.range rfl F2 N2 R2 (small_one (by decide) (by decide) (by omega) (by omega)) (n := c) (by rw [rangeSize_one]; rw [if_pos (by omega)]; omega) (Nat.le_trans hc.2 (by decide)) (fun g' => comp_rel (fun _ y => LineB y) ?turn ?fin)
        case turn =>
          clear F2 N2 R2
          intro i v I oI C oC D m₂ ys h tk E' hi hv hC hx F2 N2 off ne
          obtain ⟨t, rfl⟩ := hv
          rw [Int.zero_add] at hx
          k_steps
          rename News _ _ _ _ => N9
          rename Fr _ _ _ _ => F9
          exact comp_end F9 N9 (fun p hp => .tail _ hp) off trivial ⟨_, _, rfl, by assumption⟩
        case fin =>
          clear F2 N2 R2
          intro ys hyl hys D h tk F2 N2 off
          k_steps
          rename News _ _ _ _ => N9
          rename Fr _ _ _ _ => F9
          exact ⟨_, _, _, _, rfl, F9, N9, D, ys, rfl, rfl, rfl, rfl, rfl, hyl, hys⟩
      case q2 =>
      clear F1 N1
      rintro h2 tk2 m2 nw2 F1 N1 ⟨ln, ys, z1, z2, z3, z4, rfl, hyl, hys⟩
      rw [mapc z1 (mapc z2 (mapc z3 (mapc z4 rfl)))] at F1
      clear z1 z2 z3 z4 hm1 hm2 hm3
      refine cutP F1 N1 2 (fun m nw m' nw' => ∃ (ii jj : Nat) (ti tj tz : Tok) (z : Array UInt8), m' (Str.ofString "i") = some (.int (ii : Int) ti) ∧ m' (Str.ofString "j") = some (.int (jj : Int) tj) ∧ m' (Str.ofString "lines") = some (.ref ln) ∧ m' (Str.ofString "kind") = some (.int K tK) ∧ m' (Str.ofString "count") = some (.int (c : Int) tc) ∧ m' (Str.ofString "feed") = some (.bytes #[10] tF) ∧ nw' = nw ∧ ii < c ∧ ys[ii]? = some (.bytes z tz) ∧ jj ≤ z.size) ?q3 ?q4
      case q3 =>
        show wpAny _ _ (execs [_, _] _) _ _ _
        obtain ⟨ii, hii, hic⟩ : ∃ ii : Nat, ((X0.fdiv 32).fmod 40).fmod (c : Int) = (ii : Int) ∧ ii < c := by
          have h1 := Int.fmod_nonneg_of_pos ((X0.fdiv 32).fmod 40) (by omega : (0 : Int) < c)
          have h2 := Int.fmod_lt_of_pos ((X0.fdiv 32).fmod 40) (by omega : (0 : Int) < c)
          exact ⟨(((X0.fdiv 32).fmod 40).fmod (c : Int)).toNat, by omega, by omega⟩
        obtain ⟨z, tz, hz, hz9, _⟩ := hys ii _ (List.getElem?_eq_getElem (by omega))
        have hzi : ys[(((X0.fdiv 32).fmod 40).fmod (c : Int)).toNat]? = some (.bytes z tz) := by rw [hii, Int.toNat_natCast, List.getElem?_eq_getElem (by omega), hz]
        have hzl : z.size = z.size := rfl
        have hzm : z.size ≤ 100000 := by omega
        have hii0 : 0 ≤ ((X0.fdiv 32).fmod 40).fmod (c : Int) := by omega
        have hii1 : ((X0.fdiv 32).fmod 40).fmod (c : Int) < 4 := by omega
        obtain ⟨jj, hjj, hjz⟩ : ∃ jj : Nat, (((X0.fdiv 32).fmod 40).fdiv (c : Int)).fmod ((z.size : Int) + 1) = (jj : Int) ∧ jj ≤ z.size := by
          have h1 := Int.fmod_nonneg_of_pos (((X0.fdiv 32).fmod 40).fdiv (c : Int)) (by omega : (0 : Int) < (z.size : Int) + 1)
          have h2 := Int.fmod_lt_of_pos (((X0.fdiv 32).fmod 40).fdiv (c : Int)) (by omega : (0 : Int) < (z.size : Int) + 1)
          exact ⟨((((X0.fdiv 32).fmod 40).fdiv (c : Int)).fmod ((z.size : Int) + 1)).toNat, by omega, by omega⟩
        k_steps
        rename News _ _ _ _ => N9
        rename Fr _ _ _ _ => F9
        exact ⟨_, _, _, _, rfl, F9, N9, ii, jj, _, _, _, z, congrArg some (congrArg (fun q => Value.int q _) hii), congrArg some (congrArg (fun q => Value.int q _) hjj), rfl, rfl, rfl, rfl, rfl, hic, by rw [hii, Int.toNat_natCast] at hzi; exact hzi, hjz⟩
      case q4 =>
      clear F1 N1
      rintro h3 tk3 m3 nw3 F1 N1 ⟨ii, jj, ti, tj, tz, z, z1, z2, z3, z4, z5, z6, rfl, hic, hzi, hjz⟩
      rw [mapc z1 (mapc z2 (mapc z3 (mapc z4 (mapc z5 (mapc z6 rfl)))))] at F1
      clear z1 z2 z3 z4 z5 z6
      have hyl2 : ys.length ≤ 100000 := by omega
      have hyt : ii ≤ ys.length := by omega
      have hlr := lines_relB hys
      refine cutP F1 N1 2 (fun m nw m' nw' => ∃ (p : Nat) (tp tpt : Tok) (pat : Array UInt8), m' (Str.ofString "place") = some (.int (p : Int) tp) ∧ m' (Str.ofString "pattern") = some (.bytes pat tpt) ∧ m' (Str.ofString "i") = m (Str.ofString "i") ∧ m' (Str.ofString "j") = m (Str.ofString "j") ∧ m' (Str.ofString "kind") = m (Str.ofString "kind") ∧ m' (Str.ofString "count") = m (Str.ofString "count") ∧ nw' = [] ∧ p = totN ((ys.map codesV).take ii) + jj ∧ codes pat = joinN (ys.map codesV)) ?q5 ?q6
      case q5 =>
        show wpAny _ _ (execs [_, _] _) _ _ _
        k_steps
        unfold Halt
        rename News _ _ _ _ => N2
        rename Fr _ _ _ _ => F2
        refine LCg.CompSrc.ledger rfl F2 N2 (.head _) (szL (by rw [List.length_take]; omega)) (fun g' => comp_rel (fun i y => ∃ n t, ((ys.map codesV).take ii)[i]?.map (fun l => (l.length : Int) + 1) = some n ∧ y = Value.int n t) ?turn2 ?fin2)
        case turn2 =>
          clear F2 N2
          intro i v I oI C oC D m₂ ws h tk E' hi hv hC hx F2 N2 off ne
          obtain ⟨z', tz', rfl, hz1, hz2⟩ := take_relB hys hv
          have hzl : z'.size = z'.size := rfl
          have hzm : z'.size ≤ 100000 := by omega
          k_steps
          rename News _ _ _ _ => N9
          rename Fr _ _ _ _ => F9
          exact comp_end F9 N9 (fun p hp => hp) off (Or.inr ⟨_, .head _, rfl, _, rfl⟩) ⟨_, _, hz2, rfl⟩
        case fin2 =>
          clear F2 N2
          intro ws hwl hws D h tk F2 N2 off
          have hIw := ints_rel (by rw [hwl]; simp) hws
          have hy1 : 1 ≤ ys.length := by omega
          have hy4 : ys.length ≤ 4 := by omega
          have hsum := sum_tot ((ys.map codesV).take ii)
          k_steps
          rename News _ _ _ _ => N9
          rename Fr _ _ _ _ => F9
          rename _ = joinN _ => hj9
          exact ⟨_, _, _, [], rfl, F9, fun p hp => (nomatch hp), totN ((ys.map codesV).take ii) + jj, _, _, _, congrArg some (congrArg (fun q => Value.int q _) (by rw [hsum]; rfl)), rfl, rfl, rfl, rfl, rfl, rfl, rfl, hj9⟩
      case q6 =>
      clear F1 N1
      rintro h4 tk4 m4 nw4 F1 N1 ⟨p, tp, tpt, pat, z1, z2, z3, z4, z5, z6, rfl, hp, hpat⟩
      rw [mapc z1 (mapc z2 (mapc (z3.trans rfl) (mapc (z4.trans rfl) (mapc (z5.trans rfl) (mapc (z6.trans rfl) rfl)))))] at F1
      clear z1 z2 z3 z4 z5 z6
      have hiy : ii < (ys.map codesV).length := by rw [List.length_map]; omega
      have hjl : jj ≤ ((ys.map codesV)[ii]).length := by
        have e1 : (ys.map codesV)[ii]? = some (codes z) := by rw [List.getElem?_map, hzi]; rfl
        have e2 := (List.getElem?_eq_some_iff.mp e1).2
        rw [e2, codes_length]; exact hjz
      obtain ⟨d1, d2, d3, d4, d5, d6, d7⟩ := drawn_fact (by rw [List.length_map]; exact hyl) hc.2 hlr hic hjl hp hpat
      clear hp hiy hjl hzi hys hlr hyt hyl2
      show wpAny _ _ (execs [_, _, _] _) _ _ _
      k_steps
      all_goals (rename News _ _ _ _ => N9; rename Fr _ _ _ _ => F9)
      · exact ret _ _ _ _ _ [] [_, _] _ _ _ _ _ F9.keep N9 (Or.inl ⟨rfl, ⟨p, _, rfl, d2⟩, rfl, rfl⟩)
      · exact ret _ _ _ _ _ [] [_, _] _ _ _ _ _ F9.keep N9 (Or.inr (Or.inl ⟨_, Or.inr ⟨_, _, rfl, rfl⟩, d1, rfl, rfl, rfl⟩))
      · exact ret _ _ _ _ _ [_, _, _] [_, _] _ _ _ _ _ F9.keep N9 (Or.inr (Or.inr ⟨_, p, ii, jj, _, _, _, Or.inr ⟨_, _, rfl, rfl⟩, d1, rfl, d2, d3, d4, d5, d6, rfl, Or.inl ⟨d7.mpr (by omega), _, _, _, rfl⟩⟩))
      · exact ret _ _ _ _ _ [_] [_, _] _ _ _ _ _ F9.keep N9 (Or.inr (Or.inr ⟨_, p, ii, jj, _, _, _, Or.inr ⟨_, _, rfl, rfl⟩, d1, rfl, d2, d3, d4, d5, d6, rfl, Or.inr ⟨fun z => absurd (d7.mp z) (by omega), _, rfl⟩⟩))
end Mine
namespace Mine
theorem walk_none_Dr6 : True := by
  k_with_none
  trivial
end Mine
open PySem PySem.W PyProof.Rows PySem.Calls
namespace Mine
open LCg
/-- the tuple that a list comprehension reads lies in the ledger -/
def TupAt6 (ax : Addr) (its : Array Value) (news : List (Addr × Obj)) : Prop := ∃ o, (ax, o) ∈ news ∧ o.cls = .type "tuple" ∧ ∃ n, o.data = .seq its n
theorem TupAt6.tup {h₀ h : Heap} {L ax : Addr} {its : Array Value} {news : List (Addr × Obj)} (x : TupAt6 ax its news) (N : News h₀ L h news) : h.IsTuple ax its := by
  obtain ⟨o, hm, r⟩ := x
  exact ⟨o, (N _ hm).1, r⟩
section
variable {prog : Program} {w : World} {A : Around} {E : Value → Shared → Prop} {s : Shared} {h₀ : Heap} {L : Addr} {m : Str → Option Value} {env : Env}
def SrcT6 (prog : Program) (w : World) (A : Around) (h₀ : Heap) (L : Addr) (m : Str → Option Value) (env : Env) (elt : Expr) (x : Str) (scope : Scope) (cl : List (Str × Addr)) (Fin : Shared → List Value → List (Addr × Obj) → Prop) (xv : Value) (s₁ : Shared) : Prop :=
  ∃ ax its news, xv = .ref ax ∧ A.handled = none ∧ Fr h₀ L s₁.heap m ∧ News h₀ L s₁.heap news ∧ TupAt6 ax its news ∧ its.size ≤ sizeLine ∧
    ∀ s₂ : Shared, (∃ h, s₂ = { s₁ with heap := h }) → CompRest prog w A h₀ L m env elt x scope cl s₂ (TupAt6 ax its) (fun i v => its[i]? = some v) (Fin s₂) its.size 0 [] news
theorem SrcT6.ledger {elt : Expr} {x : Str} {scope : Scope} {cl : List (Str × Addr)} {Fin : Shared → List Value → List (Addr × Obj) → Prop} {ax : Addr} {its : Array Value} {k : Nat} {news : List (Addr × Obj)} {s₁ : Shared}
    (hh : A.handled = none) (F : Fr h₀ L s₁.heap m) (N : News h₀ L s₁.heap news) (hm : (ax, ({ cls := .type "tuple", data := .seq its k } : Obj)) ∈ news) (hsz : its.size ≤ sizeLine)
    (h : ∀ g, CompRest prog w A h₀ L m env elt x scope cl { s₁ with heap := g } (TupAt6 ax its) (fun i v => its[i]? = some v) (Fin { s₁ with heap := g }) its.size 0 [] news) :
    SrcT6 prog w A h₀ L m env elt x scope cl Fin (.ref ax) s₁ := ⟨ax, its, news, rfl, hh, F, N, ⟨_, hm, rfl, _, rfl⟩, hsz, fun _ ⟨g, e⟩ => e ▸ h g⟩
theorem ListComp_T6 {elt iter : Expr} {x : Str} {px : Pos} {scope : Scope} {cl : List (Str × Addr)} {pos : Pos} {Q : Value → Shared → Prop} (_F₀ : Fr h₀ L s.heap m)
    (hclos : closureFor scope env = pure cl) (hcell : ∀ y ∈ scope.names, y.2 ≠ .cell) (hkind : scope.kind = .function)
    (hnames : ∀ y ∈ scope.names, y.2 = .local → scope.names.lookup y.1 = some .local) (hx : scope.names.lookup x = some .local)
    (h : wpAny (model prog w) A (eval iter env) (SrcT6 prog w A h₀ L m env elt x scope cl (fun s₂ => FinE h₀ L m s₂ Q)) E s)
    (hs : ∀ x, foldedSetIterable iter env x = pure x := by intro _; rfl) :
    wpAny (model prog w) A (eval (.ListComp elt [⟨.Name x px, iter, [], 0⟩] scope pos) env) Q E s := by
  rw [eval_ListComp]
  refine wpAny_comprehension_free (use := none) rfl hs hclos hkind hnames (wpAny_mono h (fun xv s₁ h₁ => ?_) fun _ _ e => e)
  obtain ⟨ax, its, news, rfl, hh, F, N, S, hsz, R⟩ := h₁
  have hl := S.tup N
  have hlt : ax < s₁.heap.objs.size := by obtain ⟨_, e, _⟩ := hl; exact Heap.lt_size e
  refine wpAny_pyIter_tuple hl ?_
  have up : ∀ b o, s₁.heap.get? b = some o → (s₁.heap.push { cls := .type "tuple_iterator", data := .fields #[.ref ax, .int 0 0] }).get? b = some o := fun b o e => Heap.get?_push_of_some _ e
  refine block_U (Walks.tuple hh s₁.heap.objs.size ax (Nat.ne_of_lt hlt) its) hsz (fun i h st => by obtain ⟨o, e, _⟩ := st.1; exact ⟨o, e⟩)
    (fun i h h' o nw st e e' _ N S => ⟨by obtain ⟨o', q, r⟩ := st.1; rw [e] at q; cases q; exact ⟨o, e', r⟩, S.tup N⟩) hcell hkind hx ⟨⟨_, Heap.get?_push_size _ rfl, rfl, rfl⟩, hl.push _⟩ (fun b hb => ?_)
    (F.keeps up) (N.grown up) (Nat.ne_of_lt F.ns.lt) (next_is_new F) (fun p hp => Nat.ne_of_lt (Heap.lt_size (N p hp).1)) S (R _ ⟨_, rfl⟩) ?_
  · show b < (s₁.heap.push _).objs.size
    rw [Heap.size_push]
    rcases List.mem_cons.mp hb with rfl | hb
    · exact Nat.lt_succ_self _
    · rw [List.mem_singleton.mp hb]; exact Nat.lt_succ_of_lt hlt
  · intro D C h tk m' ys news' F' N' o1 hn hC₀ hD₀ hCL hDL hCD offC fin
    refine ⟨m', hn, fun h'' hs'' => fin D h'' tk (F'.change hs'' hCL hC₀) (fun p hp => ?_) o1⟩
    refine ⟨hs''.extBut _ _ ?_ (N' p hp).1, (N' p hp).2⟩
    rcases List.mem_cons.mp hp with rfl | hp
    · exact Ne.symm hCD
    · exact offC p hp
/-- what a turn of a comprehension of pairs leaves -/
def PairEnd (h₀ : Heap) (L : Addr) (m : Str → Option Value) (s₁ : Shared) (nw : List (Addr × Obj)) (v : Value) (b : Bool) (y : Value) (s₂ : Shared) : Prop :=
  ∃ B h' tk', y = .ref B ∧ s₂ = { s₁ with heap := h', toks := tk' } ∧ Fr h₀ L h' m ∧ News h₀ L h' ((B, ({ cls := .type "tuple", data := .seq #[v, .bool b] } : Obj)) :: nw) ∧ ∀ p ∈ nw, p.1 ≠ B
theorem comp_two {elt : Expr} {x : Str} {scope : Scope} {cl : List (Str × Addr)} {S : List (Addr × Obj) → Prop} {Fin : List Value → List (Addr × Obj) → Prop} {news : List (Addr × Obj)} {v0 v1 : Value} (b : Bool)
    (hS : ∀ nw, (∀ p ∈ news, p ∈ nw) → S nw)
    (turn : ∀ v nw I oI C oC D m₂ ys h tk (E' : Value → Shared → Prop), (v = v0 ∨ v = v1) → NsObj oC m₂ → m₂ x = some v → Fr h₀ L h m → News h₀ L h ((I, oI) :: (C, oC) :: (D, lst ys) :: nw) →
      wpAny (model prog w) A (eval elt (compEnvC scope cl C env)) (PairEnd h₀ L m { s with heap := h, toks := tk } ((I, oI) :: (C, oC) :: (D, lst ys) :: nw) v b) E' { s with heap := h, toks := tk })
    (fin : ∀ B0 B1, Fin [.ref B0, .ref B1] ((B1, ({ cls := .type "tuple", data := .seq #[v1, .bool b] } : Obj)) :: (B0, ({ cls := .type "tuple", data := .seq #[v0, .bool b] } : Obj)) :: news)) :
    CompRest prog w A h₀ L m env elt x scope cl s S (fun i v => #[v0, v1][i]? = some v) Fin 2 0 [] news := by
  have out : ∀ {I C D B : Addr} {oI oC oD ob : Obj} {nw : List (Addr × Obj)}, Off3 I C D nw → (∀ p ∈ (I, oI) :: (C, oC) :: (D, oD) :: nw, p.1 ≠ B) → Off3 I C D ((B, ob) :: nw) := fun off hB =>
    ⟨⟨Ne.symm (hB _ (.head _)), Ne.symm (hB _ (.tail _ (.head _))), Ne.symm (hB _ (.tail _ (.tail _ (.head _))))⟩, off⟩
  have swap : ∀ {h : Heap} {a c d e : Addr × Obj} {nw : List (Addr × Obj)}, News h₀ L h (a :: c :: d :: e :: nw) → News h₀ L h (c :: d :: e :: a :: nw) := fun N q hq => N q (by
    simp only [List.mem_cons] at hq ⊢
    rcases hq with h | h | h | h | h <;> simp [h])
  refine CompRest.succ ?_
  intro v I oI C oC D m₂ h tk E' hv hC hx F N off ne
  have e0 : v = v0 := by simpa using hv.symm
  subst e0
  refine wpAny_mono (turn v news I oI C oC D m₂ _ h tk E' (Or.inl rfl) hC hx F N) (fun y s₂ hq => ?_) fun _ _ e => e
  obtain ⟨B, h', tk', rfl, rfl, F', N', hB⟩ := hq
  refine ⟨h', tk', _, rfl, F', swap N', out off hB, hS _ (fun p hp => .tail _ hp), ?_⟩
  refine CompRest.succ ?_
  intro v2 I oI C oC D m₂ h tk E' hv hC hx F N off ne
  have e1 : v2 = v1 := by simpa using hv.symm
  subst e1
  refine wpAny_mono (turn v2 _ I oI C oC D m₂ _ h tk E' (Or.inr rfl) hC hx F N) (fun y s₂ hq => ?_) fun _ _ e => e
  obtain ⟨B1, h', tk', rfl, rfl, F', N', hB⟩ := hq
  exact ⟨h', tk', _, rfl, F', swap N', out off hB, hS _ (fun p hp => .tail _ (.tail _ hp)), CompRest.zero (fin _ _)⟩
end
end Mine
namespace Mine
theorem walk_none_Lc6 : True := by
  k_with_none
  trivial
end Mine
open PySem PySem.W PyProof.Rows PySem.Calls PySem.SeqAt
namespace Mine
theorem not_new {h₀ h : Heap} {L a : Addr} {news : List (Addr × Obj)} (N : News h₀ L h news) (n : h.get? a = none) : ∀ p ∈ news, p.1 ≠ a := fun p hp q => by
  have := (N p hp).1
  rw [q, n] at this; cases this
theorem drawnK {w : World} {dp un : Nat} {gd : Option (List Code)} {cn : Str} {cs : Scope} {a : Addr} {ccd : Value} {cl : List (Str × Addr)} {outer : List Env} {A₀ : Around} {base h₀ : Heap} {L : Addr} {m : Str → Option Value} {s : Shared} {Q E : Value → Shared → Prop}
  {mean : ExcName → Option Value} {mg mb : Str → Option Value} {news : List (Addr × Obj)} {x : Int} {tx : Tok}
  (B : Below A₀ base outer h₀) (F : Fr h₀ L s.heap m) (N : News h₀ L s.heap news) (X : (hd.heap_39 w.params).In h₀) (T : Top hd.view_39 (looseW hd.view_39 [Str.ofString "PatternError"]) mean mg mb h₀) (hk : cs.kind = .function)
  (hdp : dp + 3 < recursionLimit)
  (ret : ∀ (r told known : Addr) (pv qv : Value) (tv kv : List Value) (k1 k2 : Nat) (h' : Heap) (tk : Nat), Fr h₀ L h' m → News h₀ L h' ((r, tupOf [pv, qv, .ref told, .ref known]) :: (known, W.listOf kv.toArray k1) :: (told, W.listOf tv.toArray k2) :: news) → DrawnV pv qv tv kv → (∀ p ∈ news, p.1 ≠ r) → (∀ p ∈ news, p.1 ≠ known) → (∀ p ∈ news, p.1 ≠ told) → Q (.ref r) { s with heap := h', toks := tk }) :
  wpAny (model PySem.Challenge.rw_dn0146_06.row.prog w) (ktrTop dp un gd cn cs L a ccd cl outer) (call (.ref 42) [.int x tx]) Q E s :=
  drawn_call B F X T hk hdp fun r told known pv qv tv kv k1 k2 L' h' tk st N' D =>
    have n1 := N' _ (.head _)
    have n2 := N' _ (.tail _ (.head _))
    have n3 := N' _ (.tail _ (.tail _ (.head _)))
    ret r told known pv qv tv kv k1 k2 h' tk (F.grownK st) (one F (one F (one F (fun p hp => ⟨st _ _ (N p hp).1, (N p hp).2⟩) n3.1 n3.2.2) n2.1 n2.2.2) n1.1 n1.2.2) D (not_new N n1.2.2) (not_new N n2.2.2) (not_new N n3.2.2)
theorem peel1K {w : World} {dp un : Nat} {gd : Option (List Code)} {cn : Str} {cs : Scope} {a : Addr} {ccd : Value} {cl : List (Str × Addr)} {outer : List Env} {A₀ : Around} {base h₀ : Heap} {L : Addr} {m : Str → Option Value} {s : Shared} {Q E : Value → Shared → Prop}
  {mean : ExcName → Option Value} {mg mb : Str → Option Value} {news : List (Addr × Obj)} {Wd msg : Str} {tw : Tok} {p : Nat}
  (B : Below A₀ base outer h₀) (F : Fr h₀ L s.heap m) (N : News h₀ L s.heap news) (X : (hd.heap_39 w.params).In h₀) (T : Top hd.view_39 (looseW hd.view_39 [Str.ofString "PatternError"]) mean mg mb h₀) (hk : cs.kind = .function)
  (hdp : dp + 3 < recursionLimit) (hW : Wd = words2 msg (p : Int)) (hp : p < 1000) (hl : Wd.length ≤ 100000)
  (ret : ∀ (r q : Addr) (t1 t2 : Tok) (k : Nat) (h' : Heap) (tk : Nat), Fr h₀ L h' m → News h₀ L h' ((r, tupOf [.str msg t1, .ref q]) :: (q, W.listOf #[.int (p : Int) t2] k) :: news) → Q (.ref r) { s with heap := h', toks := tk }) :
  wpAny (model PySem.Challenge.rw_dn0146_06.row.prog w) (ktrTop dp un gd cn cs L a ccd cl outer) (call (.ref 56) [.str Wd tw]) Q E s :=
  peel_one B F X T hk hdp (by rw [hW]; unfold words2; rw [Str.cps_append, Str.cps_append, Array.toList_append, Array.toList_append]; rfl) hp hl fun r q t1 t2 k h' tk st nr nq gr gq => ret r q t1 t2 k h' tk (F.grownK st) (one F (one F (fun p hp => ⟨st _ _ (N p hp).1, (N p hp).2⟩) gq nq) gr nr)
theorem peel3K {w : World} {dp un : Nat} {gd : Option (List Code)} {cn : Str} {cs : Scope} {a : Addr} {ccd : Value} {cl : List (Str × Addr)} {outer : List Env} {A₀ : Around} {base h₀ : Heap} {L : Addr} {m : Str → Option Value} {s : Shared} {Q E : Value → Shared → Prop}
  {mean : ExcName → Option Value} {mg mb : Str → Option Value} {news : List (Addr × Obj)} {Wd msg : Str} {tw : Tok} {p i j : Nat}
  (B : Below A₀ base outer h₀) (F : Fr h₀ L s.heap m) (N : News h₀ L s.heap news) (X : (hd.heap_39 w.params).In h₀) (T : Top hd.view_39 (looseW hd.view_39 [Str.ofString "PatternError"]) mean mg mb h₀) (hk : cs.kind = .function)
  (hdp : dp + 3 < recursionLimit) (hW : Wd = words3 (words2 msg (p : Int)) ((i : Int) + 1) ((j : Int) + 1)) (hp : p < 100 ∧ i < 100 ∧ j < 100) (hl : Wd.length ≤ 100000)
  (ret : ∀ (r q : Addr) (t1 t2 t3 t4 : Tok) (k : Nat) (h' : Heap) (tk : Nat), Fr h₀ L h' m → News h₀ L h' ((r, tupOf [.str msg t1, .ref q]) :: (q, W.listOf #[.int (p : Int) t2, .int ((i : Int) + 1) t3, .int ((j : Int) + 1) t4] k) :: news) → Q (.ref r) { s with heap := h', toks := tk }) :
  wpAny (model PySem.Challenge.rw_dn0146_06.row.prog w) (ktrTop dp un gd cn cs L a ccd cl outer) (call (.ref 56) [.str Wd tw]) Q E s := by
  have e1 : ((i : Int) + 1) = ((i + 1 : Nat) : Int) := by omega
  have e2 : ((j : Int) + 1) = ((j + 1 : Nat) : Int) := by omega
  rw [e1, e2] at hW
  rw [e1, e2] at ret
  have c1 : (Str.ofString ")").cps.toList = [41] := by decide +kernel
  have hP1 : (words2 msg (p : Int)).cps.toList = msg.cps.toList ++ (Str.ofString " at position ").cps.toList ++ digs p := by unfold words2; rw [Str.cps_append, Str.cps_append, Array.toList_append, Array.toList_append]; rfl
  obtain ⟨P2, hP2⟩ : ∃ P2 : Str, P2 = words2 msg (p : Int) ++ Str.ofString " (line " ++ Str.ofString (toString ((i + 1 : Nat) : Int)) := ⟨_, rfl⟩
  obtain ⟨Y, hY⟩ : ∃ Y : Str, Y = P2 ++ Str.ofString ", column " ++ Str.ofString (toString ((j + 1 : Nat) : Int)) := ⟨_, rfl⟩
  have hWY : Wd = Y ++ Str.ofString ")" := by rw [hW, hY, hP2]; rfl
  have hWc : Wd.cps.toList = Y.cps.toList ++ [41] := by rw [hWY, Str.cps_append, Array.toList_append, c1]
  have hYl : Wd.length = Y.length + 1 := by rw [slen, hWc, List.length_append, ← slen]; rfl
  have hYc : Y.cps.toList = P2.cps.toList ++ (Str.ofString ", column ").cps.toList ++ digs (j + 1) := by rw [hY, Str.cps_append, Str.cps_append, Array.toList_append, Array.toList_append]; rfl
  have hP2c : P2.cps.toList = (words2 msg (p : Int)).cps.toList ++ (Str.ofString " (line ").cps.toList ++ digs (i + 1) := by rw [hP2, Str.cps_append, Str.cps_append, Array.toList_append, Array.toList_append]; rfl
  have l1 : P2.length ≤ Y.length := by rw [slen, slen, hYc]; simp only [List.length_append]; omega
  have l2 : (words2 msg (p : Int)).length ≤ P2.length := by rw [slen, slen, hP2c]; simp only [List.length_append]; omega
  exact peel_three (Y := Y) (P2 := P2) (P1 := words2 msg (p : Int)) (l := i + 1) (c := j + 1) B F X T hk hdp (by rw [hWc, hYl, Nat.add_sub_cancel, slen, List.take_left]) (ends_with (pre := Y.cps.toList) (by rw [hWc, c1])) (by omega) hYc hP2c hP1 (by omega) (by omega) (by omega) hl (by omega) (by omega) (by omega)
    fun r q t1 t2 t3 t4 k h' tk st nr nq gr gq => ret r q t1 t2 t3 t4 k h' tk (F.grownK st) (one F (one F (fun p hp => ⟨st _ _ (N p hp).1, (N p hp).2⟩) gq nq) gr nr)
section
variable {prog : Program} {w : World} {A : Around} {E : Value → Shared → Prop} {s : Shared} {K : Frag} {h₀ : Heap} {L : Addr} {m : Str → Option Value}
variable {nm q : Str} {C Nn e t0 : Addr} {bs : List Value} {sn : List Str} {sub : List Value} {ab : Bool} {col : Option Bool} {dd : Option Addr} {k0 k1 k2 k3 k5 : Option Value} {nid : String}
  {o : Obj} {vs : Array Value} {wd : Str} {tw : Tok}
theorem kstr {Q : Value → Shared → Prop} (F : Fr h₀ L s.heap m) (X₀ : K.In h₀)
    (hk : K.lookup C = some (excClassObj nm q C Nn bs excBm true sn sub ab col dd k0 k1 k2 k3 k5 nid)) (hok : nsOkIn K Nn = true) (hns : nsIn K Nn "__str__" = some none)
    (h1 : s.heap.get? e = some o) (hc : o.cls = .ref C) (hd : o.data = .fields vs) (h0 : vs[0]? = some (.ref t0)) (ht : s.heap.get? t0 = some (tupOf [.str wd tw])) (hu : A.units + 2 < cLine)
    (h : Q (.str wd tw) s) : wpAny (model prog w) A (call (.type "str") [.ref e]) Q E s := by
  have X := X₀.keeps F.keep
  obtain ⟨hC, hN⟩ := kcls X hk hok
  obtain ⟨hp, g, d, t, os⟩ := s
  exact exc_str hC hN (nsMap_none_of_in X hok hns) h1 hc hd h0 ⟨_, _, ht, rfl, rfl⟩ hu h
end
end Mine
namespace Mine
theorem walk_none_KC6 : True := by
  k_with_none
  trivial
end Mine
open PySem PySem.W PyProof.Rows PySem.Calls PySem.SeqAt
namespace Mine
local macro_rules | `(tactic| walk_at "getAttr ref") => `(tactic| (k_here; k_dflt (refine' kget ?k1 ?k2 ?k3 ?k4 ?k5 ?k6 ?k7 ?k8 ?k9 ?k10 ?k11 ?k12 ?k13 ?_; (case k1 => k_asm); (case k2 => k_asm); (case k9 => exact News.get (by k_asm) (by k_mem)); (case k10 => exact News.get (by k_asm) (by k_mem)); (case k3 => k_is); (case k4 => kernel_rfl); (case k5 => k_is); (case k6 => k_is); (case k7 => k_is); (case k8 => (rw [typeLookup_type, builtinLookup_eq_fast]; kernel_rfl)); (case k11 => assumption); (case k12 => assumption); (case k13 => first | rfl | assumption); k_whole)))
local macro_rules | `(tactic| k_all) => `(tactic| assumption)
local macro_rules | `(tactic| walk_at "call type:str") => `(tactic| (k_here; (with_reducible show wpAny _ _ (call (Value.type _) [Value.ref _]) _ _ _); k_dflt (refine' kstr ?k1 ?k2 ?k3 ?k4 ?k5 ?k6 ?k7 ?k8 ?k9 ?k10 ?k11 ?_; (case k1 => k_asm); (case k2 => k_asm); (case k6 => exact News.get (by k_asm) (by k_mem)); (case k7 => rfl); (case k8 => rfl); (case k9 => rfl); (case k10 => exact News.get (by k_asm) (by k_mem)); (case k3 => k_is); (case k4 => kernel_rfl); (case k5 => k_is); (case k11 => first | exact Nat.le_of_ble_eq_true rfl | decide | omega); k_whole)))
local macro_rules | `(tactic| walk_at "getAttr ref") => `(tactic| (k_here; (with_reducible show wpAny _ _ (getAttr _ (Str.ofString "args") _) _ _ _); k_dflt (refine' kargs ?k1 ?k2 ?k3 ?k4 ?k5 ?k6 ?k7 ?k8 ?k9 ?k10 ?k11 ?_; (case k1 => k_asm); (case k2 => k_asm); (case k8 => exact News.get (by k_asm) (by k_mem)); (case k9 => rfl); (case k10 => rfl); (case k11 => rfl); (case k3 => k_is); (case k4 => kernel_rfl); (case k5 => k_is); (case k6 => k_is); (case k7 => k_is); k_whole)))
theorem walk_lines_13 : True := by
  k_with "call ref" => (k_here; (with_reducible show wpAny _ _ (call (Value.ref 34) [Value.str _ _, Value.str _ _, Value.int _ _]) _ _ _); k_dflt (refine' pe_strK (by k_asm) (by k_asm) (by k_asm) (by k_asm) (by k_asm) (by rfl) (by first | decide | ktr_room | omega) (by first | decide | omega) (by first | decide | omega) (by first | decide | omega) (by first | decide | assumption | omega) (by first | decide | omega) ?_; k_whole; intro _ _ _ _ _ _ _ _ _ _ _ _ _ _ _ _ _ _ _ _ _ _ _))
  k_with "call ref" => (k_here; (with_reducible show wpAny _ _ (call (Value.ref 34) [Value.str _ _, Value.bytes _ _, Value.int _ _]) _ _ _); k_dflt (refine' pe_bytesK (by k_asm) (by k_asm) (by k_asm) (by k_asm) (by k_asm) (by rfl) (by first | decide | ktr_room | omega) (by first | decide | omega) (by first | decide | omega) (by first | decide | omega) (by first | decide | assumption | omega) (by first | decide | omega) ?_; k_whole; intro _ _ _ _ _ _ _ _ _ _ _ _ _ _ _ _ _ _ _ _ _ _ _))
  k_with "call ref" => (k_here; (with_reducible show wpAny _ _ (call (Value.ref 34) [Value.str _ _, Value.none, Value.int _ _]) _ _ _); k_dflt (refine' pe_nK (by k_asm) (by k_asm) (by k_asm) (by k_asm) (by k_asm) (by rfl) (by first | decide | ktr_room | omega) (by first | decide | omega) ?_; k_whole; intro _ _ _ _ _ _ _ _ _ _ _ _ _ _ _ _ _ _ _ _ _))
  k_with "call ref" => (k_here; (with_reducible show wpAny _ _ (call (Value.ref 34) [Value.str _ _, Value.str _ _, Value.none]) _ _ _); k_dflt (refine' pe_snK (by k_asm) (by k_asm) (by k_asm) (by k_asm) (by k_asm) (by rfl) (by first | decide | ktr_room | omega) (by first | decide | omega) ?_; k_whole; intro _ _ _ _ _ _ _ _ _ _ _ _ _ _ _ _ _ _ _ _ _))
  k_with "call ref" => (k_here; (with_reducible show wpAny _ _ (call (Value.ref 34) [Value.str _ _, Value.bytes _ _, Value.none]) _ _ _); k_dflt (refine' pe_bnK (by k_asm) (by k_asm) (by k_asm) (by k_asm) (by k_asm) (by rfl) (by first | decide | ktr_room | omega) (by first | decide | omega) ?_; k_whole; intro _ _ _ _ _ _ _ _ _ _ _ _ _ _ _ _ _ _ _ _ _))
  k_with "exec For" => (k_here; (with_reducible show wpAny _ _ (exec (Stmt.For (Expr.Name _ _) _ _ _ _) _) _ _ _); k_dflt (refine' For_here (by k_asm) (by rfl) (by rfl) ?_))
  k_with "exec For Name Name cons nil" => (k_here; (with_reducible show wpAny _ _ (exec (Stmt.For (Expr.Name _ _) _ _ _ _) _) _ _ _); k_dflt (refine' For_here (by k_asm) (by rfl) (by rfl) ?_))
  k_with "exec For Name Call cons nil" => (k_here; (with_reducible show wpAny _ _ (exec (Stmt.For (Expr.Name _ _) _ _ _ _) _) _ _ _); k_dflt (refine' For_here (by k_asm) (by rfl) (by rfl) ?_))
  k_with "exec For Name Subscript cons nil" => (k_here; (with_reducible show wpAny _ _ (exec (Stmt.For (Expr.Name _ _) _ _ _ _) _) _ _ _); k_dflt (refine' For_here (by k_asm) (by rfl) (by rfl) ?_))
  k_with "exec For Name BinOp cons nil" => (k_here; (with_reducible show wpAny _ _ (exec (Stmt.For (Expr.Name _ _) _ _ _ _) _) _ _ _); k_dflt (refine' For_here (by k_asm) (by rfl) (by rfl) ?_))
  k_with "exec For Name Tuple cons nil" => (k_here; (with_reducible show wpAny _ _ (exec (Stmt.For (Expr.Name _ _) _ _ _ _) _) _ _ _); k_dflt (refine' For_here (by k_asm) (by rfl) (by rfl) ?_))
  k_with "call ref" => (k_here; (with_reducible show wpAny _ _ (call (Value.ref 42) [Value.int _ _]) _ _ _); k_dflt (refine' drawnK (by k_asm) (by k_asm) (by k_asm) (by k_asm) (by k_asm) (by rfl) (by first | decide | ktr_room | omega) ?_; k_whole; intro _ _ _ _ _ _ _ _ _ _ _ _ _ _ _ _ _))
  k_with "call builtin:list.append" => (k_here; (with_reducible show wpAny _ _ (call (Value.builtin _) [Value.ref _, _]) _ _ _); k_dflt (refine' append_K (by k_asm) (by k_asm) (by k_upd) ?_ (by exact szL (by assumption)); k_whole); intro _ _ N'; (simp only [List.push_toArray] at N'); (try k_sweep))
  k_with "getMethod ref" => (k_here; (with_reducible show wpAny _ _ (getMethod (Value.ref _) (PySem.Str.ofString "append") _) _ _ _); k_dflt (refine' listMethod_K (by k_asm) (by k_mem) PySem.F.slot_list_append PySem.F.type_list_append ?_))
  k_with "callWith" => (k_here; (with_reducible show wpAny _ _ (callWith _ _ _ (backTo _ (starEach [Expr.Tuple _ _ _] _)) []) _ _ _); (show wpAny _ _ (callWith _ (Value.builtin "list.append") [Value.ref _] _ _) _ _ _); (with_reducible refine cw_tup ?_))
  k_with "exec For Tuple Call cons nil" => (k_here; k_dflt (refine' For_turns (by k_asm) ?_))
  k_with "call type:reversed" => (k_here; (with_reducible show wpAny _ _ (call (Value.type _) [Value.ref _]) _ _ _); k_dflt (refine' krv_reversed (by k_asm) (by k_asm) (by exact News.isList (by k_asm) (by k_mem)) ?_); intro _ _ _ _ l1; (try k_lt l1))
  k_with "subscriptTail" => (k_here; (with_reducible show wpAny _ _ (subscriptTail (Expr.Tuple _ _ _) _ (Value.ref _) (Value.int _ _)) _ _ _); k_dflt (refine' msg_item (by exact News.isTup (by k_asm) (by k_mem)) (by omega) (by omega) (by decide) (by decide) (by decide) (by decide) ?_ (by with_unfolding_all rfl); k_whole; intro _ _ _))
  k_with "compareOp NotEq ref ref" => (k_here; k_dflt (refine' three_ne (by exact News.get (by k_asm) (by k_mem)) (by exact News.get (by k_asm) (by k_mem)) (by exact News.get (by k_asm) (by k_mem)) (by exact News.get (by k_asm) (by k_mem)) (by first | exact Nat.le_of_ble_eq_true rfl | decide | omega) ?_; k_whole))
  k_with "compareOp NotEq ref ref" => (k_here; k_dflt (refine' pairs_ne (by exact News.get (by k_asm) (by k_mem)) (by exact News.get (by k_asm) (by k_mem)) (by exact News.get (by k_asm) (by k_mem)) (by exact News.get (by k_asm) (by k_mem)) (by exact News.get (by k_asm) (by k_mem)) (by exact News.get (by k_asm) (by k_mem)) (by first | exact Nat.le_of_ble_eq_true rfl | decide | omega) (by first | exact fun _ _ => EqAt.same _ | exact fun _ _ => eqv_int _ _ _) (by first | exact fun _ _ => EqAt.same _ | exact fun _ _ => eqv_int _ _ _) ?_; k_whole))
  k_with "compareOp NotEq ref ref" => (k_here; k_dflt (refine' more_ne (by exact News.get (by k_asm) (by k_mem)) (by exact News.get (by k_asm) (by k_mem)) (by first | exact Nat.le_of_ble_eq_true rfl | decide | omega) ?_; k_whole))
  k_with "compareOp NotEq ref ref" => (k_here; k_dflt (refine' lists_ne (by exact News.get (by k_asm) (by k_mem)) (by exact News.get (by k_asm) (by k_mem)) (by first | exact Nat.le_of_ble_eq_true rfl | decide | omega) (by first | exact .nil | exact .cons (eqv_int _ _ _) .nil | exact .cons (eqv_int _ _ _) (.cons (eqv_int _ _ _) (.cons (eqv_int _ _ _) .nil))) ?_; k_whole))
  k_with "call ref" => (k_here; (with_reducible show wpAny _ _ (call (Value.ref 56) [Value.str _ _]) _ _ _); k_dflt (refine' peel1K (by k_asm) (by k_asm) (by k_asm) (by k_asm) (by k_asm) (by rfl) (by first | decide | ktr_room | omega) (by with_reducible assumption) (by omega) (by omega) ?_; k_whole; intro _ _ _ _ _ _ _ _ _))
  k_with "call ref" => (k_here; (with_reducible show wpAny _ _ (call (Value.ref 56) [Value.str _ _]) _ _ _); k_dflt (refine' peel3K (by k_asm) (by k_asm) (by k_asm) (by k_asm) (by k_asm) (by rfl) (by first | decide | ktr_room | omega) (by with_reducible assumption) (by assumption) (by omega) ?_; k_whole; intro _ _ _ _ _ _ _ _ _ _ _))
  trivial
/-- one error of the chain, by its words -/
def StepIs (msg wd : Str) (pv qv : Value) (tv kv : List Value) (lv cv : Value) : Prop :=
  handedOut pv = pure pv ∧ handedOut qv = pure qv ∧
  ((tv = [] ∧ kv = [.none, .none] ∧ lv = .none ∧ cv = .none ∧ wd = msg) ∨
   (∃ (p i j : Nat) (t2 t3 t4 t5 : Tok), (p < 100 ∧ i < 100 ∧ j < 100) ∧ kv = [.int ((i : Int) + 1) t2, .int ((j : Int) + 1) t3] ∧ lv = .int ((i : Int) + 1) t4 ∧ cv = .int ((j : Int) + 1) t5 ∧
     ((∃ t6 t7 t8, tv = [.int (p : Int) t6, .int ((i : Int) + 1) t7, .int ((j : Int) + 1) t8] ∧ wd = words3 (words2 msg (p : Int)) ((i : Int) + 1) ((j : Int) + 1)) ∨ (∃ t6, tv = [.int (p : Int) t6] ∧ wd = words2 msg (p : Int)))))
def Link (T : List (Addr × Obj)) (v : Value) (msg wd : Str) : Prop :=
  ∃ (a e dx t to kn : Addr) (od : Obj) (mA : Str → Option Value) (pv qv lv cv : Value) (tv kv : List Value) (k0 k1 k2 : Nat) (tm tw : Tok), v = .ref a ∧ (a, ({ cls := .type "tuple", data := .seq #[.ref e, pv, qv, .ref to, .ref kn] k0 } : Obj)) ∈ T ∧ (e, excD 34 dx t) ∈ T ∧ (dx, od) ∈ T ∧ (t, tupOf [.str wd tw]) ∈ T ∧ (to, W.listOf tv.toArray k2) ∈ T ∧ (kn, W.listOf kv.toArray k1) ∈ T ∧
    AttrObj od mA ∧ mA (Str.ofString "msg") = some (.str msg tm) ∧ mA (Str.ofString "pattern") = some pv ∧ mA (Str.ofString "pos") = some qv ∧ mA (Str.ofString "lineno") = some lv ∧ mA (Str.ofString "colno") = some cv ∧ StepIs msg wd pv qv tv kv lv cv
theorem Link.mono {T T' : List (Addr × Obj)} {v : Value} {msg wd : Str} (h : ∀ p ∈ T, p ∈ T') : Link T v msg wd → Link T' v msg wd := by
  rintro ⟨a, e, dx, t, to, kn, od, mA, pv, qv, lv, cv, tv, kv, k0, k1, k2, tm, tw, h0, h1, h2, h3, h4, h5, h6, r⟩
  exact ⟨a, e, dx, t, to, kn, od, mA, pv, qv, lv, cv, tv, kv, k0, k1, k2, tm, tw, h0, h _ h1, h _ h2, h _ h3, h _ h4, h _ h5, h _ h6, r⟩
inductive Links (T : List (Addr × Obj)) : List Value → Str → Str → Prop
  | nil (w : Str) : Links T [] w w
  | snoc {vs : List Value} {v : Value} {w0 w1 w2 : Str} : Links T vs w0 w1 → Link T v w1 w2 → Links T (vs ++ [v]) w0 w2
theorem Links.mono {T T' : List (Addr × Obj)} (h : ∀ p ∈ T, p ∈ T') {vs : List Value} {w0 w1 : Str} (l : Links T vs w0 w1) : Links T' vs w0 w1 := by
  induction l with
  | nil w => exact .nil w
  | snoc _ k ih => exact .snoc ih (k.mono h)
theorem Links.last {T : List (Addr × Obj)} {vs : List Value} {v : Value} {w0 w2 : Str} (l : Links T (vs ++ [v]) w0 w2) : ∃ w1, Links T vs w0 w1 ∧ Link T v w1 w2 := by
  generalize he : vs ++ [v] = us at l
  cases l with
  | nil => simp at he
  | snoc l k =>
    obtain ⟨rfl, h⟩ := List.append_inj' he rfl
    cases h
    exact ⟨_, l, k⟩
theorem only_last {a b c q : Addr × Obj} : ∀ p ∈ [q], p ∈ [a, b, c, q] := fun p hp => by rw [List.mem_singleton.mp hp]; exact .tail _ (.tail _ (.tail _ (.head _)))
theorem third_first {h₀ h : Heap} {L : Addr} {a b c : Addr × Obj} {T : List (Addr × Obj)} (N : News h₀ L h (a :: b :: c :: T)) : News h₀ L h (c :: a :: b :: T) := fun q hq => by
  refine N q ?_
  rcases List.mem_cons.mp hq with rfl | hq
  · exact .tail _ (.tail _ (.head _))
  rcases List.mem_cons.mp hq with rfl | hq
  · exact .head _
  rcases List.mem_cons.mp hq with rfl | hq
  · exact .tail _ (.head _)
  · exact .tail _ (.tail _ (.tail _ hq))
theorem step_pe {Wd : Str} {cds : List Nat} {p i j : Nat} {tp t2 t3 : Tok} {pv : Value} {tv : List Value} (hpv : handedOut pv = pure pv) (hcn : nlCount cds p = (i : Int)) (hcc : (p : Int) - nlLast cds p = (j : Int) + 1) (hp : p < 100) (hi : i < 100) (hj : j < 100)
    (htv : (10 ∈ cds ∧ ∃ t4 t5 t6, tv = [.int (p : Int) t4, .int ((i : Int) + 1) t5, .int ((j : Int) + 1) t6]) ∨ (10 ∉ cds ∧ ∃ t4, tv = [.int (p : Int) t4])) :
    (∀ l c, StepIs Wd (peWords Wd cds (p : Int)) pv (.int (p : Int) tp) tv [.int ((i : Int) + 1) t2, .int ((j : Int) + 1) t3] (.int (nlCount cds ((p : Nat) : Int).toNat + 1) l) (.int ((p : Int) - nlLast cds ((p : Nat) : Int).toNat) c)) ∧ (peWords Wd cds (p : Int)).length ≤ Wd.length + 100 := by
  have e1 : nlCount cds ((p : Nat) : Int).toNat + 1 = (i : Int) + 1 := by rw [Int.toNat_natCast, hcn]
  have e2 : (p : Int) - nlLast cds ((p : Nat) : Int).toNat = (j : Int) + 1 := by rw [Int.toNat_natCast, hcc]
  rw [e1, e2]
  rcases htv with ⟨h10, t4, t5, t6, rfl⟩ | ⟨h10, t4, rfl⟩
  · have hw : peWords Wd cds (p : Int) = words3 (words2 Wd (p : Int)) ((i : Int) + 1) ((j : Int) + 1) := by unfold peWords; rw [if_pos h10, e1, e2]
    refine ⟨fun l c => ⟨hpv, rfl, Or.inr ⟨p, i, j, t2, t3, l, c, ⟨hp, hi, hj⟩, rfl, rfl, rfl, Or.inl ⟨t4, t5, t6, rfl, hw⟩⟩⟩, ?_⟩
    rw [hw]
    have h1 := words2_len (msg := Wd) (pos := (p : Int)) (by omega) (by omega)
    have h2 := words3_len (msg := words2 Wd (p : Int)) (line := (i : Int) + 1) (col := (j : Int) + 1) (by omega) (by omega) (by omega) (by omega)
    omega
  · have hw : peWords Wd cds (p : Int) = words2 Wd (p : Int) := by unfold peWords; rw [if_neg h10]
    refine ⟨fun l c => ⟨hpv, rfl, Or.inr ⟨p, i, j, t2, t3, l, c, ⟨hp, hi, hj⟩, rfl, rfl, rfl, Or.inr ⟨t4, rfl, hw⟩⟩⟩, ?_⟩
    rw [hw]
    have h1 := words2_len (msg := Wd) (pos := (p : Int)) (by omega) (by omega)
    omega
theorem sixth_first {h₀ h : Heap} {L : Addr} {a b c d e g : Addr × Obj} {T : List (Addr × Obj)} (N : News h₀ L h (a :: b :: c :: d :: e :: g :: T)) : News h₀ L h (g :: a :: b :: c :: d :: e :: T) := fun q hq => by
  refine N q ?_
  rcases List.mem_cons.mp hq with rfl | hq
  · exact .tail _ (.tail _ (.tail _ (.tail _ (.tail _ (.head _)))))
  rcases List.mem_cons.mp hq with rfl | hq
  · exact .head _
  rcases List.mem_cons.mp hq with rfl | hq
  · exact .tail _ (.head _)
  rcases List.mem_cons.mp hq with rfl | hq
  · exact .tail _ (.tail _ (.head _))
  rcases List.mem_cons.mp hq with rfl | hq
  · exact .tail _ (.tail _ (.tail _ (.head _)))
  rcases List.mem_cons.mp hq with rfl | hq
  · exact .tail _ (.tail _ (.tail _ (.tail _ (.head _))))
  · exact .tail _ (.tail _ (.tail _ (.tail _ (.tail _ (.tail _ hq)))))
def J1 (f : Str) (tf : Tok) (ch : Addr) (i : Nat) (m : Str → Option Value) (nw : List (Addr × Obj)) : Prop :=
  ∃ (cvs : List Value) (k : Nat) (T : List (Addr × Obj)) (Wd : Str) (tw : Tok), m (Str.ofString "first") = some (.str f tf) ∧ m (Str.ofString "words") = some (.str Wd tw) ∧ m (Str.ofString "chain") = some (.ref ch) ∧ nw = (ch, W.listOf cvs.toArray k) :: T ∧ (∀ p ∈ T, p.1 ≠ ch) ∧ Links T cvs f Wd ∧ cvs.length = i ∧ Wd.length ≤ 100 + 100 * i
theorem Links.first {T : List (Addr × Obj)} {w0 w1 : Str} (l : Links T [] w0 w1) : w0 = w1 := by
  generalize he : ([] : List Value) = us at l
  cases l with
  | nil => rfl
  | snoc l k => simp at he
theorem words2_ge (msg : Str) (pos : Int) : msg.length ≤ (words2 msg pos).length := by
  unfold words2
  rw [slen, slen]
  simp only [Str.cps_append, Array.toList_append, List.length_append]
  omega
theorem words3_ge (msg : Str) (l c : Int) : msg.length ≤ (words3 msg l c).length := by
  unfold words3
  rw [slen, slen]
  simp only [Str.cps_append, Array.toList_append, List.length_append]
  omega
theorem ne_same {prog : Program} {w : World} {A : Around} {E : Value → Shared → Prop} {s : Shared} {a : Str} {t u : Tok} {Q : Value → Shared → Prop} (h : Q (.bool false) s) : wpAny (model prog w) A (compareOp .NotEq (.str a t) (.str a u)) Q E s := by
  refine ne_str ?_
  simpa using h
theorem walk_lines_14 : True := by
  k_with "compareOp NotEq str str" => (k_here; k_dflt (refine' ne_same ?_; k_whole))
  k_with "eval ListComp" => (k_here; (with_reducible show wpAny _ _ (eval (Expr.ListComp _ [⟨_, Expr.Name _ _, _, _⟩] _ _) _) _ _ _); k_dflt (refine LCg.ListComp_U (F₀ := by k_asm) (by with_unfolding_all rfl) (by decide) (by rfl) (by decide) (by rfl) ?_))
  k_with "eval ListComp" => (k_here; (with_reducible show wpAny _ _ (eval (Expr.ListComp _ [⟨_, Expr.Tuple _ _ _, _, _⟩] _ _) _) _ _ _); k_dflt (refine ListComp_T6 (by k_asm) (by with_unfolding_all rfl) (by decide) (by rfl) (by decide) (by rfl) ?_))
  k_with "CompSrc" => (refine halt ?_)
  k_with "SrcT6" => (refine halt ?_)
  trivial
theorem up2 {α : Type _} {a b p : α} {T : List α} (h : p ∈ T) : p ∈ a :: b :: T := .tail _ (.tail _ h)
def J2 (f : Str) (tf : Tok) (cvs : List Value) (T : List (Addr × Obj)) (i : Nat) (m : Str → Option Value) : Prop :=
  ∃ (Wd : Str) (tw : Tok), m (Str.ofString "first") = some (.str f tf) ∧ m (Str.ofString "words") = some (.str Wd tw) ∧ Links T (cvs.take (cvs.length - i)) f Wd ∧ Wd.length ≤ 10000
theorem take_back {vs : List Value} {i : Nat} {v : Value} (hi : i < vs.length) (hv : vs[vs.length - 1 - i]? = some v) : vs.take (vs.length - i) = vs.take (vs.length - (i + 1)) ++ [v] := by
  rw [show vs.length - i = (vs.length - 1 - i) + 1 by omega, List.take_add_one, hv, show vs.length - (i + 1) = vs.length - 1 - i by omega]
  rfl
theorem front {h₀ h : Heap} {L : Addr} {news : List (Addr × Obj)} {p : Addr × Obj} (N : News h₀ L h news) (hp : p ∈ news) : News h₀ L h (p :: news) := fun q hq => by
  rcases List.mem_cons.mp hq with rfl | hq
  · exact N _ hp
  · exact N _ hq
theorem assign_cut {M : Model} {A : Around} {E : Value → Shared → Prop} {env : Env} {Q : Flow → Shared → Prop} {target : Expr} {v : Value} {body : List Stmt} {s : Shared} {h₀ : Heap} {L : Addr} {h : Heap} {m : Str → Option Value} {nw : List (Addr × Obj)} (_F : Fr h₀ L h m) (_N : News h₀ L h nw) (P : (Str → Option Value) → List (Addr × Obj) → (Str → Option Value) → List (Addr × Obj) → Prop)
    (h1 : wpAny M A (assign target env v) (fun _ s₂ => MidG h₀ L s (P m nw) s₂) E s)
    (h2 : ∀ h' tk m' nw', Fr h₀ L h' m' → News h₀ L h' nw' → P m nw m' nw' → wpAny M A (execs body env) Q E { s with heap := h', toks := tk }) : wpAny M A (assign target env v) (fun _ s₂ => wpAny M A (execs body env) Q E s₂) E s :=
  wpAny_mono h1 (fun _ _ ⟨h', tk, m', nw', e, F', N', p⟩ => e ▸ h2 h' tk m' nw' F' N' p) fun _ _ e => e
theorem turn6 {f : Str} {tf : Tok} {h₀ h' : Heap} {L ch I ls D e dx t kn to : Addr} {m' : Str → Option Value} {cvs : List Value} {k k1 k2 i tk : Nat} {od oI lo : Obj} {W1 W2 : Str} {tw2 tm : Tok} {pv qv lv cv : Value} {tv kv : List Value} {T : List (Addr × Obj)} {mA : Str → Option Value} {s₁ : Shared} {Q : Flow → Shared → Prop}
    (F : Fr h₀ L h' m') (N : News h₀ L h' ((D, ({ cls := .type "tuple", data := .seq #[.ref e, pv, qv, .ref to, .ref kn] } : Obj)) :: (ch, W.listOf (cvs ++ [Value.ref D]).toArray (k + 1)) :: (e, excD 34 dx t) :: (dx, od) :: (t, tupOf [.str W2 tw2]) :: (kn, W.listOf kv.toArray k1) :: (to, W.listOf tv.toArray k2) :: (I, oI) :: (ls, lo) :: T))
    (m1 : m' (Str.ofString "first") = some (.str f tf)) (m2 : m' (Str.ofString "words") = some (.str W2 tw2)) (m3 : m' (Str.ofString "chain") = some (.ref ch))
    (l1 : @LT.lt Nat _ ch D ∧ @LT.lt Nat _ e D ∧ @LT.lt Nat _ dx D ∧ @LT.lt Nat _ t D ∧ @LT.lt Nat _ kn D ∧ @LT.lt Nat _ to D ∧ @LT.lt Nat _ I D ∧ @LT.lt Nat _ ls D ∧ AllLt D T)
    (hcI : ch ≠ I) (he : e ≠ I) (hdx : dx ≠ I) (ht : t ≠ I) (hkn : kn ≠ I) (hto : to ≠ I) (hTI : ∀ p ∈ T, p.1 ≠ I)
    (hall : ∀ p ∈ (e, excD 34 dx t) :: (dx, od) :: (t, tupOf [.str W2 tw2]) :: (kn, W.listOf kv.toArray k1) :: (to, W.listOf tv.toArray k2) :: (I, oI) :: (ls, lo) :: T, p.1 ≠ ch) (hLk : Links T cvs f W1) (hcl : cvs.length = i)
    (hAA : AttrObj od mA) (a1 : mA (Str.ofString "msg") = some (.str W1 tm)) (a2 : mA (Str.ofString "pattern") = some pv) (a3 : mA (Str.ofString "pos") = some qv) (a4 : mA (Str.ofString "lineno") = some lv) (a5 : mA (Str.ofString "colno") = some cv) (hSt : StepIs W1 W2 pv qv tv kv lv cv) (hW : W2.length ≤ 100 + 100 * (i + 1)) :
    TurnEnd4 h₀ L (J1 f tf ch (i + 1)) I oI ls lo s₁ Q .next { s₁ with heap := h', toks := tk } := by
  refine ⟨h', tk, m', (ch, W.listOf (cvs ++ [Value.ref D]).toArray (k + 1)) :: (D, ({ cls := .type "tuple", data := .seq #[.ref e, pv, qv, .ref to, .ref kn] } : Obj)) :: (e, excD 34 dx t) :: (dx, od) :: (t, tupOf [.str W2 tw2]) :: (kn, W.listOf kv.toArray k1) :: (to, W.listOf tv.toArray k2) :: T, rfl, F, ?_, ?_, ⟨_, _, _, W2, tw2, m1, m2, m3, rfl, ?_, ?_, ?_, hW⟩⟩
  · intro p hp
    refine N p ?_
    simp only [List.mem_cons] at hp ⊢
    rcases hp with h | h | h | h | h | h | h | h | h | h <;> simp [h]
  · refine List.forall_mem_cons.mpr ⟨hcI, List.forall_mem_cons.mpr ⟨Nat.ne_of_gt l1.2.2.2.2.2.2.1, List.forall_mem_cons.mpr ⟨he, List.forall_mem_cons.mpr ⟨hdx, List.forall_mem_cons.mpr ⟨ht, List.forall_mem_cons.mpr ⟨hkn, List.forall_mem_cons.mpr ⟨hto, hTI⟩⟩⟩⟩⟩⟩⟩
  · refine List.forall_mem_cons.mpr ⟨Nat.ne_of_gt l1.1, fun p hp => hall p ?_⟩
    simp only [List.mem_cons] at hp ⊢
    rcases hp with h | h | h | h | h | h <;> simp [h]
  · refine .snoc (hLk.mono fun p hp => .tail _ (.tail _ (.tail _ (.tail _ (.tail _ (.tail _ hp)))))) ⟨D, e, dx, t, to, kn, od, mA, pv, qv, lv, cv, tv, kv, 0, k1, k2, tm, tw2, rfl, .head _, .tail _ (.head _), .tail _ (.tail _ (.head _)), .tail _ (.tail _ (.tail _ (.head _))), .tail _ (.tail _ (.tail _ (.tail _ (.tail _ (.head _))))), .tail _ (.tail _ (.tail _ (.tail _ (.head _)))), hAA, a1, a2, a3, a4, a5, hSt⟩
  · rw [List.length_append, hcl]; rfl
theorem law_walk : PySem.Challenge.rw_dn0146_06.Holds := hd (by
  w_strict (
    k_go0; (all_goals try k_fold))
  rename_i ns hs0 hlay hL1 hr1 hl2 w4 w3 lv vs w0 hL ra w1 r0 hI hr h63 hT0 K0 hD0 h1 F1 N1
  have hn63 : ns.length ≤ 63 := by omega
  clear hs0 hlay hL1 hr1 ra w1 r0 hT0 hD0
  refine cutP F1 N1 3 (fun m nw m' nw' => ∃ (f : Str) (tf : Tok) (ch : Addr), m' (Str.ofString "first") = some (.str f tf) ∧ m' (Str.ofString "words") = some (.str f tf) ∧ m' (Str.ofString "chain") = some (.ref ch) ∧ m' (Str.ofString "script") = some (.ref lv) ∧ nw' = [(ch, W.listOf #[] 0)] ∧ f.length ≤ 100) ?a1 ?a2
  case a1 =>
    show wpAny _ _ (execs [_, _, _] _) _ _ _
    have hf4 := fm4 (ns.length : Int)
    k_steps
    rename News _ _ _ _ => N9
    rename Fr _ _ _ _ => F9
    exact ⟨_, _, _, _, rfl, F9, fun p hp => N9 p (by rw [List.mem_singleton.mp hp]; exact .head _), _, _, _, rfl, rfl, rfl, rfl, rfl, by assumption⟩
  case a2 =>
  clear F1 N1
  rintro h1 tk1 m1 nw1 F1 N1 ⟨f, tf, ch, z1, z2, z3, z4, rfl, hfl⟩
  rw [mapc z1 (mapc z2 (mapc z3 (mapc z4 rfl)))] at F1
  clear z1 z2 z3 z4
  refine cutP F1 N1 1 (fun m nw m' nw' => ∃ n, n ≤ 65 ∧ J1 f tf ch n m' nw') ?b1 ?b2
  case b1 =>
    show wpAny _ _ (execs [_] _) _ _ _
    k_steps
    rename News _ _ _ _ => N2
    rename Fr _ _ _ _ => F2
    rename IntsAre _ ([17587, 292] ++ List.take 63 ns) => hIx
    rename_i lt1 ls ws hlast ltc
    refine loop_here (J1 f tf ch) ?hh F2 N2 (.head _) (only_last (q := (ch, W.listOf #[] 0))) ?start ?turn ?done
    case hh => rfl
    case start => exact ⟨[], 0, [], f, tf, rfl, rfl, rfl, rfl, by simp, .nil f, rfl, by omega⟩
    case turn =>
      clear F2 N2
      intro i v m₁ news₁ h tk I oI lo hv hJ hoff hlo F1 N1
      obtain ⟨cvs, k, T, Wd, tw, z1, z2, z3, rfl, hT, hLk, hcl, hwl⟩ := hJ
      rw [mapc z1 (mapc z2 (mapc z3 rfl))] at F1
      obtain ⟨x, tx, rfl, -⟩ := IntsAre.at hIx i v hv
      have hi65 : i < 65 := by
        have h1 := (List.getElem?_eq_some_iff.mp hv).1
        have h2 := hIx.length
        simp only [List.length_append, List.length_cons, List.length_nil, List.length_take] at h2
        omega
      have hcI : ch ≠ I := hoff _ (.head _)
      have hcl2 : ls ≠ ch := Nat.ne_of_gt ltc.2.2
      have hrest : ∀ p ∈ (I, oI) :: (ls, lo) :: T, p.1 ≠ ch := List.forall_mem_cons.mpr ⟨Ne.symm hcI, List.forall_mem_cons.mpr ⟨hcl2, hT⟩⟩
      replace N1 := third_first N1
      refine cutP F1 N1 1 (fun m nw m' nw' => ∃ (pv qv : Value) (to kn : Addr) (tv kv : List Value) (k1 k2 : Nat), m' (Str.ofString "pattern") = some pv ∧ m' (Str.ofString "place") = some qv ∧ m' (Str.ofString "told") = some (.ref to) ∧ m' (Str.ofString "known") = some (.ref kn) ∧ m' (Str.ofString "first") = some (.str f tf) ∧ m' (Str.ofString "words") = some (.str Wd tw) ∧ m' (Str.ofString "chain") = some (.ref ch) ∧ nw' = (kn, W.listOf kv.toArray k1) :: (to, W.listOf tv.toArray k2) :: nw ∧ DrawnV pv qv tv kv ∧ (∀ p ∈ nw, p.1 ≠ kn) ∧ (∀ p ∈ nw, p.1 ≠ to)) ?c1 ?c2
      case c1 =>
        show wpAny _ _ (execs [_] _) _ _ _
        k_steps
        rename News _ _ _ _ => N9
        rename Fr _ _ _ _ => F9
        exact ⟨_, _, _, _, rfl, F9, fun p hp => N9 p (.tail _ hp), _, _, _, _, _, _, _, _, rfl, rfl, rfl, rfl, rfl, rfl, rfl, rfl, by assumption, by assumption, by assumption⟩
      case c2 =>
      clear F1 N1
      rintro h2 tk2 m2 nw2 F1 N1 ⟨pv, qv, to, kn, tv, kv, k1, k2, z1, z2, z3, z4, z5, z6, z7, rfl, hDr, hnk, hnt⟩
      rw [mapc z1 (mapc z2 (mapc z3 (mapc z4 (mapc z5 (mapc z6 (mapc z7 rfl))))))] at F1
      clear z1 z2 z3 z4 z5 z6 z7
      have hwl2 : Wd.length < 100000 := by omega
      have hwl3 : Wd.length ≤ 10000 := by omega
      refine cutP F1 N1 1 (fun m nw m' nw' => ∃ (e dx t : Addr) (od : Obj) (mA : Str → Option Value) (lv cv : Value) (W2 : Str) (tm tw2 : Tok), m' (Str.ofString "error") = some (.ref e) ∧ m' (Str.ofString "pattern") = some pv ∧ m' (Str.ofString "place") = some qv ∧ m' (Str.ofString "told") = some (.ref to) ∧ m' (Str.ofString "known") = some (.ref kn) ∧ m' (Str.ofString "first") = some (.str f tf) ∧ m' (Str.ofString "chain") = some (.ref ch) ∧ nw' = (e, excD 34 dx t) :: (dx, od) :: (t, tupOf [.str W2 tw2]) :: nw ∧
        AttrObj od mA ∧ mA (Str.ofString "msg") = some (.str Wd tm) ∧ mA (Str.ofString "pattern") = some pv ∧ mA (Str.ofString "pos") = some qv ∧ mA (Str.ofString "lineno") = some lv ∧ mA (Str.ofString "colno") = some cv ∧ StepIs Wd W2 pv qv tv kv lv cv ∧ W2.length ≤ Wd.length + 100 ∧ (∀ p ∈ nw, p.1 ≠ e) ∧ (∀ p ∈ nw, p.1 ≠ dx) ∧ (∀ p ∈ nw, p.1 ≠ t)) ?c3 ?c4
      case c3 =>
        show wpAny _ _ (execs [_] _) _ _ _
        rcases hDr with ⟨rfl, ⟨p, tp, rfl, hp⟩, rfl, rfl⟩ | ⟨cds, hpat, hcl3, rfl, rfl, rfl⟩ | ⟨cds, p, pi, pj, tp, t2, t3, hpat, hcl3, rfl, hp, hcn, hcc, hpi, hpj, rfl, htv⟩
        · k_steps
          rename News _ _ _ _ => N9
          rename Fr _ _ _ _ => F9
          exact ⟨_, _, _, _, rfl, F9, N9, _, _, _, _, _, _, _, _, _, _, rfl, rfl, rfl, rfl, rfl, rfl, rfl, rfl, by assumption, by assumption, by assumption, by assumption, by assumption, by assumption, ⟨rfl, rfl, Or.inl ⟨rfl, rfl, rfl, rfl, rfl⟩⟩, by omega, by assumption, by assumption, by assumption⟩
        · rcases hpat with ⟨x9, t9, rfl, hx9⟩ | ⟨x9, t9, rfl, hx9⟩
          all_goals (
            k_steps
            rename News _ _ _ _ => N9
            rename Fr _ _ _ _ => F9
            exact ⟨_, _, _, _, rfl, F9, N9, _, _, _, _, _, _, _, _, _, _, rfl, rfl, rfl, rfl, rfl, rfl, rfl, rfl, by assumption, by assumption, by assumption, by assumption, by assumption, by assumption, ⟨rfl, rfl, Or.inl ⟨rfl, rfl, rfl, rfl, rfl⟩⟩, by omega, by assumption, by assumption, by assumption⟩)
        · rcases hpat with ⟨x9, t9, rfl, rfl⟩ | ⟨x9, t9, rfl, rfl⟩
          · have hx9 : x9.length < 100000 := by rw [slen]; omega
            k_steps
            rename News _ _ _ _ => N9
            rename Fr _ _ _ _ => F9
            obtain ⟨hst, hsl⟩ := step_pe (Wd := Wd) (pv := Value.str x9 t9) (tp := tp) rfl hcn hcc hp hpi hpj htv
            exact ⟨_, _, _, _, rfl, F9, N9, _, _, _, _, _, _, _, _, _, _, rfl, rfl, rfl, rfl, rfl, rfl, rfl, rfl, by assumption, by assumption, by assumption, by assumption, by assumption, by assumption, hst _ _, hsl, by assumption, by assumption, by assumption⟩
          · have hx9 : x9.size < 100000 := by rw [← codes_length]; omega
            k_steps
            rename News _ _ _ _ => N9
            rename Fr _ _ _ _ => F9
            obtain ⟨hst, hsl⟩ := step_pe (Wd := Wd) (pv := Value.bytes x9 t9) (tp := tp) rfl hcn hcc hp hpi hpj htv
            exact ⟨_, _, _, _, rfl, F9, N9, _, _, _, _, _, _, _, _, _, _, rfl, rfl, rfl, rfl, rfl, rfl, rfl, rfl, by assumption, by assumption, by assumption, by assumption, by assumption, by assumption, hst _ _, hsl, by assumption, by assumption, by assumption⟩
      case c4 =>
      clear F1 N1
      rintro h3 tk3 m3 nw3 F1 N1 ⟨e, dx, t, od, mA, lv', cv, W2, tm, tw2, z1, z2, z3, z4, z5, z6, z7, rfl, hAA, a1, a2, a3, a4, a5, hSt, hW2, ne1, ne2, ne3⟩
      rw [mapc z1 (mapc z2 (mapc z3 (mapc z4 (mapc z5 (mapc z6 (mapc z7 rfl))))))] at F1
      clear z1 z2 z3 z4 z5 z6 z7
      have hcl4 : cvs.length ≤ 100000 := by omega
      have mch : (ch, W.listOf cvs.toArray k) ∈ (kn, W.listOf kv.toArray k1) :: (to, W.listOf tv.toArray k2) :: (ch, W.listOf cvs.toArray k) :: (I, oI) :: (ls, lo) :: T := .tail _ (.tail _ (.head _))
      have mI : (I, oI) ∈ (kn, W.listOf kv.toArray k1) :: (to, W.listOf tv.toArray k2) :: (ch, W.listOf cvs.toArray k) :: (I, oI) :: (ls, lo) :: T := .tail _ (.tail _ (.tail _ (.head _)))
      have hall : ∀ p ∈ (e, excD 34 dx t) :: (dx, od) :: (t, tupOf [.str W2 tw2]) :: (kn, W.listOf kv.toArray k1) :: (to, W.listOf tv.toArray k2) :: (I, oI) :: (ls, lo) :: T, p.1 ≠ ch :=
        List.forall_mem_cons.mpr ⟨Ne.symm (ne1 _ mch), List.forall_mem_cons.mpr ⟨Ne.symm (ne2 _ mch), List.forall_mem_cons.mpr ⟨Ne.symm (ne3 _ mch), List.forall_mem_cons.mpr ⟨Ne.symm (hnk _ (.head _)), List.forall_mem_cons.mpr ⟨Ne.symm (hnt _ (.head _)), hrest⟩⟩⟩⟩⟩
      replace N1 := sixth_first N1
      show wpAny _ _ (execs [_, _] _) _ _ _
      k_steps
      rename News _ _ _ _ => N9
      rename Fr _ _ _ _ => F9
      have mI2 : (I, oI) ∈ (ch, W.listOf cvs.toArray k) :: (I, oI) :: (ls, lo) :: T := .tail _ (.head _)
      exact turn6 F9 N9 rfl rfl rfl (by assumption) hcI (Ne.symm (ne1 _ mI)) (Ne.symm (ne2 _ mI)) (Ne.symm (ne3 _ mI)) (Ne.symm (hnk _ mI2)) (Ne.symm (hnt _ mI2)) (fun p hp => hoff p (.tail _ hp)) hall hLk hcl hAA a1 a2 a3 a4 a5 hSt (by omega)
    case done =>
      clear F2 N2
      intro m₁ news₁ h tk hJ F1 N1
      have hJ2 := hJ
      obtain ⟨cvs, k, T, Wd, tw, z1, z2, z3, rfl, hT, hLk, hcl, hwl⟩ := hJ
      rw [mapc z1 (mapc z2 (mapc z3 rfl))] at F1
      k_steps
      rename News _ _ _ _ => N9
      rename Fr _ _ _ _ => F9
      refine ⟨_, _, _, _, rfl, F9, N9, ws.length, ?_, ⟨cvs, k, T, Wd, tw, rfl, rfl, rfl, rfl, hT, hLk, hcl, hwl⟩⟩
      have h2 := hIx.length
      simp only [List.length_append, List.length_cons, List.length_nil, List.length_take] at h2
      omega
  case b2 =>
  clear F1 N1
  rintro h2 tk2 m2 nw2 F1 N1 ⟨n, hn65, cvs, k, T, Wd, tw, z1, z2, z3, rfl, hT, hLk, hcl, hwl⟩
  rw [mapc z1 (mapc z2 (mapc z3 rfl))] at F1
  clear z1 z2 z3
  show wpAny _ _ (execs [_, _] _) _ _ _
  k_steps
  rename News _ _ _ _ => N2
  rename Fr _ _ _ _ => F2
  rename _ ∧ _ => ltD
  refine rev_turns (J2 f tf cvs T) ?rh F2 N2 (.head _) rfl rfl ?roff ⟨Wd, tw, rfl, rfl, by rw [Nat.sub_zero, List.take_length]; exact hLk, by omega⟩ ?rturn ?rdone
  case rh => rfl
  case roff => exact List.forall_mem_cons.mpr ⟨Nat.ne_of_lt ltD.1, tbn_neAll ltD.2⟩
  case rturn =>
    clear F2 N2
    intro i v m h tk oI hi hv hJ F1 N1
    obtain ⟨W1, tw1, z1, z2, hLk1, hwl1⟩ := hJ
    rw [mapc z1 (mapc z2 rfl)] at F1
    rw [take_back hi hv] at hLk1
    obtain ⟨W0, hLk0, hlk⟩ := hLk1.last
    obtain ⟨a, e, dx, t, to, kn, od, mA, pv, qv, lv', cv, tv, kv, q0, q1, q2, tm, tw2, rfl, b1, b2, b3, b4, b5, b6, hAA, a1, a2, a3, a4, a5, hSt⟩ := hlk
    have N3 := front (front (front (front (front (front N1 (up2 b1)) (.tail _ (up2 b2))) (.tail _ (.tail _ (up2 b3)))) (.tail _ (.tail _ (.tail _ (up2 b4))))) (.tail _ (.tail _ (.tail _ (.tail _ (up2 b5)))))) (.tail _ (.tail _ (.tail _ (.tail _ (.tail _ (up2 b6))))))
    clear N1
    refine assign_cut F1 N3 (fun m nw m' nw' => nw' = nw ∧ m' (Str.ofString "error") = some (.ref e) ∧ m' (Str.ofString "pattern") = some pv ∧ m' (Str.ofString "place") = some qv ∧ m' (Str.ofString "told") = some (.ref to) ∧ m' (Str.ofString "known") = some (.ref kn) ∧ m' (Str.ofString "first") = some (.str f tf) ∧ m' (Str.ofString "words") = some (.str W1 tw1)) ?d1 ?d2
    case d1 =>
      k_steps
      rename News _ _ _ _ => N9
      rename Fr _ _ _ _ => F9
      exact ⟨_, _, _, _, rfl, F9, N9, rfl, rfl, rfl, rfl, rfl, rfl, rfl, rfl⟩
    case d2 =>
    clear F1 N3
    rintro h4 tk4 m4 nw4 F1 N1 ⟨rfl, z3, z4, z5, z6, z7, z8, z9⟩
    rw [mapc z3 (mapc z4 (mapc z5 (mapc z6 (mapc z7 (mapc z8 (mapc z9 rfl))))))] at F1
    clear z1 z2 z3 z4 z5 z6 z7 z8 z9
    obtain ⟨hnd1, hnd2, hSt⟩ := hSt
    have hK : (lv' = .none ∧ cv = .none ∧ kv = [.none, .none]) ∨ ∃ (x y : Int) (t2 t3 t4 t5 : Tok), lv' = .int x t4 ∧ cv = .int y t5 ∧ kv = [.int x t2, .int y t3] := by
      rcases hSt with ⟨-, h2, h3, h4, -⟩ | ⟨p, pi, pj, t2, t3, t4, t5, -, h2, h3, h4, -⟩
      · exact Or.inl ⟨h3, h4, h2⟩
      · exact Or.inr ⟨_, _, t2, t3, t4, t5, h3, h4, h2⟩
    have hw0 : W0.length ≤ 10000 := by
      rcases hSt with ⟨-, -, -, -, h5⟩ | ⟨p, pi, pj, t2, t3, t4, t5, -, -, -, -, ⟨t6, t7, t8, -, hwd⟩ | ⟨t6, -, hwd⟩⟩
      · rw [← h5]; exact hwl1
      · rw [hwd] at hwl1; exact Nat.le_trans (Nat.le_trans (words2_ge _ _) (words3_ge _ _ _)) hwl1
      · rw [hwd] at hwl1; exact Nat.le_trans (words2_ge _ _) hwl1
    refine cutP F1 N1 4 (fun m nw m' nw' => ∃ tw', m' (Str.ofString "words") = some (.str W0 tw') ∧ m' (Str.ofString "first") = some (.str f tf) ∧ m' (Str.ofString "error") = some (.ref e) ∧ m' (Str.ofString "known") = some (.ref kn) ∧ nw' = nw) ?d3 ?d4
    case d3 =>
      show wpAny _ _ (execs [_, _, _, _] _) _ _ _
      have hwl9 : W1.length ≤ 100000 := by omega
      clear hK
      rcases hSt with ⟨rfl, -, -, -, rfl⟩ | ⟨p, pi, pj, t2, t3, t4, t5, hpij, -, -, -, ⟨t6, t7, t8, rfl, hwd⟩ | ⟨t6, rfl, hwd⟩⟩
      · --@d31
        k_steps
        rename News _ _ _ _ => N9
        rename Fr _ _ _ _ => F9
        exact ⟨_, _, _, _, rfl, F9, fun p hp => N9 p (by repeat (first | exact hp | apply List.mem_cons_of_mem)), _, rfl, rfl, rfl, rfl, rfl⟩
      · --@d32
        k_steps
        rename News _ _ _ _ => N9
        rename Fr _ _ _ _ => F9
        exact ⟨_, _, _, _, rfl, F9, fun p hp => N9 p (by repeat (first | exact hp | apply List.mem_cons_of_mem)), _, rfl, rfl, rfl, rfl, rfl⟩
      · --@d33
        k_steps
        rename News _ _ _ _ => N9
        rename Fr _ _ _ _ => F9
        exact ⟨_, _, _, _, rfl, F9, fun p hp => N9 p (by repeat (first | exact hp | apply List.mem_cons_of_mem)), _, rfl, rfl, rfl, rfl, rfl⟩
    case d4 =>
    clear F1 N1
    rintro h5 tk5 m5 nw5 F1 N1 ⟨tw', z1, z2, z3, z4, rfl⟩
    rw [mapc z1 (mapc z2 (mapc z3 (mapc z4 rfl)))] at F1
    clear z1 z2 z3 z4 hSt
    rcases hK with ⟨rfl, rfl, rfl⟩ | ⟨x, y, t2, t3, t4, t5, rfl, rfl, rfl⟩
    · show wpAny _ _ (execs [_] _) _ _ _
      k_steps
      unfold Halt
      rename News _ _ _ _ => N2
      rename Fr _ _ _ _ => F2
      refine SrcT6.ledger rfl F2 N2 (.head _) (Nat.le_of_ble_eq_true rfl) (fun g' => comp_two false (fun nw hn => ⟨_, hn _ (.head _), rfl, _, rfl⟩) ?turn ?fin)
      case turn =>
        clear F2 N2 F1 N1
        intro v nw I C1 C oC D m₂ ys h tk E' hv hC hx F2 N2
        rcases hv with rfl | rfl
        all_goals (
          k_steps
          rename News _ _ _ _ => N9
          rename Fr _ _ _ _ => F9
          rename _ ∧ _ => l9
          exact ⟨_, _, _, rfl, rfl, F9, N9, List.forall_mem_cons.mpr ⟨Nat.ne_of_lt l9.1, List.forall_mem_cons.mpr ⟨Nat.ne_of_lt l9.2.1, List.forall_mem_cons.mpr ⟨Nat.ne_of_lt l9.2.2.1, tbn_neAll l9.2.2.2⟩⟩⟩⟩)
      case fin =>
        clear F2 N2 F1 N1
        intro B0 B1 D h tk F2 N2 o1
        dsimp only [LCg.lst] at N2
        k_steps
        unfold Halt
        refine LCg.CompSrc.ledger rfl F2 N2 (by k_mem) (Nat.le_of_ble_eq_true rfl) (fun g' => comp_two false (fun nw hn => Or.inr ⟨_, hn _ (by k_mem), rfl, _, rfl⟩) ?turn2 ?fin2)
        case turn2 =>
          clear F2 N2
          intro v nw I C1 C oC D m₂ ys h tk E' hv hC hx F2 N2
          rcases hv with rfl | rfl
          all_goals (
            k_steps
            rename News _ _ _ _ => N9
            rename Fr _ _ _ _ => F9
            rename _ ∧ _ => l9
            exact ⟨_, _, _, rfl, rfl, F9, N9, List.forall_mem_cons.mpr ⟨Nat.ne_of_lt l9.1, List.forall_mem_cons.mpr ⟨Nat.ne_of_lt l9.2.1, List.forall_mem_cons.mpr ⟨Nat.ne_of_lt l9.2.2.1, tbn_neAll l9.2.2.2⟩⟩⟩⟩)
        case fin2 =>
          clear F2 N2
          intro B2 B3 D2 h tk F2 N2 o1
          dsimp only [LCg.lst] at N2
          k_steps
          rename News _ _ _ _ => N9
          rename Fr _ _ _ _ => F9
          exact ⟨_, _, _, rfl, F9, fun p hp => N9 p (by repeat (first | exact hp | apply List.mem_cons_of_mem)), ⟨W0, tw', rfl, rfl, hLk0, hw0⟩⟩
    · show wpAny _ _ (execs [_] _) _ _ _
      k_steps
      unfold Halt
      rename News _ _ _ _ => N2
      rename Fr _ _ _ _ => F2
      refine SrcT6.ledger rfl F2 N2 (.head _) (Nat.le_of_ble_eq_true rfl) (fun g' => comp_two true (fun nw hn => ⟨_, hn _ (.head _), rfl, _, rfl⟩) ?turn ?fin)
      case turn =>
        clear F2 N2 F1 N1
        intro v nw I C1 C oC D m₂ ys h tk E' hv hC hx F2 N2
        rcases hv with rfl | rfl
        all_goals (
          k_steps
          rename News _ _ _ _ => N9
          rename Fr _ _ _ _ => F9
          rename _ ∧ _ => l9
          exact ⟨_, _, _, rfl, rfl, F9, N9, List.forall_mem_cons.mpr ⟨Nat.ne_of_lt l9.1, List.forall_mem_cons.mpr ⟨Nat.ne_of_lt l9.2.1, List.forall_mem_cons.mpr ⟨Nat.ne_of_lt l9.2.2.1, tbn_neAll l9.2.2.2⟩⟩⟩⟩)
      case fin =>
        clear F2 N2 F1 N1
        intro B0 B1 D h tk F2 N2 o1
        dsimp only [LCg.lst] at N2
        k_steps
        unfold Halt
        refine LCg.CompSrc.ledger rfl F2 N2 (by k_mem) (Nat.le_of_ble_eq_true rfl) (fun g' => comp_two true (fun nw hn => Or.inr ⟨_, hn _ (by k_mem), rfl, _, rfl⟩) ?turn2 ?fin2)
        case turn2 =>
          clear F2 N2
          intro v nw I C1 C oC D m₂ ys h tk E' hv hC hx F2 N2
          rcases hv with rfl | rfl
          all_goals (
            k_steps
            rename News _ _ _ _ => N9
            rename Fr _ _ _ _ => F9
            rename _ ∧ _ => l9
            exact ⟨_, _, _, rfl, rfl, F9, N9, List.forall_mem_cons.mpr ⟨Nat.ne_of_lt l9.1, List.forall_mem_cons.mpr ⟨Nat.ne_of_lt l9.2.1, List.forall_mem_cons.mpr ⟨Nat.ne_of_lt l9.2.2.1, tbn_neAll l9.2.2.2⟩⟩⟩⟩)
        case fin2 =>
          clear F2 N2
          intro B2 B3 D2 h tk F2 N2 o1
          dsimp only [LCg.lst] at N2
          k_steps
          rename News _ _ _ _ => N9
          rename Fr _ _ _ _ => F9
          exact ⟨_, _, _, rfl, F9, fun p hp => N9 p (by repeat (first | exact hp | apply List.mem_cons_of_mem)), ⟨W0, tw', rfl, rfl, hLk0, hw0⟩⟩
  case rdone =>
    clear F2 N2
    intro m h tk hJ F1 N1
    obtain ⟨W1, tw1, z1, z2, hLk1, hwl1⟩ := hJ
    rw [mapc z1 (mapc z2 rfl)] at F1
    rw [Nat.sub_self, List.take_zero] at hLk1
    obtain rfl := hLk1.first
    k_steps)
end Mine
namespace Mine
theorem walk_none_Lw6 : True := by
  k_with_none
  trivial
end Mine
theorem PySem.Challenge.cw_dn0146_06_holds : PySem.Challenge.rw_dn0146_06.Holds := by
  exact Mine.law_walk
