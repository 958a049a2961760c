import PyProof.Rows.All
import Wide.All
import OpenK.AllK
import Wide.FinOn
import Lean
import PySem.Challenge.RW_bm0020_01
set_option Elab.async false

section
open PySem PySem.W PyProof.Rows
namespace Mine
set_option maxRecDepth 100000 in
set_option maxHeartbeats 8000000 in
open_top hd for PySem.Challenge.rw_bm0020_01
end Mine
end

section
open PySem PySem.W PySem.Calls PyProof.Rows
set_option maxRecDepth 100000
namespace Mine

noncomputable abbrev KK : Params → Frag := hd.heap_39
noncomputable abbrev VW : Program := hd.view_39
abbrev LO : List Str := [Str.ofString "Unassigned", Str.ofString "Constraint", Str.ofString "AllDifferentConstraint",
      Str.ofString "AllEqualConstraint", Str.ofString "MaxSumConstraint", Str.ofString "SomeInSetConstraint",
      Str.ofString "SomeNotInSetConstraint"]

/-- what stands from the first moment of the call on -/
structure Sys (w : World) (b : Heap) : Prop where
  X : (KK w.params).In b
  T : ∃ mg mb, TopRead VW LO mg mb b

/-- every live object of the one is the same in the other -/
def Le (b h : Heap) : Prop := ∀ a o, b.get? a = some o → h.get? a = some o
theorem Le.refl (h : Heap) : Le h h := fun _ _ e => e
theorem Le.trans {a b c : Heap} (x : Le a b) (y : Le b c) : Le a c := fun _ _ e => y _ _ (x _ _ e)
theorem Sys.keeps {w : World} {b h : Heap} (S : Sys w b) (l : Le b h) : Sys w h :=
  ⟨S.X.keeps l, let ⟨mg, mb, T⟩ := S.T; ⟨mg, mb, T.keeps l⟩⟩

/-- all but the addresses of W stays -/
def Ext (W : List Addr) (h h' : Heap) : Prop := ∀ a o, a ∉ W → h.get? a = some o → h'.get? a = some o

structure Room (A : Around) (n : Nat) : Prop where
  hh : A.handled = none
  hd : A.depth + n < recursionLimit
  hu : A.units + 50 * n < cLine

section
variable {M : Model} {A : Around} {E : Value → Shared → Prop} {s : Shared} {w : World} {b : Heap} {env : Env} {x : Str} {pos : Pos} {v : Value} {Q : Value → Shared → Prop}

theorem gname (S : Sys w b) (l : Le b s.heap) (e : nsIn (KK w.params) mainGlobals x = some (some v)) (h : Q v s)
    (hk : env.scope.kind = .function := by rfl) (hx : env.kindOf x = some .globalImplicit := by rfl) (hg : env.globals = mainGlobals := by rfl) (hd : (x == ("__debug__" : Str)) = false := by decide) :
    wpAny M A (eval (.Name x pos) env) Q E s := by
  obtain ⟨mg, mb, T⟩ := S.T
  exact Name_function_global hk hx (loadGlobal_global (hg ▸ T.g.keeps l) (mg_of S.X T.g e) h) hd
theorem bname (S : Sys w b) (l : Le b s.heap) (e : nsIn (KK w.params) mainGlobals x = some none) (hv : bootBuiltins x = some v) (hn : x ≠ "__name__") (h : Q v s)
    (hk : env.scope.kind = .function := by rfl) (hx : env.kindOf x = some .globalImplicit := by rfl) (hg : env.globals = mainGlobals := by rfl) (hbi : env.builtins = builtinsNs := by rfl) (hd : (x == ("__debug__" : Str)) = false := by decide) :
    wpAny M A (eval (.Name x pos) env) Q E s := by
  obtain ⟨mg, mb, T⟩ := S.T
  exact Name_function_global hk hx (loadGlobal_builtin (hg ▸ T.g.keeps l) (mg_none_of S.X T.g e) (hbi ▸ T.b.keeps l) ((T.builtins x hn).trans hv) h) hd
theorem lname {m : Str → Option Value} (hn : s.heap.Ns env.locals m) (hv : m x = some v) (h : Q v s)
    (hk : env.scope.kind = .function := by rfl) (hx : env.kindOf x = some .local := by rfl) (hd : (x == ("__debug__" : Str)) = false := by decide) :
    wpAny M A (eval (.Name x pos) env) Q E s := wpAny_Name (wpAny_loadName_local hk hx hn hv h) hd
end

-- facts of the written part
theorem b_len (P : Params) : nsIn (KK P) mainGlobals (Str.ofString "len") = some none := by kernel_rfl
theorem g_Domain (P : Params) : nsIn (KK P) mainGlobals (Str.ofString "Domain") = some (some (.ref 97)) := by kernel_rfl
theorem f_remove (P : Params) : findIn (KK P) (.ref 97) (Str.ofString "remove") = some (some (.builtin "list.remove")) := by kernel_rfl
theorem f_hide (P : Params) : findIn (KK P) (.ref 97) (Str.ofString "hideValue") = some (some (.ref 94)) := by kernel_rfl
theorem f_ga (P : Params) : findIn (KK P) (.ref 97) (Str.ofString "__getattribute__") = some (some (.builtin "list.__getattribute__")) := by kernel_rfl
theorem f_gx (P : Params) : findIn (KK P) (.ref 97) (Str.ofString "__getattr__") = some none := by kernel_rfl
theorem sub_list (P : Params) : subIn (KK P) (.ref 97) (.type "list") = some true := by kernel_rfl
theorem bb_len : bootBuiltins (Str.ofString "len") = some (.builtin "len") := by kernel_rfl
end Mine
end

section
open PySem PySem.W PySem.Calls PyProof.Rows Builtin Builtin.ObjectAttr
set_option maxRecDepth 100000
namespace Mine

-- ================= the rooms =================
theorem Room.deeper {A : Around} {n : Nat} {env : Env} (R : Room A (n + 1)) : Room (A.deeper env) n :=
  ⟨R.hh, (by have := R.hd; show A.depth + 1 + n < recursionLimit; omega), (by have := R.hu; show A.units + 3 + 50 * n < cLine; omega)⟩
theorem Room.here {A : Around} {n : Nat} (R : Room A n) : A.depth < recursionLimit := by have := R.hd; omega
theorem Room.un {A : Around} {n : Nat} (R : Room A n) : A.units < cLine := by have := R.hu; omega
theorem Room.le {A : Around} {n k : Nat} (R : Room A n) (h : k ≤ n) : Room A k :=
  ⟨R.hh, (by have := R.hd; omega), (by have := R.hu; omega)⟩

-- ================= heaps =================
theorem Ext.refl (W : List Addr) (h : Heap) : Ext W h h := fun _ _ _ e => e
theorem Ext.trans {W V : List Addr} {a b c : Heap} (x : Ext W a b) (y : Ext V b c) (hv : ∀ p ∈ V, p ∈ W ∨ a.get? p = none) : Ext W a c := fun p o hp e =>
  y p o (fun q => (hv p q).elim hp fun z => by rw [z] at e; cases e) (x p o hp e)
theorem Ext.of_le {W : List Addr} {a b : Heap} (x : Le a b) : Ext W a b := fun _ _ _ e => x _ _ e
theorem Ext.le {a b : Heap} (x : Ext [] a b) : Le a b := fun p o e => x p o (by simp) e
theorem Ext.mono {W V : List Addr} {a b : Heap} (x : Ext W a b) (h : ∀ p ∈ W, p ∈ V) : Ext V a b := fun p o hp e => x p o (fun q => hp (h p q)) e
/-- what is not of the base may change -/
theorem Ext.base {W : List Addr} {b h h' : Heap} (x : Ext W h h') (l : Le b h) (hw : ∀ p ∈ W, b.get? p = none) : Le b h' := fun p o e =>
  x p o (fun q => by rw [hw p q] at e; cases e) (l p o e)
theorem Ext.of_sameBut {a : Addr} {h h' : Heap} (x : Heap.SameBut a h h') : Ext [a] h h' := fun p o hp e => x.extBut p o (by simpa using hp) e
theorem fresh_ne {h : Heap} {a c : Addr} {o : Obj} (ha : h.get? a = none) (hc : h.get? c = some o) : c ≠ a := fun e => by rw [e, ha] at hc; cases hc
theorem fresh_size (h : Heap) : h.get? h.objs.size = none := by
  cases e : h.get? h.objs.size with
  | none => rfl
  | some o => exact absurd (Heap.lt_size e) (Nat.lt_irrefl _)
theorem Le.fresh {b h : Heap} {a : Addr} (l : Le b h) (ha : h.get? a = none) : b.get? a = none := by
  cases e : b.get? a with
  | none => rfl
  | some o => rw [l _ _ e] at ha; cases ha
theorem ne_of_cls {h : Heap} {a c : Addr} {o o' : Obj} (h1 : h.get? a = some o) (h2 : h.get? c = some o') (hn : o.cls ≠ o'.cls) : a ≠ c := fun e => by
  subst e; rw [h1] at h2; cases h2; exact hn rfl

theorem upd_ext (h : Heap) (a : Addr) (f : Obj → Obj) : Ext [a] h (h.update a f) := Ext.of_sameBut (Heap.SameBut.update ..)
theorem push_le (h : Heap) (o : Obj) : Le h (h.push o) := fun _ _ e => Heap.get?_push_of_some _ e

def updM (m : Str → Option Value) (x : Str) (v : Value) : Str → Option Value := fun y => if y = x then some v else m y

-- ================= expressions =================
section
variable {M : Model} {A : Around} {E : Value → Shared → Prop} {s : Shared} {env : Env}

theorem stl {x : Str} {v : Value} {m : Str → Option Value} {Q : Unit → Shared → Prop} (hn : s.heap.Ns env.locals m)
    (h : ∀ h', h'.Ns env.locals (updM m x v) → Ext [env.locals] s.heap h' → Q () { s with heap := h', toks := s.toks + 1 })
    (hx : env.kindOf x = some .local := by rfl) (hp : (env.scope.kind == .class || (env.scope.kind == .module && env.locals != env.globals)) = false := by rfl) :
    wpAny M A (storeName env x v) Q E s :=
  wpAny_storeName_local hx hn (fun h' hn' hs => h h' hn' (Ext.of_sameBut hs)) hp

theorem mcall {o : Expr} {name : Str} {apos pos : Pos} {args : List Expr} {Q : Value → Shared → Prop}
    (h : wpAny M A (eval o env) (fun ov s₁ => ∀ pl, wpAny M A (getMethod ov name pl) (fun r s₂ => wpAny M A (callWith pos r.1 r.2 (backTo pos (starEach args env)) []) Q E s₂) E s₁) E s)
    (hbase : attributeBase o name env (eval o env) = eval o env := by rfl)
    (hfew : methodCallForm (args.length + ([] : List Keyword).length) (backTo pos (starEach args env)) (backToKw pos (keywordEach [] env)) = true := by rfl)
    (hline : (apos.endLine == pos.line) = true := by rfl) :
    wpAny M A (eval (.Call (.Attribute o name apos) args [] pos) env) Q E s := by
  rw [arm_eval_Call, hbase]
  refine wpAny_bind (wpAny_mono h (fun ov s₁ h₁ => ?_) fun _ _ e => e)
  refine wpAny_bind (wpAny_standAt ?_)
  unfold methodCall
  rw [hfew]
  have hpos : methodCallPos true o env apos pos = pure pos := by unfold methodCallPos; simp [hline]
  refine wpAny_bind (wpAny_holding (wpAny_mono (h₁ _) (fun r s₂ h₂ => ?_) fun _ _ e => e))
  exact wpAny_bind (wpAny_of_eq hpos h₂)

theorem ncall {f : Str} {p pos : Pos} {args : List Expr} {Q : Value → Shared → Prop}
    (h : wpAny M A (eval (.Name f p) env) (fun fv s₁ => wpAny M A (callWith pos fv [] (backTo pos (starEach args env)) []) Q E s₁) E s) :
    wpAny M A (eval (.Call (.Name f p) args [] pos) env) Q E s := by
  have e : eval (.Call (.Name f p) args [] pos) env = (do callWith pos (← eval (.Name f p) env) [] (backTo pos (starEach args env)) (backToKw pos (keywordEach [] env))) := rfl
  rw [e]
  exact wpAny_bind h

theorem aget {value : Expr} {attr : Str} {pos : Pos} {Q : Value → Shared → Prop}
    (h : wpAny M A (eval value env) (fun o s₁ => wpAny M A (getAttr o attr true) Q E s₁) E s)
    (hbase : attributeBase value attr env (eval value env) = eval value env := by rfl)
    (ht : ∀ o r, letTemporaryGo value o r = pure () := by intro _ _; rfl) :
    wpAny M A (eval (.Attribute value attr pos) env) Q E s := by
  have e : eval (.Attribute value attr pos) env = (do
    let o ← attributeBase value attr env (eval value env)
    standAt pos.atName
    let r ← holding [o] (getAttr o attr true)
    letTemporaryGo value o r
    pure r) := rfl
  rw [e, hbase]
  exact wpAny_bind (wpAny_mono h (fun o s₁ h₁ => wpAny_bind (wpAny_standAt (wpAny_bind (wpAny_holding (wpAny_mono h₁ (fun r s₂ h₂ => wpAny_bind (wpAny_of_eq (ht o r) (wpAny_pure h₂))) fun _ _ x => x))))) fun _ _ x => x)

theorem cw0 {pos : Pos} {id : String} {first : List Value} {Q : Value → Shared → Prop} (h : wpAny M A (call (.builtin id) (first ++ [])) Q E s) :
    wpAny M A (callWith pos (.builtin id) first [] []) Q E s := callWith_builtin rfl (evalArgs_nil3 h)
theorem cw1 {pos : Pos} {id : String} {first : List Value} {t : Sem Value} {Q : Value → Shared → Prop} (h : wpAny M A t (fun v s₁ => wpAny M A (call (.builtin id) (first ++ [v])) Q E s₁) E s) :
    wpAny M A (callWith pos (.builtin id) first [(false, t)] []) Q E s :=
  callWith_builtin rfl (evalArgs_plain (spliced_cons (wpAny_mono h (fun _ _ h₁ => spliced_nil h₁) fun _ _ e => e)))
theorem cw2 {pos : Pos} {id : String} {first : List Value} {t u : Sem Value} {Q : Value → Shared → Prop}
    (h : wpAny M A t (fun v s₁ => wpAny M A u (fun v' s₂ => wpAny M A (call (.builtin id) (first ++ [v, v'])) Q E s₂) E s₁) E s) :
    wpAny M A (callWith pos (.builtin id) first [(false, t), (false, u)] []) Q E s :=
  callWith_builtin rfl (evalArgs_plain (spliced_cons (wpAny_mono h (fun _ _ h₁ => spliced_cons (wpAny_mono h₁ (fun _ _ h₂ => spliced_nil h₂) fun _ _ e => e)) fun _ _ e => e)))
end

section
variable {prog : Program} {w : World} {A : Around} {E : Value → Shared → Prop} {s : Shared} {b : Heap}

/-- a call of a def of the text -/
theorem ucall {n : Nat} {f : Addr} {oc : Value} {od : Option Addr} {osl : Array (Option Value)} {name qual : Str} {params : Arguments} {body : List Stmt} {scope : Scope} {dV kV doc pm cdv ct : Value} {an : Option Addr}
    {args : Args} {binds : List (Str × Value)} {R : Result → Shared → Prop}
    (S : Sys w b) (l : Le b s.heap) (Rm : Room A (n + 1))
    (ho : (KK w.params).lookup f = some ⟨oc, od, .func (fnOf name qual params body scope dV kV doc pm an cdv ct), osl⟩) (hcd : codeIn (KK w.params) cdv qual = true)
    (hbind : BindsTo s (fnOf name qual params body scope dV kV doc pm an cdv ct) args binds) (hloc : ∀ y ∈ binds, scope.names.lookup y.1 = some .local)
    (hcell : ∀ x ∈ scope.names, x.2 ≠ .cell)
    (h : ∀ L h₁ E', h₁.Ns L (fun x => binds.reverse.lookup x) → Le s.heap h₁ → s.heap.get? L = none → Room (A.deeper (envOf qual scope L f cdv)) n →
      wpAny (model prog w) (A.deeper (envOf qual scope L f cdv)) (execs body (envOf qual scope L f cdv)) (fun fl s' => R (.ok (.ret (match fl with | .ret v => v | _ => .none))) s') E' { s with heap := h₁, toks := s.toks + binds.length })
    (hco : scope.isCoroutine = false := by rfl) (hgen : scope.isGenerator = false := by rfl) (hk : scope.kind = .function := by rfl) :
    codeAny (model prog w) A (.call (.ref f) args) R s := by
  obtain ⟨mg, mb, T⟩ := S.T
  refine codeAny_call_def (fd := fnOf name qual params body scope dV kV doc pm an cdv ct) (body := body) (binds := binds) Rm.here (l _ _ (S.X _ _ ho)) rfl (T.nolimit.keeps l) (codeRec_of (S.X.keeps l) hcd) rfl hbind hcell hloc (fun h₁ hns hk₁ => ?_) hco hgen hk
  exact h _ _ _ hns hk₁ (fresh_size _) Rm.deeper
def fv : Flow → Value
  | .ret v => v
  | _ => .none
/-- the same, as a call -/
theorem ucallv {n : Nat} {f : Addr} {oc : Value} {od : Option Addr} {osl : Array (Option Value)} {name qual : Str} {params : Arguments} {body : List Stmt} {scope : Scope} {dV kV doc pm cdv ct : Value} {an : Option Addr}
    {pos : List Value} {kw : List (Str × Value)} {binds : List (Str × Value)} {Q : Value → Shared → Prop}
    (S : Sys w b) (l : Le b s.heap) (Rm : Room A (n + 1))
    (ho : (KK w.params).lookup f = some ⟨oc, od, .func (fnOf name qual params body scope dV kV doc pm an cdv ct), osl⟩) (hcd : codeIn (KK w.params) cdv qual = true)
    (hbind : BindsTo s (fnOf name qual params body scope dV kV doc pm an cdv ct) ⟨pos, kw⟩ binds) (hloc : ∀ y ∈ binds, scope.names.lookup y.1 = some .local)
    (hcell : ∀ x ∈ scope.names, x.2 ≠ .cell)
    (h : ∀ L h₁ E', h₁.Ns L (fun x => binds.reverse.lookup x) → Le s.heap h₁ → s.heap.get? L = none → Room (A.deeper (envOf qual scope L f cdv)) n →
      wpAny (model prog w) (A.deeper (envOf qual scope L f cdv)) (execs body (envOf qual scope L f cdv)) (fun fl s' => Q (fv fl) s') E' { s with heap := h₁, toks := s.toks + binds.length })
    (hco : scope.isCoroutine = false := by rfl) (hgen : scope.isGenerator = false := by rfl) (hk : scope.kind = .function := by rfl) :
    wpAny (model prog w) A (call (.ref f) pos kw) Q E s :=
  wpAny_call (ucall S l Rm ho hcd hbind hloc hcell (fun L h₁ E' hn l₁ hL R' => wpAny_mono (h L h₁ E' hn l₁ hL R') (fun fl s' q => by cases fl <;> exact q) fun _ _ e => e) hco hgen hk)
end

-- ================= Domain objects =================
abbrev domO (d : Addr) (its : Array Value) (n : Nat) : Obj := { cls := .ref 97, dict := some d, data := .seq its n, slots := #[] }
abbrev listO (its : Array Value) (n : Nat) : Obj := { cls := .type "list", dict := none, data := .seq its n, slots := #[] }

theorem inst_dom {h : Heap} {a d : Addr} {its : Array Value} {n : Nat} {od : Obj} (h1 : h.get? a = some (domO d its n)) (h2 : h.get? d = some od) : InstAt h a (domO d its n) 97 (some od) := ⟨h1, rfl, rfl, h2⟩
theorem d_dict (P : Params) : hasDictIn (KK P) 97 = true := by kernel_rfl

section
variable {prog : Program} {w : World} {A : Around} {E : Value → Shared → Prop} {s : Shared} {a d : Addr} {its : Array Value} {n : Nat} {od : Obj} {name : Str} {v : Value} {expr : Bool}

theorem isInst_dom {M : Model} {h : Heap} {x : Addr} {ox : Obj} {od : Option Obj} {w : World} (X : (KK w.params).In h) (I : InstAt h x ox 97 od) : Looks M h (isInstance (.ref x) (.type "list")) true :=
  I.type.andThen (looks_subIn X (sub_list w.params))

theorem dom_get {Q : Value → Shared → Prop} (X : (KK w.params).In s.heap) (h1 : s.heap.get? a = some (domO d its n)) (h2 : s.heap.get? d = some od) (hf : findObj (KK w.params) 97 (some od) name = some (.value v)) (hh : handedIn v = true)
    (h : Q v { s with toks := s.toks + 1 }) : wpAny (model prog w) A (getAttr (.ref a) name expr) Q E s := by
  have I := inst_dom h1 h2
  obtain ⟨hp, g, dd, t, os⟩ := s
  have L0 := I.type (M := model prog w)
  have L1 := looks_findIn (M := model prog w) X (f_ga w.params)
  have L2 := looks_findIn (M := model prog w) X (f_gx w.params)
  have L3 := looks_find (M := model prog w) X I hf
  have L4 := isInst_dom (M := model prog w) X I
  unfold getAttr getAttrBy
  refine wpAny_bind (wpAny_mkText (wpAny_holding (wpAny_bind (L0.at (wpAny_bind (L1.at ?_))))))
  show wpAny _ _ (if (onTheHeap (Value.ref 97) && Value.builtin "list.__getattribute__" == Value.builtin "object.__getattribute__") = true then _ else _) _ _ _
  rw [if_neg (by decide +kernel)]
  unfold getAttrByItsOwn
  refine wpAny_bind (wpAny_mono (show wpAny _ _ (hookBefore (.ref 97)) (fun r s' => r = none ∧ s' = ⟨hp, g, dd, t + 1, os⟩) _ _ from L2.at ⟨rfl, rfl⟩) (fun r s' hr => ?_) fun _ _ x => x)
  obtain ⟨rfl, rfl⟩ := hr
  refine wpAny_bind (wpAny_attempt (wpAny_holding ?_))
  show wpAny _ _ (if (expr && false) = true then _ else _) _ _ _
  rw [Bool.and_false, if_neg (by decide)]
  unfold boundAndCalled
  rw [F.slot_list_getattribute.bind]
  refine wpAny_bind (wpAny_pure ?_)
  show wpAny _ _ (call (.builtin "list.__getattribute__") [.ref a, .str name t]) _ _ _
  refine wpAny_call (codeAny_call_builtin F.slot_list_getattribute.plain F.entry_list_ga ?_)
  refine @check_slot (model prog w) _ _ ⟨hp, g, dd, t + 1, os⟩ "list.__getattribute__" "list" "__getattribute__" (.ref a) [.str name t] [] _ (by decide +kernel) (by decide +kernel) L4 (F.args_list_getattribute_2 (.ref a) (.str name t)) ?_
  unfold Builtin.«object.__getattribute__»
  refine wpAny_bind (wpAny_pure (wpAny_bind (wpAny_pure (wpAny_bind (L0.at (wpAny_bind (L3.at ?_)))))))
  refine wpAny_pure ?_
  show wpAny _ _ (handedOut v) _ _ _
  rw [handedOut_of hh]
  exact wpAny_pure h

/-- a method of the class, by the method form -/
theorem dom_method {f tf : Value} {pl : Sem Bool} {Q : Value × List Value → Shared → Prop} (X : (KK w.params).In s.heap) (h1 : s.heap.get? a = some (domO d its n)) (h2 : s.heap.get? d = some od)
    (hf : findIn (KK w.params) (.ref 97) name = some (some f)) (ht : typeIn (KK w.params) f = some tf) (hq : (tf != .type "function" && tf != .type "method_descriptor" && tf != .type "wrapper_descriptor") = false) (hs : lookIn name od = some none)
    (h : Q (f, [.ref a]) s) : wpAny (model prog w) A (getMethod (.ref a) name pl) Q E s := by
  have I := inst_dom h1 h2
  have hcan : (Manifest.canonical "list.__getattribute__" != "object.__getattribute__") = false := by decide +kernel
  unfold getMethod specialOf
  refine wpAny_bind (wpAny_bind (I.type.here ((looks_findIn X (f_ga w.params)).here ?_)))
  dsimp only
  rw [hcan, if_neg (by decide)]
  refine wpAny_bind (wpAny_bind (I.type.here ((looks_findIn X (f_gx w.params)).here ?_)))
  refine wpAny_bind (wpAny_bind (I.type.here ((looks_findIn X hf).here (wpAny_bind ((looks_typeIn X ht).here ?_)))))
  rw [if_neg (by rw [hq]; decide)]
  refine wpAny_bind (wpAny_loadPart I.at_ ?_)
  refine wpAny_bind (wpAny_bind (wpAny_loadPart h2 ?_))
  rw [nsLook_of hs]
  refine wpAny_pure ?_
  exact wpAny_bind (wpAny_rule (wpAny_pure h))

/-- a call of a built-in of list on a Domain -/
theorem dom_builtin {id nm : String} {B : Builtin} {rest : List Value} {Q : Value → Shared → Prop} (X : (KK w.params).In s.heap) (h1 : s.heap.get? a = some (domO d its n)) (h2 : s.heap.get? d = some od)
    (plain : plainId id = true) (entry : entryFor table id = some B) (hk : builtinKind id = some .slot ∨ builtinKind id = some .method) (hsp : splitId id = some ("list", nm)) (ha : argsOk id ⟨.ref a :: rest, []⟩)
    (h : wpAny (model prog w) A.in1 (B ⟨.ref a :: rest, []⟩) (fun fin s' => match fin with | .done f => wants Q E (.ok f) s' | .again c' => c'.quiet = true ∧ codeAny (model prog w) A c' (wants Q E) s') (fun e s' => wants Q E (.error e) s') s) :
    wpAny (model prog w) A (call (.builtin id) (.ref a :: rest)) Q E s := by
  have L4 := isInst_dom (M := model prog w) X (inst_dom h1 h2)
  refine wpAny_call (codeAny_call_builtin plain entry ?_)
  simp only [checkBuiltinCall]
  rcases hk with hk | hk <;> (
    simp only [hk, hsp]
    refine wpAny_bind (L4.here ?_)
    simp only [Bool.not_true, Bool.false_eq_true, if_false]
    cases hsig : Manifest.signature? id with
    | none => exact wpAny_pure h
    | some sig =>
      simp only [argsOk, hsig] at ha
      have h2 : Bind.checkArgs id sig ⟨.ref a :: rest, []⟩ = pure () := ha
      show wpAny _ _ (Bind.checkArgs id sig ⟨.ref a :: rest, []⟩) _ _ s
      rw [h2]; exact wpAny_pure h)
end
end Mine
end

section
open PySem PySem.W PySem.Calls PyProof.Rows Builtin Builtin.ObjectAttr
set_option maxRecDepth 100000
namespace Mine

/-- where a Domain's parts lie: the list itself, its dict, its hidden values, its states -/
structure DA where
  a : Addr
  d : Addr
  hd : Addr
  sd : Addr

structure IsDD (od : Obj) (hd sd : Addr) : Prop where
  cls : od.cls = .type "dict"
  h : lookIn (Str.ofString "_hidden") od = some (some (.ref hd))
  s : lookIn (Str.ofString "_states") od = some (some (.ref sd))
  o : ∀ x : Str, x ≠ Str.ofString "_hidden" → x ≠ Str.ofString "_states" → lookIn x od = some none

structure Dom (h : Heap) (F : DA) (its hs ss : List Value) : Prop where
  ob : ∃ n, h.get? F.a = some (domO F.d its.toArray n)
  di : ∃ od, h.get? F.d = some od ∧ IsDD od F.hd F.sd
  hi : ∃ n, h.get? F.hd = some (listO hs.toArray n)
  st : ∃ n, h.get? F.sd = some (listO ss.toArray n)
  ne : F.hd ≠ F.sd

def DA.foot (F : DA) : List Addr := [F.a, F.d, F.hd, F.sd]

theorem Dom.ext {h h' : Heap} {F : DA} {its hs ss : List Value} {W : List Addr} (D : Dom h F its hs ss) (x : Ext W h h') (hw : ∀ p ∈ F.foot, p ∉ W) : Dom h' F its hs ss := by
  obtain ⟨⟨n, h1⟩, ⟨od, h2, h2'⟩, ⟨n3, h3⟩, ⟨n4, h4⟩, h5⟩ := D
  exact ⟨⟨n, x _ _ (hw _ (by simp [DA.foot])) h1⟩, ⟨od, x _ _ (hw _ (by simp [DA.foot])) h2, h2'⟩, ⟨n3, x _ _ (hw _ (by simp [DA.foot])) h3⟩, ⟨n4, x _ _ (hw _ (by simp [DA.foot])) h4⟩, h5⟩
theorem Dom.le {h h' : Heap} {F : DA} {its hs ss : List Value} (D : Dom h F its hs ss) (x : Le h h') : Dom h' F its hs ss := D.ext (W := []) (Ext.of_le x) (by simp)
theorem Dom.ne_ad {h : Heap} {F : DA} {its hs ss : List Value} (D : Dom h F its hs ss) : F.a ≠ F.d := by
  obtain ⟨n, h1⟩ := D.ob
  obtain ⟨od, h2, h2'⟩ := D.di
  exact ne_of_cls h1 h2 (by rw [h2'.cls]; exact fun e => nomatch e)
theorem Dom.ne_ah {h : Heap} {F : DA} {its hs ss : List Value} (D : Dom h F its hs ss) : F.a ≠ F.hd := by
  obtain ⟨n, h1⟩ := D.ob
  obtain ⟨n2, h2⟩ := D.hi
  exact ne_of_cls h1 h2 (fun e => nomatch e)
theorem Dom.ne_as {h : Heap} {F : DA} {its hs ss : List Value} (D : Dom h F its hs ss) : F.a ≠ F.sd := by
  obtain ⟨n, h1⟩ := D.ob
  obtain ⟨n2, h2⟩ := D.st
  exact ne_of_cls h1 h2 (fun e => nomatch e)
theorem Dom.ne_dh {h : Heap} {F : DA} {its hs ss : List Value} (D : Dom h F its hs ss) : F.d ≠ F.hd := by
  obtain ⟨od, h1, h1'⟩ := D.di
  obtain ⟨n2, h2⟩ := D.hi
  exact ne_of_cls h1 h2 (by rw [h1'.cls]; exact show (Value.type "dict") ≠ .type "list" from by decide)
theorem Dom.ne_ds {h : Heap} {F : DA} {its hs ss : List Value} (D : Dom h F its hs ss) : F.d ≠ F.sd := by
  obtain ⟨od, h1, h1'⟩ := D.di
  obtain ⟨n2, h2⟩ := D.st
  exact ne_of_cls h1 h2 (by rw [h1'.cls]; exact show (Value.type "dict") ≠ .type "list" from by decide)

-- the three that are written
theorem Dom.set_a {h : Heap} {F : DA} {its hs ss : List Value} (D : Dom h F its hs ss) (f : Array Value → Array Value) : Dom (h.update F.a (Obj.mapSeq f)) F (f its.toArray).toList hs ss := by
  have x := upd_ext h F.a (Obj.mapSeq f)
  obtain ⟨n, h1⟩ := D.ob
  obtain ⟨od, h2, h2'⟩ := D.di
  obtain ⟨n3, h3⟩ := D.hi
  obtain ⟨n4, h4⟩ := D.st
  exact ⟨⟨_, by rw [Heap.get?_update_self _ h1 rfl]; simp [Obj.mapSeq]; rfl⟩, ⟨od, x _ _ (by simpa using D.ne_ad.symm) h2, h2'⟩, ⟨n3, x _ _ (by simpa using D.ne_ah.symm) h3⟩, ⟨n4, x _ _ (by simpa using D.ne_as.symm) h4⟩, D.ne⟩
theorem Dom.set_h {h : Heap} {F : DA} {its hs ss : List Value} (D : Dom h F its hs ss) (f : Array Value → Array Value) : Dom (h.update F.hd (Obj.mapSeq f)) F its (f hs.toArray).toList ss := by
  have x := upd_ext h F.hd (Obj.mapSeq f)
  obtain ⟨n, h1⟩ := D.ob
  obtain ⟨od, h2, h2'⟩ := D.di
  obtain ⟨n3, h3⟩ := D.hi
  obtain ⟨n4, h4⟩ := D.st
  exact ⟨⟨n, x _ _ (by simpa using D.ne_ah) h1⟩, ⟨od, x _ _ (by simpa using D.ne_dh) h2, h2'⟩, ⟨_, by rw [Heap.get?_update_self _ h3 rfl]; simp [Obj.mapSeq]; rfl⟩, ⟨n4, x _ _ (by simpa using D.ne.symm) h4⟩, D.ne⟩
theorem Dom.set_s {h : Heap} {F : DA} {its hs ss : List Value} (D : Dom h F its hs ss) (f : Array Value → Array Value) : Dom (h.update F.sd (Obj.mapSeq f)) F its hs (f ss.toArray).toList := by
  have x := upd_ext h F.sd (Obj.mapSeq f)
  obtain ⟨n, h1⟩ := D.ob
  obtain ⟨od, h2, h2'⟩ := D.di
  obtain ⟨n3, h3⟩ := D.hi
  obtain ⟨n4, h4⟩ := D.st
  exact ⟨⟨n, x _ _ (by simpa using D.ne_as) h1⟩, ⟨od, x _ _ (by simpa using D.ne_ds) h2, h2'⟩, ⟨n3, x _ _ (by simpa using D.ne) h3⟩, ⟨_, by rw [Heap.get?_update_self _ h4 rfl]; simp [Obj.mapSeq]; rfl⟩, D.ne⟩

-- facts of the class
theorem f_hidden (P : Params) : findIn (KK P) (.ref 97) (Str.ofString "_hidden") = some none := by kernel_rfl
theorem f_states (P : Params) : findIn (KK P) (.ref 97) (Str.ofString "_states") = some none := by kernel_rfl
theorem f_extend (P : Params) : findIn (KK P) (.ref 97) (Str.ofString "extend") = some (some (.builtin "list.extend")) := by kernel_rfl
theorem f_push (P : Params) : findIn (KK P) (.ref 97) (Str.ofString "pushState") = some (some (.ref 80)) := by kernel_rfl
theorem f_pop (P : Params) : findIn (KK P) (.ref 97) (Str.ofString "popState") = some (some (.ref 87)) := by kernel_rfl
theorem f_len (P : Params) : findIn (KK P) (.ref 97) (Str.ofString "__len__") = some (some (.builtin "list.__len__")) := by kernel_rfl
theorem f_bool (P : Params) : findIn (KK P) (.ref 97) (Str.ofString "__bool__") = some none := by kernel_rfl
theorem f_contains (P : Params) : findIn (KK P) (.ref 97) (Str.ofString "__contains__") = some (some (.builtin "list.__contains__")) := by kernel_rfl
theorem f_iter (P : Params) : findIn (KK P) (.ref 97) (Str.ofString "__iter__") = some (some (.builtin "list.__iter__")) := by kernel_rfl
theorem f_getitem (P : Params) : findIn (KK P) (.ref 97) (Str.ofString "__getitem__") = some (some (.builtin "list.__getitem__")) := by kernel_rfl
theorem t_80 (P : Params) : typeIn (KK P) (.ref 80) = some (.type "function") := by kernel_rfl
theorem t_87 (P : Params) : typeIn (KK P) (.ref 87) = some (.type "function") := by kernel_rfl
theorem t_94 (P : Params) : typeIn (KK P) (.ref 94) = some (.type "function") := by kernel_rfl
theorem t_remove (P : Params) : typeIn (KK P) (.builtin "list.remove") = some (.type "method_descriptor") := by kernel_rfl
theorem t_extend (P : Params) : typeIn (KK P) (.builtin "list.extend") = some (.type "method_descriptor") := by kernel_rfl

section
variable {prog : Program} {w : World} {A : Around} {E : Value → Shared → Prop} {s : Shared} {b : Heap} {F : DA} {its hs ss : List Value} {v : Value} {expr : Bool}

theorem get_hidden {Q : Value → Shared → Prop} (S : Sys w b) (l : Le b s.heap) (D : Dom s.heap F its hs ss) (h : Q (.ref F.hd) { s with toks := s.toks + 1 }) :
    wpAny (model prog w) A (getAttr (.ref F.a) (Str.ofString "_hidden") expr) Q E s := by
  obtain ⟨n, h1⟩ := D.ob
  obtain ⟨od, h2, h2'⟩ := D.di
  exact dom_get (S.X.keeps l) h1 h2 (findObj_own (d_dict _) (f_hidden _) rfl h2'.h) rfl h
theorem get_states {Q : Value → Shared → Prop} (S : Sys w b) (l : Le b s.heap) (D : Dom s.heap F its hs ss) (h : Q (.ref F.sd) { s with toks := s.toks + 1 }) :
    wpAny (model prog w) A (getAttr (.ref F.a) (Str.ofString "_states") expr) Q E s := by
  obtain ⟨n, h1⟩ := D.ob
  obtain ⟨od, h2, h2'⟩ := D.di
  exact dom_get (S.X.keeps l) h1 h2 (findObj_own (d_dict _) (f_states _) rfl h2'.s) rfl h
theorem dom_meth {name : Str} {f tf : Value} {pl : Sem Bool} {Q : Value × List Value → Shared → Prop} (S : Sys w b) (l : Le b s.heap) (D : Dom s.heap F its hs ss)
    (hf : findIn (KK w.params) (.ref 97) name = some (some f)) (ht : typeIn (KK w.params) f = some tf) (hn : name ≠ Str.ofString "_hidden") (hn' : name ≠ Str.ofString "_states")
    (h : Q (f, [.ref F.a]) s) (hq : (tf != .type "function" && tf != .type "method_descriptor" && tf != .type "wrapper_descriptor") = false := by decide) : wpAny (model prog w) A (getMethod (.ref F.a) name pl) Q E s := by
  obtain ⟨n, h1⟩ := D.ob
  obtain ⟨od, h2, h2'⟩ := D.di
  exact dom_method (S.X.keeps l) h1 h2 hf ht hq (h2'.o _ hn hn') h
theorem dom_call {id nm : String} {B : Builtin} {rest : List Value} {Q : Value → Shared → Prop} (S : Sys w b) (l : Le b s.heap) (D : Dom s.heap F its hs ss)
    (plain : plainId id = true) (entry : entryFor table id = some B) (hk : builtinKind id = some .slot ∨ builtinKind id = some .method) (hsp : splitId id = some ("list", nm)) (ha : argsOk id ⟨.ref F.a :: rest, []⟩)
    (h : wpAny (model prog w) A.in1 (B ⟨.ref F.a :: rest, []⟩) (fun fin s' => match fin with | .done f => wants Q E (.ok f) s' | .again c' => c'.quiet = true ∧ codeAny (model prog w) A c' (wants Q E) s') (fun e s' => wants Q E (.error e) s') s) :
    wpAny (model prog w) A (call (.builtin id) (.ref F.a :: rest)) Q E s := by
  obtain ⟨n, h1⟩ := D.ob
  obtain ⟨od, h2, h2'⟩ := D.di
  exact dom_builtin (S.X.keeps l) h1 h2 plain entry hk hsp ha h
theorem dom_type {M : Model} (D : Dom s.heap F its hs ss) : Looks M s.heap (typeOf (.ref F.a)) (.ref 97) := by
  obtain ⟨n, h1⟩ := D.ob
  obtain ⟨od, h2, h2'⟩ := D.di
  exact (inst_dom h1 h2).type
theorem dom_special? {M : Model} {name : Str} {id : String} {args : List Value} {Q : Option Value → Shared → Prop} (S : Sys w b) (l : Le b s.heap) (D : Dom s.heap F its hs ss) (hf : findIn (KK w.params) (.ref 97) name = some (some (.builtin id))) (slot : Slot "list" name id)
    (h : wpAny M A (call (.builtin id) (.ref F.a :: args)) (fun v s' => Q (some v) s') E s) : wpAny M A (callSpecial? (.ref F.a) name args) Q E s := by
  unfold callSpecial? specialOf
  refine wpAny_bind (wpAny_bind ((dom_type D).here ((looks_findIn (S.X.keeps l) hf).here ?_)))
  refine wpAny_holding ?_
  rw [slot.bind]
  exact wpAny_bind (wpAny_pure (wpAny_bind (wpAny_mono h (fun _ _ z => wpAny_pure z) fun _ _ z => z)))
end

theorem sz_small {α : Type} {l : List α} (h : l.length ≤ 1000) : l.toArray.size ≤ sizeLine := by rw [List.size_toArray, sizeLine_eq]; omega

section
variable {prog : Program} {w : World} {A : Around} {E : Value → Shared → Prop} {s : Shared} {b : Heap} {F : DA} {its hs ss : List Value} {ns : List Int}

/-- len(domain), the slot itself -/
theorem dom_len_slot {Q : Value → Shared → Prop} (S : Sys w b) (l : Le b s.heap) (D : Dom s.heap F its hs ss) (h : Q (.int its.length s.toks) { s with toks := s.toks + 1 }) :
    wpAny (model prog w) A (call (.builtin "list.__len__") [.ref F.a]) Q E s := by
  refine dom_call S l D slot_list_len.plain entry_list_len (nm := "__len__") (by decide +kernel) (by decide +kernel) (args_list_len _) ?_
  obtain ⟨n, h1⟩ := D.ob
  show wpAny _ _ (do retInt (← seqSize F.a)) _ _ s
  unfold seqSize
  refine wpAny_bind (wpAny_bind (wpAny_load h1 ?_))
  refine wpAny_pure (wpAny_bind (wpAny_mkInt (wpAny_pure ?_)))
  simpa using h

theorem dom_len {Q : Value → Shared → Prop} (S : Sys w b) (l : Le b s.heap) (D : Dom s.heap F its hs ss) (hz : its.length ≤ 1000) (h : Q (.int its.length (s.toks + 1)) { s with toks := s.toks + 1 + 1 }) :
    wpAny (model prog w) A (call (.builtin "len") [.ref F.a]) Q E s := by
  refine call_function_entry kind_len plain_len entry_len (args_len1 _) ?_
  unfold Builtin.«len»
  refine wpAny_bind (m := oneArg "len" _) (wpAny_pure ?_)
  refine wpAny_bind (m := callSpecial? (.ref F.a) (Str.ofString "__len__")) (dom_special? S l D (f_len _) slot_list_len (dom_len_slot S l D ?_))
  refine wpAny_bind (wpAny_holding (wpAny_pure ?_))
  refine wpAny_bind (wpAny_letGo ?_)
  show wpAny _ _ (if ((its.length : Nat) : Int) < 0 then _ else _) _ _ _
  rw [if_neg (by omega)]
  show wpAny _ _ (if ((its.length : Nat) : Int) ≥ 2 ^ 63 then _ else _) _ _ _
  rw [if_neg (by omega)]
  exact wpAny_bind (wpAny_mkInt (wpAny_pure ⟨_, rfl, h⟩))

end
end Mine
end

section
open PySem PySem.W PySem.Calls PyProof.Rows Builtin Builtin.ObjectAttr
set_option maxRecDepth 100000
namespace Mine

theorem seqs_97 (P : Params) : (seqItemTypes.all fun n => subIn (KK P) (.ref 97) (.type n) == some false) = true := by kernel_rfl

theorem ints_eraseIdx : ∀ {its : List Value} {ns : List Int} (j : Nat), IntsAre its ns → IntsAre (its.eraseIdx j) (ns.eraseIdx j)
  | _, _, _, .nil => by simpa using IntsAre.nil
  | _, _, 0, .cons n t h => by simpa using h
  | _, _, j + 1, .cons n t h => by simpa using IntsAre.cons n t (ints_eraseIdx j h)
theorem erase_at : ∀ (ns : List Int) (v : Int), v ∈ ns → ∃ j, ns[j]? = some v ∧ (∀ m, m < j → ns[m]? ≠ some v) ∧ ns.eraseIdx j = ns.erase v
  | n :: r, v, h => by
    by_cases e : n = v
    · exact ⟨0, by simp [e], by simp, by simp [e]⟩
    · obtain ⟨j, h1, h2, h3⟩ := erase_at r v (by simpa [Ne.symm e] using h)
      refine ⟨j + 1, by simpa using h1, fun m hm => ?_, ?_⟩
      · cases m with
        | zero => simpa using e
        | succ m => simpa using h2 m (by omega)
      · rw [List.eraseIdx_cons_succ, h3, List.erase_cons_tail (by simpa using e)]

section
variable {prog : Program} {w : World} {A : Around} {E : Value → Shared → Prop} {s : Shared} {b : Heap} {F : DA} {its hs ss : List Value} {ns : List Int}

theorem dom_truthy {Q : Bool → Shared → Prop} (S : Sys w b) (l : Le b s.heap) (D : Dom s.heap F its hs ss) (hz : its.length ≤ 1000) (h : Q (!its.isEmpty) { s with toks := s.toks + 1 + 1 }) :
    wpAny (model prog w) A (truthy (.ref F.a)) Q E s := by
  have X := S.X.keeps l
  have key : wpAny (model prog w) A (runValue (.builtin "len" ⟨[.ref F.a], []⟩)) (fun r s' => r = .int its.length (s.toks + 1) ∧ Q (!its.isEmpty) s') E s := by
    refine wpAny_runValue (codeAny_builtin entry_len ?_)
    rw [Around.under_plainId plain_len _]
    unfold Builtin.«len»
    refine wpAny_bind (m := oneArg "len" _) (wpAny_pure ?_)
    refine wpAny_bind (m := callSpecial? (.ref F.a) (Str.ofString "__len__")) (dom_special? S l D (f_len _) slot_list_len (dom_len_slot S l D ?_))
    refine wpAny_bind (wpAny_holding (wpAny_pure ?_))
    refine wpAny_bind (wpAny_letGo ?_)
    show wpAny _ _ (if ((its.length : Nat) : Int) < 0 then _ else _) _ _ _
    rw [if_neg (by omega)]
    show wpAny _ _ (if ((its.length : Nat) : Int) ≥ 2 ^ 63 then _ else _) _ _ _
    rw [if_neg (by omega)]
    exact wpAny_bind (wpAny_mkInt (wpAny_pure ⟨rfl, h⟩))
  unfold truthy
  refine wpAny_bind (m := callSpecial? (.ref F.a) (Str.ofString "__bool__")) ?_
  unfold callSpecial? specialOf
  refine wpAny_bind (wpAny_bind ((dom_type D).here ((looks_findIn X (f_bool _)).here ?_)))
  refine wpAny_pure ?_
  refine wpAny_bind (wpAny_bind ((dom_type D).here ((looks_findIn X (f_len _)).here ?_)))
  refine wpAny_bind (wpAny_mono key (fun r s' h' => ?_) fun _ _ e => e)
  obtain ⟨rfl, hq⟩ := h'
  have hne : ((its.length : Int) != 0) = !its.isEmpty := by cases its <;> simp; omega
  exact wpAny_pure (hne ▸ hq)

theorem contains_loop_ob {A : Around} {R : Result → Shared → Prop} {prog : Program} {w : World} {x : Addr} {o : Obj} {items : List Value} {n : Nat} {v : Int} {t : Tok} (ho : o.data = .seq items.toArray n) :
    ∀ (k i : Nat) (ns : List Int) (s : Shared), items.length - i = k → s.heap.get? x = some o → IntsAre (items.drop i) ns → R (.ok (.ret (.bool (ns.contains v)))) s →
      codeAny (model prog w) A (.builtin "list.__contains__.loop" ⟨[.ref x, .int v t, rawInt i], []⟩) R s := by
  intro k
  induction k with
  | zero =>
    intro i ns s hk hx hi hR
    refine codeAny_builtin MeetsSeq.entry_contains_loop ?_
    rw [Around.under_plainId MeetsSeq.plain_contains_loop _]
    refine wpAny_bind (wpAny_bind (wpAny_seqItems hx ho (wpAny_pure ?_)))
    have e : items.toArray[((i : Nat) : Int).toNat]? = none := by simp; omega
    have e2 : items.drop i = [] := by simp; omega
    rw [e2] at hi
    cases hi
    rw [e]
    exact wpAny_pure (by simpa using hR)
  | succ k ih =>
    intro i ns s hk hx hi hR
    refine codeAny_builtin MeetsSeq.entry_contains_loop ?_
    rw [Around.under_plainId MeetsSeq.plain_contains_loop _]
    refine wpAny_bind (wpAny_bind (wpAny_seqItems hx ho (wpAny_pure ?_)))
    have hlt : i < items.length := by omega
    have e : items.toArray[((i : Nat) : Int).toNat]? = some items[i] := by simp [hlt]
    rw [e]
    rw [List.drop_eq_getElem_cons hlt] at hi
    generalize hy : items[i] = y at hi
    cases hi with
    | cons n u hr =>
      rename_i ns
      refine wpAny_bind (wpAny_eqBool_int ?_)
      cases hb : (n == v) with
      | true =>
        rw [if_pos rfl]
        have : (n :: ns).contains v = true := by
          rw [List.contains_cons, show (v == n) = true from by rw [beq_iff_eq] at hb ⊢; exact hb.symm]; rfl
        rw [this] at hR
        exact wpAny_pure hR
      | false =>
        rw [if_neg (by decide)]
        have hc : ((i : Int) + 1) = ((i + 1 : Nat) : Int) := by push_cast; rfl
        rw [hc]
        refine wpAny_pure ⟨plainId_quiet MeetsSeq.plain_contains_loop _, ih (i + 1) ns _ (by omega) hx hr ?_⟩
        have : (n :: ns).contains v = ns.contains v := by
          rw [List.contains_cons, show (v == n) = false from by
            rw [beq_eq_false_iff_ne] at hb ⊢; exact fun e => hb e.symm]; rfl
        rw [this] at hR
        exact hR

theorem dom_in {v : Int} {t : Tok} {Q : Bool → Shared → Prop} (S : Sys w b) (l : Le b s.heap) (D : Dom s.heap F its hs ss) (hi : IntsAre its ns) (h : Q (ns.contains v) s) :
    wpAny (model prog w) A (contains (.ref F.a) (.int v t)) Q E s := by
  have X := S.X.keeps l
  unfold contains
  refine wpAny_holding (wpAny_bind (wpAny_bind ((dom_type D).here ((looks_findIn X (f_contains _)).here ?_))))
  rw [if_neg (by decide)]
  unfold callSpecialUnlessNone?
  refine wpAny_bind (wpAny_bind (wpAny_bind ((dom_type D).here ((looks_findIn X (f_contains _)).here ?_))))
  refine wpAny_holding ?_
  rw [PySem.F.slot_list_contains.bind]
  refine wpAny_bind (wpAny_pure ?_)
  dsimp only
  rw [if_neg (by decide)]
  refine wpAny_bind ?_
  refine dom_call S l D PySem.F.slot_list_contains.plain PySem.F.entry_list_contains (nm := "__contains__") (by decide +kernel) (by decide +kernel) (PySem.F.args_list_contains_2 _ _) ?_
  obtain ⟨n, h1⟩ := D.ob
  refine wpAny_bind (wpAny_pure ?_)
  refine wpAny_pure ⟨plainId_quiet MeetsSeq.plain_contains_loop _, ?_⟩
  exact contains_loop_ob (o := domO F.d its.toArray n) rfl _ 0 ns _ rfl h1 (by simpa using hi) (wpAny_pure (wpAny_truthy_bool h))

/-- domain.remove(v), v in it -/
theorem remove_loop_ob {A : Around} {R : Result → Shared → Prop} {prog : Program} {w : World} {x : Addr} {o : Obj} {items : List Value} {n : Nat} {v : Int} {t : Tok} (ho : o.data = .seq items.toArray n) (hz : items.length ≤ 1000) {ns : List Int} (hi : IntsAre items ns) {j : Nat} (hj : ns[j]? = some v) (hno : ∀ m, m < j → ns[m]? ≠ some v) :
    ∀ (k i : Nat) (s : Shared), j - i = k → i ≤ j → s.heap.get? x = some o → R (.ok (.ret .none)) { s with heap := s.heap.update x (Obj.mapSeq fun xs => xs.eraseIdxIfInBounds j) } →
      codeAny (model prog w) A (.builtin "list.remove.loop" ⟨[.ref x, .int v t, rawInt i], []⟩) R s := by
  intro k
  have hsz : items.toArray.size ≤ sizeLine := sz_small hz
  induction k with
  | zero =>
    intro i s hk hij hx hR
    obtain rfl : i = j := by omega
    refine codeAny_builtin MeetsSeq.entry_remove_loop ?_
    rw [Around.under_plainId MeetsSeq.plain_remove_loop _]
    refine wpAny_bind (wpAny_bind (wpAny_seqItems hx ho (wpAny_pure ?_)))
    obtain ⟨u, hu⟩ := hi.get i v hj
    have e : items.toArray[((i : Nat) : Int).toNat]? = some (.int v u) := by simpa using hu
    rw [e]
    refine wpAny_bind (wpAny_eqBool_int ?_)
    rw [beq_self_eq_true, if_pos rfl]
    refine wpAny_bind (wpAny_updateSeq hx ho (wpAny_pure ?_) hsz (Nat.le_trans (MeetsSeq.size_erased _ _) (Nat.le_succ_of_le hsz)))
    simpa using hR
  | succ k ih =>
    intro i s hk hij hx hR
    refine codeAny_builtin MeetsSeq.entry_remove_loop ?_
    rw [Around.under_plainId MeetsSeq.plain_remove_loop _]
    refine wpAny_bind (wpAny_bind (wpAny_seqItems hx ho (wpAny_pure ?_)))
    have hlt : i < ns.length := by
      have := (List.getElem?_eq_some_iff.mp hj).1; omega
    obtain ⟨u, hu⟩ := hi.get i ns[i] (by simp [hlt])
    have e : items.toArray[((i : Nat) : Int).toNat]? = some (.int ns[i] u) := by simpa using hu
    rw [e]
    refine wpAny_bind (wpAny_eqBool_int ?_)
    have hne : (ns[i] == v) = false := by
      rw [beq_eq_false_iff_ne]; intro q
      exact hno i (by omega) (by simp [hlt, q])
    rw [hne, if_neg (by decide)]
    have hc : ((i : Int) + 1) = ((i + 1 : Nat) : Int) := by push_cast; rfl
    rw [hc]
    exact wpAny_pure ⟨plainId_quiet MeetsSeq.plain_remove_loop _, ih (i + 1) s (by omega) (by omega) hx hR⟩

theorem dom_remove {v : Int} {t : Tok} {Q : Value → Shared → Prop} (S : Sys w b) (l : Le b s.heap) (D : Dom s.heap F its hs ss) (hi : IntsAre its ns) (hz : its.length ≤ 1000) (hv : v ∈ ns)
    (h : ∀ h' its', IntsAre its' (ns.erase v) → Dom h' F its' hs ss → Ext [F.a] s.heap h' → Q .none { s with heap := h' }) :
    wpAny (model prog w) A (call (.builtin "list.remove") [.ref F.a, .int v t]) Q E s := by
  obtain ⟨j, h1, h2, h3⟩ := erase_at ns v hv
  refine dom_call S l D PySem.F.slot_list_remove.plain PySem.F.entry_list_remove (nm := "remove") (by decide +kernel) (by decide +kernel) (PySem.F.args_list_remove_2 _ _) ?_
  refine wpAny_bind (wpAny_pure ?_)
  obtain ⟨n, e⟩ := D.ob
  refine wpAny_pure ⟨plainId_quiet MeetsSeq.plain_remove_loop _, ?_⟩
  refine remove_loop_ob (o := domO F.d its.toArray n) rfl hz hi h1 h2 _ 0 _ rfl (Nat.zero_le _) e ?_
  have D' := D.set_a (fun xs => xs.eraseIdxIfInBounds j)
  have ej : (its.toArray.eraseIdxIfInBounds j).toList = its.eraseIdx j := by
    have hjl : j < its.length := by rw [hi.length]; exact (List.getElem?_eq_some_iff.mp h1).1
    simp [Array.eraseIdxIfInBounds, hjl]
  rw [ej] at D'
  exact h _ _ (h3 ▸ ints_eraseIdx j hi) D' (upd_ext _ _ _)

/-- domain.extend(list) -/
theorem dom_extend {q : Addr} {xs : List Value} {nq : Nat} {Q : Value → Shared → Prop} (S : Sys w b) (l : Le b s.heap) (D : Dom s.heap F its hs ss) (hq : s.heap.get? q = some (listO xs.toArray nq)) (hz : its.length ≤ 1000) (hz' : xs.length ≤ 1000)
    (h : ∀ h', Dom h' F (its ++ xs) hs ss → Ext [F.a] s.heap h' → Q .none { s with heap := h' }) :
    wpAny (model prog w) A (call (.builtin "list.extend") [.ref F.a, .ref q]) Q E s := by
  refine dom_call S l D PySem.F.slot_list_extend.plain PySem.F.entry_list_extend (nm := "extend") (by decide +kernel) (by decide +kernel) (PySem.F.args_list_extend_2 _ _) ?_
  obtain ⟨n, e⟩ := D.ob
  refine wpAny_bind (wpAny_pure ?_)
  show wpAny _ _ (Builtin.List.listExtendWith (.ref F.a) (.ref q) .none) _ _ _
  unfold Builtin.List.listExtendWith
  refine wpAny_bind (wpAny_bind (wpAny_load hq (wpAny_pure ?_)))
  rw [if_pos (by simp)]
  refine wpAny_bind (wpAny_bind (wpAny_seqItems hq rfl (wpAny_pure ?_)))
  refine wpAny_bind (wpAny_bind (wpAny_seqItems e rfl (wpAny_pure ?_)))
  have ht : (!its.toArray.isEmpty && Builtin.List.listTooLong (its.toArray.size + xs.toArray.size)) = false := by
    have : Builtin.List.listTooLong (its.toArray.size + xs.toArray.size) = false := by
      unfold Builtin.List.listTooLong; rw [sizeLine_eq]; simp; omega
    rw [this, Bool.and_false]
  rw [ht, if_neg (by decide)]
  refine wpAny_bind (wpAny_updateSeq e rfl (wpAny_bind (wpAny_pure ?_)) (sz_small hz) (by rw [Array.size_append, sizeLine_eq]; simp; omega))
  have D' := D.set_a (fun ys => ys ++ xs.toArray)
  rw [show (its.toArray ++ xs.toArray).toList = its ++ xs by simp] at D'
  exact wpAny_pure (h _ D' (upd_ext _ _ _))
end
end Mine
end

section
open PySem PySem.W PySem.Calls PyProof.Rows Builtin Builtin.ObjectAttr
set_option maxRecDepth 100000
namespace Mine

/-- of the parts of a Domain none is of the base -/
def DA.off (F : DA) (b : Heap) : Prop := ∀ p ∈ F.foot, b.get? p = none
theorem DA.off.a {F : DA} {b : Heap} (o : F.off b) : b.get? F.a = none := o _ (by simp [DA.foot])
theorem DA.off.hd {F : DA} {b : Heap} (o : F.off b) : b.get? F.hd = none := o _ (by simp [DA.foot])
theorem DA.off.sd {F : DA} {b : Heap} (o : F.off b) : b.get? F.sd = none := o _ (by simp [DA.foot])

theorem ns_ext {h h' : Heap} {L : Addr} {m : Str → Option Value} {W : List Addr} (n : h.Ns L m) (x : Ext W h h') (hL : L ∉ W) : h'.Ns L m := n.at' fun o e => x L o hL e
theorem Dom.off_fresh {h0 : Heap} {L : Addr} {F : DA} {its hs ss : List Value} (D : Dom h0 F its hs ss) (hL : h0.get? L = none) : ∀ p ∈ F.foot, p ≠ L := by
  obtain ⟨⟨n, h1⟩, ⟨od, h2, h2'⟩, ⟨n3, h3⟩, ⟨n4, h4⟩, h5⟩ := D
  intro p hp e
  subst e
  simp [DA.foot] at hp
  rcases hp with rfl | rfl | rfl | rfl
  · rw [hL] at h1; cases h1
  · rw [hL] at h2; cases h2
  · rw [hL] at h3; cases h3
  · rw [hL] at h4; cases h4

theorem keepIn_of_K {M : Model} {w : World} {h : Heap} {f : Value} (X : (KK w.params).In h) (e : keepIn (KK w.params) f = true) : ∃ k, (k = Keeper.frame ∨ k = Keeper.machine ∨ k = Keeper.boundFrame) ∧ Looks M h (keeperOf f) k := keeps_K e h X

section
variable {prog : Program} {w : World} {A : Around} {E : Value → Shared → Prop} {s : Shared} {b : Heap} {F : DA} {its hs ss : List Value} {ns : List Int}

theorem list_meth {L : Addr} {o : Obj} {name : Str} {id : String} {pl : Sem Bool} {Q : Value × List Value → Shared → Prop} (ho : s.heap.get? L = some o) (hc : o.cls = .type "list") (hd : o.dict = none)
    (slot : Slot "list" name id) (hty : typeOf (.builtin id) = pure (.type "method_descriptor")) (h : Q (.builtin id, [.ref L]) s) : wpAny (model prog w) A (getMethod (.ref L) name pl) Q E s :=
  getMethod_builtin ⟨o, ho, hc⟩ PySem.F.plainAttrs_list slot hty (fun a e => by cases e; exact ⟨o, ho, hd⟩) h

theorem meets_append {L : Addr} {xs : List Value} {n : Nat} {v : Value} (hz : xs.length ≤ 1000) :
    Meets (Builtin.«list.append» ⟨[.ref L, v], []⟩) (fun _ R s => s.heap.get? L = some (listO xs.toArray n) ∧ R (.ok (.ret .none)) { s with heap := s.heap.update L (Obj.mapSeq fun ys => ys.push v) }) :=
  .of_wp fun prog w A R s h => by
    obtain ⟨hl, h⟩ := h
    refine wpAny_bind (wpAny_pure ?_)
    show wpAny _ _ (updateSeq L _ >>= _) _ _ _
    exact wpAny_bind (wpAny_updateSeq hl rfl (wpAny_pure ⟨_, rfl, h⟩) (sz_small hz) (by rw [Array.size_push, sizeLine_eq]; simp; omega))
theorem list_append_call {L : Addr} {xs : List Value} {n : Nat} {v : Value} {Q : Value → Shared → Prop} (ho : s.heap.get? L = some (listO xs.toArray n)) (hz : xs.length ≤ 1000)
    (h : Q .none { s with heap := s.heap.update L (Obj.mapSeq fun ys => ys.push v) }) : wpAny (model prog w) A (call (.builtin "list.append") [.ref L, v]) Q E s :=
  call_meets PySem.F.slot_list_append ⟨_, ho, rfl⟩ PySem.F.entry_list_append (PySem.F.args_list_append_2 _ _) (meets_append hz) ⟨ho, h⟩

end
end Mine
end

section
open PySem PySem.W PySem.Calls PyProof.Rows Builtin Builtin.ObjectAttr
set_option maxRecDepth 100000
namespace Mine

def selB (start stop step : Int) (i : Nat) : Bool :=
  if step > 0 then start ≤ i && i < stop && (i - start) % step == 0
  else stop < i && i ≤ start && (start - i) % (-step) == 0

theorem keep_front : ∀ (xs : List Value) (k a n : Nat), n = k + xs.length → ((xs.zipIdx k).filterMap fun (p : Value × Nat) => if selB (a : Int) (n : Int) 1 p.2 = true then none else some p.1) = xs.take (a - k)
  | [], _, _, _, _ => by simp
  | x :: xs, k, a, n, h => by
    have ih := keep_front xs (k + 1) a n (by simp at h; omega)
    rw [List.zipIdx_cons, List.filterMap_cons]
    have hs : selB (a : Int) (n : Int) 1 k = decide (a ≤ k) := by
      have h2 : k < n := by simp at h; omega
      have h3 : ((k : Int) - a) % 1 = 0 := Int.emod_one _
      simp [selB, h3, h2]
    by_cases hk : a ≤ k
    · simp only [hs, hk, decide_true, if_true]
      rw [ih, show a - (k + 1) = 0 by omega, show a - k = 0 by omega]; rfl
    · simp only [hs, hk, decide_false, Bool.false_eq_true, if_false]
      rw [ih, show a - k = (a - (k + 1)) + 1 by omega]; rfl

section
variable {prog : Program} {w : World} {A : Around} {E : Value → Shared → Prop} {s : Shared} {b : Heap} {F : DA} {its hs ss : List Value} {ns : List Int}

theorem slicePick_last (items : List Value) (d : Nat) (h0 : 0 < d) (hd : d ≤ items.length) : slicePick items.toArray (some (-(d : Int))) none none = (items.drop (items.length - d)).toArray := by
  have e : sliceBounds (some (-(d : Int))) none none items.toArray.size = (((items.length - d : Nat) : Int), (items.length : Int), 1) := by
    simp only [sliceBounds, Option.getD_none, List.size_toArray]
    have h1 : (-(d : Int)) < 0 := by omega
    simp only [h1, show (1 : Int) > 0 by decide, if_true]
    congr 1
    omega
  unfold slicePick
  rw [e]
  simp only [sliceRange_one, pick_run]
  rw [List.take_of_length_le (by simp)]

/-- del L[-d:] -/
theorem del_last {L sl : Addr} {xs : List Value} {n : Nat} {d : Nat} {t : Tok} {Q : Unit → Shared → Prop} (ho : s.heap.get? L = some (listO xs.toArray n)) (hsl : s.heap.IsSliceOf sl (.int (-(d : Int)) t) .none .none) (hz : xs.length ≤ 1000) (h0 : 0 < d) (hd : d ≤ xs.length)
    (h : ∀ h' n', h'.get? L = some (listO (xs.take (xs.length - d)).toArray n') → Ext [L] s.heap h' → Q () { s with heap := h' }) : wpAny (model prog w) A (delItem (.ref L) (.ref sl)) Q E s := by
  obtain ⟨os, hos, hcs, hds⟩ := id hsl
  have hTs : s.TypeIs (.ref sl) "slice" := ⟨os, hos, hcs⟩
  refine wpAny_delItem_slot (T := "list") ⟨_, ho, rfl⟩ (by decide) PySem.F.slot_list_delitem ?_
  refine wpAny_call (codeAny_call_builtin PySem.F.slot_list_delitem.plain PySem.F.entry_list_delitem (PySem.F.slot_list_delitem.check _ _ _ _ _ _ _ _ ⟨_, ho, rfl⟩ (PySem.F.args_list_delitem_2 _ _) ?_))
  refine wpAny_bind (wpAny_pure ?_)
  show wpAny _ _ (Builtin.List.listSubscript? (.ref sl) >>= _) _ _ s
  refine wpAny_bind ?_
  unfold Builtin.List.listSubscript?
  refine wpAny_bind (wpAny_specialOf hTs slice_no_index ?_)
  simp only [Option.isNone_none, if_true]
  refine wpAny_pure ?_
  show wpAny _ _ (typeOf (.ref sl) >>= _) _ _ s
  refine wpAny_bind (wpAny_typeOf hTs ?_)
  rw [if_neg (by decide)]
  rw [listSliceParts_eq]
  refine wpAny_bind (wpAny_bind (wpAny_field hos hds (x := .none) rfl (wpAny_bind (wpAny_listPart .none ?_))))
  rw [if_neg (show ¬ ((rawPart none == rawInt 0) = true) from Bool.false_ne_true)]
  refine wpAny_bind (wpAny_field hos hds (x := .int (-(d : Int)) t) rfl (wpAny_bind (wpAny_listPart (.int _ _) ?_)))
  refine wpAny_bind (wpAny_field hos hds (x := .none) rfl (wpAny_bind (wpAny_listPart .none (wpAny_pure ?_))))
  refine wpAny_bind (m := Builtin.List.listItems (.ref L)) ?_
  unfold Builtin.List.listItems
  refine wpAny_bind (wpAny_seqItems ho rfl (wpAny_pure ?_))
  refine wpAny_bind (wpAny_of_eq (sliceIndices_raw (some (-(d : Int))) none none xs.toArray.size (by simp)) ?_)
  have e : sliceBounds (some (-(d : Int))) none none xs.toArray.size = (((xs.length - d : Nat) : Int), (xs.length : Int), 1) := by
    simp only [sliceBounds, Option.getD_none, List.size_toArray]
    have h1 : (-(d : Int)) < 0 := by omega
    simp only [h1, show (1 : Int) > 0 by decide, if_true]
    congr 1
    omega
  rw [e]
  refine wpAny_bind (wpAny_rule ?_)
  have ef : ((fun ys : Array Value => (ys.toList.zipIdx.filterMap fun (p : Value × Nat) => if selB ((xs.length - d : Nat) : Int) (xs.length : Int) 1 p.2 = true then none else some p.1).toArray) xs.toArray) = (xs.take (xs.length - d)).toArray := by
    have := keep_front xs 0 (xs.length - d) xs.length (by omega)
    simp only [Nat.sub_zero] at this
    rw [← this]
  show wpAny _ _ (updateSeq L (fun ys : Array Value => (ys.toList.zipIdx.filterMap fun (p : Value × Nat) => if selB ((xs.length - d : Nat) : Int) (xs.length : Int) 1 p.2 = true then none else some p.1).toArray) >>= _) _ _ s
  refine wpAny_bind (wpAny_updateSeq ho rfl (wpAny_bind (wpAny_letGo (wpAny_pure ?_))) (sz_small hz) (by have ef' := ef; dsimp only at ef'; rw [ef', List.size_toArray, sizeLine_eq]; simp; omega))
  have key : ∃ n', (s.heap.update L (Obj.mapSeq (fun ys : Array Value => (ys.toList.zipIdx.filterMap fun (p : Value × Nat) => if selB ((xs.length - d : Nat) : Int) (xs.length : Int) 1 p.2 = true then none else some p.1).toArray))).get? L = some (listO (xs.take (xs.length - d)).toArray n') := by
    rw [Heap.get?_update_self _ ho rfl]
    unfold Obj.mapSeq
    dsimp only at ef ⊢
    rw [ef]
    exact ⟨_, rfl⟩
  obtain ⟨n', hn'⟩ := key
  exact h _ n' hn' (upd_ext _ _ _)
end

section
variable {prog : Program} {w : World} {A : Around} {E : Value → Shared → Prop} {s : Shared} {b : Heap} {F : DA} {its hs ss : List Value} {ns : List Int}

theorem pop_last {L : Addr} {xs : List Value} {n : Nat} {v : Value} {Q : Value → Shared → Prop} (ho : s.heap.get? L = some (listO (xs ++ [v]).toArray n)) (hz : xs.length ≤ 900)
    (h : ∀ h' n', h'.get? L = some (listO xs.toArray n') → Ext [L] s.heap h' → Q v { s with heap := h' }) : wpAny (model prog w) A (call (.builtin "list.pop") [.ref L]) Q E s := by
  refine call_meets PySem.F.slot_list_pop ⟨_, ho, rfl⟩ PySem.F.entry_list_pop (PySem.F.args_list_pop_1 _) (MeetsSeq.list_pop_last L (xs ++ [v]).toArray n v (by simp) (sz_small (by simp; omega))) ⟨ho, ?_⟩
  have key : ∃ n', (s.heap.update L (Obj.mapSeq fun ys => ys.eraseIdxIfInBounds ((xs ++ [v]).toArray.size - 1))).get? L = some (listO xs.toArray n') := by
    rw [Heap.get?_update_self _ ho rfl]
    unfold Obj.mapSeq
    have e : (xs ++ [v]).toArray.eraseIdxIfInBounds ((xs ++ [v]).toArray.size - 1) = xs.toArray := by
      simp [Array.eraseIdxIfInBounds]
      rw [List.eraseIdx_append_of_length_le (Nat.le_refl _)]; simp
    dsimp only
    rw [e]
    exact ⟨_, rfl⟩
  obtain ⟨n', hn'⟩ := key
  exact h _ n' hn' (upd_ext _ _ _)

theorem Dom.of_s {h h' : Heap} {ss' : List Value} {n : Nat} (D : Dom h F its hs ss) (x : Ext [F.sd] h h') (e : h'.get? F.sd = some (listO ss'.toArray n)) : Dom h' F its hs ss' := by
  obtain ⟨n1, h1⟩ := D.ob
  obtain ⟨od, h2, h2'⟩ := D.di
  obtain ⟨n3, h3⟩ := D.hi
  exact ⟨⟨n1, x _ _ (by simpa using D.ne_as) h1⟩, ⟨od, x _ _ (by simpa using D.ne_ds) h2, h2'⟩, ⟨n3, x _ _ (by simpa using D.ne) h3⟩, ⟨n, e⟩, D.ne⟩
theorem Dom.of_h {h h' : Heap} {hs' : List Value} {n : Nat} (D : Dom h F its hs ss) (x : Ext [F.hd] h h') (e : h'.get? F.hd = some (listO hs'.toArray n)) : Dom h' F its hs' ss := by
  obtain ⟨n1, h1⟩ := D.ob
  obtain ⟨od, h2, h2'⟩ := D.di
  obtain ⟨n4, h4⟩ := D.st
  exact ⟨⟨n1, x _ _ (by simpa using D.ne_ah) h1⟩, ⟨od, x _ _ (by simpa using D.ne_dh) h2, h2'⟩, ⟨n, e⟩, ⟨n4, x _ _ (by simpa using D.ne.symm) h4⟩, D.ne⟩

end
end Mine
end

section
open PySem PySem.W PySem.Calls PyProof.Rows Builtin Builtin.ObjectAttr
set_option maxRecDepth 100000
namespace Mine

/-- subscripting by the form asks the class, and finds a built-in -/
abbrev GI (M : Model) (h : Heap) (o : Value) : Prop := Looks M h (getitemInPython o) false

theorem gi_list {M : Model} {h : Heap} {a : Addr} {xs : List Value} {n : Nat} (e : h.get? a = some (listO xs.toArray n)) : GI M h (.ref a) := by
  intro A Q E s k q
  have hT : s.TypeIs (.ref a) "list" := ⟨_, k _ _ e, rfl⟩
  rw [getitemInPython_of_ne (o := .ref _) (by simp)]
  exact wpAny_bind (wpAny_specialOf hT list_getitem_lookup (wpAny_pure q))
theorem gi_dict {M : Model} {h : Heap} {a : Addr} {o : Obj} (e : h.get? a = some o) (hc : o.cls = .type "dict") : GI M h (.ref a) := by
  intro A Q E s k q
  have hT : s.TypeIs (.ref a) "dict" := ⟨_, k _ _ e, hc⟩
  rw [getitemInPython_of_ne (o := .ref _) (by simp)]
  exact wpAny_bind (wpAny_specialOf hT slot_dict_getitem.lookup (wpAny_pure q))
theorem gi_dom {prog : Program} {w : World} {h b : Heap} {F : DA} {its hs ss : List Value} (S : Sys w b) (l : Le b h) (D : Dom h F its hs ss) : GI (model prog w) h (.ref F.a) := by
  intro A Q E s k q
  rw [getitemInPython_of_ne (o := .ref _) (by simp)]
  unfold specialOf
  exact wpAny_bind (wpAny_bind (((dom_type (D.le k))).here ((looks_findIn (S.X.keeps (l.trans k)) (f_getitem _)).here (wpAny_pure q))))

section
variable {prog : Program} {w : World} {A : Around} {E : Value → Shared → Prop} {s : Shared} {env : Env}
theorem subG {value slice : Expr} {pos : Pos} {Q : Value → Shared → Prop}
    (h : wpAny (model prog w) A (eval value env) (fun o s₁ => wpAny (model prog w) A (eval slice env) (fun i s₂ => GI (model prog w) s₂.heap o ∧ wpAny (model prog w) A (getItem o i) Q E s₂) E s₁) E s) :
    wpAny (model prog w) A (eval (.Subscript value slice pos) env) Q E s := by
  rw [eval_Subscript]
  refine wpAny_bind (wpAny_mono h (fun o s₁ h₁ => wpAny_bind (wpAny_holding (wpAny_mono h₁ (fun i s₂ h₂ => wpAny_bind (wpAny_standAt ?_)) fun _ _ x => x)))
    fun _ _ x => x)
  refine wpAny_bind (h₂.1.here ?_)
  refine wpAny_bind ?_
  have fin : ∀ vs, wpAny (model prog w) A (operate vs (getItem o i)) (fun r s₃ => wpAny (model prog w) A (letTemporaryGo value o r >>= fun _ => pure r) Q E s₃) E s₂ := fun vs =>
    wpAny_operating (wpAny_mono h₂.2 (fun r s₃ h₃ => wpAny_bind (wpAny_letTemporaryGo (wpAny_pure h₃))) fun _ _ x => x)
  unfold subscripted
  split
  · exact fin _
  · rename_i hh; cases hh
  · exact fin _

theorem anyM_false {P : Params} {h : Heap} {M : Model} (X : (KK P).In h) (hp : M.w.params = P) (t : Value) : ∀ ns : List String, (ns.all fun n => subIn (KK P) t (.type n) == some false) = true → Looks M h (ns.anyM fun n => isSubtype t (.type n)) false
  | [], _ => Looks.of_pure rfl
  | n :: ns, e => by
    simp only [List.all_cons, Bool.and_eq_true, beq_iff_eq] at e
    have e1 : (n :: ns).anyM (fun n => isSubtype t (.type n)) = (do match ← isSubtype t (.type n) with | true => pure true | false => ns.anyM (fun n => isSubtype t (.type n))) := rfl
    rw [e1]
    intro A Q E s k q
    have e1 := e.1
    subst hp
    refine wpAny_bind ((looks_subIn X e1) A _ E s k ?_)
    exact anyM_false X rfl t ns (by simpa using e.2) A Q E s k q

end

section
variable {prog : Program} {w : World} {A : Around} {E : Value → Shared → Prop} {s : Shared} {b : Heap} {F : DA} {its hs ss : List Value} {ns : List Int}

/-- domain[i:j] -/
theorem dom_slice {sl : Addr} {vl vu vs : Value} {lo hi st : Option Int} {Q : Value → Shared → Prop} (S : Sys w b) (l : Le b s.heap) (D : Dom s.heap F its hs ss)
    (hs' : s.heap.IsSliceOf sl vl vu vs) (pl : IsPart vl lo) (pu : IsPart vu hi) (ps : IsPart vs st) (h0 : st ≠ some 0) (hsz : its.length ≤ 1000)
    (h : ∀ h' r n, h'.get? r = some (listO (slicePick its.toArray lo hi st) n) → s.heap.get? r = none → Le s.heap h' → Q (.ref r) { s with heap := h' }) :
    wpAny (model prog w) A (getItem (.ref F.a) (.ref sl)) Q E s := by
  have X := S.X.keeps l
  obtain ⟨os, hos, hcs, hds⟩ := id hs'
  have hTs : s.TypeIs (.ref sl) "slice" := ⟨os, hos, hcs⟩
  obtain ⟨n, h1⟩ := D.ob
  unfold getItem
  refine wpAny_holding ?_
  refine wpAny_bind (m := sequenceKey _ _ _) ?_
  · unfold sequenceKey
    refine wpAny_bind ((dom_type D).here ?_)
    refine wpAny_bind ((anyM_false (M := model prog w) X rfl _ _ (seqs_97 _)).here ?_)
    rw [if_pos (by decide)]
    refine wpAny_pure ?_
    refine wpAny_bind (m := callSpecial? _ _ _) (dom_special? S l D (f_getitem _) slot_list_getitem ?_)
    refine dom_call S l D slot_list_getitem.plain entry_list_getitem (nm := "__getitem__") (by decide +kernel) (by decide +kernel) (args_list_getitem _ _) ?_
    show wpAny _ _ (Builtin.List.listSubscript? (.ref sl) >>= _) _ _ s
    refine wpAny_bind ?_
    unfold Builtin.List.listSubscript?
    refine wpAny_bind (wpAny_specialOf hTs slice_no_index ?_)
    simp only [Option.isNone_none, if_true]
    refine wpAny_pure ?_
    show wpAny _ _ (typeOf (.ref sl) >>= _) _ _ s
    refine wpAny_bind (wpAny_typeOf hTs ?_)
    rw [if_neg (by decide)]
    rw [listSliceParts_eq]
    have hstep : ¬ ((rawPart st == rawInt 0) = true) := by
      cases st with
      | none => exact Bool.false_ne_true
      | some c =>
        intro hh
        have : c = 0 := by simpa [rawPart, rawInt] using hh
        exact h0 (by rw [this])
    refine wpAny_bind (wpAny_bind (wpAny_field hos hds (x := vs) rfl (wpAny_bind (wpAny_listPart ps ?_))))
    rw [if_neg hstep]
    refine wpAny_bind (wpAny_field hos hds (x := vl) rfl (wpAny_bind (wpAny_listPart pl ?_)))
    refine wpAny_bind (wpAny_field hos hds (x := vu) rfl (wpAny_bind (wpAny_listPart pu (wpAny_pure ?_))))
    refine wpAny_bind (m := Builtin.List.listItems (.ref F.a)) ?_
    unfold Builtin.List.listItems
    refine wpAny_bind (wpAny_seqItems h1 rfl (wpAny_pure ?_))
    refine wpAny_bind (wpAny_of_eq (sliceIndices_raw lo hi st its.toArray.size h0) ?_)
    refine wpAny_bind (wpAny_newObj_type (wpAny_pure (wpAny_pure ?_)) (Nat.le_trans (slicePick_size_le its.toArray lo hi st) (sz_small hsz)))
    exact h _ _ _ (Heap.get?_push_at rfl rfl) (fresh_size _) (push_le _ _)
end
end Mine
end

section
open PySem PySem.W PySem.Calls PyProof.Rows Builtin Builtin.ObjectAttr
set_option maxRecDepth 100000
namespace Mine
/-! the rules in a plain form: the state is written out, tokens are any -/
section
variable {M : Model} {A : Around} {E : Value → Shared → Prop} {env : Env} {h : Heap} {g : Array GenState} {d : Drawn} {t : Nat} {os : OsState}

theorem st' {x : Str} {v : Value} {L : Addr} {m : Str → Option Value} {Q : Unit → Shared → Prop} (hn : h.Ns L m)
    (k : ∀ h' u, h'.Ns L (updM m x v) → Ext [L] h h' → Q () ⟨h', g, d, u, os⟩) (hl : env.locals = L := by rfl)
    (hx : env.kindOf x = some .local := by rfl) (hp : (env.scope.kind == .class || (env.scope.kind == .module && env.locals != env.globals)) = false := by rfl) :
    wpAny M A (storeName env x v) Q E ⟨h, g, d, t, os⟩ := by
  subst hl
  exact stl hn (fun h' n x => k h' _ n x) hx hp
theorem ln {x : Str} {pos : Pos} {v : Value} {L : Addr} {m : Str → Option Value} {Q : Value → Shared → Prop} (hn : h.Ns L m) (hv : m x = some v) (k : Q v ⟨h, g, d, t, os⟩)
    (hl : env.locals = L := by rfl) (hk : env.scope.kind = .function := by rfl) (hx : env.kindOf x = some .local := by rfl) (hd : (x == ("__debug__" : Str)) = false := by decide) :
    wpAny M A (eval (.Name x pos) env) Q E ⟨h, g, d, t, os⟩ := by
  subst hl
  exact lname hn hv k hk hx hd
theorem ci {i : Int} {k : Nat} {pos : Pos} {Q : Value → Shared → Prop} (kk : ∀ u u', Q (.int i u) ⟨h, g, d, u', os⟩) : wpAny M A (eval (.Constant (.int i) k pos) env) Q E ⟨h, g, d, t, os⟩ := wpAny_Constant_int (kk _ _)
theorem cb {i : Bool} {k : Nat} {pos : Pos} {Q : Value → Shared → Prop} (kk : Q (.bool i) ⟨h, g, d, t, os⟩) : wpAny M A (eval (.Constant (.bool i) k pos) env) Q E ⟨h, g, d, t, os⟩ := fun _ _ _ => kk
theorem cn {k : Nat} {pos : Pos} {Q : Value → Shared → Prop} (kk : Q .none ⟨h, g, d, t, os⟩) : wpAny M A (eval (.Constant .none k pos) env) Q E ⟨h, g, d, t, os⟩ := fun _ _ _ => kk
theorem ret' {e : Expr} {pos : Pos} {Q : Flow → Shared → Prop} (k : wpAny M A (eval e env) (fun v => Q (.ret v)) E ⟨h, g, d, t, os⟩) : wpAny M A (exec (.Return (some e) pos) env) Q E ⟨h, g, d, t, os⟩ := wpAny_Return_some k
end

section
variable {prog : Program} {w : World} {A : Around} {E : Value → Shared → Prop} {env : Env} {h : Heap} {g : Array GenState} {d : Drawn} {t : Nat} {os : OsState} {b : Heap} {F : DA} {its hs ss : List Value} {ns : List Int} {Q : Value → Shared → Prop}

-- ints
theorem addi {x y : Int} {u v : Tok} (k : ∀ t u, Q (.int (x + y) t) ⟨h, g, d, u, os⟩) : wpAny (model prog w) A (binaryOp .Add (.int x u) (.int y v)) Q E ⟨h, g, d, t, os⟩ := PyProof.Rows.add_int (k _ _)
theorem subi {x y : Int} {u v : Tok} (k : ∀ t u, Q (.int (x - y) t) ⟨h, g, d, u, os⟩) : wpAny (model prog w) A (binaryOp .Sub (.int x u) (.int y v)) Q E ⟨h, g, d, t, os⟩ := PyProof.Rows.sub_int (k _ _)
theorem muli {x y : Int} {u v : Tok} (hm : IntMulOk x y) (k : ∀ t u, Q (.int (x * y) t) ⟨h, g, d, u, os⟩) : wpAny (model prog w) A (binaryOp .Mult (.int x u) (.int y v)) Q E ⟨h, g, d, t, os⟩ := PySem.P.mul_int (k _ _) hm
theorem modi {x y : Int} {u v : Tok} (hy : y ≠ 0) (k : ∀ t u, Q (.int (x.fmod y) t) ⟨h, g, d, u, os⟩) : wpAny (model prog w) A (binaryOp .Mod (.int x u) (.int y v)) Q E ⟨h, g, d, t, os⟩ := PyProof.Rows.mod_int hy (k _ _)
theorem divi {x y : Int} {u v : Tok} (hy : y ≠ 0) (hs : y.natAbs < 1073741824) (k : ∀ t u, Q (.int (x.fdiv y) t) ⟨h, g, d, u, os⟩) : wpAny (model prog w) A (binaryOp .FloorDiv (.int x u) (.int y v)) Q E ⟨h, g, d, t, os⟩ :=
  PyProof.Rows.floordiv_int hy (k _ _) (.inl (PyProof.noPylong_small hs))
theorem negi {x : Int} {u : Tok} (k : ∀ t u, Q (.int (-x) t) ⟨h, g, d, u, os⟩) : wpAny (model prog w) A (unaryOp .USub (.int x u)) Q E ⟨h, g, d, t, os⟩ := PySem.P.neg_int (k _ _)
theorem iaddi {x y : Int} {u v : Tok} (k : ∀ t u, Q (.int (x + y) t) ⟨h, g, d, u, os⟩) : wpAny (model prog w) A (inplaceOp .Add (.int x u) (.int y v)) Q E ⟨h, g, d, t, os⟩ := PySem.P.iadd_int (k _ _)

-- the Domain
theorem dhid {expr : Bool} (S : Sys w b) (l : Le b h) (D : Dom h F its hs ss) (k : ∀ u, Q (.ref F.hd) ⟨h, g, d, u, os⟩) : wpAny (model prog w) A (getAttr (.ref F.a) (Str.ofString "_hidden") expr) Q E ⟨h, g, d, t, os⟩ := get_hidden S l D (k _)
theorem dsts {expr : Bool} (S : Sys w b) (l : Le b h) (D : Dom h F its hs ss) (k : ∀ u, Q (.ref F.sd) ⟨h, g, d, u, os⟩) : wpAny (model prog w) A (getAttr (.ref F.a) (Str.ofString "_states") expr) Q E ⟨h, g, d, t, os⟩ := get_states S l D (k _)
theorem dlen (S : Sys w b) (l : Le b h) (D : Dom h F its hs ss) (hz : its.length ≤ 1000) (k : ∀ t u, Q (.int its.length t) ⟨h, g, d, u, os⟩) : wpAny (model prog w) A (call (.builtin "len") [.ref F.a]) Q E ⟨h, g, d, t, os⟩ := dom_len S l D hz (k _ _)
theorem dtru {Q : Bool → Shared → Prop} (S : Sys w b) (l : Le b h) (D : Dom h F its hs ss) (hz : its.length ≤ 1000) (k : ∀ u, Q (!its.isEmpty) ⟨h, g, d, u, os⟩) : wpAny (model prog w) A (truthy (.ref F.a)) Q E ⟨h, g, d, t, os⟩ := dom_truthy S l D hz (k _)
theorem drem {v : Int} {u : Tok} (S : Sys w b) (l : Le b h) (D : Dom h F its hs ss) (hi : IntsAre its ns) (hz : its.length ≤ 1000) (hv : v ∈ ns)
    (k : ∀ h' its', IntsAre its' (ns.erase v) → Dom h' F its' hs ss → Ext [F.a] h h' → Q .none ⟨h', g, d, t, os⟩) :
    wpAny (model prog w) A (call (.builtin "list.remove") [.ref F.a, .int v u]) Q E ⟨h, g, d, t, os⟩ := dom_remove S l D hi hz hv k
theorem dext {q : Addr} {xs : List Value} {nq : Nat} (S : Sys w b) (l : Le b h) (D : Dom h F its hs ss) (hq : h.get? q = some (listO xs.toArray nq)) (hz : its.length ≤ 1000) (hz' : xs.length ≤ 1000)
    (k : ∀ h', Dom h' F (its ++ xs) hs ss → Ext [F.a] h h' → Q .none ⟨h', g, d, t, os⟩) :
    wpAny (model prog w) A (call (.builtin "list.extend") [.ref F.a, .ref q]) Q E ⟨h, g, d, t, os⟩ := dom_extend S l D hq hz hz' k
theorem lapp {L : Addr} {xs : List Value} {n : Nat} {v : Value} (ho : h.get? L = some (listO xs.toArray n)) (hz : xs.length ≤ 1000)
    (k : ∀ h' n', h'.get? L = some (listO (xs ++ [v]).toArray n') → Ext [L] h h' → Q .none ⟨h', g, d, t, os⟩) : wpAny (model prog w) A (call (.builtin "list.append") [.ref L, v]) Q E ⟨h, g, d, t, os⟩ := by
  refine list_append_call ho hz ?_
  have key : ∃ n', (h.update L (Obj.mapSeq fun ys => ys.push v)).get? L = some (listO (xs ++ [v]).toArray n') := by
    rw [Heap.get?_update_self _ ho rfl]
    unfold Obj.mapSeq
    dsimp only
    exact ⟨_, by rw [List.push_toArray]⟩
  obtain ⟨n', e⟩ := key
  exact k _ n' e (upd_ext _ _ _)
theorem lpop {L : Addr} {xs : List Value} {n : Nat} {v : Value} (ho : h.get? L = some (listO (xs ++ [v]).toArray n)) (hz : xs.length ≤ 900)
    (k : ∀ h' n', h'.get? L = some (listO xs.toArray n') → Ext [L] h h' → Q v ⟨h', g, d, t, os⟩) : wpAny (model prog w) A (call (.builtin "list.pop") [.ref L]) Q E ⟨h, g, d, t, os⟩ := pop_last ho hz k

/-- a slice of a list: L[lo:hi], the bounds any two expressions -/
theorem lslice {value : Expr} {lower upper : Option Expr} {p pos : Pos} {s : Shared}
    (k : wpAny (model prog w) A (eval value env) (fun o s₁ => wpAny (model prog w) A (evalPart lower env) (fun vl s₂ => wpAny (model prog w) A (evalPart upper env) (fun vu s₃ =>
      ∃ h g d t os l items n lo hi, s₃ = ⟨h, g, d, t, os⟩ ∧ o = .ref l ∧ h.get? l = some (listO (List.toArray items) n) ∧ items.length ≤ 1000 ∧ IsPart vl lo ∧ IsPart vu hi ∧
        ∀ h' r n, h'.get? r = some (listO (slicePick items.toArray lo hi none) n) → h.get? r = none → Le h h' → Q (.ref r) ⟨h', g, d, t, os⟩) E s₂) E s₁) E s) :
    wpAny (model prog w) A (eval (.Subscript value (.Slice lower upper none p) pos) env) Q E s := by
  refine subG (wpAny_mono k (fun o s₁ k₁ => wpAny_Slice (wpAny_mono k₁ (fun vl s₂ k₂ => wpAny_mono k₂ (fun vu s₃ k₃ => ?_) fun _ _ e => e) fun _ _ e => e)) fun _ _ e => e)
  obtain ⟨h, g, d, t, os, l, items, n, lo, hi, rfl, rfl, hl, hz, pl, pu, kk⟩ := k₃
  rw [evalPart_none]
  refine wpAny_pure ⟨gi_list ((push_le _ _) _ _ hl), wpAny_getItem_list_slice (items := items.toArray) (Heap.IsList.push (by exact ⟨_, hl, rfl, _, rfl⟩) _) (Heap.IsSliceOf.new ..) pl pu .none (by simp) ?_ (sz_small hz)⟩
  rw [Heap.size_push]
  refine kk _ _ 0 ?_ ?_ ((push_le _ _).trans (push_le _ _))
  · exact Heap.get?_push_at (by rw [Heap.size_push]) rfl
  · cases e : h.get? (h.objs.size + 1) with
    | none => rfl
    | some o => exact absurd (Heap.lt_size e) (Nat.not_lt.mpr (Nat.le_succ _))
/-- domain[:] -/
theorem dslice {value : Expr} {p pos : Pos} {s : Shared} (S : Sys w b)
    (k : wpAny (model prog w) A (eval value env) (fun o s₁ => ∃ h g d t os F its hs ss, s₁ = ⟨h, g, d, t, os⟩ ∧ o = .ref F.a ∧ Le b h ∧ Dom h F its hs ss ∧ its.length ≤ 1000 ∧
        ∀ h' r n, h'.get? r = some (listO its.toArray n) → h.get? r = none → Le h h' → Q (.ref r) ⟨h', g, d, t, os⟩) E s) :
    wpAny (model prog w) A (eval (.Subscript value (.Slice none none none p) pos) env) Q E s := by
  refine subG (wpAny_mono k (fun o s₁ k₁ => wpAny_Slice ?_) fun _ _ e => e)
  rw [evalPart_none]
  refine wpAny_pure (wpAny_pure (wpAny_pure ?_))
  obtain ⟨h, g, d, t, os, F, its, hs, ss, rfl, rfl, l, D, hz, kk⟩ := k₁
  have l' := l.trans (push_le h { cls := .type "slice", data := .fields #[.none, .none, .none] })
  have D' := D.le (push_le h { cls := .type "slice", data := .fields #[.none, .none, .none] })
  refine ⟨gi_dom S l' D', dom_slice (lo := none) (hi := none) (st := none) S l' D' (Heap.IsSliceOf.new ..) .none .none .none (by simp) hz fun h' r n e f x => ?_⟩
  rw [slicePick_all] at e
  exact kk h' r n e ((push_le _ _).fresh f) ((push_le _ _).trans x)
theorem ldel {L sl : Addr} {xs : List Value} {n : Nat} {q : Nat} {u : Tok} {Q : Unit → Shared → Prop} (ho : h.get? L = some (listO xs.toArray n)) (hsl : h.IsSliceOf sl (.int (-(q : Int)) u) .none .none) (hz : xs.length ≤ 1000) (h0 : 0 < q) (hd : q ≤ xs.length)
    (k : ∀ h' n', h'.get? L = some (listO (xs.take (xs.length - q)).toArray n') → Ext [L] h h' → Q () ⟨h', g, d, t, os⟩) : wpAny (model prog w) A (delItem (.ref L) (.ref sl)) Q E ⟨h, g, d, t, os⟩ := del_last ho hsl hz h0 hd k
theorem mkslice {lower upper step : Option Expr} {p : Pos} {s : Shared}
    (k : wpAny (model prog w) A (evalPart lower env) (fun l s₁ => wpAny (model prog w) A (evalPart upper env) (fun u s₂ => wpAny (model prog w) A (evalPart step env) (fun st s₃ =>
      ∃ h g d t os, s₃ = ⟨h, g, d, t, os⟩ ∧ ∀ h' r, h'.IsSliceOf r l u st → h.get? r = none → Le h h' → Q (.ref r) ⟨h', g, d, t, os⟩) E s₂) E s₁) E s) :
    wpAny (model prog w) A (eval (.Slice lower upper step p) env) Q E s := by
  refine wpAny_Slice (wpAny_mono k (fun l s₁ k₁ => wpAny_mono k₁ (fun u s₂ k₂ => wpAny_mono k₂ (fun st s₃ k₃ => ?_) fun _ _ e => e) fun _ _ e => e) fun _ _ e => e)
  obtain ⟨h, g, d, t, os, rfl, kk⟩ := k₃
  exact kk _ _ (Heap.IsSliceOf.new ..) (fresh_size _) (push_le _ _)

/-- a call of a def of the text -/
theorem ucl {n : Nat} {f : Addr} {oc : Value} {od : Option Addr} {osl : Array (Option Value)} {name qual : Str} {params : Arguments} {body : List Stmt} {scope : Scope} {dV kV doc pm cdv ct : Value} {an : Option Addr}
    {pos : List Value} {kw : List (Str × Value)} {binds : List (Str × Value)}
    (S : Sys w b) (l : Le b h) (Rm : Room A (n + 1))
    (ho : (KK w.params).lookup f = some ⟨oc, od, .func (fnOf name qual params body scope dV kV doc pm an cdv ct), osl⟩) (hcd : codeIn (KK w.params) cdv qual = true)
    (hbind : BindsTo ⟨h, g, d, t, os⟩ (fnOf name qual params body scope dV kV doc pm an cdv ct) ⟨pos, kw⟩ binds) (hloc : ∀ y ∈ binds, scope.names.lookup y.1 = some .local)
    (hcell : ∀ x ∈ scope.names, x.2 ≠ .cell)
    (k : ∀ A L h₁ E' u, h₁.Ns L (fun x => binds.reverse.lookup x) → Le h h₁ → h.get? L = none → b.get? L = none → Le b h₁ → Room A n →
      wpAny (model prog w) A (execs body (envOf qual scope L f cdv)) (fun fl s' => Q (fv fl) s') E' ⟨h₁, g, d, u, os⟩)
    (hco : scope.isCoroutine = false := by rfl) (hgen : scope.isGenerator = false := by rfl) (hk : scope.kind = .function := by rfl) :
    wpAny (model prog w) A (call (.ref f) pos kw) Q E ⟨h, g, d, t, os⟩ :=
  ucallv S l Rm ho hcd hbind hloc hcell (fun L h₁ E' hn l₁ hL R' => k _ L h₁ E' _ hn l₁ hL (l.fresh hL) (l.trans l₁) R') hco hgen hk
end
end Mine
end

section
open PySem PySem.W PySem.Calls PyProof.Rows Builtin Builtin.ObjectAttr
set_option maxRecDepth 100000
namespace Mine

/-! comprehensions over one clause, with cells of their own, elements of any effect -/
abbrev ownC (scope : Scope) (C : Addr) : List Addr := (cellsFrom (C + 1) scope.names []).map Prod.snd
abbrev cenvOf (scope : Scope) (cl : List (Str × Addr)) (C : Addr) (env : Env) : Env := compEnvC scope (cellsFrom (C + 1) scope.names cl) C env

/-- what stands when the comprehension's own frame is made -/
structure CS (scope : Scope) (C D : Addr) (h h₁ : Heap) : Prop where
  D0 : h.get? D = none
  C0 : h.get? C = none
  ne : D ≠ C
  le : Le h h₁
  ns : h₁.Ns C (fun _ => none)
  own : ∀ x c, (x, c) ∈ cellsFrom (C + 1) scope.names [] → h₁.IsCell c none ∧ h.get? c = none ∧ c ≠ C ∧ c ≠ D

theorem not_some {h : Heap} {a : Addr} (x : h.get? a = none) : ¬ ∃ o, h.get? a = some o := fun ⟨o, e⟩ => by rw [x] at e; cases e

section
variable {M : Model} {A : Around} {E : Value → Shared → Prop}
/-- the frame of a comprehension -/
theorem newEnv_comp {scope : Scope} {globals : Addr} {cl : List (Str × Addr)} {qual : Str} {env : Env} {s : Shared} {Q : Env → Shared → Prop}
    (k : ∀ C h₁ acc, C = s.heap.objs.size → acc = cellsFrom (C + 1) scope.names cl → Le s.heap h₁ → h₁.Ns C (fun _ => none) → (∀ x c, (x, c) ∈ cellsFrom (C + 1) scope.names [] → h₁.IsCell c none ∧ C + 1 ≤ c) →
      Q { scope, locals := C, globals, cells := acc, qual, func := none, code := env.code, frame := env.frame, builtins := env.builtins } { s with heap := h₁ }) :
    wpAny M A (newFunctionEnv scope globals cl [] qual none .none (some env)) Q E s := by
  simp only [newFunctionEnv, Option.isSome_some, if_true]
  refine wpAny_bind (wpAny_alloc ?_)
  refine wpAny_bind (wpAny_layCells _ (fun name kind cells => by cases kind == NameKind.cell <;> simp) _ _ _ _ ?_)
  have ok := cellsFrom_ok scope.names (s.heap.push { cls := .type "dict", data := .dict #[] }) (s.heap.objs.size + 1) [] ⟨fun _ _ hm => (nomatch hm), List.Pairwise.nil⟩ (by rw [Heap.size_push]; exact Nat.le_refl _)
  rw [Heap.size_push] at ok
  rw [show ({ s with heap := s.heap.push { cls := .type "dict", data := .dict #[] } } : Shared).heap.objs.size = s.heap.objs.size + 1 from Heap.size_push ..]
  refine wpAny_bind (wpAny_pure (wpAny_pure ?_))
  exact k _ _ _ rfl rfl (fun b o e => pushCells_keeps _ _ b o (Heap.get?_push_of_some _ e)) ((Heap.Ns.new s.heap (.type "dict")).keeps (pushCells_keeps _ _)) fun x c hm => ok.empty x c hm
end

section
variable {prog : Program} {w : World} {A : Around} {E : Value → Shared → Prop} {env : Env}

theorem comp_core {elt iter : Expr} {ifs : List Expr} {scope : Scope} {pos p px : Pos} {x : Str} {cl : List (Str × Addr)} {use : Option (Value → Sem Unit)} {s : Shared} {Q : Value → Shared → Prop}
    (hclos : closureFor scope env = pure cl)
    (hnames : ∀ y ∈ scope.names, y.2 = .local → scope.names.lookup y.1 = some .local)
    (h : wpAny (model prog w) A (eval iter env) (fun xv s₁ => wpAny (model prog w) A (pyIter xv) (fun it s₂ => ∃ h g d t os I fp wr n P St X, s₂ = ⟨h, g, d, t, os⟩ ∧ it = .ref I ∧ Walks prog w A I fp wr n P St ∧ n ≤ 1000 ∧ St 0 h ∧
        (∀ b ∈ fp, b ∉ X) ∧ (∀ i h, St i h → ∀ b ∈ fp, ∃ o, h.get? b = some o) ∧ (∀ b ∈ X, ∃ o, h.get? b = some o) ∧
        ∀ D C h₁, CS scope C D h h₁ → ∃ J : Nat → List Value → Heap → Prop, J 0 [] h₁ ∧ (∀ i acc h₁ h₂, J i acc h₁ → Ext (D :: wr) h₁ h₂ → J i acc h₂) ∧ (∀ i acc h₁, J i acc h₁ → acc.length ≤ i) ∧
          (∀ i v acc h₁ tk E', i < n → P i v → J i acc h₁ → (∃ o, h₁.get? D = some o) → (∀ b ∈ fp, ∃ o, h₁.get? b = some o) →
            wpAny (model prog w) A (storeName (cenvOf scope cl C env) x v) (fun _ s₃ =>
              wpAny (model prog w) A (forIn ifs true fun c r => if r = true then do let ok ← isTrue c (cenvOf scope cl C env) (eval c (cenvOf scope cl C env)); pure (ForInStep.yield ok) else pure (ForInStep.yield r)) (fun ok s₄ =>
                if ok = true then wpAny (model prog w) A (eval elt (cenvOf scope cl C env)) (fun y s₅ => ∃ h' tk', s₅ = ⟨h', g, d, tk', os⟩ ∧ Ext (C :: (ownC scope C ++ X)) h₁ h' ∧ J (i + 1) (acc ++ [y]) h') E' s₄
                else ∃ h' tk', s₄ = ⟨h', g, d, tk', os⟩ ∧ Ext (C :: (ownC scope C ++ X)) h₁ h' ∧ J (i + 1) acc h') E' s₃) E' ⟨h₁, g, d, tk, os⟩) ∧
          (∀ ys h₂ n' tk, J n ys h₂ → h₂.get? D = some (listO ys.toArray n') → compPost (model prog w) A E use Q (.ref D) C (.ok .next) ⟨h₂, g, d, tk, os⟩)) E s₁) E s)
    (hs : ∀ x, foldedSetIterable iter env x = pure x := by intro _; rfl) (hkind : scope.kind = .function := by rfl) :
    wpAny (model prog w) A (comprehension (.ListComp elt [⟨.Name x px, iter, ifs, 0⟩] scope pos) scope env p (newList []) false (eval iter env) use) Q E s := by
  refine wpAny_comprehension_free rfl hs hclos hkind hnames (wpAny_mono h (fun xv s₁ h₁ => wpAny_mono h₁ (fun it s₂ h₂ => ?_) fun _ _ e => e) fun _ _ e => e)
  obtain ⟨h, g, d, t, os, I, fp, wr, n, P, St, X, rfl, rfl, W, hsz, hst, hfX, hlv, hX, h₂⟩ := h₂
  have hfp : ∀ b ∈ fp, b ∉ X ∧ ∃ o, h.get? b = some o := fun b hb => ⟨hfX b hb, hlv _ _ hst b hb⟩
  refine wpAny_newObj_type (newEnv_comp fun C h₁ acc hC hacc l₁ hn hown => ?_)
  subst hacc
  have hD : h.get? h.objs.size = none := fresh_size h
  have hC' : C = h.objs.size + 1 := by rw [hC]; exact Heap.size_push ..
  have hge : ∀ c : Nat, h.objs.size ≤ c → h.get? c = none := fun c hc => by
    cases e : h.get? c with
    | none => rfl
    | some o => exact absurd (Heap.lt_size e) (Nat.not_lt.mpr hc)
  have l0 : Le h h₁ := (push_le _ _).trans l₁
  have hDget : h₁.get? h.objs.size = some (listO [].toArray 0) := l₁ _ _ (Heap.get?_push_size _ rfl)
  have hDC : h.objs.size ≠ C := by rw [hC']; exact Nat.ne_of_lt (Nat.lt_succ_self _)
  have CS0 : CS scope C h.objs.size h h₁ := ⟨hD, hge _ (by rw [hC']; exact Nat.le_succ _), hDC, l0, hn, fun x c hm => by
    obtain ⟨h1, h2⟩ := hown x c hm
    have h3 : h.objs.size + 1 + 1 ≤ c := hC' ▸ h2
    exact ⟨h1, hge _ (Nat.le_trans (by omega) h3), Nat.ne_of_gt (Nat.lt_of_lt_of_le (Nat.lt_succ_self _) h2), Nat.ne_of_gt (Nat.lt_of_lt_of_le (by omega) h3)⟩⟩
  obtain ⟨J, J0, Jk, Jl, Jt, Jd⟩ := h₂ _ C h₁ CS0
  have fpC : ∀ b ∈ fp, b ∉ C :: (ownC scope C ++ X) := fun b hb hm => by
    obtain ⟨o, ho⟩ := (hfp b hb).2
    rcases List.mem_cons.mp hm with e | hm
    · exact not_some CS0.C0 ⟨o, e ▸ ho⟩
    rcases List.mem_append.mp hm with hm | hm
    · obtain ⟨⟨y, c⟩, hy, rfl⟩ := List.mem_map.mp hm
      exact not_some (CS0.own y _ hy).2.1 ⟨o, ho⟩
    · exact (hfp b hb).1 hm
  have fpD : ∀ b ∈ fp, b ≠ h.objs.size := fun b hb e => by
    obtain ⟨o, ho⟩ := (hfp b hb).2
    exact not_some hD ⟨o, e ▸ ho⟩
  have DX : h.objs.size ∉ C :: (ownC scope C ++ X) := fun hm => by
    rcases List.mem_cons.mp hm with e | hm
    · exact hDC e
    rcases List.mem_append.mp hm with hm | hm
    · obtain ⟨⟨y, c⟩, hy, e⟩ := List.mem_map.mp hm
      exact (CS0.own y _ hy).2.2.2 e
    · exact not_some hD (hX _ hm)
  have Dw : h.objs.size ∉ wr := fun hm => fpD _ (W.sub _ hm) rfl
  have loop : codeAny (model prog w) A (.compLoop (.ListComp elt [⟨.Name x px, iter, ifs, 0⟩] scope pos) 0 (.ref I) (.ref h.objs.size) (cenvOf scope cl C env)) (compPost (model prog w) A E use Q (.ref h.objs.size) C) ⟨h₁, g, d, t, os⟩ := by
    refine codeAny_compLoop_tests (fun k s' => ∃ i acc h' tk n', s' = ⟨h', g, d, tk, os⟩ ∧ St i h' ∧ J i acc h' ∧ h'.get? h.objs.size = some (listO (List.toArray acc) n') ∧ i ≤ n ∧ k = n + 1 - i) ?_ (n + 1)
      ⟨0, [], h₁, t, 0, rfl, W.frame _ _ _ hst (fun b _ o e => l0 b o e), J0, hDget, Nat.zero_le _, rfl⟩
    rintro k s' ⟨i, acc, h', tk, n', rfl, hst', hJ, hDg, hi, rfl⟩
    by_cases hlt : i < n
    · refine W.item i _ _ _ hlt hst' fun v h'' tk'' hP hst'' hk => ?_
      have hJ'' := Jk _ _ _ _ hJ (show Ext (h.objs.size :: wr) h' h'' from fun a o ha e => hk a o (fun q => ha (List.mem_cons_of_mem _ q)) e)
      have hDg'' := hk _ _ Dw hDg
      have hlv'' := hlv _ _ hst''
      refine wpAny_assign_Name (wpAny_mono (Jt i v acc h'' tk'' _ hlt hP hJ'' ⟨_, hDg''⟩ hlv'') (fun _ s₃ h₃ => wpAny_mono h₃ (fun ok s₄ h₄ => ?_) fun _ _ e => e) fun _ _ e => e)
      cases ok with
      | false =>
        rw [if_neg (by decide)] at h₄ ⊢
        obtain ⟨h4, tk4, rfl, x4, J4⟩ := h₄
        exact ⟨n + 1 - (i + 1), by omega, i + 1, acc, h4, tk4, n', rfl, W.frame _ _ _ hst'' (fun b hb o e => x4 b o (fpC b hb) e), J4, x4 _ _ DX hDg'', hlt, rfl⟩
      | true =>
        rw [if_pos rfl] at h₄ ⊢
        refine wpAny_mono h₄ (fun y s₅ h₅ => ?_) fun _ _ e => e
        obtain ⟨h5, tk5, rfl, x5, J5⟩ := h₅
        refine lapp (x5 _ _ DX hDg'') (by have := Jl _ _ _ hJ; omega) fun h6 n6 e6 x6 => ?_
        have st5 := W.frame _ _ _ hst'' (fun b hb o e => x5 b o (fpC b hb) e)
        exact ⟨n + 1 - (i + 1), by omega, i + 1, acc ++ [y], h6, tk5, n6, rfl, W.frame _ _ _ st5 (fun b hb o e => x6 b o (by simpa using fpD b hb) e), Jk _ _ _ _ J5 (x6.mono (by simp)), e6, hlt, rfl⟩
    · have hin : i = n := by omega
      subst hin
      refine W.done _ _ _ hst' fun h'' tk'' hk => ?_
      exact Jd acc h'' n' tk'' (Jk _ _ _ _ hJ (fun a o ha e => hk a o (fun q => ha (List.mem_cons_of_mem _ q)) e)) (hk _ _ Dw hDg)
  exact codeAny_compStart_list loop (W.self 0 _ _ _ (W.frame _ _ _ hst (fun b _ o e => l0 b o e)) loop)
end
end Mine
end

section
open PySem PySem.W PySem.Calls PyProof.Rows Builtin Builtin.ObjectAttr
set_option maxRecDepth 100000
namespace Mine

/-- a heap with some addresses left out -/
def freeIf (b : Bool) (o : Obj) : Obj := if b then { o with data := .freed } else o
def mask (h : Heap) (W : List Addr) : Heap := ⟨h.objs.mapIdx fun i o => freeIf (W.contains i) o, h.life⟩
theorem mask_in {h : Heap} {W : List Addr} {a : Addr} (ha : a ∈ W) : (mask h W).get? a = none := by
  unfold Heap.get? mask
  rw [Array.getElem?_mapIdx]
  cases h.objs[a]? with
  | none => rfl
  | some o =>
    obtain ⟨c, dd, dt, sl⟩ := o
    simp only [Option.map_some, freeIf, List.contains_iff_mem, ha, if_true, decide_true, List.elem_eq_mem]
theorem mask_out {h : Heap} {W : List Addr} {a : Addr} (ha : a ∉ W) : (mask h W).get? a = h.get? a := by
  unfold Heap.get? mask
  rw [Array.getElem?_mapIdx]
  cases h.objs[a]? with
  | none => rfl
  | some o =>
    simp only [Option.map_some, freeIf, List.contains_iff_mem, ha, if_false, decide_false, List.elem_eq_mem, Bool.false_eq_true]
theorem mask_le (h : Heap) (W : List Addr) : Le (mask h W) h := fun a o e => by
  by_cases ha : a ∈ W
  · rw [mask_in ha] at e; cases e
  · rwa [mask_out ha] at e
theorem le_mask {b h : Heap} {W : List Addr} (l : Le b h) (hw : ∀ z ∈ W, b.get? z = none) : Le b (mask h W) := fun a o e => by
  have ha : a ∉ W := fun hm => by rw [hw a hm] at e; cases e
  rw [mask_out ha]; exact l a o e

/-- a walk that may be begun -/
def IterAt (prog : Program) (w : World) (A : Around) (b₀ h : Heap) (it : Value) (n : Nat) (P : Nat → Value → Prop) : Prop :=
  ∃ I fp wr St, it = .ref I ∧ Walks prog w A I fp wr n P St ∧ St 0 h ∧ (∀ i h, St i h → ∀ b ∈ fp, ∃ o, h.get? b = some o) ∧ (∀ z ∈ wr, b₀.get? z = none) ∧ (∀ z ∈ fp, z ∉ wr → ∃ o, b₀.get? z = some o) ∧ Le b₀ h

inductive XKind | loc | cel
def XOk (scope : Scope) (cl : List (Str × Addr)) (x : Str) : XKind → Prop
  | .loc => scope.names.lookup x = some .local ∧ ∀ C, ownC scope C = []
  | .cel => scope.names.lookup x = some .cell ∧ ∀ C, (cellsFrom (C + 1) scope.names cl).lookup x = some (C + 1) ∧ ownC scope C = [C + 1]
def Bd (kx : XKind) (C : Addr) (x : Str) (h : Heap) (v : Value) : Prop := match kx with | .loc => ∃ m, h.Ns C m ∧ m x = some v | .cel => h.IsCell (C + 1) (some v)

theorem lookup_relabel_cell {env : Env} : ∀ {names : List (Str × NameKind)} {x : Str}, names.lookup x = some .cell →
    (names.map fun (n, k) => if (k == NameKind.free && env.scope.kind == .function && env.kindOf n == some .cell) then (n, NameKind.cell) else (n, k)).lookup x = some .cell
  | [], _, h => by simp at h
  | (n, k) :: r, x, h => by
    have ih := @lookup_relabel_cell env r x
    show List.lookup x ((if (k == NameKind.free && env.scope.kind == .function && env.kindOf n == some .cell) = true then (n, NameKind.cell) else (n, k)) :: _) = _
    cases hx : x == n with
    | true =>
      simp only [List.lookup_cons, hx] at h
      cases h
      simp [List.lookup_cons, hx]
    | false =>
      simp only [List.lookup_cons, hx] at h
      by_cases hc : (k == NameKind.free && env.scope.kind == .function && env.kindOf n == some .cell) = true
      · rw [if_pos hc]; simp only [List.lookup_cons, hx]; exact ih h
      · rw [if_neg hc]; simp only [List.lookup_cons, hx]; exact ih h

section
variable {prog : Program} {w : World} {A : Around} {E : Value → Shared → Prop} {env : Env}

theorem comp_any {elt iter : Expr} {ifs : List Expr} {scope : Scope} {pos p px : Pos} {x : Str} {cl : List (Str × Addr)} {use : Option (Value → Sem Unit)} {s : Shared} {Q : Value → Shared → Prop} (kx : XKind) (F : Value → Value → Heap → Prop) (pt : Value → Bool)
    (hclos : closureFor scope env = pure cl) (hx : XOk scope cl x kx)
    (hnames : ∀ y ∈ scope.names, y.2 = .local → scope.names.lookup y.1 = some .local)
    (h : wpAny (model prog w) A (eval iter env) (fun xv s₁ => wpAny (model prog w) A (pyIter xv) (fun it s₂ => ∃ h g d t os b₀ n P, s₂ = ⟨h, g, d, t, os⟩ ∧ IterAt prog w A b₀ h it n P ∧ n ≤ 1000 ∧
        (∀ i v C h₁ tk E', i < n → P i v → Le b₀ h₁ → Bd kx C x h₁ v →
            wpAny (model prog w) A (forIn ifs true fun c r => if r = true then do let ok ← isTrue c (cenvOf scope cl C env) (eval c (cenvOf scope cl C env)); pure (ForInStep.yield ok) else pure (ForInStep.yield r)) (fun ok s₄ =>
                ok = pt v ∧ ∃ h' tk', s₄ = ⟨h', g, d, tk', os⟩ ∧ Le h₁ h' ∧ (ok = true → wpAny (model prog w) A (eval elt (cenvOf scope cl C env)) (fun y s₅ => ∃ h'' tk'', s₅ = ⟨h'', g, d, tk'', os⟩ ∧ Le h' h'' ∧
                   ∀ h₂, Le b₀ h₂ → (∀ a o, h₁.get? a = none → h''.get? a = some o → h₂.get? a = some o) → F v y h₂) E' s₄)) E' ⟨h₁, g, d, tk, os⟩) ∧
        (∀ D C h₂ tk ys (vs : List Value) n', vs.length = n → (∀ i v, vs[i]? = some v → P i v) → Paired (fun v y => F v y h₂) (vs.filter pt) ys → Le b₀ h₂ → b₀.get? D = none → b₀.get? C = none → D ≠ C → h₂.get? D = some (listO ys.toArray n') → (∃ m, h₂.Ns C m) →
            (∃ B, Le b₀ B ∧ Le B h₂ ∧ B.get? D = none ∧ B.get? C = none ∧ Paired (fun v y => ∀ h₃, Le B h₃ → F v y h₃) (vs.filter pt) ys) →
            compPost (model prog w) A E use Q (.ref D) C (.ok .next) ⟨h₂, g, d, tk, os⟩)) E s₁) E s)
    (hs : ∀ x, foldedSetIterable iter env x = pure x := by intro _; rfl) (hkind : scope.kind = .function := by rfl) :
    wpAny (model prog w) A (comprehension (.ListComp elt [⟨.Name x px, iter, ifs, 0⟩] scope pos) scope env p (newList []) false (eval iter env) use) Q E s := by
  refine comp_core hclos hnames (wpAny_mono h (fun xv s₁ h₁ => wpAny_mono h₁ (fun it s₂ h₂ => ?_) fun _ _ e => e) fun _ _ e => e) hs hkind
  obtain ⟨h, g, d, t, os, b₀, n, P, rfl, ⟨I, fp, wr, St, rfl, W, hst, hlv, hw0, hf0, l0⟩, hsz, turn, done⟩ := h₂
  refine ⟨h, g, d, t, os, I, fp, wr, n, P, St, [], rfl, rfl, W, hsz, hst, fun _ _ => by simp, hlv, by simp, fun D C h₁ cs => ?_⟩
  have hwfp := W.sub
  -- the addresses that the comprehension itself writes
  let Z : List Addr := D :: C :: (ownC scope C ++ wr)
  have hbZ : ∀ z ∈ Z, b₀.get? z = none := fun z hz => by
    rcases List.mem_cons.mp hz with e | hz
    · exact l0.fresh (e ▸ cs.D0)
    rcases List.mem_cons.mp hz with e | hz
    · exact l0.fresh (e ▸ cs.C0)
    rcases List.mem_append.mp hz with hz | hz
    · obtain ⟨⟨y, c⟩, hy, rfl⟩ := List.mem_map.mp hz
      exact l0.fresh (cs.own y _ hy).2.1
    · exact hw0 z hz
  let J : Nat → List Value → Heap → Prop := fun i acc h' => ∃ (B : Heap) (vs : List Value), Le B h' ∧ Le b₀ B ∧ (∀ z ∈ Z, B.get? z = none) ∧ vs.length = i ∧ (∀ j v, vs[j]? = some v → P j v) ∧ Paired (fun v y => ∀ h₂, Le B h₂ → F v y h₂) (vs.filter pt) acc ∧
    (∃ m, h'.Ns C m) ∧ (∀ c ∈ ownC scope C, ∃ v0, h'.IsCell c v0)
  have hDown : D ∉ ownC scope C := fun hm => by
    obtain ⟨⟨y, c⟩, hy, e⟩ := List.mem_map.mp hm
    exact (cs.own y _ hy).2.2.2 e
  have hCown : C ∉ ownC scope C := fun hm => by
    obtain ⟨⟨y, c⟩, hy, e⟩ := List.mem_map.mp hm
    exact (cs.own y _ hy).2.2.1 e
  have hwlive : ∀ z ∈ wr, ∃ o, h.get? z = some o := fun z hz => hlv 0 h hst z (W.sub _ hz)
  have hwC : C ∉ wr := fun hm => not_some cs.C0 (hwlive _ hm)
  have hwO : ∀ c ∈ ownC scope C, c ∉ wr := fun c hc hm => by
    obtain ⟨⟨y, c⟩, hy, rfl⟩ := List.mem_map.mp hc
    exact not_some (cs.own y _ hy).2.1 (hwlive _ hm)
  refine ⟨J, ⟨mask h₁ Z, [], mask_le _ _, le_mask (l0.trans cs.le) hbZ, fun z hz => mask_in hz, rfl, by simp, by simpa using Paired.nil, ⟨_, cs.ns⟩, fun c hc => ?_⟩, ?_, ?_, ?_, ?_⟩
  · obtain ⟨⟨y, c⟩, hy, rfl⟩ := List.mem_map.mp hc
    exact ⟨_, (cs.own y _ hy).1⟩
  · rintro i acc ha hb ⟨B, vs, lB, lb, hZ, hi, hP, hF, ⟨m, hn⟩, hc⟩ x
    refine ⟨B, vs, x.base lB (fun z hz => hZ z ?_), lb, hZ, hi, hP, hF, ⟨m, ns_ext hn x ?_⟩, fun c hcm => ?_⟩
    · rcases List.mem_cons.mp hz with e | hz
      · rw [e]; exact List.mem_cons_self
      · exact List.mem_cons_of_mem _ (List.mem_cons_of_mem _ (List.mem_append_right _ hz))
    · intro hm
      rcases List.mem_cons.mp hm with e | hm
      · exact cs.ne e.symm
      · exact hwC hm
    · obtain ⟨v0, o, ho, hd⟩ := hc c hcm
      refine ⟨v0, o, x c o (fun hm => ?_) ho, hd⟩
      rcases List.mem_cons.mp hm with e | hm
      · exact hDown (e ▸ hcm)
      · exact hwO c hcm hm
  · rintro i acc h' ⟨B, vs, lB, lb, hZ, hi, hP, hF, hn, hc⟩
    have := hF.length
    have h2 : (vs.filter pt).length ≤ vs.length := List.length_filter_le _ _
    omega
  · rintro i v acc ha tk E' hin hPv ⟨B, vs, lB, lb, hZ, hi, hP, hF, ⟨m, hn⟩, hc⟩ hDl hfl
    -- after the store
    have after : ∀ h₂ u, Ext (C :: ownC scope C) ha h₂ → Bd kx C x h₂ v → (∃ m, h₂.Ns C m) → (∀ c ∈ ownC scope C, ∃ v0, h₂.IsCell c v0) →
        wpAny (model prog w) A (forIn ifs true fun c r => if r = true then do let ok ← isTrue c (cenvOf scope cl C env) (eval c (cenvOf scope cl C env)); pure (ForInStep.yield ok) else pure (ForInStep.yield r)) (fun ok s₄ =>
                if ok = true then wpAny (model prog w) A (eval elt (cenvOf scope cl C env)) (fun y s₅ => ∃ h' tk', s₅ = ⟨h', g, d, tk', os⟩ ∧ Ext (C :: (ownC scope C ++ [])) ha h' ∧ J (i + 1) (acc ++ [y]) h') E' s₄
                else ∃ h' tk', s₄ = ⟨h', g, d, tk', os⟩ ∧ Ext (C :: (ownC scope C ++ [])) ha h' ∧ J (i + 1) acc h') E' ⟨h₂, g, d, u, os⟩ := by
      intro h₂ u x₂ bd ⟨m₂, hn₂⟩ hc₂
      have lB₂ : Le B h₂ := x₂.base lB (fun z hz => hZ z (by
        rcases List.mem_cons.mp hz with e | hz
        · rw [e]; exact List.mem_cons_of_mem _ List.mem_cons_self
        · exact List.mem_cons_of_mem _ (List.mem_cons_of_mem _ (List.mem_append_left _ hz))))
      have hP' : ∀ j u, (vs ++ [v])[j]? = some u → P j u := fun j u hj => by
        rcases Nat.lt_trichotomy j vs.length with h | h | h
        · exact hP j u (by rwa [List.getElem?_append_left h] at hj)
        · subst h; simp at hj; subst hj; exact hi ▸ hPv
        · have hnone : (vs ++ [v])[j]? = none := List.getElem?_eq_none (by rw [List.length_append, List.length_singleton]; omega)
          rw [hnone] at hj; cases hj
      have hZl : ∀ z ∈ Z, ∃ o, h₂.get? z = some o := fun z hz => by
        rcases List.mem_cons.mp hz with e | hz
        · obtain ⟨o, ho⟩ := hDl
          refine ⟨o, ?_⟩
          rw [e]
          exact x₂ _ _ (fun hm => by
            rcases List.mem_cons.mp hm with e | hm
            · exact cs.ne e
            · exact hDown hm) ho
        rcases List.mem_cons.mp hz with e | hz
        · obtain ⟨o, es, ep, ho, _⟩ := hn₂; exact ⟨o, e ▸ ho⟩
        rcases List.mem_append.mp hz with hz | hz
        · obtain ⟨v0, o, ho, _⟩ := hc₂ z hz; exact ⟨o, ho⟩
        · obtain ⟨o, ho⟩ := hfl z (W.sub _ hz)
          refine ⟨o, x₂ _ _ (fun hm => ?_) ho⟩
          rcases List.mem_cons.mp hm with e | hm
          · exact hwC (e ▸ hz)
          · exact hwO z hm hz
      refine wpAny_mono (turn i v C h₂ u E' hin hPv (lb.trans lB₂) bd) (fun ok s₄ h₄ => ?_) fun _ _ e => e
      obtain ⟨hok, h₃, tk₃, rfl, l₃, helt⟩ := h₄
      cases ok with
      | false =>
        rw [if_neg (by decide)]
        refine ⟨h₃, tk₃, rfl, ?_, B, vs ++ [v], lB₂.trans l₃, lb, hZ, by simp [hi], hP', ?_, ⟨m₂, hn₂.keeps l₃⟩, fun c hc => let ⟨v0, q⟩ := hc₂ c hc; ⟨v0, q.keeps l₃⟩⟩
        · rw [List.append_nil]; exact fun a o hm e => l₃ a o (x₂ a o hm e)
        · rw [List.filter_append]; simpa [← hok] using hF
      | true =>
        rw [if_pos rfl]
        refine wpAny_mono (helt rfl) (fun y s₅ h₅ => ?_) fun _ _ e => e
        obtain ⟨h₅, tk₅, rfl, l₅, hFy⟩ := h₅
        have lB₅ : Le B h₅ := (lB₂.trans l₃).trans l₅
        have lBm : Le B (mask h₅ Z) := le_mask lB₅ hZ
        refine ⟨h₅, tk₅, rfl, ?_, mask h₅ Z, vs ++ [v], mask_le _ _, lb.trans lBm, fun z hz => mask_in hz, by simp [hi], hP', ?_, ⟨m₂, (hn₂.keeps l₃).keeps l₅⟩, fun c hc => let ⟨v0, q⟩ := hc₂ c hc; ⟨v0, (q.keeps l₃).keeps l₅⟩⟩
        · rw [List.append_nil]; exact fun a o hm e => l₅ a o (l₃ a o (x₂ a o hm e))
        · rw [List.filter_append]
          have hF' := hF.mono (F' := fun v y => ∀ h₂, Le (mask h₅ Z) h₂ → F v y h₂) fun _ _ q h₆ l₆ => q h₆ (lBm.trans l₆)
          have hy : ∀ h₆, Le (mask h₅ Z) h₆ → F v y h₆ := fun h₆ l₆ => hFy h₆ ((lb.trans lBm).trans l₆) fun a o hn he => l₆ a o (by
            rw [mask_out (fun hm => not_some hn (hZl a hm))]; exact he)
          simpa [← hok] using Paired.snoc hF' hy
    -- the store
    cases kx with
    | loc =>
      obtain ⟨hk, ho⟩ := hx
      refine wpAny_storeName_local (lookup_relabel_local hk) hn (fun h₂ hn₂ hs₂ => ?_) (by simp [compEnvC, relabel, hkind])
      refine after h₂ _ (Ext.mono (Ext.of_sameBut hs₂) (by simp [cenvOf, compEnvC])) ⟨_, hn₂, by simp⟩ ⟨_, hn₂⟩ (by rw [ho]; simp)
    | cel =>
      obtain ⟨hk, ho⟩ := hx
      obtain ⟨hl, hown⟩ := ho C
      obtain ⟨v0, hc0⟩ := hc (C + 1) (by rw [hown]; simp)
      refine wpAny_storeName_cell (by simp [compEnvC, relabel, hkind]) (lookup_relabel_cell hk) hl hc0 fun h₂ hc₂ hs₂ => ?_
      refine after h₂ _ (Ext.mono (Ext.of_sameBut hs₂) (by rw [hown]; simp)) hc₂ ⟨m, hn.sameBut hs₂ (Nat.ne_of_lt (Nat.lt_succ_self _))⟩ (by rw [hown]; simpa using ⟨_, hc₂⟩)
  · rintro ys h₂ n' tk ⟨B, vs, lB, lb, hZ, hi, hP, hF, ⟨m, hn⟩, hc⟩ hD
    exact done D C h₂ tk ys vs n' hi hP (hF.mono fun _ _ q => q h₂ lB) (lb.trans lB) (hbZ _ List.mem_cons_self) (hbZ _ (List.mem_cons_of_mem _ List.mem_cons_self)) cs.ne hD ⟨m, hn⟩
      ⟨B, lb, lB, hZ _ List.mem_cons_self, hZ _ (List.mem_cons_of_mem _ List.mem_cons_self), hF⟩
end
end Mine
end

section
open PySem PySem.W PySem.Calls PyProof.Rows Builtin Builtin.ObjectAttr
set_option maxRecDepth 100000
namespace Mine
section
variable {prog : Program} {w : World} {A : Around} {E : Value → Shared → Prop} {env : Env}

/-- one turn of a quiet comprehension -/
abbrev Turn (prog : Program) (w : World) (A : Around) (elt : Expr) (ifs : List Expr) (cenv : Env) (g : Array GenState) (d : Drawn) (os : OsState) (b₀ h₁ : Heap) (tk : Nat) (v : Value) (F : Value → Value → Heap → Prop) (pt : Value → Bool) : Prop :=
  ∀ E', wpAny (model prog w) A (forIn ifs true fun c r => if r = true then do let ok ← isTrue c cenv (eval c cenv); pure (ForInStep.yield ok) else pure (ForInStep.yield r)) (fun ok s₄ =>
                ok = pt v ∧ ∃ h' tk', s₄ = ⟨h', g, d, tk', os⟩ ∧ Le h₁ h' ∧ (ok = true → wpAny (model prog w) A (eval elt cenv) (fun y s₅ => ∃ h'' tk'', s₅ = ⟨h'', g, d, tk'', os⟩ ∧ Le h' h'' ∧
                   ∀ h₂, Le b₀ h₂ → (∀ a o, h₁.get? a = none → h''.get? a = some o → h₂.get? a = some o) → F v y h₂) E' s₄)) E' ⟨h₁, g, d, tk, os⟩

theorem comp_eval {elt iter : Expr} {ifs : List Expr} {scope : Scope} {pos px : Pos} {x : Str} {cl : List (Str × Addr)} {s : Shared} {Q : Value → Shared → Prop} (kx : XKind) (F : Value → Value → Heap → Prop) (pt : Value → Bool)
    (hclos : closureFor scope env = pure cl) (hx : XOk scope cl x kx)
    (hnames : ∀ y ∈ scope.names, y.2 = .local → scope.names.lookup y.1 = some .local)
    (h : wpAny (model prog w) A (eval iter env) (fun xv s₁ => wpAny (model prog w) A (pyIter xv) (fun it s₂ => ∃ h g d t os b₀ n P, s₂ = ⟨h, g, d, t, os⟩ ∧ IterAt prog w A b₀ h it n P ∧ n ≤ 1000 ∧
        (∀ i v C h₁ tk, i < n → P i v → Le b₀ h₁ → Bd kx C x h₁ v → Turn prog w A elt ifs (cenvOf scope cl C env) g d os b₀ h₁ tk v F pt) ∧
        (∀ D h₂ tk ys (vs : List Value) n', vs.length = n → (∀ i v, vs[i]? = some v → P i v) → Paired (fun v y => F v y h₂) (vs.filter pt) ys → Le b₀ h₂ → b₀.get? D = none → h₂.get? D = some (listO ys.toArray n') →
            Q (.ref D) ⟨h₂, g, d, tk, os⟩)) E s₁) E s)
    (hs : ∀ x, foldedSetIterable iter env x = pure x := by intro _; rfl) (hkind : scope.kind = .function := by rfl) :
    wpAny (model prog w) A (eval (.ListComp elt [⟨.Name x px, iter, ifs, 0⟩] scope pos) env) Q E s := by
  rw [eval_ListComp]
  refine comp_any (use := none) kx F pt hclos hx hnames (wpAny_mono h (fun xv s₁ h₁ => wpAny_mono h₁ (fun it s₂ h₂ => ?_) fun _ _ e => e) fun _ _ e => e) hs hkind
  obtain ⟨h, g, d, t, os, b₀, n, P, rfl, it, hz, turn, done⟩ := h₂
  refine ⟨h, g, d, t, os, b₀, n, P, rfl, it, hz, fun i v C h₁ tk E' a b c e => turn i v C h₁ tk a b c e E', fun D C h₂ tk ys vs n' h1 h2 h3 h4 h5 h6 h7 h8 ⟨m, hn⟩ ⟨B, q1, q2, q3, q4, q5⟩ => ⟨m, hn, fun h' hs' => ?_⟩⟩
  have lB : Le B h' := (Ext.of_sameBut hs').base q2 (by simpa using q4)
  exact done D h' tk ys vs n' h1 h2 (q5.mono fun _ _ z => z h' lB) (q1.trans lB) h5 (hs'.extBut _ _ h7 h8)

theorem comp_asg {elt iter : Expr} {ifs : List Expr} {scope : Scope} {pos spos px py : Pos} {x y : Str} {cl : List (Str × Addr)} {s : Shared} {Q : Flow → Shared → Prop} (kx : XKind) (F : Value → Value → Heap → Prop) (pt : Value → Bool)
    (hsw : swapsWith (.ListComp elt [⟨.Name x px, iter, ifs, 0⟩] scope pos) (some (.Name y py)) spos.line env = pure true)
    (hclos : closureFor scope env = pure cl) (hx : XOk scope cl x kx)
    (hnames : ∀ y ∈ scope.names, y.2 = .local → scope.names.lookup y.1 = some .local)
    (hy : env.kindOf y = some .local) (hp : (env.scope.kind == .class || (env.scope.kind == .module && env.locals != env.globals)) = false)
    (h : wpAny (model prog w) A (eval iter env) (fun xv s₁ => wpAny (model prog w) A (pyIter xv) (fun it s₂ => ∃ h g d t os b₀ n P m, s₂ = ⟨h, g, d, t, os⟩ ∧ IterAt prog w A b₀ h it n P ∧ n ≤ 1000 ∧ b₀.Ns env.locals m ∧
        (∀ i v C h₁ tk, i < n → P i v → Le b₀ h₁ → Bd kx C x h₁ v → Turn prog w A elt ifs (cenvOf scope cl C env) g d os b₀ h₁ tk v F pt) ∧
        (∀ D h₂ h₃ tk ys (vs : List Value) n', vs.length = n → (∀ i v, vs[i]? = some v → P i v) → Paired (fun v y => F v y h₂) (vs.filter pt) ys → Le b₀ h₂ → Ext [env.locals] h₂ h₃ → b₀.get? D = none → h₂.get? D = some (listO ys.toArray n') → h₃.get? D = some (listO ys.toArray n') →
            h₃.Ns env.locals (updM m y (.ref D)) → Q .next ⟨h₃, g, d, tk, os⟩)) E s₁) E s)
    (hs : ∀ x, foldedSetIterable iter env x = pure x := by intro _; rfl) (hkind : scope.kind = .function := by rfl) :
    wpAny (model prog w) A (exec (.Assign [.Name y py] (.ListComp elt [⟨.Name x px, iter, ifs, 0⟩] scope pos) spos) env) Q E s := by
  rw [exec_Assign_Name_used _ _ _ _ hsw]
  refine wpAny_bind (wpAny_standAt (wpAny_bind ?_))
  show wpAny _ A (do let _ ← comprehension (.ListComp elt [⟨.Name x px, iter, ifs, 0⟩] scope pos) scope env _ (newList []) false (eval iter env) (some (assign (.Name y py) env))) _ _ s
  refine wpAny_bind (wpAny_mono (Q := fun _ s' => Q .next s') ?_ (fun _ s' hq => wpAny_pure (wpAny_pure hq)) fun _ _ e => e)
  refine comp_any (use := some (assign (.Name y py) env)) kx F pt hclos hx hnames (wpAny_mono h (fun xv s₁ h₁ => wpAny_mono h₁ (fun it s₂ h₂ => ?_) fun _ _ e => e) fun _ _ e => e) hs hkind
  obtain ⟨h, g, d, t, os, b₀, n, P, m, rfl, it, hz, hm, turn, done⟩ := h₂
  refine ⟨h, g, d, t, os, b₀, n, P, rfl, it, hz, fun i v C h₁ tk E' a b c e => turn i v C h₁ tk a b c e E', fun D C h₂ tk ys vs n' h1 h2 h3 h4 h5 h6 h7 h8 ⟨mC, hn⟩ ⟨B, q1, q2, q3, q4, q5⟩ => ?_⟩
  have hL : ∃ o, b₀.get? env.locals = some o := let ⟨o, _, _, ho, _⟩ := hm; ⟨o, ho⟩
  have hLC : env.locals ≠ C := fun e => not_some h6 (e ▸ hL)
  have hLD : env.locals ≠ D := fun e => not_some h5 (e ▸ hL)
  show wpAny _ A (assign (.Name y py) env (.ref D)) _ _ _
  refine wpAny_assign_Name (wpAny_storeName_local hy (hm.keeps h4) (fun h' hn' hs' => ⟨mC, hn.sameBut hs' hLC.symm, fun h'' hs'' => ?_⟩) hp)
  -- the heap without the frame's change
  have hB : ∀ h'', Heap.SameBut C h₂ h'' → Le B h'' := fun h'' hs'' => (Ext.of_sameBut hs'').base q2 (by simpa using q4)
  have lm : Le (mask h₂ [C]) h₂ := mask_le _ _
  have lBm : Le B (mask h₂ [C]) := le_mask q2 (by simpa using q4)
  have e3 : Ext [env.locals] (mask h₂ [C]) h'' := fun p o hp e => by
    have hpC : p ≠ C := fun q => by rw [q, mask_in (by simp)] at e; cases e
    exact hs''.extBut p o hpC (hs'.extBut p o (by simpa using hp) (lm p o e))
  refine done D (mask h₂ [C]) h'' _ ys vs n' h1 h2 (q5.mono fun _ _ z => z _ lBm) (q1.trans lBm) e3 h5 ?_ ?_ (hn'.sameBut hs'' hLC)
  · rw [mask_out (by simpa using h7)]; exact h8
  · exact hs''.extBut _ _ h7 (hs'.extBut _ _ (Ne.symm hLD) h8)
end

section
variable {prog : Program} {w : World} {A : Around} {E : Value → Shared → Prop} {h : Heap} {g : Array GenState} {d : Drawn} {t : Nat} {os : OsState} {Q : Value → Shared → Prop}
theorem it_list {a : Addr} {xs : List Value} {n : Nat} (hh : A.handled = none) (ho : h.get? a = some (listO xs.toArray n))
    (k : ∀ h' it, IterAt prog w A h h' it xs.length (fun i v => xs[i]? = some v) → Q it ⟨h', g, d, t, os⟩) : wpAny (model prog w) A (pyIter (.ref a)) Q E ⟨h, g, d, t, os⟩ := by
  refine wpAny_pyIter_list ⟨_, ho, rfl, _, rfl⟩ (k _ _ ⟨h.objs.size, [h.objs.size, a], [h.objs.size], (fun i h' => h'.IsListIter h.objs.size a i ∧ h'.IsList a xs.toArray), rfl, ?_, ?_, ?_, ?_, ?_, push_le _ _⟩)
  · have := Walks.list (prog := prog) (w := w) hh h.objs.size a (Nat.ne_of_lt (Heap.lt_size ho)) xs.toArray
    simpa using this
  · exact ⟨⟨_, Heap.get?_push_size _ rfl, rfl, rfl⟩, ⟨_, push_le _ _ _ _ ho, rfl, _, rfl⟩⟩
  · rintro i h' ⟨hi, hl⟩ b hb
    simp at hb
    rcases hb with rfl | rfl
    · obtain ⟨_, e, _⟩ := hi; exact ⟨_, e⟩
    · obtain ⟨o, e, _⟩ := hl; exact ⟨o, e⟩
  · simpa using fresh_size h
  · intro z hz hn
    simp at hz hn
    rcases hz with e | e
    · exact absurd e hn
    · exact ⟨_, e ▸ ho⟩

theorem cwt0 {M : Model} {pos : Pos} {T : String} {s : Shared} (h : wpAny M A (call (.type T) []) Q E s) : wpAny M A (callWith pos (.type T) [] [] []) Q E s := PySem.callWith_type rfl (evalArgs_nil3 h)
theorem cwt1 {M : Model} {pos : Pos} {T : String} {u : Sem Value} {s : Shared} (h : wpAny M A u (fun v s₁ => wpAny M A (call (.type T) [v]) Q E s₁) E s) : wpAny M A (callWith pos (.type T) [] [(false, u)] []) Q E s :=
  PySem.callWith_type rfl (evalArgs_plain (spliced_cons (wpAny_mono h (fun _ _ h₁ => spliced_nil h₁) fun _ _ e => e)))
theorem cwt2 {M : Model} {pos : Pos} {T : String} {u v : Sem Value} {s : Shared} (h : wpAny M A u (fun a s₁ => wpAny M A v (fun b s₂ => wpAny M A (call (.type T) [a, b]) Q E s₂) E s₁) E s) : wpAny M A (callWith pos (.type T) [] [(false, u), (false, v)] []) Q E s :=
  PySem.callWith_type rfl (evalArgs_plain (spliced_cons (wpAny_mono h (fun _ _ h₁ => spliced_cons (wpAny_mono h₁ (fun _ _ h₂ => spliced_nil h₂) fun _ _ e => e)) fun _ _ e => e)))

theorem b_range (P : Params) : nsIn (KK P) mainGlobals (Str.ofString "range") = some none := by kernel_rfl
theorem bb_range : bootBuiltins (Str.ofString "range") = some (.type "range") := by kernel_rfl

/-- range(4), and the walk over it -/
theorem it_range4 {b : Heap} {env : Env} {p p' pos : Pos} {k0 : Nat} (S : Sys w b) (l : Le b h) (hh : A.handled = none)
    (k : ∀ h' it tk, IterAt prog w A h h' it 4 (fun i v => ∃ u, v = .int (i : Int) u) → Q it ⟨h', g, d, tk, os⟩)
    (hk : env.scope.kind = .function := by rfl) (hx : env.kindOf (Str.ofString "range") = some .globalImplicit := by rfl) (hg : env.globals = mainGlobals := by rfl) (hbi : env.builtins = builtinsNs := by rfl) :
    wpAny (model prog w) A (eval (.Call (.Name (Str.ofString "range") p) [.Constant (.int 4) k0 p'] [] pos) env) (fun xv s₁ => wpAny (model prog w) A (pyIter xv) Q E s₁) E ⟨h, g, d, t, os⟩ := by
  refine ncall (bname S l (b_range _) bb_range (by decide) ?_ hk hx hg hbi)
  refine cwt1 (ci (k := k0) (pos := p') fun u u' => ?_)
  refine call_range_1 ?_
  refine wpAny_pyIter_range (Heap.get?_push_size _ rfl) (by decide) ?_
  have e : Builtin.Range.rangeSize 0 4 1 = ((4 : Nat) : Int) := by decide
  rw [e]
  dsimp only
  have l1 := push_le h { cls := .type "range", data := .fields #[.int 0 u', .int 4 u, .int 1 (u' + 1)] }
  generalize h.push { cls := .type "range", data := .fields #[.int 0 u', .int 4 u, .int 1 (u' + 1)] } = h₂ at *
  refine k _ _ _ ⟨h₂.objs.size, [h₂.objs.size], [h₂.objs.size], (fun i h' => IsRangeIter h' h₂.objs.size (0 + (i : Nat) * 1) (((4 : Nat) : Int) - (i : Nat)) 1), rfl, ?_, Heap.get?_push_size _ rfl, ?_, ?_, ?_, l1.trans (push_le _ _)⟩
  · have := Walks.range (prog := prog) (w := w) hh h₂.objs.size 0 1 4
    simpa using this
  · intro i h' hi b hb
    simp at hb
    exact ⟨_, hb ▸ hi⟩
  · simp only [List.mem_singleton, forall_eq]
    exact l1.fresh (fresh_size _)
  · intro z hz hn
    exact absurd hz hn
end
end Mine
end

section
open PySem PySem.W PySem.Calls PyProof.Rows Builtin Builtin.ObjectAttr
set_option maxRecDepth 100000
namespace Mine
section
variable {prog : Program} {w : World} {A : Around} {E : Value → Shared → Prop} {env : Env}

/-- what a body may end in -/
abbrev After (Q : Flow → Shared → Prop) (N : Shared → Prop) (f : Flow) (s : Shared) : Prop := match f with
  | .next | .cont => N s
  | .brk => Q .next s
  | .ret v => Q (.ret v) s

/-- for x in a list -/
theorem for_list {x : Str} {px pos : Pos} {iter : Expr} {body : List Stmt} {s : Shared} {Q : Flow → Shared → Prop} (hh : A.handled = none)
    (h : wpAny (model prog w) A (eval iter env) (fun xv s₁ => ∃ h g d t os a xs n X, s₁ = ⟨h, g, d, t, os⟩ ∧ xv = .ref a ∧ h.get? a = some (listO (List.toArray xs) n) ∧ a ∉ X ∧ (∀ p ∈ X, ∃ o, h.get? p = some o) ∧
      ∀ I, h.get? I = none → ∃ J : Nat → Heap → Prop, (∀ h', Le h h' → J 0 h') ∧ (∀ i h₁ h₂, J i h₁ → Ext [I] h₁ h₂ → J i h₂) ∧
        (∀ i v h₁ tk E', xs[i]? = some v → J i h₁ → wpAny (model prog w) A (storeName env x v) (fun _ s₂ => wpAny (model prog w) A (execs body env) (After Q fun s₃ => ∃ h₃ tk₃, s₃ = ⟨h₃, g, d, tk₃, os⟩ ∧ Ext X h₁ h₃ ∧ J (i + 1) h₃) E' s₂) E' ⟨h₁, g, d, tk, os⟩) ∧
        (∀ h₁ tk, J xs.length h₁ → Q .next ⟨h₁, g, d, tk, os⟩)) E s)
    (hs : ∀ x, foldedSetIterable iter env x = pure x := by intro _; rfl) :
    wpAny (model prog w) A (exec (.For (.Name x px) iter body [] pos) env) Q E s := by
  refine wpAny_For (wpAny_mono h (fun xv s₁ h₁ => ?_) fun _ _ e => e) hs
  obtain ⟨h, g, d, t, os, a, xs, n, X, rfl, rfl, ho, haX, hX, h₁⟩ := h₁
  refine wpAny_pyIter_list ⟨_, ho, rfl, _, rfl⟩ ?_
  dsimp only
  have l1 : Le h (h.push { cls := .type "list_iterator", data := .fields #[.ref a, .int 0 0] }) := push_le _ _
  have hi : Heap.IsListIter (h.push { cls := .type "list_iterator", data := .fields #[.ref a, .int 0 0] }) h.objs.size a 0 := ⟨_, Heap.get?_push_size _ rfl, rfl, rfl⟩
  have hI := fresh_size h
  generalize h.push { cls := .type "list_iterator", data := .fields #[.ref a, .int 0 0] } = h' at *
  generalize h.objs.size = I at *
  obtain ⟨J, J0, Jk, Jt, Jd⟩ := h₁ I hI
  have haI : a ≠ I := fun e => not_some hI ⟨_, e ▸ ho⟩
  have hIX : I ∉ X := fun hm => not_some hI (hX _ hm)
  refine codeAny_forLoop (fun k s' => ∃ i h' tk, s' = ⟨h', g, d, tk, os⟩ ∧ h'.IsListIter I a i ∧ h'.IsList a xs.toArray ∧ J i h' ∧ i ≤ xs.length ∧ k = xs.length + 1 - i) ?_ (xs.length + 1)
    ⟨0, h', t, rfl, hi, ⟨_, l1 _ _ ho, rfl, _, rfl⟩, J0 h' l1, Nat.zero_le _, rfl⟩
  rintro k s' ⟨i, h₂, tk, rfl, hit, hl, hJ, hin, rfl⟩
  by_cases hlt : i < xs.length
  · have hv : xs.toArray[i]? = some xs[i] := by simp [hlt]
    refine wpAny_pyNext_list_item hit hl hv fun hN hit₃ hs₃ => ?_
    refine wpAny_assign_Name (wpAny_mono (Jt i xs[i] hN _ _ (by simp [hlt]) (Jk _ _ _ hJ (Ext.of_sameBut hs₃))) (fun _ s₂ h₂ => wpAny_mono h₂ (fun f s₃ h₃ => ?_) fun _ _ e => e) fun _ _ e => e)
    have nx : ∀ h₅ tk₅, Ext X hN h₅ → J (i + 1) h₅ → ∃ m, m < xs.length + 1 - i ∧ ∃ i h' tk, (⟨h₅, g, d, tk₅, os⟩ : Shared) = ⟨h', g, d, tk, os⟩ ∧ h'.IsListIter I a i ∧ h'.IsList a xs.toArray ∧ J i h' ∧ i ≤ xs.length ∧ m = xs.length + 1 - i := fun h₅ tk₅ x₅ J₅ => by
      refine ⟨xs.length + 1 - (i + 1), by omega, i + 1, h₅, tk₅, rfl, ?_, ?_, J₅, hlt, rfl⟩
      · obtain ⟨o, ho, r⟩ := hit₃; exact ⟨o, x₅ _ _ hIX ho, r⟩
      · obtain ⟨o, ho, r⟩ := hl; exact ⟨o, x₅ _ _ haX (hs₃.extBut _ _ haI ho), r⟩
    cases f with
    | next => obtain ⟨h₅, tk₅, rfl, x₅, J₅⟩ := h₃; exact nx h₅ tk₅ x₅ J₅
    | cont => obtain ⟨h₅, tk₅, rfl, x₅, J₅⟩ := h₃; exact nx h₅ tk₅ x₅ J₅
    | brk => exact h₃
    | ret v => exact h₃
  · have hie : i = xs.length := by omega
    subst hie
    refine wpAny_pyNext_list_end hh hit hl (by simp) fun h₃ he₃ => wpAny_execs_nil ?_
    exact Jd h₃ _ (Jk _ _ _ hJ (fun p o hp e => he₃ p o (by simpa using hp) e))
end
end Mine
end

section
open PySem PySem.W PySem.Calls PyProof.Rows Builtin Builtin.ObjectAttr
set_option maxRecDepth 100000
namespace Mine

theorem b_zip (P : Params) : nsIn (KK P) mainGlobals (Str.ofString "zip") = some none := by kernel_rfl
theorem bb_zip : bootBuiltins (Str.ofString "zip") = some (.type "zip") := by kernel_rfl

section
variable {prog : Program} {w : World} {A : Around} {E : Value → Shared → Prop} {env : Env}

/-- assignment to two names -/
theorem asg2 {x y : Str} {px py pos : Pos} {k0 : Nat} {T : Addr} {u v : Value} {h : Heap} {g : Array GenState} {d : Drawn} {t : Nat} {os : OsState} {Q : Unit → Shared → Prop} (hh : A.handled = none) (hT : h.IsTuple T #[u, v])
    (k : ∀ h', Le h h' → wpAny (model prog w) A (storeName env x u) (fun _ s₂ => wpAny (model prog w) A (storeName env y v) Q E s₂) E ⟨h', g, d, t, os⟩) :
    wpAny (model prog w) A (assign (.Tuple [.Name x px, .Name y py] k0 pos) env (.ref T)) Q E ⟨h, g, d, t, os⟩ := by
  refine wpAny_assign_Tuple hh hT rfl rfl fun h' hx => ?_
  have l : Le h h' := fun p o e => hx p o (Nat.ne_of_lt (Heap.lt_size e)) e
  refine wpAny_bind (wpAny_holding (wpAny_assign_Name (wpAny_mono (k h' l) (fun _ s₂ h₂ => ?_) fun _ _ e => e)))
  exact wpAny_bind (wpAny_holding (wpAny_assign_Name (wpAny_mono h₂ (fun _ s₃ h₃ => wpAny_pure h₃) fun _ _ e => e)))

/-- a zip of two lists, as a walk -/
theorem zip_start {l1 l2 : Addr} {xs ys : List Value} {n1 n2 : Nat} {h : Heap} {g : Array GenState} {d : Drawn} {t : Nat} {os : OsState} {Q : Value → Shared → Prop} (hh : A.handled = none) (h1 : h.get? l1 = some (listO xs.toArray n1)) (h2 : h.get? l2 = some (listO ys.toArray n2))
    (k : ∀ z wr St Mid h', WalksT prog w A z (wr ++ [h.objs.size + 2, l1, l2]) wr (min xs.length ys.length) (fun i vals => ∃ x y, xs[i]? = some x ∧ ys[i]? = some y ∧ vals = #[x, y]) St Mid → St 0 h' → Le h h' → (∀ p ∈ wr, h.get? p = none) →
      h.get? (h.objs.size + 2) = none → (∀ i h', St i h' → ∀ b ∈ wr ++ [h.objs.size + 2, l1, l2], ∃ o, h'.get? b = some o) → Q (.ref z) ⟨h', g, d, t, os⟩) :
    wpAny (model prog w) A (call (.type "zip") [.ref l1, .ref l2]) (fun v s => wpAny (model prog w) A (pyIter v) Q E s) E ⟨h, g, d, t, os⟩ := by
  refine call_zip_2 (xs := xs.toArray) (ys := ys.toArray) ⟨_, h1, rfl, _, rfl⟩ ⟨_, h2, rfl, _, rfl⟩ fun h' a1 a2 a3 a4 a5 a6 a7 => ?_
  refine wpAny_pyIter_zip a1 ?_
  dsimp only at a1 a2 a3 a4 a5 a6 a7 ⊢
  have hlt1 : l1 < h.objs.size := Heap.lt_size h1
  have hlt2 : l2 < h.objs.size := Heap.lt_size h2
  generalize hS : h.objs.size = S at *
  have nl1 : ∀ c : Nat, S ≤ c → l1 ≠ c := fun c hc => Nat.ne_of_lt (Nat.lt_of_lt_of_le hlt1 hc)
  have nl2 : ∀ c : Nat, S ≤ c → l2 ≠ c := fun c hc => Nat.ne_of_lt (Nat.lt_of_lt_of_le hlt2 hc)
  have nn : ∀ a b : Nat, a ≠ b → S + a ≠ S + b := fun a b e q => e (Nat.add_left_cancel q)
  have D : ZipApart (S + 4) (S + 2) (S + 3) S (S + 1) l1 l2 := ⟨nn 2 4 (by decide), nn 3 4 (by decide), nn 0 4 (by decide), nn 1 4 (by decide), nn 2 3 (by decide), nn 2 0 (by decide), nn 2 1 (by decide), nn 3 0 (by decide), nn 3 1 (by decide), nn 0 1 (by decide),
    nl1 _ (Nat.le_add_right _ _), nl1 _ (Nat.le_add_right _ _), nl1 _ (Nat.le_refl _), nl1 _ (Nat.le_add_right _ _), nl2 _ (Nat.le_add_right _ _), nl2 _ (Nat.le_add_right _ _), nl2 _ (Nat.le_refl _), nl2 _ (Nat.le_add_right _ _)⟩
  have hge : ∀ c : Nat, S ≤ c → h.get? c = none := fun c hc => by
    cases e : h.get? c with
    | none => rfl
    | some o => exact absurd (Heap.lt_size e) (Nat.not_lt.mpr (hS ▸ hc))
  have W := WalksT.zip2 (prog := prog) (w := w) hh (S + 4) (S + 2) (S + 3) S (S + 1) l1 l2 D xs.toArray ys.toArray
  refine k (S + 4) [S + 4, S + 3, S, S + 1] _ _ h' ⟨fun b hb => by simp at hb ⊢; rcases hb with rfl | rfl | rfl | rfl <;> simp, fun i h h' st hk => W.frame i h h' st fun b hb o e => hk b (by simp at hb ⊢; rcases hb with rfl | rfl | rfl | rfl | rfl | rfl | rfl <;> simp) o e, by simpa using W.item, W.go, W.apart, by simpa using W.done, W.self⟩
    ⟨a1, a2, ⟨_, _, a3⟩, a4, a5, ⟨_, a7 _ _ h1, rfl, _, rfl⟩, ⟨_, a7 _ _ h2, rfl, _, rfl⟩⟩ (fun p o e => a7 p o e) (fun p hp => ?_) (hge _ (Nat.le_add_right _ _)) fun i h st b hb => ?_
  · simp at hp
    rcases hp with rfl | rfl | rfl | rfl <;> exact hge _ (by first | exact Nat.le_refl _ | exact Nat.le_add_right _ _)
  · obtain ⟨b1, b2, ⟨_, _, b3⟩, b4, b5, ⟨_, b6, _⟩, ⟨_, b7, _⟩⟩ := st
    simp at hb
    rcases hb with rfl | rfl | rfl | rfl | rfl | rfl | rfl
    · exact ⟨_, b1⟩
    · exact ⟨_, b3⟩
    · obtain ⟨_, e, _⟩ := b4; exact ⟨_, e⟩
    · obtain ⟨_, e, _⟩ := b5; exact ⟨_, e⟩
    · exact ⟨_, b2⟩
    · exact ⟨_, b6⟩
    · exact ⟨_, b7⟩

/-- for x, y in zip(e1, e2) -/
theorem for_zip {x y : Str} {px py pt pz pc pos : Pos} {k0 : Nat} {e1 e2 : Expr} {body : List Stmt} {b : Heap} {s : Shared} {Q : Flow → Shared → Prop} (hh : A.handled = none) (S : Sys w b) (lb : Le b s.heap)
    (h : wpAny (model prog w) A (eval e1 env) (fun v1 s₁ => wpAny (model prog w) A (eval e2 env) (fun v2 s₂ => ∃ h g d t os l1 l2 xs ys n1 n2 X, s₂ = ⟨h, g, d, t, os⟩ ∧ v1 = .ref l1 ∧ v2 = .ref l2 ∧ h.get? l1 = some (listO (List.toArray xs) n1) ∧ h.get? l2 = some (listO (List.toArray ys) n2) ∧
      l1 ∉ X ∧ l2 ∉ X ∧ (∀ p ∈ X, ∃ o, h.get? p = some o) ∧
      ∃ J : Nat → Heap → Prop, (∀ h', Le h h' → J 0 h') ∧ (∀ i h₁ h₂ W, (∀ p ∈ W, h.get? p = none) → J i h₁ → Ext W h₁ h₂ → J i h₂) ∧
        (∀ i u v h₁ tk E', xs[i]? = some u → ys[i]? = some v → J i h₁ → wpAny (model prog w) A (storeName env x u) (fun _ s₂ => wpAny (model prog w) A (storeName env y v) (fun _ s₃ => wpAny (model prog w) A (execs body env)
            (After Q fun s₄ => ∃ h₄ tk₄, s₄ = ⟨h₄, g, d, tk₄, os⟩ ∧ Ext X h₁ h₄ ∧ J (i + 1) h₄) E' s₃) E' s₂) E' ⟨h₁, g, d, tk, os⟩) ∧
        (∀ h₁ tk, J (min xs.length ys.length) h₁ → Q .next ⟨h₁, g, d, tk, os⟩)) E s₁) E s)
    (hk : env.scope.kind = .function := by rfl) (hx : env.kindOf (Str.ofString "zip") = some .globalImplicit := by rfl) (hg : env.globals = mainGlobals := by rfl) (hbi : env.builtins = builtinsNs := by rfl)
    (hs : ∀ xx, foldedSetIterable (.Call (.Name (Str.ofString "zip") pz) [e1, e2] [] pc) env xx = pure xx := by intro _; rfl)
    (hb : backTo pc (starEach [e1, e2] env) = [(false, eval e1 env), (false, eval e2 env)] := by rfl) :
    wpAny (model prog w) A (exec (.For (.Tuple [.Name x px, .Name y py] k0 pt) (.Call (.Name (Str.ofString "zip") pz) [e1, e2] [] pc) body [] pos) env) Q E s := by
  refine wpAny_For (ncall (bname S lb (b_zip _) bb_zip (by decide) ?_ hk hx hg hbi)) hs
  rw [hb]
  refine cwt2 (wpAny_mono h (fun v1 s₁ h₁ => wpAny_mono h₁ (fun v2 s₂ h₂ => ?_) fun _ _ e => e) fun _ _ e => e)
  obtain ⟨h, g, d, t, os, l1, l2, xs, ys, n1, n2, X, rfl, rfl, rfl, o1, o2, x1, x2, hX, J, J0, Jk, Jt, Jd⟩ := h₂
  refine zip_start hh o1 o2 fun z wr St Mid h' W st l0 hw hw2 hlv => ?_
  have fpX : ∀ b ∈ wr ++ [h.objs.size + 2, l1, l2], b ∉ X := fun b hb hm => by
    rcases List.mem_append.mp hb with hb | hb
    · exact not_some (hw b hb) (hX b hm)
    · simp at hb
      rcases hb with rfl | rfl | rfl
      · exact not_some hw2 (hX _ hm)
      · exact x1 hm
      · exact x2 hm
  refine codeAny_forLoop_any (fun k s' => ∃ i h' tk, s' = ⟨h', g, d, tk, os⟩ ∧ St i h' ∧ J i h' ∧ i ≤ min xs.length ys.length ∧ k = min xs.length ys.length + 1 - i) ?_ (min xs.length ys.length + 1)
    ⟨0, h', t, rfl, st, J0 h' l0, Nat.zero_le _, rfl⟩
  rintro k s' ⟨i, h₂, tk, rfl, hst, hJ, hin, rfl⟩
  by_cases hlt : i < min xs.length ys.length
  · refine W.item i _ _ _ hlt hst fun T vals h₃ tk₃ ⟨u, v, hu, hv, hvals⟩ hTn hT hm hk₃ => ?_
    subst hvals
    refine W.go _ _ _ i T _ _ _ hm fun h₄ hst₄ hk₄ => ?_
    have hT₄ : h₄.IsTuple T #[u, v] := hT.at fun o e => hk₄ T o (W.apart i T _ hm) e
    refine asg2 hh hT₄ fun h₅ l₅ => ?_
    have J₅ : J i h₅ := Jk _ _ _ [] (by simp) (Jk _ _ _ wr hw (Jk _ _ _ wr hw hJ (fun p o hp e => hk₃ p o hp e)) (fun p o hp e => hk₄ p o hp e)) (Ext.of_le l₅)
    have st₅ := W.frame _ _ _ hst₄ (fun b _ o e => l₅ b o e)
    refine wpAny_mono (Jt i u v h₅ _ _ hu hv J₅) (fun _ s₂ h₂ => wpAny_mono h₂ (fun _ s₃ h₃ => wpAny_mono h₃ (fun f s₄ h₄ => ?_) fun _ _ e => e) fun _ _ e => e) fun _ _ e => e
    have nx : ∀ h₆ tk₆, Ext X h₅ h₆ → J (i + 1) h₆ → ∃ m, m < min xs.length ys.length + 1 - i ∧ ∃ i h' tk, (⟨h₆, g, d, tk₆, os⟩ : Shared) = ⟨h', g, d, tk, os⟩ ∧ St i h' ∧ J i h' ∧ i ≤ min xs.length ys.length ∧ m = min xs.length ys.length + 1 - i := fun h₆ tk₆ x₆ J₆ =>
      ⟨min xs.length ys.length + 1 - (i + 1), by omega, i + 1, h₆, tk₆, rfl, W.frame _ _ _ st₅ (fun b hb o e => x₆ b o (fpX b hb) e), J₆, hlt, rfl⟩
    cases f with
    | next => obtain ⟨h₆, tk₆, rfl, x₆, J₆⟩ := h₄; exact nx h₆ tk₆ x₆ J₆
    | cont => obtain ⟨h₆, tk₆, rfl, x₆, J₆⟩ := h₄; exact nx h₆ tk₆ x₆ J₆
    | brk => exact h₄
    | ret v => exact h₄
  · have hie : i = min xs.length ys.length := by omega
    subst hie
    refine W.done _ _ _ hst fun h₃ tk₃ hk₃ => wpAny_execs_nil ?_
    exact Jd h₃ _ (Jk _ _ _ wr hw hJ (fun p o hp e => hk₃ p o hp e))
end
end Mine
end

section
open PySem PySem.W PySem.Calls PyProof.Rows Builtin Builtin.ObjectAttr
set_option maxRecDepth 100000
namespace Mine
section
variable {prog : Program} {w : World} {A : Around} {E : Value → Shared → Prop} {env : Env}

/-- [elt for x, y in zip(e1, e2) if c], elements that stand for themselves -/
theorem comp_zip {elt c : Expr} {x y : Str} {px py pt pz pc pos : Pos} {k0 : Nat} {e1 e2 : Expr} {scope : Scope} {b : Heap} {s : Shared} {Q : Value → Shared → Prop} (F : Value × Value → Value → Prop) (ok? : Value × Value → Bool) (hh : A.handled = none) (S : Sys w b) (lb : Le b s.heap)
    (hclos : closureFor scope env = pure [])
    (hcell : ∀ y ∈ scope.names, y.2 ≠ .cell)
    (hnames : ∀ y ∈ scope.names, y.2 = .local → scope.names.lookup y.1 = some .local) (hlx : scope.names.lookup x = some .local) (hly : scope.names.lookup y = some .local) (hxy : x ≠ y)
    (h : wpAny (model prog w) A (eval e1 env) (fun v1 s₁ => wpAny (model prog w) A (eval e2 env) (fun v2 s₂ => ∃ h g d t os l1 l2 xs ys n1 n2, s₂ = ⟨h, g, d, t, os⟩ ∧ v1 = .ref l1 ∧ v2 = .ref l2 ∧ h.get? l1 = some (listO (List.toArray xs) n1) ∧ h.get? l2 = some (listO (List.toArray ys) n2) ∧ min xs.length ys.length ≤ 1000 ∧
        (∀ (i : Nat) u v C m h₁ tk E', xs[i]? = some u → ys[i]? = some v → Le h h₁ → h₁.Ns C m → m x = some u → m y = some v →
          wpAny (model prog w) A (isTrue c (compEnvC scope [] C env) (eval c (compEnvC scope [] C env))) (fun ok s₄ => ok = ok? (u, v) ∧ ∃ h' tk', s₄ = ⟨h', g, d, tk', os⟩ ∧ Le h₁ h' ∧
            (ok = true → wpAny (model prog w) A (eval elt (compEnvC scope [] C env)) (fun r s₅ => ∃ h'' tk'', s₅ = ⟨h'', g, d, tk'', os⟩ ∧ Le h' h'' ∧ F (u, v) r) E' s₄)) E' ⟨h₁, g, d, tk, os⟩) ∧
        (∀ D h₂ tk rs n', Paired F ((xs.zip ys).filter ok?) rs → Le h h₂ → h.get? D = none → h₂.get? D = some (listO rs.toArray n') → Q (.ref D) ⟨h₂, g, d, tk, os⟩)) E s₁) E s)
    (hkind : scope.kind = .function := by rfl)
    (hk : env.scope.kind = .function := by rfl) (hx : env.kindOf (Str.ofString "zip") = some .globalImplicit := by rfl) (hg : env.globals = mainGlobals := by rfl) (hbi : env.builtins = builtinsNs := by rfl)
    (hs : ∀ xx, foldedSetIterable (.Call (.Name (Str.ofString "zip") pz) [e1, e2] [] pc) env xx = pure xx := by intro _; rfl)
    (hb : backTo pc (starEach [e1, e2] env) = [(false, eval e1 env), (false, eval e2 env)] := by rfl) :
    wpAny (model prog w) A (eval (.ListComp elt [⟨.Tuple [.Name x px, .Name y py] k0 pt, .Call (.Name (Str.ofString "zip") pz) [e1, e2] [] pc, [c], 0⟩] scope pos) env) Q E s := by
  rw [eval_ListComp]
  refine wpAny_comprehension_free (use := none) rfl hs hclos hkind hnames (ncall (bname S lb (b_zip _) bb_zip (by decide) ?_ hk hx hg hbi))
  rw [hb]
  refine cwt2 (wpAny_mono h (fun v1 s₁ h₁ => wpAny_mono h₁ (fun v2 s₂ h₂ => ?_) fun _ _ e => e) fun _ _ e => e)
  obtain ⟨h, g, d, t, os, l1, l2, xs, ys, n1, n2, rfl, rfl, rfl, o1, o2, hsz, Jt, Jd⟩ := h₂
  refine zip_start hh o1 o2 fun z wr St Mid h' W st l0 hw hw2 hlv => ?_
  refine wpAny_newObj_type (newEnv_comp fun C h₁ acc hC hacc l₁ hn hown => ?_)
  have hcl : cellsFrom (C + 1) scope.names [] = [] := by
    have : ∀ (names : List (Str × NameKind)) (n : Nat) (acc : List (Str × Addr)), (∀ y ∈ names, y.2 ≠ .cell) → cellsFrom n names acc = acc := by
      intro names
      induction names with
      | nil => intros; rfl
      | cons p r ih =>
        intro n acc hc
        obtain ⟨nm, kd⟩ := p
        unfold cellsFrom
        rw [if_neg (by simpa using hc (nm, kd) List.mem_cons_self)]
        exact ih n acc fun y hy => hc y (List.mem_cons_of_mem _ hy)
    exact this _ _ _ hcell
  rw [hcl] at hacc
  subst hacc
  have hD : h'.get? h'.objs.size = none := fresh_size h'
  have hC' : C = h'.objs.size + 1 := by rw [hC]; exact Heap.size_push ..
  have l1' : Le h' h₁ := (push_le _ _).trans l₁
  have hDget : h₁.get? h'.objs.size = some (listO [].toArray 0) := l₁ _ _ (Heap.get?_push_size _ rfl)
  have hDC : h'.objs.size ≠ C := by rw [hC']; exact Nat.ne_of_lt (Nat.lt_succ_self _)
  have hC0 : h'.get? C = none := by
    cases e : h'.get? C with
    | none => rfl
    | some o => have := Heap.lt_size e; rw [hC'] at this; exact absurd this (Nat.not_lt.mpr (Nat.le_succ _))
  generalize h'.objs.size = D at *
  have hfl : ∀ p ∈ wr ++ [h.objs.size + 2, l1, l2], ∃ o, h'.get? p = some o := hlv 0 h' st
  have fpD : ∀ p ∈ wr ++ [h.objs.size + 2, l1, l2], p ≠ D := fun p hp e => not_some hD (e ▸ hfl p hp)
  have fpC : ∀ p ∈ wr ++ [h.objs.size + 2, l1, l2], p ≠ C := fun p hp e => not_some hC0 (e ▸ hfl p hp)
  have h0D : h.get? D = none := l0.fresh hD
  have h0C : h.get? C = none := l0.fresh hC0
  have loop : codeAny (model prog w) A (.compLoop (.ListComp elt [⟨.Tuple [.Name x px, .Name y py] k0 pt, .Call (.Name (Str.ofString "zip") pz) [e1, e2] [] pc, [c], 0⟩] scope pos) 0 (.ref z) (.ref D) (compEnvC scope [] C env)) (compPost (model prog w) A E none Q (.ref D) C) ⟨h₁, g, d, t, os⟩ := by
    refine kct_loop (fun k s' => ∃ i acc h' tk n', s' = ⟨h', g, d, tk, os⟩ ∧ St i h' ∧ Le h h' ∧ (∃ m, h'.Ns C m) ∧ Paired F ((((xs.zip ys).take i)).filter ok?) acc ∧ h'.get? D = some (listO (List.toArray acc) n') ∧ i ≤ min xs.length ys.length ∧ k = min xs.length ys.length + 1 - i) ?_ (min xs.length ys.length + 1)
      ⟨0, [], h₁, t, 0, rfl, W.frame _ _ _ st (fun b _ o e => l1' b o e), l0.trans l1', ⟨_, hn⟩, by simpa using Paired.nil, hDget, Nat.zero_le _, rfl⟩
    rintro k s' ⟨i, acc, h₂, tk, n', rfl, hst, lh, ⟨m, hnC⟩, hF, hDg, hin, rfl⟩
    have hwD : D ∉ wr := fun hm => fpD D (List.mem_append_left _ hm) rfl
    have hwC : C ∉ wr := fun hm => fpC C (List.mem_append_left _ hm) rfl
    by_cases hlt : i < min xs.length ys.length
    · refine W.item i _ _ _ hlt hst fun T vals h₃ tk₃ ⟨u, v, hu, hv, hvals⟩ hTn hT hm hk₃ => ?_
      subst hvals
      refine W.go _ _ _ i T _ _ _ hm fun h₄ hst₄ hk₄ => ?_
      have hT₄ : h₄.IsTuple T #[u, v] := hT.at fun o e => hk₄ T o (W.apart i T _ hm) e
      refine asg2 hh hT₄ fun h₅ l₅ => ?_
      have e35 : Ext wr h₂ h₅ := fun p o hp e => l₅ p o (hk₄ p o hp (hk₃ p o hp e))
      have lh₅ : Le h h₅ := e35.base lh hw
      have hn₅ := ns_ext hnC e35 hwC
      have D₅ := e35 _ _ hwD hDg
      have st₅ := W.frame _ _ _ hst₄ (fun b _ o e => l₅ b o e)
      refine stl hn₅ (fun h₆ hn₆ x₆ => ?_) (lookup_relabel_local hlx) (by simp [compEnvC, relabel, hkind])
      refine stl hn₆ (fun h₇ hn₇ x₇ => ?_) (lookup_relabel_local hly) (by simp [compEnvC, relabel, hkind])
      have x57 : Ext [C] h₅ h₇ := x₆.trans x₇ (by simp)
      have lh₇ : Le h h₇ := x57.base lh₅ (by simpa using h0C)
      have st₇ := W.frame _ _ _ st₅ (fun b hb o e => x57 b o (by simpa using fpC b hb) e)
      have D₇ := x57 _ _ (by simpa using hDC) D₅
      refine wpAny_mono (Jt i u v C _ h₇ _ _ hu hv lh₇ hn₇ (by simp [updM, hxy]) (by simp [updM])) (fun ok s₄ h₄ => ?_) fun _ _ e => e
      obtain ⟨hok, h₈, tk₈, rfl, l₈, helt⟩ := h₄
      have hz : (xs.zip ys)[i]? = some (u, v) := by rw [List.getElem?_zip_eq_some]; exact ⟨hu, hv⟩
      have ht : ((xs.zip ys).take (i + 1)).filter ok? = ((xs.zip ys).take i).filter ok? ++ (if ok? (u, v) then [(u, v)] else []) := take_succ_filter _ _ _ _ hz
      cases ok with
      | false =>
        rw [if_neg (by decide)]
        refine ⟨min xs.length ys.length + 1 - (i + 1), by omega, i + 1, acc, h₈, tk₈, n', rfl, W.frame _ _ _ st₇ (fun b _ o e => l₈ b o e), lh₇.trans l₈, ⟨_, hn₇.keeps l₈⟩, ?_, l₈ _ _ D₇, hlt, rfl⟩
        rw [ht, ← hok]; simpa using hF
      | true =>
        rw [if_pos rfl]
        refine wpAny_mono (helt rfl) (fun r s₅ h₅ => ?_) fun _ _ e => e
        obtain ⟨h₉, tk₉, rfl, l₉, hFr⟩ := h₅
        have hlen : acc.length ≤ 1000 := by
          have e1 := hF.length
          have e2 : (((xs.zip ys).take i).filter ok?).length ≤ ((xs.zip ys).take i).length := List.length_filter_le _ _
          have e3 : ((xs.zip ys).take i).length ≤ i := List.length_take_le _ _
          omega
        refine lapp (l₉ _ _ (l₈ _ _ D₇)) hlen fun ha na ea xa => ?_
        refine ⟨min xs.length ys.length + 1 - (i + 1), by omega, i + 1, acc ++ [r], ha, tk₉, na, rfl, W.frame _ _ _ st₇ (fun b hb o e => xa b o (by simpa using fpD b hb) (l₉ b o (l₈ b o e))), xa.base ((lh₇.trans l₈).trans l₉) (by simpa using h0D), ⟨_, ns_ext ((hn₇.keeps l₈).keeps l₉) xa (by simpa using hDC.symm)⟩, ?_, ea, hlt, rfl⟩
        rw [ht, ← hok]; exact Paired.snoc hF hFr
    · have hie : i = min xs.length ys.length := by omega
      subst hie
      refine W.done _ _ _ hst fun h₃ tk₃ hk₃ => ?_
      have e3 : Ext wr h₂ h₃ := fun p o hp e => hk₃ p o hp e
      have hall : (xs.zip ys).take (min xs.length ys.length) = xs.zip ys := List.take_of_length_le (by simp)
      rw [hall] at hF
      refine ⟨m, ns_ext hnC e3 hwC, fun h₄ hs₄ => ?_⟩
      exact Jd D h₄ _ acc n' hF ((Ext.of_sameBut hs₄).base (e3.base lh hw) (by simpa using h0C)) h0D (hs₄.extBut _ _ hDC (e3 _ _ hwD hDg))
  exact codeAny_compStart_list loop (W.self 0 _ _ _ (W.frame _ _ _ st (fun b _ o e => l1' b o e)) loop)
end
end Mine
end

section
open PySem PySem.W PySem.Calls PyProof.Rows Builtin Builtin.ObjectAttr
set_option maxRecDepth 100000
namespace Mine

theorem w_call (C : Addr) (rest : List Value) (kw : List (Str × Value)) : (Code.builtin "type.__call__" ⟨.ref C :: rest, kw⟩).weight = 1 := by kernel_rfl
theorem u_call (C : Addr) (rest : List Value) (kw : List (Str × Value)) : (Code.builtin "type.__call__" ⟨.ref C :: rest, kw⟩).cUnits = 1 := by kernel_rfl
theorem Room.under {A : Around} {n : Nat} {C : Addr} {rest : List Value} {kw : List (Str × Value)} (R : Room A (n + 1)) : Room (A.under (.builtin "type.__call__" ⟨.ref C :: rest, kw⟩)) n :=
  ⟨R.hh, (by have := R.hd; show A.depth + (Code.builtin "type.__call__" ⟨.ref C :: rest, kw⟩).weight + n < recursionLimit; rw [w_call]; omega),
    (by have := R.hu; show A.units + (Code.builtin "type.__call__" ⟨.ref C :: rest, kw⟩).cUnits + 50 * n < cLine; rw [u_call]; omega)⟩

/-- makesIn for a class that is made by list.__new__ -/
def makesL (K : Frag) (C : Addr) : Bool := match K.lookup C with
  | some ⟨_, _, .cls cd, sl⟩ => !cd.abstract && !cd.hasDel && (sl.toList[4]?).join == some (.builtin "list.__new__") && !cd.mro.isEmpty && cd.mro.contains (.ref C) && cd.mro.contains (.type "list") &&
      specialIn K (.ref C) "__call__" == some (some (.builtin "type.__call__")) && instIn K (.ref C) (.type "type") == some true
  | _ => false
theorem mk_97 (P : Params) : makesL (KK P) 97 = true := by kernel_rfl
theorem f_init97 (P : Params) : findIn (KK P) (.ref 97) "__init__" = some (some (.ref 66)) := by kernel_rfl
theorem t_66 (P : Params) : typeIn (KK P) (.ref 66) = some (.type "function") := by kernel_rfl

structure MakesL (M : Model) (h : Heap) (C : Addr) : Prop where
  obj : ∃ oc od cd sl, h.get? C = some ⟨oc, od, .cls cd, sl⟩ ∧ cd.hasDel = false ∧ cd.mro.isEmpty = false
  made : Looks M h (Bind.madeBy (.ref C)) (some "list.__new__")
  base : Looks M h (Bind.staticBase (.ref C)) (.ref C)
  self : Looks M h (isSubtype (.ref C) (.ref C)) true
  top : Looks M h (isSubtype (.ref C) (.type "list")) true
  call : Looks M h (specialOf (.ref C) "__call__") (some (.builtin "type.__call__"))
  typ : Looks M h (isInstance (.ref C) (.type "type")) true
theorem makesL_of {K : Frag} {M : Model} {h : Heap} (X : K.In h) {C : Addr} (e : makesL K C = true) : MakesL M h C := by
  unfold makesL at e
  split at e
  · rename_i oc od cd sl ho
    simp only [Bool.and_eq_true, Bool.not_eq_true', beq_iff_eq] at e
    obtain ⟨⟨⟨⟨⟨⟨⟨e1, e2⟩, e3⟩, e4⟩, e5⟩, e6⟩, e7⟩, e8⟩ := e
    have hc : clsIn K C = some cd := by unfold clsIn; rw [ho]
    have hm : Looks M h (mroOf (.ref C)) cd.mro := (looks_clsIn X hc).andThen .now
    obtain ⟨c, l, hl⟩ : ∃ c l, cd.mro = c :: l := by cases q : cd.mro with | nil => rw [q] at e4; cases e4 | cons c l => exact ⟨c, l, rfl⟩
    have made : Looks M h (Bind.madeBy (.ref C)) (some "list.__new__") := by
      intro A Q E s k q
      unfold Bind.madeBy
      refine wpAny_bind (hm A _ E s k ?_)
      rw [hl, List.forIn_cons]
      refine wpAny_bind (wpAny_bind (wpAny_bind (wpAny_bind (wpAny_loadPart (k _ _ (X _ _ ho)) (wpAny_pure ?_)))))
      dsimp only
      rw [← Array.getElem?_toList, e3]
      exact wpAny_pure (wpAny_pure (wpAny_pure q))
    refine ⟨⟨oc, od, cd, sl, X _ _ ho, e2, e4⟩, made, ?_, looks_mroIn X ?_, looks_mroIn X ?_, looks_specialIn X e7, looks_instIn X e8⟩
    · intro A Q E s k q
      unfold Bind.staticBase
      refine wpAny_bind (hm A _ E s k ?_)
      rw [hl, List.forIn_cons]
      exact wpAny_bind (wpAny_bind (wpAny_bind (made A _ E s k (wpAny_pure (wpAny_pure (wpAny_pure q))))))
    · unfold mroIn; rw [hc, Option.bind_some, if_neg (by rw [e4]; decide), e5]
    · unfold mroIn; rw [hc, Option.bind_some, if_neg (by rw [e4]; decide), e6]
  · cases e

theorem ln_split : splitId "list.__new__" = some ("list", "__new__") := by decide +kernel
theorem ln_kind : builtinKind "list.__new__" = some .builtinFn := by decide +kernel

section
variable {prog : Program} {w : World} {A : Around} {C : Addr} {R : Result → Shared → Prop} {h : Heap} {g : Array GenState} {d : Drawn} {t : Nat} {os : OsState}
theorem new_L {x : Value} (Y : MakesL (model prog w) h C)
    (hq : R (.ok (.ret (.ref (h.objs.size + 1)))) ⟨(h.push emptyDict).push { cls := .ref C, dict := some h.objs.size, data := .seq #[] }, g, d, t, os⟩) :
    codeAny (model prog w) A (.call (.builtin "list.__new__") ⟨[.ref C, x], []⟩) R ⟨h, g, d, t, os⟩ := by
  obtain ⟨⟨oc, od, cd, sl, hC, e2, e4⟩, made, base, self, top, call, typ⟩ := Y
  refine codeAny_call_builtin_code (plainId_quiet F.plain_list_new _) ?_
  simp only [checkBuiltinCall, ln_kind, ln_split]
  have args : ∀ sig, Manifest.signature? "list.__new__" = some sig → Bind.checkArgs "list.__new__" sig ⟨[.ref C, x], []⟩ = pure () := by
    intro sig hs
    have : argsOk "list.__new__" ⟨[.ref C, x], []⟩ := by unfold argsOk; kernel_rfl
    simpa only [argsOk, hs] using this
  have fin : codeAny (model prog w) A (.builtin "list.__new__" ⟨[.ref C, x], []⟩) R ⟨h, g, d, t, os⟩ := by
    refine codeAny_builtin_stack F.entry_list_new rfl fun p st => ?_
    rw [Around.under_plainId F.plain_list_new _]
    have hown := owner_list_new
    simp only [hown]
    repeat lk
    refine nd_load (Heap.get?_push_of_some _ (Heap.get?_push_of_some _ hC)) ?_
    repeat lk
    rw [e2, if_neg (by decide)]
    have hsz : (h.push { cls := .type "dict", data := .dict #[] }).objs.size = h.objs.size + 1 := Heap.size_push ..
    repeat lk
    rw [hsz]
    exact hq
  repeat lk
  exact fin

theorem make_L {x : Value} {init : Value} (Y : MakesL (model prog w) h C) (hi : Looks (model prog w) h (typeLookup (.ref C) "__init__") (some init))
    (hb : ∀ self, Looks (model prog w) h (bindSpecial init self) (init, [self]))
    (hq : codeAny (model prog w) (A.under (.builtin "type.__call__" ⟨[.ref C, x], []⟩)) (.call init ⟨[.ref (h.objs.size + 1), x], []⟩) (InitBack (h.objs.size + 1) R) ⟨(h.push emptyDict).push { cls := .ref C, dict := some h.objs.size, data := .seq #[] }, g, d, t, os⟩) :
    codeAny (model prog w) A (.call (.ref C) ⟨[x], []⟩) R ⟨h, g, d, t, os⟩ := by
  have Y' := Y
  obtain ⟨⟨oc, od, cd, sl, hC, e2, e4⟩, made, base, self, top, call, typ⟩ := Y
  refine codeAny_of_tree ?_
  show wpAny _ _ (callAny (.ref C) _) _ _ _
  refine nd_load hC ?_
  show wpAny _ _ (callAny.viaDunder (.ref C) _) _ _ _
  unfold callAny.viaDunder
  refine wpAny_bind (call.at ?_)
  dsimp only
  rw [tc_bind]
  refine wpAny_bind (wpAny_pure (wpAny_bind (wpAny_pure ?_)))
  refine wpAny_pure (a := Fin.again (.call (.builtin "type.__call__") ⟨[.ref C, x], []⟩)) (And.intro rfl ?_)
  refine codeAny_call_builtin_at (Code.quiet_builtin _ (by decide +kernel)) entry_typeCall (check_slot tc_kind tc_split typ (tc_args _ _ _) ?_)
  unfold Builtin.«type.__call__»
  have hm : Looks (model prog w) h (mroOf (.ref C)) cd.mro := ((Looks.ld (part := none) hC).andThen .now).andThen .now
  repeat (first | simp only [e4, Bool.false_eq_true, if_false] | with_reducible refine wpAny_call ?_ | lk)
  refine new_L Y' ?_
  have k : ∀ b o, h.get? b = some o → ((h.push emptyDict).push { cls := .ref C, dict := some h.objs.size, data := .seq #[] }).get? b = some o := fun b o e => Heap.get?_push_of_some _ (Heap.get?_push_of_some _ e)
  have hx : ((h.push emptyDict).push { cls := .ref C, dict := some h.objs.size, data := .seq #[] }).get? (h.objs.size + 1) = some { cls := .ref C, dict := some h.objs.size, data := .seq #[] } := by heap_get
  have t1 : Looks (model prog w) ((h.push emptyDict).push { cls := .ref C, dict := some h.objs.size, data := .seq #[] }) (typeOf (.ref (h.objs.size + 1))) (.ref C) := (Looks.ld hx).andThen .now
  have s1 := self.keeps k
  have i1 := hi.keeps k
  have b1 := (hb (.ref (h.objs.size + 1))).keeps k
  unfold isInstance callSpecial? specialOf
  repeat (first | with_reducible refine wpAny_call ?_ | lk)
  refine codeAny_mono hq fun r s' z => ?_
  rcases r with e | (v | _ | _ | _) <;> first | exact z | exact z.elim | skip
  obtain ⟨rfl, z⟩ := z
  exact wpAny_pure (wpAny_pure z)
end
end Mine
end

section
open PySem PySem.W PySem.Calls PyProof.Rows Builtin Builtin.ObjectAttr
set_option maxRecDepth 100000
namespace Mine

section
variable {prog : Program} {w : World} {A : Around} {E : Value → Shared → Prop} {h : Heap} {g : Array GenState} {d : Drawn} {t : Nat} {os : OsState} {b : Heap}

/-- x.name = v, stored in the object's own dict -/
theorem set_any {C x dx : Addr} {ox : Obj} {es : List DictEntry} {n : Nat} {name : Str} {v : Value} {mro : List Value} {Q : Unit → Shared → Prop} (S : Sys w b) (l : Le b h) (I : InstAt h x ox C (some (dictOf es n))) (hd : ox.dict = some dx) (hdx : h.get? dx = some (dictOf es n))
    (hs : findIn (KK w.params) (.ref C) "__setattr__" = some (some (.builtin "object.__setattr__"))) (hm : (clsIn (KK w.params) C).map (·.mro) = some mro) (hne : mro.isEmpty = false) (htop : mro.contains (.type "object") = true) (hr : ∀ self, refuseLoop self "__setattr__" mro = pure ())
    (ht : takerIn (KK w.params) C name = some none) (hh : hasDictIn (KK w.params) C = true) (hl : (getL name es).isSome = true) (hz : (putL name (PyData.keyHash w.params name) (.str name (t + 1)) v es).length ≤ 1000)
    (k : ∀ h' hs tk, h'.get? dx = some (dictOf (putL name hs (.str name tk) v es) (putN name es n)) → Ext [dx] h h' → Q () ⟨h', g, d, t + 2, os⟩) :
    wpAny (model prog w) A (setAttr (.ref x) name v) Q E ⟨h, g, d, t, os⟩ := by
  have X := S.X.keeps l
  obtain ⟨cd, hc, rfl⟩ := Option.map_eq_some_iff.mp hm
  have hmro : Looks (model prog w) h (mroOf (.ref C)) cd.mro := (looks_clsIn X hc).andThen .now
  refine set_plain X I hs ?_
  have SF := PySem.F.store_object
  have sub : Looks (model prog w) h (isInstance (.ref x) (.type "object")) true := I.type.andThen (looks_mroIn X (by unfold mroIn; rw [hc, Option.bind_some, if_neg (by rw [hne]; decide), htop]))
  refine codeAny_call_builtin SF.slot.plain SF.entry (@check_slot (model prog w) _ _ _ "object.__setattr__" "object" "__setattr__" (.ref x) [.str name t, v] [] _ SF.kind SF.split sub (SF.args (.ref x) (.str name t) v) ?_)
  obtain ⟨attr, ha, hr'⟩ := Option.bind_eq_some_iff.mp ht
  have L3 : Looks (model prog w) h (storeTaker? attr) none := by
    cases attr with
    | none => exact .now
    | some a =>
      obtain ⟨bb, hb, e⟩ := Option.map_eq_some_iff.mp hr'
      refine (looks_takesIn X hb).andThen ?_
      cases bb with
      | true => cases e
      | false => exact .now
  rw [osa_eq, refuse_eq]
  refine wpAny_bind (wpAny_bind (I.type.at (wpAny_bind (hmro.at ?_))))
  rw [hr]
  refine wpAny_pure (wpAny_bind (I.type.at (wpAny_bind ((looks_findIn X ha).at (wpAny_bind (L3.at ?_))))))
  obtain ⟨cd', hc', hd'⟩ := any_some (show (clsIn (KK w.params) C).any (·.hasDict) = true from hh)
  rw [hc] at hc'
  cases hc'
  obtain ⟨hx, hcl, hn, -⟩ := I
  obtain ⟨oc, odi, oda, osl⟩ := ox
  dsimp only at hcl hd
  subst hcl hd
  refine wpAny_bind (wpAny_pure (wpAny_bind (wpAny_bind (wpAny_loadPart hx (wpAny_bind ((looks_clsIn X hc).at ?_))))))
  rw [hd']
  refine wpAny_pure (a := some dx) (wpAny_bind (wpAny_pure (wpAny_bind ?_)))
  unfold nsSet
  refine wpAny_bind (wpAny_bind (wpAny_askSetting (wpAny_pure (wpAny_bind (wpAny_mkText (wpAny_bind (wpAny_loadPart hdx ?_)))))))
  rw [← lookIn_dict name es n] at hl
  have D' : (h.update dx (Obj.putName name (PyData.keyHash w.params name) (.str name (t + 1)) v)).get? dx = some (dictOf (putL name (PyData.keyHash w.params name) (.str name (t + 1)) v es) (putN name es n)) := by
    rw [Heap.get?_update_self _ hdx (by rw [putName_dict]; rfl), putName_dict]
  have c : (!es.toArray.any (·.key.isStr name) && es.toArray.any (·.refKey)) = false := by
    unfold lookIn at hl
    dsimp only at hl
    rw [← Array.any_toList, ← Array.any_toList]
    split at hl
    · rename_i en he
      rw [List.any_eq_true.mpr ⟨en, List.mem_of_find?_eq_some he, List.find?_some he⟩]; rfl
    · split at hl
      · cases hl
      · rename_i z; rw [Bool.not_eq_true] at z; rw [z, Bool.and_false]
  dsimp only
  rw [aRefKeyMayBeTheName_at, c]
  refine wpAny_updatePart hdx ?_
  refine wpAny_bind (wpAny_lookBehind D' (pastItsLine_dict (by rw [List.size_toArray, sizeLine_eq]; omega)) ?_)
  exact wpAny_pure (k _ _ _ D' (upd_ext _ _ _))
end
end Mine
end

section
open PySem PySem.W PySem.Calls PyProof.Rows Builtin Builtin.ObjectAttr
set_option maxRecDepth 100000
namespace Mine
theorem fc_list_init (P : Params) : findCls (KK P) (.type "list") (.type "type") (Str.ofString "__init__") = some (.val (.builtin "list.__init__")) := by kernel_rfl
theorem to_list : typeOf (.type "list") = pure (.type "type") := by kernel_rfl
theorem st_list : Manifest.isStub "list" = false := by decide +kernel
theorem sa_97 (P : Params) : findIn (KK P) (.ref 97) "__setattr__" = some (some (.builtin "object.__setattr__")) := by kernel_rfl
theorem mro_97 (P : Params) : (clsIn (KK P) 97).map (·.mro) = some [.ref 97, .type "list", .type "object"] := by kernel_rfl
theorem rf_97 (self : Value) : refuseLoop self "__setattr__" [.ref 97, .type "list", .type "object"] = pure () := by
  rw [refuseLoop_ref]; kernel_rfl
theorem tk_hidden (P : Params) : takerIn (KK P) 97 (Str.ofString "_hidden") = some none := by kernel_rfl
theorem tk_states (P : Params) : takerIn (KK P) 97 (Str.ofString "_states") = some none := by kernel_rfl
theorem b_list (P : Params) : nsIn (KK P) mainGlobals (Str.ofString "list") = some none := by kernel_rfl
theorem bb_list : bootBuiltins (Str.ofString "list") = some (.type "list") := by kernel_rfl

section
variable {prog : Program} {w : World} {A : Around} {E : Value → Shared → Prop} {h : Heap} {g : Array GenState} {d : Drawn} {t : Nat} {os : OsState} {b : Heap}

/-- list.__init__, as a method of the type -/
theorem meth_list_init {pl : Sem Bool} {Q : Value × List Value → Shared → Prop} (S : Sys w b) (l : Le b h) (k : Q (.builtin "list.__init__", []) ⟨h, g, d, t + 1, os⟩) :
    wpAny (model prog w) A (getMethod (.type "list") (Str.ofString "__init__") pl) Q E ⟨h, g, d, t, os⟩ := by
  have X := S.X.keeps l
  have hstub : opaqueClassAbove (.type "list") = pure none := by unfold opaqueClassAbove; dsimp only; rw [st_list]; rfl
  have L0 : Looks (model prog w) h (typeOf (.type "list")) (.type "type") := Looks.of_pure to_list
  have hg : findIn (KK w.params) (.type "type") "__getattribute__" = some (some (.builtin "type.__getattribute__")) := type_tga
  unfold getMethod specialOf
  refine wpAny_bind (wpAny_bind (L0.at ((looks_findIn X hg).at ?_)))
  dsimp only
  rw [if_pos canon_tga]
  refine wpAny_bind (wpAny_mono (Q := fun v => Q (v, [])) (E := E) ?_ (fun _ _ z => wpAny_pure z) fun _ _ z => z)
  have LO : Looks (model prog w) h (opaqueClassAbove (.type "list")) none := Looks.of_pure hstub
  refine cls_open X LO L0 hg (looks_hook X (r := none) (by rfl)) (by show subIn _ _ _ = _; rfl) (fc_list_init _) ?_
  exact wpAny_pure (by show wpAny _ _ (handedOut _) _ _ _; rw [handedOut_of (by rfl)]; exact wpAny_pure k)

/-- list.__init__(x, list), of an instance of the class 97 -/
theorem init_list {a dd q : Addr} {n nq : Nat} {od : Obj} {xs : List Value} {Q : Value → Shared → Prop} (S : Sys w b) (l : Le b h) (h1 : h.get? a = some (domO dd #[] n)) (h2 : h.get? dd = some od) (hq : h.get? q = some (listO xs.toArray nq)) (hz : xs.length ≤ 1000) (hqa : q ≠ a)
    (k : ∀ h' n', h'.get? a = some (domO dd xs.toArray n') → Ext [a] h h' → Q .none ⟨h', g, d, t, os⟩) :
    wpAny (model prog w) A (call (.builtin "list.__init__") [.ref a, .ref q]) Q E ⟨h, g, d, t, os⟩ := by
  refine dom_builtin (S.X.keeps l) h1 h2 PySem.F.slot_list_init.plain PySem.F.entry_list_init (nm := "__init__") (by decide +kernel) (by decide +kernel) (by unfold argsOk; kernel_rfl) ?_
  unfold Builtin.«list.__init__»
  dsimp only
  unfold Builtin.List.listItems
  refine wpAny_bind (wpAny_bind (wpAny_seqItems h1 rfl (wpAny_pure ?_)))
  refine wpAny_bind (wpAny_updateSeq h1 rfl (wpAny_bind (wpAny_letGo ?_)))
  have k1 : ∃ n1, (h.update a (Obj.mapSeq fun _ => #[])).get? a = some (domO dd #[] n1) := by
    rw [Heap.get?_update_self _ h1 rfl]; exact ⟨_, rfl⟩
  obtain ⟨n1, k1⟩ := k1
  have x1 := upd_ext h a (Obj.mapSeq fun _ => #[])
  dsimp only
  generalize h.update a (Obj.mapSeq fun _ => #[]) = h' at *
  have hq' := x1 _ _ (by simpa using hqa) hq
  show wpAny _ _ (Builtin.List.listExtendWith (.ref a) (.ref q) .none) _ _ _
  unfold Builtin.List.listExtendWith
  refine wpAny_bind (wpAny_bind (wpAny_load hq' (wpAny_pure ?_)))
  rw [if_pos (by simp)]
  refine wpAny_bind (wpAny_bind (wpAny_seqItems hq' rfl (wpAny_pure ?_)))
  refine wpAny_bind (wpAny_bind (wpAny_seqItems k1 rfl (wpAny_pure ?_)))
  rw [if_neg (by simp)]
  refine wpAny_bind (wpAny_updateSeq k1 rfl (wpAny_bind (wpAny_pure ?_)) (by simp) (by rw [sizeLine_eq]; simp; omega))
  have k2 : ∃ n2, (h'.update a (Obj.mapSeq fun ys => ys ++ xs.toArray)).get? a = some (domO dd xs.toArray n2) := by
    rw [Heap.get?_update_self _ k1 rfl]; unfold Obj.mapSeq; simp
  obtain ⟨n2, k2⟩ := k2
  exact wpAny_pure (k _ n2 k2 (x1.trans (upd_ext _ _ _) (by simp)))
end
end Mine
end

section
open PySem PySem.W PySem.Calls PyProof.Rows Builtin Builtin.ObjectAttr
set_option maxRecDepth 100000
namespace Mine
section
variable {M : Model} {A : Around} {E : Value → Shared → Prop} {env : Env}
/-- a list display -/
theorem ldisp {elts : List Expr} {pos : Pos} {s : Shared} {Q : Value → Shared → Prop}
    (k : wpAny M A (spliced (backTo pos (starEach elts env))) (fun vs s₁ => ∃ h g d t os, s₁ = ⟨h, g, d, t, os⟩ ∧ vs.length ≤ 1000 ∧ ∀ h' r n, h'.get? r = some (listO vs.toArray n) → h.get? r = none → Le h h' → Q (.ref r) ⟨h', g, d, t, os⟩) E s) :
    wpAny M A (eval (.List elts pos) env) Q E s := by
  have e : eval (.List elts pos) env = (do standAt pos; newList (← spliced (backTo pos (starEach elts env)))) := rfl
  rw [e]
  refine wpAny_bind (wpAny_standAt (wpAny_bind (wpAny_mono k (fun vs s₁ h₁ => ?_) fun _ _ e => e)))
  obtain ⟨h, g, d, t, os, rfl, hz, kk⟩ := h₁
  exact wpAny_newObj_type (kk _ _ _ (Heap.get?_push_size _ rfl) (fresh_size _) (push_le _ _)) (sz_small hz)
theorem lnil {pos : Pos} {h : Heap} {g : Array GenState} {d : Drawn} {t : Nat} {os : OsState} {Q : Value → Shared → Prop}
    (k : ∀ h' r n, h'.get? r = some (listO (List.toArray []) n) → h.get? r = none → Le h h' → Q (.ref r) ⟨h', g, d, t, os⟩) : wpAny M A (eval (.List [] pos) env) Q E ⟨h, g, d, t, os⟩ :=
  ldisp (spliced_nil ⟨h, g, d, t, os, rfl, by simp, k⟩)
end
section
variable {prog : Program} {w : World} {A : Around} {E : Value → Shared → Prop} {h : Heap} {g : Array GenState} {d : Drawn} {t : Nat} {os : OsState} {b : Heap}

theorem isDD_of {h1 h2 : Int} {t1 t2 : Tok} {hd sd : Addr} {n : Nat} : IsDD (dictOf [⟨h1, .str (Str.ofString "_hidden") t1, .ref hd⟩, ⟨h2, .str (Str.ofString "_states") t2, .ref sd⟩] n) hd sd where
  cls := rfl
  h := rfl
  s := rfl
  o x h1 h2 := by
    have e1 : (Value.str (Str.ofString "_hidden") t1).isStr x = false := by
      show (Str.ofString "_hidden" == x) = false
      rw [beq_eq_false_iff_ne]; exact fun e => h1 e.symm
    have e2 : (Value.str (Str.ofString "_states") t2).isStr x = false := by
      show (Str.ofString "_states" == x) = false
      rw [beq_eq_false_iff_ne]; exact fun e => h2 e.symm
    rw [lookIn_dict]
    unfold getL
    simp only [List.find?_cons, e1, e2, List.find?_nil]
    rfl

/-- Domain(list) -/
theorem dom_new {n : Nat} {q : Addr} {nq : Nat} {xs : List Value} {Q : Value → Shared → Prop} (S : Sys w b) (l : Le b h) (Rm : Room A (n + 2)) (hq : h.get? q = some (listO xs.toArray nq)) (hz : xs.length ≤ 1000)
    (k : ∀ h' tk F, Dom h' F xs [] [] → Le h h' → (∀ p ∈ F.foot, h.get? p = none) → Q (.ref F.a) ⟨h', g, d, tk, os⟩) :
    wpAny (model prog w) A (call (.ref 97) [.ref q]) Q E ⟨h, g, d, t, os⟩ := by
  have X := S.X.keeps l
  refine wpAny_call (make_L (makesL_of X (mk_97 _)) (looks_findIn X (f_init97 _)) (fun self => bind_fn X self (t_66 _)) ?_)
  have hsz : (h.push emptyDict).objs.size = h.objs.size + 1 := Heap.size_push ..
  have l2 : Le h ((h.push emptyDict).push { cls := .ref 97, dict := some h.objs.size, data := .seq #[] }) := (push_le _ _).trans (push_le _ _)
  have ga : ((h.push emptyDict).push { cls := .ref 97, dict := some h.objs.size, data := .seq #[] }).get? (h.objs.size + 1) = some (domO h.objs.size #[] 0) := by heap_get
  have gd : ((h.push emptyDict).push { cls := .ref 97, dict := some h.objs.size, data := .seq #[] }).get? h.objs.size = some (dictOf [] 0) := by heap_get
  have fd := fresh_size h
  have fa : h.get? (h.objs.size + 1) = none := by
    cases e : h.get? (h.objs.size + 1) with
    | none => rfl
    | some o => exact absurd (Heap.lt_size e) (Nat.not_lt.mpr (Nat.le_succ _))
  have hne : h.objs.size + 1 ≠ h.objs.size := Nat.succ_ne_self _
  generalize (h.push emptyDict).push { cls := .ref 97, dict := some h.objs.size, data := .seq #[] } = h₁ at *
  generalize h.objs.size + 1 = a at *
  generalize h.objs.size = dd at *
  refine ucall (n := n) S (l.trans l2) Rm.under (f := 66) (binds := [(Str.ofString "self", .ref a), (Str.ofString "values", .ref q)]) rfl (by kernel_rfl) (BindsTo.of_eq rfl) (locs rfl) (by decide) fun L h₂ E' hn l₃ hL Rm' => ?_
  have l12 : Le h h₂ := l2.trans l₃
  have lb : Le b h₂ := l.trans l12
  -- list.__init__(self, values)
  refine wpAny_execs_cons (wpAny_Expr_any (mcall (bname S lb (b_list _) bb_list (by decide) fun pl => ?_)))
  refine meth_list_init S lb ?_
  refine cw2 (ln (v := .ref a) hn rfl (ln (v := .ref q) hn rfl ?_))
  refine init_list (xs := xs) S lb (l₃ _ _ ga) (l₃ _ _ gd) (l12 _ _ hq) hz (fun e => not_some fa ⟨_, e ▸ hq⟩) fun h₃ n₃ e₃ x₃ => ?_
  have faL : a ≠ L := fun e => not_some hL ⟨_, e ▸ ga⟩
  have fdL : dd ≠ L := fun e => not_some hL ⟨_, e ▸ gd⟩
  have hba : b.get? a = none := l.fresh fa
  have hbd : b.get? dd = none := l.fresh fd
  have lb₃ : Le b h₃ := x₃.base lb (by simpa using hba)
  have lh₃ : Le h h₃ := x₃.base l12 (by simpa using fa)
  have hn₃ := ns_ext hn x₃ (by simpa using Ne.symm faL)
  have gd₃ := x₃ _ _ (by simpa using hne.symm) (l₃ _ _ gd)
  -- self._hidden = []
  refine wpAny_execs_cons (plainObj_wpAny_Assign_Attribute (lnil fun h₄ hd n₄ e₄ f₄ l₄ => ?_))
  refine ln (v := .ref a) (hn₃.keeps l₄) rfl ?_
  refine set_any S (lb₃.trans l₄) (inst_dom (l₄ _ _ e₃) (l₄ _ _ gd₃)) rfl (l₄ _ _ gd₃) (sa_97 _) (mro_97 _) rfl rfl rf_97 (tk_hidden _) (d_dict _) rfl (by simp [putL]) fun h₅ hs₅ tk₅ e₅ x₅ => ?_
  have lb₅ : Le b h₅ := x₅.base (lb₃.trans l₄) (by simpa using hbd)
  have lh₅ : Le h h₅ := x₅.base (lh₃.trans l₄) (by simpa using fd)
  have hn₅ := ns_ext (hn₃.keeps l₄) x₅ (by simpa using Ne.symm fdL)
  have ga₅ := x₅ _ _ (by simpa using hne) (l₄ _ _ e₃)
  have ndd : hd ≠ dd := fun e => not_some f₄ ⟨_, e ▸ gd₃⟩
  have nda : hd ≠ a := fun e => not_some f₄ ⟨_, e ▸ e₃⟩
  have gh₅ := x₅ _ _ (by simpa using ndd) e₄
  have fh : h.get? hd = none := lh₃.fresh f₄
  -- self._states = []
  refine wpAny_execs_cons (plainObj_wpAny_Assign_Attribute (lnil fun h₆ sd n₆ e₆ f₆ l₆ => ?_))
  refine ln (v := .ref a) (hn₅.keeps l₆) rfl ?_
  refine set_any S (lb₅.trans l₆) (inst_dom (l₆ _ _ ga₅) (l₆ _ _ e₅)) rfl (l₆ _ _ e₅) (sa_97 _) (mro_97 _) rfl rfl rf_97 (tk_states _) (d_dict _) rfl (show (2 : Nat) ≤ 1000 by decide) fun h₇ hs₇ tk₇ e₇ x₇ => ?_
  have nsd : sd ≠ dd := fun e => not_some f₆ ⟨_, e ▸ e₅⟩
  have nsh : hd ≠ sd := fun e => not_some f₆ ⟨_, e ▸ gh₅⟩
  have fs : h.get? sd = none := lh₅.fresh f₆
  refine wpAny_execs_nil ⟨rfl, ?_⟩
  refine k h₇ _ ⟨a, dd, hd, sd⟩ ⟨⟨_, x₇ _ _ (by simpa using hne) (l₆ _ _ ga₅)⟩, ⟨_, e₇, ?_⟩, ⟨_, x₇ _ _ (by simpa using ndd) (l₆ _ _ gh₅)⟩, ⟨_, x₇ _ _ (by simpa using nsd) e₆⟩, nsh⟩ (x₇.base (lh₅.trans l₆) (by simpa using fd)) ?_
  · exact isDD_of
  · intro p hp
    simp [DA.foot] at hp
    rcases hp with rfl | rfl | rfl | rfl
    · exact fa
    · exact fd
    · exact fh
    · exact fs
end
end Mine
end

section
open PySem PySem.W PySem.Calls PyProof.Rows Builtin Builtin.ObjectAttr
set_option maxRecDepth 100000
namespace Mine
section
variable {prog : Program} {w : World} {A : Around} {E : Value → Shared → Prop} {b : Heap}

/-- a call by the call form, of any object that keeps its arguments in some way -/
theorem cwg {pos : Pos} {f : Value} {first : List Value} {args : List (Bool × Sem Value)} {s : Shared} {Q : Value → Shared → Prop} (hplain : args.any (·.1) = false)
    (h : wpAny (model prog w) A (evalArgs f true args []) (fun a s₁ => (∃ kp, Looks (model prog w) s₁.heap (keeperOf f) kp) ∧ wpAny (model prog w) A (call f (first ++ a.pos) a.kw) Q E s₁) E s) :
    wpAny (model prog w) A (callWith pos f first args []) Q E s := by
  unfold callWith
  refine wpAny_bind (wpAny_holding (wpAny_mono h (fun a s₁ h₁ => wpAny_bind (wpAny_standAt ?_)) fun _ _ x => x))
  obtain ⟨⟨kp, hk⟩, h₁⟩ := h₁
  simp only [hplain, List.any_nil, Bool.or_false]
  refine wpAny_bind (hk.here ?_)
  have tail : ∀ {t : Sem Value}, wpAny (model prog w) A t Q E s₁ → wpAny (model prog w) A (t >>= fun r => holding [r] point >>= fun _ => pure r) Q E s₁ :=
    fun ht => wpAny_bind (wpAny_mono ht (fun r s₂ hr => wpAny_bind (wpAny_holding (wpAny_point (wpAny_pure hr)))) fun _ _ x => x)
  cases kp with
  | frame =>
    dsimp only
    split
    · exact tail h₁
    · exact tail (by unfold callMarked; exact wpAny_keep h₁)
  | boundFrame =>
    dsimp only
    split
    · exact tail h₁
    · exact tail (by unfold callMarked; exact wpAny_keep h₁)
  | machine => exact tail h₁
  | caller => exact tail (wpAny_operating h₁)

theorem ev0 {f : Value} {s : Shared} {Q : Args → Shared → Prop} (h : Q ⟨[], []⟩ s) : wpAny (model prog w) A (evalArgs f true [] []) Q E s := evalArgs_nil3 h
theorem ev1 {f : Value} {x : Sem Value} {s : Shared} {Q : Args → Shared → Prop} (h : wpAny (model prog w) A x (fun v s₁ => Q ⟨[v], []⟩ s₁) E s) : wpAny (model prog w) A (evalArgs f true [(false, x)] []) Q E s :=
  evalArgs_plain (spliced_cons (wpAny_mono h (fun _ _ h₁ => spliced_nil h₁) fun _ _ e => e))
theorem ev2 {f : Value} {x y : Sem Value} {s : Shared} {Q : Args → Shared → Prop} (h : wpAny (model prog w) A x (fun v s₁ => wpAny (model prog w) A y (fun v' s₂ => Q ⟨[v, v'], []⟩ s₂) E s₁) E s) : wpAny (model prog w) A (evalArgs f true [(false, x), (false, y)] []) Q E s :=
  evalArgs_plain (spliced_cons (wpAny_mono h (fun _ _ h₁ => spliced_cons (wpAny_mono h₁ (fun _ _ h₂ => spliced_nil h₂) fun _ _ e => e)) fun _ _ e => e))
theorem ev3 {f : Value} {x y z : Sem Value} {s : Shared} {Q : Args → Shared → Prop} (h : wpAny (model prog w) A x (fun v s₁ => wpAny (model prog w) A y (fun v' s₂ => wpAny (model prog w) A z (fun v'' s₃ => Q ⟨[v, v', v''], []⟩ s₃) E s₂) E s₁) E s) : wpAny (model prog w) A (evalArgs f true [(false, x), (false, y), (false, z)] []) Q E s :=
  evalArgs_plain (spliced_cons (wpAny_mono h (fun _ _ h₁ => spliced_cons (wpAny_mono h₁ (fun _ _ h₂ => spliced_cons (wpAny_mono h₂ (fun _ _ h₃ => spliced_nil h₃) fun _ _ e => e)) fun _ _ e => e)) fun _ _ e => e))
theorem ev4 {f : Value} {x y z u : Sem Value} {s : Shared} {Q : Args → Shared → Prop} (h : wpAny (model prog w) A x (fun v s₁ => wpAny (model prog w) A y (fun v' s₂ => wpAny (model prog w) A z (fun v'' s₃ => wpAny (model prog w) A u (fun v''' s₄ => Q ⟨[v, v', v'', v'''], []⟩ s₄) E s₃) E s₂) E s₁) E s) : wpAny (model prog w) A (evalArgs f true [(false, x), (false, y), (false, z), (false, u)] []) Q E s :=
  evalArgs_plain (spliced_cons (wpAny_mono h (fun _ _ h₁ => spliced_cons (wpAny_mono h₁ (fun _ _ h₂ => spliced_cons (wpAny_mono h₂ (fun _ _ h₃ => spliced_cons (wpAny_mono h₃ (fun _ _ h₄ => spliced_nil h₄) fun _ _ e => e)) fun _ _ e => e)) fun _ _ e => e)) fun _ _ e => e))

theorem kp_fn {h : Heap} {f : Addr} {oc : Value} {od : Option Addr} {fd : FuncData} {sl : Array (Option Value)} (S : Sys w b) (l : Le b h) (e : (KK w.params).lookup f = some ⟨oc, od, .func fd, sl⟩) : ∃ kp, Looks (model prog w) h (keeperOf (.ref f)) kp :=
  ⟨.frame, (Looks.ld (part := none) (l _ _ (S.X _ _ e))).andThen .now⟩
def clsAt (K : Frag) (C : Addr) : Bool := match K.lookup C with | some ⟨_, _, .cls _, _⟩ => specialIn K (.ref C) "__call__" == some (some (.builtin "type.__call__")) | _ => false
theorem kp_cls {h : Heap} {C : Addr} (S : Sys w b) (l : Le b h) (e : clsAt (KK w.params) C = true) : ∃ kp, Looks (model prog w) h (keeperOf (.ref C)) kp := by
  unfold clsAt at e
  split at e
  · rename_i oc od cd sl ho
    rw [beq_iff_eq] at e
    refine ⟨.machine, (Looks.ld (part := none) (l _ _ (S.X _ _ ho))).andThen ((looks_specialIn (S.X.keeps l) e).andThen ?_)⟩
    exact .now
  · cases e
theorem kp_inst {h : Heap} {a C dx : Addr} (e : h.get? a = some (instObj C dx)) : ∃ kp, Looks (model prog w) h (keeperOf (.ref a)) kp :=
  ⟨.caller, (Looks.ld (part := none) e).andThen .now⟩

/-- a call of an instance whose class has a __call__ of the text -/
theorem inst_call {a C dx fC : Addr} {args : List Value} {h : Heap} {g : Array GenState} {d : Drawn} {t : Nat} {os : OsState} {od : Obj} {oc : Value} {odd : Option Addr} {fd : FuncData} {sl : Array (Option Value)} {Q : Value → Shared → Prop} (S : Sys w b) (l : Le b h)
    (h1 : h.get? a = some (instObj C dx)) (h2 : h.get? dx = some od) (hs : findIn (KK w.params) (.ref C) "__call__" = some (some (.ref fC))) (ht : typeIn (KK w.params) (.ref fC) = some (.type "function")) (hl : (KK w.params).lookup fC = some ⟨oc, odd, .func fd, sl⟩)
    (k : codeAny (model prog w) A (.call (.ref fC) ⟨.ref a :: args, []⟩) (wants Q E) ⟨h, g, d, t, os⟩) : wpAny (model prog w) A (call (.ref a) args) Q E ⟨h, g, d, t, os⟩ := by
  have X := S.X.keeps l
  have I : InstAt h a (instObj C dx) C (some od) := ⟨h1, rfl, rfl, h2⟩
  refine wpAny_call (codeAny_of_tree ?_)
  show wpAny _ _ (callAny (.ref a) _) _ _ _
  refine nd_load h1 ?_
  show wpAny _ _ (callAny.viaDunder (.ref a) _) _ _ _
  unfold callAny.viaDunder specialOf
  refine wpAny_bind (wpAny_bind (I.type.at ((looks_findIn X hs).at ?_)))
  dsimp only
  refine wpAny_bind ((bind_fn X (.ref a) ht).at ?_)
  refine wpAny_bind (wpAny_bind (wpAny_load (X _ _ hl) (wpAny_pure ?_)))
  refine wpAny_pure (And.intro rfl ?_)
  exact k

/-- a call of a def of the text, as code -/
theorem uclc {n : Nat} {f : Addr} {oc : Value} {od : Option Addr} {osl : Array (Option Value)} {name qual : Str} {params : Arguments} {body : List Stmt} {scope : Scope} {dV kV doc pm cdv ct : Value} {an : Option Addr}
    {pos : List Value} {kw : List (Str × Value)} {binds : List (Str × Value)} {h : Heap} {g : Array GenState} {d : Drawn} {t : Nat} {os : OsState} {Q : Value → Shared → Prop}
    (S : Sys w b) (l : Le b h) (Rm : Room A (n + 1))
    (ho : (KK w.params).lookup f = some ⟨oc, od, .func (fnOf name qual params body scope dV kV doc pm an cdv ct), osl⟩) (hcd : codeIn (KK w.params) cdv qual = true)
    (hbind : BindsTo ⟨h, g, d, t, os⟩ (fnOf name qual params body scope dV kV doc pm an cdv ct) ⟨pos, kw⟩ binds) (hloc : ∀ y ∈ binds, scope.names.lookup y.1 = some .local)
    (hcell : ∀ x ∈ scope.names, x.2 ≠ .cell)
    (k : ∀ A L h₁ E' u, h₁.Ns L (fun x => binds.reverse.lookup x) → Le h h₁ → h.get? L = none → b.get? L = none → Le b h₁ → Room A n →
      wpAny (model prog w) A (execs body (envOf qual scope L f cdv)) (fun fl s' => Q (fv fl) s') E' ⟨h₁, g, d, u, os⟩)
    (hco : scope.isCoroutine = false := by rfl) (hgen : scope.isGenerator = false := by rfl) (hk : scope.kind = .function := by rfl) :
    codeAny (model prog w) A (.call (.ref f) ⟨pos, kw⟩) (wants Q E) ⟨h, g, d, t, os⟩ :=
  ucall S l Rm ho hcd hbind hloc hcell (fun L h₁ E' hn l₁ hL R' => wpAny_mono (k _ L h₁ E' _ hn l₁ hL (l.fresh hL) (l.trans l₁) R') (fun fl s' q => by cases fl <;> exact q) fun _ _ e => e) hco hgen hk
end
end Mine
end

section
open PySem PySem.W PySem.Calls PyProof.Rows Builtin Builtin.ObjectAttr
set_option maxRecDepth 100000
namespace Mine

theorem mk_163 (P : Params) : makesIn (KK P) 163 = true := by kernel_rfl
theorem mk_183 (P : Params) : makesIn (KK P) 183 = true := by kernel_rfl
theorem mk_218 (P : Params) : makesIn (KK P) 218 = true := by kernel_rfl
theorem mk_246 (P : Params) : makesIn (KK P) 246 = true := by kernel_rfl
theorem mk_274 (P : Params) : makesIn (KK P) 274 = true := by kernel_rfl
theorem fi_163 (P : Params) : findIn (KK P) (.ref 163) "__init__" = some (some (.builtin "object.__init__")) := by kernel_rfl
theorem fi_183 (P : Params) : findIn (KK P) (.ref 183) "__init__" = some (some (.builtin "object.__init__")) := by kernel_rfl
theorem fi_218 (P : Params) : findIn (KK P) (.ref 218) "__init__" = some (some (.ref 200)) := by kernel_rfl
theorem fi_246 (P : Params) : findIn (KK P) (.ref 246) "__init__" = some (some (.ref 235)) := by kernel_rfl
theorem fi_274 (P : Params) : findIn (KK P) (.ref 274) "__init__" = some (some (.ref 263)) := by kernel_rfl
theorem t_200 (P : Params) : typeIn (KK P) (.ref 200) = some (.type "function") := by kernel_rfl
theorem t_235 (P : Params) : typeIn (KK P) (.ref 235) = some (.type "function") := by kernel_rfl
theorem t_263 (P : Params) : typeIn (KK P) (.ref 263) = some (.type "function") := by kernel_rfl
theorem fc_163 (P : Params) : findIn (KK P) (.ref 163) "__call__" = some (some (.ref 160)) := by kernel_rfl
theorem fc_183 (P : Params) : findIn (KK P) (.ref 183) "__call__" = some (some (.ref 180)) := by kernel_rfl
theorem fc_218 (P : Params) : findIn (KK P) (.ref 218) "__call__" = some (some (.ref 215)) := by kernel_rfl
theorem fc_246 (P : Params) : findIn (KK P) (.ref 246) "__call__" = some (some (.ref 243)) := by kernel_rfl
theorem fc_274 (P : Params) : findIn (KK P) (.ref 274) "__call__" = some (some (.ref 271)) := by kernel_rfl
theorem t_160 (P : Params) : typeIn (KK P) (.ref 160) = some (.type "function") := by kernel_rfl
theorem t_180 (P : Params) : typeIn (KK P) (.ref 180) = some (.type "function") := by kernel_rfl
theorem t_215 (P : Params) : typeIn (KK P) (.ref 215) = some (.type "function") := by kernel_rfl
theorem t_243 (P : Params) : typeIn (KK P) (.ref 243) = some (.type "function") := by kernel_rfl
theorem t_271 (P : Params) : typeIn (KK P) (.ref 271) = some (.type "function") := by kernel_rfl

section
variable {prog : Program} {w : World} {A : Around} {E : Value → Shared → Prop} {h : Heap} {g : Array GenState} {d : Drawn} {t : Nat} {os : OsState} {b : Heap} {C : Addr} {Q : Value → Shared → Prop}

/-- two new objects: the instance and its dict -/
structure NewInst (h h' : Heap) (a dx C : Addr) : Prop where
  le : Le h h'
  ga : h'.get? a = some (instObj C dx)
  gd : h'.get? dx = some (dictOf [] 0)
  fa : h.get? a = none
  fd : h.get? dx = none
  ne : a ≠ dx

theorem newInst (h : Heap) (C : Addr) : NewInst h ((h.push emptyDict).push (instObj C h.objs.size)) (h.objs.size + 1) h.objs.size C where
  le := (push_le _ _).trans (push_le _ _)
  ga := by heap_get
  gd := by heap_get
  fa := by
    cases e : h.get? (h.objs.size + 1) with
    | none => rfl
    | some o => exact absurd (Heap.lt_size e) (Nat.not_lt.mpr (Nat.le_succ _))
  fd := fresh_size h
  ne := Nat.succ_ne_self _

/-- C(), no __init__ of its own -/
theorem new0 (S : Sys w b) (l : Le b h) (hm : makesIn (KK w.params) C = true) (hi : findIn (KK w.params) (.ref C) "__init__" = some (some (.builtin "object.__init__")))
    (k : ∀ h' a dx, NewInst h h' a dx C → Q (.ref a) ⟨h', g, d, t, os⟩) : wpAny (model prog w) A (call (.ref C) []) Q E ⟨h, g, d, t, os⟩ := by
  have X := S.X.keeps l
  have Y := makes_of (M := model prog w) X hm
  have N := newInst h C
  refine wpAny_call (make_core Y (looks_findIn X hi) (fun self => Looks.of_pure (oi_bind self)) (.inr ⟨rfl, rfl⟩) ?_)
  have z := k _ _ _ N
  generalize (h.push emptyDict).push (instObj C h.objs.size) = h' at *
  generalize h.objs.size + 1 = a at *
  have t1 : Looks (model prog w) h' (typeOf (.ref a)) (.ref C) := (Looks.ld N.ga).andThen .now
  have t2 : Looks (model prog w) h' (isInstance (.ref a) (.type "object")) true := t1.andThen (Y.top.keeps N.le)
  refine codeAny_call_builtin oi_plain entry_oi (@check_slot (model prog w) _ _ _ "object.__init__" "object" "__init__" (.ref a) [] [] _ oi_kind oi_split t2 (oi_args (.ref a)) ?_)
  rw [oi_run]
  exact wpAny_pure (And.intro rfl z)

/-- C(..), with an __init__ of the text -/
theorem new1 {n : Nat} {fI : Addr} {rest : List Value} (S : Sys w b) (l : Le b h) (Rm : Room A (n + 1)) (hm : makesIn (KK w.params) C = true) (hi : findIn (KK w.params) (.ref C) "__init__" = some (some (.ref fI))) (hf : typeIn (KK w.params) (.ref fI) = some (.type "function"))
    (k : ∀ h' a dx A, NewInst h h' a dx C → Room A n → codeAny (model prog w) A (.call (.ref fI) ⟨.ref a :: rest, []⟩) (wants (fun v s => v = .none ∧ Q (.ref a) s) E) ⟨h', g, d, t, os⟩) : wpAny (model prog w) A (call (.ref C) rest) Q E ⟨h, g, d, t, os⟩ := by
  have X := S.X.keeps l
  refine wpAny_call (make_core (makes_of X hm) (looks_findIn X hi) (fun self => bind_fn X self hf) (.inl rfl) ?_)
  refine codeAny_mono (k _ _ _ _ (newInst h C) Rm.under) fun r s' z => ?_
  rcases r with e | f
  · exact z
  · cases f with
    | ret v => exact And.intro z.1 z.2
    | _ => exact False.elim z
end
end Mine
end

section
open PySem PySem.W PySem.Calls PyProof.Rows Builtin Builtin.ObjectAttr
set_option maxRecDepth 100000
namespace Mine

theorem sa_218 (P : Params) : findIn (KK P) (.ref 218) "__setattr__" = some (some (.builtin "object.__setattr__")) := by kernel_rfl
theorem sa_246 (P : Params) : findIn (KK P) (.ref 246) "__setattr__" = some (some (.builtin "object.__setattr__")) := by kernel_rfl
theorem sa_274 (P : Params) : findIn (KK P) (.ref 274) "__setattr__" = some (some (.builtin "object.__setattr__")) := by kernel_rfl
theorem mro_218 (P : Params) : (clsIn (KK P) 218).map (·.mro) = some [.ref 218, .ref 141, .type "object"] := by kernel_rfl
theorem mro_246 (P : Params) : (clsIn (KK P) 246).map (·.mro) = some [.ref 246, .ref 141, .type "object"] := by kernel_rfl
theorem mro_274 (P : Params) : (clsIn (KK P) 274).map (·.mro) = some [.ref 274, .ref 141, .type "object"] := by kernel_rfl
theorem rf_obj (c : Addr) (self : Value) : refuseLoop self "__setattr__" [.ref c, .ref 141, .type "object"] = pure () := by
  rw [refuseLoop_ref, refuseLoop_ref]; kernel_rfl
theorem d_218 (P : Params) : hasDictIn (KK P) 218 = true := by kernel_rfl
theorem d_246 (P : Params) : hasDictIn (KK P) 246 = true := by kernel_rfl
theorem d_274 (P : Params) : hasDictIn (KK P) 274 = true := by kernel_rfl
theorem ga_218 (P : Params) : findIn (KK P) (.ref 218) "__getattribute__" = some (some (.builtin "object.__getattribute__")) := by kernel_rfl
theorem ga_246 (P : Params) : findIn (KK P) (.ref 246) "__getattribute__" = some (some (.builtin "object.__getattribute__")) := by kernel_rfl
theorem ga_274 (P : Params) : findIn (KK P) (.ref 274) "__getattribute__" = some (some (.builtin "object.__getattribute__")) := by kernel_rfl
theorem tk_1 (P : Params) : takerIn (KK P) 218 (Str.ofString "_maxsum") = some none := by kernel_rfl
theorem tk_2 (P : Params) : takerIn (KK P) 218 (Str.ofString "_multipliers") = some none := by kernel_rfl
theorem tk_3 (P : Params) : takerIn (KK P) 246 (Str.ofString "_set") = some none := by kernel_rfl
theorem tk_4 (P : Params) : takerIn (KK P) 246 (Str.ofString "_n") = some none := by kernel_rfl
theorem tk_5 (P : Params) : takerIn (KK P) 246 (Str.ofString "_exact") = some none := by kernel_rfl
theorem tk_6 (P : Params) : takerIn (KK P) 274 (Str.ofString "_set") = some none := by kernel_rfl
theorem tk_7 (P : Params) : takerIn (KK P) 274 (Str.ofString "_n") = some none := by kernel_rfl
theorem tk_8 (P : Params) : takerIn (KK P) 274 (Str.ofString "_exact") = some none := by kernel_rfl
theorem fa_1 (P : Params) : findIn (KK P) (.ref 218) (Str.ofString "_maxsum") = some none := by kernel_rfl
theorem fa_2 (P : Params) : findIn (KK P) (.ref 218) (Str.ofString "_multipliers") = some none := by kernel_rfl
theorem fa_3 (P : Params) : findIn (KK P) (.ref 246) (Str.ofString "_set") = some none := by kernel_rfl
theorem fa_4 (P : Params) : findIn (KK P) (.ref 246) (Str.ofString "_n") = some none := by kernel_rfl
theorem fa_5 (P : Params) : findIn (KK P) (.ref 246) (Str.ofString "_exact") = some none := by kernel_rfl
theorem fa_6 (P : Params) : findIn (KK P) (.ref 274) (Str.ofString "_set") = some none := by kernel_rfl
theorem fa_7 (P : Params) : findIn (KK P) (.ref 274) (Str.ofString "_n") = some none := by kernel_rfl
theorem fa_8 (P : Params) : findIn (KK P) (.ref 274) (Str.ofString "_exact") = some none := by kernel_rfl

/-- the multipliers' object: a MaxSumConstraint -/
def IsMax (h : Heap) (a : Addr) (n : Int) (lm : Addr) : Prop := ∃ dx od, h.get? a = some (instObj 218 dx) ∧ h.get? dx = some od ∧ (∃ u, lookIn (Str.ofString "_maxsum") od = some (some (.int n u))) ∧ lookIn (Str.ofString "_multipliers") od = some (some (.ref lm))
/-- SomeIn and SomeNotIn -/
def IsSome (C : Addr) (h : Heap) (a : Addr) (n : Int) (ms : Addr) : Prop := ∃ dx od, h.get? a = some (instObj C dx) ∧ h.get? dx = some od ∧ lookIn (Str.ofString "_set") od = some (some (.ref ms)) ∧ (∃ u, lookIn (Str.ofString "_n") od = some (some (.int n u))) ∧ lookIn (Str.ofString "_exact") od = some (some (.bool false))
def IsBare (C : Addr) (h : Heap) (a : Addr) : Prop := ∃ dx od, h.get? a = some (instObj C dx) ∧ h.get? dx = some od
theorem IsMax.le {h h' : Heap} {a : Addr} {n : Int} {lm : Addr} (x : IsMax h a n lm) (l : Le h h') : IsMax h' a n lm := let ⟨dx, od, h1, h2, r⟩ := x; ⟨dx, od, l _ _ h1, l _ _ h2, r⟩
theorem IsSome.le {C : Addr} {h h' : Heap} {a : Addr} {n : Int} {lm : Addr} (x : IsSome C h a n lm) (l : Le h h') : IsSome C h' a n lm := let ⟨dx, od, h1, h2, r⟩ := x; ⟨dx, od, l _ _ h1, l _ _ h2, r⟩
theorem IsBare.le {C : Addr} {h h' : Heap} {a : Addr} (x : IsBare C h a) (l : Le h h') : IsBare C h' a := let ⟨dx, od, h1, h2⟩ := x; ⟨dx, od, l _ _ h1, l _ _ h2⟩

section
variable {prog : Program} {w : World} {A : Around} {E : Value → Shared → Prop} {h : Heap} {g : Array GenState} {d : Drawn} {t : Nat} {os : OsState} {b : Heap} {C : Addr} {Q : Value → Shared → Prop}

/-- a field of an instance, from its own dict -/
theorem oget {a dx : Addr} {od : Obj} {name : Str} {v : Value} {expr : Bool} (S : Sys w b) (l : Le b h) (h1 : h.get? a = some (instObj C dx)) (h2 : h.get? dx = some od)
    (hga : findIn (KK w.params) (.ref C) "__getattribute__" = some (some (.builtin "object.__getattribute__"))) (hd : hasDictIn (KK w.params) C = true) (hf : findIn (KK w.params) (.ref C) name = some none)
    (hl : lookIn name od = some (some v)) (hh : handedIn v = true) (k : ∀ u, Q v ⟨h, g, d, u, os⟩) : wpAny (model prog w) A (getAttr (.ref a) name expr) Q E ⟨h, g, d, t, os⟩ :=
  get_value (S.X.keeps l) (ox := instObj C dx) (od := some od) ⟨h1, rfl, rfl, h2⟩ hga (findObj_own hd hf rfl hl) hh (k _)
end
end Mine
end

section
open PySem PySem.W PySem.Calls PyProof.Rows Builtin Builtin.ObjectAttr
set_option maxRecDepth 100000
namespace Mine
section
variable {prog : Program} {w : World} {A : Around} {E : Value → Shared → Prop} {env : Env} {s : Shared} {h : Heap} {g : Array GenState} {d : Drawn} {t : Nat} {os : OsState}

theorem eqi {x y : Int} {u v : Tok} {Q : Value → Shared → Prop} (k : Q (.bool (x == y)) s) : wpAny (model prog w) A (compareOp .Eq (.int x u) (.int y v)) Q E s := PyProof.Rows.eq_int k
theorem nei {x y : Int} {u v : Tok} {Q : Value → Shared → Prop} (k : Q (.bool (x != y)) s) : wpAny (model prog w) A (compareOp .NotEq (.int x u) (.int y v)) Q E s := PyProof.Rows.ne_int k
theorem lti {x y : Int} {u v : Tok} {Q : Value → Shared → Prop} (k : Q (.bool (decide (x < y))) s) : wpAny (model prog w) A (compareOp .Lt (.int x u) (.int y v)) Q E s := PyProof.Rows.lt_int k
theorem lei {x y : Int} {u v : Tok} {Q : Value → Shared → Prop} (k : Q (.bool (decide (x ≤ y))) s) : wpAny (model prog w) A (compareOp .LtE (.int x u) (.int y v)) Q E s := PySem.P.le_int k
theorem gti {x y : Int} {u v : Tok} {Q : Value → Shared → Prop} (k : Q (.bool (decide (x > y))) s) : wpAny (model prog w) A (compareOp .Gt (.int x u) (.int y v)) Q E s := PySem.P.gt_int k
theorem trb {c : Bool} {Q : Bool → Shared → Prop} (k : Q c s) : wpAny (model prog w) A (truthy (.bool c)) Q E s := wpAny_truthy_bool k
theorem tri {i : Int} {u : Tok} {Q : Bool → Shared → Prop} (k : Q (i != 0) s) : wpAny (model prog w) A (truthy (.int i u)) Q E s := PySem.P.truthy_int k
/-- x == k in a test, k written out -/
theorem t_eqk {x : Str} {px pc pos : Pos} {k0 : Nat} {i j : Int} {u : Tok} {L : Addr} {m : Str → Option Value} {whole : Sem Value} {Q : Bool → Shared → Prop} (hn : h.Ns L m) (hv : m x = some (.int i u)) (k : ∀ u', Q (i == j) ⟨h, g, d, u', os⟩)
    (hl : env.locals = L := by rfl) (hk : env.scope.kind = .function := by rfl) (hx : env.kindOf x = some .local := by rfl) (hd : (x == ("__debug__" : Str)) = false := by decide) :
    wpAny (model prog w) A (isTrue (.Compare (.Name x px) [.Eq] [.Constant (.int j) k0 pc] pos) env whole) Q E ⟨h, g, d, t, os⟩ :=
  wpAny_isTrue_Compare1 (ln hn hv (ci fun _ _ => eqi (trb (k _))) hl hk hx hd) rfl
end
end Mine
end

section
open PySem PySem.W PySem.Calls PyProof.Rows Builtin Builtin.ObjectAttr
set_option maxRecDepth 100000
namespace Mine
theorem g_163 (P : Params) : nsIn (KK P) mainGlobals (Str.ofString "AllDifferentConstraint") = some (some (.ref 163)) := by kernel_rfl
theorem g_183 (P : Params) : nsIn (KK P) mainGlobals (Str.ofString "AllEqualConstraint") = some (some (.ref 183)) := by kernel_rfl
theorem g_218 (P : Params) : nsIn (KK P) mainGlobals (Str.ofString "MaxSumConstraint") = some (some (.ref 218)) := by kernel_rfl
theorem g_246 (P : Params) : nsIn (KK P) mainGlobals (Str.ofString "SomeInSetConstraint") = some (some (.ref 246)) := by kernel_rfl
theorem g_274 (P : Params) : nsIn (KK P) mainGlobals (Str.ofString "SomeNotInSetConstraint") = some (some (.ref 274)) := by kernel_rfl
theorem c_163 (P : Params) : clsAt (KK P) 163 = true := by kernel_rfl
theorem c_183 (P : Params) : clsAt (KK P) 183 = true := by kernel_rfl
theorem c_218 (P : Params) : clsAt (KK P) 218 = true := by kernel_rfl
theorem c_246 (P : Params) : clsAt (KK P) 246 = true := by kernel_rfl
theorem c_274 (P : Params) : clsAt (KK P) 274 = true := by kernel_rfl

/-- a list of ints -/
def IL (h : Heap) (a : Addr) (ns : List Int) : Prop := ∃ its n, h.get? a = some (listO (List.toArray its) n) ∧ IntsAre its ns
theorem IL.le {h h' : Heap} {a : Addr} {ns : List Int} (x : IL h a ns) (l : Le h h') : IL h' a ns := let ⟨its, n, e, i⟩ := x; ⟨its, n, l _ _ e, i⟩

/-- the constraint of a kind -/
def Con (h : Heap) (a : Addr) (kind n : Int) (ms : Addr) : Prop :=
  if kind = 0 then IsBare 163 h a else if kind = 1 then IsBare 183 h a else if kind = 2 then ∃ lm, IsMax h a n lm ∧ IL h lm [1, 2, -1, 3] else if kind = 3 then IsSome 246 h a n ms else IsSome 274 h a n ms
theorem Con.le {h h' : Heap} {a : Addr} {kind n : Int} {ms : Addr} (x : Con h a kind n ms) (l : Le h h') : Con h' a kind n ms := by
  unfold Con at *
  by_cases h0 : kind = 0
  · rw [if_pos h0] at *; exact x.le l
  by_cases h1 : kind = 1
  · rw [if_neg h0, if_pos h1] at *; exact x.le l
  by_cases h2 : kind = 2
  · rw [if_neg h0, if_neg h1, if_pos h2] at *
    obtain ⟨lm, y, z⟩ := x
    exact ⟨lm, y.le l, z.le l⟩
  by_cases h3 : kind = 3
  · rw [if_neg h0, if_neg h1, if_neg h2, if_pos h3] at *; exact x.le l
  · rw [if_neg h0, if_neg h1, if_neg h2, if_neg h3] at *; exact x.le l

section
variable {prog : Program} {w : World} {A : Around} {E : Value → Shared → Prop} {h : Heap} {g : Array GenState} {d : Drawn} {t : Nat} {os : OsState} {b : Heap} {Q : Value → Shared → Prop}

theorem bk {M : Model} {m : Sem Value} {pos : Pos} {s : Shared} {Q : Value → Shared → Prop} (k : wpAny M A m Q E s) : wpAny M A (do let v ← m; standAt pos; pure v) Q E s :=
  wpAny_bind (wpAny_mono k (fun _ _ z => wpAny_bind (wpAny_standAt (wpAny_pure z))) fun _ _ e => e)

end
end Mine
end

section
open PySem PySem.W PySem.Calls PyProof.Rows Builtin Builtin.ObjectAttr
set_option maxRecDepth 100000
namespace Mine

section
variable {prog : Program} {w : World} {A : Around} {E : Value → Shared → Prop} {h : Heap} {g : Array GenState} {d : Drawn} {t : Nat} {os : OsState} {b : Heap}

/-- sorted(x), once x is collected -/
theorem sorted_of {x : Value} {Q : Value → Shared → Prop}
    (k : wpAny (model prog w) A.in1 (collect x) (fun vs s => ∃ h₁ t₁ ns, s = ⟨h₁, g, d, t₁, os⟩ ∧ Le h h₁ ∧ IntsAre vs ns ∧ vs.length < 64 ∧
      ∀ h' r ns', IL h' r ns' → h.get? r = none → Le h h' → ns'.Perm ns → ns'.Pairwise (· ≤ ·) → Q (.ref r) ⟨h', g, d, t₁, os⟩) E ⟨h, g, d, t, os⟩) :
    wpAny (model prog w) A (call (.builtin "sorted") [x]) Q E ⟨h, g, d, t, os⟩ := by
  refine call_function_entry kind_sorted plain_sorted entry_sorted (args_sorted1 _) ?_
  unfold Builtin.«sorted»
  refine wpAny_bind (m := checkCount "sorted" 1 1 _) (wpAny_pure ?_)
  refine wpAny_bind (wpAny_mono k (fun vs s hk => ?_) fun _ _ e => e)
  obtain ⟨h₁, t₁, ns, rfl, l1, hI, h64, kk⟩ := hk
  refine wpAny_bind (PySem.wpAny_newList ?_ (by rw [sizeLine_eq]; omega))
  dsimp only
  have hoL : (h₁.push (seqObj "list" vs.toArray 0)).get? h₁.objs.size = some (seqObj "list" vs.toArray 0) := Heap.get?_push_size _ rfl
  have hf := fresh_size h₁
  have hlt : ∀ p o, h₁.get? p = some o → p < (h₁.push (seqObj "list" vs.toArray 0)).objs.size := fun p o e => by
    rw [Heap.size_push]; exact Nat.lt_succ_of_lt (Heap.lt_size e)
  refine wpAny_bind (wpAny_holding (wpAny_call_entry slot_list_sort ⟨_, hoL, rfl⟩ entry_list_sort (list_sort_tree hoL hI h64 fun out ns' a1 a2 a3 => ⟨_, rfl, ?_⟩) (args_list_sort _)))
  refine wpAny_pure ⟨_, rfl, ?_⟩
  obtain ⟨e, he⟩ := sortedHeap_at (out := out) hoL
  refine kk _ _ ns' ⟨out.toList, e, by simpa using he, a1⟩ (l1.fresh hf) (fun p o hp => ?_) a2 a3
  rw [sortedHeap_old (Nat.ne_of_lt (Heap.lt_size (l1 _ _ hp))) (hlt _ _ (l1 _ _ hp))]
  exact push_le _ _ _ _ (l1 _ _ hp)

/-- sorted of a list -/
theorem sorted_list {l : Addr} {vs : List Value} {ns : List Int} {n : Nat} {Q : Value → Shared → Prop} (hl : h.get? l = some (listO vs.toArray n)) (hI : IntsAre vs ns) (h64 : vs.length < 64)
    (k : ∀ h' r ns', IL h' r ns' → h.get? r = none → Le h h' → ns'.Perm ns → ns'.Pairwise (· ≤ ·) → Q (.ref r) ⟨h', g, d, t, os⟩) :
    wpAny (model prog w) A (call (.builtin "sorted") [.ref l]) Q E ⟨h, g, d, t, os⟩ := by
  refine sorted_ints ⟨_, hl, rfl, _, rfl⟩ hI h64 fun out ns' a1 a2 a3 => ?_
  obtain ⟨e, he⟩ := sortedAll_at h vs out
  refine k _ _ ns' ⟨out.toList, e, by simpa using he, a1⟩ ?_ (fun p o hp => sortedAll_old hp) a2 a3
  cases e : h.get? (h.objs.size + 1) with
  | none => rfl
  | some o => exact absurd (Heap.lt_size e) (Nat.not_lt.mpr (Nat.le_succ _))

/-- collecting from a walk, past a fresh list -/
theorem collect_any {a : Addr} {tv : Value} {n : Nat} {P : Nat → Value → Prop} {Q : List Value → Shared → Prop} (hh : A.handled = none) (hal : ∃ o, h.get? a = some o)
    (hT : Looks (model prog w) h (typeOf (.ref a)) tv) (hn1 : (tv == .type "list" || tv == .type "tuple") = false) (hsz : n ≤ 1000)
    (hit : ∀ h₁ (Q : Value → Shared → Prop) (E : Value → Shared → Prop) (A : Around) t, A.handled = none → Le h h₁ → (∀ h₂ I fp wr St t₂, Walks prog w A I fp wr n P St → St 0 h₂ → Le h₁ h₂ → (∀ z ∈ wr, h₁.get? z = none) → (∀ z ∈ fp, z ∈ wr ∨ z = a) → Q (.ref I) ⟨h₂, g, d, t₂, os⟩) →
      wpAny (model prog w) A (pyIter (.ref a)) Q E ⟨h₁, g, d, t, os⟩)
    (hint : ∀ h₁ (Q : Bool → Shared → Prop) (E : Value → Shared → Prop) (A : Around) t, Le h h₁ → (∀ bb t₂, Q bb ⟨h₁, g, d, t₂, os⟩) → wpAny (model prog w) A (Builtin.List.listLengthHint (.ref a)) Q E ⟨h₁, g, d, t, os⟩)
    (k : ∀ h' t' acc, ItemsOf P acc n → Le h h' → Q acc.toList ⟨h', g, d, t', os⟩) : wpAny (model prog w) A (collect (.ref a)) Q E ⟨h, g, d, t, os⟩ := by
  have hSa : h.objs.size ≠ a := fun e => not_some (fresh_size h) (e ▸ hal)
  have hS0 := fresh_size h
  unfold collect
  refine wpAny_bind (wpAny_runValue (codeAny_builtin PySem.F.entry_proto_collect ?_))
  rw [Around.under_plainId PySem.F.plain_proto_collect _]
  show wpAny _ A.in1 (newList [] >>= fun l => again (.builtin "list.__iadd__" ⟨[l, .ref a], []⟩)) _ _ _
  refine wpAny_bind (wpAny_newObj_type ?_)
  refine wpAny_pure ⟨plainId_quiet PySem.F.plain_list_iadd _, codeAny_builtin PySem.F.entry_list_iadd ?_⟩
  rw [Around.under_plainId PySem.F.plain_list_iadd _]
  dsimp only
  have hS₁ : (h.push { cls := .type "list", data := .seq ([] : List Value).toArray }).get? h.objs.size = some { cls := .type "list", data := .seq ([] : List Value).toArray } := Heap.get?_push_size _ rfl
  have l1 : Le h (h.push { cls := .type "list", data := .seq ([] : List Value).toArray }) := push_le _ _
  generalize h.push { cls := .type "list", data := .seq ([] : List Value).toArray } = h₁ at *
  generalize h.objs.size = S at *
  show wpAny _ A.in1 (Builtin.List.listExtendWith (.ref S) (.ref a) (.ref S)) _ _ _
  unfold Builtin.List.listExtendWith
  have h1 : Builtin.List.listSameRef (.ref S) (.ref a) = false := by simp [Builtin.List.listSameRef, hSa]
  refine wpAny_bind ((hT.keeps l1).at ?_)
  rw [if_neg (by rw [h1, Bool.false_or, hn1]; decide)]
  refine wpAny_bind (hit h₁ _ _ _ _ hh l1 fun h₂ I fp wr St t₂ W st l2 hw hf => ?_)
  refine wpAny_bind (wpAny_holding (hint h₂ _ _ _ _ (l1.trans l2) fun bb t₃ => ?_))
  have hS₂ := l2 _ _ hS₁
  have hSw : S ∉ wr := fun hm => not_some (hw _ hm) ⟨_, hS₁⟩
  have hSf : S ∉ fp := fun hm => (hf _ hm).elim hSw hSa
  have fin : ∀ h₃ n₃ t₃, Ext [S] h₂ h₃ → h₃.get? S = some { cls := .type "list", dict := none, data := .seq #[] n₃, slots := #[] } →
      codeAny (model prog w) A (.builtin "list.extend.loop" ⟨[.ref S, .ref I, .ref S], []⟩) (fun r s' => match r with
        | .ok (.ret v) => wpAny (model prog w) A (match v with
            | .ref a => (load a >>= fun o => match o.data with | .seq xs _ => pure xs.toList | _ => unsupported "internal:collect")
            | _ => unsupported "internal:collect") Q E s'
        | .ok _ => False
        | .error e => E e s') ⟨h₃, g, d, t₃, os⟩ := by
    intro h₃ n₃ t₃ x₃ e₃
    refine codeAny_extend_loopS (Walks.toS W) (Nat.le_trans hsz (by rw [sizeLine_eq]; decide)) S hSf _ n 0 _ _ _ rfl (Nat.zero_le _) (W.frame 0 h₂ h₃ st fun z hz o e => x₃ z o (fun hm => hSf ((List.mem_singleton.mp hm) ▸ hz)) e) e₃ (ItemsOf.nil P) fun s' acc' c' hm hS' hacc => ?_
    obtain ⟨h₄, g₄, d₄, t₄, os₄⟩ := s'
    obtain ⟨mh, mg, md, mo, mt⟩ := hm
    dsimp only at mh mg md mo mt hS'
    subst mg md mo
    refine wpAny_bind (wpAny_load hS' (wpAny_pure ?_))
    refine k h₄ _ acc' hacc fun p o hp => ?_
    have hpS : p ≠ S := fun e => by rw [e, hS0] at hp; cases hp
    have hpw : p ∉ wr := fun hmm => by
      have := hw p hmm
      rw [l1 _ _ hp] at this; cases this
    exact mh p o (fun hmm => (List.mem_cons.mp hmm).elim hpS hpw) (x₃ p o (by simpa using hpS) (l2 _ _ (l1 _ _ hp)))
  show wpAny _ A.in1 (if (bb || _) = true then _ else _) _ _ _
  split
  · refine wpAny_bind (wpAny_rule ?_)
    refine wpAny_bind ?_
    show wpAny _ A.in1 (updateSeq S (·.push .none) >>= fun _ => updateSeq S (·.pop)) _ _ _
    refine wpAny_bind (wpAny_updateSeq hS₂ rfl ?_)
    have k2 : ∃ n2, (h₂.update S (Obj.mapSeq fun ys => ys.push .none)).get? S = some { cls := .type "list", dict := none, data := .seq #[.none] n2, slots := #[] } := by
      rw [Heap.get?_update_self _ hS₂ rfl]; exact ⟨_, rfl⟩
    obtain ⟨n2, k2⟩ := k2
    refine wpAny_updateSeq k2 rfl ?_
    have k3 : ∃ n3, ((h₂.update S (Obj.mapSeq fun ys => ys.push .none)).update S (Obj.mapSeq fun ys => ys.pop)).get? S = some { cls := .type "list", dict := none, data := .seq #[] n3, slots := #[] } := by
      rw [Heap.get?_update_self _ k2 rfl]; exact ⟨_, rfl⟩
    obtain ⟨n3, k3⟩ := k3
    exact wpAny_pure ⟨plainId_quiet PySem.F.plain_extend_loop _, fin _ n3 _ ((upd_ext _ _ _).trans (upd_ext _ _ _) (by simp)) k3⟩
  · exact wpAny_pure ⟨plainId_quiet PySem.F.plain_extend_loop _, fin _ 0 _ (Ext.refl _ _) hS₂⟩
end
end Mine
end

section
open PySem PySem.W PySem.Calls PyProof.Rows Builtin Builtin.ObjectAttr
set_option maxRecDepth 100000
namespace Mine

section
variable {prog : Program} {w : World} {A : Around} {E : Value → Shared → Prop} {s : Shared}

/-- the next of a list iterator over any object that holds a sequence -/
theorem next_ob_item {it l : Addr} {i n : Nat} {ol : Obj} {items : Array Value} {x : Value} {Q : Option Value → Shared → Prop} (hit : s.heap.IsListIter it l i)
    (hol : s.heap.get? l = some ol) (hdl : ol.data = .seq items n) (hx : items[i]? = some x)
    (hQ : ∀ h', h'.IsListIter it l (i + 1) → Heap.SameBut it s.heap h' → Q (some x) { s with heap := h' }) :
    wpAny (model prog w) A (pyNext (.ref it)) Q E s := by
  obtain ⟨o, ho, hc, hd⟩ := id hit
  unfold pyNext
  refine wpAny_bind (wpAny_attempt (wpAny_callSpecial?_slot (name := Str.ofString "__next__") hit.typeIs slot_listiter_next
    (wpAny_call_entry slot_listiter_next hit.typeIs entry_listiter_next ?_ (args_listiter_next _))))
  show wpAny _ _ (field (.ref it) 0 >>= _) _ _ s
  refine wpAny_bind (wpAny_field ho hd (x := .ref l) rfl ?_)
  show wpAny _ _ (if (Value.ref l == Value.none) = true then _ else _) _ _ s
  rw [if_neg (show ¬ ((Value.ref l == Value.none) = true) from Bool.false_ne_true)]
  show wpAny _ _ (field (.ref it) 1 >>= _) _ _ s
  refine wpAny_bind (wpAny_field ho hd (x := .int i 0) rfl ?_)
  show wpAny _ _ (seqItems? (.ref l) >>= _) _ _ s
  refine wpAny_bind (wpAny_seqItems hol hdl ?_)
  simp only [Int.toNat_natCast, hx]
  refine wpAny_bind (wpAny_setField ho hd (by simp) (wpAny_pure ⟨x, rfl, wpAny_pure (hQ _ ?_ (Heap.SameBut.update ..))⟩))
  exact ⟨_, Heap.get?_update_self _ ho (Obj.isFreed_of_fields (Obj.data_mapFields hd _)), (Obj.cls_mapFields ..).trans hc, by
    rw [Obj.data_mapFields hd]; simp [rawInt]⟩

/-- a StopIteration is raised, and told as none -/
theorem stop_now {s : Shared} (hh : A.handled = none) :
    ∀ {E' : Value → Shared → Prop}, (∀ e h', Le s.heap h' → (∃ o, h'.get? e = some o ∧ o.cls = .type "StopIteration") → E' (.ref e) { s with heap := h' }) →
      wpAny (model prog w) A (do raiseNew (← newExc (.type "StopIteration") []) : Sem Fin) (fun _ _ => False) E' s := by
  intro E' hE
  refine wpAny_bind ?_
  simp only [newExc, newTuple]
  refine wpAny_bind (wpAny_newObj_type ?_ (by size_fits))
  refine wpAny_bind (m := firstArgMember _ _) (wpAny_of_eq (a := Value.none) (by first | rfl | (simp only [firstArgMember]; rfl)) ?_)
  refine wpAny_newObj_type ?_ (by size_fits)
  simp only [raiseNew]
  refine wpAny_bind (wpAny_handled ?_)
  rw [hh]
  refine wpAny_bind (wpAny_pure (wpAny_throw ?_))
  exact hE _ _ ((push_le _ _).trans (push_le _ _)) ⟨_, Heap.get?_push_size _ rfl, rfl⟩

theorem next_ob_end {it l : Addr} {i n : Nat} {ol : Obj} {items : Array Value} {Q : Option Value → Shared → Prop} (hh : A.handled = none)
    (hit : s.heap.IsListIter it l i) (hol : s.heap.get? l = some ol) (hdl : ol.data = .seq items n) (hx : items[i]? = none)
    (hQ : ∀ h', Ext [it] s.heap h' → Q none { s with heap := h' }) : wpAny (model prog w) A (pyNext (.ref it)) Q E s := by
  obtain ⟨o, ho, hc, hd⟩ := id hit
  unfold pyNext
  refine wpAny_bind (wpAny_attempt (wpAny_callSpecial?_slot (name := Str.ofString "__next__") hit.typeIs slot_listiter_next
    (wpAny_call_entry slot_listiter_next hit.typeIs entry_listiter_next ?_ (args_listiter_next _))))
  show wpAny _ _ (field (.ref it) 0 >>= _) _ _ s
  refine wpAny_bind (wpAny_field ho hd (x := .ref l) rfl ?_)
  show wpAny _ _ (if (Value.ref l == Value.none) = true then _ else _) _ _ s
  rw [if_neg (show ¬ ((Value.ref l == Value.none) = true) from Bool.false_ne_true)]
  show wpAny _ _ (field (.ref it) 1 >>= _) _ _ s
  refine wpAny_bind (wpAny_field ho hd (x := .int i 0) rfl ?_)
  show wpAny _ _ (seqItems? (.ref l) >>= _) _ _ s
  refine wpAny_bind (wpAny_seqItems hol hdl ?_)
  simp only [Int.toNat_natCast, hx]
  refine wpAny_bind (wpAny_rule (wpAny_bind (wpAny_setField ho hd (by simp) ?_)))
  refine wpAny_mono (stop_now (A := A.in1) hh fun e h' l' he => ?_) (fun _ _ f => f.elim) fun _ _ e => e
  obtain ⟨oe, hoe, hce⟩ := he
  refine wpAny_bind (wpAny_isInstance (T := "StopIteration") (b := true) ⟨_, hoe, hce⟩ isSubtype_stop ?_)
  refine wpAny_pure (hQ _ ?_)
  exact (Ext.of_sameBut (Heap.SameBut.update ..)).trans (Ext.of_le (W := []) l') (by simp)

theorem walks_ob (hh : A.handled = none) (I a : Addr) (hne : a ≠ I) (o : Obj) (items : List Value) (n : Nat) (hd : o.data = .seq items.toArray n) :
    Walks prog w A I [I, a] [I] items.length (fun i v => items[i]? = some v) (fun i h => h.IsListIter I a i ∧ h.get? a = some o) where
  sub := fun b hb => by simp at hb; simp [hb]
  frame := fun _ _ _ st hk => ⟨st.1.at fun o e => hk I (by simp) o e, hk a (by simp) _ st.2⟩
  item := fun i s Q E hi st hQ => by
    refine next_ob_item st.1 st.2 hd (x := items[i]) (by simp [hi]) fun h' hit' hs' => ?_
    exact hQ _ h' s.toks (by simp [hi]) ⟨hit', hs'.extBut _ _ hne st.2⟩ fun b o hb e => hs'.extBut b o (fun h => hb (by simp [h])) e
  done := fun s Q E st hQ => next_ob_end hh st.1 st.2 hd (by simp) fun h' he' => hQ h' s.toks fun b o hb e => he' b o hb e
  self := fun _ _ _ _ st hQ => wpAny_pyIter_listiter st.1 hQ
end

section
variable {prog : Program} {w : World} {A : Around} {E : Value → Shared → Prop} {h : Heap} {g : Array GenState} {d : Drawn} {t : Nat} {os : OsState} {b : Heap} {F : DA} {its hs ss : List Value} {ns : List Int}

/-- iter(domain) -/
theorem dom_iter {Q : Value → Shared → Prop} (S : Sys w b) (l : Le b h) (D : Dom h F its hs ss)
    (k : ∀ h', h'.IsListIter h.objs.size F.a 0 → Le h h' → Q (.ref h.objs.size) ⟨h', g, d, t, os⟩) : wpAny (model prog w) A (pyIter (.ref F.a)) Q E ⟨h, g, d, t, os⟩ := by
  have X := S.X.keeps l
  have call : wpAny (model prog w) A (call (.builtin "list.__iter__") [.ref F.a]) (fun v s' => v = .ref h.objs.size ∧ ∃ h', s' = ⟨h', g, d, t, os⟩ ∧ h'.IsListIter h.objs.size F.a 0 ∧ Le h h') E ⟨h, g, d, t, os⟩ := by
    refine dom_call S l D slot_list_iter.plain entry_list_iter (nm := "__iter__") (by decide +kernel) (by decide +kernel) (args_list_iter _) ?_
    show wpAny _ _ (do ret (← newFields "list_iterator" [.ref F.a, rawInt 0])) _ _ _
    exact wpAny_bind (wpAny_newObj_type (wpAny_pure ⟨rfl, _, rfl, ⟨_, Heap.get?_push_size _ rfl, rfl, rfl⟩, push_le _ _⟩))
  have T : Looks (model prog w) h (typeOf (.ref F.a)) (.ref 97) := dom_type (s := ⟨h, g, d, t, os⟩) D
  have aux : ∀ refuse : Sem Value, wpAny (model prog w) A (callSpecialIfBoundUnlessNone? (.ref F.a) (Str.ofString "__iter__") refuse) (fun r s' => r = some (.ref h.objs.size) ∧ ∃ h', s' = ⟨h', g, d, t, os⟩ ∧ h'.IsListIter h.objs.size F.a 0 ∧ Le h h') E ⟨h, g, d, t, os⟩ := by
    intro refuse
    unfold callSpecialIfBoundUnlessNone? bindSpecialIfBound? specialOf
    refine wpAny_holding (wpAny_bind (wpAny_bind (wpAny_bind (T.at ((looks_findIn X (f_iter _)).at ?_)))))
    simp only [slot_list_iter.bind]
    refine wpAny_bind (wpAny_askSetting (wpAny_ite ?_))
    have fin : wpAny (model prog w) A (if (Value.builtin "list.__iter__" == Value.none) = true then (refuse >>= fun v => pure (some v)) else (PySem.call (.builtin "list.__iter__") [.ref F.a] >>= fun v => pure (some v)))
      (fun r s' => r = some (.ref h.objs.size) ∧ ∃ h', s' = ⟨h', g, d, t, os⟩ ∧ h'.IsListIter h.objs.size F.a 0 ∧ Le h h') E ⟨h, g, d, t, os⟩ := by
      rw [if_neg (by decide)]
      refine wpAny_bind (wpAny_mono call (fun v s' hv => ?_) fun _ _ e => e)
      obtain ⟨rfl, h', rfl, hi, l'⟩ := hv
      exact wpAny_pure ⟨rfl, h', rfl, hi, l'⟩
    split
    · exact wpAny_bind (wpAny_pure (wpAny_pure fin))
    · exact wpAny_tryCatch (wpAny_bind (wpAny_pure (wpAny_pure fin)))
  unfold pyIter
  refine wpAny_bind (m := specialOf (.ref F.a) (Str.ofString "__iter__")) ?_
  unfold specialOf
  refine wpAny_bind (T.at ((looks_findIn X (f_iter _)).at ?_))
  dsimp only
  refine wpAny_bind (wpAny_mono (aux _) (fun r s' hr => ?_) fun _ _ e => e)
  obtain ⟨rfl, h', rfl, hi, l'⟩ := hr
  dsimp only
  refine wpAny_bind (m := specialOf (.ref h.objs.size) (Str.ofString "__next__")) (wpAny_specialOf hi.typeIs slot_listiter_next.lookup (wpAny_pure (k h' hi l')))

/-- the length hint of a Domain -/
theorem dom_hint {Q : Bool → Shared → Prop} (S : Sys w b) (l : Le b h) (D : Dom h F its hs ss) (hz : its.length ≤ 1000) (k : ∀ bb t₂, Q bb ⟨h, g, d, t₂, os⟩) :
    wpAny (model prog w) A (Builtin.List.listLengthHint (.ref F.a)) Q E ⟨h, g, d, t, os⟩ := by
  have X := S.X.keeps l
  have T : Looks (model prog w) h (typeOf (.ref F.a)) (.ref 97) := dom_type (s := ⟨h, g, d, t, os⟩) D
  obtain ⟨n, h1⟩ := D.ob
  obtain ⟨od, h2, h2'⟩ := D.di
  have L4 := isInst_dom (M := model prog w) X (inst_dom h1 h2)
  unfold Builtin.List.listLengthHint
  refine wpAny_bind (m := specialOf (.ref F.a) (Str.ofString "__len__")) ?_
  unfold specialOf
  refine wpAny_bind (T.at ((looks_findIn X (f_len _)).at ?_))
  dsimp only
  rw [show splitId "list.__len__" = some ("list", "__len__") by decide +kernel]
  dsimp only
  refine wpAny_bind (L4.at ?_)
  rw [if_neg (by decide), if_pos (by decide +kernel)]
  refine wpAny_bind (T.at ?_)
  dsimp only
  refine wpAny_bind (dlen S l D hz fun u t₂ => ?_)
  exact wpAny_bind (wpAny_of_eq (a := some ((its.length : Nat) : Int)) rfl (wpAny_pure (k _ _)))

theorem items_all {vs : List Value} {acc : Array Value} (h : ItemsOf (fun i v => vs[i]? = some v) acc vs.length) : acc.toList = vs := by
  obtain ⟨h1, h2⟩ := h
  apply List.ext_getElem?
  intro i
  by_cases hi : i < vs.length
  · have : acc[i]? = some acc[i] := by simp [h1, hi]
    rw [Array.getElem?_toList, this, h2 i _ this]
  · rw [List.getElem?_eq_none (by rw [Array.length_toList]; omega), List.getElem?_eq_none (by omega)]

/-- sorted(domain) -/
theorem sorted_dom {Q : Value → Shared → Prop} (hh : A.handled = none) (S : Sys w b) (l : Le b h) (D : Dom h F its hs ss) (hI : IntsAre its ns) (h64 : its.length < 64)
    (k : ∀ h' tk r ns', IL h' r ns' → h.get? r = none → Le h h' → ns'.Perm ns → ns'.Pairwise (· ≤ ·) → Q (.ref r) ⟨h', g, d, tk, os⟩) :
    wpAny (model prog w) A (call (.builtin "sorted") [.ref F.a]) Q E ⟨h, g, d, t, os⟩ := by
  have T : Looks (model prog w) h (typeOf (.ref F.a)) (.ref 97) := dom_type (s := ⟨h, g, d, t, os⟩) D
  obtain ⟨n, ho⟩ := D.ob
  refine sorted_of (collect_any (A := A.in1) (a := F.a) (tv := .ref 97) (n := its.length) (P := fun i v => its[i]? = some v) hh ⟨_, ho⟩ T rfl (by omega) (fun h₁ Q E A t hh l₁ k => ?_) (fun h₁ Q E A t l₁ k => dom_hint S (l.trans l₁) (D.le l₁) (by omega) k) fun h' t' acc hacc l' => ?_)
  · refine dom_iter S (l.trans l₁) (D.le l₁) fun h₂ hi l₂ => ?_
    refine k h₂ _ _ _ _ _ (walks_ob hh h₁.objs.size F.a (Nat.ne_of_lt (Heap.lt_size (l₁ _ _ ho))) (domO F.d its.toArray n) its n rfl) ⟨hi, l₂ _ _ (l₁ _ _ ho)⟩ l₂ (by simpa using fresh_size h₁) (by simp)
  · exact ⟨h', t', ns, rfl, l', items_all hacc ▸ hI, by rw [items_all hacc]; exact h64, fun h₂ r ns' => k h₂ _ r ns'⟩
end
end Mine
end

section
open PySem PySem.W PySem.Calls PyProof.Rows Builtin Builtin.ObjectAttr
set_option maxRecDepth 100000
namespace Mine
open SetTable

/-! the table of a set of few ints -/
theorem below_go (xs : Array Nat) (j : Nat) (hs : ∀ a b, a < b → b < xs.size → xs.getD a 0 < xs.getD b 0) : ∀ fuel lo hi, lo ≤ hi → hi ≤ xs.size → hi - lo ≤ fuel →
    (∀ i, i < lo → xs.getD i 0 < j) → (∀ i, hi ≤ i → i < xs.size → j ≤ xs.getD i 0) →
    below.go xs j fuel lo hi ≤ xs.size ∧ (∀ i, i < below.go xs j fuel lo hi → xs.getD i 0 < j) ∧ (∀ i, below.go xs j fuel lo hi ≤ i → i < xs.size → j ≤ xs.getD i 0)
  | 0, lo, hi, h1, h2, h3, h4, h5 => by
    unfold below.go
    have : lo = hi := by omega
    subst this
    exact ⟨h2, h4, h5⟩
  | fuel + 1, lo, hi, h1, h2, h3, h4, h5 => by
    unfold below.go
    by_cases hlt : lo < hi
    · rw [if_pos hlt]
      dsimp only
      have hm1 : lo ≤ (lo + hi) / 2 := by omega
      have hm2 : (lo + hi) / 2 < hi := by omega
      have eD : xs.getD ((lo + hi) / 2) j = xs.getD ((lo + hi) / 2) 0 := by
        have hsz : (lo + hi) / 2 < xs.size := by omega
        rw [Array.getD_eq_getD_getElem?, Array.getD_eq_getD_getElem?, Array.getElem?_eq_getElem hsz]; rfl
      rw [eD]
      by_cases hx : xs.getD ((lo + hi) / 2) 0 < j
      · rw [if_pos hx]
        refine below_go xs j hs fuel _ hi (by omega) h2 (by omega) (fun i hi' => ?_) h5
        rcases Nat.lt_or_ge i ((lo + hi) / 2) with q | q
        · exact Nat.lt_trans (hs i _ q (by omega)) hx
        · have : i = (lo + hi) / 2 := by omega
          rw [this]; exact hx
      · rw [if_neg hx]
        refine below_go xs j hs fuel lo _ hm1 (by omega) (by omega) h4 (fun i hi' hsz => ?_)
        rcases Nat.lt_or_ge ((lo + hi) / 2) i with q | q
        · have := hs _ i q hsz
          omega
        · have : i = (lo + hi) / 2 := by omega
          rw [this]; omega
    · rw [if_neg hlt]
      have : lo = hi := by omega
      subst this
      exact ⟨h2, h4, h5⟩

def Srt (xs : Array Nat) : Prop := ∀ a b, a < b → b < xs.size → xs.getD a 0 < xs.getD b 0
theorem below_spec (xs : Array Nat) (j : Nat) (hs : Srt xs) : below xs j ≤ xs.size ∧ (∀ i, i < below xs j → xs.getD i 0 < j) ∧ (∀ i, below xs j ≤ i → i < xs.size → j ≤ xs.getD i 0) :=
  below_go xs j hs _ 0 xs.size (Nat.zero_le _) (Nat.le_refl _) (by omega) (by simp) (fun i h1 h2 => by omega)
theorem below_eq (xs : Array Nat) (j k : Nat) (hs : Srt xs) (hk : k ≤ xs.size) (h1 : ∀ i, i < k → xs.getD i 0 < j) (h2 : ∀ i, k ≤ i → i < xs.size → j ≤ xs.getD i 0) : below xs j = k := by
  obtain ⟨a, b, c⟩ := below_spec xs j hs
  rcases Nat.lt_trichotomy (below xs j) k with q | q | q
  · have := h1 _ q
    have := c _ (Nat.le_refl _) (by omega)
    omega
  · exact q
  · have := b _ q
    have := h2 _ (Nat.le_refl _) (by omega)
    omega
theorem below_next (xs : Array Nat) (k : Nat) (hs : Srt xs) (hk : k < xs.size) : below xs (xs.getD k 0 + 1) = k + 1 := by
  refine below_eq xs _ _ hs hk (fun i hi => ?_) fun i h1 h2 => ?_
  · rcases Nat.lt_or_ge i k with q | q
    · have := hs i k q hk; omega
    · have : i = k := by omega
      rw [this]; omega
  · have := hs k i (by omega) h2; omega
theorem below_zero (xs : Array Nat) (hs : Srt xs) : below xs 0 = 0 := below_eq xs 0 0 hs (Nat.zero_le _) (by simp) (by simp)

theorem getD_of {xs : Array Nat} {i v : Nat} (h : xs[i]? = some v) : xs.getD i 0 = v := by
  rw [Array.getD_eq_getD_getElem?, h]; rfl
theorem get_of {xs : Array Nat} {i : Nat} (h : i < xs.size) : xs[i]? = some (xs.getD i 0) := by
  rw [Array.getD_eq_getD_getElem?, Array.getElem?_eq_getElem h]; rfl

theorem insert_size {α : Type} (xs : Array α) (p : Nat) (x : α) (hp : p ≤ xs.size) : (insertAt xs p x).size = xs.size + 1 := by
  unfold insertAt; simp; omega
theorem insert_get (xs : Array Nat) (p x i : Nat) (hp : p ≤ xs.size) : (insertAt xs p x).getD i 0 = if i < p then xs.getD i 0 else if i = p then x else xs.getD (i - 1) 0 := by
  simp only [Array.getD_eq_getD_getElem?]
  rw [← Array.getElem?_toList, SetTable.toList_insertAt]
  by_cases h1 : i < p
  · rw [if_pos h1, List.getElem?_append_left (by simp; omega)]
    rw [List.getElem?_take]
    simp [h1]
  · rw [if_neg h1]
    by_cases h2 : i = p
    · subst h2
      rw [if_pos rfl, List.getElem?_append_right (by simp; omega)]
      have : i - (List.take i xs.toList).length = 0 := by simp; omega
      rw [this]; rfl
    · rw [if_neg h2, List.getElem?_append_right (by simp; omega)]
      have e : i - (List.take p xs.toList).length = (i - p - 1) + 1 := by simp; omega
      rw [e, List.getElem?_cons_succ, List.getElem?_drop]
      have : p + (i - p - 1) = i - 1 := by omega
      rw [this, Array.getElem?_toList]
theorem insert_srt (xs : Array Nat) (x : Nat) (hs : Srt xs) (hx : xs[below xs x]? ≠ some x) : Srt (insertAt xs (below xs x) x) := by
  obtain ⟨a, b, c⟩ := below_spec xs x hs
  intro i j hij hj
  rw [insert_size _ _ _ a] at hj
  rw [insert_get _ _ _ _ a, insert_get _ _ _ _ a]
  have c' : ∀ i, below xs x ≤ i → i < xs.size → x < xs.getD i 0 := fun i h1 h2 => by
    rcases Nat.lt_or_ge (below xs x) i with q | q
    · have := hs _ i q h2
      have := c _ (Nat.le_refl _) (by omega)
      omega
    · have e : i = below xs x := by omega
      subst e
      have h3 := c _ (Nat.le_refl _) h2
      rcases Nat.lt_or_ge x (xs.getD (below xs x) 0) with q | q
      · exact q
      · exact absurd (by rw [get_of h2]; congr 1; omega) hx
  by_cases h1 : j < below xs x
  · rw [if_pos (by omega), if_pos h1]; exact hs i j hij (by omega)
  · by_cases h2 : j = below xs x
    · rw [if_pos (by omega), if_neg h1, if_pos h2]; exact b i (by omega)
    · rw [if_neg h1, if_neg h2]
      by_cases h3 : i < below xs x
      · rw [if_pos h3]
        have := b i h3
        have := c' (j - 1) (by omega) (by omega)
        omega
      · by_cases h4 : i = below xs x
        · rw [if_neg h3, if_pos h4]; exact c' (j - 1) (by omega) (by omega)
        · rw [if_neg h3, if_neg h4]; exact hs (i - 1) (j - 1) (by omega) (by omega)

/-! the search for a free slot ends -/
theorem slot_live {t : SetTable} {j : Nat} (hd : t.dummies = #[]) : t.slot j = .empty ∨ (∃ i : Nat, t.slot j = .live i ∧ t.place[i]? = some j) := by
  unfold slot
  dsimp only
  by_cases h : (t.place[below t.place j]? == some j) = true
  · rw [if_pos h]; exact .inr ⟨_, rfl, by simpa using h⟩
  · rw [if_neg h]
    have : has t.dummies j = false := by
      unfold has; rw [hd]; rfl
    rw [this]; exact .inl rfl
theorem slot_empty {t : SetTable} {j : Nat} (h : t.slot j = .empty) : t.place[below t.place j]? ≠ some j := by
  intro e
  unfold slot at h
  dsimp only at h
  rw [e] at h
  simp at h

def step5 (p : Probe) : Probe := { j := (p.i * 5 + 1 + p.perturb / 32) % 8, more := 0, i := (p.i * 5 + 1 + p.perturb / 32) % 8, perturb := p.perturb / 32, dummy := p.dummy }
theorem advance7 {t : SetTable} {p : Probe} (hm : t.mask = 7) (h0 : p.more = 0) : t.advance p = step5 p := by
  have hr : ∀ i, runEnd 7 i = i := fun i => by unfold runEnd; rw [if_neg (by omega)]
  unfold advance leap step5
  rw [if_neg (by omega)]
  simp only [hm, hr]
  simp
def iter5 : Nat → Probe → Probe
  | 0, p => p
  | k + 1, p => iter5 k (step5 p)

theorem probe_go {t : SetTable} {h : Int} (hm : t.mask = 7) (hd : t.dummies = #[]) : ∀ fuel p, p.more = 0 → p.dummy = none →
    (∃ j, probe.go t (fun _ => h + 1) h fuel p = some (.empty j none) ∧ t.slot j = .empty) ∨ (∀ k, k < fuel → ∃ i : Nat, t.place[i]? = some (iter5 k p).j)
  | 0, p, _, _ => .inr fun k hk => by omega
  | fuel + 1, p, h0, hn => by
    unfold probe.go
    rcases slot_live (t := t) (j := p.j) hd with e | ⟨i, e, hi⟩
    · left
      rw [e]
      exact ⟨p.j, by simp [hn], e⟩
    · rw [e]
      dsimp only
      rw [if_neg (by simp; omega), advance7 hm h0]
      rcases probe_go hm hd fuel (step5 p) rfl hn with ⟨j, e1, e2⟩ | hall
      · exact .inl ⟨j, e1, e2⟩
      · right
        intro k hk
        cases k with
        | zero => exact ⟨i, hi⟩
        | succ k => exact hall k (by omega)

theorem iter5_add : ∀ a c p, iter5 (a + c) p = iter5 c (iter5 a p)
  | 0, c, p => by rw [Nat.zero_add]; rfl
  | a + 1, c, p => by rw [Nat.add_right_comm]; exact iter5_add a c (step5 p)
theorem iter5_pert : ∀ k p, (iter5 k p).perturb = p.perturb / 32 ^ k
  | 0, p => by simp [iter5]
  | k + 1, p => by
    show (iter5 k (step5 p)).perturb = _
    rw [iter5_pert k]
    show p.perturb / 32 / 32 ^ k = _
    rw [Nat.div_div_eq_div_mul, Nat.pow_succ, Nat.mul_comm]
def cyc : Nat → Nat → Nat
  | 0, i => i
  | k + 1, i => cyc k ((i * 5 + 1) % 8)
theorem iter5_cyc : ∀ k p, p.perturb = 0 → p.j = p.i → (iter5 k p).j = cyc k p.i
  | 0, p, _, e => e
  | k + 1, p, h0, _ => by
    show (iter5 k (step5 p)).j = cyc k ((p.i * 5 + 1) % 8)
    have e1 : (step5 p).i = (p.i * 5 + 1) % 8 := by simp [step5, h0]
    rw [iter5_cyc k (step5 p) (by simp [step5, h0]) rfl, e1]
theorem cyc_all : ∀ i, i < 8 → ∀ j, j < 8 → ∃ m, m < 8 ∧ cyc m i = j := by decide
theorem iter5_ji : ∀ k p, (iter5 (k + 1) p).j = (iter5 (k + 1) p).i ∧ (iter5 (k + 1) p).i < 8
  | 0, p => ⟨rfl, Nat.mod_lt _ (by decide)⟩
  | k + 1, p => iter5_ji k (step5 p)

theorem free_slot {t : SetTable} {h : Int} (hm : t.mask = 7) (hd : t.dummies = #[]) (hz : t.place.size ≤ 3) : ∃ j, t.freeSlot h = some (j, false) ∧ t.slot j = .empty := by
  unfold SetTable.freeSlot probe
  have hst : (t.probeStart h).more = 0 ∧ (t.probeStart h).dummy = none := by
    unfold probeStart
    have hr : ∀ i, runEnd 7 i = i := fun i => by unfold runEnd; rw [if_neg (by omega)]
    simp [hm, hr]
  rcases probe_go (h := h) hm hd (10 * turns t.mask) (t.probeStart h) hst.1 hst.2 with ⟨j, e, q⟩ | hall
  · rw [e]; exact ⟨j, rfl, q⟩
  · exfalso
    have hf : 10 * turns t.mask = 220 := by rw [hm]; rfl
    rw [hf] at hall
    have hp : (iter5 13 (t.probeStart h)).perturb = 0 := by
      rw [iter5_pert]
      have hb : (t.probeStart h).perturb < 2 ^ 64 := by
        show bits h < 2 ^ 64
        unfold bits
        have := Int.emod_lt_of_pos h (show (0 : Int) < 2 ^ 64 by decide)
        have := Int.emod_nonneg h (show (2 ^ 64 : Int) ≠ 0 by decide)
        omega
      exact Nat.div_eq_of_lt (Nat.lt_of_lt_of_le hb (by decide))
    obtain ⟨hj, hi⟩ := iter5_ji 12 (t.probeStart h)
    have all : ∀ j, j < 8 → ∃ i : Nat, t.place[i]? = some j := fun j hj8 => by
      obtain ⟨m, hm8, e⟩ := cyc_all _ hi j hj8
      obtain ⟨i, hi'⟩ := hall (13 + m) (by omega)
      rw [iter5_add, iter5_cyc m _ hp hj, e] at hi'
      exact ⟨i, hi'⟩
    obtain ⟨i0, h0⟩ := all 0 (by decide)
    obtain ⟨i1, h1⟩ := all 1 (by decide)
    obtain ⟨i2, h2⟩ := all 2 (by decide)
    obtain ⟨i3, h3⟩ := all 3 (by decide)
    have l0 := (Array.getElem?_eq_some_iff.mp h0).1
    have l1 := (Array.getElem?_eq_some_iff.mp h1).1
    have l2 := (Array.getElem?_eq_some_iff.mp h2).1
    have l3 := (Array.getElem?_eq_some_iff.mp h3).1
    have ne : ∀ {a b : Nat} {x y : Nat}, t.place[a]? = some x → t.place[b]? = some y → x ≠ y → a ≠ b := fun e1 e2 hxy q => by
      subst q; rw [e1] at e2; cases e2; exact hxy rfl
    have n01 := ne h0 h1 (by decide)
    have n02 := ne h0 h2 (by decide)
    have n03 := ne h0 h3 (by decide)
    have n12 := ne h1 h2 (by decide)
    have n13 := ne h1 h3 (by decide)
    have n23 := ne h2 h3 (by decide)
    omega
end Mine
end

section
open PySem PySem.W PySem.Calls PyProof.Rows Builtin Builtin.ObjectAttr
set_option maxRecDepth 100000
namespace Mine
open SetTable

def vInt (e : Int × Value) : Int := match e.2 with | .int i _ => i | _ => 0
def AllI (l : List (Int × Value)) : Prop := ∀ e ∈ l, ∃ i t, e = (hashInt i, .int i t)
/-- a table of a set of few ints -/
structure GT (byText : Bool) (es : Array (Int × Value)) (t : SetTable) : Prop where
  sz : t.place.size = es.size
  srt : Srt t.place
  du : t.dummies = #[]
  ma : t.mask = 7
  pl : t.plain = true
  le : t.led = !byText
theorem GT.fits {bt : Bool} {es : Array (Int × Value)} {t : SetTable} (G : GT bt es t) (h : es.size ≤ 7) : t.fits es.size = true := by
  unfold SetTable.fits SetTable.fill
  rw [G.sz, G.du, G.ma]
  simp; omega
abbrev setO (es : Array (Int × Value)) (ep : Nat) (t : SetTable) : Obj := { cls := .type "set", dict := none, data := .set es ep t, slots := #[] }
def byT (w : World) : Bool := w.params.followText "set-order"
def GSet (w : World) (h : Heap) (a : Addr) (ms : List Int) : Prop := ∃ es ep t, h.get? a = some (setO es ep t) ∧ AllI es.toList ∧ es.toList.map vInt = ms ∧ ms.Nodup ∧ GT (byT w) es t

theorem layNew_good {bt : Bool} {es : Array (Int × Value)} {t : SetTable} {h : Int} {x : Value} (G : GT bt es t) (hz : es.size ≤ 3) :
    ∃ es' t' g, layNew t es h x = (es', t', false, g) ∧ GT bt es' t' ∧ es'.size = es.size + 1 := by
  obtain ⟨j, e1, e2⟩ := free_slot (h := h) G.ma G.du (by rw [G.sz]; exact hz)
  have hb := below_spec t.place j G.srt
  have hp : below t.place j ≤ es.size := by rw [← G.sz]; exact hb.1
  have hd : has t.dummies j = false := by unfold has; rw [G.du]; rfl
  have hsz : (insertAt es (below t.place j) (h, x)).size = es.size + 1 := insert_size _ _ _ hp
  have G' : GT bt (insertAt es (below t.place j) (h, x)) (t.put j).1 := by
    unfold SetTable.put
    rw [hd]
    exact ⟨by show (insertAt t.place _ j).size = _; rw [hsz, insert_size _ _ _ hb.1, G.sz], insert_srt _ _ G.srt (slot_empty e2), G.du, G.ma, G.pl, G.le⟩
  have hf : (t.put j).1.fits (insertAt es (below t.place j) (h, x)).size = true := G'.fits (by rw [hsz]; omega)
  refine ⟨_, (t.put j).1, !(t.put j).1.fits (insertAt es (below t.place j) (h, x)).size, ?_, G', hsz⟩
  unfold layNew
  rw [e1]
  show (insertAt es (below t.place j) (h, x), (t.put j).1.orStandIn (insertAt es (below t.place j) (h, x)).size, false, !(t.put j).1.fits (insertAt es (below t.place j) (h, x)).size) = _
  unfold SetTable.orStandIn
  rw [if_pos hf]

theorem AllI.elems {prog : Program} {w : World} {l : List (Int × Value)} (h : AllI l) : ElemsOf (intKind prog w) l := fun e he => by
  obtain ⟨i, t, rfl⟩ := h e he
  exact ⟨⟨i, intKind_is _ _ _ _, rfl⟩, rfl⟩
theorem isInt_iff {prog : Program} {w : World} {k i : Int} {t : Tok} : (intKind prog w).is k (.int i t) = true ↔ i = k := by
  simp [intKind, Value.isInt]
theorem map_perm {l l' : List (Int × Value)} (p : List.Perm l' l) : (l'.map vInt).Perm (l.map vInt) := p.map _

section
variable {prog : Program} {w : World} {A : Around} {E : Value → Shared → Prop} {h : Heap} {g : Array GenState} {d : Drawn} {t : Nat} {os : OsState}

theorem gset_add {a : Addr} {ms : List Int} {v : Int} {u : Tok} {Q : Bool → Shared → Prop} (hS : GSet w h a ms) (hz : ms.length ≤ 3 ∨ v ∈ ms) (h4 : ms.length ≤ 4)
    (k : ∀ r h' tk ms', GSet w h' a ms' → (v ∈ ms → ms' = ms) → (v ∉ ms → ms'.Perm (ms ++ [v])) → Ext [a] h h' → Q r ⟨h', g, d, tk, os⟩) :
    wpAny (model prog w) A (setAdd a (.int v u)) Q E ⟨h, g, d, t, os⟩ := by
  obtain ⟨es, ep, tb, ho, hal, rfl, hnd, G⟩ := hS
  have hlen : es.size ≤ 4 := by simpa using h4
  have hf := G.fits (by omega)
  unfold setAdd
  refine wpAny_holding (wpAny_bind ((intKind prog w).pyHash (k := v) (intKind_is _ _ _ _) ?_))
  dsimp only
  have hel : ElemsOf (intKind prog w) es.toList := hal.elems
  unfold setAddHashed setAddHashedIn
  refine wpAny_holding (wpAny_bind (wpAny_setState_of ho rfl hf ?_))
  dsimp only
  rw [byScan_of rfl (by unfold scanBound; omega) hel]
  simp only [↓reduceIte]
  unfold setAddByScan
  refine wpAny_bind ?_
  refine wpAny_bind (wpAny_rule ?_)
  refine wpAny_bind (wpAny_setScan_of (knd := intKind prog w) (intKind_is _ _ _ _) ho rfl hf hel ?_)
  cases hr : List.findIdx? (fun e => (intKind prog w).is v e.2) es.toList with
  | some j =>
    dsimp only
    obtain ⟨hj, hpj, _⟩ := List.findIdx?_eq_some_iff_getElem.mp hr
    have hin : v ∈ es.toList.map vInt := by
      obtain ⟨i, t', e⟩ := hal _ (List.getElem_mem hj)
      rw [e] at hpj
      have := isInt_iff.mp hpj
      exact List.mem_map.mpr ⟨_, List.getElem_mem hj, by rw [e]; exact this⟩
    exact wpAny_pure (wpAny_pure (k _ h _ _ ⟨es, ep, tb, ho, hal, rfl, hnd, G⟩ (fun _ => rfl) (fun q => absurd hin q) (Ext.refl _ _)))
  | none =>
    dsimp only
    have hnin : v ∉ es.toList.map vInt := fun hm => by
      obtain ⟨e, he, hv⟩ := List.mem_map.mp hm
      obtain ⟨i, t', rfl⟩ := hal e he
      have := List.findIdx?_eq_none_iff.mp hr _ he
      rw [isInt_iff.mpr (show i = v from hv)] at this
      cases this
    have hz3 : es.size ≤ 3 := by simpa using hz.resolve_right hnin
    obtain ⟨es1, t1, gv, hL, G1, hs1⟩ := layNew_good (h := hashInt v) (x := .int v u) G hz3
    have hperm := layNew_perm tb es (hashInt v) (.int v u)
    rw [hL] at hperm
    rw [show (intKind prog w).hash v = hashInt v from rfl, hL]
    dsimp only at hperm ⊢
    rw [Array.toList_push] at hperm
    have hal1 : AllI es1.toList := fun e he => by
      rcases List.mem_append.mp (hperm.mem_iff.mp he) with q | q
      · exact hal e q
      · exact ⟨v, u, List.mem_singleton.mp q⟩
    have hp1 : (es1.toList.map vInt).Perm (es.toList.map vInt ++ [v]) := by simpa [vInt] using map_perm hperm
    have hnd1 : (es1.toList.map vInt).Nodup := hp1.nodup_iff.mpr (List.nodup_append.mpr ⟨hnd, by simp, by
      intro x hx y hy e; rw [List.mem_singleton.mp hy] at e; exact hnin (e ▸ hx)⟩)
    have hgw : ∀ (b : Bool) {s₁ : Shared} {Q' : Unit → Shared → Prop}, Q' () s₁ → wpAny (model prog w) A (match b with | true => rule "set.scan.the-table-gave-way" | false => pure ()) Q' E s₁ :=
      fun b s₁ Q' hq => by cases b <;> first | exact wpAny_pure hq | exact wpAny_rule hq
    refine wpAny_bind (hgw _ ?_)
    have htf : t1.tooFull = false := by
      unfold tooFull SetTable.fill
      rw [G1.sz, G1.du, G1.ma, hs1]
      simp; omega
    rw [G1.pl]
    simp only [if_true]
    rw [hashByValue_scannable 8 (show (Value.int v u).scannable = true from rfl)]
    refine wpAny_bind (wpAny_bind (wpAny_pure (wpAny_pure ?_)))
    simp only [plainKind, if_true]
    refine wpAny_bind (wpAny_storeSet_of ho rfl ?_ (by rw [sizeLine_eq]; omega))
    rw [htf]
    simp only [Bool.and_false, Bool.false_eq_true, if_false]
    have hg : (h.update a (Obj.putSet es1 t1)).get? a = some (setO es1 (ep + 1) t1) := by
      have := Heap.get?_update_self (Obj.putSet es1 t1) ho (by rw [putSet_of es1 t1 (o := setO es ep tb) rfl]; rfl)
      rw [putSet_of es1 t1 (o := setO es ep tb) rfl] at this; exact this
    exact wpAny_pure (wpAny_pure (k _ _ _ _ ⟨es1, ep + 1, t1, hg, hal1, rfl, hnd1, G1⟩ (fun q => absurd q hnin) (fun _ => hp1) (upd_ext _ _ _)))
end
end Mine
end

section
open PySem PySem.W PySem.Calls PyProof.Rows Builtin Builtin.ObjectAttr
set_option maxRecDepth 100000
namespace Mine
section
variable {prog : Program} {w : World} {A : Around} {E : Value → Shared → Prop} {h : Heap} {g : Array GenState} {d : Drawn} {t : Nat} {os : OsState}

theorem gset_new (h : Heap) (w : World) : GSet w (h.push (setO #[] 0 (.fresh 0 0 (!byT w)))) h.objs.size [] :=
  ⟨#[], 0, _, Heap.get?_push_size _ rfl, (fun e he => by simp at he), rfl, List.nodup_nil, ⟨rfl, (fun a b _ hb => by simp [SetTable.fresh] at hb), rfl, rfl, rfl, rfl⟩⟩

theorem code_new_set (a : Value) {Q₁ : Value → Shared → Prop} (k : Q₁ (.ref h.objs.size) ⟨h.push (setO #[] 0 (.fresh 0 0 (!byT w))), g, d, t, os⟩) :
    codeAny (model prog w) A (.call (.builtin "set.__new__") ⟨[.type "set", a], []⟩) (wants Q₁ E) ⟨h, g, d, t, os⟩ := by
  refine codeAny_of_tree ?_
  show wpAny _ A.in1 (do checkBuiltinCall "set.__new__" ⟨[.type "set", a], []⟩; again (.builtin "set.__new__" ⟨[.type "set", a], []⟩)) _ _ _
  refine wpAny_bind (wpAny_of_eq (PySem.F.newCall_set_1 a) (wpAny_pure ⟨plainId_quiet PySem.F.plain_set_new _, codeAny_builtin PySem.F.entry_set_new ?_⟩))
  rw [Around.under_plainId PySem.F.plain_set_new _]
  unfold Builtin.«set.__new__» Builtin.Frozenset.newClass
  have hsub := sub_set_self
  dsimp only
  wp_walk
  refine wpAny_askSetting (wpAny_pure ?_)
  dsimp only
  simp only [newObj]
  refine wpAny_bind (wpAny_alloc (wpAny_pure ?_))
  exact wpAny_pure k

/-- what the set holds after the first i of the list -/
def SetUpto (ms ns : List Int) (i : Nat) : Prop := ∀ v, v ∈ ms ↔ v ∈ ns.take i

theorem nodup_len {ms ns : List Int} {i : Nat} (hn : ms.Nodup) (hu : SetUpto ms ns i) : ms.length ≤ i := by
  have : ∀ (l l' : List Int), l.Nodup → (∀ v, v ∈ l → v ∈ l') → l.length ≤ l'.length := by
    intro l
    induction l with
    | nil => intros; simp
    | cons x r ih =>
      intro l' hd hs
      obtain ⟨h1, h2⟩ := List.nodup_cons.mp hd
      have hx := hs x List.mem_cons_self
      have := ih (l'.erase x) h2 fun v hv => by
        have hne : v ≠ x := fun e => h1 (e ▸ hv)
        exact (List.mem_erase_of_ne hne).mpr (hs v (List.mem_cons_of_mem _ hv))
      rw [List.length_erase_of_mem hx] at this
      have hp : 0 < l'.length := List.length_pos_of_mem hx
      simp only [List.length_cons]
      omega
  refine Nat.le_trans (this ms (ns.take i) hn fun v hv => (hu v).mp hv) (List.length_take_le _ _)

theorem set_loop {S I : Addr} {l : Addr} {vs : List Value} {ns : List Int} {n : Nat} {R : Result → Shared → Prop} (hh : A.handled = none) (hne : l ≠ I) (hSl : S ≠ l) (hSI : S ≠ I) (hI : IntsAre vs ns) (h4 : vs.length ≤ 4)
    (k : ∀ h' tk ms, GSet w h' S ms → SetUpto ms ns ns.length → Ext [S, I] h h' → R (.ok (.ret .none)) ⟨h', g, d, tk, os⟩)
    (ho : h.get? l = some (listO vs.toArray n)) (hi : h.IsListIter I l 0) (hS : GSet w h S []) :
    codeAny (model prog w) A (.builtin "set.update.loop" ⟨[.ref S, .ref I], []⟩) R ⟨h, g, d, t, os⟩ := by
  have W := walks_ob (prog := prog) (w := w) (A := A.in1) hh I l hne (listO vs.toArray n) vs n rfl
  have main : ∀ (j i : Nat) (h₁ : Heap) (t₁ : Nat) (ms : List Int), vs.length - i = j → i ≤ vs.length → h₁.IsListIter I l i → h₁.get? l = some (listO vs.toArray n) → GSet w h₁ S ms → SetUpto ms ns i → Ext [S, I] h h₁ →
      codeAny (model prog w) A (.builtin "set.update.loop" ⟨[.ref S, .ref I], []⟩) R ⟨h₁, g, d, t₁, os⟩ := by
    intro j
    induction j with
    | zero =>
      intro i h₁ t₁ ms hj hi hit hol hS hu x
      have hin : i = vs.length := by omega
      subst hin
      refine codeAny_builtin PyProof.Rows.F.entry_set_update_loop ?_
      rw [Around.under_plainId PyProof.Rows.F.plain_set_update_loop _]
      show wpAny _ A.in1 (pyNext (.ref I) >>= _) _ _ _
      refine wpAny_bind (W.done _ _ _ ⟨hit, hol⟩ fun h₂ t₂ hk => ?_)
      show wpAny _ A.in1 (ret Value.none) _ _ _
      have x2 : Ext [I] h₁ h₂ := fun p o hp e => hk p o hp e
      have hS2 : GSet w h₂ S ms := let ⟨es, ep, tb, e, r⟩ := hS; ⟨es, ep, tb, x2 _ _ (by simpa using hSI) e, r⟩
      refine wpAny_pure (k h₂ _ ms hS2 (by rw [← hI.length]; exact hu) (x.trans x2 (by simp)))
    | succ j ih =>
      intro i h₁ t₁ ms hj hi hit hol hS hu x
      have hlt : i < vs.length := by omega
      refine codeAny_builtin PyProof.Rows.F.entry_set_update_loop ?_
      rw [Around.under_plainId PyProof.Rows.F.plain_set_update_loop _]
      show wpAny _ A.in1 (pyNext (.ref I) >>= _) _ _ _
      refine wpAny_bind (W.item i _ _ _ hlt ⟨hit, hol⟩ fun v h₂ t₂ hP st2 hk => ?_)
      obtain ⟨m, u, rfl, hm⟩ := hI.at i v hP
      have x2 : Ext [I] h₁ h₂ := fun p o hp e => hk p o hp e
      have hS2 : GSet w h₂ S ms := let ⟨es, ep, tb, e, r⟩ := hS; ⟨es, ep, tb, x2 _ _ (by simpa using hSI) e, r⟩
      show wpAny _ A.in1 (holding [Value.int m u] (setAdd S (.int m u)) >>= _) _ _ _
      have hnd : ms.Nodup := let ⟨_, _, _, _, _, _, q, _⟩ := hS; q
      have hlen := nodup_len hnd hu
      refine wpAny_bind (wpAny_holding (gset_add hS2 (by left; omega) (by omega) fun r h₃ t₃ ms' hS3 e1 e2 x3 => ?_))
      refine wpAny_pure ⟨plainId_quiet PyProof.Rows.F.plain_set_update_loop _, ih (i + 1) h₃ t₃ ms' (by omega) hlt ?_ ?_ hS3 ?_ ((x.trans x2 (by simp)).trans x3 (by simp))⟩
      · obtain ⟨o, ho, r⟩ := st2.1
        exact ⟨o, x3 _ _ (by simpa using hSI.symm) ho, r⟩
      · exact x3 _ _ (by simpa using hSl.symm) st2.2
      · intro v
        have ht : ns.take (i + 1) = ns.take i ++ [m] := by
          rw [List.take_add_one, hm]; rfl
        rw [ht, List.mem_append, ← hu v]
        by_cases hin : m ∈ ms
        · rw [e1 hin]
          exact ⟨.inl, fun q => q.elim id fun q => by rw [List.mem_singleton.mp q]; exact hin⟩
        · rw [(e2 hin).mem_iff, List.mem_append]
  exact main _ 0 h t [] rfl (Nat.zero_le _) hi ho hS (fun v => by simp) (Ext.refl _ _)

set_option maxHeartbeats 3200000 in
/-- set(list), of at most four ints -/
theorem set_of_list {l : Addr} {vs : List Value} {ns : List Int} {n : Nat} {Q : Value → Shared → Prop} (hh : A.handled = none) (ho : h.get? l = some (listO vs.toArray n)) (hI : IntsAre vs ns) (h4 : vs.length ≤ 4)
    (k : ∀ h' tk S ms, GSet w h' S ms → (∀ v, v ∈ ms ↔ v ∈ ns) → ms.length ≤ 4 → Le h h' → h.get? S = none → Q (.ref S) ⟨h', g, d, tk, os⟩) :
    wpAny (model prog w) A (call (.type "set") [.ref l]) Q E ⟨h, g, d, t, os⟩ := by
  obtain ⟨c, tl, hmro⟩ := PySem.F.called_set.mro
  have hmade := PySem.F.called_set.made
  have hsub := PySem.F.called_set.sub
  refine wpAny_call (codeAny_of_tree ?_)
  show wpAny _ _ (callAny (.type "set") _) _ _ _
  refine wpAny_pure ⟨Code.quiet_builtin _ (by decide +kernel), codeAny_builtin PySem.F.entry_type_call ?_⟩
  rw [Around.under_plain (weight_type_call_type "set" [.ref l] []) rfl]
  have h1 := PySem.F.called_set.notType
  have h2 := PySem.F.called_set.canCreate
  have hct := PySem.F.typeCall_set_1 (.ref l)
  repeat (any_goals (first | assumption | wp_step))
  refine codeAny_mono (code_new_set (.ref l) (E := E) (Q₁ := fun obj s₁ => obj = .ref h.objs.size ∧ s₁ = ⟨h.push (setO #[] 0 (.fresh 0 0 (!byT w))), g, d, t, os⟩) ⟨rfl, rfl⟩) fun r s₁ hr => ?_
  cases r with
  | error e => exact hr
  | ok fl =>
    cases fl with
    | ret obj =>
      obtain ⟨rfl, rfl⟩ := hr
      have hS : GSet w (h.push (setO #[] 0 (.fresh 0 0 (!byT w)))) h.objs.size [] := gset_new h w
      have hSg : (h.push (setO #[] 0 (.fresh 0 0 (!byT w)))).get? h.objs.size = some (setO #[] 0 (.fresh 0 0 (!byT w))) := Heap.get?_push_size _ rfl
      have lp : Le h (h.push (setO #[] 0 (.fresh 0 0 (!byT w)))) := push_le _ _
      have hf := fresh_size h
      generalize h.push (setO #[] 0 (.fresh 0 0 (!byT w))) = h₁ at *
      generalize h.objs.size = S at *
      have hT : Shared.TypeIs ⟨h₁, g, d, t, os⟩ (.ref S) "set" := let ⟨es, ep, tb, e, _⟩ := hS; ⟨_, e, rfl⟩
      have hli := PySem.F.called_set.init.lookup
      have hbi := PySem.F.called_set.init.bind (.ref S)
      repeat (any_goals (first | assumption | wp_step))
      refine codeAny_mono (codeAny_call_builtin (R := wants (fun r s₂ => r = .none ∧ Q (.ref S) s₂) E) PySem.F.called_set.init.plain PySem.F.entry_set_init (check_set_init_1 hT ?_)) fun r₂ s₂ hr₂ => ?_
      · have hol := lp _ _ ho
        have hl1 : h₁.IsList l vs.toArray := ⟨_, hol, rfl, _, rfl⟩
        have hsls := PySem.F.sub_list_set
        have hslf := PySem.F.sub_list_frozenset
        have hne : (Value.type "list" == Value.type "dict") = false := by decide
        unfold Builtin.«set.__init__» noKeywords Builtin.Frozenset.updateFrom
        generalize hPI : pyIter = PI
        wp_walk
        subst hPI
        refine wpAny_pyIter_list (s := ⟨h₁, g, d, t, os⟩) hl1 ?_
        refine wpAny_bind (wpAny_runValue ?_)
        dsimp only
        have l2 := push_le h₁ { cls := .type "list_iterator", data := .fields #[.ref l, .int 0 0] }
        have gI : (h₁.push { cls := .type "list_iterator", data := .fields #[.ref l, .int 0 0] }).get? h₁.objs.size = some { cls := .type "list_iterator", data := .fields #[.ref l, .int 0 0] } := Heap.get?_push_size _ rfl
        have fI := fresh_size h₁
        generalize h₁.push { cls := .type "list_iterator", data := .fields #[.ref l, .int 0 0] } = h₂ at *
        generalize h₁.objs.size = I at *
        have hS2 : GSet w h₂ S [] := let ⟨es, ep, tb, e, r⟩ := hS; ⟨es, ep, tb, l2 _ _ e, r⟩
        have neI : l ≠ I := fun e => not_some fI ⟨_, e ▸ hol⟩
        have neS : S ≠ l := fun e => not_some hf ⟨_, e ▸ ho⟩
        have neSI : S ≠ I := fun e => not_some fI ⟨_, e ▸ hSg⟩
        refine set_loop (w := w) (vs := vs) (ns := ns) (by simp [hh]) neI neS neSI hI h4 (fun h₃ t₃ ms hS3 hu x3 => ?_) (l2 _ _ hol) ⟨_, gI, rfl, rfl⟩ hS2
        have hnd : ms.Nodup := let ⟨_, _, _, _, _, _, q, _⟩ := hS3; q
        have hms : ∀ v, v ∈ ms ↔ v ∈ ns := fun v => by rw [hu v, List.take_length]
        have hlen := nodup_len hnd hu
        have hni : ns.length = vs.length := hI.length.symm
        refine wpAny_pure (wpAny_pure ⟨rfl, k h₃ _ S ms hS3 hms (by omega) ?_ hf⟩)
        intro p o hp
        refine x3 p o (fun hm => ?_) (l2 _ _ (lp _ _ hp))
        rcases List.mem_cons.mp hm with e | hm
        · rw [e, hf] at hp; cases hp
        · rw [List.mem_singleton.mp hm] at hp
          exact not_some fI ⟨_, lp _ _ hp⟩
      · cases r₂ with
        | error e => exact hr₂
        | ok fl₂ =>
          cases fl₂ with
          | ret r =>
            obtain ⟨rfl, hq⟩ := hr₂
            repeat (any_goals (first | assumption | wp_step))
          | _ => exact hr₂.elim
    | _ => exact hr.elim
end
end Mine
end

section
open PySem PySem.W PySem.Calls PyProof.Rows Builtin Builtin.ObjectAttr
set_option maxRecDepth 100000
namespace Mine
open SetTable

theorem slot_seti_next : Slot "set_iterator" "__next__" "set_iterator.__next__" :=
  .of (owner := "set_iterator") (n := "__next__") (by rw [typeLookup_type, builtinLookup_eq_fast]; kernel_rfl) (by decide +kernel) (by decide +kernel) (by decide +kernel)
    (by first | exact .inl (by decide +kernel) | exact .inr (by decide +kernel)) (by rw [isSubtype_type]; kernel_rfl)
theorem entry_seti_next : entryFor table "set_iterator.__next__" = some Builtin.«set_iterator.__next__» := entryFor_of_tree (by kernel_rfl)
theorem args_seti_next (a : Value) : argsOk "set_iterator.__next__" ⟨[a], []⟩ := by unfold argsOk; kernel_rfl
theorem slot_seti_iter : Slot "set_iterator" "__iter__" "set_iterator.__iter__" :=
  .of (owner := "set_iterator") (n := "__iter__") (by rw [typeLookup_type, builtinLookup_eq_fast]; kernel_rfl) (by decide +kernel) (by decide +kernel) (by decide +kernel)
    (by first | exact .inl (by decide +kernel) | exact .inr (by decide +kernel)) (by rw [isSubtype_type]; kernel_rfl)
theorem entry_seti_iter : entryFor table "set_iterator.__iter__" = some Builtin.«dict_keyiterator.__iter__» :=
  entryFor_alias (id' := "dict_keyiterator.__iter__") (by kernel_rfl) (by first | rfl | decide +kernel) (by decide +kernel) (by kernel_rfl)
theorem args_seti_iter (a : Value) : argsOk "set_iterator.__iter__" ⟨[a], []⟩ := by unfold argsOk; kernel_rfl
theorem entry_set_iter : entryFor table "set.__iter__" = some Builtin.«frozenset.__iter__» :=
  entryFor_alias (id' := "frozenset.__iter__") (by kernel_rfl) (by first | rfl | decide +kernel) (by decide +kernel) (by kernel_rfl)

theorem erase_perm {α : Type} : ∀ (l : List α) (n : Nat) (h : n < l.length), (l[n] :: l.eraseIdx n).Perm l
  | x :: r, 0, _ => List.Perm.refl _
  | x :: r, n + 1, h => by
    have := erase_perm r n (by simpa using h)
    rw [List.eraseIdx_cons_succ, List.getElem_cons_succ]
    exact (List.Perm.swap _ _ _).trans (this.cons x)
/-! the order by text -/
theorem pick_perm {α : Type} (next : Nat → Nat) : ∀ (fuel k : Nat) (l : List α) (out : Array α), l.length ≤ fuel → (pickOrder.go next fuel k l out).toList.Perm (out.toList ++ l)
  | 0, k, l, out, h => by
    have : l = [] := List.length_eq_zero_iff.mp (Nat.le_zero.mp h)
    subst this
    unfold pickOrder.go; simp
  | fuel + 1, k, l, out, h => by
    unfold pickOrder.go
    by_cases hl : l = []
    · subst hl
      simp
    · have hpos : 0 < l.length := List.length_pos_iff.mpr hl
      have hlt : next k % l.length < l.length := Nat.mod_lt _ hpos
      rw [List.getElem?_eq_getElem hlt]
      dsimp only
      refine (pick_perm next fuel (k + 1) _ _ (by rw [List.length_eraseIdx_of_lt hlt]; omega)).trans ?_
      rw [Array.toList_push, List.append_assoc]
      refine List.Perm.append_left _ ?_
      exact erase_perm _ _ hlt
theorem pickOrder_perm {α : Type} (next : Nat → Nat) (xs : Array α) : (pickOrder next xs).toList.Perm xs.toList := by
  unfold pickOrder
  simpa using pick_perm next xs.size 0 xs.toList #[] (by simp)

/-- the order in which a set is walked -/
def ordS (w : World) (S : Addr) (es : Array (Int × Value)) (ep : Nat) : Array (Int × Value) := if byT w then pickOrder (w.params.setOrder S ep) es else es
theorem ordS_perm (w : World) (S : Addr) (es : Array (Int × Value)) (ep : Nat) : (ordS w S es ep).toList.Perm es.toList := by
  unfold ordS; split
  · exact pickOrder_perm _ _
  · exact List.Perm.refl _
def slotS (w : World) (tb : SetTable) (i : Nat) : Nat := if byT w then 0 else if i = 0 then 0 else tb.place.getD (i - 1) 0 + 1
abbrev setI (S : Addr) (slot i n ep : Nat) : Obj := { cls := .type "set_iterator", dict := none, data := .fields #[rawInt slot, rawInt i, .ref S, rawInt n, rawInt ep], slots := #[] }

section
variable {prog : Program} {w : World} {A : Around} {E : Value → Shared → Prop} {s : Shared}

theorem setNext_at {S : Addr} {es : Array (Int × Value)} {ep i : Nat} {tb : SetTable} {Q : Option (Value × Nat) → Shared → Prop} (ho : s.heap.get? S = some (setO es ep tb)) (G : GT (byT w) es tb) (h7 : es.size ≤ 7)
    (k : Q (((ordS w S es ep)[i]?).map fun e => (e.2, slotS w tb (i + 1))) s) (hi : i ≤ es.size) : wpAny (model prog w) A (setNext S (slotS w tb i) i ep) Q E s := by
  have hf := G.fits h7
  unfold setNext
  refine wpAny_bind (wpAny_setState_of ho rfl hf ?_)
  dsimp only
  unfold setsByText
  refine wpAny_bind (wpAny_bind (wpAny_askSetting (wpAny_pure ?_)))
  show wpAny _ _ (if byT w = true then _ else _) _ _ _
  unfold ordS slotS at *
  by_cases hb : byT w = true
  · rw [if_pos hb] at *
    rw [if_pos hb] at k
    rw [if_neg (by simp)]
    unfold setWalk
    refine wpAny_bind (wpAny_bind (wpAny_setState_of ho rfl hf ?_))
    dsimp only
    unfold setsByText
    refine wpAny_bind (wpAny_bind (wpAny_askSetting (wpAny_pure ?_)))
    show wpAny _ _ (if byT w = true then _ else _) _ _ _
    rw [if_pos hb]
    refine wpAny_bind (wpAny_askSetting (wpAny_pure (wpAny_pure ?_)))
    simp only [hb, if_true] at k ⊢
    exact k
  · rw [if_neg hb] at *
    rw [if_neg hb] at k
    split
    · rename_i hd
      exact absurd (show (!tb.plain && decide (es.size > 1)) = true from hd) (by rw [G.pl]; simp)
    · refine wpAny_bind (m := _) (wpAny_of_eq (a := ()) ?_ ?_)
      · show (if (!tb.led && !es.isEmpty) = true then _ else _) = _
        rw [G.le, if_neg (by simp [hb])]
      · refine wpAny_pure ?_
        have hbel : below tb.place (if i = 0 then 0 else tb.place.getD (i - 1) 0 + 1) = i := by
          by_cases h0 : i = 0
          · subst h0; rw [if_pos rfl]; exact below_zero _ G.srt
          · rw [if_neg h0, below_next _ _ G.srt (by rw [G.sz]; omega)]; omega
        rw [hbel]
        by_cases hlt : i < es.size
        · rw [Array.getElem?_eq_getElem hlt] at *
          rw [get_of (show i < tb.place.size by rw [G.sz]; exact hlt)]
          simpa using k
        · have e1 : es[i]? = none := by simp; omega
          rw [e1] at k
          simpa [e1] using k

theorem seti_item {I S : Addr} {es : Array (Int × Value)} {ep i : Nat} {tb : SetTable} {e : Int × Value} {Q : Option Value → Shared → Prop} (hI : s.heap.get? I = some (setI S (slotS w tb i) i es.size ep)) (ho : s.heap.get? S = some (setO es ep tb)) (G : GT (byT w) es tb) (h7 : es.size ≤ 7)
    (hx : (ordS w S es ep)[i]? = some e) (hi : i ≤ es.size) (k : ∀ h', h'.get? I = some (setI S (slotS w tb (i + 1)) (i + 1) es.size ep) → Heap.SameBut I s.heap h' → Q (some e.2) { s with heap := h' }) : wpAny (model prog w) A (pyNext (.ref I)) Q E s := by
  have hf := G.fits h7
  unfold pyNext
  refine wpAny_bind (wpAny_attempt (wpAny_callSpecial?_slot (name := Str.ofString "__next__") ⟨_, hI, rfl⟩ slot_seti_next
    (wpAny_call_entry slot_seti_next ⟨_, hI, rfl⟩ entry_seti_next ?_ (args_seti_next _))))
  unfold Builtin.«set_iterator.__next__»
  refine wpAny_bind (m := slotArgs _ _ _) (wpAny_pure ?_)
  refine wpAny_bind (wpAny_fieldsOf hI rfl ?_)
  dsimp only [rawInt]
  refine wpAny_bind (m := setEntries S) (wpAny_setEntries_of ho rfl hf ?_)
  rw [if_neg (by simp)]
  refine wpAny_bind (m := setNext _ _ _ _) ?_
  simp only [Int.toNat_natCast]
  refine setNext_at ho G h7 ?_ hi
  rw [hx]
  dsimp only [Option.map_some]
  refine wpAny_bind (wpAny_setField_rec hI (by simp) fun h₁ e₁ s₁ => ?_)
  refine wpAny_bind (wpAny_setField_rec e₁ (by simp) fun h₂ e₂ s₂ => ?_)
  refine wpAny_pure ⟨_, rfl, wpAny_pure (k h₂ ?_ (s₁.trans s₂))⟩
  rw [e₂]
  simp [rawInt]

theorem seti_end {I S : Addr} {es : Array (Int × Value)} {ep : Nat} {tb : SetTable} {Q : Option Value → Shared → Prop} (hh : A.handled = none) (hI : s.heap.get? I = some (setI S (slotS w tb es.size) es.size es.size ep)) (ho : s.heap.get? S = some (setO es ep tb)) (G : GT (byT w) es tb) (h7 : es.size ≤ 7)
    (k : ∀ h', Ext [I] s.heap h' → Q none { s with heap := h' }) : wpAny (model prog w) A (pyNext (.ref I)) Q E s := by
  have hf := G.fits h7
  have hlen : (ordS w S es ep).size = es.size := by
    have := (ordS_perm w S es ep).length_eq
    simpa using this
  unfold pyNext
  refine wpAny_bind (wpAny_attempt (wpAny_callSpecial?_slot (name := Str.ofString "__next__") ⟨_, hI, rfl⟩ slot_seti_next
    (wpAny_call_entry slot_seti_next ⟨_, hI, rfl⟩ entry_seti_next ?_ (args_seti_next _))))
  unfold Builtin.«set_iterator.__next__»
  refine wpAny_bind (m := slotArgs _ _ _) (wpAny_pure ?_)
  refine wpAny_bind (wpAny_fieldsOf hI rfl ?_)
  dsimp only [rawInt]
  refine wpAny_bind (m := setEntries S) (wpAny_setEntries_of ho rfl hf ?_)
  rw [if_neg (by simp)]
  refine wpAny_bind (m := setNext _ _ _ _) ?_
  simp only [Int.toNat_natCast]
  refine setNext_at ho G h7 ?_ (Nat.le_refl _)
  rw [Array.getElem?_eq_none (by omega)]
  dsimp only [Option.map_none]
  refine wpAny_bind (wpAny_setField_rec hI (by simp) fun h₁ e₁ s₁ => ?_)
  refine wpAny_mono (stop_now (A := A.in1) hh fun e h' l' he => ?_) (fun _ _ f => f.elim) fun _ _ e => e
  obtain ⟨oe, hoe, hce⟩ := he
  refine wpAny_bind (wpAny_isInstance (T := "StopIteration") (b := true) ⟨_, hoe, hce⟩ isSubtype_stop ?_)
  refine wpAny_pure (k _ ?_)
  exact (Ext.of_sameBut s₁).trans (Ext.of_le (W := []) l') (by simp)

theorem walks_set (hh : A.handled = none) (I S : Addr) (hne : S ≠ I) (es : Array (Int × Value)) (ep : Nat) (tb : SetTable) (G : GT (byT w) es tb) (h7 : es.size ≤ 7) :
    Walks prog w A I [I, S] [I] es.size (fun i v => ∃ e, (ordS w S es ep)[i]? = some e ∧ v = e.2) (fun i h => h.get? I = some (setI S (slotS w tb i) i es.size ep) ∧ h.get? S = some (setO es ep tb)) where
  sub := fun b hb => by simp at hb; simp [hb]
  frame := fun _ _ _ st hk => ⟨hk I (by simp) _ st.1, hk S (by simp) _ st.2⟩
  item := fun i s Q E hi st hQ => by
    have hlen : (ordS w S es ep).size = es.size := by
      have := (ordS_perm w S es ep).length_eq
      simpa using this
    have hx : (ordS w S es ep)[i]? = some (ordS w S es ep)[i] := by simp [hlen, hi]
    refine seti_item st.1 st.2 G h7 hx (Nat.le_of_lt hi) fun h' e' s' => ?_
    exact hQ _ h' s.toks ⟨_, hx, rfl⟩ ⟨e', s'.extBut _ _ hne st.2⟩ fun b o hb e => s'.extBut b o (fun h => hb (by simp [h])) e
  done := fun s Q E st hQ => seti_end hh st.1 st.2 G h7 fun h' he' => hQ h' s.toks fun b o hb e => he' b o hb e
  self := fun _ s _ _ st hQ => by
    refine wpAny_pyIter_slot (T := "set_iterator") ⟨_, st.1, rfl⟩ slot_seti_iter (wpAny_call_entry slot_seti_iter ⟨_, st.1, rfl⟩ entry_seti_iter ?_ (args_seti_iter _))
    show wpAny _ _ (ret (.ref I)) _ _ _
    exact wpAny_pure ⟨_, rfl, "set_iterator", _, ⟨_, st.1, rfl⟩, slot_seti_next.lookup, hQ⟩
end
end Mine
end

section
open PySem PySem.W PySem.Calls PyProof.Rows Builtin Builtin.ObjectAttr
set_option maxRecDepth 100000
namespace Mine
open SetTable
section
variable {prog : Program} {w : World} {A : Around} {E : Value → Shared → Prop} {h : Heap} {g : Array GenState} {d : Drawn} {t : Nat} {os : OsState}

theorem set_iter {S : Addr} {es : Array (Int × Value)} {ep : Nat} {tb : SetTable} {Q : Value → Shared → Prop} (ho : h.get? S = some (setO es ep tb)) (G : GT (byT w) es tb) (h7 : es.size ≤ 7)
    (k : ∀ h', h'.get? h.objs.size = some (setI S (slotS w tb 0) 0 es.size ep) → Le h h' → Q (.ref h.objs.size) ⟨h', g, d, t, os⟩) : wpAny (model prog w) A (pyIter (.ref S)) Q E ⟨h, g, d, t, os⟩ := by
  have hf := G.fits h7
  have hT : Shared.TypeIs ⟨h, g, d, t, os⟩ (.ref S) "set" := ⟨_, ho, rfl⟩
  refine wpAny_pyIter_slot hT PySem.F.slot_set_iter (wpAny_call_entry PySem.F.slot_set_iter hT entry_set_iter ?_ (PySem.F.args_set_iter_1 _))
  unfold Builtin.«frozenset.__iter__» Builtin.Frozenset.slot0 Builtin.Frozenset.sizeOf
  refine wpAny_bind (wpAny_bind (m := slotArgs _ _ _) (wpAny_pure ?_))
  unfold Builtin.Frozenset.addrOf
  refine wpAny_pure ?_
  refine wpAny_bind (wpAny_bind (wpAny_setEntries_of ho rfl hf (wpAny_pure ?_)))
  refine wpAny_bind (m := setDrawn S) ?_
  unfold setDrawn
  refine wpAny_bind (wpAny_setState_of ho rfl hf ?_)
  dsimp only
  unfold setsByText
  refine wpAny_bind (wpAny_bind (wpAny_askSetting (wpAny_pure (wpAny_pure ?_))))
  split
  · rename_i hd
    exact absurd (show (!byT w && (!tb.plain && decide (es.size > 1))) = true from hd) (by rw [G.pl]; simp)
  · refine wpAny_bind (wpAny_pure ?_)
    refine wpAny_bind (wpAny_setEpoch_of ho rfl hf ?_)
    have z : slotS w tb 0 = 0 := by unfold slotS; split <;> rfl
    refine wpAny_bind (wpAny_newObj_type (wpAny_pure ⟨_, rfl, "set_iterator", _, ⟨_, Heap.get?_push_size _ rfl, rfl⟩, slot_seti_next.lookup, k _ ?_ (push_le _ _)⟩))
    rw [z]
    exact Heap.get?_push_size _ rfl

theorem set_hint {S : Addr} {es : Array (Int × Value)} {ep : Nat} {tb : SetTable} {Q : Bool → Shared → Prop} (ho : h.get? S = some (setO es ep tb)) (k : ∀ bb t₂, Q bb ⟨h, g, d, t₂, os⟩) :
    wpAny (model prog w) A (Builtin.List.listLengthHint (.ref S)) Q E ⟨h, g, d, t, os⟩ := by
  have hT : Shared.TypeIs ⟨h, g, d, t, os⟩ (.ref S) "set" := ⟨_, ho, rfl⟩
  unfold Builtin.List.listLengthHint
  refine wpAny_bind (m := specialOf (.ref S) (Str.ofString "__len__")) (wpAny_specialOf hT PySem.F.slot_set_len.lookup ?_)
  dsimp only
  rw [show splitId "set.__len__" = some ("set", "__len__") by decide +kernel]
  dsimp only
  refine wpAny_bind (wpAny_isInstance (b := true) hT (by rw [isSubtype_type]; kernel_rfl) ?_)
  rw [if_neg (by decide), if_pos (by decide +kernel)]
  refine wpAny_bind (wpAny_typeOf hT ?_)
  exact wpAny_pure (k _ _)

theorem ints_of_all {es : Array (Int × Value)} {l : List (Int × Value)} (h : AllI es.toList) (p : l.Perm es.toList) : IntsAre (l.map (·.2)) (l.map vInt) := by
  have hl : AllI l := fun e he => h e (p.mem_iff.mp he)
  clear p h
  induction l with
  | nil => exact .nil
  | cons e r ih =>
    obtain ⟨i, t, he⟩ := hl e List.mem_cons_self
    rw [he]
    exact .cons i t (ih fun e' he' => hl e' (List.mem_cons_of_mem _ he'))

/-- sorted(set) -/
theorem sorted_set {S : Addr} {ms : List Int} {Q : Value → Shared → Prop} (hh : A.handled = none) (hS : GSet w h S ms) (h7 : ms.length ≤ 7)
    (k : ∀ h' tk r ns', IL h' r ns' → h.get? r = none → Le h h' → ns'.Perm ms → ns'.Pairwise (· ≤ ·) → Q (.ref r) ⟨h', g, d, tk, os⟩) :
    wpAny (model prog w) A (call (.builtin "sorted") [.ref S]) Q E ⟨h, g, d, t, os⟩ := by
  obtain ⟨es, ep, tb, ho, hal, rfl, hnd, G⟩ := hS
  have h7' : es.size ≤ 7 := by simpa using h7
  have hlen : (ordS w S es ep).size = es.size := by
    have := (ordS_perm w S es ep).length_eq
    simpa using this
  have hT : Looks (model prog w) h (typeOf (.ref S)) (.type "set") := (Looks.ld ho).andThen .now
  refine sorted_of (collect_any (A := A.in1) (a := S) (tv := .type "set") (n := es.size) (P := fun i v => ∃ e, (ordS w S es ep)[i]? = some e ∧ v = e.2) hh ⟨_, ho⟩ hT (by decide) (by omega) (fun h₁ Q E A t hh l₁ k => ?_) (fun h₁ Q E A t l₁ k => set_hint (l₁ _ _ ho) k) fun h' t' acc hacc l' => ?_)
  · refine set_iter (l₁ _ _ ho) G h7' fun h₂ hi l₂ => ?_
    exact k h₂ _ _ _ _ _ (walks_set hh h₁.objs.size S (Nat.ne_of_lt (Heap.lt_size (l₁ _ _ ho))) es ep tb G h7') ⟨hi, l₂ _ _ (l₁ _ _ ho)⟩ l₂ (by simpa using fresh_size h₁) (by simp)
  · have e : acc.toList = (ordS w S es ep).toList.map (·.2) := by
      obtain ⟨a1, a2⟩ := hacc
      apply List.ext_getElem?
      intro i
      by_cases hi : i < es.size
      · have hi' : acc[i]? = some acc[i] := by simp [a1, hi]
        obtain ⟨e, e1, e2⟩ := a2 i _ hi'
        rw [Array.getElem?_toList, hi', List.getElem?_map, Array.getElem?_toList, e1, e2]; rfl
      · rw [List.getElem?_eq_none (by rw [Array.length_toList]; omega), List.getElem?_eq_none (by rw [List.length_map, Array.length_toList]; omega)]
    rw [e]
    have hp := ordS_perm w S es ep
    refine ⟨h', t', _, rfl, l', ints_of_all hal hp, by rw [List.length_map, Array.length_toList]; omega, fun h₂ r ns' i f l p q => k h₂ _ r ns' i f l (p.trans (hp.map vInt)) q⟩

/-- len(set) -/
theorem len_set {S : Addr} {ms : List Int} {Q : Value → Shared → Prop} (hS : GSet w h S ms) (h7 : ms.length ≤ 7)
    (k : ∀ u tk, Q (.int ms.length u) ⟨h, g, d, tk, os⟩) : wpAny (model prog w) A (call (.builtin "len") [.ref S]) Q E ⟨h, g, d, t, os⟩ := by
  obtain ⟨es, ep, tb, ho, hal, rfl, hnd, G⟩ := hS
  have h7' : es.size ≤ 7 := by simpa using h7
  refine call_len_set ho ⟨rfl, rfl, rfl⟩ rfl (G.fits h7') (by omega) ?_
  simpa using k _ _
end
end Mine
end

section
open PySem PySem.W PySem.Calls PyProof.Rows Builtin Builtin.ObjectAttr
set_option maxRecDepth 100000
namespace Mine

/-- ints or None -/
inductive Opts : List Value → List (Option Int) → Prop
  | nil : Opts [] []
  | none {vs os} : Opts vs os → Opts (.none :: vs) (none :: os)
  | some (n : Int) (t : Tok) {vs os} : Opts vs os → Opts (.int n t :: vs) (some n :: os)
theorem Opts.len : ∀ {vs os}, Opts vs os → vs.length = os.length
  | _, _, .nil => rfl
  | _, _, .none h => by simp [Opts.len h]
  | _, _, .some _ _ h => by simp [Opts.len h]
def notNone (v : Value) : Bool := !(v == .none)
theorem Opts.told : ∀ {vs os}, Opts vs os → IntsAre (vs.filter notNone) (os.filterMap id)
  | _, _, .nil => .nil
  | _, _, .none h => by
    have := Opts.told h
    simpa [notNone] using this
  | _, _, .some n t h => by
    have := Opts.told h
    have e : notNone (.int n t) = true := by simp [notNone]
    rw [List.filter_cons, if_pos e]
    exact .cons n t this
def OL (h : Heap) (a : Addr) (os : List (Option Int)) : Prop := ∃ its n, h.get? a = some (listO (List.toArray its) n) ∧ Opts its os
theorem OL.le {h h' : Heap} {a : Addr} {os : List (Option Int)} (x : OL h a os) (l : Le h h') : OL h' a os := let ⟨its, n, e, i⟩ := x; ⟨its, n, l _ _ e, i⟩

section
variable {prog : Program} {w : World} {A : Around} {E : Value → Shared → Prop} {h : Heap} {g : Array GenState} {d : Drawn} {t : Nat} {os : OsState} {b : Heap} {env : Env}

theorem llen {l : Addr} {vs : List Value} {n : Nat} {Q : Value → Shared → Prop} (ho : h.get? l = some (listO vs.toArray n)) (hz : vs.length ≤ 1000) (k : ∀ u tk, Q (.int vs.length u) ⟨h, g, d, tk, os⟩) :
    wpAny (model prog w) A (call (.builtin "len") [.ref l]) Q E ⟨h, g, d, t, os⟩ := by
  refine call_len_list (items := vs.toArray) ⟨_, ho, rfl, _, rfl⟩ (by simp; omega) ?_
  simpa using k _ _
theorem any_ints {vs : List Value} {ns : List Int} (hI : IntsAre vs ns) (v : Int) : (vs.toArray.any fun y => match y with | .int a _ => a == v | _ => false) = ns.contains v := by
  rw [List.any_toArray]
  induction hI with
  | nil => rfl
  | cons n t h ih =>
    rw [List.any_cons, List.contains_cons, ih]
    rw [show (v == n) = (n == v) from BEq.comm]
theorem lin {l : Addr} {ns : List Int} {v : Int} {u : Tok} {Q : Value → Shared → Prop} (hl : IL h l ns) (k : Q (.bool (ns.contains v)) ⟨h, g, d, t, os⟩) :
    wpAny (model prog w) A (compareOp .In (.int v u) (.ref l)) Q E ⟨h, g, d, t, os⟩ := by
  obtain ⟨vs, n, e, hI⟩ := hl
  refine SeqAt.in_listAt (items := vs.toArray) (fun y => match y with | .int a _ => a == v | _ => false) ⟨_, e, rfl, _, rfl⟩ (fun y hy => ?_) (by rw [any_ints hI]; exact k)
  obtain ⟨a, t, rfl⟩ := IntsAre.all hI y (by simpa using hy)
  exact SeqAt.EqAt.int_int a t v u
theorem lnin {l : Addr} {ns : List Int} {v : Int} {u : Tok} {Q : Value → Shared → Prop} (hl : IL h l ns) (k : Q (.bool (!ns.contains v)) ⟨h, g, d, t, os⟩) :
    wpAny (model prog w) A (compareOp .NotIn (.int v u) (.ref l)) Q E ⟨h, g, d, t, os⟩ := by
  obtain ⟨vs, n, e, hI⟩ := hl
  refine SeqAt.notIn_listAt (items := vs.toArray) (fun y => match y with | .int a _ => a == v | _ => false) ⟨_, e, rfl, _, rfl⟩ (fun y hy => ?_) (by rw [any_ints hI]; exact k)
  obtain ⟨a, t, rfl⟩ := IntsAre.all hI y (by simpa using hy)
  exact SeqAt.EqAt.int_int a t v u
theorem lsum {l : Addr} {ns : List Int} {Q : Value → Shared → Prop} (hh : A.handled = none) (hl : IL h l ns) (k : ∀ h' u tk, Le h h' → Q (.int ns.sum u) ⟨h', g, d, tk, os⟩) :
    wpAny (model prog w) A (call (.builtin "sum") [.ref l]) Q E ⟨h, g, d, t, os⟩ := by
  obtain ⟨vs, n, e, hi⟩ := hl
  obtain ⟨xs, hx⟩ := hi.allInts.items
  have hn : numsOf vs.toArray.toList = ns := by rw [show vs.toArray.toList = vs from rfl, hi.numsOf]
  rw [hx] at e hn
  rw [nums_intItems] at hn
  refine sum_intListG hh ⟨_, e, rfl, _, rfl⟩ fun h' tk t' hk => ?_
  have := k h' t' tk hk
  rw [preSum_eq, List.take_of_length_le (by simp), hn]
  exact this

/-- a cell variable, read -/
theorem lcell {x : Str} {pos : Pos} {c : Addr} {v : Value} {Q : Value → Shared → Prop} (hc : env.cells.lookup x = some c) (hv : h.IsCell c (some v)) (k : Q v ⟨h, g, d, t, os⟩)
    (hk : env.scope.kind = .function := by rfl) (hl : env.kindOf x = some .cell := by rfl) (hd : (x == ("__debug__" : Str)) = false := by decide) : wpAny (model prog w) A (eval (.Name x pos) env) Q E ⟨h, g, d, t, os⟩ :=
  wpAny_Name (wpAny_loadName_cell hk hl hc hv k) hd
/-- a cell variable, stored -/
theorem scell {x : Str} {c : Addr} {v₀ : Option Value} {v : Value} {Q : Unit → Shared → Prop} (hc : env.cells.lookup x = some c) (hv : h.IsCell c v₀) (k : ∀ h', h'.IsCell c (some v) → Ext [c] h h' → Q () ⟨h', g, d, t, os⟩)
    (hk : env.scope.kind = .function := by rfl) (hl : env.kindOf x = some .cell := by rfl) : wpAny (model prog w) A (storeName env x v) Q E ⟨h, g, d, t, os⟩ :=
  wpAny_storeName_cell hk hl hc hv fun h' hv' hs => k h' hv' (Ext.of_sameBut hs)

/-- a call of a def of the text with cell variables -/
theorem uclC {n : Nat} {f : Addr} {oc : Value} {od : Option Addr} {osl : Array (Option Value)} {name qual : Str} {params : Arguments} {body : List Stmt} {scope : Scope} {dV kV doc pm cdv ct : Value} {an : Option Addr}
    {pos : List Value} {binds : List (Str × Value)} {Q : Value → Shared → Prop}
    (S : Sys w b) (l : Le b h) (Rm : Room A (n + 1))
    (ho : (KK w.params).lookup f = some ⟨oc, od, .func (fnOf name qual params body scope dV kV doc pm an cdv ct), osl⟩) (hcd : codeIn (KK w.params) cdv qual = true)
    (hbind : bindArgs (fnOf name qual params body scope dV kV doc pm an cdv ct) ⟨pos, []⟩ = pure binds)
    (hkind : ∀ n, ∀ x ∈ binds, scope.names.lookup x.1 = some .local ∨ (scope.names.lookup x.1 = some .cell ∧ ((cellsFrom n scope.names []).lookup x.1).isSome = true))
    (k : ∀ A L h₁ E' u, h₁.Ns L (bindL (envOfC qual scope L f cdv).kindOf binds fun _ => none) →
      (∀ n c, (cellsFrom (L + 1) scope.names []).lookup n = some c → h₁.IsCell c (bindC (envOfC qual scope L f cdv).kindOf binds (fun _ => none) n) ∧ h.get? c = none ∧ c ≠ L) →
      Le h h₁ → h.get? L = none → b.get? L = none → Le b h₁ → Room A n →
      wpAny (model prog w) A (execs body (envOfC qual scope L f cdv)) (fun fl s' => Q (fv fl) s') E' ⟨h₁, g, d, u, os⟩)
    (hco : scope.isCoroutine = false := by rfl) (hgen : scope.isGenerator = false := by rfl) (hk : scope.kind = .function := by rfl) :
    wpAny (model prog w) A (call (.ref f) pos) Q E ⟨h, g, d, t, os⟩ := by
  obtain ⟨mg, mb, T⟩ := S.T
  refine wpAny_call (codeAny_call_cells (fd := fnOf name qual params body scope dV kV doc pm an cdv ct) Rm.here (l _ _ (S.X _ _ ho)) rfl (T.nolimit.keeps l) (codeRec_of (S.X.keeps l) hcd) rfl hbind rfl (hkind _) (fun s₁ X => ?_) hco hgen hk)
  obtain ⟨h₁, tk, rfl, hk₁⟩ := X.done
  have hL := fresh_size h
  refine wpAny_mono (k _ h.objs.size h₁ _ tk X.toInCall.ns (fun n c hc => ⟨X.cell n c hc, ?_, ?_⟩) hk₁ hL (l.fresh hL) (l.trans hk₁) Rm.deeper) (fun fl s' q => by cases fl <;> exact q) fun _ _ e => e
  · have hlt := X.above n c (mem_of_lookup hc)
    cases e : h.get? c with
    | none => rfl
    | some o => exact absurd (Heap.lt_size e) (Nat.not_lt.mpr (Nat.le_of_lt hlt))
  · exact Nat.ne_of_gt (X.above n c (mem_of_lookup hc))
end
end Mine
end

section
open PySem PySem.W PySem.Calls PyProof.Rows Builtin Builtin.ObjectAttr
set_option maxRecDepth 100000
namespace Mine

theorem b_set (P : Params) : nsIn (KK P) mainGlobals (Str.ofString "set") = some none := by kernel_rfl
theorem bb_set : bootBuiltins (Str.ofString "set") = some (.type "set") := by kernel_rfl
theorem b_sum (P : Params) : nsIn (KK P) mainGlobals (Str.ofString "sum") = some none := by kernel_rfl
theorem bb_sum : bootBuiltins (Str.ofString "sum") = some (.builtin "sum") := by kernel_rfl
theorem b_sorted (P : Params) : nsIn (KK P) mainGlobals (Str.ofString "sorted") = some none := by kernel_rfl
theorem bb_sorted : bootBuiltins (Str.ofString "sorted") = some (.builtin "sorted") := by kernel_rfl

def scoreOf (line : List (Option Int)) (fs : List Int) : Int := (List.zipWith (fun (v : Option Int) (f : Int) => match v with | some x => x * f | none => 0) line fs).sum
def toldOf (line : List (Option Int)) : List Int := line.filterMap id
/-- what the law holds to be sound -/
def soundP (kind n : Int) (ms : List Int) (line : List (Option Int)) : Bool :=
  if kind = 0 then decide (toldOf line).Nodup
  else if kind = 1 then decide (∀ a ∈ toldOf line, ∀ b ∈ toldOf line, a = b)
  else if kind = 2 then decide (scoreOf line [1, 2, -1, 3] ≤ n)
  else decide ((((toldOf line).filter fun v => ms.contains v == (kind == 4)).length : Int) ≤ line.length - n)

theorem len_nodup_iff : ∀ (l ms : List Int), ms.Nodup → (∀ v, v ∈ ms ↔ v ∈ l) → (ms.length = l.length ↔ l.Nodup)
  | [], ms, hd, hs => by
    have : ms = [] := List.eq_nil_iff_forall_not_mem.mpr fun v hv => by simpa using (hs v).mp hv
    simp [this]
  | x :: r, ms, hd, hs => by
    have hx : x ∈ ms := (hs x).mpr List.mem_cons_self
    have hl : (ms.erase x).length = ms.length - 1 := List.length_erase_of_mem hx
    have hp : 0 < ms.length := List.length_pos_of_mem hx
    by_cases hr : x ∈ r
    · have : ms.length ≤ r.length := by
        have := nodup_len (i := r.length) hd (fun v => by rw [List.take_length, hs v]; simp; intro e; exact e ▸ hr)
        exact this
      constructor
      · intro e; simp at e; omega
      · intro q; exact absurd hr (List.nodup_cons.mp q).1
    · have ih := len_nodup_iff r (ms.erase x) (hd.erase x) fun v => by
        rw [hd.mem_erase_iff, hs v]
        constructor
        · rintro ⟨h1, h2⟩
          exact (List.mem_cons.mp h2).resolve_left h1
        · intro h; exact ⟨fun e => hr (e ▸ h), List.mem_cons_of_mem _ h⟩
      rw [List.nodup_cons, ← ih, hl]
      simp only [List.length_cons]
      constructor
      · intro e; exact ⟨hr, by omega⟩
      · rintro ⟨_, e⟩; omega
theorem len_one_iff (l ms : List Int) (hd : ms.Nodup) (hs : ∀ v, v ∈ ms ↔ v ∈ l) : ms.length < 2 ↔ ∀ a ∈ l, ∀ b ∈ l, a = b := by
  constructor
  · intro h a ha b hb
    have ha := (hs a).mpr ha
    have hb := (hs b).mpr hb
    match ms, h with
    | [], _ => simp at ha
    | [x], _ =>
      rw [List.mem_singleton] at ha hb
      rw [ha, hb]
  · intro h
    match ms, hd with
    | [], _ => simp
    | [x], _ => simp
    | x :: y :: r, hd =>
      exfalso
      have hx := (hs x).mp (by simp)
      have hy := (hs y).mp (by simp)
      have e := h x hx y hy
      rw [e] at hd
      simp at hd

def ZF (p : Value × Value) (r : Value) : Prop := ∃ x f t1 t2 t3, p = (.int x t1, .int f t2) ∧ r = .int (x * f) t3
theorem score_zip : ∀ {its vs ys fs rs}, Opts its vs → IntsAre ys fs → Paired ZF ((its.zip ys).filter fun p => notNone p.1) rs → ∃ ns, IntsAre rs ns ∧ ns.sum = scoreOf vs fs
  | _, _, _, _, rs, .nil, _, h => by
    simp at h; cases h
    exact ⟨[], .nil, rfl⟩
  | _, _, _, _, rs, .none _, .nil, h => by
    simp at h; cases h
    exact ⟨[], .nil, rfl⟩
  | _, _, _, _, rs, .some _ _ _, .nil, h => by
    simp at h; cases h
    exact ⟨[], .nil, rfl⟩
  | _, _, _, _, rs, .none ho, .cons f t hi, h => by
    obtain ⟨ns, h1, h2⟩ := score_zip ho hi (by simpa [notNone] using h)
    exact ⟨ns, h1, by rw [h2]; simp [scoreOf]⟩
  | _, _, _, _, rs, .some x tx ho, .cons f t hi, h => by
    rw [List.zip_cons_cons, List.filter_cons, if_pos (by simp [notNone])] at h
    cases h with
    | cons hz ht =>
      obtain ⟨x', f', t1, t2, t3, e, rfl⟩ := hz
      cases e
      obtain ⟨ns, h1, h2⟩ := score_zip ho hi ht
      exact ⟨_ :: ns, .cons _ _ h1, by rw [List.sum_cons, h2]; simp [scoreOf]⟩

section
variable {prog : Program} {w : World} {A : Around} {E : Value → Shared → Prop} {h : Heap} {g : Array GenState} {d : Drawn} {t : Nat} {os : OsState} {b : Heap} {Q : Value → Shared → Prop}

theorem eqb {x y : Bool} {s : Shared} {Q : Value → Shared → Prop} (k : Q (.bool (x == y)) s) : wpAny (model prog w) A (compareOp .Eq (.bool x) (.bool y)) Q E s := SeqAt.RcAt.bool_bool x y prog w E Q k

theorem paired_self {vs ys : List Value} (h : Paired (fun v y => y = v) vs ys) : ys = vs := by
  induction h with
  | nil => rfl
  | cons e _ ih => rw [e, ih]

theorem sound_spec {kind n : Int} {u u' : Tok} {ms lna : Addr} {nsm : List Int} {vs : List (Option Int)} (S : Sys w b) (l : Le b h) (Rm : Room A 2) (hms : IL h ms nsm) (hln : OL h lna vs) (h4 : vs.length ≤ 4)
    (k : ∀ h' tk, Le h h' → Q (.bool (soundP kind n nsm vs)) ⟨h', g, d, tk, os⟩) :
    wpAny (model prog w) A (call (.ref 288) [.int kind u, .int n u', .ref ms, .ref lna]) Q E ⟨h, g, d, t, os⟩ := by
  refine uclC (n := 1) S l Rm (f := 288) (binds := [(Str.ofString "kind", .int kind u), (Str.ofString "n", .int n u'), (Str.ofString "members", .ref ms), (Str.ofString "line", .ref lna)]) rfl (by kernel_rfl) rfl (kindsX rfl) fun A L h₁ E' t₁ hn hc l₁ hL hbL lb Rm₁ => ?_
  obtain ⟨its, n1, e1, hO⟩ := hln
  have ck := (hc (Str.ofString "kind") _ rfl).1
  have cm := (hc (Str.ofString "members") _ rfl).1
  have hit := l₁ _ _ e1
  have hil : its.length ≤ 4 := by rw [hO.len]; exact h4
  -- told = [v for v in line if v is not None]
  refine wpAny_execs_cons (comp_asg .loc (fun v y _ => y = v) notNone rfl rfl ⟨rfl, fun _ => rfl⟩ (by decide) rfl rfl ?_)
  refine ln (v := .ref lna) hn rfl ?_
  refine it_list Rm₁.hh hit fun h₂ it hit₂ => ?_
  refine ⟨h₂, g, d, _, os, h₁, its.length, _, _, rfl, hit₂, by omega, hn, fun i v C h₃ tk hi hv l₃ ⟨m₃, hn₃, hm₃⟩ E'' => ?_, ?_⟩
  · refine wpAny_tests_one (wpAny_isTrue_Compare1 (ln (v := v) hn₃ hm₃ (cn (isNot_none (trb ⟨rfl, h₃, _, rfl, Le.refl _, fun _ => ?_⟩)))) rfl)
    exact ln (v := v) hn₃ hm₃ ⟨h₃, _, rfl, Le.refl _, fun _ _ _ => rfl⟩
  intro D h₃ h₄ tk ys vs' n' hlen hP hF l₃ x₄ hD hDg hDg₄ hn₄
  have hvs : vs' = its := by
    apply List.ext_getElem?
    intro i
    by_cases hi : i < its.length
    · have : vs'[i]? = some vs'[i] := by rw [List.getElem?_eq_getElem]
      rw [this, hP i _ this]
    · rw [List.getElem?_eq_none (by omega), List.getElem?_eq_none (by omega)]
  subst hvs
  have hys := paired_self hF
  subst hys
  have x₄ : Ext [L] h₃ h₄ := x₄
  have lL : ∀ {p : Addr} {o : Obj}, p ≠ L → h₁.get? p = some o → h₄.get? p = some o := fun hp e => x₄ _ _ (by simpa using hp) (l₃ _ _ e)
  have lh₄ : Le h h₄ := fun p o e => lL (fun q => not_some hL ⟨_, q ▸ e⟩) (l₁ _ _ e)
  have lb₄ : Le b h₄ := l.trans lh₄
  have ck₄ : h₄.IsCell (L + 1) (some (.int kind u)) := let ⟨o, ho, hd⟩ := ck; ⟨o, lL (Nat.succ_ne_self _) ho, hd⟩
  have cm₄ : h₄.IsCell (L + 2) (some (.ref ms)) := let ⟨o, ho, hd⟩ := cm; ⟨o, lL (Nat.ne_of_gt (Nat.lt_add_of_pos_right (by decide))) ho, hd⟩
  have hI : IntsAre (vs'.filter notNone) (toldOf vs) := hO.told
  have hIl : (vs'.filter notNone).length ≤ 4 := Nat.le_trans (List.length_filter_le _ _) hil
  have hml := hms.le lh₄
  have hnl : (toldOf vs).length = (vs'.filter notNone).length := hI.length.symm
  generalize hdT : vs'.filter notNone = its2 at *
  -- if kind == 0
  refine wpAny_execs_cons (wpAny_If (wpAny_isTrue_Compare1 (lcell rfl ck₄ (ci fun _ _ => eqi (trb ?_))) rfl))
  by_cases h0 : kind = 0
  · rw [if_pos (by simpa using h0)]
    refine wpAny_execs_cons (ret' (wpAny_Compare1 (ncall (bname S lb₄ (b_len _) bb_len (by decide) (cw1 (ncall (bname S lb₄ (b_set _) bb_set (by decide) (cwt1 (ln (v := .ref D) hn₄ rfl ?_))))))) rfl))
    refine set_of_list Rm₁.hh hDg₄ hI hIl fun h₅ t₅ Sa ms' hS hm hml' l₅ f₅ => ?_
    refine len_set hS (by omega) fun u₆ t₆ => ?_
    refine ncall (bname S (lb₄.trans l₅) (b_len _) bb_len (by decide) (cw1 (ln (v := .ref D) (hn₄.keeps l₅) rfl ?_)))
    refine llen (l₅ _ _ hDg₄) (by omega) fun u₇ t₇ => ?_
    refine eqi ?_
    have hnd : ms'.Nodup := let ⟨_, _, _, _, _, _, q, _⟩ := hS; q
    have e : ((ms'.length : Int) == (its2.length : Int)) = soundP kind n nsm vs := by
      unfold soundP
      rw [if_pos h0, ← hnl, Bool.eq_iff_iff, beq_iff_eq, decide_eq_true_eq, ← len_nodup_iff _ _ hnd hm]
      omega
    rw [e]
    exact k _ _ (lh₄.trans l₅)
  rw [if_neg (by simpa using h0)]
  refine wpAny_execs_nil (wpAny_execs_cons (wpAny_If (wpAny_isTrue_Compare1 (lcell rfl ck₄ (ci fun _ _ => eqi (trb ?_))) rfl)))
  by_cases h1 : kind = 1
  · rw [if_pos (by simpa using h1)]
    refine wpAny_execs_cons (ret' (wpAny_Compare1 (ncall (bname S lb₄ (b_len _) bb_len (by decide) (cw1 (ncall (bname S lb₄ (b_set _) bb_set (by decide) (cwt1 (ln (v := .ref D) hn₄ rfl ?_))))))) rfl))
    refine set_of_list Rm₁.hh hDg₄ hI hIl fun h₅ t₅ Sa ms' hS hm hml' l₅ f₅ => ?_
    refine len_set hS (by omega) fun u₆ t₆ => ?_
    refine ci fun _ _ => lti ?_
    have hnd : ms'.Nodup := let ⟨_, _, _, _, _, _, q, _⟩ := hS; q
    have e : decide ((ms'.length : Int) < 2) = soundP kind n nsm vs := by
      unfold soundP
      rw [if_neg h0, if_pos h1]
      congr 1
      rw [← len_one_iff _ _ hnd hm]
      exact propext ⟨fun q => by omega, fun q => by omega⟩
    rw [e]
    exact k _ _ (lh₄.trans l₅)
  rw [if_neg (by simpa using h1)]
  refine wpAny_execs_nil (wpAny_execs_cons (wpAny_If (wpAny_isTrue_Compare1 (lcell rfl ck₄ (ci fun _ _ => eqi (trb ?_))) rfl)))
  by_cases h2 : kind = 2
  · rw [if_pos (by simpa using h2)]
    refine wpAny_execs_cons (ret' (wpAny_Compare1 (ncall (bname S lb₄ (b_sum _) bb_sum (by decide) (cw1 ?_))) rfl))
    refine comp_zip ZF (fun p => notNone p.1) Rm₁.hh S lb₄ rfl (by decide) (by decide) rfl rfl (by decide) ?_
    refine ln (v := .ref lna) hn₄ rfl ?_
    refine ldisp (spliced_cons (ci (k := 0) (pos := default) fun _ _ => spliced_cons (ci (k := 0) (pos := default) fun _ _ => spliced_cons (wpAny_UnaryOp (ci fun _ _ => negi fun _ _ => spliced_cons (ci (k := 0) (pos := default) fun _ _ => spliced_nil ?_))))))
    refine ⟨_, _, _, _, _, rfl, by simp, fun h₅ lm n₅ e₅ f₅ l₅ => ?_⟩
    have hI4 : ∀ a b c d, IntsAre [.int 1 a, .int 2 b, .int (-1) c, .int 3 d] [1, 2, -1, 3] := fun a b c d => .cons 1 _ (.cons 2 _ (.cons (-1) _ (.cons 3 _ .nil)))
    refine ⟨h₅, g, d, _, os, lna, lm, vs', _, n1, n₅, rfl, rfl, rfl, l₅ _ _ (lh₄ _ _ e1), e₅, by simp; omega, fun i x f C m h₆ tk₆ E'' hx hf l₆ hnC mx mf => ?_, fun D' h₆ t₆ rs n₆ hP l₆ f₆ e₆ => ?_⟩
    · refine wpAny_isTrue_Compare1 (ln (v := x) hnC mx (cn (isNot_none (trb ⟨rfl, h₆, _, rfl, Le.refl _, fun hok => ?_⟩)))) rfl
      obtain ⟨xi, tx, rfl⟩ : ∃ xi tx, x = .int xi tx := by
        have : ∀ {its : List Value} {vs : List (Option Int)}, Opts its vs → ∀ (i : Nat) y, its[i]? = some y → notNone y = true → ∃ xi tx, y = .int xi tx := by
          intro its vs ho
          induction ho with
          | nil => intro i y h; simp at h
          | none _ ih =>
            intro i y h hn
            cases i with
            | zero => simp at h; subst h; simp [notNone] at hn
            | succ i => exact ih i y (by simpa using h) hn
          | some n t _ ih =>
            intro i y h hn
            cases i with
            | zero => simp at h; exact ⟨n, t, h.symm⟩
            | succ i => exact ih i y (by simpa using h) hn
        exact this hO i x hx hok
      obtain ⟨fi, tf, rfl, hfi⟩ := (hI4 _ _ _ _).at i f hf
      have hfm : fi ∈ ([1, 2, -1, 3] : List Int) := List.mem_of_getElem? hfi
      refine wpAny_BinOp (ln (v := .int xi tx) hnC mx (ln (v := .int fi tf) hnC mf (muli ?_ fun t₇ u₇ => ⟨h₆, _, rfl, Le.refl _, _, _, _, _, _, rfl, rfl⟩)))
      refine IntMulOk.of_right ?_
      simp at hfm
      rcases hfm with rfl | rfl | rfl | rfl <;> decide
    · obtain ⟨ns, hns, hsum⟩ := score_zip hO (hI4 _ _ _ _) hP
      refine lsum Rm₁.hh ⟨rs, _, e₆, hns⟩ fun h₇ u₇ t₇ l₇ => ?_
      refine ln (v := .int n u') (((hn₄.keeps l₅).keeps l₆).keeps l₇) rfl (lei ?_)
      have e : decide (ns.sum ≤ n) = soundP kind n nsm vs := by
        unfold soundP
        rw [if_neg h0, if_neg h1, if_pos h2, hsum]
      rw [e]
      exact k _ _ (((lh₄.trans l₅).trans l₆).trans l₇)
  rw [if_neg (by simpa using h2)]
  refine wpAny_execs_nil (wpAny_execs_cons (ret' (wpAny_Compare1 (ncall (bname S lb₄ (b_len _) bb_len (by decide) (cw1 ?_))) rfl)))
  refine comp_eval .loc (fun v y _ => y = v) (fun v => match v with | .int x _ => nsm.contains x == (kind == 4) | _ => false) rfl ⟨rfl, fun _ => rfl⟩ (by decide) ?_
  refine ln (v := .ref D) hn₄ rfl ?_
  refine it_list Rm₁.hh hDg₄ fun h₅ it₅ hit₅ => ?_
  refine ⟨h₅, g, d, _, os, h₄, its2.length, _, rfl, hit₅, by omega, fun i v C h₆ tk₆ hi hv l₆ ⟨m₆, hn₆, hm₆⟩ E'' => ?_, fun D' h₆ t₆ rs vs2 n₆ hlen2 hP2 hF2 l₆ f₆ e₆ => ?_⟩
  · obtain ⟨x, tx, rfl, hx⟩ := hI.at i v hv
    have ck₆ : h₆.IsCell (L + 1) (some (.int kind u)) := ck₄.keeps l₆
    have cm₆ : h₆.IsCell (L + 2) (some (.ref ms)) := cm₄.keeps l₆
    refine wpAny_tests_one (wpAny_isTrue_Compare1 (wpAny_Compare1 (ln (v := .int x tx) hn₆ hm₆ (lcell rfl cm₆ (lin (hml.le l₆) ?_))) rfl) rfl)
    refine wpAny_Compare1 (lcell rfl ck₆ (ci fun _ _ => eqi ?_)) rfl
    refine eqb (trb ⟨rfl, h₆, _, rfl, Le.refl _, fun _ => ?_⟩)
    exact ln (v := .int x tx) hn₆ hm₆ ⟨h₆, _, rfl, Le.refl _, fun _ _ _ => rfl⟩
  have hv2 : vs2 = its2 := by
    apply List.ext_getElem?
    intro i
    by_cases hi : i < its2.length
    · have : vs2[i]? = some vs2[i] := by rw [List.getElem?_eq_getElem]
      rw [this, hP2 i _ this]
    · rw [List.getElem?_eq_none (by omega), List.getElem?_eq_none (by omega)]
  subst hv2
  have hrs := paired_self hF2
  subst hrs
  have hcnt : ∀ {l : List Value} {ns : List Int}, IntsAre l ns → (l.filter (fun v => match v with | .int x _ => nsm.contains x == (kind == 4) | _ => false)).length = (ns.filter fun x => nsm.contains x == (kind == 4)).length := by
    intro l ns hI
    induction hI with
    | nil => rfl
    | cons n t _ ih =>
      rw [List.filter_cons, List.filter_cons]
      by_cases q : (nsm.contains n == (kind == 4)) = true
      · rw [if_pos q, if_pos q, List.length_cons, List.length_cons, ih]
      · rw [if_neg q, if_neg q, ih]
  refine llen e₆ (Nat.le_trans (List.length_filter_le _ _) (by omega)) fun u₇ t₇ => ?_
  refine wpAny_BinOp (ncall (bname S (lb₄.trans l₆) (b_len _) bb_len (by decide) (cw1 (ln (v := .ref lna) (hn₄.keeps l₆) rfl ?_))))
  refine llen (l₆ _ _ (lh₄ _ _ e1)) (by omega) fun u₈ t₈ => ?_
  refine ln (v := .int n u') (hn₄.keeps l₆) rfl (subi fun t₉ u₉ => lei ?_)
  have e : decide (((vs2.filter (fun v => match v with | .int x _ => nsm.contains x == (kind == 4) | _ => false)).length : Int) ≤ (vs'.length : Int) - n) = soundP kind n nsm vs := by
    unfold soundP
    rw [if_neg h0, if_neg h1, if_neg h2, hcnt hI, hO.len]
  rw [e]
  exact k _ _ (lh₄.trans l₆)
end
end Mine
end

section
open PySem PySem.W PySem.Calls PyProof.Rows Builtin Builtin.ObjectAttr
set_option maxRecDepth 100000
namespace Mine

/-- a dict with int keys -/
structure ID (prog : Program) (w : World) (h : Heap) (a : Addr) (kvs : List (Int × Value)) : Prop where
  lo : (a == sysModules) = false
  d : h.DictOf (intKind prog w) a kvs
theorem ID.le {prog : Program} {w : World} {h h' : Heap} {a : Addr} {kvs : List (Int × Value)} (x : ID prog w h a kvs) (l : Le h h') : ID prog w h' a kvs := ⟨x.lo, x.d.keep l⟩
theorem ID.ext {prog : Program} {w : World} {h h' : Heap} {a : Addr} {kvs : List (Int × Value)} {W : List Addr} (x : ID prog w h a kvs) (l : Ext W h h') (ha : a ∉ W) : ID prog w h' a kvs := ⟨x.lo, x.d.at fun o e => l _ _ ha e⟩
theorem ID.live {prog : Program} {w : World} {h : Heap} {a : Addr} {kvs : List (Int × Value)} (x : ID prog w h a kvs) : ∃ o, h.get? a = some o ∧ o.cls = .type "dict" := let ⟨o, es, ep, ho, hc, _⟩ := x.d; ⟨o, ho, hc.1⟩
theorem Sys.big {w : World} {b h : Heap} (S : Sys w b) (l : Le b h) : (h.objs.size == sysModules) = false := by
  obtain ⟨mg, mb, T⟩ := S.T
  have := modules_low (T.nolimit.keeps l)
  rw [beq_eq_false_iff_ne]
  exact Nat.ne_of_gt this

section
variable {prog : Program} {w : World} {A : Around} {E : Value → Shared → Prop} {h : Heap} {g : Array GenState} {d : Drawn} {t : Nat} {os : OsState} {b : Heap} {env : Env} {a : Addr} {kvs : List (Int × Value)} {i : Int} {u : Tok}

theorem dnil {pos : Pos} {Q : Value → Shared → Prop} (S : Sys w b) (l : Le b h) (k : ∀ h' r, ID prog w h' r [] → h.get? r = none → Le h h' → Q (.ref r) ⟨h', g, d, t, os⟩) : wpAny (model prog w) A (eval (.Dict [] [] pos) env) Q E ⟨h, g, d, t, os⟩ :=
  wpAny_Dict_empty (k _ _ ⟨S.big l, Heap.DictOf.new h⟩ (fresh_size h) (push_le _ _))
theorem din {Q : Value → Shared → Prop} (D : ID prog w h a kvs) (k : ∀ tk, Q (.bool (valueAt kvs i).isSome) ⟨h, g, d, tk, os⟩) : wpAny (model prog w) A (compareOp .In (.int i u) (.ref a)) Q E ⟨h, g, d, t, os⟩ :=
  wpAny_in_of (intKind_is _ _ _ _) D.lo D.d.mapOf (k _)
theorem dnin {Q : Value → Shared → Prop} (D : ID prog w h a kvs) (k : ∀ tk, Q (.bool (!(valueAt kvs i).isSome)) ⟨h, g, d, tk, os⟩) : wpAny (model prog w) A (compareOp .NotIn (.int i u) (.ref a)) Q E ⟨h, g, d, t, os⟩ :=
  wpAny_notIn_of (intKind_is _ _ _ _) D.lo D.d.mapOf (k _)
theorem dgetk {v : Value} {Q : Value → Shared → Prop} (D : ID prog w h a kvs) (hv : valueAt kvs i = some v) (k : ∀ tk, Q v ⟨h, g, d, tk, os⟩) : wpAny (model prog w) A (getItem (.ref a) (.int i u)) Q E ⟨h, g, d, t, os⟩ :=
  wpAny_getItem_of (intKind_is _ _ _ _) D.d.mapOf hv (k _)
theorem gi_id {M : Model} (D : ID prog w h a kvs) : GI M h (.ref a) := let ⟨o, ho, hc⟩ := D.live; gi_dict ho hc
/-- d[i], by the form -/
theorem dsub {o ix : Expr} {pos : Pos} {s : Shared} {Q : Value → Shared → Prop}
    (k : wpAny (model prog w) A (eval o env) (fun ov s₁ => wpAny (model prog w) A (eval ix env) (fun iv s₂ => ∃ h g d t os a kvs i u v, s₂ = ⟨h, g, d, t, os⟩ ∧ ov = .ref a ∧ iv = .int i u ∧ ID prog w h a kvs ∧ valueAt kvs i = some v ∧ ∀ tk, Q v ⟨h, g, d, tk, os⟩) E s₁) E s) :
    wpAny (model prog w) A (eval (.Subscript o ix pos) env) Q E s :=
  subG (wpAny_mono k (fun ov s₁ k₁ => wpAny_mono k₁ (fun iv s₂ k₂ => by
    obtain ⟨h, g, d, t, os, a, kvs, i, u, v, rfl, rfl, rfl, D, hv, kk⟩ := k₂
    exact ⟨gi_id D, dgetk D hv kk⟩) fun _ _ e => e) fun _ _ e => e)
theorem dget2 {dflt : Value} {Q : Value → Shared → Prop} (D : ID prog w h a kvs) (k : ∀ tk, Q ((valueAt kvs i).getD dflt) ⟨h, g, d, tk, os⟩) : wpAny (model prog w) A (call (.builtin "dict.get") [.ref a, .int i u, dflt]) Q E ⟨h, g, d, t, os⟩ :=
  call_meetsIn PySem.F.slot_dict_get D.d.typeIs PySem.F.entry_dict_get (PySem.F.args_dict_get_3 _ _ _) (meets_dict_get_default (intKind prog w) a (intKind_is _ _ _ _) D.lo dflt) ⟨_, D.d.mapOf, k _⟩
theorem dget1 {Q : Value → Shared → Prop} (D : ID prog w h a kvs) (k : ∀ tk, Q ((valueAt kvs i).getD .none) ⟨h, g, d, tk, os⟩) : wpAny (model prog w) A (call (.builtin "dict.get") [.ref a, .int i u]) Q E ⟨h, g, d, t, os⟩ :=
  call_meetsIn PySem.F.slot_dict_get D.d.typeIs PySem.F.entry_dict_get (PySem.F.args_dict_get_2 _ _) (meets_dict_get (intKind prog w) a (intKind_is _ _ _ _) D.lo) ⟨_, D.d.mapOf, k _⟩
theorem dmeth_get {pl : Sem Bool} {Q : Value × List Value → Shared → Prop} (D : ID prog w h a kvs) (k : Q (.builtin "dict.get", [.ref a]) ⟨h, g, d, t, os⟩) : wpAny (model prog w) A (getMethod (.ref a) (Str.ofString "get") pl) Q E ⟨h, g, d, t, os⟩ :=
  getMethod_builtin D.d.typeIs PySem.F.plainAttrs_dict PySem.F.slot_dict_get PySem.F.type_dict_get D.d.mapOf.noDict k
theorem dset {v : Value} {Q : Unit → Shared → Prop} (D : ID prog w h a kvs) (hz : kvs.length ≤ 1000) (k : ∀ h' tk, ID prog w h' a (stored kvs i v) → Ext [a] h h' → Q () ⟨h', g, d, tk, os⟩) : wpAny (model prog w) A (setItem (.ref a) (.int i u) v) Q E ⟨h, g, d, t, os⟩ :=
  wpAny_setItem_pairs (intKind_is _ _ _ _) D.d (fun h' D' hs => k h' _ ⟨D.lo, D'⟩ (Ext.of_sameBut hs)) (by rw [sizeLine_eq]; omega)
theorem dcopy {Q : Value → Shared → Prop} (S : Sys w b) (l : Le b h) (D : ID prog w h a kvs) (hz : kvs.length ≤ 1000) (k : ∀ h' r, ID prog w h' r kvs → h.get? r = none → Le h h' → Q (.ref r) ⟨h', g, d, t, os⟩) :
    wpAny (model prog w) A (call (.type "dict") [.ref a]) Q E ⟨h, g, d, t, os⟩ :=
  kt_call_dict D.lo D.d (by rw [sizeLine_eq]; omega) fun h' D' hs => k h' _ ⟨S.big l, D'⟩ (fresh_size h) fun p o e => hs.extBut p o (Nat.ne_of_lt (Heap.lt_size e)) (push_le _ _ _ _ e)
theorem idtru {Q : Bool → Shared → Prop} (D : ID prog w h a kvs) (hz : kvs.length ≤ 1000) (k : ∀ tk, Q (!kvs.isEmpty) ⟨h, g, d, tk, os⟩) : wpAny (model prog w) A (truthy (.ref a)) Q E ⟨h, g, d, t, os⟩ :=
  wpAny_truthy_dict D.lo D.d (by omega) (k _)
end
end Mine
end

section
open PySem PySem.W PySem.Calls PyProof.Rows Builtin Builtin.ObjectAttr
set_option maxRecDepth 100000
namespace Mine
section
variable {prog : Program} {w : World} {A : Around} {E : Value → Shared → Prop} {h : Heap} {g : Array GenState} {d : Drawn} {t : Nat} {os : OsState} {b : Heap} {F : DA} {its hs ss : List Value} {ns : List Int} {Q : Value → Shared → Prop}

/-- self.hideValue(value), of a value that is there -/
theorem hide_spec {v : Int} {u : Tok} (S : Sys w b) (l : Le b h) (Rm : Room A 1) (D : Dom h F its hs ss) (of : F.off b) (hi : IntsAre its ns) (hz : its.length ≤ 900) (hz' : hs.length ≤ 900) (hv : v ∈ ns)
    (k : ∀ h' tk its', IntsAre its' (ns.erase v) → Dom h' F its' (hs ++ [.int v u]) ss → Ext [F.a, F.hd] h h' → Q .none ⟨h', g, d, tk, os⟩) :
    wpAny (model prog w) A (call (.ref 94) [.ref F.a, .int v u]) Q E ⟨h, g, d, t, os⟩ := by
  refine ucl (n := 0) S l Rm (f := 94) (binds := [(Str.ofString "self", .ref F.a), (Str.ofString "value", .int v u)]) rfl (by kernel_rfl) (BindsTo.of_eq rfl) (locs rfl) (by decide) fun A L h₁ E' t₁ hn l₁ hL lL l1 Rm' => ?_
  have D₁ := D.le l₁
  have nL := D.off_fresh hL
  -- self.remove(value)
  refine wpAny_execs_cons (wpAny_Expr_any (mcall (ln (v := .ref F.a) hn rfl fun pl => ?_)))
  refine dom_meth S l1 D₁ (f_remove _) (t_remove _) (by decide) (by decide) ?_
  refine cw1 (ln (v := .int v u) hn rfl ?_)
  refine drem S l1 D₁ hi (by omega) hv fun h₂ its' hi' D₂ x₂ => ?_
  have l2 : Le b h₂ := x₂.base l1 (by simp [of.a])
  have hn₂ := ns_ext hn x₂ (by simpa using (nL _ (by simp [DA.foot])).symm)
  -- self._hidden.append(value)
  refine wpAny_execs_cons (wpAny_Expr_any (mcall ?_))
  refine aget (ln (v := .ref F.a) hn₂ rfl ?_)
  refine dhid S l2 D₂ fun t₃ pl => ?_
  obtain ⟨nh, hh⟩ := D₂.hi
  refine list_meth hh rfl rfl PySem.F.slot_list_append PySem.F.type_list_append ?_
  refine cw1 (ln (v := .int v u) hn₂ rfl ?_)
  refine lapp hh (by omega) fun h₃ n₃ e₃ x₃ => ?_
  refine wpAny_execs_nil ?_
  refine k _ _ its' hi' (D₂.of_h x₃ e₃) ?_
  exact ((Ext.of_le l₁).trans x₂ (by simp)).trans x₃ (by simp)

/-- self.pushState() -/
theorem push_spec (S : Sys w b) (l : Le b h) (Rm : Room A 1) (D : Dom h F its hs ss) (hz : its.length ≤ 900) (hz' : ss.length ≤ 900)
    (k : ∀ h' tk u, Dom h' F its hs (ss ++ [.int its.length u]) → Ext [F.sd] h h' → Q .none ⟨h', g, d, tk, os⟩) :
    wpAny (model prog w) A (call (.ref 80) [.ref F.a]) Q E ⟨h, g, d, t, os⟩ := by
  refine ucl (n := 0) S l Rm (f := 80) (binds := [(Str.ofString "self", .ref F.a)]) rfl (by kernel_rfl) (BindsTo.of_eq rfl) (locs rfl) (by decide) fun A L h₁ E' t₁ hn l₁ hL lL l1 Rm' => ?_
  have D₁ := D.le l₁
  -- self._states.append(len(self))
  refine wpAny_execs_cons (wpAny_Expr_any (mcall ?_))
  refine aget (ln (v := .ref F.a) hn rfl ?_)
  refine dsts S l1 D₁ fun t₂ pl => ?_
  obtain ⟨nh, hh⟩ := D₁.st
  refine list_meth hh rfl rfl PySem.F.slot_list_append PySem.F.type_list_append ?_
  refine cw1 (ncall (bname S l1 (b_len _) bb_len (by decide) ?_))
  refine cw1 (ln (v := .ref F.a) hn rfl ?_)
  refine dlen S l1 D₁ (by omega) fun u t₃ => ?_
  refine lapp hh (by omega) fun h₃ n₃ e₃ x₃ => ?_
  refine wpAny_execs_nil ?_
  exact k _ _ _ (D₁.of_s x₃ e₃) ((Ext.of_le l₁).trans x₃ (by simp))

/-- self.popState() -/
theorem pop_spec {k : Nat} {u : Tok} (S : Sys w b) (l : Le b h) (Rm : Room A 1) (D : Dom h F its hs (ss ++ [.int k u])) (of : F.off b) (hz : its.length ≤ 400) (hz2 : hs.length ≤ 400) (hz3 : ss.length ≤ 400)
    (hk : its.length ≤ k) (hk' : k - its.length ≤ hs.length)
    (kk : ∀ h' tk, Dom h' F (its ++ hs.drop (hs.length - (k - its.length))) (hs.take (hs.length - (k - its.length))) ss → Ext [F.a, F.hd, F.sd] h h' → Q .none ⟨h', g, d, tk, os⟩) :
    wpAny (model prog w) A (call (.ref 87) [.ref F.a]) Q E ⟨h, g, d, t, os⟩ := by
  refine ucl (n := 0) S l Rm (f := 87) (binds := [(Str.ofString "self", .ref F.a)]) rfl (by kernel_rfl) (BindsTo.of_eq rfl) (locs rfl) (by decide) fun A L h₁ E' t₁ hn l₁ hL lL l1 Rm' => ?_
  have D₁ := D.le l₁
  have nL := D.off_fresh hL
  -- diff = self._states.pop() - len(self)
  refine wpAny_execs_cons (wpAny_Assign_Name (wpAny_BinOp (mcall ?_)))
  refine aget (ln (v := .ref F.a) hn rfl ?_)
  refine dsts S l1 D₁ fun t₂ pl => ?_
  obtain ⟨nh, hh⟩ := D₁.st
  refine list_meth hh rfl rfl PySem.F.slot_list_pop PySem.F.type_list_pop ?_
  refine cw0 (lpop hh (by omega) fun h₂ n₂ e₂ x₂ => ?_)
  have D₂ := D₁.of_s x₂ e₂
  have l2 : Le b h₂ := x₂.base l1 (by simp [of.sd])
  have hn₂ := ns_ext hn x₂ (by simpa using (nL _ (by simp [DA.foot])).symm)
  refine ncall (bname S l2 (b_len _) bb_len (by decide) ?_)
  refine cw1 (ln (v := .ref F.a) hn₂ rfl ?_)
  refine dlen S l2 D₂ (by omega) fun t₃ u₃ => ?_
  refine subi fun t₄ u₄ => ?_
  have kd : ((k : Int) - its.length) = ((k - its.length : Nat) : Int) := by omega
  rw [kd]
  generalize hd : k - its.length = q at *
  refine st' hn₂ fun h₃ u₅ hn₃ x₃ => ?_
  have D₃ := D₂.ext x₃ (fun p hp => by simpa using nL p hp)
  have l3 : Le b h₃ := x₃.base l2 (by simpa using l.fresh hL)
  have x13 : Ext [F.a, F.hd, F.sd] h h₃ := (((Ext.of_le (W := [F.a, F.hd, F.sd]) l₁).trans x₂ (by simp)).trans x₃ (by simp [hL]))
  -- if diff:
  refine wpAny_execs_cons (wpAny_If (wpAny_isTrue_value (ln (v := .int q t₄) hn₃ rfl ?_)))
  refine PySem.P.truthy_int ?_
  by_cases h0 : q = 0
  · subst h0
    rw [if_neg (by simp)]
    refine wpAny_execs_nil (wpAny_execs_nil ?_)
    exact kk _ _ (by simpa using D₃) x13
  rw [if_pos (by simpa using h0)]
  -- self.extend(self._hidden[-diff:])
  refine wpAny_execs_cons (wpAny_Expr_any (mcall (ln (v := .ref F.a) hn₃ rfl fun pl => ?_)))
  refine dom_meth S l3 D₃ (f_extend _) (t_extend _) (by decide) (by decide) ?_
  obtain ⟨n3, e3⟩ := D₃.hi
  refine cw1 (lslice ?_)
  refine aget (ln (v := .ref F.a) hn₃ rfl ?_)
  refine dhid S l3 D₃ fun u₆ => ?_
  refine wpAny_evalPart_some (wpAny_UnaryOp (ln (v := .int q t₄) hn₃ rfl (negi fun t₇ u₇ => ?_)))
  refine wpAny_evalPart_none ⟨_, _, _, _, _, F.hd, hs, n3, some (-(q : Int)), none, rfl, rfl, e3, by omega, .int _ _, .none, fun h₄ r n₄ e₄ f₄ l₄ => ?_⟩
  rw [slicePick_last hs q (by omega) hk'] at e₄
  have D₄ := D₃.le l₄
  have l4 := l3.trans l₄
  have hn₄ := ns_ext (W := []) hn₃ (Ext.of_le l₄) (by simp)
  refine dext S l4 D₄ e₄ (by omega) (by simp; omega) fun h₅ D₅ x₅ => ?_
  have l5 : Le b h₅ := x₅.base l4 (by simp [of.a])
  have hn₅ := ns_ext hn₄ x₅ (by simpa using (nL _ (by simp [DA.foot])).symm)
  -- del self._hidden[-diff:]
  refine wpAny_execs_cons (wpAny_Delete (wpAny_deleteEach_cons (wpAny_delete_Subscript ?_)))
  refine aget (ln (v := .ref F.a) hn₅ rfl ?_)
  refine dhid S l5 D₅ fun u₈ => ?_
  refine mkslice ?_
  refine wpAny_evalPart_some (wpAny_UnaryOp (ln (v := .int q t₄) hn₅ rfl (negi fun t₉ u₉ => ?_)))
  refine wpAny_evalPart_none (wpAny_evalPart_none ⟨_, _, _, _, _, rfl, fun h₆ r₆ e₆ f₆ l₆ => ?_⟩)
  have D₆ := D₅.le l₆
  obtain ⟨n6, e6⟩ := D₆.hi
  refine ldel e6 e₆ (by omega) (by omega) hk' fun h₇ n₇ e₇ x₇ => ?_
  refine wpAny_deleteEach_nil (wpAny_execs_nil (wpAny_execs_nil ?_))
  refine kk _ _ (D₆.of_h x₇ e₇) ?_
  exact ((((x13.trans (Ext.of_le (W := []) l₄) (by simp)).trans x₅ (by simp)).trans (Ext.of_le (W := []) l₆) (by simp)).trans x₇ (by simp))
end
end Mine
end

section
open PySem PySem.W PySem.Calls PyProof.Rows Builtin Builtin.ObjectAttr
set_option maxRecDepth 100000
namespace Mine

/-- a Domain, as the law sees it -/
structure DS where
  sh : List Int
  hd : List Int
  st : List Nat
def DomS (h : Heap) (F : DA) (x : DS) : Prop := ∃ its hs ss, Dom h F its hs ss ∧ IntsAre its x.sh ∧ IntsAre hs x.hd ∧ IntsAre ss (x.st.map Int.ofNat)
theorem DomS.ext {h h' : Heap} {F : DA} {x : DS} {W : List Addr} (D : DomS h F x) (e : Ext W h h') (hw : ∀ p ∈ F.foot, p ∉ W) : DomS h' F x := let ⟨its, hs, ss, d, r⟩ := D; ⟨its, hs, ss, d.ext e hw, r⟩
theorem DomS.live {h : Heap} {F : DA} {x : DS} (D : DomS h F x) : ∀ p ∈ F.foot, ∃ o, h.get? p = some o := by
  obtain ⟨its, hs, ss, ⟨⟨n, h1⟩, ⟨od, h2, h2'⟩, ⟨n3, h3⟩, ⟨n4, h4⟩, h5⟩, _⟩ := D
  intro p hp
  simp [DA.foot] at hp
  rcases hp with rfl | rfl | rfl | rfl
  · exact ⟨_, h1⟩
  · exact ⟨_, h2⟩
  · exact ⟨_, h3⟩
  · exact ⟨_, h4⟩

def upd {α : Type} (σ : Nat → α) (k : Nat) (x : α) : Nat → α := fun j => if j = k then x else σ j
theorem upd_same {α : Type} (σ : Nat → α) (k : Nat) (x : α) : upd σ k x k = x := by simp [upd]
theorem upd_other {α : Type} (σ : Nat → α) {j k : Nat} (x : α) (h : j ≠ k) : upd σ k x j = σ j := by simp [upd, h]
theorem upd_upd {α : Type} (σ : Nat → α) (k : Nat) (x y : α) : upd (upd σ k x) k y = upd σ k y := by funext j; simp only [upd]; split <;> rfl
theorem upd_self {α : Type} (σ : Nat → α) (k : Nat) : upd σ k (σ k) = σ := by funext j; simp only [upd]; split <;> simp_all

def allF (fs : Nat → DA) : List Addr := (List.range 4).flatMap fun k => (fs k).foot
theorem mem_allF {fs : Nat → DA} {p : Addr} : p ∈ allF fs ↔ ∃ k, k < 4 ∧ p ∈ (fs k).foot := by simp [allF]

/-- the four Domains -/
structure Doms (h b : Heap) (fs : Nat → DA) (σ : Nat → DS) : Prop where
  at_ : ∀ k, k < 4 → DomS h (fs k) (σ k)
  off : ∀ k, k < 4 → (fs k).off b
  ap : ∀ j k, j < 4 → k < 4 → j ≠ k → ∀ p ∈ (fs j).foot, p ∉ (fs k).foot
theorem Doms.offA {h b : Heap} {fs : Nat → DA} {σ : Nat → DS} (D : Doms h b fs σ) : ∀ p ∈ allF fs, b.get? p = none := fun p hp => let ⟨k, hk, h⟩ := mem_allF.mp hp; D.off k hk p h
theorem Doms.live {h b : Heap} {fs : Nat → DA} {σ : Nat → DS} (D : Doms h b fs σ) : ∀ p ∈ allF fs, ∃ o, h.get? p = some o := fun p hp => let ⟨k, hk, h⟩ := mem_allF.mp hp; (D.at_ k hk).live p h
theorem Doms.ext {h h' b : Heap} {fs : Nat → DA} {σ : Nat → DS} {W : List Addr} (D : Doms h b fs σ) (x : Ext W h h') (hw : ∀ p ∈ allF fs, p ∉ W) : Doms h' b fs σ :=
  ⟨fun k hk => (D.at_ k hk).ext x fun p hp => hw p (mem_allF.mpr ⟨k, hk, hp⟩), D.off, D.ap⟩
theorem Doms.le {h h' b : Heap} {fs : Nat → DA} {σ : Nat → DS} (D : Doms h b fs σ) (x : Le h h') : Doms h' b fs σ := D.ext (W := []) (Ext.of_le x) (by simp)
theorem Doms.rebase {h b b' : Heap} {fs : Nat → DA} {σ : Nat → DS} (D : Doms h b fs σ) (ho : ∀ p ∈ allF fs, b'.get? p = none) : Doms h b' fs σ :=
  ⟨D.at_, fun k hk p hp => ho p (mem_allF.mpr ⟨k, hk, hp⟩), D.ap⟩
theorem Doms.set {h h' b : Heap} {fs : Nat → DA} {σ : Nat → DS} {k : Nat} {x : DS} (D : Doms h b fs σ) (hk : k < 4) (e : Ext (fs k).foot h h') (d : DomS h' (fs k) x) : Doms h' b fs (upd σ k x) :=
  ⟨fun j hj => by
    by_cases q : j = k
    · subst q; rw [upd_same]; exact d
    · rw [upd_other _ _ q]; exact (D.at_ j hj).ext e fun p hp => D.ap j k hj hk q p hp, D.off, D.ap⟩
theorem foot_all {fs : Nat → DA} {k : Nat} (hk : k < 4) : ∀ p ∈ (fs k).foot, p ∈ allF fs := fun p hp => mem_allF.mpr ⟨k, hk, hp⟩

section
variable {prog : Program} {w : World} {A : Around} {E : Value → Shared → Prop} {h : Heap} {g : Array GenState} {d : Drawn} {t : Nat} {os : OsState} {b : Heap} {fs : Nat → DA} {σ : Nat → DS} {k : Nat}

/-- small enough for every rule -/
def DS.small (x : DS) : Prop := x.sh.length ≤ 100 ∧ x.hd.length ≤ 100 ∧ x.st.length ≤ 100

theorem hide_at {v : Int} {u : Tok} {Q : Value → Shared → Prop} (S : Sys w b) (l : Le b h) (Rm : Room A 1) (D : Doms h b fs σ) (hk : k < 4) (hv : v ∈ (σ k).sh) (hs : (σ k).small)
    (kk : ∀ h' tk, Doms h' b fs (upd σ k ⟨(σ k).sh.erase v, (σ k).hd ++ [v], (σ k).st⟩) → Ext (allF fs) h h' → Q .none ⟨h', g, d, tk, os⟩) :
    wpAny (model prog w) A (call (.ref 94) [.ref (fs k).a, .int v u]) Q E ⟨h, g, d, t, os⟩ := by
  obtain ⟨its, hh, ss, Dk, i1, i2, i3⟩ := D.at_ k hk
  obtain ⟨s1, s2, s3⟩ := hs
  have l1 := i1.length
  have l2 := i2.length
  refine hide_spec S l Rm Dk (D.off k hk) i1 (by omega) (by omega) hv fun h' tk its' i' D' x => ?_
  refine kk h' tk (D.set hk (x.mono (by simp [DA.foot])) ⟨its', _, ss, D', i', ?_, i3⟩) (x.mono ?_)
  · exact IntsAre.append i2 (.cons v u .nil)
  · intro p hp
    exact foot_all hk p (by simp at hp; rcases hp with rfl | rfl <;> simp [DA.foot])
theorem din_dom {v : Int} {u : Tok} {Q : Value → Shared → Prop} (S : Sys w b) (l : Le b h) (D : Doms h b fs σ) (hk : k < 4) (kk : Q (.bool ((σ k).sh.contains v)) ⟨h, g, d, t, os⟩) :
    wpAny (model prog w) A (compareOp .In (.int v u) (.ref (fs k).a)) Q E ⟨h, g, d, t, os⟩ := by
  obtain ⟨its, hh, ss, Dk, i1, i2, i3⟩ := D.at_ k hk
  show wpAny _ _ (do return .bool (← contains (.ref (fs k).a) (.int v u))) Q E _
  exact wpAny_bind (dom_in S l Dk i1 (wpAny_pure kk))
theorem dnin_dom {v : Int} {u : Tok} {Q : Value → Shared → Prop} (S : Sys w b) (l : Le b h) (D : Doms h b fs σ) (hk : k < 4) (kk : Q (.bool (!(σ k).sh.contains v)) ⟨h, g, d, t, os⟩) :
    wpAny (model prog w) A (compareOp .NotIn (.int v u) (.ref (fs k).a)) Q E ⟨h, g, d, t, os⟩ := by
  obtain ⟨its, hh, ss, Dk, i1, i2, i3⟩ := D.at_ k hk
  show wpAny _ _ (do return .bool (!(← contains (.ref (fs k).a) (.int v u)))) Q E _
  exact wpAny_bind (dom_in S l Dk i1 (wpAny_pure kk))
theorem dtru_dom {Q : Bool → Shared → Prop} (S : Sys w b) (l : Le b h) (D : Doms h b fs σ) (hk : k < 4) (hs : (σ k).small) (kk : ∀ tk, Q (!(σ k).sh.isEmpty) ⟨h, g, d, tk, os⟩) : wpAny (model prog w) A (truthy (.ref (fs k).a)) Q E ⟨h, g, d, t, os⟩ := by
  obtain ⟨its, hh, ss, Dk, i1, i2, i3⟩ := D.at_ k hk
  have l1 := i1.length
  have e : its.isEmpty = (σ k).sh.isEmpty := by
    have z : ∀ (l : List Value) (ns : List Int), IntsAre l ns → l.isEmpty = ns.isEmpty := fun l ns h => by cases h <;> rfl
    exact z _ _ i1
  refine dtru S l Dk (by have := hs.1; omega) fun u => ?_
  rw [e]; exact kk u
end

/-- what the inner loop hides -/
def hideAll (P : Int → Bool) (x : DS) : DS := ⟨x.sh.filter fun v => !P v, x.hd ++ x.sh.filter P, x.st⟩
def hideUpto (P : Int → Bool) (x : DS) (i : Nat) : DS := ⟨((x.sh.take i).filter fun v => !P v) ++ x.sh.drop i, x.hd ++ (x.sh.take i).filter P, x.st⟩
theorem hideUpto_zero (P : Int → Bool) (x : DS) : hideUpto P x 0 = x := by simp [hideUpto]
theorem hideUpto_all (P : Int → Bool) (x : DS) : hideUpto P x x.sh.length = hideAll P x := by simp [hideUpto, hideAll]
theorem hideUpto_no {P : Int → Bool} {x : DS} {i : Nat} {v : Int} (hi : x.sh[i]? = some v) (hp : P v = false) : hideUpto P x (i + 1) = hideUpto P x i := by
  have hlt : i < x.sh.length := (List.getElem?_eq_some_iff.mp hi).1
  have hv : x.sh[i] = v := (List.getElem?_eq_some_iff.mp hi).2
  unfold hideUpto
  rw [List.take_add_one, hi, List.drop_eq_getElem_cons hlt, hv]
  simp [hp]
theorem hideUpto_yes {P : Int → Bool} {x : DS} {i : Nat} {v : Int} (hi : x.sh[i]? = some v) (hp : P v = true) (hn : x.sh.Nodup) :
    hideUpto P x (i + 1) = ⟨(hideUpto P x i).sh.erase v, (hideUpto P x i).hd ++ [v], x.st⟩ ∧ v ∈ (hideUpto P x i).sh := by
  have hlt : i < x.sh.length := (List.getElem?_eq_some_iff.mp hi).1
  have hv : x.sh[i] = v := (List.getElem?_eq_some_iff.mp hi).2
  have hnot : v ∉ (x.sh.take i).filter fun v => !P v := fun hm => by
    have := (List.mem_filter.mp hm).2
    simp [hp] at this
  unfold hideUpto
  constructor
  · rw [List.take_add_one, hi]
    dsimp only
    rw [List.erase_append_right _ hnot, List.drop_eq_getElem_cons hlt, hv]
    simp [hp]
  · dsimp only
    rw [List.drop_eq_getElem_cons hlt, hv]
    simp
theorem hideUpto_small {P : Int → Bool} {x : DS} {i : Nat} (h1 : x.sh.length ≤ 50) (h2 : x.hd.length ≤ 50) (h3 : x.st.length ≤ 100) : (hideUpto P x i).small := by
  refine ⟨?_, ?_, h3⟩
  · show (((x.sh.take i).filter fun v => !P v) ++ x.sh.drop i).length ≤ 100
    have := List.length_filter_le (fun v => !P v) (x.sh.take i)
    simp at this ⊢; omega
  · show (x.hd ++ (x.sh.take i).filter P).length ≤ 100
    have := List.length_filter_le P (x.sh.take i)
    simp at this ⊢; omega

section
variable {prog : Program} {w : World} {A : Around} {E : Value → Shared → Prop} {h : Heap} {g : Array GenState} {d : Drawn} {t : Nat} {os : OsState} {b : Heap} {fs : Nat → DA} {σ : Nat → DS} {k : Nat} {env : Env} {m : Str → Option Value} {L : Addr}

abbrev sValue : Str := Str.ofString "value"
abbrev sDomain : Str := Str.ofString "domain"
abbrev sHide : Str := Str.ofString "hideValue"

/-- for value in domain[:]: if test: domain.hideValue(value) -/
theorem hide_loop {p1 p2 p3 p4 p5 p6 p7 p8 p9 p10 pos : Pos} {test : Expr} {Q : Flow → Shared → Prop} (P : Int → Bool) (S : Sys w b) (l : Le b h) (Rm : Room A 1) (D : Doms h b fs σ) (hk : k < 4)
    (hn : h.Ns L m) (hL : L ∉ allF fs) (hLb : b.get? L = none) (hd : m sDomain = some (.ref (fs k).a)) (hnd : (σ k).sh.Nodup) (h1 : (σ k).sh.length ≤ 50) (h2 : (σ k).hd.length ≤ 50) (h3 : (σ k).st.length ≤ 100)
    (hkv : env.kindOf sValue = some .local) (hkd : env.kindOf sDomain = some .local) (hel : env.locals = L) (hek : env.scope.kind = .function)
    (htest : ∀ h₁ tk v u E' (Q : Bool → Shared → Prop) m₁, h₁.Ns L m₁ → (∀ y, y ≠ sValue → m₁ y = m y) → m₁ sValue = some (.int v u) → Le b h₁ → Ext (L :: allF fs) h h₁ → (∀ tk', Q (P v) ⟨h₁, g, d, tk', os⟩) →
      wpAny (model prog w) A (isTrue test env (eval test env)) Q E' ⟨h₁, g, d, tk, os⟩)
    (kk : ∀ h' tk m', h'.Ns L m' → (∀ y, y ≠ sValue → m' y = m y) → Doms h' b fs (upd σ k (hideAll P (σ k))) → Ext (L :: allF fs) h h' → Q .next ⟨h', g, d, tk, os⟩)
    (hbk : (backTo p7 (starEach [.Name sValue p6] env)) = [(false, eval (.Name sValue p6) env)] := by rfl) (hln : (p5.endLine == p7.line) = true := by rfl) (hei : interactive env = false := by rfl)
    (hs : ∀ x, foldedSetIterable (.Subscript (.Name sDomain p2) (.Slice none none none p3) p4) env x = pure x := by intro _; rfl) :
    wpAny (model prog w) A (exec (.For (.Name sValue p1) (.Subscript (.Name sDomain p2) (.Slice none none none p3) p4)
      [.If test [.Expr (.Call (.Attribute (.Name sDomain p8) sHide p5) [.Name sValue p6] [] p7) p9] [] p10] [] pos) env) Q E ⟨h, g, d, t, os⟩ := by
  have ne1 : (sValue == ("__debug__" : Str)) = false := by decide
  have ne2 : (sDomain == ("__debug__" : Str)) = false := by decide
  have hpm : (env.scope.kind == .class || (env.scope.kind == .module && env.locals != env.globals)) = false := by rw [hek]; rfl
  refine for_list Rm.hh ?_ hs
  obtain ⟨its, hh, ss, Dk, i1, i2, i3⟩ := D.at_ k hk
  have il := i1.length
  refine dslice S (ln hn hd ⟨h, g, d, t, os, fs k, its, hh, ss, rfl, rfl, l, Dk, by omega, fun h₁ r n e₁ f₁ l₁ => ?_⟩ hel hek hkd ne2)
  have Xl : ∀ p ∈ L :: allF fs, ∃ o, h₁.get? p = some o := fun p hp => by
    rcases List.mem_cons.mp hp with e | hp
    · obtain ⟨o, _, _, ho, _⟩ := hn; exact ⟨o, l₁ _ _ (e ▸ ho)⟩
    · obtain ⟨o, ho⟩ := D.live p hp; exact ⟨o, l₁ _ _ ho⟩
  have rX : r ∉ L :: allF fs := fun hp => by
    rcases List.mem_cons.mp hp with e | hp
    · obtain ⟨o, _, _, ho, _⟩ := hn; exact not_some f₁ ⟨o, e ▸ ho⟩
    · exact not_some f₁ (D.live r hp)
  refine ⟨h₁, g, d, _, os, r, its, n, L :: allF fs, rfl, rfl, e₁, rX, Xl, fun I hI => ⟨fun i h₂ => ∃ m₂, h₂.Ns L m₂ ∧ (∀ y, y ≠ sValue → m₂ y = m y) ∧ Doms h₂ b fs (upd σ k (hideUpto P (σ k) i)) ∧ Ext (L :: allF fs) h h₂, fun h' l' => ?_, ?_, ?_, ?_⟩⟩
  · refine ⟨m, (hn.keeps l₁).keeps l', fun _ _ => rfl, ?_, Ext.of_le (l₁.trans l')⟩
    rw [hideUpto_zero, upd_self]; exact D.le (l₁.trans l')
  · rintro i ha hb ⟨m₂, n₂, q₂, D₂, x₂⟩ x
    have hIX : ∀ p ∈ L :: allF fs, p ≠ I := fun p hp e => not_some hI (e ▸ Xl p hp)
    have hIh : h.get? I = none := l₁.fresh hI
    refine ⟨m₂, ns_ext n₂ x (by simpa using hIX L List.mem_cons_self), q₂, D₂.ext x (fun p hp => by simpa using hIX p (List.mem_cons_of_mem _ hp)), x₂.trans x (fun p hp => .inr ?_)⟩
    rw [List.mem_singleton.mp hp]; exact hIh
  · rintro i v h₂ tk E' hv ⟨m₂, n₂, q₂, D₂, x₂⟩
    obtain ⟨vi, u, rfl, hvi⟩ := i1.at i v hv
    refine st' n₂ (fun h₃ u₃ n₃ x₃ => ?_) hel hkv hpm
    have l2 : Le b h₂ := x₂.base l (fun p hp => by
      rcases List.mem_cons.mp hp with e | hp
      · exact e ▸ hLb
      · exact D.offA p hp)
    have l3 : Le b h₃ := x₃.base l2 (by simpa using hLb)
    have D₃ := D₂.ext x₃ (fun p hp => by simpa using fun e : p = L => hL (e ▸ hp))
    have q₃ : ∀ y, y ≠ sValue → updM m₂ sValue (.int vi u) y = m y := fun y hy => by simp [updM, hy]; exact q₂ y hy
    have x13 : Ext (L :: allF fs) h h₃ := x₂.trans x₃ (by simp)
    refine wpAny_execs_cons (wpAny_If (htest h₃ u₃ vi u _ _ _ n₃ q₃ (by simp [updM]) l3 x13 fun tk' => ?_))
    by_cases hp : P vi = true
    · rw [if_pos hp]
      obtain ⟨e1, e2⟩ := hideUpto_yes (x := σ k) hvi hp hnd
      refine wpAny_execs_cons (wpAny_Expr_any (mcall (ln (v := .ref (fs k).a) n₃ (by rw [q₃ _ (by decide)]; exact hd) (fun pl => ?_) hel hek hkd ne2) rfl (by rw [hbk]; rfl) hln) hei)
      obtain ⟨its3, hh3, ss3, Dk3, _⟩ := D₃.at_ k hk
      refine dom_meth S l3 Dk3 (f_hide _) (t_94 _) (by decide) (by decide) ?_
      dsimp only
      rw [hbk]
      refine cwg rfl (ev1 (ln (v := .int vi u) n₃ (by simp [updM]) ⟨kp_fn S l3 rfl, ?_⟩ hel hek hkv ne1))
      refine hide_at S l3 Rm D₃ hk (by rw [upd_same]; exact e2) (by rw [upd_same]; exact hideUpto_small h1 h2 h3) fun h₄ tk₄ D₄ x₄ => ?_
      rw [upd_same, upd_upd] at D₄
      refine wpAny_execs_nil (wpAny_execs_nil ⟨h₄, tk₄, rfl, ?_, _, ns_ext n₃ x₄ hL, q₃, ?_, ?_⟩)
      · exact (x₃.mono (by simp)).trans x₄ (fun p hp => .inl (List.mem_cons_of_mem _ hp))
      · rw [e1]; exact D₄
      · exact x13.trans x₄ (fun p hp => .inl (List.mem_cons_of_mem _ hp))
    · rw [if_neg hp]
      refine wpAny_execs_nil (wpAny_execs_nil ⟨h₃, tk', rfl, x₃.mono (by simp), _, n₃, q₃, ?_, x13⟩)
      rw [hideUpto_no hvi (by simpa using hp)]; exact D₃
  · rintro h₂ tk ⟨m₂, n₂, q₂, D₂, x₂⟩
    rw [il, hideUpto_all] at D₂
    exact kk h₂ tk m₂ n₂ q₂ D₂ x₂
end
end Mine
end

section
open PySem PySem.W PySem.Calls PyProof.Rows Builtin Builtin.ObjectAttr
set_option maxRecDepth 100000
namespace Mine

/-- the forward look over a row -/
def rowF (stepF : Nat → DS → Bool × DS) (told : Nat → Bool) : List Nat → (Nat → DS) → Bool × (Nat → DS)
  | [], σ => (true, σ)
  | k :: r, σ => if told k = true then rowF stepF told r σ else if (stepF k (σ k)).1 = true then rowF stepF told r (upd σ k (stepF k (σ k)).2) else (false, upd σ k (stepF k (σ k)).2)
theorem rowF_append {stepF : Nat → DS → Bool × DS} {told : Nat → Bool} : ∀ {a c : List Nat} {σ σ₁ : Nat → DS}, rowF stepF told a σ = (true, σ₁) → rowF stepF told (a ++ c) σ = rowF stepF told c σ₁
  | [], c, σ, σ₁, h => by simp [rowF] at h; rw [List.nil_append, h]
  | k :: r, c, σ, σ₁, h => by
    rw [List.cons_append]
    simp only [rowF] at h ⊢
    by_cases h1 : told k = true
    · rw [if_pos h1] at h ⊢; exact rowF_append h
    · rw [if_neg h1] at h ⊢
      by_cases h2 : (stepF k (σ k)).1 = true
      · rw [if_pos h2] at h ⊢; exact rowF_append h
      · rw [if_neg h2] at h; cases h
theorem rowF_other {stepF : Nat → DS → Bool × DS} {told : Nat → Bool} {j : Nat} : ∀ {a : List Nat} {σ : Nat → DS}, j ∉ a → (rowF stepF told a σ).2 j = σ j
  | [], σ, _ => rfl
  | k :: r, σ, h => by
    have hk : j ≠ k := fun e => h (e ▸ List.mem_cons_self)
    have hr : j ∉ r := fun e => h (List.mem_cons_of_mem _ e)
    unfold rowF
    by_cases h1 : told k = true
    · rw [if_pos h1]; exact rowF_other hr
    · rw [if_neg h1]
      by_cases h2 : (stepF k (σ k)).1 = true
      · rw [if_pos h2, rowF_other hr, upd_other _ _ hk]
      · rw [if_neg h2]; exact upd_other _ _ hk

abbrev sVariable : Str := Str.ofString "variable"
abbrev sVariables : Str := Str.ofString "variables"
abbrev sAssign : Str := Str.ofString "assignments"
abbrev sDomains : Str := Str.ofString "domains"
/-- the names that the loops store -/
abbrev tmp (y : Str) : Prop := y = sVariable ∨ y = sDomain ∨ y = sValue ∨ y = Str.ofString "multiplier"

theorem nt_assign : ¬ tmp sAssign := by decide
theorem nt_domains : ¬ tmp sDomains := by decide
theorem nt_variables : ¬ tmp sVariables := by decide
/-- what a step leaves -/
def StepEnd (stepF : Nat → DS → Bool × DS) (g : Array GenState) (d : Drawn) (os : OsState) (L : Addr) (m : Str → Option Value) (b : Heap) (fs : Nat → DA) (σ₁ : Nat → DS) (k : Nat) (h₁ : Heap) (f : Flow) (s' : Shared) : Prop :=
  ∃ h' tk', s' = ⟨h', g, d, tk', os⟩ ∧ Doms h' b fs (upd σ₁ k (stepF k (σ₁ k)).2) ∧ Ext (L :: allF fs) h₁ h' ∧
    if (stepF k (σ₁ k)).1 = true then f = .next ∧ ∃ m', h'.Ns L m' ∧ ∀ y, ¬ tmp y → m' y = m y else f = .ret (.bool false)

section
variable {prog : Program} {w : World} {A : Around} {E : Value → Shared → Prop} {h : Heap} {g : Array GenState} {d : Drawn} {t : Nat} {os : OsState} {b : Heap} {fs : Nat → DA} {σ : Nat → DS} {env : Env} {m : Str → Option Value} {L : Addr}

/-- what the constraints are handed, in the base -/
structure Handed (prog : Program) (w : World) (b : Heap) (fs : Nat → DA) (ra da ha : Addr) (row : List Nat) (kvs : List (Int × Value)) : Prop where
  rl : ∃ rits n, b.get? ra = some (listO (List.toArray rits) n) ∧ IntsAre rits (row.map Int.ofNat)
  lt : ∀ k ∈ row, k < 4
  nd : row.Nodup
  le4 : row.length ≤ 4
  doms : ∃ dk, ID prog w b da dk ∧ ∀ k, k < 4 → valueAt dk ((k : Nat) : Int) = some (.ref (fs k).a)
  asg : ID prog w b ha kvs

theorem row_loop {p1 p2 p3 p4 p5 p6 p7 p8 p9 p10 p11 pos : Pos} {rest : List Stmt} {Q : Flow → Shared → Prop} {ra da ha : Addr} {row : List Nat} {kvs : List (Int × Value)} (stepF : Nat → DS → Bool × DS) (told : Nat → Bool) (S : Sys w b) (l : Le b h) (hh : A.handled = none) (D : Doms h b fs σ)
    (H : Handed prog w b fs ra da ha row kvs) (ht : ∀ k ∈ row, (valueAt kvs ((k : Nat) : Int)).isSome = told k)
    (hn : h.Ns L m) (hL : L ∉ allF fs) (hLb : b.get? L = none) (mv : m sVariables = some (.ref ra)) (ma : m sAssign = some (.ref ha)) (md : m sDomains = some (.ref da))
    (kv : env.kindOf sVariable = some .local) (kd : env.kindOf sDomain = some .local) (kvs' : env.kindOf sVariables = some .local) (ka : env.kindOf sAssign = some .local) (kds : env.kindOf sDomains = some .local) (hel : env.locals = L) (hek : env.scope.kind = .function)
    (step : ∀ k h₁ tk m₁ σ₁ E', k ∈ row → told k = false → h₁.Ns L m₁ → (∀ y, ¬ tmp y → m₁ y = m y) → m₁ sDomain = some (.ref (fs k).a) → Doms h₁ b fs σ₁ → σ₁ k = σ k → Le b h₁ → Ext (L :: allF fs) h h₁ →
      wpAny (model prog w) A (execs rest env) (StepEnd stepF g d os L m b fs σ₁ k h₁) E' ⟨h₁, g, d, tk, os⟩)
    (kt : ∀ h' tk m', h'.Ns L m' → (∀ y, ¬ tmp y → m' y = m y) → (rowF stepF told row σ).1 = true → Doms h' b fs (rowF stepF told row σ).2 → Ext (L :: allF fs) h h' → Q .next ⟨h', g, d, tk, os⟩)
    (kf : ∀ h' tk, (rowF stepF told row σ).1 = false → Doms h' b fs (rowF stepF told row σ).2 → Ext (L :: allF fs) h h' → Q (.ret (.bool false)) ⟨h', g, d, tk, os⟩)
    (hs : ∀ x, foldedSetIterable (.Name sVariables p2) env x = pure x := by intro _; rfl) (hm : behindInMarks .NotIn (.Name sAssign p4) = false := by with_unfolding_all rfl)
    (hsw : swapsWith (.Subscript (.Name sDomains p7) (.Name sVariable p8) p9) (some (.Name sDomain p6)) p10.line env = pure false := by rfl) :
    wpAny (model prog w) A (exec (.For (.Name sVariable p1) (.Name sVariables p2)
      [.If (.Compare (.Name sVariable p3) [.NotIn] [.Name sAssign p4] p5) (.Assign [.Name sDomain p6] (.Subscript (.Name sDomains p7) (.Name sVariable p8) p9) p10 :: rest) [] p11] [] pos) env) Q E ⟨h, g, d, t, os⟩ := by
  have hpm : (env.scope.kind == .class || (env.scope.kind == .module && env.locals != env.globals)) = false := by rw [hek]; rfl
  obtain ⟨rits, rn, hrow, hri⟩ := H.rl
  obtain ⟨dk, hdd, hdv⟩ := H.doms
  have hX0 : ∀ p ∈ L :: allF fs, b.get? p = none := fun p hp => by
    rcases List.mem_cons.mp hp with e | hp
    · exact e ▸ hLb
    · exact D.offA p hp
  have Xl : ∀ p ∈ L :: allF fs, ∃ o, h.get? p = some o := fun p hp => by
    rcases List.mem_cons.mp hp with e | hp
    · obtain ⟨o, _, _, ho, _⟩ := hn; exact ⟨o, e ▸ ho⟩
    · exact D.live p hp
  have nb : ∀ {p : Addr}, (∃ o, b.get? p = some o) → p ∉ L :: allF fs := fun hp hm => not_some (hX0 _ hm) hp
  have hrl := hri.length
  refine for_list hh (ln hn mv ⟨h, g, d, _, os, ra, rits, rn, L :: allF fs, rfl, rfl, l _ _ hrow, nb ⟨_, hrow⟩, Xl, fun I hI => ⟨fun i h₁ => ∃ m₁ σ₁, h₁.Ns L m₁ ∧ (∀ y, ¬ tmp y → m₁ y = m y) ∧ Doms h₁ b fs σ₁ ∧ rowF stepF told (row.take i) σ = (true, σ₁) ∧ Ext (L :: allF fs) h h₁, fun h' l' => ?_, ?_, ?_, ?_⟩⟩ hel hek kvs' (by decide)) hs
  · exact ⟨m, σ, hn.keeps l', fun _ _ => rfl, D.le l', by simp [rowF], Ext.of_le l'⟩
  · rintro i ha' hb' ⟨m₁, σ₁, n₁, q₁, D₁, r₁, x₁⟩ x
    have hIX : ∀ p ∈ L :: allF fs, p ≠ I := fun p hp e => not_some hI (e ▸ Xl p hp)
    refine ⟨m₁, σ₁, ns_ext n₁ x (by simpa using hIX L List.mem_cons_self), q₁, D₁.ext x (fun p hp => by simpa using hIX p (List.mem_cons_of_mem _ hp)), r₁, x₁.trans x (fun p hp => .inr ?_)⟩
    rw [List.mem_singleton.mp hp]; exact hI
  · rintro i v h₁ tk E' hv ⟨m₁, σ₁, n₁, q₁, D₁, r₁, x₁⟩
    obtain ⟨vi, u, rfl, hvi⟩ := hri.at i v hv
    rw [List.getElem?_map] at hvi
    obtain ⟨k, hk, rfl⟩ := Option.map_eq_some_iff.mp hvi
    have hkm : k ∈ row := List.mem_of_getElem? hk
    have hk4 := H.lt k hkm
    have hilt : i < row.length := (List.getElem?_eq_some_iff.mp hk).1
    have hike : row[i] = k := (List.getElem?_eq_some_iff.mp hk).2
    have hsp : row = row.take i ++ k :: row.drop (i + 1) := by
      rw [← hike, ← List.drop_eq_getElem_cons hilt, List.take_append_drop]
    have hkt : k ∉ row.take i := fun hm => by
      have hnd := H.nd
      rw [hsp] at hnd
      exact (List.nodup_append.mp hnd).2.2 k hm k List.mem_cons_self rfl
    have hσk : σ₁ k = σ k := by
      have := rowF_other (stepF := stepF) (told := told) (σ := σ) hkt
      rw [r₁] at this; exact this
    have htake : row.take (i + 1) = row.take i ++ [k] := by rw [List.take_add_one, hk]; rfl
    refine st' n₁ (fun h₂ u₂ n₂ x₂ => ?_) hel kv hpm
    have l2 : Le b h₁ := x₁.base l hX0
    have l3 : Le b h₂ := x₂.base l2 (by simpa using hLb)
    have D₂ := D₁.ext x₂ (fun p hp => by simpa using fun e : p = L => hL (e ▸ hp))
    have q₂ : ∀ y, ¬ tmp y → updM m₁ sVariable (.int (Int.ofNat k) u) y = m y := fun y hy => by
      have : y ≠ sVariable := fun e => hy (.inl e)
      simp [updM, this]; exact q₁ y hy
    have nt : ∀ {y : Str}, y = sAssign ∨ y = sDomains → ¬ tmp y := by
      rintro y (rfl | rfl)
      · exact nt_assign
      · exact nt_domains
    have x13 : Ext (L :: allF fs) h h₂ := x₁.trans x₂ (by simp)
    refine wpAny_execs_cons (wpAny_If (wpAny_isTrue_Compare1 (ln (v := .int ((k : Nat) : Int) u) n₂ (by simp [updM]) (ln (v := .ref ha) n₂ (by rw [q₂ _ (nt (.inl rfl))]; exact ma) (dnin (H.asg.le l3) fun tk₃ => trb ?_) hel hek ka (by decide)) hel hek kv (by decide)) hm))
    have htk := ht k hkm
    rw [htk]
    cases hto : told k with
    | true =>
      rw [if_neg (by decide)]
      refine wpAny_execs_nil (wpAny_execs_nil ⟨h₂, tk₃, rfl, x₂.mono (by simp), _, σ₁, n₂, q₂, D₂, ?_, x13⟩)
      rw [htake, rowF_append r₁]
      unfold rowF; rw [if_pos hto]; rfl
    | false =>
      rw [if_pos (by decide)]
      refine wpAny_execs_cons (wpAny_Assign_Name (dsub (ln (v := .ref da) n₂ (by rw [q₂ _ (nt (.inr rfl))]; exact md) (ln (v := .int ((k : Nat) : Int) u) n₂ (by simp [updM]) ⟨h₂, g, d, _, os, da, dk, k, u, _, rfl, rfl, rfl, hdd.le l3, hdv k hk4, fun tk₄ => ?_⟩ hel hek kv (by decide)) hel hek kds (by decide))) hsw)
      refine st' n₂ (fun h₃ u₃ n₃ x₃ => ?_) hel kd hpm
      have l4 : Le b h₃ := x₃.base l3 (by simpa using hLb)
      have D₃ := D₂.ext x₃ (fun p hp => by simpa using fun e : p = L => hL (e ▸ hp))
      have x14 : Ext (L :: allF fs) h h₃ := x13.trans x₃ (by simp)
      have q₃ : ∀ y, ¬ tmp y → updM (updM m₁ sVariable (.int (Int.ofNat k) u)) sDomain (.ref (fs k).a) y = m y := fun y hy => by
        have : y ≠ sDomain := fun e => hy (.inr (.inl e))
        rw [updM, if_neg this]; exact q₂ y hy
      refine wpAny_mono (step k h₃ u₃ _ σ₁ _ hkm hto n₃ q₃ (by simp [updM]) D₃ hσk l4 x14) (fun f s' hst => ?_) fun _ _ e => e
      obtain ⟨h₄, tk₄, rfl, D₄, x₄, hc⟩ := hst
      have x25 : Ext (L :: allF fs) h₁ h₄ := ((x₂.mono (by simp)).trans x₃ (by simp)).trans x₄ (fun p hp => .inl hp)
      have x15 : Ext (L :: allF fs) h h₄ := x14.trans x₄ (fun p hp => .inl hp)
      by_cases hf : (stepF k (σ₁ k)).1 = true
      · rw [if_pos hf] at hc
        obtain ⟨rfl, m', n', q'⟩ := hc
        refine wpAny_execs_nil ⟨h₄, tk₄, rfl, x25, m', _, n', q', D₄, ?_, x15⟩
        rw [htake, rowF_append r₁]
        unfold rowF
        rw [if_neg (by simp [hto]), if_pos hf]; rfl
      · rw [if_neg hf] at hc
        subst hc
        have e : rowF stepF told row σ = (false, upd σ₁ k (stepF k (σ₁ k)).2) := by
          rw [hsp, rowF_append r₁]
          unfold rowF
          rw [if_neg (by simp [hto]), if_neg hf]
        refine kf h₄ tk₄ (by rw [e]) (by rw [e]; exact D₄) x15
  · rintro h₁ tk ⟨m₁, σ₁, n₁, q₁, D₁, r₁, x₁⟩
    rw [show rits.length = row.length by rw [hrl, List.length_map], List.take_length] at r₁
    exact kt h₁ tk m₁ n₁ q₁ (by rw [r₁]) (by rw [r₁]; exact D₁) x₁
end
end Mine
end

section
open PySem PySem.W PySem.Calls PyProof.Rows Builtin Builtin.ObjectAttr
set_option maxRecDepth 100000
namespace Mine

theorem Ext.drop {W V : List Addr} {h h' : Heap} (x : Ext W h h') (hw : ∀ p ∈ W, p ∈ V ∨ h.get? p = none) : Ext V h h' := fun p o hp e => x p o (fun hm => (hw p hm).elim hp fun z => by rw [z] at e; cases e) e

section
variable {prog : Program} {w : World} {A : Around} {E : Value → Shared → Prop} {env : Env} {h : Heap} {g : Array GenState} {d : Drawn} {t : Nat} {os : OsState} {b : Heap}

theorem isn_ir {i : Int} {u : Tok} {x : Addr} {s : Shared} {Q : Value → Shared → Prop} (k : Q (.bool true) s) : wpAny (model prog w) A (compareOp .IsNot (.int i u) (.ref x)) Q E s := by
  show wpAny _ _ (do return .bool (!(← isSame (.int i u) (.ref x)))) Q E s
  exact wpAny_bind (wpAny_isSame_plain rfl (wpAny_pure k))
theorem isn_rr {x : Addr} {s : Shared} {Q : Value → Shared → Prop} (k : Q (.bool false) s) : wpAny (model prog w) A (compareOp .IsNot (.ref x) (.ref x)) Q E s := by
  show wpAny _ _ (do return .bool (!(← isSame (.ref x) (.ref x)))) Q E s
  exact wpAny_bind (wpAny_isSame_ref_self (wpAny_pure k))
theorem is_ir {i : Int} {u : Tok} {x : Addr} {s : Shared} {Q : Value → Shared → Prop} (k : Q (.bool false) s) : wpAny (model prog w) A (compareOp .Is (.int i u) (.ref x)) Q E s := by
  show wpAny _ _ (do return .bool (← isSame (.int i u) (.ref x))) Q E s
  exact wpAny_bind (wpAny_isSame_plain rfl (wpAny_pure k))
theorem is_rr {x : Addr} {s : Shared} {Q : Value → Shared → Prop} (k : Q (.bool true) s) : wpAny (model prog w) A (compareOp .Is (.ref x) (.ref x)) Q E s := by
  show wpAny _ _ (do return .bool (← isSame (.ref x) (.ref x))) Q E s
  exact wpAny_bind (wpAny_isSame_ref_self (wpAny_pure k))

/-- for x in a dict with int keys -/
theorem for_dict {x : Str} {px pos : Pos} {iter : Expr} {body : List Stmt} {s : Shared} {Q : Flow → Shared → Prop} (hh : A.handled = none)
    (h : wpAny (model prog w) A (eval iter env) (fun xv s₁ => ∃ h g d t os a kvs X, s₁ = ⟨h, g, d, t, os⟩ ∧ xv = .ref a ∧ ID prog w h a kvs ∧ a ∉ X ∧ (∀ p ∈ X, ∃ o, h.get? p = some o) ∧
      ∀ I, h.get? I = none → ∃ J : Nat → Heap → Prop, (∀ h', Le h h' → J 0 h') ∧ (∀ i h₁ h₂, J i h₁ → Ext [I] h₁ h₂ → J i h₂) ∧
        (∀ i n u h₁ tk E', (kvs.map (·.1))[i]? = some n → J i h₁ → wpAny (model prog w) A (storeName env x (.int n u)) (fun _ s₂ => wpAny (model prog w) A (execs body env) (After Q fun s₃ => ∃ h₃ tk₃, s₃ = ⟨h₃, g, d, tk₃, os⟩ ∧ Ext X h₁ h₃ ∧ J (i + 1) h₃) E' s₂) E' ⟨h₁, g, d, tk, os⟩) ∧
        (∀ h₁ tk, J kvs.length h₁ → Q .next ⟨h₁, g, d, tk, os⟩)) E s)
    (hs : ∀ x, foldedSetIterable iter env x = pure x := by intro _; rfl) :
    wpAny (model prog w) A (exec (.For (.Name x px) iter body [] pos) env) Q E s := by
  refine wpAny_For (wpAny_mono h (fun xv s₁ h₁ => ?_) fun _ _ e => e) hs
  obtain ⟨h, g, d, t, os, a, kvs, X, rfl, rfl, D, haX, hX, h₁⟩ := h₁
  obtain ⟨ep, da⟩ := D.d.dictAt
  refine wpAny_pyIter_dict D.lo da ?_
  dsimp only
  have l1 : Le h (h.push { cls := .type "dict_keyiterator", data := .fields #[.ref a, .int 0 0, .int kvs.length 0, .int ep 0] }) := push_le _ _
  have hi : Heap.IsKeyIter (h.push { cls := .type "dict_keyiterator", data := .fields #[.ref a, .int 0 0, .int kvs.length 0, .int ep 0] }) h.objs.size a 0 kvs.length ep := ⟨_, Heap.get?_push_size _ rfl, rfl, rfl⟩
  have hI := fresh_size h
  generalize h.push { cls := .type "dict_keyiterator", data := .fields #[.ref a, .int 0 0, .int kvs.length 0, .int ep 0] } = h' at *
  generalize h.objs.size = I at *
  obtain ⟨J, J0, Jk, Jt, Jd⟩ := h₁ I hI
  obtain ⟨oa, hoa, _⟩ := D.live
  have haI : a ≠ I := fun e => not_some hI ⟨_, e ▸ hoa⟩
  have hIX : I ∉ X := fun hm => not_some hI (hX _ hm)
  have W := Walks.dictKeys (prog := prog) (w := w) (knd := intKind prog w) hh I a haI kvs ep
  refine codeAny_forLoop (fun k s' => ∃ i h' tk, s' = ⟨h', g, d, tk, os⟩ ∧ (h'.IsKeyIter I a i kvs.length ep ∧ h'.DictAt (intKind prog w) a kvs ep) ∧ J i h' ∧ i ≤ kvs.length ∧ k = kvs.length + 1 - i) ?_ (kvs.length + 1)
    ⟨0, h', t, rfl, ⟨hi, da.at' fun o e => l1 _ _ e⟩, J0 h' l1, Nat.zero_le _, rfl⟩
  rintro k s' ⟨i, h₂, tk, rfl, st, hJ, hin, rfl⟩
  by_cases hlt : i < kvs.length
  · refine W.item i _ _ _ hlt st fun v hN tk₃ ⟨n, x', hkv, his⟩ st₃ hk₃ => ?_
    obtain ⟨u, rfl⟩ := Value.isInt_shape his
    have x₃ : Ext [I] h₂ hN := fun p o hp e => hk₃ p o hp e
    refine wpAny_assign_Name (wpAny_mono (Jt i n u hN _ _ (by rw [List.getElem?_map, hkv]; rfl) (Jk _ _ _ hJ x₃)) (fun _ s₂ h₂ => wpAny_mono h₂ (fun f s₃ h₃ => ?_) fun _ _ e => e) fun _ _ e => e)
    have nx : ∀ h₅ tk₅, Ext X hN h₅ → J (i + 1) h₅ → ∃ m, m < kvs.length + 1 - i ∧ ∃ i h' tk, (⟨h₅, g, d, tk₅, os⟩ : Shared) = ⟨h', g, d, tk, os⟩ ∧ (h'.IsKeyIter I a i kvs.length ep ∧ h'.DictAt (intKind prog w) a kvs ep) ∧ J i h' ∧ i ≤ kvs.length ∧ m = kvs.length + 1 - i := fun h₅ tk₅ x₅ J₅ =>
      ⟨kvs.length + 1 - (i + 1), by omega, i + 1, h₅, tk₅, rfl, W.frame _ _ _ st₃ (fun p hp o e => x₅ p o (by
        simp at hp
        rcases hp with rfl | rfl
        · exact hIX
        · exact haX) e), J₅, hlt, rfl⟩
    cases f with
    | next => obtain ⟨h₅, tk₅, rfl, x₅, J₅⟩ := h₃; exact nx h₅ tk₅ x₅ J₅
    | cont => obtain ⟨h₅, tk₅, rfl, x₅, J₅⟩ := h₃; exact nx h₅ tk₅ x₅ J₅
    | brk => exact h₃
    | ret v => exact h₃
  · have hie : i = kvs.length := by omega
    subst hie
    refine W.done _ _ _ st fun h₃ tk₃ hk₃ => wpAny_execs_nil ?_
    exact Jd h₃ _ (Jk _ _ _ hJ (fun p o hp e => hk₃ p o hp e))
end

/-! the first kind -/
def seenStep : List Int → DS → Bool × DS
  | [], x => (true, x)
  | v :: r, x => if x.sh.contains v = true then (if (x.sh.erase v).isEmpty = true then (false, ⟨x.sh.erase v, x.hd ++ [v], x.st⟩) else seenStep r ⟨x.sh.erase v, x.hd ++ [v], x.st⟩) else seenStep r x
theorem seenStep_append : ∀ {a c : List Int} {x y : DS}, seenStep a x = (true, y) → seenStep (a ++ c) x = seenStep c y
  | [], c, x, y, h => by simp [seenStep] at h; rw [List.nil_append, h]
  | v :: r, c, x, y, h => by
    rw [List.cons_append]
    simp only [seenStep] at h ⊢
    by_cases h1 : x.sh.contains v = true
    · rw [if_pos h1] at h ⊢
      by_cases h2 : (x.sh.erase v).isEmpty = true
      · rw [if_pos h2] at h; cases h
      · rw [if_neg h2] at h ⊢; exact seenStep_append h
    · rw [if_neg h1] at h ⊢; exact seenStep_append h
theorem seenStep_size : ∀ (a : List Int) (x : DS), (seenStep a x).2.sh.length + (seenStep a x).2.hd.length = x.sh.length + x.hd.length ∧ (seenStep a x).2.st = x.st
  | [], x => ⟨rfl, rfl⟩
  | v :: r, x => by
    simp only [seenStep]
    by_cases h1 : x.sh.contains v = true
    · rw [if_pos h1]
      have hv : v ∈ x.sh := by simpa using h1
      have hl := List.length_erase_of_mem hv
      have hp := List.length_pos_of_mem hv
      by_cases h2 : (x.sh.erase v).isEmpty = true
      · rw [if_pos h2]; exact ⟨by simp; omega, rfl⟩
      · rw [if_neg h2]
        obtain ⟨a, b⟩ := seenStep_size r ⟨x.sh.erase v, x.hd ++ [v], x.st⟩
        exact ⟨by rw [a]; simp; omega, b⟩
    · rw [if_neg h1]; exact seenStep_size r x

/-- what is told, by names -/
def Tells (kvs : List (Int × Value)) (τ : Nat → Option Int) : Prop := ∀ k, k < 4 → match τ k with | none => valueAt kvs ((k : Nat) : Int) = none | some v => ∃ t, valueAt kvs ((k : Nat) : Int) = some (.int v t)
theorem Tells.some? {kvs : List (Int × Value)} {τ : Nat → Option Int} (T : Tells kvs τ) {k : Nat} (hk : k < 4) : (valueAt kvs ((k : Nat) : Int)).isSome = (τ k).isSome := by
  have := T k hk
  cases h : τ k with
  | none => rw [h] at this; simp [this]
  | some v => rw [h] at this; obtain ⟨t, e⟩ := this; simp [e]
structure DS.ok (x : DS) : Prop where
  nd : x.sh.Nodup
  l1 : x.sh.length ≤ 50
  l2 : x.hd.length ≤ 50
  l3 : x.st.length ≤ 100
def call0 (row : List Nat) (τ : Nat → Option Int) (σ : Nat → DS) : Bool × (Nat → DS) :=
  if (row.filterMap τ).Nodup then rowF (fun _ => seenStep (row.filterMap τ)) (fun k => (τ k).isSome) row σ else (false, σ)
end Mine
end

section
open PySem PySem.W PySem.Calls PyProof.Rows Builtin Builtin.ObjectAttr
set_option maxRecDepth 100000
namespace Mine

theorem valueAt_mem {kvs : List (Int × Value)} {i : Int} : (valueAt kvs i).isSome = true ↔ i ∈ kvs.map (·.1) := by
  unfold valueAt
  rw [Option.isSome_map, List.find?_isSome]
  simp only [decide_eq_true_eq, List.mem_map]
theorem stored_keys {kvs : List (Int × Value)} {i : Int} {v : Value} (hn : i ∉ kvs.map (·.1)) : (stored kvs i v).map (·.1) = kvs.map (·.1) ++ [i] := by
  unfold stored
  rw [if_neg]
  · simp
  · intro h
    rw [List.any_eq_true] at h
    obtain ⟨x, h1, h2⟩ := h
    exact hn (List.mem_map.mpr ⟨x, h1, by simpa using h2⟩)

section
variable {prog : Program} {w : World} {A : Around} {E : Value → Shared → Prop} {h : Heap} {g : Array GenState} {d : Drawn} {t : Nat} {os : OsState} {b : Heap} {fs : Nat → DA} {σ : Nat → DS}

theorem se_ret {stepF : Nat → DS → Bool × DS} {L : Addr} {m : Str → Option Value} {σ₁ : Nat → DS} {k : Nat} {h₁ h' : Heap} {tk' : Nat} {x : DS} (e : stepF k (σ₁ k) = (false, x)) (D : Doms h' b fs (upd σ₁ k x)) (xx : Ext (L :: allF fs) h₁ h') :
    StepEnd stepF g d os L m b fs σ₁ k h₁ (.ret (.bool false)) ⟨h', g, d, tk', os⟩ :=
  ⟨h', tk', rfl, by rw [e]; exact D, xx, by simp only [e]; simp⟩
theorem se_next {stepF : Nat → DS → Bool × DS} {L : Addr} {m m' : Str → Option Value} {σ₁ : Nat → DS} {k : Nat} {h₁ h' : Heap} {tk' : Nat} {x : DS} (e : stepF k (σ₁ k) = (true, x)) (D : Doms h' b fs (upd σ₁ k x)) (xx : Ext (L :: allF fs) h₁ h') (n : h'.Ns L m') (q : ∀ y, ¬ tmp y → m' y = m y) :
    StepEnd stepF g d os L m b fs σ₁ k h₁ .next ⟨h', g, d, tk', os⟩ :=
  ⟨h', tk', rfl, by rw [e]; exact D, xx, by simp only [e]; simp only [if_true]; exact ⟨trivial, m', n, q⟩⟩

theorem unas_live {w : World} {b h : Heap} (S : Sys w b) (l : Le b h) : ∃ o, h.get? 51 = some o := by
  have : ∃ o, (KK w.params).lookup 51 = some o := ⟨_, rfl⟩
  obtain ⟨o, e⟩ := this
  exact ⟨o, l _ _ (S.X _ _ e)⟩

set_option maxHeartbeats 1000000 in
theorem alldiff_call {ca ra da ha : Addr} {row : List Nat} {kvs : List (Int × Value)} {τ : Nat → Option Int} {Q : Value → Shared → Prop} (S : Sys w b) (l : Le b h) (Rm : Room A 2) (D : Doms h b fs σ)
    (H : Handed prog w b fs ra da ha row kvs) (hT : Tells kvs τ) (hok : ∀ k ∈ row, (σ k).ok)
    (kk : ∀ h' tk, Doms h' b fs (call0 row τ σ).2 → Ext (allF fs) h h' → Q (.bool (call0 row τ σ).1) ⟨h', g, d, tk, os⟩) :
    codeAny (model prog w) A (.call (.ref 160) ⟨[.ref ca, .ref ra, .ref da, .ref ha, .bool true], []⟩) (wants Q E) ⟨h, g, d, t, os⟩ := by
  refine uclc (n := 1) S l Rm (f := 160) (binds := [(Str.ofString "self", .ref ca), (sVariables, .ref ra), (sDomains, .ref da), (sAssign, .ref ha), (Str.ofString "forwardcheck", .bool true), (Str.ofString "_unassigned", .ref 51)]) rfl (by kernel_rfl) (binds_K (S.X.keeps l) rfl rfl rfl rfl rfl) (locs rfl) (by decide) fun A L h₁ E' t₁ hn l₁ hL hLb lb Rm₁ => ?_
  have D₁ := D.le l₁
  have hLF : L ∉ allF fs := fun hm => not_some hL (D.live L hm)
  -- seen = {}
  refine wpAny_execs_cons (wpAny_Assign_Name (dnil S lb fun h₂ sd I₂ f₂ l₂ => ?_))
  refine st' (hn.keeps l₂) fun h₃ u₃ n₃ x₃ => ?_
  have neSL : sd ≠ L := fun e => by obtain ⟨o, _, _, ho, _⟩ := hn; exact not_some f₂ ⟨o, e ▸ ho⟩
  have I₃ := I₂.ext x₃ (by simpa using neSL)
  have hLbs : b.get? sd = none := lb.fresh f₂
  have lb₃ : Le b h₃ := x₃.base (lb.trans l₂) (by simpa using hLb)
  have hsF : sd ∉ allF fs := fun hm => not_some f₂ (D₁.live sd hm)
  have D₃ := (D₁.le l₂).ext x₃ (fun p hp => by simpa using fun e : p = L => hLF (e ▸ hp))
  have x03 : Ext [L] h h₃ := (Ext.of_le (W := [L]) (l₁.trans l₂)).trans x₃ (by simp)
  have hsh : h.get? sd = none := l₁.fresh f₂
  generalize hm0 : updM _ _ _ = m₀ at n₃
  have mv : m₀ sVariables = some (.ref ra) := by subst hm0; rfl
  have ma : m₀ sAssign = some (.ref ha) := by subst hm0; rfl
  have md : m₀ sDomains = some (.ref da) := by subst hm0; rfl
  have mf : m₀ (Str.ofString "forwardcheck") = some (.bool true) := by subst hm0; rfl
  have mu : m₀ (Str.ofString "_unassigned") = some (.ref 51) := by subst hm0; rfl
  have ms : m₀ (Str.ofString "seen") = some (.ref sd) := by subst hm0; rfl
  clear hm0
  -- for variable in variables: ..
  obtain ⟨rits, rn, hrow, hri⟩ := H.rl
  have hrl := hri.length
  have nbX : ∀ {p : Addr}, (∃ o, b.get? p = some o) → p ∉ [L, sd] := fun hp hm => by
    simp at hm
    rcases hm with rfl | rfl
    · exact not_some hLb hp
    · exact not_some hLbs hp
  have Xl : ∀ p ∈ [L, sd], ∃ o, h₃.get? p = some o := fun p hp => by
    simp at hp
    rcases hp with rfl | rfl
    · obtain ⟨o, _, _, ho, _⟩ := n₃; exact ⟨o, ho⟩
    · obtain ⟨o, ho, _⟩ := I₃.live; exact ⟨o, ho⟩
  obtain ⟨o51, h51⟩ := unas_live S (Le.refl b)
  refine wpAny_execs_cons (for_list Rm₁.hh (ln (v := .ref ra) n₃ mv ⟨h₃, g, d, _, os, ra, rits, rn, [L, sd], rfl, rfl, lb₃ _ _ hrow, nbX ⟨_, hrow⟩, Xl, fun I hI => ⟨fun i h₁ => ∃ m₁ kv1, h₁.Ns L m₁ ∧ (∀ y, ¬ tmp y → m₁ y = m₀ y) ∧ ID prog w h₁ sd kv1 ∧ kv1.map (·.1) = (row.take i).filterMap τ ∧ ((row.take i).filterMap τ).Nodup ∧ kv1.length ≤ i ∧ Ext [L, sd] h₃ h₁, fun h' l' => ?_, ?_, ?_, ?_⟩⟩))
  · exact ⟨m₀, [], n₃.keeps l', fun _ _ => rfl, I₃.le l', by simp, by simp, by simp, Ext.of_le l'⟩
  · rintro i ha' hb' ⟨m₁, kv1, n₁, q₁, I₁, e₁, nd₁, z₁, x₁⟩ x
    have hIX : ∀ p ∈ [L, sd], p ≠ I := fun p hp e => not_some hI (e ▸ Xl p hp)
    refine ⟨m₁, kv1, ns_ext n₁ x (by simpa using hIX L (by simp)), q₁, I₁.ext x (by simpa using hIX sd (by simp)), e₁, nd₁, z₁, x₁.trans x (fun p hp => .inr ?_)⟩
    rw [List.mem_singleton.mp hp]; exact hI
  · rintro i v h₄ tk E'' hv ⟨m₁, kv1, n₁, q₁, I₁, e₁, nd₁, z₁, x₁⟩
    obtain ⟨vi, u, rfl, hvi⟩ := hri.at i v hv
    rw [List.getElem?_map] at hvi
    obtain ⟨k, hk, rfl⟩ := Option.map_eq_some_iff.mp hvi
    have hkm : k ∈ row := List.mem_of_getElem? hk
    have hk4 := H.lt k hkm
    have htake : row.take (i + 1) = row.take i ++ [k] := by rw [List.take_add_one, hk]; rfl
    have lb₄ : Le b h₄ := x₁.base lb₃ (by simp [hLb, hLbs])
    refine st' n₁ fun h₅ u₅ n₅ x₅ => ?_
    have q₅ : ∀ y, ¬ tmp y → updM m₁ sVariable (.int (Int.ofNat k) u) y = m₀ y := fun y hy => by
      have : y ≠ sVariable := fun e => hy (.inl e)
      simp [updM, this]; exact q₁ y hy
    have lb₅ : Le b h₅ := x₅.base lb₄ (by simpa using hLb)
    have I₅ := I₁.ext x₅ (by simpa using neSL)
    -- value = assignments.get(variable, _unassigned)
    refine wpAny_execs_cons (wpAny_Assign_Name (mcall (ln (v := .ref ha) n₅ (by rw [q₅ _ nt_assign]; exact ma) fun pl => ?_)))
    refine dmeth_get (H.asg.le lb₅) ?_
    refine cw2 (ln (v := .int ((k : Nat) : Int) u) n₅ (by simp [updM]) (ln (v := .ref 51) n₅ (by rw [q₅ _ (by decide)]; exact mu) ?_))
    refine dget2 (H.asg.le lb₅) fun tk₆ => ?_
    refine st' n₅ fun h₆ u₆ n₆ x₆ => ?_
    have lb₆ : Le b h₆ := x₆.base lb₅ (by simpa using hLb)
    have I₆ := I₅.ext x₆ (by simpa using neSL)
    have x46 : Ext [L, sd] h₄ h₆ := (x₅.mono (by simp)).trans x₆ (by simp)
    have q₆ : ∀ y, ¬ tmp y → updM (updM m₁ sVariable (.int (Int.ofNat k) u)) sValue ((valueAt kvs ((k : Nat) : Int)).getD (.ref 51)) y = m₀ y := fun y hy => by
      have : y ≠ sValue := fun e => hy (.inr (.inr (.inl e)))
      rw [updM, if_neg this]; exact q₅ y hy
    have hτ := hT k hk4
    -- if value is not _unassigned
    cases hτk : τ k with
    | none =>
      rw [hτk] at hτ
      rw [hτ] at n₆ q₆
      refine wpAny_execs_cons (wpAny_If (wpAny_isTrue_Compare1 (ln (v := .ref 51) n₆ (by simp [updM]) (ln (v := .ref 51) n₆ (by rw [q₆ _ (by decide)]; exact mu) (isn_rr (trb ?_)))) rfl))
      rw [if_neg (by decide)]
      refine wpAny_execs_nil (wpAny_execs_nil ⟨h₆, u₆, rfl, x46, _, kv1, n₆, q₆, I₆, ?_, ?_, by omega, x₁.trans x46 (fun p hp => .inl hp)⟩)
      · rw [htake, List.filterMap_append, e₁]; simp [hτk]
      · rw [htake, List.filterMap_append]; simpa [hτk] using nd₁
    | some vv =>
      rw [hτk] at hτ
      obtain ⟨tv, ev⟩ := hτ
      rw [ev] at n₆ q₆
      refine wpAny_execs_cons (wpAny_If (wpAny_isTrue_Compare1 (ln (v := .int vv tv) n₆ (by simp [updM]) (ln (v := .ref 51) n₆ (by rw [q₆ _ (by decide)]; exact mu) (isn_ir (trb ?_)))) rfl))
      rw [if_pos (by decide)]
      refine wpAny_execs_cons (wpAny_If (wpAny_isTrue_Compare1 (ln (v := .int vv tv) n₆ (by simp [updM]) (ln (v := .ref sd) n₆ (by rw [q₆ _ (by decide)]; exact ms) (din I₆ fun tk₇ => trb ?_))) rfl))
      by_cases hin : (valueAt kv1 vv).isSome = true
      · rw [if_pos hin]
        have hmem : vv ∈ (row.take i).filterMap τ := e₁ ▸ valueAt_mem.mp hin
        have hnn : ¬ (row.filterMap τ).Nodup := fun hnd => by
          have hilt : i < row.length := (List.getElem?_eq_some_iff.mp hk).1
          have hike : row[i] = k := (List.getElem?_eq_some_iff.mp hk).2
          have hsp : row = row.take i ++ k :: row.drop (i + 1) := by
            rw [← hike, ← List.drop_eq_getElem_cons hilt, List.take_append_drop]
          rw [hsp, List.filterMap_append, List.filterMap_cons, hτk] at hnd
          exact (List.nodup_append.mp hnd).2.2 vv hmem vv List.mem_cons_self rfl
        have ec : call0 row τ σ = (false, σ) := by unfold call0; rw [if_neg hnn]
        have x06 : Ext (allF fs) h h₆ := (((x03.mono (V := [L, sd]) (by simp)).trans x₁ (fun p hp => .inl hp)).trans x46 (fun p hp => .inl hp)).drop (fun p hp => by
          simp at hp
          rcases hp with rfl | rfl
          · exact .inr hL
          · exact .inr hsh)
        refine wpAny_execs_cons (ret' (cb ?_))
        have D₆ : Doms h₆ b fs σ := (D₃.ext x₁ (fun p hp => by simp; exact ⟨fun e => hLF (e ▸ hp), fun e => hsF (e ▸ hp)⟩)).ext x46 (fun p hp => by simp; exact ⟨fun e => hLF (e ▸ hp), fun e => hsF (e ▸ hp)⟩)
        have := kk h₆ tk₇ (by rw [ec]; exact D₆) x06
        rw [ec] at this; exact this
      · rw [if_neg hin]
        have hnmem : vv ∉ kv1.map (·.1) := fun hm => hin (valueAt_mem.mpr hm)
        refine wpAny_execs_nil (wpAny_execs_cons (wpAny_Assign_Subscript (cb (ln (v := .ref sd) n₆ (by rw [q₆ _ (by decide)]; exact ms) (ln (v := .int vv tv) n₆ (by simp [updM]) ?_)))))
        refine dset I₆ (by have := (List.getElem?_eq_some_iff.mp hk).1; have := H.le4; omega) fun h₇ tk₈ I₇ x₇ => ?_
        refine wpAny_execs_nil (wpAny_execs_nil ⟨h₇, tk₈, rfl, x46.trans x₇ (by simp), _, _, ns_ext n₆ x₇ (by simpa using neSL.symm), q₆, I₇, ?_, ?_, ?_, (x₁.trans x46 (fun p hp => .inl hp)).trans x₇ (by simp)⟩)
        · rw [stored_keys hnmem, htake, List.filterMap_append, e₁]; simp [hτk]
        · rw [htake, List.filterMap_append]
          rw [e₁] at hnmem
          simp only [List.filterMap_cons, hτk, List.filterMap_nil]
          exact List.nodup_append.mpr ⟨nd₁, by simp, fun x hx y hy e => by rw [List.mem_singleton.mp hy] at e; exact hnmem (e ▸ hx)⟩
        · have := congrArg List.length (stored_keys (v := .bool true) hnmem)
          simp at this; omega
  rintro h₄ tk ⟨m₁, kv1, n₁, q₁, I₁, e₁, nd₁, z₁, x₁⟩
  rw [show rits.length = row.length by rw [hrl, List.length_map], List.take_length] at e₁ nd₁
  have lb₄ : Le b h₄ := x₁.base lb₃ (by simp [hLb, hLbs])
  have D₄ : Doms h₄ b fs σ := D₃.ext x₁ (fun p hp => by simp; exact ⟨fun e => hLF (e ▸ hp), fun e => hsF (e ▸ hp)⟩)
  have ec : call0 row τ σ = rowF (fun _ => seenStep (row.filterMap τ)) (fun k => (τ k).isSome) row σ := by unfold call0; rw [if_pos nd₁]
  have x04 : Ext (allF fs) h h₄ := ((x03.mono (V := [L, sd]) (by simp)).trans x₁ (fun p hp => .inl hp)).drop (fun p hp => by
    simp at hp
    rcases hp with rfl | rfl
    · exact .inr hL
    · exact .inr hsh)
  have fin : ∀ {h' : Heap}, Ext (L :: allF fs) h₄ h' → Ext (allF fs) h h' := fun x => ((x04.mono (V := L :: allF fs) (fun p hp => List.mem_cons_of_mem _ hp)).trans x (fun p hp => .inl hp)).drop (fun p hp => by
    rcases List.mem_cons.mp hp with rfl | hp
    · exact .inr hL
    · exact .inl hp)
  -- if forwardcheck
  refine wpAny_execs_cons (wpAny_If (wpAny_isTrue_value (ln (v := .bool true) n₁ (by rw [q₁ _ (by decide)]; exact mf) (trb ?_))))
  rw [if_pos rfl]
  refine wpAny_execs_cons ?_
  refine row_loop (fun _ => seenStep (row.filterMap τ)) (fun k => (τ k).isSome) S lb₄ Rm₁.hh D₄ H (fun k hk => hT.some? (H.lt k hk)) n₁ hLF hLb (by rw [q₁ _ nt_variables]; exact mv) (by rw [q₁ _ nt_assign]; exact ma) (by rw [q₁ _ nt_domains]; exact md) (by rfl) (by rfl) (by rfl) (by rfl) (by rfl) (by rfl) (by rfl) ?_ ?_ ?_
  · intro k h₅ tk₅ m₅ σ₅ E₅ hkm hkt n₅ q₅ mdom D₅ hσk l₅ x₅
    have hk4 := H.lt k hkm
    have hok' := hok k hkm
    rw [← hσk] at hok'
    have I₅ : ID prog w h₅ sd kv1 := I₁.ext x₅ (fun hm => by
      rcases List.mem_cons.mp hm with e | hm
      · exact neSL e
      · exact hsF hm)
    have Xl5 : ∀ p ∈ L :: allF fs, ∃ o, h₅.get? p = some o := fun p hp => by
      rcases List.mem_cons.mp hp with e | hp
      · obtain ⟨o, _, _, ho, _⟩ := n₅; exact ⟨o, e ▸ ho⟩
      · exact D₅.live p hp
    have hsX : sd ∉ L :: allF fs := fun hm => by
      rcases List.mem_cons.mp hm with e | hm
      · exact neSL e
      · exact hsF hm
    have hX0 : ∀ p ∈ L :: allF fs, b.get? p = none := fun p hp => by
      rcases List.mem_cons.mp hp with e | hp
      · exact e ▸ hLb
      · exact D₅.offA p hp
    generalize hseen : row.filterMap τ = seen at *
    refine wpAny_execs_cons (for_dict Rm₁.hh (ln (v := .ref sd) n₅ (by rw [q₅ _ (by decide), q₁ _ (by decide)]; exact ms) ⟨h₅, g, d, _, os, sd, kv1, L :: allF fs, rfl, rfl, I₅, hsX, Xl5, fun I hI => ⟨fun i h₆ => ∃ m₆ x, h₆.Ns L m₆ ∧ (∀ y, y ≠ sValue → m₆ y = m₅ y) ∧ Doms h₆ b fs (upd σ₅ k x) ∧ seenStep (seen.take i) (σ₅ k) = (true, x) ∧ Ext (L :: allF fs) h₅ h₆, fun h' l' => ?_, ?_, ?_, ?_⟩⟩))
    · exact ⟨m₅, σ₅ k, n₅.keeps l', fun _ _ => rfl, by rw [upd_self]; exact D₅.le l', rfl, Ext.of_le l'⟩
    · rintro i ha' hb' ⟨m₆, x, n₆, q₆, D₆, r₆, x₆⟩ xx
      have hIX : ∀ p ∈ L :: allF fs, p ≠ I := fun p hp e => not_some hI (e ▸ Xl5 p hp)
      refine ⟨m₆, x, ns_ext n₆ xx (by simpa using hIX L List.mem_cons_self), q₆, D₆.ext xx (fun p hp => by simpa using hIX p (List.mem_cons_of_mem _ hp)), r₆, x₆.trans xx (fun p hp => .inr ?_)⟩
      rw [List.mem_singleton.mp hp]; exact hI
    · rintro i v u h₆ tk₆ E₆ hv ⟨m₆, x, n₆, q₆, D₆, r₆, x₆⟩
      rw [e₁] at hv
      have hvt : seen.take (i + 1) = seen.take i ++ [v] := by rw [List.take_add_one, hv]; rfl
      have hilt : i < seen.length := (List.getElem?_eq_some_iff.mp hv).1
      have hsp : seen = seen.take i ++ v :: seen.drop (i + 1) := by
        rw [← (List.getElem?_eq_some_iff.mp hv).2, ← List.drop_eq_getElem_cons hilt, List.take_append_drop]
      have hsz := seenStep_size (seen.take i) (σ₅ k)
      rw [r₆] at hsz
      have hsm : x.small := ⟨by have := hok'.l1; have := hok'.l2; have := hsz.1; dsimp only at this; omega, by have := hok'.l1; have := hok'.l2; have := hsz.1; dsimp only at this; omega, by have := hok'.l3; have := hsz.2; dsimp only at this; rw [this]; omega⟩
      refine st' n₆ fun h₇ u₇ n₇ x₇ => ?_
      have l₆ : Le b h₆ := x₆.base l₅ hX0
      have l₇ : Le b h₇ := x₇.base l₆ (by simpa using hLb)
      have D₇ := D₆.ext x₇ (fun p hp => by simpa using fun e : p = L => hLF (e ▸ hp))
      have q₇ : ∀ y, y ≠ sValue → updM m₆ sValue (.int v u) y = m₅ y := fun y hy => by simp [updM, hy]; exact q₆ y hy
      have x57 : Ext (L :: allF fs) h₅ h₇ := x₆.trans x₇ (by simp)
      have hdm : updM m₆ sValue (.int v u) sDomain = some (.ref (fs k).a) := by rw [q₇ _ (by decide)]; exact mdom
      have qE : ∀ y, ¬ tmp y → updM m₆ sValue (.int v u) y = m₁ y := fun y hy => by
        rw [q₇ _ (fun e => hy (.inr (.inr (.inl e))))]; exact q₅ y hy
      refine wpAny_execs_cons (wpAny_If (wpAny_isTrue_Compare1 (ln (v := .int v u) n₇ (by simp [updM]) (ln (v := .ref (fs k).a) n₇ hdm (din_dom S l₇ D₇ hk4 (trb ?_)))) rfl))
      rw [upd_same]
      by_cases hc : x.sh.contains v = true
      · rw [if_pos hc]
        refine wpAny_execs_cons (wpAny_Expr_any (mcall (ln (v := .ref (fs k).a) n₇ hdm fun pl => ?_)))
        obtain ⟨its3, hh3, ss3, Dk3, _⟩ := D₇.at_ k hk4
        refine dom_meth S l₇ Dk3 (f_hide _) (t_94 _) (by decide) (by decide) ?_
        refine cwg rfl (ev1 (ln (v := .int v u) n₇ (by simp [updM]) ⟨kp_fn S l₇ rfl, ?_⟩))
        refine hide_at S l₇ Rm₁ D₇ hk4 (by rw [upd_same]; simpa using hc) (by rw [upd_same]; exact hsm) fun h₈ tk₈ D₈ x₈ => ?_
        rw [upd_same, upd_upd] at D₈
        have l₈ : Le b h₈ := x₈.base l₇ (fun p hp => hX0 p (List.mem_cons_of_mem _ hp))
        have n₈ := ns_ext n₇ x₈ hLF
        have x68 : Ext (L :: allF fs) h₆ h₈ := (x₇.mono (by simp)).trans x₈ (fun p hp => .inl (List.mem_cons_of_mem _ hp))
        have x58 : Ext (L :: allF fs) h₅ h₈ := x₆.trans x68 (fun p hp => .inl hp)
        have hvm : v ∈ x.sh := by simpa using hc
        have hsm8 : (⟨x.sh.erase v, x.hd ++ [v], x.st⟩ : DS).small := ⟨by have := List.length_erase_of_mem hvm; have := hsm.1; show (x.sh.erase v).length ≤ 100; omega, by
          have := hok'.l1; have := hok'.l2; have h1 := hsz.1; have := List.length_pos_of_mem hvm; dsimp only at h1; show (x.hd ++ [v]).length ≤ 100; simp; omega, hsm.2.2⟩
        refine wpAny_execs_cons (wpAny_If (isTrue_not (wpAny_isTrue_value (ln (v := .ref (fs k).a) n₈ hdm ?_))))
        refine dtru_dom S l₈ D₈ hk4 (by rw [upd_same]; exact hsm8) fun tk₉ => ?_
        rw [upd_same, Bool.not_not]
        by_cases he : (x.sh.erase v).isEmpty = true
        · rw [if_pos he]
          have es : seenStep seen (σ₅ k) = (false, ⟨x.sh.erase v, x.hd ++ [v], x.st⟩) := by
            rw [hsp, seenStep_append r₆]; simp only [seenStep]; rw [if_pos hc, if_pos he]
          refine wpAny_execs_cons (ret' (cb ?_))
          exact se_ret (stepF := fun _ => seenStep seen) es D₈ x58
        · rw [if_neg he]
          refine wpAny_execs_nil (wpAny_execs_nil (wpAny_execs_nil ⟨h₈, tk₉, rfl, x68, _, _, n₈, q₇, D₈, ?_, x58⟩))
          rw [hvt, seenStep_append r₆]; simp only [seenStep]; rw [if_pos hc, if_neg he]
      · rw [if_neg hc]
        refine wpAny_execs_nil (wpAny_execs_nil ⟨h₇, _, rfl, x₇.mono (by simp), _, x, n₇, q₇, D₇, ?_, x57⟩)
        rw [hvt, seenStep_append r₆]; simp only [seenStep]; rw [if_neg hc]
    · rintro h₆ tk₆ ⟨m₆, x, n₆, q₆, D₆, r₆, x₆⟩
      have hl : kv1.length = seen.length := by rw [← e₁, List.length_map]
      rw [hl, List.take_length] at r₆
      exact wpAny_execs_nil (se_next (stepF := fun _ => seenStep seen) r₆ D₆ x₆ n₆ fun y hy => by rw [q₆ _ (fun e => hy (.inr (.inr (.inl e))))]; exact q₅ y hy)
  · intro h' tk' m' n' q' hr D' x'
    refine wpAny_execs_nil (wpAny_execs_cons (ret' (cb ?_)))
    have := kk h' tk' (by rw [ec]; exact D') (fin x')
    rw [ec, hr] at this; exact this
  · intro h' tk' hr D' x'
    have := kk h' tk' (by rw [ec]; exact D') (fin x')
    rw [ec, hr] at this; exact this
end
end Mine
end

section
open PySem PySem.W PySem.Calls PyProof.Rows Builtin Builtin.ObjectAttr
set_option maxRecDepth 100000
namespace Mine

/-- every told value is the same -/
abbrev allSame (tl : List Int) : Prop := ∀ x ∈ tl, ∀ y ∈ tl, x = y
def eqStep (c : Int) (x : DS) : Bool × DS := if x.sh.contains c = true then (true, hideAll (fun v => v != c) x) else (false, x)
def call1 (row : List Nat) (τ : Nat → Option Int) (σ : Nat → DS) : Bool × (Nat → DS) :=
  if allSame (row.filterMap τ) then (match (row.filterMap τ).head? with | none => (true, σ) | some c => rowF (fun _ => eqStep c) (fun k => (τ k).isSome) row σ) else (false, σ)

section
variable {prog : Program} {w : World} {A : Around} {E : Value → Shared → Prop} {h : Heap} {g : Array GenState} {d : Drawn} {t : Nat} {os : OsState} {b : Heap} {fs : Nat → DA} {σ : Nat → DS} {env : Env} {m : Str → Option Value} {L : Addr}

/-- for variable in variables: nothing but locals changes -/
theorem scan_loop {p1 p2 pos : Pos} {body : List Stmt} {Q : Flow → Shared → Prop} {ra : Addr} {row : List Nat} {rits : List Value} {rn : Nat} (J : Nat → (Str → Option Value) → Prop) (l : Le b h) (hh : A.handled = none)
    (hrow : b.get? ra = some (listO rits.toArray rn)) (hri : IntsAre rits (row.map Int.ofNat)) (hn : h.Ns L m) (hLb : b.get? L = none) (mv : m sVariables = some (.ref ra)) (J0 : J 0 m)
    (kv : env.kindOf sVariable = some .local) (kvs' : env.kindOf sVariables = some .local) (hel : env.locals = L) (hek : env.scope.kind = .function)
    (step : ∀ i k u h₁ tk m₁ E', row[i]? = some k → J i m₁ → h₁.Ns L (updM m₁ sVariable (.int ((k : Nat) : Int) u)) → Le b h₁ → Ext [L] h h₁ →
      wpAny (model prog w) A (execs body env) (After Q fun s₃ => ∃ h₃ tk₃ m₃, s₃ = ⟨h₃, g, d, tk₃, os⟩ ∧ Ext [L] h₁ h₃ ∧ h₃.Ns L m₃ ∧ J (i + 1) m₃) E' ⟨h₁, g, d, tk, os⟩)
    (kt : ∀ h' tk m', h'.Ns L m' → J row.length m' → Ext [L] h h' → Q .next ⟨h', g, d, tk, os⟩)
    (hs : ∀ x, foldedSetIterable (.Name sVariables p2) env x = pure x := by intro _; rfl) :
    wpAny (model prog w) A (exec (.For (.Name sVariable p1) (.Name sVariables p2) body [] pos) env) Q E ⟨h, g, d, t, os⟩ := by
  have hpm : (env.scope.kind == .class || (env.scope.kind == .module && env.locals != env.globals)) = false := by rw [hek]; rfl
  have Xl : ∀ p ∈ [L], ∃ o, h.get? p = some o := fun p hp => by
    rw [List.mem_singleton.mp hp]; obtain ⟨o, _, _, ho, _⟩ := hn; exact ⟨o, ho⟩
  have hl := hri.length
  rw [List.length_map] at hl
  refine for_list hh (ln hn mv ⟨h, g, d, _, os, ra, rits, rn, [L], rfl, rfl, l _ _ hrow, by simpa using fun e : ra = L => not_some hLb ⟨_, e ▸ hrow⟩, Xl, fun I hI => ⟨fun i h₁ => ∃ m₁, h₁.Ns L m₁ ∧ J i m₁ ∧ Ext [L] h h₁, fun h' l' => ?_, ?_, ?_, ?_⟩⟩ hel hek kvs' (by decide)) hs
  · exact ⟨m, hn.keeps l', J0, Ext.of_le l'⟩
  · rintro i ha' hb' ⟨m₁, n₁, j₁, x₁⟩ x
    refine ⟨m₁, ns_ext n₁ x (by simpa using fun e : L = I => not_some hI (e ▸ Xl L (by simp))), j₁, x₁.trans x (fun p hp => .inr ?_)⟩
    rw [List.mem_singleton.mp hp]; exact hI
  · rintro i v h₁ tk E' hv ⟨m₁, n₁, j₁, x₁⟩
    obtain ⟨vi, u, rfl, hvi⟩ := hri.at i v hv
    rw [List.getElem?_map] at hvi
    obtain ⟨k, hk, rfl⟩ := Option.map_eq_some_iff.mp hvi
    refine st' n₁ (fun h₂ u₂ n₂ x₂ => ?_) hel kv hpm
    refine wpAny_mono (step i k u h₂ u₂ m₁ E' hk j₁ n₂ (x₂.base (x₁.base l (by simpa using hLb)) (by simpa using hLb)) (x₁.trans x₂ (by simp))) (fun f s' hf => ?_) fun _ _ e => e
    have nx : (∃ h₃ tk₃ m₃, s' = ⟨h₃, g, d, tk₃, os⟩ ∧ Ext [L] h₂ h₃ ∧ h₃.Ns L m₃ ∧ J (i + 1) m₃) → ∃ h₃ tk₃, s' = ⟨h₃, g, d, tk₃, os⟩ ∧ Ext [L] h₁ h₃ ∧ ∃ m₁, h₃.Ns L m₁ ∧ J (i + 1) m₁ ∧ Ext [L] h h₃ := by
      rintro ⟨h₃, tk₃, m₃, rfl, x₃, n₃, j₃⟩
      exact ⟨h₃, tk₃, rfl, x₂.trans x₃ (by simp), m₃, n₃, j₃, (x₁.trans x₂ (by simp)).trans x₃ (by simp)⟩
    cases f with
    | next => exact nx hf
    | cont => exact nx hf
    | brk => exact hf
    | ret v => exact hf
  · rintro h₁ tk ⟨m₁, n₁, j₁, x₁⟩
    rw [hl] at j₁
    exact kt h₁ tk m₁ n₁ j₁ x₁

abbrev sSingle : Str := Str.ofString "singlevalue"
/-- the single value, in the locals -/
def SingleIs (m : Str → Option Value) (c : Option Int) : Prop := match c with | none => m sSingle = some (.ref 51) | some c => ∃ u, m sSingle = some (.int c u)

set_option maxHeartbeats 1000000 in
theorem alleq_call {ca ra da ha : Addr} {row : List Nat} {kvs : List (Int × Value)} {τ : Nat → Option Int} {Q : Value → Shared → Prop} (S : Sys w b) (l : Le b h) (Rm : Room A 2) (D : Doms h b fs σ)
    (H : Handed prog w b fs ra da ha row kvs) (hT : Tells kvs τ) (hok : ∀ k ∈ row, (σ k).ok)
    (kk : ∀ h' tk, Doms h' b fs (call1 row τ σ).2 → Ext (allF fs) h h' → Q (.bool (call1 row τ σ).1) ⟨h', g, d, tk, os⟩) :
    codeAny (model prog w) A (.call (.ref 180) ⟨[.ref ca, .ref ra, .ref da, .ref ha, .bool true], []⟩) (wants Q E) ⟨h, g, d, t, os⟩ := by
  refine uclc (n := 1) S l Rm (f := 180) (binds := [(Str.ofString "self", .ref ca), (sVariables, .ref ra), (sDomains, .ref da), (sAssign, .ref ha), (Str.ofString "forwardcheck", .bool true), (Str.ofString "_unassigned", .ref 51)]) rfl (by kernel_rfl) (binds_K (S.X.keeps l) rfl rfl rfl rfl rfl) (locs rfl) (by decide) fun A L h₁ E' t₁ hn l₁ hL hLb lb Rm₁ => ?_
  have D₁ := D.le l₁
  have hLF : L ∉ allF fs := fun hm => not_some hL (D.live L hm)
  refine wpAny_execs_cons (wpAny_Assign_Name (ln (v := .ref 51) hn rfl ?_))
  refine st' hn fun h₃ u₃ n₃ x₃ => ?_
  have lb₃ : Le b h₃ := x₃.base lb (by simpa using hLb)
  have x03 : Ext [L] h h₃ := (Ext.of_le (W := [L]) l₁).trans x₃ (by simp)
  have D₃ := D₁.ext x₃ (fun p hp => by simpa using fun e : p = L => hLF (e ▸ hp))
  generalize hm0 : updM _ _ _ = m₀ at n₃
  have mv : m₀ sVariables = some (.ref ra) := by subst hm0; rfl
  have ma : m₀ sAssign = some (.ref ha) := by subst hm0; rfl
  have md : m₀ sDomains = some (.ref da) := by subst hm0; rfl
  have mf : m₀ (Str.ofString "forwardcheck") = some (.bool true) := by subst hm0; rfl
  have mu : m₀ (Str.ofString "_unassigned") = some (.ref 51) := by subst hm0; rfl
  have ms : m₀ sSingle = some (.ref 51) := by subst hm0; rfl
  clear hm0
  obtain ⟨rits, rn, hrow, hri⟩ := H.rl
  refine wpAny_execs_cons (scan_loop (fun i m₁ => (∀ y, ¬ tmp y → y ≠ sSingle → m₁ y = m₀ y) ∧ SingleIs m₁ ((row.take i).filterMap τ).head? ∧ allSame ((row.take i).filterMap τ)) lb₃ Rm₁.hh hrow hri n₃ hLb mv ⟨fun _ _ _ => rfl, ms, by simp [allSame]⟩ (by rfl) (by rfl) (by rfl) (by rfl) ?_ ?_)
  · rintro i k u h₅ tk m₁ E₅ hk ⟨q₁, s₁, a₁⟩ n₅ lb₅ x₅
    have hkm : k ∈ row := List.mem_of_getElem? hk
    have hk4 := H.lt k hkm
    have htake : row.take (i + 1) = row.take i ++ [k] := by rw [List.take_add_one, hk]; rfl
    have hilt : i < row.length := (List.getElem?_eq_some_iff.mp hk).1
    have hsp : row = row.take i ++ k :: row.drop (i + 1) := by
      rw [← (List.getElem?_eq_some_iff.mp hk).2, ← List.drop_eq_getElem_cons hilt, List.take_append_drop]
    have q₅ : ∀ y, ¬ tmp y → y ≠ sSingle → updM m₁ sVariable (.int ((k : Nat) : Int) u) y = m₀ y := fun y hy hz => by
      have : y ≠ sVariable := fun e => hy (.inl e)
      simp [updM, this]; exact q₁ y hy hz
    refine wpAny_execs_cons (wpAny_Assign_Name (mcall (ln (v := .ref ha) n₅ (by rw [q₅ _ nt_assign (by decide)]; exact ma) fun pl => ?_)))
    refine dmeth_get (H.asg.le lb₅) ?_
    refine cw2 (ln (v := .int ((k : Nat) : Int) u) n₅ (by simp [updM]) (ln (v := .ref 51) n₅ (by rw [q₅ _ (by decide) (by decide)]; exact mu) ?_))
    refine dget2 (H.asg.le lb₅) fun tk₆ => ?_
    refine st' n₅ fun h₆ u₆ n₆ x₆ => ?_
    have lb₆ : Le b h₆ := x₆.base lb₅ (by simpa using hLb)
    have q₆ : ∀ y, ¬ tmp y → y ≠ sSingle → updM (updM m₁ sVariable (.int ((k : Nat) : Int) u)) sValue ((valueAt kvs ((k : Nat) : Int)).getD (.ref 51)) y = m₀ y := fun y hy hz => by
      have : y ≠ sValue := fun e => hy (.inr (.inr (.inl e)))
      rw [updM, if_neg this]; exact q₅ y hy hz
    have eS : updM (updM m₁ sVariable (.int ((k : Nat) : Int) u)) sValue ((valueAt kvs ((k : Nat) : Int)).getD (.ref 51)) sSingle = m₁ sSingle := rfl
    have hτ := hT k hk4
    generalize htl : (row.take i).filterMap τ = tl at *
    have hft : (row.take (i + 1)).filterMap τ = tl ++ (τ k).toList := by
      rw [htake, List.filterMap_append, htl]; cases h : τ k <;> simp [h]
    have huv : updM (updM m₁ sVariable (.int ((k : Nat) : Int) u)) sValue ((valueAt kvs ((k : Nat) : Int)).getD (.ref 51)) sValue = some ((valueAt kvs ((k : Nat) : Int)).getD (.ref 51)) := by simp [updM]
    generalize hmm : updM (updM m₁ sVariable (.int ((k : Nat) : Int) u)) sValue ((valueAt kvs ((k : Nat) : Int)).getD (.ref 51)) = m₆ at *
    cases hhd : tl.head? with
    | none =>
      have htn : tl = [] := List.head?_eq_none_iff.mp hhd
      rw [hhd] at s₁
      have e₆ : m₆ sSingle = some (.ref 51) := eS.trans s₁
      refine wpAny_execs_cons (wpAny_If (wpAny_isTrue_Compare1 (ln (v := .ref 51) n₆ e₆ (ln (v := .ref 51) n₆ (by rw [q₆ _ (by decide) (by decide)]; exact mu) (is_rr (trb ?_)))) rfl))
      rw [if_pos rfl]
      refine wpAny_execs_cons (wpAny_Assign_Name (ln n₆ huv ?_))
      refine st' n₆ fun h₇ u₇ n₇ x₇ => ?_
      refine wpAny_execs_nil (wpAny_execs_nil ⟨h₇, u₇, _, rfl, x₆.trans x₇ (by simp), n₇, fun y hy hz => by rw [updM, if_neg hz]; exact q₆ y hy hz, ?_, ?_⟩)
      · rw [hft, htn]
        cases hq : τ k with
        | none => rw [hq] at hτ; rw [hτ]; simp [SingleIs, updM]
        | some c => rw [hq] at hτ; obtain ⟨tc, ec⟩ := hτ; rw [ec]; exact ⟨tc, by simp [updM]⟩
      · rw [hft, htn]
        cases τ k <;> simp [allSame]
    | some c =>
      rw [hhd] at s₁
      obtain ⟨uc, s₁⟩ := s₁
      have e₆ : m₆ sSingle = some (.int c uc) := eS.trans s₁
      have hcm : c ∈ tl := List.mem_of_head? hhd
      have hcc : ∀ x ∈ tl, x = c := fun x hx => a₁ x hx c hcm
      refine wpAny_execs_cons (wpAny_If (wpAny_isTrue_Compare1 (ln (v := .int c uc) n₆ e₆ (ln (v := .ref 51) n₆ (by rw [q₆ _ (by decide) (by decide)]; exact mu) (is_ir (trb ?_)))) rfl))
      rw [if_neg (by decide)]
      have hhd' : (tl ++ (τ k).toList).head? = some c := by rw [List.head?_append, hhd]; rfl
      have sg : SingleIs m₆ ((row.take (i + 1)).filterMap τ).head? := by rw [hft, hhd']; exact ⟨uc, e₆⟩
      cases hq : τ k with
      | none =>
        rw [hq] at hτ hft
        rw [hτ] at huv
        refine wpAny_execs_cons (wpAny_If (isTrue_and (wpAny_isTrue_Compare1 (ln (v := .ref 51) n₆ huv (ln (v := .ref 51) n₆ (by rw [q₆ _ (by decide) (by decide)]; exact mu) (isn_rr (trb ?_)))) rfl)))
        refine wpAny_execs_nil (wpAny_execs_nil (wpAny_execs_nil ⟨h₆, u₆, m₆, rfl, x₆, n₆, q₆, sg, ?_⟩))
        rw [hft]; simpa using a₁
      | some v =>
        rw [hq] at hτ hft
        obtain ⟨tv, ev⟩ := hτ
        rw [ev] at huv
        have huv : m₆ sValue = some (.int v tv) := huv
        refine wpAny_execs_cons (wpAny_If (isTrue_and (wpAny_isTrue_Compare1 (ln (v := .int v tv) n₆ huv (ln (v := .ref 51) n₆ (by rw [q₆ _ (by decide) (by decide)]; exact mu) (isn_ir (trb ?_)))) rfl)))
        refine isTrue_and (wpAny_isTrue_Compare1 (ln (v := .int v tv) n₆ huv (ln (v := .int c uc) n₆ e₆ (nei (trb ?_)))) rfl)
        by_cases hvc : v = c
        · subst hvc
          rw [show (v != v) = false by simp]
          refine wpAny_execs_nil (wpAny_execs_nil (wpAny_execs_nil ⟨h₆, u₆, m₆, rfl, x₆, n₆, q₆, sg, ?_⟩))
          rw [hft]
          have : ∀ x ∈ tl ++ (some v).toList, x = v := fun x hx => by
            rcases List.mem_append.mp hx with hx | hx
            · exact hcc x hx
            · simpa using hx
          exact fun x hx y hy => (this x hx).trans (this y hy).symm
        · rw [show (v != c) = true by simpa using hvc]
          refine isTrue_and_nil ?_
          have hns : ¬ allSame (row.filterMap τ) := fun ha => hvc (by
            rw [hsp, List.filterMap_append, List.filterMap_cons, hq, htl] at ha
            exact ha v (by simp) c (by simp [hcm]))
          have ec : call1 row τ σ = (false, σ) := by unfold call1; rw [if_neg hns]
          have x06 : Ext (allF fs) h h₆ := ((x03.trans x₅ (by simp)).trans x₆ (by simp)).drop (fun p hp => by
            rw [List.mem_singleton.mp hp]; exact .inr hL)
          have D₆ : Doms h₆ b fs σ := (D₃.ext x₅ (fun p hp => by simpa using fun e : p = L => hLF (e ▸ hp))).ext x₆ (fun p hp => by simpa using fun e : p = L => hLF (e ▸ hp))
          refine wpAny_execs_cons (ret' (cb ?_))
          have := kk h₆ u₆ (by rw [ec]; exact D₆) x06
          rw [ec] at this; exact this
  · rintro h₄ tk m₁ n₁ ⟨q₁, s₁, a₁⟩ x₁
    rw [List.take_length] at s₁ a₁
    have lb₄ : Le b h₄ := x₁.base lb₃ (by simpa using hLb)
    have D₄ : Doms h₄ b fs σ := D₃.ext x₁ (fun p hp => by simpa using fun e : p = L => hLF (e ▸ hp))
    have x04 : Ext (allF fs) h h₄ := (x03.trans x₁ (by simp)).drop (fun p hp => by
      rw [List.mem_singleton.mp hp]; exact .inr hL)
    have fin : ∀ {h' : Heap}, Ext (L :: allF fs) h₄ h' → Ext (allF fs) h h' := fun x => ((x04.mono (V := L :: allF fs) (fun p hp => List.mem_cons_of_mem _ hp)).trans x (fun p hp => .inl hp)).drop (fun p hp => by
      rcases List.mem_cons.mp hp with rfl | hp
      · exact .inr hL
      · exact .inl hp)
    refine wpAny_execs_cons (wpAny_If (isTrue_and (wpAny_isTrue_value (ln (v := .bool true) n₁ (by rw [q₁ _ (by decide) (by decide)]; exact mf) (trb ?_)))))
    cases hhd : (row.filterMap τ).head? with
    | none =>
      rw [hhd] at s₁
      refine isTrue_and (wpAny_isTrue_Compare1 (ln (v := .ref 51) n₁ s₁ (ln (v := .ref 51) n₁ (by rw [q₁ _ (by decide) (by decide)]; exact mu) (isn_rr (trb ?_)))) rfl)
      have ec : call1 row τ σ = (true, σ) := by unfold call1; rw [if_pos a₁, hhd]
      refine wpAny_execs_nil (wpAny_execs_cons (ret' (cb ?_)))
      have := kk h₄ tk (by rw [ec]; exact D₄) x04
      rw [ec] at this; exact this
    | some c =>
      rw [hhd] at s₁
      obtain ⟨uc, s₁⟩ := s₁
      refine isTrue_and (wpAny_isTrue_Compare1 (ln (v := .int c uc) n₁ s₁ (ln (v := .ref 51) n₁ (by rw [q₁ _ (by decide) (by decide)]; exact mu) (isn_ir (trb ?_)))) rfl)
      refine isTrue_and_nil ?_
      have ec : call1 row τ σ = rowF (fun _ => eqStep c) (fun k => (τ k).isSome) row σ := by unfold call1; rw [if_pos a₁, hhd]
      refine wpAny_execs_cons ?_
      refine row_loop (fun _ => eqStep c) (fun k => (τ k).isSome) S lb₄ Rm₁.hh D₄ H (fun k hk => hT.some? (H.lt k hk)) n₁ hLF hLb (by rw [q₁ _ nt_variables (by decide)]; exact mv) (by rw [q₁ _ nt_assign (by decide)]; exact ma) (by rw [q₁ _ nt_domains (by decide)]; exact md) (by rfl) (by rfl) (by rfl) (by rfl) (by rfl) (by rfl) (by rfl) ?_ ?_ ?_
      · intro k h₅ tk₅ m₅ σ₅ E₅ hkm hkt n₅ q₅ mdom D₅ hσk l₅ x₅
        have hk4 := H.lt k hkm
        have hok' := hok k hkm
        rw [← hσk] at hok'
        have e₅ : m₅ sSingle = some (.int c uc) := by rw [q₅ _ (by decide)]; exact s₁
        refine wpAny_execs_cons (wpAny_If (wpAny_isTrue_Compare1 (ln (v := .int c uc) n₅ e₅ (ln (v := .ref (fs k).a) n₅ mdom (dnin_dom S l₅ D₅ hk4 (trb ?_)))) rfl))
        by_cases hc : (σ₅ k).sh.contains c = true
        · rw [hc, if_neg (by decide)]
          have es : eqStep c (σ₅ k) = (true, hideAll (fun v => v != c) (σ₅ k)) := by unfold eqStep; rw [if_pos hc]
          refine wpAny_execs_nil (wpAny_execs_cons (hide_loop (k := k) (fun v => v != c) S l₅ Rm₁ D₅ hk4 n₅ hLF hLb mdom hok'.nd hok'.l1 hok'.l2 hok'.l3 (by rfl) (by rfl) (by rfl) (by rfl) ?_ ?_))
          · intro h₆ tk₆ v u E₆ Q₆ m₆ n₆ q₆ v₆ l₆ x₆ k₆
            exact wpAny_isTrue_Compare1 (ln (v := .int v u) n₆ v₆ (ln (v := .int c uc) n₆ (by rw [q₆ _ (by decide)]; exact e₅) (nei (trb (k₆ _))))) rfl
          · intro h₆ tk₆ m₆ n₆ q₆ D₆ x₆
            exact wpAny_execs_nil (se_next (stepF := fun _ => eqStep c) es D₆ x₆ n₆ fun y hy => by rw [q₆ _ (fun e => hy (.inr (.inr (.inl e))))]; exact q₅ y hy)
        · rw [if_pos (by simpa using hc)]
          have es : eqStep c (σ₅ k) = (false, σ₅ k) := by unfold eqStep; rw [if_neg hc]
          exact wpAny_execs_cons (ret' (cb (se_ret (stepF := fun _ => eqStep c) es (by rw [upd_self]; exact D₅) (Ext.of_le (Le.refl _)))))
      · intro h' tk' m' n' q' hr D' x'
        refine wpAny_execs_nil (wpAny_execs_cons (ret' (cb ?_)))
        have := kk h' tk' (by rw [ec]; exact D') (fin x')
        rw [ec, hr] at this; exact this
      · intro h' tk' hr D' x'
        have := kk h' tk' (by rw [ec]; exact D') (fin x')
        rw [ec, hr] at this; exact this
end
end Mine
end

section
open PySem PySem.W PySem.Calls PyProof.Rows Builtin Builtin.ObjectAttr
set_option maxRecDepth 100000
namespace Mine

def hit (inn : Bool) (ms : List Int) (v : Int) : Bool := ms.contains v == inn
def found (inn : Bool) (ms : List Int) (tl : List Int) : Nat := (tl.filter (hit inn ms)).length
def missing (row : List Nat) (τ : Nat → Option Int) : Nat := (row.filter fun k => !(τ k).isSome).length
def setStep (inn : Bool) (ms : List Int) (x : DS) : Bool × DS := (!(hideAll (fun v => !hit inn ms v) x).sh.isEmpty, hideAll (fun v => !hit inn ms v) x)
def call3 (inn : Bool) (n : Int) (ms : List Int) (row : List Nat) (τ : Nat → Option Int) (σ : Nat → DS) : Bool × (Nat → DS) :=
  if missing row τ = 0 then (if (found inn ms (row.filterMap τ) : Int) < n then (false, σ) else (true, σ))
  else if n > (missing row τ : Int) + (found inn ms (row.filterMap τ) : Int) then (false, σ)
  else if n - (found inn ms (row.filterMap τ) : Int) = (missing row τ : Int) then rowF (fun _ => setStep inn ms) (fun k => (τ k).isSome) row σ else (true, σ)

theorem filter_sub {P : Int → Bool} (x : DS) (h : x.sh.length ≤ 50) (h2 : x.hd.length ≤ 50) (h3 : x.st.length ≤ 100) : (hideAll P x).small := by
  rw [← hideUpto_all]; exact hideUpto_small h h2 h3

abbrev sSelf : Str := Str.ofString "self"
abbrev sFound : Str := Str.ofString "found"
abbrev sMissing : Str := Str.ofString "missing"
abbrev sForward : Str := Str.ofString "forwardcheck"

section
variable {prog : Program} {w : World} {A : Around} {E : Value → Shared → Prop} {h : Heap} {g : Array GenState} {d : Drawn} {t : Nat} {os : OsState} {b : Heap} {fs : Nat → DA} {σ : Nat → DS} {env : Env} {m : Str → Option Value} {L : Addr}

theorem lnN {x : Str} {v : Value} {Q : Value → Shared → Prop} (hn : h.Ns L m) (hv : m x = some v) (k : Q v ⟨h, g, d, t, os⟩)
    (hl : env.locals = L := by rfl) (hk : env.scope.kind = .function := by rfl) (hx : env.kindOf x = some .local := by rfl) :
    wpAny (model prog w) A (loadName env x) Q E ⟨h, g, d, t, os⟩ := by
  subst hl
  exact wpAny_loadName_local hk hx hn hv k
theorem iaddb {x : Int} {u : Tok} {c : Bool} {Q : Value → Shared → Prop} (k : ∀ t u, Q (.int (x + if c = true then (1 : Int) else 0) t) ⟨h, g, d, u, os⟩) : wpAny (model prog w) A (inplaceOp .Add (.int x u) (.bool c)) Q E ⟨h, g, d, t, os⟩ := iadd_int_bool (k _ _)


theorem gset_246 {ca ms : Addr} {n : Int} {expr : Bool} {Q : Value → Shared → Prop} (S : Sys w b) (l : Le b h) (I : IsSome 246 b ca n ms) (k : ∀ u, Q (.ref ms) ⟨h, g, d, u, os⟩) : wpAny (model prog w) A (getAttr (.ref ca) (Str.ofString "_set") expr) Q E ⟨h, g, d, t, os⟩ := by
  obtain ⟨dx, od, h1, h2, e1, ⟨u, e2⟩, e3⟩ := I
  exact oget S l (l _ _ h1) (l _ _ h2) (ga_246 _) (d_246 _) (fa_3 _) e1 rfl k
theorem gn_246 {ca ms : Addr} {n : Int} {expr : Bool} {Q : Value → Shared → Prop} (S : Sys w b) (l : Le b h) (I : IsSome 246 b ca n ms) (k : ∀ v u, Q (.int n v) ⟨h, g, d, u, os⟩) : wpAny (model prog w) A (getAttr (.ref ca) (Str.ofString "_n") expr) Q E ⟨h, g, d, t, os⟩ := by
  obtain ⟨dx, od, h1, h2, e1, ⟨u, e2⟩, e3⟩ := I
  exact oget S l (l _ _ h1) (l _ _ h2) (ga_246 _) (d_246 _) (fa_4 _) e2 rfl (k u)
theorem gex_246 {ca ms : Addr} {n : Int} {expr : Bool} {Q : Value → Shared → Prop} (S : Sys w b) (l : Le b h) (I : IsSome 246 b ca n ms) (k : ∀ u, Q (.bool false) ⟨h, g, d, u, os⟩) : wpAny (model prog w) A (getAttr (.ref ca) (Str.ofString "_exact") expr) Q E ⟨h, g, d, t, os⟩ := by
  obtain ⟨dx, od, h1, h2, e1, ⟨u, e2⟩, e3⟩ := I
  exact oget S l (l _ _ h1) (l _ _ h2) (ga_246 _) (d_246 _) (fa_5 _) e3 rfl k

set_option maxHeartbeats 1000000 in
theorem some_call_246 {ca ra da ha msa : Addr} {n : Int} {ms : List Int} {row : List Nat} {kvs : List (Int × Value)} {τ : Nat → Option Int} {Q : Value → Shared → Prop} (S : Sys w b) (l : Le b h) (Rm : Room A 2) (D : Doms h b fs σ)
    (H : Handed prog w b fs ra da ha row kvs) (hT : Tells kvs τ) (hok : ∀ k ∈ row, (σ k).ok) (hI : IsSome 246 b ca n msa) (hms : IL b msa ms)
    (kk : ∀ h' tk, Doms h' b fs (call3 true n ms row τ σ).2 → Ext (allF fs) h h' → Q (.bool (call3 true n ms row τ σ).1) ⟨h', g, d, tk, os⟩) :
    codeAny (model prog w) A (.call (.ref 243) ⟨[.ref ca, .ref ra, .ref da, .ref ha, .bool true], []⟩) (wants Q E) ⟨h, g, d, t, os⟩ := by
  refine uclc (n := 1) S l Rm (f := 243) (binds := [(sSelf, .ref ca), (sVariables, .ref ra), (sDomains, .ref da), (sAssign, .ref ha), (sForward, .bool true)]) rfl (by kernel_rfl) (binds_K (S.X.keeps l) rfl rfl rfl rfl rfl) (locs rfl) (by decide) fun A L h₁ E' t₁ hn l₁ hL hLb lb Rm₁ => ?_
  have D₁ := D.le l₁
  have hLF : L ∉ allF fs := fun hm => not_some hL (D.live L hm)
  refine wpAny_execs_cons (wpAny_Assign_Name (ci fun um tm => ?_))
  refine st' hn fun h₂ u₂ n₂ x₂ => ?_
  refine wpAny_execs_cons (wpAny_Assign_Name (ci fun uf tf => ?_))
  refine st' n₂ fun h₃ u₃ n₃ x₃ => ?_
  have lb₃ : Le b h₃ := x₃.base (x₂.base lb (by simpa using hLb)) (by simpa using hLb)
  have x03 : Ext [L] h h₃ := ((Ext.of_le (W := [L]) l₁).trans x₂ (by simp)).trans x₃ (by simp)
  have D₃ := (D₁.ext x₂ (fun p hp => by simpa using fun e : p = L => hLF (e ▸ hp))).ext x₃ (fun p hp => by simpa using fun e : p = L => hLF (e ▸ hp))
  generalize hm0 : updM _ _ _ = m₀ at n₃
  have mv : m₀ sVariables = some (.ref ra) := by subst hm0; rfl
  have ma : m₀ sAssign = some (.ref ha) := by subst hm0; rfl
  have md : m₀ sDomains = some (.ref da) := by subst hm0; rfl
  have mf : m₀ sForward = some (.bool true) := by subst hm0; rfl
  have mse : m₀ sSelf = some (.ref ca) := by subst hm0; rfl
  have m1 : m₀ sFound = some (.int 0 uf) := by subst hm0; rfl
  have m2 : m₀ sMissing = some (.int 0 um) := by subst hm0; rfl
  clear hm0
  obtain ⟨rits, rn, hrow, hri⟩ := H.rl
  refine wpAny_execs_cons (scan_loop (fun i m₁ => (∀ y, ¬ tmp y → y ≠ sFound → y ≠ sMissing → m₁ y = m₀ y) ∧ (∃ u, m₁ sFound = some (.int (found true ms ((row.take i).filterMap τ) : Int) u)) ∧ ∃ u, m₁ sMissing = some (.int (missing (row.take i) τ : Int) u)) lb₃ Rm₁.hh hrow hri n₃ hLb mv ⟨fun _ _ _ _ => rfl, ⟨uf, m1⟩, ⟨um, m2⟩⟩ (by rfl) (by rfl) (by rfl) (by rfl) ?_ ?_)
  · rintro i k u h₅ tk m₁ E₅ hk ⟨q₁, ⟨u1, s₁⟩, ⟨u2, z₁⟩⟩ n₅ lb₅ x₅
    have hkm : k ∈ row := List.mem_of_getElem? hk
    have hk4 := H.lt k hkm
    have htake : row.take (i + 1) = row.take i ++ [k] := by rw [List.take_add_one, hk]; rfl
    have q₅ : ∀ y, ¬ tmp y → y ≠ sFound → y ≠ sMissing → updM m₁ sVariable (.int ((k : Nat) : Int) u) y = m₀ y := fun y hy hz hz' => by
      have : y ≠ sVariable := fun e => hy (.inl e)
      simp [updM, this]; exact q₁ y hy hz hz'
    have hτ := hT k hk4
    have f₅ : updM m₁ sVariable (.int ((k : Nat) : Int) u) sFound = some (.int (found true ms ((row.take i).filterMap τ) : Int) u1) := s₁
    have g₅ : updM m₁ sVariable (.int ((k : Nat) : Int) u) sMissing = some (.int (missing (row.take i) τ : Int) u2) := z₁
    have v₅ : updM m₁ sVariable (.int ((k : Nat) : Int) u) sVariable = some (.int ((k : Nat) : Int) u) := by simp [updM]
    generalize updM m₁ sVariable (.int ((k : Nat) : Int) u) = m₅ at *
    have hsome := hT.some? hk4
    refine wpAny_execs_cons (wpAny_If (wpAny_isTrue_Compare1 (ln (v := .int ((k : Nat) : Int) u) n₅ v₅ (ln (v := .ref ha) n₅ (by rw [q₅ _ nt_assign (by decide) (by decide)]; exact ma) (din (H.asg.le lb₅) fun tk₆ => trb ?_))) rfl))
    rw [hsome]
    cases hq : τ k with
    | none =>
      rw [if_neg (by decide)]
      refine wpAny_execs_cons (wpAny_AugAssign_Name (lnN n₅ g₅ (ci fun u8 t8 => iaddi fun u9 t9 => st' n₅ fun h₆ u₆ n₆ x₆ => ?_)))
      refine wpAny_execs_nil (wpAny_execs_nil ⟨h₆, u₆, _, rfl, x₆, n₆, fun y hy hz hz' => by rw [updM, if_neg hz']; exact q₅ y hy hz hz', ⟨u1, ?_⟩, ⟨u9, ?_⟩⟩)
      · rw [htake, List.filterMap_append]
        simp only [List.filterMap_cons, hq, List.filterMap_nil, List.append_nil]
        exact f₅
      · rw [htake]
        simp [updM, missing, hq]
    | some v =>
      rw [show (some v).isSome = true from rfl, if_pos rfl]
      rw [hq] at hτ
      obtain ⟨tv, ev⟩ := hτ
      refine wpAny_execs_cons (wpAny_AugAssign_Name (lnN n₅ f₅ (wpAny_Compare1 (dsub (ln (v := .ref ha) n₅ (by rw [q₅ _ nt_assign (by decide) (by decide)]; exact ma) (ln (v := .int ((k : Nat) : Int) u) n₅ v₅ ⟨h₅, g, d, _, os, ha, kvs, k, u, _, rfl, rfl, rfl, H.asg.le lb₅, ev, fun tk₇ => ?_⟩))))))
      refine aget (ln (v := .ref ca) n₅ (by rw [q₅ _ (by decide) (by decide) (by decide)]; exact mse) (gset_246 S lb₅ hI fun tk₈ => lin (hms.le lb₅) (iaddb fun u9 t9 => st' n₅ fun h₆ u₆ n₆ x₆ => ?_)))
      refine wpAny_execs_nil (wpAny_execs_nil ⟨h₆, u₆, _, rfl, x₆, n₆, fun y hy hz hz' => by rw [updM, if_neg hz]; exact q₅ y hy hz hz', ⟨u9, ?_⟩, ⟨u2, ?_⟩⟩)
      · rw [htake, List.filterMap_append]
        simp only [List.filterMap_cons, hq, List.filterMap_nil]
        simp only [updM, if_true, found, List.filter_append, List.length_append]
        have : (([v].filter (hit true ms)).length : Int) = if ( ms.contains v) = true then (1 : Int) else 0 := by
          cases hc : ms.contains v <;> simp [List.filter, hit] <;> simp_all
        rw [← this]; simp
      · rw [htake]
        have : missing (row.take i ++ [k]) τ = missing (row.take i) τ := by simp [missing, hq]
        rw [this]; exact g₅
  · rintro h₄ tk m₁ n₁ ⟨q₁, ⟨u1, s₁⟩, ⟨u2, z₁⟩⟩ x₁
    rw [List.take_length] at s₁ z₁
    have lb₄ : Le b h₄ := x₁.base lb₃ (by simpa using hLb)
    have D₄ : Doms h₄ b fs σ := D₃.ext x₁ (fun p hp => by simpa using fun e : p = L => hLF (e ▸ hp))
    have x04 : Ext (allF fs) h h₄ := (x03.trans x₁ (by simp)).drop (fun p hp => by
      rw [List.mem_singleton.mp hp]; exact .inr hL)
    have fin : ∀ {h' : Heap}, Ext (L :: allF fs) h₄ h' → Ext (allF fs) h h' := fun x => ((x04.mono (V := L :: allF fs) (fun p hp => List.mem_cons_of_mem _ hp)).trans x (fun p hp => .inl hp)).drop (fun p hp => by
      rcases List.mem_cons.mp hp with rfl | hp
      · exact .inr hL
      · exact .inl hp)
    have mself : m₁ sSelf = some (.ref ca) := by rw [q₁ _ (by decide) (by decide) (by decide)]; exact mse
    generalize hfd : found true ms (row.filterMap τ) = fd at *
    generalize hms' : missing row τ = mi at *
    have done : ∀ r tk', call3 true n ms row τ σ = (r, σ) → Q (.bool r) ⟨h₄, g, d, tk', os⟩ := fun r tk' e => by
      have := kk h₄ tk' (by rw [e]; exact D₄) x04
      rw [e] at this; exact this
    refine wpAny_execs_cons (wpAny_If (wpAny_isTrue_value (ln (v := .int mi u2) n₁ z₁ (tri ?_))))
    by_cases hz : mi = 0
    · subst hz
      refine wpAny_execs_cons (wpAny_If (wpAny_isTrue_value (aget (ln (v := .ref ca) n₁ mself (gex_246 S lb₄ hI fun tk₈ => trb ?_)))))
      refine wpAny_execs_cons (wpAny_If (wpAny_isTrue_Compare1 (ln (v := .int fd u1) n₁ s₁ (aget (ln (v := .ref ca) n₁ mself (gn_246 S lb₄ hI fun un tk₈ => lti (trb ?_))))) rfl))
      by_cases hlt : (fd : Int) < n
      · rw [decide_eq_true hlt]
        refine wpAny_execs_cons (ret' (cb (done false _ ?_)))
        unfold call3; rw [hms', if_pos rfl, hfd, if_pos hlt]
      · rw [decide_eq_false hlt]
        refine wpAny_execs_nil (wpAny_execs_nil (wpAny_execs_nil (wpAny_execs_cons (ret' (cb (done true _ ?_))))))
        unfold call3; rw [hms', if_pos rfl, hfd, if_neg hlt]
    · rw [if_pos (by simpa using hz)]
      refine wpAny_execs_cons (wpAny_If (wpAny_isTrue_value (aget (ln (v := .ref ca) n₁ mself (gex_246 S lb₄ hI fun tk₈ => trb ?_)))))
      refine wpAny_execs_cons (wpAny_If (wpAny_isTrue_Compare1 (aget (ln (v := .ref ca) n₁ mself (gn_246 S lb₄ hI fun un tk₈ => wpAny_BinOp (ln (v := .int mi u2) n₁ z₁ (ln (v := .int fd u1) n₁ s₁ (addi fun ua ta => gti (trb ?_))))))) rfl))
      by_cases hgt : n > (mi : Int) + (fd : Int)
      · rw [decide_eq_true hgt]
        refine wpAny_execs_cons (ret' (cb (done false _ ?_)))
        unfold call3; rw [hms', if_neg hz, hfd, if_pos hgt]
      rw [decide_eq_false hgt]
      refine wpAny_execs_nil (wpAny_execs_nil ?_)
      refine wpAny_execs_cons (wpAny_If (isTrue_and (wpAny_isTrue_value (ln (v := .bool true) n₁ (by rw [q₁ _ (by decide) (by decide) (by decide)]; exact mf) (trb ?_)))))
      refine isTrue_and (wpAny_isTrue_Compare1 (wpAny_BinOp (aget (ln (v := .ref ca) n₁ mself (gn_246 S lb₄ hI fun un tk₈ => ln (v := .int fd u1) n₁ s₁ (subi fun ua ta => ln (v := .int mi u2) n₁ z₁ (eqi (trb ?_))))))) rfl)
      by_cases heq : n - (fd : Int) = (mi : Int)
      · rw [show (n - (fd : Int) == (mi : Int)) = true by simpa using heq]
        refine isTrue_and_nil ?_
        have ec : call3 true n ms row τ σ = rowF (fun _ => setStep true ms) (fun k => (τ k).isSome) row σ := by
          unfold call3; rw [hms', if_neg hz, hfd, if_neg hgt, if_pos heq]
        refine wpAny_execs_cons ?_
        refine row_loop (fun _ => setStep true ms) (fun k => (τ k).isSome) S lb₄ Rm₁.hh D₄ H (fun k hk => hT.some? (H.lt k hk)) n₁ hLF hLb (by rw [q₁ _ nt_variables (by decide) (by decide)]; exact mv) (by rw [q₁ _ nt_assign (by decide) (by decide)]; exact ma) (by rw [q₁ _ nt_domains (by decide) (by decide)]; exact md) (by rfl) (by rfl) (by rfl) (by rfl) (by rfl) (by rfl) (by rfl) ?_ ?_ ?_
        · intro k h₅ tk₅ m₅ σ₅ E₅ hkm hkt n₅ q₅ mdom D₅ hσk l₅ x₅
          have hk4 := H.lt k hkm
          have hok' := hok k hkm
          rw [← hσk] at hok'
          have e₅ : m₅ sSelf = some (.ref ca) := by rw [q₅ _ (by decide)]; exact mself
          refine wpAny_execs_cons (hide_loop (k := k) (fun v => !hit true ms v) S l₅ Rm₁ D₅ hk4 n₅ hLF hLb mdom hok'.nd hok'.l1 hok'.l2 hok'.l3 (by rfl) (by rfl) (by rfl) (by rfl) ?_ ?_)
          · intro h₆ tk₆ v u E₆ Q₆ m₆ n₆ q₆ v₆ l₆ x₆ k₆
            refine wpAny_isTrue_Compare1 (ln (v := .int v u) n₆ v₆ (aget (ln (v := .ref ca) n₆ (by rw [q₆ _ (by decide)]; exact e₅) (gset_246 S l₆ hI fun tk₈ => lnin (hms.le l₆) (trb ?_))))) rfl
            have : (! ms.contains v) = !hit true ms v := by simp [hit]
            rw [this]; exact k₆ _
          · intro h₆ tk₆ m₆ n₆ q₆ D₆ x₆
            have l₆ : Le b h₆ := x₆.base l₅ (fun p hp => by
              rcases List.mem_cons.mp hp with e | hp
              · exact e ▸ hLb
              · exact D₅.offA p hp)
            refine wpAny_execs_cons (wpAny_If (isTrue_not (wpAny_isTrue_value (ln (v := .ref (fs k).a) n₆ (by rw [q₆ _ (by decide)]; exact mdom) (dtru_dom S l₆ D₆ hk4 (by rw [upd_same]; exact filter_sub _ hok'.l1 hok'.l2 hok'.l3) fun tk₉ => ?_)))))
            rw [upd_same, Bool.not_not]
            by_cases he : (hideAll (fun v => !hit true ms v) (σ₅ k)).sh.isEmpty = true
            · rw [if_pos he]
              exact wpAny_execs_cons (ret' (cb (se_ret (stepF := fun _ => setStep true ms) (by unfold setStep; rw [he]; rfl) D₆ x₆)))
            · rw [if_neg he]
              exact wpAny_execs_nil (wpAny_execs_nil (se_next (stepF := fun _ => setStep true ms) (by unfold setStep; rw [Bool.eq_false_iff.mpr he]; rfl) D₆ x₆ n₆ fun y hy => by rw [q₆ _ (fun e => hy (.inr (.inr (.inl e))))]; exact q₅ y hy))
        · intro h' tk' m' n' q' hr D' x'
          refine wpAny_execs_nil (wpAny_execs_nil (wpAny_execs_cons (ret' (cb ?_))))
          have := kk h' tk' (by rw [ec]; exact D') (fin x')
          rw [ec, hr] at this; exact this
        · intro h' tk' hr D' x'
          have := kk h' tk' (by rw [ec]; exact D') (fin x')
          rw [ec, hr] at this; exact this
      · rw [show (n - (fd : Int) == (mi : Int)) = false by simpa using heq]
        refine wpAny_execs_nil (wpAny_execs_nil (wpAny_execs_cons (ret' (cb (done true _ ?_)))))
        unfold call3; rw [hms', if_neg hz, hfd, if_neg hgt, if_neg heq]

theorem gset_274 {ca ms : Addr} {n : Int} {expr : Bool} {Q : Value → Shared → Prop} (S : Sys w b) (l : Le b h) (I : IsSome 274 b ca n ms) (k : ∀ u, Q (.ref ms) ⟨h, g, d, u, os⟩) : wpAny (model prog w) A (getAttr (.ref ca) (Str.ofString "_set") expr) Q E ⟨h, g, d, t, os⟩ := by
  obtain ⟨dx, od, h1, h2, e1, ⟨u, e2⟩, e3⟩ := I
  exact oget S l (l _ _ h1) (l _ _ h2) (ga_274 _) (d_274 _) (fa_6 _) e1 rfl k
theorem gn_274 {ca ms : Addr} {n : Int} {expr : Bool} {Q : Value → Shared → Prop} (S : Sys w b) (l : Le b h) (I : IsSome 274 b ca n ms) (k : ∀ v u, Q (.int n v) ⟨h, g, d, u, os⟩) : wpAny (model prog w) A (getAttr (.ref ca) (Str.ofString "_n") expr) Q E ⟨h, g, d, t, os⟩ := by
  obtain ⟨dx, od, h1, h2, e1, ⟨u, e2⟩, e3⟩ := I
  exact oget S l (l _ _ h1) (l _ _ h2) (ga_274 _) (d_274 _) (fa_7 _) e2 rfl (k u)
theorem gex_274 {ca ms : Addr} {n : Int} {expr : Bool} {Q : Value → Shared → Prop} (S : Sys w b) (l : Le b h) (I : IsSome 274 b ca n ms) (k : ∀ u, Q (.bool false) ⟨h, g, d, u, os⟩) : wpAny (model prog w) A (getAttr (.ref ca) (Str.ofString "_exact") expr) Q E ⟨h, g, d, t, os⟩ := by
  obtain ⟨dx, od, h1, h2, e1, ⟨u, e2⟩, e3⟩ := I
  exact oget S l (l _ _ h1) (l _ _ h2) (ga_274 _) (d_274 _) (fa_8 _) e3 rfl k

set_option maxHeartbeats 1000000 in
theorem some_call_274 {ca ra da ha msa : Addr} {n : Int} {ms : List Int} {row : List Nat} {kvs : List (Int × Value)} {τ : Nat → Option Int} {Q : Value → Shared → Prop} (S : Sys w b) (l : Le b h) (Rm : Room A 2) (D : Doms h b fs σ)
    (H : Handed prog w b fs ra da ha row kvs) (hT : Tells kvs τ) (hok : ∀ k ∈ row, (σ k).ok) (hI : IsSome 274 b ca n msa) (hms : IL b msa ms)
    (kk : ∀ h' tk, Doms h' b fs (call3 false n ms row τ σ).2 → Ext (allF fs) h h' → Q (.bool (call3 false n ms row τ σ).1) ⟨h', g, d, tk, os⟩) :
    codeAny (model prog w) A (.call (.ref 271) ⟨[.ref ca, .ref ra, .ref da, .ref ha, .bool true], []⟩) (wants Q E) ⟨h, g, d, t, os⟩ := by
  refine uclc (n := 1) S l Rm (f := 271) (binds := [(sSelf, .ref ca), (sVariables, .ref ra), (sDomains, .ref da), (sAssign, .ref ha), (sForward, .bool true)]) rfl (by kernel_rfl) (binds_K (S.X.keeps l) rfl rfl rfl rfl rfl) (locs rfl) (by decide) fun A L h₁ E' t₁ hn l₁ hL hLb lb Rm₁ => ?_
  have D₁ := D.le l₁
  have hLF : L ∉ allF fs := fun hm => not_some hL (D.live L hm)
  refine wpAny_execs_cons (wpAny_Assign_Name (ci fun um tm => ?_))
  refine st' hn fun h₂ u₂ n₂ x₂ => ?_
  refine wpAny_execs_cons (wpAny_Assign_Name (ci fun uf tf => ?_))
  refine st' n₂ fun h₃ u₃ n₃ x₃ => ?_
  have lb₃ : Le b h₃ := x₃.base (x₂.base lb (by simpa using hLb)) (by simpa using hLb)
  have x03 : Ext [L] h h₃ := ((Ext.of_le (W := [L]) l₁).trans x₂ (by simp)).trans x₃ (by simp)
  have D₃ := (D₁.ext x₂ (fun p hp => by simpa using fun e : p = L => hLF (e ▸ hp))).ext x₃ (fun p hp => by simpa using fun e : p = L => hLF (e ▸ hp))
  generalize hm0 : updM _ _ _ = m₀ at n₃
  have mv : m₀ sVariables = some (.ref ra) := by subst hm0; rfl
  have ma : m₀ sAssign = some (.ref ha) := by subst hm0; rfl
  have md : m₀ sDomains = some (.ref da) := by subst hm0; rfl
  have mf : m₀ sForward = some (.bool true) := by subst hm0; rfl
  have mse : m₀ sSelf = some (.ref ca) := by subst hm0; rfl
  have m1 : m₀ sFound = some (.int 0 uf) := by subst hm0; rfl
  have m2 : m₀ sMissing = some (.int 0 um) := by subst hm0; rfl
  clear hm0
  obtain ⟨rits, rn, hrow, hri⟩ := H.rl
  refine wpAny_execs_cons (scan_loop (fun i m₁ => (∀ y, ¬ tmp y → y ≠ sFound → y ≠ sMissing → m₁ y = m₀ y) ∧ (∃ u, m₁ sFound = some (.int (found false ms ((row.take i).filterMap τ) : Int) u)) ∧ ∃ u, m₁ sMissing = some (.int (missing (row.take i) τ : Int) u)) lb₃ Rm₁.hh hrow hri n₃ hLb mv ⟨fun _ _ _ _ => rfl, ⟨uf, m1⟩, ⟨um, m2⟩⟩ (by rfl) (by rfl) (by rfl) (by rfl) ?_ ?_)
  · rintro i k u h₅ tk m₁ E₅ hk ⟨q₁, ⟨u1, s₁⟩, ⟨u2, z₁⟩⟩ n₅ lb₅ x₅
    have hkm : k ∈ row := List.mem_of_getElem? hk
    have hk4 := H.lt k hkm
    have htake : row.take (i + 1) = row.take i ++ [k] := by rw [List.take_add_one, hk]; rfl
    have q₅ : ∀ y, ¬ tmp y → y ≠ sFound → y ≠ sMissing → updM m₁ sVariable (.int ((k : Nat) : Int) u) y = m₀ y := fun y hy hz hz' => by
      have : y ≠ sVariable := fun e => hy (.inl e)
      simp [updM, this]; exact q₁ y hy hz hz'
    have hτ := hT k hk4
    have f₅ : updM m₁ sVariable (.int ((k : Nat) : Int) u) sFound = some (.int (found false ms ((row.take i).filterMap τ) : Int) u1) := s₁
    have g₅ : updM m₁ sVariable (.int ((k : Nat) : Int) u) sMissing = some (.int (missing (row.take i) τ : Int) u2) := z₁
    have v₅ : updM m₁ sVariable (.int ((k : Nat) : Int) u) sVariable = some (.int ((k : Nat) : Int) u) := by simp [updM]
    generalize updM m₁ sVariable (.int ((k : Nat) : Int) u) = m₅ at *
    have hsome := hT.some? hk4
    refine wpAny_execs_cons (wpAny_If (wpAny_isTrue_Compare1 (ln (v := .int ((k : Nat) : Int) u) n₅ v₅ (ln (v := .ref ha) n₅ (by rw [q₅ _ nt_assign (by decide) (by decide)]; exact ma) (din (H.asg.le lb₅) fun tk₆ => trb ?_))) rfl))
    rw [hsome]
    cases hq : τ k with
    | none =>
      rw [if_neg (by decide)]
      refine wpAny_execs_cons (wpAny_AugAssign_Name (lnN n₅ g₅ (ci fun u8 t8 => iaddi fun u9 t9 => st' n₅ fun h₆ u₆ n₆ x₆ => ?_)))
      refine wpAny_execs_nil (wpAny_execs_nil ⟨h₆, u₆, _, rfl, x₆, n₆, fun y hy hz hz' => by rw [updM, if_neg hz']; exact q₅ y hy hz hz', ⟨u1, ?_⟩, ⟨u9, ?_⟩⟩)
      · rw [htake, List.filterMap_append]
        simp only [List.filterMap_cons, hq, List.filterMap_nil, List.append_nil]
        exact f₅
      · rw [htake]
        simp [updM, missing, hq]
    | some v =>
      rw [show (some v).isSome = true from rfl, if_pos rfl]
      rw [hq] at hτ
      obtain ⟨tv, ev⟩ := hτ
      refine wpAny_execs_cons (wpAny_AugAssign_Name (lnN n₅ f₅ (wpAny_Compare1 (dsub (ln (v := .ref ha) n₅ (by rw [q₅ _ nt_assign (by decide) (by decide)]; exact ma) (ln (v := .int ((k : Nat) : Int) u) n₅ v₅ ⟨h₅, g, d, _, os, ha, kvs, k, u, _, rfl, rfl, rfl, H.asg.le lb₅, ev, fun tk₇ => ?_⟩))))))
      refine aget (ln (v := .ref ca) n₅ (by rw [q₅ _ (by decide) (by decide) (by decide)]; exact mse) (gset_274 S lb₅ hI fun tk₈ => lnin (hms.le lb₅) (iaddb fun u9 t9 => st' n₅ fun h₆ u₆ n₆ x₆ => ?_)))
      refine wpAny_execs_nil (wpAny_execs_nil ⟨h₆, u₆, _, rfl, x₆, n₆, fun y hy hz hz' => by rw [updM, if_neg hz]; exact q₅ y hy hz hz', ⟨u9, ?_⟩, ⟨u2, ?_⟩⟩)
      · rw [htake, List.filterMap_append]
        simp only [List.filterMap_cons, hq, List.filterMap_nil]
        simp only [updM, if_true, found, List.filter_append, List.length_append]
        have : (([v].filter (hit false ms)).length : Int) = if (! ms.contains v) = true then (1 : Int) else 0 := by
          cases hc : ms.contains v <;> simp [List.filter, hit] <;> simp_all
        rw [← this]; simp
      · rw [htake]
        have : missing (row.take i ++ [k]) τ = missing (row.take i) τ := by simp [missing, hq]
        rw [this]; exact g₅
  · rintro h₄ tk m₁ n₁ ⟨q₁, ⟨u1, s₁⟩, ⟨u2, z₁⟩⟩ x₁
    rw [List.take_length] at s₁ z₁
    have lb₄ : Le b h₄ := x₁.base lb₃ (by simpa using hLb)
    have D₄ : Doms h₄ b fs σ := D₃.ext x₁ (fun p hp => by simpa using fun e : p = L => hLF (e ▸ hp))
    have x04 : Ext (allF fs) h h₄ := (x03.trans x₁ (by simp)).drop (fun p hp => by
      rw [List.mem_singleton.mp hp]; exact .inr hL)
    have fin : ∀ {h' : Heap}, Ext (L :: allF fs) h₄ h' → Ext (allF fs) h h' := fun x => ((x04.mono (V := L :: allF fs) (fun p hp => List.mem_cons_of_mem _ hp)).trans x (fun p hp => .inl hp)).drop (fun p hp => by
      rcases List.mem_cons.mp hp with rfl | hp
      · exact .inr hL
      · exact .inl hp)
    have mself : m₁ sSelf = some (.ref ca) := by rw [q₁ _ (by decide) (by decide) (by decide)]; exact mse
    generalize hfd : found false ms (row.filterMap τ) = fd at *
    generalize hms' : missing row τ = mi at *
    have done : ∀ r tk', call3 false n ms row τ σ = (r, σ) → Q (.bool r) ⟨h₄, g, d, tk', os⟩ := fun r tk' e => by
      have := kk h₄ tk' (by rw [e]; exact D₄) x04
      rw [e] at this; exact this
    refine wpAny_execs_cons (wpAny_If (wpAny_isTrue_value (ln (v := .int mi u2) n₁ z₁ (tri ?_))))
    by_cases hz : mi = 0
    · subst hz
      refine wpAny_execs_cons (wpAny_If (wpAny_isTrue_value (aget (ln (v := .ref ca) n₁ mself (gex_274 S lb₄ hI fun tk₈ => trb ?_)))))
      refine wpAny_execs_cons (wpAny_If (wpAny_isTrue_Compare1 (ln (v := .int fd u1) n₁ s₁ (aget (ln (v := .ref ca) n₁ mself (gn_274 S lb₄ hI fun un tk₈ => lti (trb ?_))))) rfl))
      by_cases hlt : (fd : Int) < n
      · rw [decide_eq_true hlt]
        refine wpAny_execs_cons (ret' (cb (done false _ ?_)))
        unfold call3; rw [hms', if_pos rfl, hfd, if_pos hlt]
      · rw [decide_eq_false hlt]
        refine wpAny_execs_nil (wpAny_execs_nil (wpAny_execs_nil (wpAny_execs_cons (ret' (cb (done true _ ?_))))))
        unfold call3; rw [hms', if_pos rfl, hfd, if_neg hlt]
    · rw [if_pos (by simpa using hz)]
      refine wpAny_execs_cons (wpAny_If (wpAny_isTrue_value (aget (ln (v := .ref ca) n₁ mself (gex_274 S lb₄ hI fun tk₈ => trb ?_)))))
      refine wpAny_execs_cons (wpAny_If (wpAny_isTrue_Compare1 (aget (ln (v := .ref ca) n₁ mself (gn_274 S lb₄ hI fun un tk₈ => wpAny_BinOp (ln (v := .int mi u2) n₁ z₁ (ln (v := .int fd u1) n₁ s₁ (addi fun ua ta => gti (trb ?_))))))) rfl))
      by_cases hgt : n > (mi : Int) + (fd : Int)
      · rw [decide_eq_true hgt]
        refine wpAny_execs_cons (ret' (cb (done false _ ?_)))
        unfold call3; rw [hms', if_neg hz, hfd, if_pos hgt]
      rw [decide_eq_false hgt]
      refine wpAny_execs_nil (wpAny_execs_nil ?_)
      refine wpAny_execs_cons (wpAny_If (isTrue_and (wpAny_isTrue_value (ln (v := .bool true) n₁ (by rw [q₁ _ (by decide) (by decide) (by decide)]; exact mf) (trb ?_)))))
      refine isTrue_and (wpAny_isTrue_Compare1 (wpAny_BinOp (aget (ln (v := .ref ca) n₁ mself (gn_274 S lb₄ hI fun un tk₈ => ln (v := .int fd u1) n₁ s₁ (subi fun ua ta => ln (v := .int mi u2) n₁ z₁ (eqi (trb ?_))))))) rfl)
      by_cases heq : n - (fd : Int) = (mi : Int)
      · rw [show (n - (fd : Int) == (mi : Int)) = true by simpa using heq]
        refine isTrue_and_nil ?_
        have ec : call3 false n ms row τ σ = rowF (fun _ => setStep false ms) (fun k => (τ k).isSome) row σ := by
          unfold call3; rw [hms', if_neg hz, hfd, if_neg hgt, if_pos heq]
        refine wpAny_execs_cons ?_
        refine row_loop (fun _ => setStep false ms) (fun k => (τ k).isSome) S lb₄ Rm₁.hh D₄ H (fun k hk => hT.some? (H.lt k hk)) n₁ hLF hLb (by rw [q₁ _ nt_variables (by decide) (by decide)]; exact mv) (by rw [q₁ _ nt_assign (by decide) (by decide)]; exact ma) (by rw [q₁ _ nt_domains (by decide) (by decide)]; exact md) (by rfl) (by rfl) (by rfl) (by rfl) (by rfl) (by rfl) (by rfl) ?_ ?_ ?_
        · intro k h₅ tk₅ m₅ σ₅ E₅ hkm hkt n₅ q₅ mdom D₅ hσk l₅ x₅
          have hk4 := H.lt k hkm
          have hok' := hok k hkm
          rw [← hσk] at hok'
          have e₅ : m₅ sSelf = some (.ref ca) := by rw [q₅ _ (by decide)]; exact mself
          refine wpAny_execs_cons (hide_loop (k := k) (fun v => !hit false ms v) S l₅ Rm₁ D₅ hk4 n₅ hLF hLb mdom hok'.nd hok'.l1 hok'.l2 hok'.l3 (by rfl) (by rfl) (by rfl) (by rfl) ?_ ?_)
          · intro h₆ tk₆ v u E₆ Q₆ m₆ n₆ q₆ v₆ l₆ x₆ k₆
            refine wpAny_isTrue_Compare1 (ln (v := .int v u) n₆ v₆ (aget (ln (v := .ref ca) n₆ (by rw [q₆ _ (by decide)]; exact e₅) (gset_274 S l₆ hI fun tk₈ => lin (hms.le l₆) (trb ?_))))) rfl
            have : ( ms.contains v) = !hit false ms v := by simp [hit]
            rw [this]; exact k₆ _
          · intro h₆ tk₆ m₆ n₆ q₆ D₆ x₆
            have l₆ : Le b h₆ := x₆.base l₅ (fun p hp => by
              rcases List.mem_cons.mp hp with e | hp
              · exact e ▸ hLb
              · exact D₅.offA p hp)
            refine wpAny_execs_cons (wpAny_If (isTrue_not (wpAny_isTrue_value (ln (v := .ref (fs k).a) n₆ (by rw [q₆ _ (by decide)]; exact mdom) (dtru_dom S l₆ D₆ hk4 (by rw [upd_same]; exact filter_sub _ hok'.l1 hok'.l2 hok'.l3) fun tk₉ => ?_)))))
            rw [upd_same, Bool.not_not]
            by_cases he : (hideAll (fun v => !hit false ms v) (σ₅ k)).sh.isEmpty = true
            · rw [if_pos he]
              exact wpAny_execs_cons (ret' (cb (se_ret (stepF := fun _ => setStep false ms) (by unfold setStep; rw [he]; rfl) D₆ x₆)))
            · rw [if_neg he]
              exact wpAny_execs_nil (wpAny_execs_nil (se_next (stepF := fun _ => setStep false ms) (by unfold setStep; rw [Bool.eq_false_iff.mpr he]; rfl) D₆ x₆ n₆ fun y hy => by rw [q₆ _ (fun e => hy (.inr (.inr (.inl e))))]; exact q₅ y hy))
        · intro h' tk' m' n' q' hr D' x'
          refine wpAny_execs_nil (wpAny_execs_nil (wpAny_execs_cons (ret' (cb ?_))))
          have := kk h' tk' (by rw [ec]; exact D') (fin x')
          rw [ec, hr] at this; exact this
        · intro h' tk' hr D' x'
          have := kk h' tk' (by rw [ec]; exact D') (fin x')
          rw [ec, hr] at this; exact this
      · rw [show (n - (fd : Int) == (mi : Int)) = false by simpa using heq]
        refine wpAny_execs_nil (wpAny_execs_nil (wpAny_execs_cons (ret' (cb (done true _ ?_)))))
        unfold call3; rw [hms', if_neg hz, hfd, if_neg hgt, if_neg heq]
end
end Mine
end

section
open PySem PySem.W PySem.Calls PyProof.Rows Builtin Builtin.ObjectAttr
set_option maxRecDepth 100000
namespace Mine

abbrev facs : List Int := [1, 2, -1, 3]
def mulAt (row : List Nat) (k : Nat) : Int := facs.getD (row.idxOf k) 0
theorem mulAt_at {row : List Nat} {k : Nat} {i : Nat} {f : Int} (hd : row.Nodup) (hk : row[i]? = some k) (hf : facs[i]? = some f) : mulAt row k = f := by
  obtain ⟨hi, rfl⟩ := List.getElem?_eq_some_iff.mp hk
  unfold mulAt
  rw [hd.idxOf_getElem i hi, List.getD_eq_getElem?_getD, hf]; rfl
theorem score_take {τ : Nat → Option Int} : ∀ {row : List Nat} {fs : List Int} {i : Nat} {k : Nat} {f : Int}, row[i]? = some k → fs[i]? = some f →
    scoreOf ((row.take (i + 1)).map τ) fs = scoreOf ((row.take i).map τ) fs + (match τ k with | some v => v * f | none => 0)
  | a :: r, f0 :: fs, 0, k, f, hk, hf => by
    simp at hk hf; subst hk; subst hf
    simp [scoreOf] <;> (cases τ a <;> rfl)
  | a :: r, f0 :: fs, i + 1, k, f, hk, hf => by
    have := score_take (τ := τ) (row := r) (fs := fs) (i := i) (k := k) (f := f) (by simpa using hk) (by simpa using hf)
    simp only [List.take_succ_cons, List.map_cons, scoreOf, List.zipWith_cons_cons, List.sum_cons] at this ⊢
    rw [this]
    cases τ k <;> simp <;> omega
def sumStep (n S f : Int) (x : DS) : Bool × DS := (!(hideAll (fun v => decide (S + v * f > n)) x).sh.isEmpty, hideAll (fun v => decide (S + v * f > n)) x)
def call2 (n : Int) (row : List Nat) (τ : Nat → Option Int) (σ : Nat → DS) : Bool × (Nat → DS) :=
  if scoreOf (row.map τ) facs > n then (false, σ) else rowF (fun k => sumStep n (scoreOf (row.map τ) facs) (mulAt row k)) (fun k => (τ k).isSome) row σ

abbrev sMult : Str := Str.ofString "multiplier"
abbrev sMults : Str := Str.ofString "multipliers"
abbrev sSum : Str := Str.ofString "sum"
abbrev sMaxsum : Str := Str.ofString "maxsum"
abbrev sZip : Str := Str.ofString "zip"

theorem facs_mul {i : Nat} {f v : Int} (h : facs[i]? = some f) : IntMulOk v f := by
  refine IntMulOk.of_right ?_
  have : ∀ f ∈ facs, Builtin.Int.intBits f ≤ 64 := by decide
  exact this f (List.mem_of_getElem? h)

section
variable {prog : Program} {w : World} {A : Around} {E : Value → Shared → Prop} {h : Heap} {g : Array GenState} {d : Drawn} {t : Nat} {os : OsState} {b : Heap} {fs : Nat → DA} {σ : Nat → DS} {env : Env} {m : Str → Option Value} {L : Addr}

/-- for variable, multiplier in zip(variables, multipliers): nothing but locals changes -/
theorem zscan_loop {p1 p2 p3 p4 p5 p6 p7 pos : Pos} {k0 : Nat} {body : List Stmt} {Q : Flow → Shared → Prop} {ra fa : Addr} {row : List Nat} {rits : List Value} {rn : Nat} (J : Nat → (Str → Option Value) → Prop) (S : Sys w b) (l : Le b h) (hh : A.handled = none)
    (hrow : b.get? ra = some (listO rits.toArray rn)) (hri : IntsAre rits (row.map Int.ofNat)) (hF : IL b fa facs) (hr4 : row.length ≤ 4) (hn : h.Ns L m) (hLb : b.get? L = none) (mv : m sVariables = some (.ref ra)) (mm : m sMults = some (.ref fa)) (J0 : J 0 m)
    (kv : env.kindOf sVariable = some .local) (km : env.kindOf sMult = some .local) (kvs' : env.kindOf sVariables = some .local) (kms : env.kindOf sMults = some .local) (kz : env.kindOf sZip = some .globalImplicit) (hg : env.globals = mainGlobals) (hbi : env.builtins = builtinsNs) (hel : env.locals = L) (hek : env.scope.kind = .function)
    (step : ∀ (i k : Nat) u (f : Int) uf h₁ tk m₁ E', row[i]? = some k → facs[i]? = some f → J i m₁ → h₁.Ns L (updM (updM m₁ sVariable (.int ((k : Nat) : Int) u)) sMult (.int f uf)) → Le b h₁ → Ext [L] h h₁ →
      wpAny (model prog w) A (execs body env) (After Q fun s₃ => ∃ h₃ tk₃ m₃, s₃ = ⟨h₃, g, d, tk₃, os⟩ ∧ Ext [L] h₁ h₃ ∧ h₃.Ns L m₃ ∧ J (i + 1) m₃) E' ⟨h₁, g, d, tk, os⟩)
    (kt : ∀ h' tk m', h'.Ns L m' → J row.length m' → Ext [L] h h' → Q .next ⟨h', g, d, tk, os⟩)
    (hs : ∀ xx, foldedSetIterable (.Call (.Name sZip p4) [.Name sVariables p5, .Name sMults p6] [] p7) env xx = pure xx := by intro _; rfl) 
    (hb : backTo p7 (starEach [.Name sVariables p5, .Name sMults p6] env) = [(false, eval (.Name sVariables p5) env), (false, eval (.Name sMults p6) env)] := by rfl) :
    wpAny (model prog w) A (exec (.For (.Tuple [.Name sVariable p1, .Name sMult p2] k0 p3) (.Call (.Name sZip p4) [.Name sVariables p5, .Name sMults p6] [] p7) body [] pos) env) Q E ⟨h, g, d, t, os⟩ := by
  have hpm : (env.scope.kind == .class || (env.scope.kind == .module && env.locals != env.globals)) = false := by rw [hek]; rfl
  have Xl : ∀ p ∈ [L], ∃ o, h.get? p = some o := fun p hp => by
    rw [List.mem_singleton.mp hp]; obtain ⟨o, _, _, ho, _⟩ := hn; exact ⟨o, ho⟩
  have hl := hri.length
  rw [List.length_map] at hl
  obtain ⟨fits, fn, hfa, hfi⟩ := hF
  have hfl : fits.length = 4 := hfi.length
  have nb : ∀ {p : Addr}, (∃ o, b.get? p = some o) → p ∉ [L] := fun hp => by simpa using fun e : _ = L => not_some hLb (e ▸ hp)
  refine for_zip hh S l (ln hn mv (ln hn mm ⟨h, g, d, _, os, ra, fa, rits, fits, rn, fn, [L], rfl, rfl, rfl, l _ _ hrow, l _ _ hfa, nb ⟨_, hrow⟩, nb ⟨_, hfa⟩, Xl, fun i h₁ => ∃ m₁, h₁.Ns L m₁ ∧ J i m₁ ∧ Ext [L] h h₁, fun h' l' => ?_, ?_, ?_, ?_⟩ hel hek kms (by decide)) hel hek kvs' (by decide)) hek kz hg hbi hs hb
  · exact ⟨m, hn.keeps l', J0, Ext.of_le l'⟩
  · rintro i ha' hb' W hW ⟨m₁, n₁, j₁, x₁⟩ x
    refine ⟨m₁, ns_ext n₁ x (fun hm => not_some (hW L hm) (Xl L (by simp))), j₁, x₁.trans x (fun p hp => .inr (hW p hp))⟩
  · rintro i v v' h₁ tk E' hv hv' ⟨m₁, n₁, j₁, x₁⟩
    obtain ⟨vi, u, rfl, hvi⟩ := hri.at i v hv
    rw [List.getElem?_map] at hvi
    obtain ⟨k, hk, rfl⟩ := Option.map_eq_some_iff.mp hvi
    obtain ⟨f, uf, rfl, hfi'⟩ := hfi.at i v' hv'
    refine st' n₁ (fun h₂ u₂ n₂ x₂ => ?_) hel kv hpm
    refine st' n₂ (fun h₃ u₃ n₃ x₃ => ?_) hel km hpm
    have x23 : Ext [L] h₁ h₃ := x₂.trans x₃ (by simp)
    refine wpAny_mono (step i k u f uf h₃ u₃ m₁ E' hk hfi' j₁ n₃ (x23.base (x₁.base l (by simpa using hLb)) (by simpa using hLb)) (x₁.trans x23 (by simp))) (fun fl s' hf => ?_) fun _ _ e => e
    have nx : (∃ h₄ tk₃ m₃, s' = ⟨h₄, g, d, tk₃, os⟩ ∧ Ext [L] h₃ h₄ ∧ h₄.Ns L m₃ ∧ J (i + 1) m₃) → ∃ h₄ tk₃, s' = ⟨h₄, g, d, tk₃, os⟩ ∧ Ext [L] h₁ h₄ ∧ ∃ m₁, h₄.Ns L m₁ ∧ J (i + 1) m₁ ∧ Ext [L] h h₄ := by
      rintro ⟨h₄, tk₃, m₃, rfl, x₄, n₄, j₃⟩
      exact ⟨h₄, tk₃, rfl, x23.trans x₄ (by simp), m₃, n₄, j₃, (x₁.trans x23 (by simp)).trans x₄ (by simp)⟩
    cases fl with
    | next => exact nx hf
    | cont => exact nx hf
    | brk => exact hf
    | ret v => exact hf
  · rintro h₁ tk ⟨m₁, n₁, j₁, x₁⟩
    rw [hl, hfl, Nat.min_eq_left hr4] at j₁
    exact kt h₁ tk m₁ n₁ j₁ x₁

theorem zrow_loop {p1 q1 q2 q3 q4 q5 q6 p3 p4 p5 p6 p7 p8 p9 p10 p11 pos : Pos} {k0 : Nat} {rest : List Stmt} {Q : Flow → Shared → Prop} {ra da ha fa : Addr} {row : List Nat} {kvs : List (Int × Value)} (stepF : Nat → DS → Bool × DS) (told : Nat → Bool) (S : Sys w b) (l : Le b h) (hh : A.handled = none) (D : Doms h b fs σ)
    (H : Handed prog w b fs ra da ha row kvs) (hF : IL b fa facs) (ht : ∀ k ∈ row, (valueAt kvs ((k : Nat) : Int)).isSome = told k)
    (hn : h.Ns L m) (hL : L ∉ allF fs) (hLb : b.get? L = none) (mv : m sVariables = some (.ref ra)) (mm : m sMults = some (.ref fa)) (ma : m sAssign = some (.ref ha)) (md : m sDomains = some (.ref da))
    (kv : env.kindOf sVariable = some .local) (km : env.kindOf sMult = some .local) (kms : env.kindOf sMults = some .local) (kz : env.kindOf sZip = some .globalImplicit) (hg : env.globals = mainGlobals) (hbi : env.builtins = builtinsNs)
    (kd : env.kindOf sDomain = some .local) (kvs' : env.kindOf sVariables = some .local) (ka : env.kindOf sAssign = some .local) (kds : env.kindOf sDomains = some .local) (hel : env.locals = L) (hek : env.scope.kind = .function)
    (step : ∀ (i k : Nat) (f : Int) uf h₁ tk m₁ σ₁ E', row[i]? = some k → facs[i]? = some f → told k = false → h₁.Ns L m₁ → (∀ y, ¬ tmp y → m₁ y = m y) → m₁ sDomain = some (.ref (fs k).a) → m₁ sMult = some (.int f uf) → Doms h₁ b fs σ₁ → σ₁ k = σ k → Le b h₁ → Ext (L :: allF fs) h h₁ →
      wpAny (model prog w) A (execs rest env) (StepEnd stepF g d os L m b fs σ₁ k h₁) E' ⟨h₁, g, d, tk, os⟩)
    (kt : ∀ h' tk m', h'.Ns L m' → (∀ y, ¬ tmp y → m' y = m y) → (rowF stepF told row σ).1 = true → Doms h' b fs (rowF stepF told row σ).2 → Ext (L :: allF fs) h h' → Q .next ⟨h', g, d, tk, os⟩)
    (kf : ∀ h' tk, (rowF stepF told row σ).1 = false → Doms h' b fs (rowF stepF told row σ).2 → Ext (L :: allF fs) h h' → Q (.ret (.bool false)) ⟨h', g, d, tk, os⟩)
    (hs : ∀ xx, foldedSetIterable (.Call (.Name sZip q3) [.Name sVariables q4, .Name sMults q5] [] q6) env xx = pure xx := by intro _; rfl) 
    (hb : backTo q6 (starEach [.Name sVariables q4, .Name sMults q5] env) = [(false, eval (.Name sVariables q4) env), (false, eval (.Name sMults q5) env)] := by rfl) (hm : behindInMarks .NotIn (.Name sAssign p4) = false := by with_unfolding_all rfl)
    (hsw : swapsWith (.Subscript (.Name sDomains p7) (.Name sVariable p8) p9) (some (.Name sDomain p6)) p10.line env = pure false := by rfl) :
    wpAny (model prog w) A (exec (.For (.Tuple [.Name sVariable p1, .Name sMult q1] k0 q2) (.Call (.Name sZip q3) [.Name sVariables q4, .Name sMults q5] [] q6)
      [.If (.Compare (.Name sVariable p3) [.NotIn] [.Name sAssign p4] p5) (.Assign [.Name sDomain p6] (.Subscript (.Name sDomains p7) (.Name sVariable p8) p9) p10 :: rest) [] p11] [] pos) env) Q E ⟨h, g, d, t, os⟩ := by
  have hpm : (env.scope.kind == .class || (env.scope.kind == .module && env.locals != env.globals)) = false := by rw [hek]; rfl
  obtain ⟨rits, rn, hrow, hri⟩ := H.rl
  obtain ⟨dk, hdd, hdv⟩ := H.doms
  obtain ⟨fits, fn, hfa, hfi⟩ := hF
  have hfl : fits.length = 4 := hfi.length
  have hX0 : ∀ p ∈ L :: allF fs, b.get? p = none := fun p hp => by
    rcases List.mem_cons.mp hp with e | hp
    · exact e ▸ hLb
    · exact D.offA p hp
  have Xl : ∀ p ∈ L :: allF fs, ∃ o, h.get? p = some o := fun p hp => by
    rcases List.mem_cons.mp hp with e | hp
    · obtain ⟨o, _, _, ho, _⟩ := hn; exact ⟨o, e ▸ ho⟩
    · exact D.live p hp
  have nb : ∀ {p : Addr}, (∃ o, b.get? p = some o) → p ∉ L :: allF fs := fun hp hm => not_some (hX0 _ hm) hp
  have hrl := hri.length
  refine for_zip hh S l (ln hn mv (ln hn mm ⟨h, g, d, _, os, ra, fa, rits, fits, rn, fn, L :: allF fs, rfl, rfl, rfl, l _ _ hrow, l _ _ hfa, nb ⟨_, hrow⟩, nb ⟨_, hfa⟩, Xl, fun i h₁ => ∃ m₁ σ₁, h₁.Ns L m₁ ∧ (∀ y, ¬ tmp y → m₁ y = m y) ∧ Doms h₁ b fs σ₁ ∧ rowF stepF told (row.take i) σ = (true, σ₁) ∧ Ext (L :: allF fs) h h₁, fun h' l' => ?_, ?_, ?_, ?_⟩ hel hek kms (by decide)) hel hek kvs' (by decide)) hek kz hg hbi hs hb
  · exact ⟨m, σ, hn.keeps l', fun _ _ => rfl, D.le l', by simp [rowF], Ext.of_le l'⟩
  · rintro i ha' hb' W hW ⟨m₁, σ₁, n₁, q₁, D₁, r₁, x₁⟩ x
    have hIX : ∀ p ∈ L :: allF fs, p ∉ W := fun p hp e => not_some (hW p e) (Xl p hp)
    exact ⟨m₁, σ₁, ns_ext n₁ x (hIX L List.mem_cons_self), q₁, D₁.ext x (fun p hp => hIX p (List.mem_cons_of_mem _ hp)), r₁, x₁.trans x (fun p hp => .inr (hW p hp))⟩
  · rintro i v v' h₁ tk E' hv hv' ⟨m₁, σ₁, n₁, q₁, D₁, r₁, x₁⟩
    obtain ⟨vi, u, rfl, hvi⟩ := hri.at i v hv
    rw [List.getElem?_map] at hvi
    obtain ⟨k, hk, rfl⟩ := Option.map_eq_some_iff.mp hvi
    obtain ⟨f, uf, rfl, hfi'⟩ := hfi.at i v' hv'
    have hkm : k ∈ row := List.mem_of_getElem? hk
    have hk4 := H.lt k hkm
    have hilt : i < row.length := (List.getElem?_eq_some_iff.mp hk).1
    have hike : row[i] = k := (List.getElem?_eq_some_iff.mp hk).2
    have hsp : row = row.take i ++ k :: row.drop (i + 1) := by
      rw [← hike, ← List.drop_eq_getElem_cons hilt, List.take_append_drop]
    have hkt : k ∉ row.take i := fun hm => by
      have hnd := H.nd
      rw [hsp] at hnd
      exact (List.nodup_append.mp hnd).2.2 k hm k List.mem_cons_self rfl
    have hσk : σ₁ k = σ k := by
      have := rowF_other (stepF := stepF) (told := told) (σ := σ) hkt
      rw [r₁] at this; exact this
    have htake : row.take (i + 1) = row.take i ++ [k] := by rw [List.take_add_one, hk]; rfl
    refine st' n₁ (fun h₂' u₂' n₂' x₂' => ?_) hel kv hpm
    refine st' n₂' (fun h₂ u₂ n₂ x₂'' => ?_) hel km hpm
    have x₂ : Ext [L] h₁ h₂ := x₂'.trans x₂'' (by simp)
    have l2 : Le b h₁ := x₁.base l hX0
    have l3 : Le b h₂ := x₂.base l2 (by simpa using hLb)
    have D₂ := D₁.ext x₂ (fun p hp => by simpa using fun e : p = L => hL (e ▸ hp))
    have q₂ : ∀ y, ¬ tmp y → updM (updM m₁ sVariable (.int (Int.ofNat k) u)) sMult (.int f uf) y = m y := fun y hy => by
      have h1 : y ≠ sVariable := fun e => hy (.inl e)
      have h2 : y ≠ sMult := fun e => hy (.inr (.inr (.inr e)))
      simp [updM, h1, h2]; exact q₁ y hy
    have nt : ∀ {y : Str}, y = sAssign ∨ y = sDomains → ¬ tmp y := by
      rintro y (rfl | rfl)
      · exact nt_assign
      · exact nt_domains
    have mva : updM (updM m₁ sVariable (.int (Int.ofNat k) u)) sMult (.int f uf) sVariable = some (.int (Int.ofNat k) u) := rfl
    have mmu : updM (updM m₁ sVariable (.int (Int.ofNat k) u)) sMult (.int f uf) sMult = some (.int f uf) := rfl
    generalize updM (updM m₁ sVariable (.int (Int.ofNat k) u)) sMult (.int f uf) = m₂ at *
    have x13 : Ext (L :: allF fs) h h₂ := x₁.trans x₂ (by simp)
    refine wpAny_execs_cons (wpAny_If (wpAny_isTrue_Compare1 (ln (v := .int ((k : Nat) : Int) u) n₂ mva (ln (v := .ref ha) n₂ (by rw [q₂ _ (nt (.inl rfl))]; exact ma) (dnin (H.asg.le l3) fun tk₃ => trb ?_) hel hek ka (by decide)) hel hek kv (by decide)) hm))
    have htk := ht k hkm
    rw [htk]
    cases hto : told k with
    | true =>
      rw [if_neg (by decide)]
      refine wpAny_execs_nil (wpAny_execs_nil ⟨h₂, tk₃, rfl, x₂.mono (by simp), _, σ₁, n₂, q₂, D₂, ?_, x13⟩)
      rw [htake, rowF_append r₁]
      unfold rowF; rw [if_pos hto]; rfl
    | false =>
      rw [if_pos (by decide)]
      refine wpAny_execs_cons (wpAny_Assign_Name (dsub (ln (v := .ref da) n₂ (by rw [q₂ _ (nt (.inr rfl))]; exact md) (ln (v := .int ((k : Nat) : Int) u) n₂ mva ⟨h₂, g, d, _, os, da, dk, k, u, _, rfl, rfl, rfl, hdd.le l3, hdv k hk4, fun tk₄ => ?_⟩ hel hek kv (by decide)) hel hek kds (by decide))) hsw)
      refine st' n₂ (fun h₃ u₃ n₃ x₃ => ?_) hel kd hpm
      have l4 : Le b h₃ := x₃.base l3 (by simpa using hLb)
      have D₃ := D₂.ext x₃ (fun p hp => by simpa using fun e : p = L => hL (e ▸ hp))
      have x14 : Ext (L :: allF fs) h h₃ := x13.trans x₃ (by simp)
      have q₃ : ∀ y, ¬ tmp y → updM m₂ sDomain (.ref (fs k).a) y = m y := fun y hy => by
        have : y ≠ sDomain := fun e => hy (.inr (.inl e))
        rw [updM, if_neg this]; exact q₂ y hy
      refine wpAny_mono (step i k f uf h₃ u₃ _ σ₁ _ hk hfi' hto n₃ q₃ (by simp [updM]) mmu D₃ hσk l4 x14) (fun f s' hst => ?_) fun _ _ e => e
      obtain ⟨h₄, tk₄, rfl, D₄, x₄, hc⟩ := hst
      have x25 : Ext (L :: allF fs) h₁ h₄ := ((x₂.mono (by simp)).trans x₃ (by simp)).trans x₄ (fun p hp => .inl hp)
      have x15 : Ext (L :: allF fs) h h₄ := x14.trans x₄ (fun p hp => .inl hp)
      by_cases hf : (stepF k (σ₁ k)).1 = true
      · rw [if_pos hf] at hc
        obtain ⟨rfl, m', n', q'⟩ := hc
        refine wpAny_execs_nil ⟨h₄, tk₄, rfl, x25, m', _, n', q', D₄, ?_, x15⟩
        rw [htake, rowF_append r₁]
        unfold rowF
        rw [if_neg (by simp [hto]), if_pos hf]; rfl
      · rw [if_neg hf] at hc
        subst hc
        have e : rowF stepF told row σ = (false, upd σ₁ k (stepF k (σ₁ k)).2) := by
          rw [hsp, rowF_append r₁]
          unfold rowF
          rw [if_neg (by simp [hto]), if_neg hf]
        refine kf h₄ tk₄ (by rw [e]) (by rw [e]; exact D₄) x15
  · rintro h₁ tk ⟨m₁, σ₁, n₁, q₁, D₁, r₁, x₁⟩
    rw [show rits.length = row.length by rw [hrl, List.length_map], hfl, Nat.min_eq_left H.le4, List.take_length] at r₁
    exact kt h₁ tk m₁ n₁ q₁ (by rw [r₁]) (by rw [r₁]; exact D₁) x₁
end
end Mine
end

section
open PySem PySem.W PySem.Calls PyProof.Rows Builtin Builtin.ObjectAttr
set_option maxRecDepth 100000
namespace Mine
section
variable {prog : Program} {w : World} {A : Around} {E : Value → Shared → Prop} {h : Heap} {g : Array GenState} {d : Drawn} {t : Nat} {os : OsState} {b : Heap} {fs : Nat → DA} {σ : Nat → DS} {env : Env} {m : Str → Option Value} {L : Addr}

theorem gmax {ca lm : Addr} {n : Int} {expr : Bool} {Q : Value → Shared → Prop} (S : Sys w b) (l : Le b h) (I : IsMax b ca n lm) (k : ∀ v u, Q (.int n v) ⟨h, g, d, u, os⟩) : wpAny (model prog w) A (getAttr (.ref ca) (Str.ofString "_maxsum") expr) Q E ⟨h, g, d, t, os⟩ := by
  obtain ⟨dx, od, h1, h2, ⟨u, e1⟩, e2⟩ := I
  exact oget S l (l _ _ h1) (l _ _ h2) (ga_218 _) (d_218 _) (fa_1 _) e1 rfl (k u)
theorem gmul {ca lm : Addr} {n : Int} {expr : Bool} {Q : Value → Shared → Prop} (S : Sys w b) (l : Le b h) (I : IsMax b ca n lm) (k : ∀ u, Q (.ref lm) ⟨h, g, d, u, os⟩) : wpAny (model prog w) A (getAttr (.ref ca) (Str.ofString "_multipliers") expr) Q E ⟨h, g, d, t, os⟩ := by
  obtain ⟨dx, od, h1, h2, ⟨u, e1⟩, e2⟩ := I
  exact oget S l (l _ _ h1) (l _ _ h2) (ga_218 _) (d_218 _) (fa_2 _) e2 rfl k
theorem ltru {a : Addr} {ns : List Int} {Q : Bool → Shared → Prop} (I : IL h a ns) (hz : ns.length ≤ 1000) (k : ∀ tk, Q (!ns.isEmpty) ⟨h, g, d, tk, os⟩) : wpAny (model prog w) A (truthy (.ref a)) Q E ⟨h, g, d, t, os⟩ := by
  obtain ⟨its, n, e, hi⟩ := I
  have hl := hi.length
  refine wpAny_truthy_list (items := its.toArray) ⟨_, e, rfl, _, rfl⟩ (by simp; omega) ?_
  have : its.toArray.isEmpty = ns.isEmpty := by
    cases hi <;> simp
  rw [this]; exact k _

set_option maxHeartbeats 1000000 in
theorem max_call {ca ra da ha lm : Addr} {n : Int} {row : List Nat} {kvs : List (Int × Value)} {τ : Nat → Option Int} {Q : Value → Shared → Prop} (S : Sys w b) (l : Le b h) (Rm : Room A 2) (D : Doms h b fs σ)
    (H : Handed prog w b fs ra da ha row kvs) (hT : Tells kvs τ) (hok : ∀ k ∈ row, (σ k).ok) (hI : IsMax b ca n lm) (hF : IL b lm facs)
    (kk : ∀ h' tk, Doms h' b fs (call2 n row τ σ).2 → Ext (allF fs) h h' → Q (.bool (call2 n row τ σ).1) ⟨h', g, d, tk, os⟩) :
    codeAny (model prog w) A (.call (.ref 215) ⟨[.ref ca, .ref ra, .ref da, .ref ha, .bool true], []⟩) (wants Q E) ⟨h, g, d, t, os⟩ := by
  refine uclc (n := 1) S l Rm (f := 215) (binds := [(sSelf, .ref ca), (sVariables, .ref ra), (sDomains, .ref da), (sAssign, .ref ha), (sForward, .bool true)]) rfl (by kernel_rfl) (binds_K (S.X.keeps l) rfl rfl rfl rfl rfl) (locs rfl) (by decide) fun A L h₁ E' t₁ hn l₁ hL hLb lb Rm₁ => ?_
  have D₁ := D.le l₁
  have hLF : L ∉ allF fs := fun hm => not_some hL (D.live L hm)
  refine wpAny_execs_cons (wpAny_Assign_Name (aget (ln (v := .ref ca) hn rfl (gmul S lb hI fun tm => ?_))))
  refine st' hn fun h₂ u₂ n₂ x₂ => ?_
  have lb₂ : Le b h₂ := x₂.base lb (by simpa using hLb)
  refine wpAny_execs_cons (wpAny_Assign_Name (aget (ln (v := .ref ca) n₂ rfl (gmax S lb₂ hI fun un tn => ?_))))
  refine st' n₂ fun h₃' u₃' n₃' x₃' => ?_
  refine wpAny_execs_cons (wpAny_Assign_Name (ci fun uf tf => ?_))
  refine st' n₃' fun h₃ u₃ n₃ x₃ => ?_
  have lb₃ : Le b h₃ := x₃.base (x₃'.base lb₂ (by simpa using hLb)) (by simpa using hLb)
  have x03 : Ext [L] h h₃ := (((Ext.of_le (W := [L]) l₁).trans x₂ (by simp)).trans x₃' (by simp)).trans x₃ (by simp)
  have D₃ := ((D₁.ext x₂ (fun p hp => by simpa using fun e : p = L => hLF (e ▸ hp))).ext x₃' (fun p hp => by simpa using fun e : p = L => hLF (e ▸ hp))).ext x₃ (fun p hp => by simpa using fun e : p = L => hLF (e ▸ hp))
  generalize hm0 : updM _ _ _ = m₀ at n₃
  have mv : m₀ sVariables = some (.ref ra) := by subst hm0; rfl
  have ma : m₀ sAssign = some (.ref ha) := by subst hm0; rfl
  have md : m₀ sDomains = some (.ref da) := by subst hm0; rfl
  have mf : m₀ sForward = some (.bool true) := by subst hm0; rfl
  have mmu : m₀ sMults = some (.ref lm) := by subst hm0; rfl
  have mma : m₀ sMaxsum = some (.int n un) := by subst hm0; rfl
  have m1 : m₀ sSum = some (.int 0 uf) := by subst hm0; rfl
  clear hm0
  obtain ⟨rits, rn, hrow, hri⟩ := H.rl
  refine wpAny_execs_cons (wpAny_If (wpAny_isTrue_value (ln (v := .ref lm) n₃ mmu (ltru (hF.le lb₃) (by decide) fun t₃ => ?_))))
  rw [if_pos (by decide)]
  refine wpAny_execs_cons (zscan_loop (fun i m₁ => (∀ y, ¬ tmp y → y ≠ sSum → m₁ y = m₀ y) ∧ ∃ u, m₁ sSum = some (.int (scoreOf ((row.take i).map τ) facs) u)) S lb₃ Rm₁.hh hrow hri hF H.le4 n₃ hLb mv mmu ⟨fun _ _ _ => rfl, uf, m1⟩ (by rfl) (by rfl) (by rfl) (by rfl) (by rfl) (by rfl) (by rfl) (by rfl) (by rfl) ?_ ?_)
  · rintro i k u f uff h₅ tk m₁ E₅ hk hf ⟨q₁, u1, s₁⟩ n₅ lb₅ x₅
    have hkm : k ∈ row := List.mem_of_getElem? hk
    have hk4 := H.lt k hkm
    have hsc := score_take (τ := τ) hk hf
    have q₅ : ∀ y, ¬ tmp y → y ≠ sSum → updM (updM m₁ sVariable (.int ((k : Nat) : Int) u)) sMult (.int f uff) y = m₀ y := fun y hy hz => by
      have h1 : y ≠ sVariable := fun e => hy (.inl e)
      have h2 : y ≠ sMult := fun e => hy (.inr (.inr (.inr e)))
      simp [updM, h1, h2]; exact q₁ y hy hz
    have hτ := hT k hk4
    have f₅ : updM (updM m₁ sVariable (.int ((k : Nat) : Int) u)) sMult (.int f uff) sSum = some (.int (scoreOf ((row.take i).map τ) facs) u1) := s₁
    have v₅ : updM (updM m₁ sVariable (.int ((k : Nat) : Int) u)) sMult (.int f uff) sVariable = some (.int ((k : Nat) : Int) u) := rfl
    have w₅ : updM (updM m₁ sVariable (.int ((k : Nat) : Int) u)) sMult (.int f uff) sMult = some (.int f uff) := rfl
    generalize updM (updM m₁ sVariable (.int ((k : Nat) : Int) u)) sMult (.int f uff) = m₅ at *
    have hsome := hT.some? hk4
    refine wpAny_execs_cons (wpAny_If (wpAny_isTrue_Compare1 (ln (v := .int ((k : Nat) : Int) u) n₅ v₅ (ln (v := .ref ha) n₅ (by rw [q₅ _ nt_assign (by decide)]; exact ma) (din (H.asg.le lb₅) fun tk₆ => trb ?_))) rfl))
    rw [hsome]
    cases hq : τ k with
    | none =>
      rw [if_neg (by decide)]
      rw [hq] at hsc
      refine wpAny_execs_nil (wpAny_execs_nil ⟨h₅, tk₆, m₅, rfl, Ext.of_le (Le.refl _), n₅, q₅, u1, ?_⟩)
      rw [hsc]; simpa using f₅
    | some v =>
      rw [show (some v).isSome = true from rfl, if_pos rfl]
      rw [hq] at hτ hsc
      obtain ⟨tv, ev⟩ := hτ
      refine wpAny_execs_cons (wpAny_AugAssign_Name (lnN n₅ f₅ (wpAny_BinOp (dsub (ln (v := .ref ha) n₅ (by rw [q₅ _ nt_assign (by decide)]; exact ma) (ln (v := .int ((k : Nat) : Int) u) n₅ v₅ ⟨h₅, g, d, _, os, ha, kvs, k, u, _, rfl, rfl, rfl, H.asg.le lb₅, ev, fun tk₇ => ?_⟩))))))
      refine ln (v := .int f uff) n₅ w₅ (muli (facs_mul hf) fun u8 t8 => iaddi fun u9 t9 => st' n₅ fun h₆ u₆ n₆ x₆ => ?_)
      refine wpAny_execs_nil (wpAny_execs_nil ⟨h₆, u₆, _, rfl, x₆, n₆, fun y hy hz => by rw [updM, if_neg hz]; exact q₅ y hy hz, u9, ?_⟩)
      rw [hsc]; simp [updM]
  · rintro h₄ tk m₁ n₁ ⟨q₁, u1, s₁⟩ x₁
    rw [List.take_length] at s₁
    have lb₄ : Le b h₄ := x₁.base lb₃ (by simpa using hLb)
    have D₄ : Doms h₄ b fs σ := D₃.ext x₁ (fun p hp => by simpa using fun e : p = L => hLF (e ▸ hp))
    have x04 : Ext (allF fs) h h₄ := (x03.trans x₁ (by simp)).drop (fun p hp => by
      rw [List.mem_singleton.mp hp]; exact .inr hL)
    have fin : ∀ {h' : Heap}, Ext (L :: allF fs) h₄ h' → Ext (allF fs) h h' := fun x => ((x04.mono (V := L :: allF fs) (fun p hp => List.mem_cons_of_mem _ hp)).trans x (fun p hp => .inl hp)).drop (fun p hp => by
      rcases List.mem_cons.mp hp with rfl | hp
      · exact .inr hL
      · exact .inl hp)
    generalize hsc : scoreOf (row.map τ) facs = sc at *
    refine wpAny_execs_cons (wpAny_If (wpAny_isTrue_Compare1 (ln (v := .int sc u1) n₁ s₁ (ln (v := .int n un) n₁ (by rw [q₁ _ (by decide) (by decide)]; exact mma) (gti (trb ?_)))) rfl))
    by_cases hgt : sc > n
    · rw [decide_eq_true hgt]
      have ec : call2 n row τ σ = (false, σ) := by unfold call2; rw [hsc, if_pos hgt]
      refine wpAny_execs_cons (ret' (cb ?_))
      have := kk h₄ tk (by rw [ec]; exact D₄) x04
      rw [ec] at this; exact this
    rw [decide_eq_false hgt]
    have ec : call2 n row τ σ = rowF (fun k => sumStep n sc (mulAt row k)) (fun k => (τ k).isSome) row σ := by unfold call2; rw [hsc, if_neg hgt]
    refine wpAny_execs_nil (wpAny_execs_cons (wpAny_If (wpAny_isTrue_value (ln (v := .bool true) n₁ (by rw [q₁ _ (by decide) (by decide)]; exact mf) (trb ?_)))))
    rw [if_pos rfl]
    refine wpAny_execs_cons ?_
    refine zrow_loop (fun k => sumStep n sc (mulAt row k)) (fun k => (τ k).isSome) S lb₄ Rm₁.hh D₄ H hF (fun k hk => hT.some? (H.lt k hk)) n₁ hLF hLb (by rw [q₁ _ nt_variables (by decide)]; exact mv) (by rw [q₁ _ (by decide) (by decide)]; exact mmu) (by rw [q₁ _ nt_assign (by decide)]; exact ma) (by rw [q₁ _ nt_domains (by decide)]; exact md) (by rfl) (by rfl) (by rfl) (by rfl) (by rfl) (by rfl) (by rfl) (by rfl) (by rfl) (by rfl) (by rfl) (by rfl) ?_ ?_ ?_
    · intro i k f uff h₅ tk₅ m₅ σ₅ E₅ hk hf hkt n₅ q₅ mdom mmul D₅ hσk l₅ x₅
      have hkm : k ∈ row := List.mem_of_getElem? hk
      have hk4 := H.lt k hkm
      have hok' := hok k hkm
      rw [← hσk] at hok'
      have hmu : mulAt row k = f := mulAt_at H.nd hk hf
      have e₅ : m₅ sSum = some (.int sc u1) := by rw [q₅ _ (by decide)]; exact s₁
      have g₅ : m₅ sMaxsum = some (.int n un) := by rw [q₅ _ (by decide), q₁ _ (by decide) (by decide)]; exact mma
      refine wpAny_execs_cons (hide_loop (k := k) (fun v => decide (sc + v * f > n)) S l₅ Rm₁ D₅ hk4 n₅ hLF hLb mdom hok'.nd hok'.l1 hok'.l2 hok'.l3 (by rfl) (by rfl) (by rfl) (by rfl) ?_ ?_)
      · intro h₆ tk₆ v u E₆ Q₆ m₆ n₆ q₆ v₆ l₆ x₆ k₆
        exact wpAny_isTrue_Compare1 (wpAny_BinOp (ln (v := .int sc u1) n₆ (by rw [q₆ _ (by decide)]; exact e₅) (wpAny_BinOp (ln (v := .int v u) n₆ v₆ (ln (v := .int f uff) n₆ (by rw [q₆ _ (by decide)]; exact mmul) (muli (facs_mul hf) fun u8 t8 => addi fun u9 t9 => ln (v := .int n un) n₆ (by rw [q₆ _ (by decide)]; exact g₅) (gti (trb (k₆ _))))))))) rfl
      · intro h₆ tk₆ m₆ n₆ q₆ D₆ x₆
        have l₆ : Le b h₆ := x₆.base l₅ (fun p hp => by
          rcases List.mem_cons.mp hp with e | hp
          · exact e ▸ hLb
          · exact D₅.offA p hp)
        refine wpAny_execs_cons (wpAny_If (isTrue_not (wpAny_isTrue_value (ln (v := .ref (fs k).a) n₆ (by rw [q₆ _ (by decide)]; exact mdom) (dtru_dom S l₆ D₆ hk4 (by rw [upd_same]; exact filter_sub _ hok'.l1 hok'.l2 hok'.l3) fun tk₉ => ?_)))))
        rw [upd_same, Bool.not_not]
        by_cases he : (hideAll (fun v => decide (sc + v * f > n)) (σ₅ k)).sh.isEmpty = true
        · rw [if_pos he]
          exact wpAny_execs_cons (ret' (cb (se_ret (stepF := fun k => sumStep n sc (mulAt row k)) (by unfold sumStep; rw [hmu, he]; rfl) D₆ x₆)))
        · rw [if_neg he]
          exact wpAny_execs_nil (wpAny_execs_nil (se_next (stepF := fun k => sumStep n sc (mulAt row k)) (by unfold sumStep; rw [hmu, Bool.eq_false_iff.mpr he]; rfl) D₆ x₆ n₆ fun y hy => by rw [q₆ _ (fun e => hy (.inr (.inr (.inl e))))]; exact q₅ y hy))
    · intro h' tk' m' n' q' hr D' x'
      refine wpAny_execs_nil (wpAny_execs_nil (wpAny_execs_cons (ret' (cb ?_))))
      have := kk h' tk' (by rw [ec]; exact D') (fin x')
      rw [ec, hr] at this; exact this
    · intro h' tk' hr D' x'
      have := kk h' tk' (by rw [ec]; exact D') (fin x')
      rw [ec, hr] at this; exact this
end
end Mine
end

section
open PySem PySem.W PySem.Calls PyProof.Rows Builtin Builtin.ObjectAttr
set_option maxRecDepth 100000
namespace Mine
def callP (kind n : Int) (ms : List Int) (row : List Nat) (τ : Nat → Option Int) (σ : Nat → DS) : Bool × (Nat → DS) :=
  if kind = 0 then call0 row τ σ else if kind = 1 then call1 row τ σ else if kind = 2 then call2 n row τ σ else if kind = 3 then call3 true n ms row τ σ else call3 false n ms row τ σ
section
variable {prog : Program} {w : World} {A : Around} {E : Value → Shared → Prop} {h : Heap} {g : Array GenState} {d : Drawn} {t : Nat} {os : OsState} {b : Heap} {fs : Nat → DA} {σ : Nat → DS} {env : Env} {m : Str → Option Value} {L : Addr}

theorem con_call {ca ra da ha msa : Addr} {kind n : Int} {ms : List Int} {row : List Nat} {kvs : List (Int × Value)} {τ : Nat → Option Int} {Q : Value → Shared → Prop} (S : Sys w b) (l : Le b h) (Rm : Room A 2) (D : Doms h b fs σ)
    (H : Handed prog w b fs ra da ha row kvs) (hT : Tells kvs τ) (hok : ∀ k ∈ row, (σ k).ok) (hI : Con b ca kind n msa) (hms : IL b msa ms)
    (kk : ∀ h' tk, Doms h' b fs (callP kind n ms row τ σ).2 → Ext (allF fs) h h' → Q (.bool (callP kind n ms row τ σ).1) ⟨h', g, d, tk, os⟩) :
    wpAny (model prog w) A (call (.ref ca) [.ref ra, .ref da, .ref ha, .bool true]) Q E ⟨h, g, d, t, os⟩ := by
  unfold Con at hI
  by_cases h0 : kind = 0
  · rw [if_pos h0] at hI
    have e : callP kind n ms row τ σ = call0 row τ σ := by unfold callP; rw [if_pos h0]
    rw [e] at kk
    obtain ⟨dx, od, a1, a2⟩ := hI
    exact inst_call S l (l _ _ a1) (l _ _ a2) (fc_163 _) (t_160 _) rfl (alldiff_call S l Rm D H hT hok kk)
  by_cases h1 : kind = 1
  · rw [if_neg h0, if_pos h1] at hI
    have e : callP kind n ms row τ σ = call1 row τ σ := by unfold callP; rw [if_neg h0, if_pos h1]
    rw [e] at kk
    obtain ⟨dx, od, a1, a2⟩ := hI
    exact inst_call S l (l _ _ a1) (l _ _ a2) (fc_183 _) (t_180 _) rfl (alleq_call S l Rm D H hT hok kk)
  by_cases h2 : kind = 2
  · rw [if_neg h0, if_neg h1, if_pos h2] at hI
    have e : callP kind n ms row τ σ = call2 n row τ σ := by unfold callP; rw [if_neg h0, if_neg h1, if_pos h2]
    rw [e] at kk
    obtain ⟨lm, hM, hF⟩ := hI
    obtain ⟨dx, od, a1, a2, _⟩ := id hM
    exact inst_call S l (l _ _ a1) (l _ _ a2) (fc_218 _) (t_215 _) rfl (max_call S l Rm D H hT hok hM hF kk)
  by_cases h3 : kind = 3
  · rw [if_neg h0, if_neg h1, if_neg h2, if_pos h3] at hI
    have e : callP kind n ms row τ σ = call3 true n ms row τ σ := by unfold callP; rw [if_neg h0, if_neg h1, if_neg h2, if_pos h3]
    rw [e] at kk
    obtain ⟨dx, od, a1, a2, _⟩ := id hI
    exact inst_call S l (l _ _ a1) (l _ _ a2) (fc_246 _) (t_243 _) rfl (some_call_246 S l Rm D H hT hok hI hms kk)
  · rw [if_neg h0, if_neg h1, if_neg h2, if_neg h3] at hI
    have e : callP kind n ms row τ σ = call3 false n ms row τ σ := by unfold callP; rw [if_neg h0, if_neg h1, if_neg h2, if_neg h3]
    rw [e] at kk
    obtain ⟨dx, od, a1, a2, _⟩ := id hI
    exact inst_call S l (l _ _ a1) (l _ _ a2) (fc_274 _) (t_271 _) rfl (some_call_274 S l Rm D H hT hok hI hms kk)
end
end Mine
end

section
open PySem PySem.W PySem.Calls PyProof.Rows Builtin Builtin.ObjectAttr
set_option maxRecDepth 100000
namespace Mine

/-! the frame of the law -/
noncomputable abbrev lawF (P : Params) : FuncData := match (KK P).lookup 293 with | some ⟨_, _, .func fd, _⟩ => fd | _ => default
noncomputable abbrev lawB (P : Params) : List Stmt := match (lawF P).body with | .stmts b => b | _ => []
noncomputable abbrev lawE (P : Params) (L : Addr) : Env := envOfC (Str.ofString "law") (lawF P).scope L 293 (lawF P).code
abbrev forBody : List Stmt → List Stmt | .For _ _ b _ _ :: _ => b | _ => []
abbrev whileBody : List Stmt → List Stmt | .While _ b _ _ :: _ => b | _ => []
/-- one pass over numbers -/
noncomputable abbrev passB (P : Params) : List Stmt := forBody ((lawB P).drop 7)
/-- one turn -/
noncomputable abbrev turnB (P : Params) : List Stmt := forBody ((passB P).drop 3)
/-- one step back -/
noncomputable abbrev backB (P : Params) : List Stmt := whileBody ((passB P).drop 4)

structure LF (h : Heap) (L : Addr) (m : Str → Option Value) (cv : Nat → Option Value) : Prop where
  ns : h.Ns L m
  cs : ∀ i, i < 10 → h.IsCell (L + 1 + i) (cv i)
def frameW (L : Addr) : List Addr := List.range' L 11
theorem mem_frameW {L p : Nat} : p ∈ frameW L ↔ L ≤ p ∧ p < L + 11 := List.mem_range'_1
theorem cellNe {L i j : Nat} (h : j ≠ i) : L + 1 + j ≠ L + 1 + i := by omega
theorem cellNeL {L i : Nat} : L + 1 + i ≠ L := by omega
theorem cellEq {L p : Nat} (h : L ≤ p) (e : p ≠ L) : L + 1 + (p - L - 1) = p := by omega
theorem cellLt {L p : Nat} (h : L ≤ p) (h2 : p < L + 11) : p - L - 1 < 10 := by omega
theorem L_frame (L : Addr) : L ∈ frameW L := mem_frameW.mpr ⟨Nat.le_refl _, Nat.lt_add_of_pos_right (by decide)⟩
theorem c_frame (L : Nat) {i : Nat} (hi : i < 10) : L + 1 + i ∈ frameW L := mem_frameW.mpr ⟨by omega, by omega⟩
theorem LF.ext {h h' : Heap} {L : Nat} {m : Str → Option Value} {cv : Nat → Option Value} {W : List Addr} (F : LF h L m cv) (x : Ext W h h') (hw : ∀ p ∈ frameW L, p ∉ W) : LF h' L m cv :=
  ⟨ns_ext F.ns x (hw L (L_frame L)), fun i hi => let ⟨o, ho, hd⟩ := F.cs i hi; ⟨o, x _ _ (hw _ (c_frame L hi)) ho, hd⟩⟩
theorem LF.le {h h' : Heap} {L : Addr} {m : Str → Option Value} {cv : Nat → Option Value} (F : LF h L m cv) (x : Le h h') : LF h' L m cv := F.ext (W := []) (Ext.of_le x) (by simp)
theorem LF.live {h : Heap} {L : Nat} {m : Str → Option Value} {cv : Nat → Option Value} (F : LF h L m cv) : ∀ p ∈ frameW L, ∃ o, h.get? p = some o := fun p hp => by
  obtain ⟨h1, h2⟩ := mem_frameW.mp hp
  by_cases e : p = L
  · subst e; obtain ⟨o, _, _, ho, _⟩ := F.ns; exact ⟨o, ho⟩
  · obtain ⟨o, ho, _⟩ := F.cs (p - L - 1) (cellLt h1 h2)
    exact ⟨o, by rwa [cellEq h1 e] at ho⟩
theorem LF.setN {h h' : Heap} {L : Addr} {m m' : Str → Option Value} {cv : Nat → Option Value} (F : LF h L m cv) (x : Ext [L] h h') (n : h'.Ns L m') : LF h' L m' cv :=
  ⟨n, fun i hi => let ⟨o, ho, hd⟩ := F.cs i hi; ⟨o, x _ _ (fun hm => cellNeL (List.mem_singleton.mp hm)) ho, hd⟩⟩
theorem LF.setC {h h' : Heap} {L : Addr} {m : Str → Option Value} {cv : Nat → Option Value} {i : Nat} {v : Value} (F : LF h L m cv) (x : Ext [L + 1 + i] h h') (c : h'.IsCell (L + 1 + i) (some v)) : LF h' L m (upd cv i (some v)) :=
  ⟨ns_ext F.ns x (fun hm => cellNeL (List.mem_singleton.mp hm).symm), fun j hj => by
    by_cases e : j = i
    · subst e; rw [upd_same]; exact c
    · rw [upd_other _ _ e]; obtain ⟨o, ho, hd⟩ := F.cs j hj; exact ⟨o, x _ _ (fun hm => cellNe e (List.mem_singleton.mp hm)) ho, hd⟩⟩

section
variable {prog : Program} {w : World} {A : Around} {E : Value → Shared → Prop} {h : Heap} {g : Array GenState} {d : Drawn} {t : Nat} {os : OsState} {b : Heap} {fs : Nat → DA} {σ : Nat → DS} {env : Env} {m : Str → Option Value} {cv : Nat → Option Value} {L : Addr}

/-- a cell of the law's frame, read -/
theorem lC {x : Str} {pos : Pos} {v : Value} {Q : Value → Shared → Prop} (i : Nat) (F : LF h L m cv) (hv : cv i = some v) (k : Q v ⟨h, g, d, t, os⟩) (hi : i < 10 := by decide)
    (hc : env.cells.lookup x = some (L + 1 + i) := by rfl) (hk : env.scope.kind = .function := by rfl) (hl : env.kindOf x = some .cell := by rfl) (hd : (x == ("__debug__" : Str)) = false := by decide) :
    wpAny (model prog w) A (eval (.Name x pos) env) Q E ⟨h, g, d, t, os⟩ := lcell hc (hv ▸ F.cs i hi) k hk hl hd
theorem sC {x : Str} {v : Value} {Q : Unit → Shared → Prop} (i : Nat) (F : LF h L m cv) (k : ∀ h', LF h' L m (upd cv i (some v)) → Ext [L + 1 + i] h h' → Q () ⟨h', g, d, t, os⟩) (hi : i < 10 := by decide)
    (hc : env.cells.lookup x = some (L + 1 + i) := by rfl) (hk : env.scope.kind = .function := by rfl) (hl : env.kindOf x = some .cell := by rfl) :
    wpAny (model prog w) A (storeName env x v) Q E ⟨h, g, d, t, os⟩ := scell hc (F.cs i hi) (fun h' c x => k h' (F.setC x c) x) hk hl
/-- a local of the law's frame, stored -/
theorem sL {x : Str} {v : Value} {Q : Unit → Shared → Prop} (F : LF h L m cv) (k : ∀ h' u, LF h' L (updM m x v) cv → Ext [L] h h' → Q () ⟨h', g, d, u, os⟩) (hl : env.locals = L := by rfl)
    (hx : env.kindOf x = some .local := by rfl) (hp : (env.scope.kind == .class || (env.scope.kind == .module && env.locals != env.globals)) = false := by rfl) :
    wpAny (model prog w) A (storeName env x v) Q E ⟨h, g, d, t, os⟩ := st' F.ns (fun h' u n x => k h' u (F.setN x n) x) hl hx hp

/-- a list of four lists of ints -/
def LL (h : Heap) (a : Addr) (f : Nat → List Int) : Prop := ∃ its n, h.get? a = some (listO (List.toArray its) n) ∧ its.length = 4 ∧ ∀ k, k < 4 → ∃ p, its[k]? = some (.ref p) ∧ IL h p (f k)
theorem LL.le {h h' : Heap} {a : Addr} {f : Nat → List Int} (x : LL h a f) (l : Le h h') : LL h' a f :=
  let ⟨its, n, e, hl, i⟩ := x; ⟨its, n, l _ _ e, hl, fun k hk => let ⟨p, hp, q⟩ := i k hk; ⟨p, hp, q.le l⟩⟩

theorem ints_filter {p : Int → Bool} : ∀ {vs : List Value} {ns : List Int}, IntsAre vs ns → IntsAre (vs.filter fun v => match v with | .int i _ => p i | _ => false) (ns.filter p)
  | _, _, .nil => .nil
  | _, _, .cons n t h => by
    have ih := ints_filter (p := p) h
    simp only [List.filter_cons]
    by_cases hp : p n = true
    · rw [if_pos hp, if_pos hp]; exact .cons n t ih
    · rw [if_neg hp, if_neg hp]; exact ih
theorem range_vals {vs : List Value} (hl : vs.length = 4) (h : ∀ (i : Nat) (v : Value), vs[i]? = some v → ∃ u, v = .int (i : Int) u) : IntsAre vs ((List.range 4).map Int.ofNat) := by
  match vs, hl with
  | [a, b, c, d], _ =>
    obtain ⟨u0, rfl⟩ := h 0 a rfl
    obtain ⟨u1, rfl⟩ := h 1 b rfl
    obtain ⟨u2, rfl⟩ := h 2 c rfl
    obtain ⟨u3, rfl⟩ := h 3 d rfl
    exact .cons 0 u0 (.cons 1 u1 (.cons 2 u2 (.cons 3 u3 .nil)))
theorem filter_range {p : Int → Bool} {q : Nat → Bool} (h : ∀ (k : Nat), k < 4 → p (k : Int) = q k) : ((List.range 4).map Int.ofNat).filter p = ((List.range 4).filter q).map Int.ofNat := by
  rw [List.filter_map]
  congr 1
  exact List.filter_congr fun k hk => h k (List.mem_range.mp hk)

abbrev sFree : Str := Str.ofString "free"
abbrev sK : Str := Str.ofString "k"
abbrev sX : Str := Str.ofString "x"

set_option maxHeartbeats 1000000 in
/-- free = [k for k in range(4) if k not in told] -/
theorem turn_free {td : Addr} {kvs : List (Int × Value)} {τ : Nat → Option Int} {Q : Flow → Shared → Prop} (S : Sys w b) (l : Le b h) (Rm : Room A 3) (F : LF h L m cv) (ht : cv 6 = some (.ref td)) (T : ID prog w h td kvs) (hT : Tells kvs τ)
    (kk : ∀ h' tk fa, Ext [L] h h' → h.get? fa = none → IL h' fa (((List.range 4).filter fun k => !(τ k).isSome).map Int.ofNat) → LF h' L (updM m sFree (.ref fa)) cv →
      wpAny (model prog w) A (execs ((turnB w.params).drop 1) (lawE w.params L)) Q E ⟨h', g, d, tk, os⟩) :
    wpAny (model prog w) A (execs (turnB w.params) (lawE w.params L)) Q E ⟨h, g, d, t, os⟩ := by
  refine wpAny_execs_cons (comp_asg .loc (fun v y _ => y = v) (fun v => match v with | .int i _ => !(valueAt kvs i).isSome | _ => false) rfl rfl ⟨rfl, fun _ => rfl⟩ (by decide) rfl rfl ?_)
  refine it_range4 S l Rm.hh fun h₁ it t₁ hit => ?_
  have l₁ : Le h h₁ := let ⟨_, _, _, _, _, _, _, _, _, _, l⟩ := hit; l
  refine ⟨h₁, g, d, _, os, h, 4, _, m, rfl, hit, by decide, F.ns, ?_, ?_⟩
  · rintro i v C h₃ tk hi ⟨u, rfl⟩ l₃ ⟨m₃, hn₃, hm₃⟩ E''
    refine wpAny_tests_one (wpAny_isTrue_Compare1 (ln (v := .int (i : Int) u) hn₃ hm₃ (lC 6 (F.le l₃) ht (dnin (T.le l₃) fun tk' => trb ⟨rfl, h₃, _, rfl, Le.refl _, fun _ => ?_⟩))) rfl)
    exact ln (v := .int (i : Int) u) hn₃ hm₃ ⟨h₃, _, rfl, Le.refl _, fun _ _ _ => rfl⟩
  intro D h₂ h₃ tk ys vs n' hlen hP hF l₂ x₃ hD hDg hDg₃ hn₃
  have hys := paired_self hF
  subst hys
  have hI := ints_filter (p := fun i => !(valueAt kvs i).isSome) (range_vals hlen hP)
  rw [filter_range (q := fun k => !(τ k).isSome) fun k hk => by rw [hT.some? hk]] at hI
  have x₃ : Ext [L] h₂ h₃ := x₃
  have x : Ext [L] h h₃ := (Ext.of_le (W := [L]) l₂).trans x₃ (by simp)
  exact kk h₃ tk D x hD ⟨_, _, hDg₃, hI⟩ (F.setN x hn₃)
end
end Mine
end

section
open PySem PySem.W PySem.Calls PyProof.Rows Builtin Builtin.ObjectAttr
set_option maxRecDepth 100000
namespace Mine

theorem ints_erase : ∀ {vs : List Value} {ns : List Int}, IntsAre vs ns → ∀ j, IntsAre (vs.eraseIdx j) (ns.eraseIdx j)
  | _, _, .nil, j => by simp; exact .nil
  | _, _, .cons n t h, 0 => h
  | _, _, .cons n t h, j + 1 => .cons n t (ints_erase h j)

theorem erase_map {α β : Type} (f : α → β) : ∀ (l : List α) (j : Nat), (l.eraseIdx j).map f = (l.map f).eraseIdx j
  | [], _ => rfl
  | _ :: _, 0 => rfl
  | a :: l, j + 1 => congrArg (f a :: ·) (erase_map f l j)

section
variable {prog : Program} {w : World} {A : Around} {E : Value → Shared → Prop} {h : Heap} {g : Array GenState} {d : Drawn} {t : Nat} {os : OsState} {b : Heap} {fs : Nat → DA} {σ : Nat → DS} {env : Env} {m : Str → Option Value} {cv : Nat → Option Value} {L : Addr}

/-- a list at an index, by the form -/
theorem lsub {o ix : Expr} {pos : Pos} {s : Shared} {Q : Value → Shared → Prop}
    (k : wpAny (model prog w) A (eval o env) (fun ov s₁ => wpAny (model prog w) A (eval ix env) (fun iv s₂ => ∃ h g d t os a xs n i u v, s₂ = ⟨h, g, d, t, os⟩ ∧ ov = .ref a ∧ iv = .int i u ∧ h.get? a = some (listO (List.toArray xs) n) ∧ 0 ≤ i ∧ xs.length ≤ 1000 ∧ xs[i.toNat]? = some v ∧ Q v ⟨h, g, d, t, os⟩) E s₁) E s) :
    wpAny (model prog w) A (eval (.Subscript o ix pos) env) Q E s :=
  subG (wpAny_mono k (fun ov s₁ k₁ => wpAny_mono k₁ (fun iv s₂ k₂ => by
    obtain ⟨h, g, d, t, os, a, xs, n, i, u, v, rfl, rfl, rfl, ho, h0, hz, hv, kk⟩ := k₂
    have hlt : i.toNat < xs.length := (List.getElem?_eq_some_iff.mp hv).1
    exact ⟨gi_list ho, wpAny_getItem_list ⟨_, ho, rfl, _, rfl⟩ h0 (by omega) (by simpa using hv) kk⟩) fun _ _ e => e) fun _ _ e => e)

/-- list.pop(i) -/
theorem lpopat {a : Addr} {xs : List Value} {n : Nat} {i : Int} {u : Tok} {v : Value} {Q : Value → Shared → Prop} (ho : h.get? a = some (listO xs.toArray n)) (hz : xs.length ≤ 900) (h0 : 0 ≤ i) (hv : xs[i.toNat]? = some v)
    (k : ∀ h' n', h'.get? a = some (listO (xs.eraseIdx i.toNat).toArray n') → Ext [a] h h' → Q v ⟨h', g, d, t, os⟩) : wpAny (model prog w) A (call (.builtin "list.pop") [.ref a, .int i u]) Q E ⟨h, g, d, t, os⟩ := by
  have hlt : i.toNat < xs.length := (List.getElem?_eq_some_iff.mp hv).1
  refine call_meets PySem.F.slot_list_pop ⟨_, ho, rfl⟩ PySem.F.entry_list_pop (PySem.F.args_list_pop_2 _ _) (MeetsSeq.list_pop_at a xs.toArray n i u i.toNat v (fitsIndex_of h0 (by omega)) (seqIndex_of h0 (by rw [List.size_toArray]; omega)) (by simpa using hv) (sz_small (by show xs.length ≤ 1000; omega))) ⟨ho, ?_⟩
  have key : ∃ n', (h.update a (Obj.mapSeq fun ys => ys.eraseIdxIfInBounds i.toNat)).get? a = some (listO (xs.eraseIdx i.toNat).toArray n') := by
    rw [Heap.get?_update_self _ ho rfl]
    unfold Obj.mapSeq
    have e : xs.toArray.eraseIdxIfInBounds i.toNat = (xs.eraseIdx i.toNat).toArray := by
      simp [Array.eraseIdxIfInBounds, hlt]
    dsimp only
    rw [e]
    exact ⟨_, rfl⟩
  obtain ⟨n', hn'⟩ := key
  exact k _ n' hn' (upd_ext _ _ _)

/-- lists[k], by the form -/
theorem llsub {o ix : Expr} {pos : Pos} {s : Shared} {Q : Value → Shared → Prop}
    (k : wpAny (model prog w) A (eval o env) (fun ov s₁ => wpAny (model prog w) A (eval ix env) (fun iv s₂ => ∃ h g d t os a f j u, s₂ = ⟨h, g, d, t, os⟩ ∧ ov = .ref a ∧ iv = .int ((j : Nat) : Int) u ∧ LL h a f ∧ j < 4 ∧ ∀ p, IL h p (f j) → Q (.ref p) ⟨h, g, d, t, os⟩) E s₁) E s) :
    wpAny (model prog w) A (eval (.Subscript o ix pos) env) Q E s :=
  lsub (wpAny_mono k (fun ov s₁ k₁ => wpAny_mono k₁ (fun iv s₂ k₂ => by
    obtain ⟨h, g, d, t, os, a, f, j, u, rfl, rfl, rfl, ⟨its, n, e, hl, hi⟩, hj, kk⟩ := k₂
    obtain ⟨p, hp, hI⟩ := hi j hj
    exact ⟨h, g, d, t, os, a, its, n, j, u, _, rfl, rfl, rfl, e, by omega, by omega, by simpa using hp, kk p hI⟩) fun _ _ e => e) fun _ _ e => e)

theorem bb_len' : bootBuiltins (Str.ofString "len") = some (.builtin "len") := by kernel_rfl
/-- len(e) of a list of ints, by the form -/
theorem lenl {e : Expr} {p pos : Pos} {s : Shared} {Q : Value → Shared → Prop} (S : Sys w b) (l : Le b s.heap)
    (k : wpAny (model prog w) A (eval e env) (fun v s₁ => ∃ h g d t os a ns, s₁ = ⟨h, g, d, t, os⟩ ∧ v = .ref a ∧ IL h a ns ∧ ns.length ≤ 1000 ∧ ∀ u tk, Q (.int ns.length u) ⟨h, g, d, tk, os⟩) E s)
    (hk : env.scope.kind = .function := by rfl) (hx : env.kindOf (Str.ofString "len") = some .globalImplicit := by rfl) (hg : env.globals = mainGlobals := by rfl) (hbi : env.builtins = builtinsNs := by rfl)
    (hb : backTo pos (starEach [e] env) = [(false, eval e env)] := by rfl) :
    wpAny (model prog w) A (eval (.Call (.Name (Str.ofString "len") p) [e] [] pos) env) Q E s := by
  refine ncall (bname S l (b_len _) bb_len' (by decide) ?_ hk hx hg hbi)
  rw [hb]
  refine cw1 (wpAny_mono k (fun v s₁ k₁ => ?_) fun _ _ e => e)
  obtain ⟨h, g, d, t, os, a, ns, rfl, rfl, ⟨its, n, ho, hi⟩, hz, kk⟩ := k₁
  have hl := hi.length
  refine llen ho (by omega) fun u tk => ?_
  rw [hl]; exact kk u tk

set_option maxHeartbeats 1000000 in
/-- k = free.pop(x % len(free)); told[k] = lists[k][x // 4 % len(lists[k])] -/
theorem turn_tell {la td fa : Addr} {ls : Nat → List Int} {kvs : List (Int × Value)} {free₀ : List Nat} {x : Int} {ux : Tok} {Q : Flow → Shared → Prop} (S : Sys w b) (l : Le b h) (hLb : ∀ p ∈ frameW L, b.get? p = none) (F : LF h L m cv)
    (hls : LL b la ls) (hl4 : ∀ k, k < 4 → 0 < (ls k).length ∧ (ls k).length ≤ 50) (hla : cv 1 = some (.ref la)) (ht : cv 6 = some (.ref td)) (T : ID prog w h td kvs) (hkz : kvs.length ≤ 100) (hx : m sX = some (.int x ux)) (hfa : m sFree = some (.ref fa)) (hI : IL h fa (free₀.map Int.ofNat)) (hf4 : ∀ k ∈ free₀, k < 4) (hfp : 0 < free₀.length) (hfz : free₀.length ≤ 4)
    (hfb : b.get? fa = none) (hft : fa ≠ td) (hfL : fa ∉ frameW L) (htL : td ∉ frameW L)
    (kk : ∀ h' tk k j uk uv, j = (x.fmod free₀.length).toNat → free₀[j]? = some k → Ext [L, fa, td] h h' → IL h' fa ((free₀.eraseIdx j).map Int.ofNat) → ID prog w h' td (stored kvs k (.int ((ls k).getD ((x.fdiv 4).fmod (ls k).length).toNat 0) uv)) → LF h' L (updM m sK (.int ((k : Nat) : Int) uk)) cv →
      wpAny (model prog w) A (execs ((turnB w.params).drop 3) (lawE w.params L)) Q E ⟨h', g, d, tk, os⟩) :
    wpAny (model prog w) A (execs ((turnB w.params).drop 1) (lawE w.params L)) Q E ⟨h, g, d, t, os⟩ := by
  obtain ⟨its, n0, ho, hi⟩ := hI
  have hil := hi.length
  rw [List.length_map] at hil
  have hfl : ((free₀.length : Nat) : Int) ≠ 0 := by omega
  have h0 : 0 ≤ x.fmod free₀.length := Int.fmod_nonneg_of_pos _ (by omega)
  have hlt : x.fmod free₀.length < free₀.length := Int.fmod_lt_of_pos _ (by omega)
  have hjl : (x.fmod free₀.length).toNat < free₀.length := by omega
  generalize hj : (x.fmod free₀.length).toNat = j at *
  obtain ⟨k, hk⟩ : ∃ k, free₀[j]? = some k := ⟨_, List.getElem?_eq_getElem hjl⟩
  have hk4 : k < 4 := hf4 k (List.mem_of_getElem? hk)
  obtain ⟨v, hv⟩ : ∃ v, its[j]? = some v := ⟨_, List.getElem?_eq_getElem (by omega)⟩
  obtain ⟨vi, uk, rfl, hvi⟩ := hi.at j v hv
  rw [List.getElem?_map, hk] at hvi
  cases hvi
  refine wpAny_execs_cons (wpAny_Assign_Name (mcall (ln (v := .ref fa) F.ns hfa fun pl => ?_)))
  refine list_meth ho rfl rfl PySem.F.slot_list_pop PySem.F.type_list_pop ?_
  refine cw1 (wpAny_BinOp (ln (v := .int x ux) F.ns hx (lenl S l (ln (v := .ref fa) F.ns hfa ⟨h, g, d, _, os, fa, _, rfl, rfl, ⟨its, n0, ho, hi⟩, by simp; omega, fun ul tl => ?_⟩))))
  rw [List.length_map]
  refine modi hfl fun um tm => ?_
  refine lpopat ho (by omega) h0 (by rw [hj]; exact hv) fun h₁ n1 e₁ x₁ => ?_
  rw [hj] at e₁
  have F₁ := F.ext x₁ (fun p hp => by simpa using fun e : p = fa => hfL (e ▸ hp))
  have T₁ := T.ext x₁ (by simpa using Ne.symm hft)
  have l₁ : Le b h₁ := x₁.base l (by simpa using hfb)
  refine sL F₁ fun h₂ u₂ F₂ x₂ => ?_
  have l₂ : Le b h₂ := x₂.base l₁ (by simpa using hLb L (L_frame L))
  have T₂ := T₁.ext x₂ (by simpa using fun e : td = L => htL (e ▸ L_frame L))
  have e₂ : h₂.get? fa = some (listO (its.eraseIdx j).toArray n1) := x₂ _ _ (by simpa using fun e : fa = L => hfL (e ▸ L_frame L)) e₁
  generalize hmm : updM m sK (.int ((k : Nat) : Int) uk) = m₂ at *
  have mk : m₂ sK = some (.int ((k : Nat) : Int) uk) := by subst hmm; simp [updM]
  have mx : m₂ sX = some (.int x ux) := by subst hmm; rw [updM, if_neg (by decide)]; exact hx
  obtain ⟨hp1, hp2⟩ := hl4 k hk4
  have g0 : 0 ≤ (x.fdiv 4).fmod (ls k).length := Int.fmod_nonneg_of_pos _ (by omega)
  have glt : (x.fdiv 4).fmod (ls k).length < (ls k).length := Int.fmod_lt_of_pos _ (by omega)
  refine wpAny_execs_cons (wpAny_Assign_Subscript ?_)
  refine lsub (llsub (lC 1 F₂ hla (ln (v := .int ((k : Nat) : Int) uk) F₂.ns mk ⟨h₂, g, d, _, os, la, ls, k, uk, rfl, rfl, rfl, hls.le l₂, hk4, fun p hp => ?_⟩)))
  refine wpAny_BinOp (wpAny_BinOp (ln (v := .int x ux) F₂.ns mx (ci fun u4 t4 => divi (by decide) (by decide) fun u5 t5 => lenl S l₂ (llsub (lC 1 F₂ hla (ln (v := .int ((k : Nat) : Int) uk) F₂.ns mk ⟨h₂, g, d, _, os, la, ls, k, uk, rfl, rfl, rfl, hls.le l₂, hk4, fun p' hp' => ⟨h₂, g, d, _, os, p', _, rfl, rfl, hp', by omega, fun u6 t6 => ?_⟩⟩))))))
  refine modi (by omega) fun u7 t7 => ?_
  obtain ⟨its2, n2, e3, hi3⟩ := hp
  have hl3 := hi3.length
  obtain ⟨v3, hv3⟩ : ∃ v, its2[((x.fdiv 4).fmod (ls k).length).toNat]? = some v := ⟨_, List.getElem?_eq_getElem (by omega)⟩
  obtain ⟨vi, uv, rfl, hvi⟩ := hi3.at _ v3 hv3
  refine ⟨h₂, g, d, _, os, p, its2, n2, _, _, _, rfl, rfl, rfl, e3, g0, by omega, hv3, ?_⟩
  refine lC 6 F₂ ht (ln (v := .int ((k : Nat) : Int) uk) F₂.ns mk ?_)
  refine dset T₂ (by omega) fun h₃ t₃ T₃ x₃ => ?_
  have F₃ := F₂.ext x₃ (fun p hp => by simpa using fun e : p = td => htL (e ▸ hp))
  have e₃ : h₃.get? fa = some (listO (its.eraseIdx j).toArray n1) := x₃ _ _ (by simpa using hft) e₂
  have x03 : Ext [L, fa, td] h h₃ := ((x₁.mono (V := [L, fa, td]) (by simp)).trans x₂ (by simp)).trans x₃ (by simp)
  subst hmm
  refine kk h₃ t₃ k j uk uv rfl hk x03 ⟨_, _, e₃, ?_⟩ ?_ F₃
  · rw [erase_map]; exact ints_erase hi j
  · rw [show (ls k).getD ((x.fdiv 4).fmod (ls k).length).toNat 0 = vi by rw [List.getD_eq_getElem?_getD, hvi]; rfl]; exact T₃
end
end Mine
end

section
open PySem PySem.W PySem.Calls PyProof.Rows Builtin Builtin.ObjectAttr
set_option maxRecDepth 100000
namespace Mine

def pushOne (σ : Nat → DS) (o : Nat) : Nat → DS := upd σ o ⟨(σ o).sh, (σ o).hd, (σ o).st ++ [(σ o).sh.length]⟩
def pushAll (fr : List Nat) (σ : Nat → DS) : Nat → DS := fr.foldl pushOne σ
theorem pushOne_keep (σ : Nat → DS) (o k : Nat) : (pushOne σ o k).sh = (σ k).sh ∧ (pushOne σ o k).hd = (σ k).hd ∧ (pushOne σ o k).st.length ≤ (σ k).st.length + 1 := by
  unfold pushOne
  by_cases e : k = o
  · subst e; rw [upd_same]; simp
  · rw [upd_other _ _ e]; simp
theorem pushAll_keep : ∀ (fr : List Nat) (σ : Nat → DS) (k : Nat), (pushAll fr σ k).sh = (σ k).sh ∧ (pushAll fr σ k).hd = (σ k).hd ∧ (pushAll fr σ k).st.length ≤ (σ k).st.length + fr.length
  | [], σ, k => ⟨rfl, rfl, by simp [pushAll]⟩
  | o :: r, σ, k => by
    obtain ⟨a, b, c⟩ := pushAll_keep r (pushOne σ o) k
    obtain ⟨a', b', c'⟩ := pushOne_keep σ o k
    exact ⟨a.trans a', b.trans b', by show (pushAll r (pushOne σ o) k).st.length ≤ _; simp; omega⟩

theorem b_dict' (P : Params) : nsIn (KK P) mainGlobals (Str.ofString "dict") = some none := by kernel_rfl
theorem bb_dict' : bootBuiltins (Str.ofString "dict") = some (.type "dict") := by kernel_rfl
abbrev sOther : Str := Str.ofString "other"
abbrev sHanded : Str := Str.ofString "handed"
abbrev sAnswer : Str := Str.ofString "answer"
abbrev sMade : Str := Str.ofString "made"

section
variable {prog : Program} {w : World} {A : Around} {E : Value → Shared → Prop} {h : Heap} {g : Array GenState} {d : Drawn} {t : Nat} {os : OsState} {b : Heap} {fs : Nat → DA} {σ : Nat → DS} {env : Env} {m : Str → Option Value} {cv : Nat → Option Value} {L : Addr}

theorem push_at {k : Nat} {Q : Value → Shared → Prop} (S : Sys w b) (l : Le b h) (Rm : Room A 1) (D : Doms h b fs σ) (hk : k < 4) (hs : (σ k).small)
    (kk : ∀ h' tk, Doms h' b fs (pushOne σ k) → Ext (allF fs) h h' → Q .none ⟨h', g, d, tk, os⟩) :
    wpAny (model prog w) A (call (.ref 80) [.ref (fs k).a]) Q E ⟨h, g, d, t, os⟩ := by
  obtain ⟨its, hh, ss, Dk, i1, i2, i3⟩ := D.at_ k hk
  obtain ⟨s1, s2, s3⟩ := hs
  have l1 := i1.length
  have l3 := i3.length
  rw [List.length_map] at l3
  refine push_spec S l Rm Dk (by omega) (by omega) fun h' tk u D' x => ?_
  refine kk h' tk (D.set hk (x.mono (by simp [DA.foot])) ⟨its, hh, _, D', i1, i2, ?_⟩) (x.mono ?_)
  · rw [List.map_append]
    rw [l1]
    exact IntsAre.append i3 (.cons _ u .nil)
  · intro p hp
    exact foot_all hk p (by simp at hp; subst hp; simp [DA.foot])

/-- list(e) of a list of ints, by the form -/
theorem lcopy {e : Expr} {p pos : Pos} {s : Shared} {Q : Value → Shared → Prop} (S : Sys w b) (l : Le b s.heap)
    (k : wpAny (model prog w) A (eval e env) (fun v s₁ => ∃ h g d t os a ns, s₁ = ⟨h, g, d, t, os⟩ ∧ v = .ref a ∧ IL h a ns ∧ ns.length ≤ 1000 ∧ ∀ h' r, Le h h' → h.get? r = none → IL h' r ns → Q (.ref r) ⟨h', g, d, t, os⟩) E s)
    (hk : env.scope.kind = .function := by rfl) (hx : env.kindOf (Str.ofString "list") = some .globalImplicit := by rfl) (hg : env.globals = mainGlobals := by rfl) (hbi : env.builtins = builtinsNs := by rfl)
    (hb : backTo pos (starEach [e] env) = [(false, eval e env)] := by rfl) :
    wpAny (model prog w) A (eval (.Call (.Name (Str.ofString "list") p) [e] [] pos) env) Q E s := by
  refine ncall (bname S l (b_list _) bb_list (by decide) ?_ hk hx hg hbi)
  rw [hb]
  refine cwt1 (wpAny_mono k (fun v s₁ k₁ => ?_) fun _ _ e => e)
  obtain ⟨h, g, d, t, os, a, ns, rfl, rfl, ⟨its, n, ho, hi⟩, hz, kk⟩ := k₁
  have hl := hi.length
  refine call_list_seq a (.inl rfl) ho rfl rfl (fun h' c' hk hD => kk h' _ hk (fresh_size h) ⟨its, c', hD, hi⟩) (sz_small (by show its.length ≤ 1000; omega))

/-- for other in free: domains[other].pushState() -/
theorem turn_push {da fa : Addr} {dk : List (Int × Value)} {free : List Nat} {Q : Flow → Shared → Prop} (S : Sys w b) (l : Le b h) (Rm : Room A 3) (hLb : ∀ p ∈ frameW L, b.get? p = none) (F : LF h L m cv) (D : Doms h b fs σ) (hLF : ∀ p ∈ allF fs, p ∉ frameW L)
    (hdd : ID prog w b da dk) (hdv : ∀ k, k < 4 → valueAt dk ((k : Nat) : Int) = some (.ref (fs k).a)) (hda : cv 5 = some (.ref da)) (hfa : m sFree = some (.ref fa)) (hI : IL h fa (free.map Int.ofNat)) (hf4 : ∀ k ∈ free, k < 4) (hfz : free.length ≤ 4)
    (hfL : fa ∉ frameW L) (hfF : fa ∉ allF fs) (hσ : ∀ k, k < 4 → (σ k).sh.length ≤ 50 ∧ (σ k).hd.length ≤ 50 ∧ (σ k).st.length ≤ 90)
    (kk : ∀ h' tk m', (∀ y, y ≠ sOther → m' y = m y) → LF h' L m' cv → Doms h' b fs (pushAll free σ) → Ext (L :: allF fs) h h' →
      wpAny (model prog w) A (execs ((turnB w.params).drop 4) (lawE w.params L)) Q E ⟨h', g, d, tk, os⟩) :
    wpAny (model prog w) A (execs ((turnB w.params).drop 3) (lawE w.params L)) Q E ⟨h, g, d, t, os⟩ := by
  obtain ⟨its, n0, ho, hi⟩ := hI
  have hil := hi.length
  rw [List.length_map] at hil
  have hLF' : L ∉ allF fs := fun hm => hLF L hm (L_frame L)
  have hX0 : ∀ p ∈ L :: allF fs, b.get? p = none := fun p hp => by
    rcases List.mem_cons.mp hp with e | hp
    · exact e ▸ hLb L (L_frame L)
    · exact D.offA p hp
  have Xl : ∀ p ∈ L :: allF fs, ∃ o, h.get? p = some o := fun p hp => by
    rcases List.mem_cons.mp hp with e | hp
    · exact e ▸ F.live L (L_frame L)
    · exact D.live p hp
  have faX : fa ∉ L :: allF fs := fun hm => by
    rcases List.mem_cons.mp hm with e | hm
    · exact hfL (e ▸ L_frame L)
    · exact hfF hm
  refine wpAny_execs_cons (for_list Rm.hh (ln (v := .ref fa) F.ns hfa ⟨h, g, d, _, os, fa, its, n0, L :: allF fs, rfl, rfl, ho, faX, Xl, fun I hI => ⟨fun i h₁ => ∃ m₁, LF h₁ L m₁ cv ∧ (∀ y, y ≠ sOther → m₁ y = m y) ∧ Doms h₁ b fs (pushAll (free.take i) σ) ∧ Ext (L :: allF fs) h h₁, fun h' l' => ?_, ?_, ?_, ?_⟩⟩))
  · exact ⟨m, F.le l', fun _ _ => rfl, by simpa [pushAll] using D.le l', Ext.of_le l'⟩
  · rintro i ha' hb' ⟨m₁, F₁, q₁, D₁, x₁⟩ x
    have hIX : ∀ p ∈ L :: allF fs, p ≠ I := fun p hp e => not_some hI (e ▸ Xl p hp)
    refine ⟨m₁, F₁.ext x (fun p hp hm => by rw [List.mem_singleton.mp hm] at hp; exact not_some hI (F.live I hp)), q₁, D₁.ext x (fun p hp => by simpa using hIX p (List.mem_cons_of_mem _ hp)), x₁.trans x (fun p hp => .inr ?_)⟩
    rw [List.mem_singleton.mp hp]; exact hI
  · rintro i v h₁ tk E' hv ⟨m₁, F₁, q₁, D₁, x₁⟩
    obtain ⟨vi, u, rfl, hvi⟩ := hi.at i v hv
    rw [List.getElem?_map] at hvi
    obtain ⟨k, hk, rfl⟩ := Option.map_eq_some_iff.mp hvi
    have hk4 := hf4 k (List.mem_of_getElem? hk)
    have htake : free.take (i + 1) = free.take i ++ [k] := by rw [List.take_add_one, hk]; rfl
    have hilt : i < free.length := (List.getElem?_eq_some_iff.mp hk).1
    have hp : pushAll (free.take (i + 1)) σ = pushOne (pushAll (free.take i) σ) k := by
      rw [htake]; unfold pushAll; rw [List.foldl_append]; rfl
    have l₁ : Le b h₁ := x₁.base l hX0
    refine sL F₁ fun h₂ u₂ F₂ x₂ => ?_
    have l₂ : Le b h₂ := x₂.base l₁ (by simpa using hLb L (L_frame L))
    have D₂ := D₁.ext x₂ (fun p hp => by simpa using fun e : p = L => hLF' (e ▸ hp))
    refine wpAny_execs_cons (wpAny_Expr_any (mcall (dsub (lC 5 F₂ hda (ln (v := .int ((k : Nat) : Int) u) F₂.ns (by simp [updM]) ⟨h₂, g, d, _, os, da, dk, k, u, _, rfl, rfl, rfl, hdd.le l₂, hdv k hk4, fun tk₄ => fun pl => ?_⟩)))))
    obtain ⟨its3, hh3, ss3, Dk3, _⟩ := D₂.at_ k hk4
    refine dom_meth S l₂ Dk3 (f_push _) (t_80 _) (by decide) (by decide) ?_
    refine cwg rfl (ev0 ⟨kp_fn S l₂ rfl, ?_⟩)
    obtain ⟨p1, p2, p3⟩ := pushAll_keep (free.take i) σ k
    obtain ⟨z1, z2, z3⟩ := hσ k hk4
    have hti : (free.take i).length ≤ 4 := by simp; omega
    refine push_at S l₂ ⟨Rm.hh, by have := Rm.hd; omega, by have := Rm.hu; omega⟩ D₂ hk4 ⟨by rw [p1]; omega, by rw [p2]; omega, by omega⟩ fun h₃ t₃ D₃ x₃ => ?_
    refine wpAny_execs_nil ⟨h₃, t₃, rfl, (x₂.mono (by simp)).trans x₃ (fun p hp => .inl (List.mem_cons_of_mem _ hp)), _, F₂.ext x₃ (fun p hp hm => hLF p hm hp), fun y hy => ?_, by rw [hp]; exact D₃, (x₁.trans x₂ (by simp)).trans x₃ (fun p hp => .inl (List.mem_cons_of_mem _ hp))⟩
    rw [updM, if_neg hy]; exact q₁ y hy
  · rintro h₁ tk ⟨m₁, F₁, q₁, D₁, x₁⟩
    rw [hil, List.take_length] at D₁
    exact kk h₁ tk m₁ q₁ F₁ D₁ x₁
end
end Mine
end

section
open PySem PySem.W PySem.Calls PyProof.Rows Builtin Builtin.ObjectAttr
set_option maxRecDepth 100000
namespace Mine
section
variable {prog : Program} {w : World} {A : Around} {E : Value → Shared → Prop} {h : Heap} {g : Array GenState} {d : Drawn} {t : Nat} {os : OsState} {b : Heap} {fs : Nat → DA} {σ : Nat → DS} {env : Env} {m : Str → Option Value} {cv : Nat → Option Value} {L : Addr}

theorem con_inst {b : Heap} {a ms : Addr} {kind n : Int} (C : Con b a kind n ms) : ∃ Cl dx, b.get? a = some (instObj Cl dx) := by
  unfold Con at C
  split at C
  · obtain ⟨dx, od, e, _⟩ := C; exact ⟨_, dx, e⟩
  split at C
  · obtain ⟨dx, od, e, _⟩ := C; exact ⟨_, dx, e⟩
  split at C
  · obtain ⟨lm, ⟨dx, od, e, _⟩, _⟩ := C; exact ⟨_, dx, e⟩
  split at C
  · obtain ⟨dx, od, e, _⟩ := C; exact ⟨_, dx, e⟩
  · obtain ⟨dx, od, e, _⟩ := C; exact ⟨_, dx, e⟩

set_option maxHeartbeats 1000000 in
/-- handed = dict(told); answer = made(list(row), domains, handed, True) -/
theorem turn_answer {da ra ca td msa : Addr} {kind n : Int} {ms : List Int} {row : List Nat} {dk kvs : List (Int × Value)} {τ : Nat → Option Int} {Q : Flow → Shared → Prop} (S : Sys w b) (l : Le b h) (Rm : Room A 3) (hLb : ∀ p ∈ frameW L, b.get? p = none) (F : LF h L m cv) (D : Doms h b fs σ) (hLF : ∀ p ∈ allF fs, p ∉ frameW L)
    (hdd : ID prog w b da dk) (hdv : ∀ k, k < 4 → valueAt dk ((k : Nat) : Int) = some (.ref (fs k).a)) (hda : cv 5 = some (.ref da)) (hra : cv 4 = some (.ref ra)) (hrow : IL b ra (row.map Int.ofNat)) (hr4 : ∀ k ∈ row, k < 4) (hrn : row.Nodup) (hrz : row.length ≤ 4)
    (hca : m sMade = some (.ref ca)) (hC : Con b ca kind n msa) (hms : IL b msa ms)
    (ht : cv 6 = some (.ref td)) (T : ID prog w h td kvs) (hT : Tells kvs τ) (hkz : kvs.length ≤ 100) (htb : b.get? td = none) (htL : td ∉ frameW L) (htF : td ∉ allF fs) (hok : ∀ k ∈ row, (σ k).ok)
    (kk : ∀ h' tk m' hd, (∀ y, y ≠ sHanded → y ≠ sAnswer → m' y = m y) → m' sHanded = some (.ref hd) → m' sAnswer = some (.bool (callP kind n ms row τ σ).1) → LF h' L m' cv → h.get? hd = none → ID prog w h' hd kvs → ID prog w h' td kvs →
      Doms h' b fs (callP kind n ms row τ σ).2 → Ext (L :: allF fs) h h' →
      wpAny (model prog w) A (execs ((turnB w.params).drop 6) (lawE w.params L)) Q E ⟨h', g, d, tk, os⟩) :
    wpAny (model prog w) A (execs ((turnB w.params).drop 4) (lawE w.params L)) Q E ⟨h, g, d, t, os⟩ := by
  have hLF' : L ∉ allF fs := fun hm => hLF L hm (L_frame L)
  have htL' : td ≠ L := fun e => htL (e ▸ L_frame L)
  refine wpAny_execs_cons (wpAny_Assign_Name (ncall (bname S l (b_dict' _) bb_dict' (by decide) (cwt1 (lC 6 F ht (dcopy S l T (by omega) fun h₁ hd I₁ f₁ l₁ => ?_))))))
  refine sL (F.le l₁) fun h₂ u₂ F₂ x₂ => ?_
  have lb₁ : Le b h₁ := l.trans l₁
  have lb₂ : Le b h₂ := x₂.base lb₁ (by simpa using hLb L (L_frame L))
  have hdL : hd ≠ L := fun e => not_some f₁ (e ▸ F.live L (L_frame L))
  have I₂ := I₁.ext x₂ (by simpa using hdL)
  have T₂ := (T.le l₁).ext x₂ (by simpa using htL')
  have D₂ := (D.le l₁).ext x₂ (fun p hp => by simpa using fun e : p = L => hLF' (e ▸ hp))
  have x02 : Ext [L] h h₂ := (Ext.of_le (W := [L]) l₁).trans x₂ (by simp)
  generalize hmm : updM m sHanded (.ref hd) = m₂ at *
  have q₂ : ∀ y, y ≠ sHanded → m₂ y = m y := fun y hy => by subst hmm; rw [updM, if_neg hy]
  have mh : m₂ sHanded = some (.ref hd) := by subst hmm; simp [updM]
  obtain ⟨Cl, dx, hin⟩ := con_inst hC
  refine wpAny_execs_cons (wpAny_Assign_Name (ncall (ln (v := .ref ca) F₂.ns (by rw [q₂ _ (by decide)]; exact hca) ?_)))
  refine cwg rfl (ev4 (lcopy S lb₂ (lC 4 F₂ hra ⟨h₂, g, d, _, os, ra, _, rfl, rfl, hrow.le lb₂, by simp; omega, fun h₃ r l₃ f₃ hr => ?_⟩)))
  have lb₃ : Le b h₃ := lb₂.trans l₃
  have F₃ := F₂.le l₃
  refine lC 5 F₃ hda (ln (v := .ref hd) F₃.ns mh (cb (k := 0) (pos := default) ?_))
  refine ⟨kp_inst (lb₃ _ _ hin), ?_⟩
  -- the base of the call
  have off : ∀ p ∈ frameW L ++ allF fs ++ [td], b.get? p = none := fun p hp => by
    rcases List.mem_append.mp hp with hp | hp
    · rcases List.mem_append.mp hp with hp | hp
      · exact hLb p hp
      · exact D.offA p hp
    · rw [List.mem_singleton.mp hp]; exact htb
  have lB : Le b (mask h₃ (frameW L ++ allF fs ++ [td])) := le_mask lb₃ off
  have lm := mask_le h₃ (frameW L ++ allF fs ++ [td])
  have mem : ∀ {p : Addr}, h.get? p = none → p ∉ frameW L ++ allF fs ++ [td] := fun hn hm => not_some hn (by
    rcases List.mem_append.mp hm with hm | hm
    · rcases List.mem_append.mp hm with hm | hm
      · exact F.live _ hm
      · exact D.live _ hm
    · rw [List.mem_singleton.mp hm]; obtain ⟨o, ho, _⟩ := T.live; exact ⟨o, ho⟩)
  have hrh : h.get? r = none := by
    cases e : h.get? r with
    | none => rfl
    | some o =>
      by_cases hrL : r = L
      · subst hrL; exact absurd (F₂.live _ (L_frame _)) (not_some f₃)
      · exact absurd ⟨_, x02 _ _ (by simpa using hrL) e⟩ (not_some f₃)
  have idm : ∀ {p : Addr} {kv : List (Int × Value)}, p ∉ frameW L ++ allF fs ++ [td] → ID prog w h₃ p kv → ID prog w (mask h₃ (frameW L ++ allF fs ++ [td])) p kv := fun hp I => I.ext (W := frameW L ++ allF fs ++ [td]) (fun a o ha e => by rw [mask_out ha]; exact e) hp
  generalize hB : mask h₃ (frameW L ++ allF fs ++ [td]) = B at *
  have D₃ : Doms h₃ B fs σ := (D₂.le l₃).rebase fun p hp => by
    rw [← hB]; exact mask_in (List.mem_append_left _ (List.mem_append_right _ hp))
  have H : Handed prog w B fs r da hd row kvs := ⟨by
    obtain ⟨rits, rn, e, hi⟩ := hr
    exact ⟨rits, rn, by rw [← hB, mask_out (mem hrh)]; exact e, hi⟩, hr4, hrn, hrz, ⟨dk, hdd.le lB, hdv⟩, idm (mem f₁) (I₂.le l₃)⟩
  refine con_call (S.keeps lB) lm ⟨Rm.hh, by have := Rm.hd; omega, by have := Rm.hu; omega⟩ D₃ H hT hok (hC.le lB) (hms.le lB) fun h₄ t₄ D₄ x₄ => ?_
  have F₄ := F₃.ext x₄ (fun p hp hm => hLF p hm hp)
  refine sL F₄ fun h₅ u₅ F₅ x₅ => ?_
  have hdF : hd ∉ allF fs := fun hm => mem f₁ (List.mem_append_left _ (List.mem_append_right _ hm))
  have x35 : Ext (L :: allF fs) h₃ h₅ := (x₄.mono (fun p hp => List.mem_cons_of_mem _ hp)).trans x₅ (by simp)
  have D₅ : Doms h₅ b fs (callP kind n ms row τ σ).2 := (D₄.ext x₅ (fun p hp => by simpa using fun e : p = L => hLF' (e ▸ hp))).rebase fun p hp => D.offA p hp
  refine kk h₅ u₅ _ hd (fun y h1 h2 => by rw [updM, if_neg h2]; exact q₂ y h1) (by rw [updM, if_neg (by decide)]; exact mh) (by simp [updM]) F₅ f₁ ((I₂.le l₃).ext x35 ?_) ((T₂.le l₃).ext x35 ?_) D₅ ?_
  · simp [hdL, hdF]
  · simp [htL', htF]
  · exact ((x02.mono (V := L :: allF fs) (by simp)).trans (Ext.of_le l₃) (fun p hp => .inl hp)).trans x35 (fun p hp => .inl hp)
end
end Mine
end

section
open PySem PySem.W PySem.Calls PyProof.Rows Builtin Builtin.ObjectAttr
set_option maxRecDepth 100000
namespace Mine
theorem g_sound (P : Params) : nsIn (KK P) mainGlobals (Str.ofString "_law_sound") = some (some (.ref 288)) := by kernel_rfl
abbrev sFits : Str := Str.ofString "fits"
abbrev sName : Str := Str.ofString "name"

/-- the told value of a name, as a value -/
def tv (kvs : List (Int × Value)) (v : Value) : Value := match v with | .int i _ => (valueAt kvs i).getD .none | _ => .none
theorem opts_of {kvs : List (Int × Value)} {τ : Nat → Option Int} (hT : Tells kvs τ) {f : Value → Value} : ∀ {vs ys : List Value} {row : List Nat}, IntsAre vs (row.map Int.ofNat) → (∀ k ∈ row, k < 4) → Paired (fun v y => y = tv kvs v) vs ys → Opts ys (row.map τ)
  | _, _, [], .nil, _, .nil => .nil
  | _, _, k :: r, .cons _ t hI, hr, .cons hy hP => by
    have ih := opts_of hT (f := f) hI (fun k hk => hr k (List.mem_cons_of_mem _ hk)) hP
    have := hT k (hr k List.mem_cons_self)
    subst hy
    unfold tv
    dsimp only [List.map_cons]
    cases hq : τ k with
    | none =>
      rw [hq] at this
      rw [show valueAt kvs (Int.ofNat k) = none from this]
      rw [show List.map τ (k :: r) = none :: List.map τ r by rw [List.map_cons, hq]]; exact .none ih
    | some v =>
      rw [hq] at this
      obtain ⟨u, e⟩ := this
      rw [show valueAt kvs (Int.ofNat k) = some (.int v u) from e]
      rw [show List.map τ (k :: r) = some v :: List.map τ r by rw [List.map_cons, hq]]; exact .some v u ih

section
variable {prog : Program} {w : World} {A : Around} {E : Value → Shared → Prop} {h : Heap} {g : Array GenState} {d : Drawn} {t : Nat} {os : OsState} {b : Heap} {fs : Nat → DA} {σ : Nat → DS} {env : Env} {m : Str → Option Value} {cv : Nat → Option Value} {L : Addr}

theorem vals_eq {vs its : List Value} (hlen : vs.length = its.length) (hP : ∀ (i : Nat) (v : Value), vs[i]? = some v → its[i]? = some v) : vs = its := by
  apply List.ext_getElem?
  intro i
  by_cases hi : i < its.length
  · have : vs[i]? = some vs[i] := by rw [List.getElem?_eq_getElem]
    rw [this, hP i _ this]
  · rw [List.getElem?_eq_none (by omega), List.getElem?_eq_none (by omega)]

set_option maxHeartbeats 1000000 in
/-- fits = _law_sound(kind, n, lists[0], [told.get(name) for name in row]) -/
theorem turn_fits {la ra td : Addr} {kind n : Int} {uk un : Tok} {ls : Nat → List Int} {row : List Nat} {kvs : List (Int × Value)} {τ : Nat → Option Int} {Q : Flow → Shared → Prop} (S : Sys w b) (l : Le b h) (Rm : Room A 3) (F : LF h L m cv)
    (hls : LL b la ls) (hla : cv 1 = some (.ref la)) (hki : cv 2 = some (.int kind uk)) (hn : cv 3 = some (.int n un)) (hra : cv 4 = some (.ref ra)) (hrow : IL b ra (row.map Int.ofNat)) (hr4 : ∀ k ∈ row, k < 4) (hrz : row.length ≤ 4)
    (ht : cv 6 = some (.ref td)) (T : ID prog w h td kvs) (hT : Tells kvs τ)
    (kk : ∀ h' tk, LF h' L (updM m sFits (.bool (soundP kind n (ls 0) (row.map τ)))) cv → Ext [L] h h' → wpAny (model prog w) A (execs ((turnB w.params).drop 7) (lawE w.params L)) Q E ⟨h', g, d, tk, os⟩) :
    wpAny (model prog w) A (execs ((turnB w.params).drop 6) (lawE w.params L)) Q E ⟨h, g, d, t, os⟩ := by
  obtain ⟨rits, rn, hr, hri⟩ := hrow
  have hrl := hri.length
  rw [List.length_map] at hrl
  refine wpAny_execs_cons (wpAny_Assign_Name (ncall (gname S l (g_sound _) (cwg rfl (ev4 (lC 2 F hki (lC 3 F hn (llsub (lC 1 F hla (ci (k := 0) (pos := default) fun u0 t0 => ⟨h, g, d, _, os, la, ls, 0, u0, rfl, rfl, rfl, hls.le l, by decide, fun p hp => ?_⟩))))))))))
  refine comp_eval .loc (fun v y _ => y = tv kvs v) (fun _ => true) rfl ⟨rfl, fun _ => rfl⟩ (by decide) ?_
  refine lC 4 F hra (it_list Rm.hh (l _ _ hr) fun h₁ it hit => ?_)
  refine ⟨h₁, g, d, _, os, h, rits.length, _, rfl, hit, by omega, ?_, ?_⟩
  · rintro i v C h₃ tk hi hv l₃ ⟨m₃, hn₃, hm₃⟩ E''
    refine wpAny_pure ⟨rfl, h₃, _, rfl, Le.refl _, fun _ => ?_⟩
    obtain ⟨vi, u, rfl, hvi⟩ := hri.at i v hv
    refine mcall (lC 6 (F.le l₃) ht fun pl => ?_)
    refine dmeth_get (T.le l₃) ?_
    refine cw1 (ln (v := .int vi u) hn₃ hm₃ ?_)
    exact dget1 (T.le l₃) fun tk' => ⟨h₃, _, rfl, Le.refl _, fun _ _ _ => rfl⟩
  · intro D h₂ tk ys vs n' hlen hP hF l₂ hD hDg
    have hvs := vals_eq hlen hP
    subst hvs
    rw [show vs.filter (fun _ => true) = vs from List.filter_eq_self.mpr fun _ _ => rfl] at hF
    have hO := opts_of hT (f := id) hri hr4 hF
    refine ⟨kp_fn S (l.trans l₂) rfl, ?_⟩
    refine sound_spec S (l.trans l₂) ⟨Rm.hh, by have := Rm.hd; omega, by have := Rm.hu; omega⟩ (hp.le l₂) ⟨ys, n', hDg, hO⟩ (by simpa using hrz) fun h₃ t₃ l₃ => ?_
    refine sL ((F.le l₂).le l₃) fun h₄ u₄ F₄ x₄ => ?_
    exact kk h₄ u₄ F₄ ((Ext.of_le (W := [L]) (l₂.trans l₃)).trans x₄ (by simp))
end
end Mine
end

section
open PySem PySem.W PySem.Calls PyProof.Rows Builtin Builtin.ObjectAttr
set_option maxRecDepth 100000
namespace Mine

/-- a line with a try for o -/
def lineP (row : List Nat) (τ : Nat → Option Int) (o : Nat) (v : Int) : List (Option Int) := row.map fun name => if name = o then some v else τ name
/-- what may stay -/
def keepP (kind n : Int) (ms : List Int) (row : List Nat) (τ : Nat → Option Int) (o : Nat) (v : Int) : Bool := (τ o).isSome || !row.contains o || soundP kind n ms (lineP row τ o v)
def leftP (kind n : Int) (ms : List Int) (row : List Nat) (τ : Nat → Option Int) (due : Nat → List Int) (o : Nat) : List Int := (due o).filter (keepP kind n ms row τ o)
theorem contains_map {row : List Nat} {o : Nat} : (row.map Int.ofNat).contains ((o : Nat) : Int) = row.contains o := by
  rw [Bool.eq_iff_iff]; simp
  exact ⟨fun ⟨a, h, e⟩ => (Int.ofNat.inj e : a = o) ▸ h, fun h => ⟨o, h, rfl⟩⟩
/-- the value for a name when o is tried with v -/
def tv2 (kvs : List (Int × Value)) (o : Nat) (w' : Value) (v : Value) : Value := match v with | .int i _ => if i = ((o : Nat) : Int) then w' else (valueAt kvs i).getD .none | _ => .none
theorem opts_of2 {kvs : List (Int × Value)} {τ : Nat → Option Int} (hT : Tells kvs τ) {o : Nat} {vi : Int} {uv : Tok} : ∀ {vs ys : List Value} {row : List Nat}, IntsAre vs (row.map Int.ofNat) → (∀ k ∈ row, k < 4) → Paired (fun v y => y = tv2 kvs o (.int vi uv) v) vs ys → Opts ys (lineP row τ o vi)
  | _, _, [], .nil, _, .nil => .nil
  | _, _, k :: r, .cons _ t hI, hr, .cons hy hP => by
    have ih := opts_of2 hT (o := o) (vi := vi) (uv := uv) hI (fun k hk => hr k (List.mem_cons_of_mem _ hk)) hP
    have := hT k (hr k List.mem_cons_self)
    subst hy
    unfold tv2
    show Opts _ ((if k = o then some vi else τ k) :: lineP r τ o vi)
    dsimp only
    by_cases hk : k = o
    · subst hk
      rw [if_pos rfl, if_pos (show Int.ofNat k = ((k : Nat) : Int) from rfl)]
      exact .some vi uv ih
    · rw [if_neg hk, if_neg (show ¬ Int.ofNat k = ((o : Nat) : Int) from fun e => hk (Int.ofNat.inj e))]
      cases hq : τ k with
      | none =>
        rw [hq] at this
        rw [show valueAt kvs (Int.ofNat k) = none from this]
        exact .none ih
      | some v =>
        rw [hq] at this
        obtain ⟨u, e⟩ := this
        rw [show valueAt kvs (Int.ofNat k) = some (.int v u) from e]
        exact .some v u ih

theorem four_of {G : Nat → Value → Prop} {vs ys : List Value} (hlen : vs.length = 4) (hP : ∀ (i : Nat) (v : Value), vs[i]? = some v → ∃ u, v = .int (i : Int) u)
    (hF : Paired (fun v y => match v with | .int i _ => G i.toNat y | _ => False) (vs.filter fun _ => true) ys) : ys.length = 4 ∧ ∀ k, k < 4 → ∃ y, ys[k]? = some y ∧ G k y := by
  rw [show vs.filter (fun _ => true) = vs from List.filter_eq_self.mpr fun _ _ => rfl] at hF
  match vs, hlen with
  | [a, b, c, d], _ =>
    obtain ⟨u0, rfl⟩ := hP 0 a rfl
    obtain ⟨u1, rfl⟩ := hP 1 b rfl
    obtain ⟨u2, rfl⟩ := hP 2 c rfl
    obtain ⟨u3, rfl⟩ := hP 3 d rfl
    cases hF with
    | cons g0 hF =>
      cases hF with
      | cons g1 hF =>
        cases hF with
        | cons g2 hF =>
          cases hF with
          | cons g3 hF =>
            cases hF
            refine ⟨rfl, fun k hk => ?_⟩
            match k, hk with
            | 0, _ => exact ⟨_, rfl, g0⟩
            | 1, _ => exact ⟨_, rfl, g1⟩
            | 2, _ => exact ⟨_, rfl, g2⟩
            | 3, _ => exact ⟨_, rfl, g3⟩
theorem cell_not_list {h : Heap} {c p : Addr} {v : Option Value} {ns : List Int} (hc : h.IsCell c v) (hp : IL h p ns) : p ≠ c := fun e => by
  obtain ⟨o, ho, hd⟩ := hc
  obtain ⟨its, n, hl, _⟩ := hp
  rw [e, ho] at hl
  cases hl
  cases hd

section
variable {prog : Program} {w : World} {A : Around} {E : Value → Shared → Prop} {h : Heap} {g : Array GenState} {d : Drawn} {t : Nat} {os : OsState} {b : Heap} {fs : Nat → DA} {σ : Nat → DS} {env : Env} {m : Str → Option Value} {cv : Nat → Option Value} {L : Addr}

set_option maxHeartbeats 2000000 in
/-- left = [[v for v in due[o] if ..] for o in range(4)] -/
theorem turn_left {la ra td du : Addr} {kind n : Int} {uk un : Tok} {ls due : Nat → List Int} {row : List Nat} {kvs : List (Int × Value)} {τ : Nat → Option Int} {Q : Flow → Shared → Prop} (S : Sys w b) (l : Le b h) (Rm : Room A 3) (F : LF h L m cv)
    (hls : LL b la ls) (hla : cv 1 = some (.ref la)) (hki : cv 2 = some (.int kind uk)) (hn : cv 3 = some (.int n un)) (hra : cv 4 = some (.ref ra)) (hrow : IL b ra (row.map Int.ofNat)) (hr4 : ∀ k ∈ row, k < 4) (hrz : row.length ≤ 4)
    (ht : cv 6 = some (.ref td)) (hdu : cv 7 = some (.ref du)) (hD : LL b du due) (hdz : ∀ k, k < 4 → (due k).length ≤ 50) (T : ID prog w h td kvs) (hT : Tells kvs τ)
    (kk : ∀ h' tk lf, LL h' lf (leftP kind n (ls 0) row τ due) → (∀ W, (∀ p ∈ W, ∃ o, h.get? p = some o) → ∀ h'', Ext W h' h'' → LL (mask h'' W) lf (leftP kind n (ls 0) row τ due)) → h.get? lf = none → LF h' L m (upd cv 8 (some (.ref lf))) → Ext [L + 9] h h' → wpAny (model prog w) A (execs ((turnB w.params).drop 8) (lawE w.params L)) Q E ⟨h', g, d, tk, os⟩) :
    wpAny (model prog w) A (execs ((turnB w.params).drop 7) (lawE w.params L)) Q E ⟨h, g, d, t, os⟩ := by
  obtain ⟨rits, rn, hr, hri⟩ := id hrow
  have hrl := hri.length
  rw [List.length_map] at hrl
  refine wpAny_execs_cons (wpAny_Assign_Name ?_)
  refine comp_eval .cel (fun v y h' => match v with | .int i _ => ∃ p, y = .ref p ∧ IL h' p (leftP kind n (ls 0) row τ due i.toNat) ∧ h.get? p = none | _ => False) (fun _ => true) rfl ⟨rfl, fun _ => ⟨rfl, rfl⟩⟩ (by decide) ?_
  refine it_range4 S l Rm.hh fun h₁ it t₁ hit => ?_
  refine ⟨h₁, g, d, _, os, h, 4, _, rfl, hit, by decide, ?_, ?_⟩
  · rintro o v C1 ho tk ho4 ⟨uo, rfl⟩ lo bo E''
    refine wpAny_pure ⟨rfl, ho, _, rfl, Le.refl _, fun _ => ?_⟩
    have bo : ho.IsCell (C1 + 1) (some (.int ((o : Nat) : Int) uo)) := bo
    have lbo : Le b ho := l.trans lo
    refine comp_eval .cel (fun v y _ => y = v) (fun v => match v with | .int i _ => keepP kind n (ls 0) row τ o i | _ => false) rfl ⟨rfl, fun _ => ⟨rfl, rfl⟩⟩ (by decide) ?_
    refine llsub (lC 7 (F.le lo) hdu (lcell rfl bo ⟨ho, g, d, _, os, du, due, o, uo, rfl, rfl, rfl, hD.le lbo, ho4, fun p hp => ?_⟩))
    obtain ⟨dits, dn, hde, hdi⟩ := hp
    have hdl := hdi.length
    have := hdz o ho4
    refine it_list Rm.hh hde fun h₂ it₂ hit₂ => ?_
    refine ⟨h₂, g, d, _, os, ho, dits.length, _, rfl, hit₂, by omega, ?_, ?_⟩
    · rintro i v C2 h₃ tk₃ hi hv l₃ bv E₃
      obtain ⟨vi, uv, rfl, hvi⟩ := hdi.at i v hv
      have bv : h₃.IsCell (C2 + 1) (some (.int vi uv)) := bv
      have bo₃ : h₃.IsCell (C1 + 1) (some (.int ((o : Nat) : Int) uo)) := bo.keeps l₃
      have lh₃ : Le h h₃ := lo.trans l₃
      have lb₃ : Le b h₃ := l.trans lh₃
      refine wpAny_tests_one (isTrue_or (wpAny_isTrue_Compare1 (lcell rfl bo₃ (lC 6 (F.le lh₃) ht (din (T.le lh₃) fun tk₄ => trb ?_))) rfl))
      rw [hT.some? ho4]
      by_cases h1 : (τ o).isSome = true
      · rw [if_pos h1]
        refine ⟨by simp [keepP, h1], h₃, _, rfl, Le.refl _, fun _ => ?_⟩
        exact lcell rfl bv ⟨h₃, _, rfl, Le.refl _, fun _ _ _ => rfl⟩
      rw [if_neg h1]
      refine isTrue_or (wpAny_isTrue_Compare1 (lcell rfl bo₃ (lC 4 (F.le lh₃) hra (lnin (hrow.le lb₃) (trb ?_)))) rfl)
      rw [contains_map]
      by_cases h2 : (!row.contains o) = true
      · rw [if_pos h2]
        refine ⟨by simp only [keepP]; rw [h2]; simp, h₃, _, rfl, Le.refl _, fun _ => ?_⟩
        exact lcell rfl bv ⟨h₃, _, rfl, Le.refl _, fun _ _ _ => rfl⟩
      rw [if_neg h2]
      refine isTrue_or (wpAny_isTrue_value (ncall (gname S lb₃ (g_sound _) (cwg rfl (ev4 (lC 2 (F.le lh₃) hki (lC 3 (F.le lh₃) hn (llsub (lC 1 (F.le lh₃) hla (ci (k := 0) (pos := default) fun u0 t0 => ⟨h₃, g, d, _, os, la, ls, 0, u0, rfl, rfl, rfl, hls.le lb₃, by decide, fun p hp => ?_⟩))))))))))
      refine comp_eval .loc (fun v y _ => y = tv2 kvs o (.int vi uv) v) (fun _ => true) rfl ⟨rfl, fun _ => rfl⟩ (by decide) ?_
      refine lC 4 (F.le lh₃) hra (it_list Rm.hh (lb₃ _ _ hr) fun h₄ it₄ hit₄ => ?_)
      refine ⟨h₄, g, d, _, os, h₃, rits.length, _, rfl, hit₄, by omega, ?_, ?_⟩
      · rintro j v' C3 h₅ tk₅ hj hv' l₅ ⟨m₅, hn₅, hm₅⟩ E₅
        refine wpAny_pure ⟨rfl, h₅, _, rfl, Le.refl _, fun _ => ?_⟩
        obtain ⟨ni, un', rfl, hni⟩ := hri.at j v' hv'
        refine wpAny_IfExp (wpAny_isTrue_Compare1 (ln (v := .int ni un') hn₅ hm₅ (lcell rfl (bo₃.keeps l₅) (eqi (trb ?_)))) rfl)
        by_cases he : ni = ((o : Nat) : Int)
        · rw [show (ni == ((o : Nat) : Int)) = true by simpa using he]
          exact lcell rfl (bv.keeps l₅) ⟨h₅, _, rfl, Le.refl _, fun _ _ _ => by simp [tv2, he]⟩
        · rw [show (ni == ((o : Nat) : Int)) = false by simpa using he]
          refine mcall (lC 6 (F.le (lh₃.trans l₅)) ht fun pl => ?_)
          refine dmeth_get (T.le (lh₃.trans l₅)) ?_
          refine cw1 (ln (v := .int ni un') hn₅ hm₅ ?_)
          exact dget1 (T.le (lh₃.trans l₅)) fun tk' => ⟨h₅, _, rfl, Le.refl _, fun _ _ _ => by simp [tv2, he]⟩
      · intro D h₅ tk₅ ys vs n' hlen hP hF l₅ hDn hDg
        have hvs := vals_eq hlen hP
        subst hvs
        rw [show vs.filter (fun _ => true) = vs from List.filter_eq_self.mpr fun _ _ => rfl] at hF
        have hO := opts_of2 hT hri hr4 hF
        refine ⟨kp_fn S (lb₃.trans l₅) rfl, ?_⟩
        refine sound_spec S (lb₃.trans l₅) ⟨Rm.hh, by have := Rm.hd; omega, by have := Rm.hu; omega⟩ (hp.le l₅) ⟨ys, n', hDg, hO⟩ (by simpa [lineP] using hrz) fun h₆ t₆ l₆ => trb ?_
        have ek : keepP kind n (ls 0) row τ o vi = soundP kind n (ls 0) (lineP row τ o vi) := by
          simp only [keepP]; rw [Bool.eq_false_iff.mpr h1, Bool.eq_false_iff.mpr h2]; simp
        by_cases h3 : soundP kind n (ls 0) (lineP row τ o vi) = true
        · rw [if_pos h3]
          refine ⟨(ek.trans h3).symm, h₆, _, rfl, l₅.trans l₆, fun _ => ?_⟩
          exact lcell rfl (bv.keeps (l₅.trans l₆)) ⟨h₆, _, rfl, Le.refl _, fun _ _ _ => rfl⟩
        · rw [if_neg h3]
          refine isTrue_or_nil ⟨(ek.trans (Bool.eq_false_iff.mpr h3)).symm, h₆, _, rfl, l₅.trans l₆, fun e => by cases e⟩
    · intro D h₃ tk₃ ys vs n' hlen hP hF l₃ hDn hDg
      have hvs := vals_eq hlen hP
      subst hvs
      have hys := paired_self hF
      subst hys
      refine ⟨h₃, _, rfl, l₃, fun h₄ l₄ k₄ => ⟨D, rfl, ⟨_, n', k₄ _ _ hDn hDg, ?_⟩, lo.fresh hDn⟩⟩
      exact ints_filter hdi
  · intro D h₂ tk ys vs n' hlen hP hF l₂ hDn hDg
    refine sC 8 (F.le l₂) fun h₃ F₃ x₃ => ?_
    have hDL : D ≠ L + 1 + 8 := fun e => not_some hDn (e ▸ F.live _ (c_frame L (by decide)))
    obtain ⟨y4, yk⟩ := four_of (G := fun k y => ∃ p, y = .ref p ∧ IL h₂ p (leftP kind n (ls 0) row τ due k) ∧ h.get? p = none) hlen hP hF
    have inn : ∀ k, k < 4 → ∃ p, ys[k]? = some (.ref p) ∧ IL h₃ p (leftP kind n (ls 0) row τ due k) ∧ h.get? p = none := fun k hk => by
      obtain ⟨y, hy, p, rfl, hp, hpf⟩ := yk k hk
      have hne := cell_not_list ((F.le l₂).cs 8 (by decide)) hp
      obtain ⟨its, n2, e, hi⟩ := hp
      exact ⟨p, hy, ⟨its, n2, x₃ _ _ (by simpa using hne) e, hi⟩, hpf⟩
    have e₃ := x₃ _ _ (by simpa using hDL) hDg
    refine kk h₃ _ D ⟨ys, n', e₃, y4, fun k hk => let ⟨p, hp, hI, _⟩ := inn k hk; ⟨p, hp, hI⟩⟩ (fun W hW h'' xW => ⟨ys, n', ?_, y4, fun k hk => ?_⟩) hDn F₃ ((Ext.of_le (W := [L + 9]) l₂).trans x₃ (by simp))
    · have : D ∉ W := fun hm => not_some hDn (hW D hm)
      rw [mask_out this]; exact xW _ _ this e₃
    · obtain ⟨p, hp, ⟨its, n2, e, hi⟩, hpf⟩ := inn k hk
      have : p ∉ W := fun hm => not_some hpf (hW p hm)
      exact ⟨p, hp, its, n2, by rw [mask_out this]; exact xW _ _ this e, hi⟩
end
end Mine
end

section
open PySem PySem.W PySem.Calls PyProof.Rows Builtin Builtin.ObjectAttr
set_option maxRecDepth 100000
namespace Mine

theorem sorted_unique : ∀ {a c : List Int}, a.Perm c → a.Pairwise (· ≤ ·) → c.Pairwise (· ≤ ·) → a = c
  | [], c, h, _, _ => (List.nil_perm.mp h).symm
  | x :: a, [], h, _, _ => by cases List.perm_nil.mp h
  | x :: a, y :: c, h, h1, h2 => by
    have hxy : x = y := by
      have hx : x ∈ y :: c := h.mem_iff.mp List.mem_cons_self
      have hy : y ∈ x :: a := h.mem_iff.mpr List.mem_cons_self
      have p1 := List.pairwise_cons.mp h1
      have p2 := List.pairwise_cons.mp h2
      rcases List.mem_cons.mp hx with e | hx
      · exact e
      rcases List.mem_cons.mp hy with e | hy
      · exact e.symm
      have := p1.1 y hy
      have := p2.1 x hx
      omega
    subst hxy
    rw [sorted_unique ((List.perm_cons x).mp h) (List.pairwise_cons.mp h1).2 (List.pairwise_cons.mp h2).2]
def srt (ns : List Int) : List Int := ns.mergeSort (fun a b => decide (a ≤ b))
theorem srt_perm (ns : List Int) : (srt ns).Perm ns := List.mergeSort_perm _ _
theorem srt_sorted (ns : List Int) : (srt ns).Pairwise (· ≤ ·) := by
  have := List.pairwise_mergeSort (le := fun a b => decide ((a : Int) ≤ b)) (fun a b c h1 h2 => by simp at *; omega) (fun a b => by simp; omega) ns
  exact this.imp fun h => by simpa using h
theorem srt_of {ns ns' : List Int} (h : ns'.Perm ns) (hs : ns'.Pairwise (· ≤ ·)) : ns' = srt ns := sorted_unique (h.trans (srt_perm ns).symm) hs (srt_sorted ns)

section
variable {prog : Program} {w : World} {A : Around} {E : Value → Shared → Prop} {h : Heap} {g : Array GenState} {d : Drawn} {t : Nat} {os : OsState} {b : Heap} {fs : Nat → DA} {σ : Nat → DS} {env : Env} {m : Str → Option Value} {cv : Nat → Option Value} {L : Addr}

/-- sorted of a Domain -/
theorem sorted_at {k : Nat} {Q : Value → Shared → Prop} (hh : A.handled = none) (S : Sys w b) (l : Le b h) (D : Doms h b fs σ) (hk : k < 4) (hz : (σ k).sh.length < 64)
    (kk : ∀ h' tk r, IL h' r (srt (σ k).sh) → h.get? r = none → Le h h' → Q (.ref r) ⟨h', g, d, tk, os⟩) :
    wpAny (model prog w) A (call (.builtin "sorted") [.ref (fs k).a]) Q E ⟨h, g, d, t, os⟩ := by
  obtain ⟨its, hh', ss, Dk, i1, i2, i3⟩ := D.at_ k hk
  have l1 := i1.length
  exact sorted_dom hh S l Dk i1 (by omega) fun h' tk r ns' hI hr l' hp hs => kk h' tk r (srt_of hp hs ▸ hI) hr l'

/-- shown = [sorted(domains[o]) for o in range(4)] -/
theorem turn_shown {da : Addr} {dk : List (Int × Value)} {Q : Flow → Shared → Prop} (S : Sys w b) (l : Le b h) (Rm : Room A 3) (F : LF h L m cv) (D : Doms h b fs σ)
    (hdd : ID prog w b da dk) (hdv : ∀ k, k < 4 → valueAt dk ((k : Nat) : Int) = some (.ref (fs k).a)) (hda : cv 5 = some (.ref da)) (hσ : ∀ k, k < 4 → (σ k).sh.length ≤ 50)
    (kk : ∀ h' tk sf, LL h' sf (fun k => srt (σ k).sh) → h.get? sf = none → LF h' L m (upd cv 9 (some (.ref sf))) → Ext [L + 10] h h' → wpAny (model prog w) A (execs ((turnB w.params).drop 9) (lawE w.params L)) Q E ⟨h', g, d, tk, os⟩) :
    wpAny (model prog w) A (execs ((turnB w.params).drop 8) (lawE w.params L)) Q E ⟨h, g, d, t, os⟩ := by
  refine wpAny_execs_cons (wpAny_Assign_Name ?_)
  refine comp_eval .loc (fun v y h' => match v with | .int i _ => ∃ p, y = .ref p ∧ IL h' p (srt (σ i.toNat).sh) | _ => False) (fun _ => true) rfl ⟨rfl, fun _ => rfl⟩ (by decide) ?_
  refine it_range4 S l Rm.hh fun h₁ it t₁ hit => ?_
  refine ⟨h₁, g, d, _, os, h, 4, _, rfl, hit, by decide, ?_, ?_⟩
  · rintro o v C1 ho tk ho4 ⟨uo, rfl⟩ lo ⟨m₃, hn₃, hm₃⟩ E''
    refine wpAny_pure ⟨rfl, ho, _, rfl, Le.refl _, fun _ => ?_⟩
    have lbo : Le b ho := l.trans lo
    refine ncall (bname S lbo (b_sorted _) bb_sorted (by decide) (cw1 (dsub (lC 5 (F.le lo) hda (ln (v := .int ((o : Nat) : Int) uo) hn₃ hm₃ ⟨ho, g, d, _, os, da, dk, o, uo, _, rfl, rfl, rfl, hdd.le lbo, hdv o ho4, fun tk₄ => ?_⟩)))))
    refine sorted_at Rm.hh S lbo (D.le lo) ho4 (by have := hσ o ho4; omega) fun h₂ t₂ r hI hr l₂ => ?_
    refine ⟨h₂, _, rfl, l₂, fun h₃ l₃ k₃ => ⟨r, rfl, ?_⟩⟩
    obtain ⟨its, n, e, hi⟩ := hI
    exact ⟨its, n, k₃ _ _ hr e, hi⟩
  · intro D h₂ tk ys vs n' hlen hP hF l₂ hDn hDg
    refine sC 9 (F.le l₂) fun h₃ F₃ x₃ => ?_
    have hDL : D ≠ L + 1 + 9 := fun e => not_some hDn (e ▸ F.live _ (c_frame L (by decide)))
    obtain ⟨y4, yk⟩ := four_of (G := fun k y => ∃ p, y = .ref p ∧ IL h₂ p (srt (σ k).sh)) hlen hP hF
    refine kk h₃ _ D ⟨ys, n', x₃ _ _ (by simpa using hDL) hDg, y4, fun k hk => ?_⟩ hDn F₃ ((Ext.of_le (W := [L + 10]) l₂).trans x₃ (by simp))
    obtain ⟨y, hy, p, rfl, hp⟩ := yk k hk
    have hne := cell_not_list ((F.le l₂).cs 9 (by decide)) hp
    obtain ⟨its, n2, e, hi⟩ := hp
    exact ⟨p, hy, its, n2, x₃ _ _ (by simpa using hne) e, hi⟩
end
end Mine
end

section
open PySem PySem.W PySem.Calls PyProof.Rows Builtin Builtin.ObjectAttr PySem.SeqAt
set_option maxRecDepth 100000
namespace Mine

/-! lists of lists, compared -/
abbrev il (ns : List Int) : PyData := .list (ns.map PyData.int)
abbrev dl (f : Nat → List Int) : PyData := .list [il (f 0), il (f 1), il (f 2), il (f 3)]
def eqLL (f f' : Nat → List Int) : Bool := (f 0 == f' 0) && ((f 1 == f' 1) && ((f 2 == f' 2) && ((f 3 == f' 3) && true)))
theorem eqvAll_ints : ∀ (a c : List Int), PyData.eqvAll (a.map PyData.int) (c.map PyData.int) = (a == c)
  | [], [] => rfl
  | [], _ :: _ => rfl
  | _ :: _, [] => rfl
  | x :: a, y :: c => by
    simp only [List.map_cons, PyData.eqvAll, PyData.eqv, eqvAll_ints a c]
    rfl
theorem eqv_il (a c : List Int) : PyData.eqv (il a) (il c) = (a == c) := by simp only [PyData.eqv]; exact eqvAll_ints a c
theorem eqv_dl (f f' : Nat → List Int) : PyData.eqv (dl f) (dl f') = eqLL f f' := by
  simp only [PyData.eqv, PyData.eqvAll, eqvAll_ints]; rfl
theorem can_il (a : List Int) : PyData.canLay0 (il a) = true := by simp only [PyData.canLay0]; exact canLayAll_ints a
theorem depthAll_ints : ∀ a : List Int, PyData.depthAll (a.map PyData.int) = 0
  | [] => rfl
  | _ :: a => by simp [PyData.depthAll, PyData.depth, depthAll_ints a]
theorem shaped_dl (f : Nat → List Int) : shaped (dl f) = true := by
  unfold shaped
  simp only [PyData.canLay0, PyData.canLayAll0, canLayAll_ints, PyData.depth, PyData.depthAll, depthAll_ints]
  decide
theorem reads_ints {h : Heap} : ∀ {vs : List Value} {ns : List Int}, IntsAre vs ns → ReadsAll h vs (ns.map PyData.int) []
  | _, _, .nil => .nil
  | _, _, .cons n t hi => by
    have := ReadsAll.cons (h := h) (.int n t) (reads_ints hi)
    simpa using this
theorem reads_il {h : Heap} {a : Addr} {ns : List Int} (x : IL h a ns) : Reads h (.ref a) (il ns) [a] := by
  obtain ⟨its, n, e, hi⟩ := x
  exact .list e rfl rfl (reads_ints hi)
theorem reads_dl {h : Heap} {a : Addr} {f : Nat → List Int} (x : LL h a f) : ∃ as, Reads h (.ref a) (dl f) as := by
  obtain ⟨its, n, e, hl, hi⟩ := x
  match its, hl with
  | [v0, v1, v2, v3], _ =>
    obtain ⟨p0, e0, i0⟩ := hi 0 (by decide)
    obtain ⟨p1, e1, i1⟩ := hi 1 (by decide)
    obtain ⟨p2, e2, i2⟩ := hi 2 (by decide)
    obtain ⟨p3, e3, i3⟩ := hi 3 (by decide)
    cases e0; cases e1; cases e2; cases e3
    exact ⟨_, .list e rfl rfl (.cons (reads_il i0) (.cons (reads_il i1) (.cons (reads_il i2) (.cons (reads_il i3) .nil))))⟩
theorem eqLL_iff {f f' : Nat → List Int} : eqLL f f' = true ↔ ∀ k, k < 4 → f k = f' k := by
  unfold eqLL
  simp only [Bool.and_eq_true, beq_iff_eq, and_true]
  constructor
  · rintro ⟨h0, h1, h2, h3⟩ k hk
    match k, hk with
    | 0, _ => exact h0
    | 1, _ => exact h1
    | 2, _ => exact h2
    | 3, _ => exact h3
  · exact fun h => ⟨h 0 (by decide), h 1 (by decide), h 2 (by decide), h 3 (by decide)⟩
/-- no list is empty -/
def noNil (f : Nat → List Int) : Bool := !((f 0).isEmpty || ((f 1).isEmpty || ((f 2).isEmpty || (f 3).isEmpty)))
theorem count_nil (f : Nat → List Int) : (!decide (PySem.Spec.countIn (.list []) [il (f 0), il (f 1), il (f 2), il (f 3)] ≠ 0)) = noNil f := by
  unfold noNil
  have e : ∀ a : List Int, PySem.Spec.same (il a) (.list []) = a.isEmpty := fun a => by cases a <;> rfl
  simp only [PySem.Spec.countIn, e]
  cases (f 0).isEmpty <;> cases (f 1).isEmpty <;> cases (f 2).isEmpty <;> cases (f 3).isEmpty <;> rfl

/-! the told dict against its copy -/
structure KvOk (kvs : List (Int × Value)) : Prop where
  nd : (kvs.map (·.1)).Nodup
  isI : ∀ p ∈ kvs, ∃ n t, p.2 = .int n t
theorem valueAt_nodup : ∀ {kvs : List (Int × Value)}, (kvs.map (·.1)).Nodup → ∀ p ∈ kvs, valueAt kvs p.1 = some p.2
  | q :: r, hn, p, hp => by
    rw [List.map_cons, List.nodup_cons] at hn
    unfold valueAt
    rcases List.mem_cons.mp hp with rfl | hp
    · simp
    · have hne : ¬ q.1 = p.1 := fun e => hn.1 (e ▸ List.mem_map_of_mem hp)
      have := valueAt_nodup hn.2 p hp
      unfold valueAt at this
      rw [List.find?_cons_of_neg (by simpa using hne)]
      exact this
theorem hits_self {A : Around} {s : Shared} {kvs : List (Int × Value)} (K : KvOk kvs) : ∀ r, (∀ p ∈ r, p ∈ kvs) → KeqHits A s kvs r true
  | [], _ => .nil
  | p :: r, h => by
    obtain ⟨k, v⟩ := p
    obtain ⟨n, t, e⟩ := K.isI (k, v) (h _ List.mem_cons_self)
    dsimp only at e
    subst e
    have hv := valueAt_nodup K.nd (k, .int n t) (h _ List.mem_cons_self)
    have := KeqHits.hit (A := A) (s := s) (e := (n == n)) (b := true) hv (SeqAt.EqAt.int_int n t n t) (hits_self K r fun q hq => h q (List.mem_cons_of_mem _ hq))
    simpa using this

section
variable {prog : Program} {w : World} {A : Around} {E : Value → Shared → Prop} {h : Heap} {g : Array GenState} {d : Drawn} {t : Nat} {os : OsState} {b : Heap} {fs : Nat → DA} {σ : Nat → DS} {env : Env} {m : Str → Option Value} {cv : Nat → Option Value} {L : Addr}

theorem llne {a c : Addr} {f f' : Nat → List Int} {Q : Value → Shared → Prop} (hu : A.units + 64 < cLine) (x : LL h a f) (y : LL h c f') (k : Q (.bool (!eqLL f f')) ⟨h, g, d, t, os⟩) :
    wpAny (model prog w) A (compareOp .NotEq (.ref a) (.ref c)) Q E ⟨h, g, d, t, os⟩ := by
  obtain ⟨as, rx⟩ := reads_dl x
  obtain ⟨bs, ry⟩ := reads_dl y
  exact ne_dataH rx ry (shaped_dl f) (shaped_dl f') hu (by rw [eqv_dl]; exact k)
theorem nilnotin {a c : Addr} {f : Nat → List Int} {n : Nat} {Q : Value → Shared → Prop} (hu : A.units + 65 < cLine) (x : LL h a f) (hc : h.get? c = some (listO [].toArray n)) (k : Q (.bool (noNil f)) ⟨h, g, d, t, os⟩) :
    wpAny (model prog w) A (compareOp .NotIn (.ref c) (.ref a)) Q E ⟨h, g, d, t, os⟩ := by
  obtain ⟨as, rx⟩ := reads_dl x
  refine notIn_list_dataH rx (.list hc rfl rfl .nil) (shaped_dl f) (by decide) hu (fun y hy => ?_) (by rw [count_nil]; exact k)
  have : ∀ ns : List Int, noMix (il ns) (.list []) = true := fun ns => by cases ns <;> rfl
  simp only [List.mem_cons, List.not_mem_nil, or_false] at hy
  rcases hy with rfl | rfl | rfl | rfl <;> exact this _
theorem told_same {a c : Addr} {kvs : List (Int × Value)} {Q : Value → Shared → Prop} (hu : A.units < cLine) (x : ID prog w h a kvs) (y : ID prog w h c kvs) (K : KvOk kvs) (k : Q (.bool false) ⟨h, g, d, t, os⟩) :
    wpAny (model prog w) A (compareOp .NotEq (.ref a) (.ref c)) Q E ⟨h, g, d, t, os⟩ :=
  keq_ne x.lo y.lo x.d y.d hu (fun _ => hits_self K kvs fun _ hp => hp) (by simpa using k)
theorem isn_bb {p q : Bool} {Q : Value → Shared → Prop} (k : Q (.bool (p != q)) ⟨h, g, d, t, os⟩) : wpAny (model prog w) A (compareOp .IsNot (.bool p) (.bool q)) Q E ⟨h, g, d, t, os⟩ := by
  show wpAny _ _ (do return .bool (!(← isSame (.bool p) (.bool q)))) Q E _
  cases p <;> cases q <;> exact wpAny_bind (wpAny_isSame_plain rfl (wpAny_pure k))
end
end Mine
end

section
open PySem PySem.W PySem.Calls PyProof.Rows Builtin Builtin.ObjectAttr
set_option maxRecDepth 100000
namespace Mine
section
variable {prog : Program} {w : World} {A : Around} {E : Value → Shared → Prop} {R : Result → Shared → Prop} {s : Shared}

theorem compStart1 {elt t1 i1 t2 i2 : Expr} {ifs : List Expr} {scope : Scope} {pos : Pos} {it acc : Value} {env : Env}
    (h0 : codeAny (model prog w) A (.compLoop (.ListComp elt [⟨t1, i1, [], 0⟩, ⟨t2, i2, ifs, 0⟩] scope pos) 1 it acc env) R s)
    (h : wpAny (model prog w) A (pyIter it) (fun it' s' => codeAny (model prog w) A (.compLoop (.ListComp elt [⟨t1, i1, [], 0⟩, ⟨t2, i2, ifs, 0⟩] scope pos) 1 it' acc env) R s')
      (notedBy (model prog w) A env fun x s' => R (.error x) s') s) :
    codeAny (model prog w) A (.compStart (.ListComp elt [⟨t1, i1, [], 0⟩, ⟨t2, i2, ifs, 0⟩] scope pos) 1 it acc env) R s := by
  refine codeAny_of_tree ?_
  show wpAny _ _ ((compStart (.ListComp elt [⟨t1, i1, [], 0⟩, ⟨t2, i2, ifs, 0⟩] scope pos) 1 it acc env).onRaise (fun x => do noteFrame x env; standAt theWindowsPlace)) _ _ s
  refine wpAny_notedAt ?_
  unfold compStart
  show wpAny _ _ (ask >>= _) _ _ s
  refine wpAny_bind (wpAny_askSetting (wpAny_ite ?_))
  split
  · exact wpAny_bind (wpAny_pure (wpAny_pure (And.intro rfl h0)))
  · refine wpAny_bind (wpAny_rule ?_)
    show wpAny _ _ (standAt i2.pos >>= _) _ _ s
    exact wpAny_bind (wpAny_standAt (wpAny_bind (wpAny_mono h (fun it' s' h' => wpAny_pure (And.intro rfl h')) fun _ _ x => x)))

theorem compTurn_in (elt t1 i1 t2 i2 : Expr) (ifs : List Expr) (scope : Scope) (pos : Pos) (it acc : Value) (env : Env) :
    compTurn (.ListComp elt [⟨t1, i1, [], 0⟩, ⟨t2, i2, ifs, 0⟩] scope pos) 1 it acc env = (do
      standAt i2.pos
      match ← pyNext it with
      | none => pure (.done .next)
      | some v =>
        letOwnedTupleGo t2 it v
        assign t2 env v
        let mut ok := true
        for c in ifs do
          if ok then ok ← isTrue c env (eval c env)
        if ok then
          (do let _ ← call (.builtin "list.append") [acc, ← eval elt env])
        again (.compLoop (.ListComp elt [⟨t1, i1, [], 0⟩, ⟨t2, i2, ifs, 0⟩] scope pos) 1 it acc env)) := by rfl
theorem compTurn_out (elt t1 i1 t2 i2 : Expr) (ifs : List Expr) (scope : Scope) (pos : Pos) (it acc : Value) (env : Env) :
    compTurn (.ListComp elt [⟨t1, i1, [], 0⟩, ⟨t2, i2, ifs, 0⟩] scope pos) 0 it acc env = (do
      standAt i1.pos
      match ← pyNext it with
      | none => pure (.done .next)
      | some v =>
        letOwnedTupleGo t1 it v
        assign t1 env v
        let x ← eval i2 env
        standAt i2.pos
        let x ← foldedSetIterable i2 env x
        let _ ← runOwn (.compStart (.ListComp elt [⟨t1, i1, [], 0⟩, ⟨t2, i2, ifs, 0⟩] scope pos) 1 (← holding [x] (pyIter x)) acc env) env
        again (.compLoop (.ListComp elt [⟨t1, i1, [], 0⟩, ⟨t2, i2, ifs, 0⟩] scope pos) 0 it acc env)) := by rfl

/-- the inner loop when no test holds -/
theorem loop_in {elt t1 i1 t2 i2 c : Expr} {scope : Scope} {pos : Pos} {it acc : Value} {env : Env} (I : Nat → Shared → Prop)
    (turn : ∀ n s, I n s → wpAny (model prog w) A (pyNext it) (fun r s₁ => match r with
      | none => R (.ok .next) s₁
      | some v => wpAny (model prog w) A (assign t2 env v) (fun _ s₂ =>
          wpAny (model prog w) A (isTrue c env (eval c env)) (fun ok s₃ => ok = false ∧ ∃ m, m < n ∧ I m s₃) (notedBy (model prog w) A env fun e s' => R (.error e) s') s₂) (notedBy (model prog w) A env fun e s' => R (.error e) s') s₁) (notedBy (model prog w) A env fun e s' => R (.error e) s') s)
    (n : Nat) (h : I n s) (ht : ∀ v, letOwnedTupleGo t2 it v = pure () := by intro _; rfl) :
    codeAny (model prog w) A (.compLoop (.ListComp elt [⟨t1, i1, [], 0⟩, ⟨t2, i2, [c], 0⟩] scope pos) 1 it acc env) R s := by
  refine codeAny_loop rfl I (fun n s hI => ?_) n h
  show wpAny _ A ((compTurn (.ListComp elt [⟨t1, i1, [], 0⟩, ⟨t2, i2, [c], 0⟩] scope pos) 1 it acc env).onRaise (fun x => do noteFrame x env; theTreesLotGoes x)) _ _ s
  refine wpAny_noted ?_
  rw [compTurn_in]
  refine wpAny_bind (wpAny_standAt (wpAny_bind (wpAny_mono (turn n s hI) (fun r s₁ h₁ => ?_) fun _ _ h' => h')))
  cases r with
  | none => exact wpAny_pure h₁
  | some v =>
    refine wpAny_bind (wpAny_of_eq (ht v) ?_)
    refine wpAny_bind (wpAny_mono h₁ (fun _ s₂ h₂ => wpAny_bind (wpAny_mono (wpAny_tests_one h₂) (fun ok s₃ h₃ => ?_) fun _ _ h' => h')) fun _ _ h' => h')
    obtain ⟨rfl, h₃⟩ := h₃
    exact wpAny_pure ⟨rfl, h₃⟩
theorem loop_out {elt t1 i1 t2 i2 c : Expr} {scope : Scope} {pos : Pos} {it acc : Value} {env : Env} (I : Nat → Shared → Prop)
    (turn : ∀ n s, I n s → wpAny (model prog w) A (pyNext it) (fun r s₁ => match r with
      | none => R (.ok .next) s₁
      | some v => wpAny (model prog w) A (assign t1 env v) (fun _ s₂ => wpAny (model prog w) A (eval i2 env) (fun x s₃ => wpAny (model prog w) A (pyIter x) (fun it2 s₄ =>
          codeAny (model prog w) A (.compStart (.ListComp elt [⟨t1, i1, [], 0⟩, ⟨t2, i2, [c], 0⟩] scope pos) 1 it2 acc env) (fun r s₅ => match r with | .ok _ => ∃ m, m < n ∧ I m s₅ | .error _ => False) s₄)
            (notedBy (model prog w) A env fun e s' => R (.error e) s') s₃) (notedBy (model prog w) A env fun e s' => R (.error e) s') s₂) (notedBy (model prog w) A env fun e s' => R (.error e) s') s₁) (notedBy (model prog w) A env fun e s' => R (.error e) s') s)
    (n : Nat) (h : I n s) (hs : ∀ x, foldedSetIterable i2 env x = pure x := by intro _; rfl) (ht : ∀ v, letOwnedTupleGo t1 it v = pure () := by intro _; rfl) :
    codeAny (model prog w) A (.compLoop (.ListComp elt [⟨t1, i1, [], 0⟩, ⟨t2, i2, [c], 0⟩] scope pos) 0 it acc env) R s := by
  refine codeAny_loop rfl I (fun n s hI => ?_) n h
  show wpAny _ A ((compTurn (.ListComp elt [⟨t1, i1, [], 0⟩, ⟨t2, i2, [c], 0⟩] scope pos) 0 it acc env).onRaise (fun x => do noteFrame x env; theTreesLotGoes x)) _ _ s
  refine wpAny_noted ?_
  rw [compTurn_out]
  refine wpAny_bind (wpAny_standAt (wpAny_bind (wpAny_mono (turn n s hI) (fun r s₁ h₁ => ?_) fun _ _ h' => h')))
  cases r with
  | none => exact wpAny_pure h₁
  | some v =>
    refine wpAny_bind (wpAny_of_eq (ht v) ?_)
    refine wpAny_bind (wpAny_mono h₁ (fun _ s₂ h₂ => wpAny_bind (wpAny_mono h₂ (fun x s₃ h₃ => wpAny_bind (wpAny_standAt (wpAny_bind (wpAny_of_eq (hs x) (wpAny_bind (wpAny_holding (wpAny_mono h₃ (fun it2 s₄ h₄ => ?_) fun _ _ h' => h'))))))) fun _ _ h' => h')) fun _ _ h' => h')
    refine wpAny_bind (wpAny_runOwn (codeAny_mono h₄ fun r s₅ h₅ => ?_))
    cases r with
    | ok f => exact wpAny_pure ⟨rfl, h₅⟩
    | error e => exact h₅.elim
end
end Mine
end

section
open PySem PySem.W PySem.Calls PyProof.Rows Builtin Builtin.ObjectAttr
set_option maxRecDepth 100000
namespace Mine
section
variable {prog : Program} {w : World} {A : Around} {E : Value → Shared → Prop} {env : Env}

set_option maxHeartbeats 1000000 in
/-- [elt for x in i1 for y in i2 if c], when no test holds -/
theorem comp_none {elt i1 i2 c : Expr} {scope : Scope} {pos px py : Pos} {x y : Str} {cl : List (Str × Addr)} {s : Shared} {Q : Value → Shared → Prop} (hh : A.handled = none)
    (hclos : closureFor scope env = pure cl) (hlx : scope.names.lookup x = some .local) (hly : scope.names.lookup y = some .local) (hxy : x ≠ y) (hcell : ∀ C, cellsFrom (C + 1) scope.names [] = [])
    (hnames : ∀ y ∈ scope.names, y.2 = .local → scope.names.lookup y.1 = some .local)
    (h : wpAny (model prog w) A (eval i1 env) (fun xv s₁ => wpAny (model prog w) A (pyIter xv) (fun it s₂ => ∃ h g d t os b₀ n P, s₂ = ⟨h, g, d, t, os⟩ ∧ IterAt prog w A b₀ h it n P ∧
        (∀ i v C m h₁ tk E', i < n → P i v → Le b₀ h₁ → h₁.Ns C m → m x = some v → wpAny (model prog w) A (eval i2 (cenvOf scope cl C env)) (fun yv s₃ => ∃ tk₃ a its n2, s₃ = ⟨h₁, g, d, tk₃, os⟩ ∧ yv = .ref a ∧ b₀.get? a = some (listO (List.toArray its) n2) ∧
          ∀ (j : Nat) u m' h₄ tk₄ E₄, its[j]? = some u → Le b₀ h₄ → h₄.Ns C m' → m' x = some v → m' y = some u → wpAny (model prog w) A (isTrue c (cenvOf scope cl C env) (eval c (cenvOf scope cl C env))) (fun ok s₅ => ok = false ∧ ∃ tk₅, s₅ = ⟨h₄, g, d, tk₅, os⟩) E₄ ⟨h₄, g, d, tk₄, os⟩) E' ⟨h₁, g, d, tk, os⟩) ∧
        (∀ D h₂ tk n', Le b₀ h₂ → b₀.get? D = none → h₂.get? D = some (listO [].toArray n') → Q (.ref D) ⟨h₂, g, d, tk, os⟩)) E s₁) E s)
    (hs : ∀ x, foldedSetIterable i1 env x = pure x := by intro _; rfl) (hs2 : ∀ C x, foldedSetIterable i2 (cenvOf scope cl C env) x = pure x := by intro _ _; rfl) (hkind : scope.kind = .function := by rfl) :
    wpAny (model prog w) A (eval (.ListComp elt [⟨.Name x px, i1, [], 0⟩, ⟨.Name y py, i2, [c], 0⟩] scope pos) env) Q E s := by
  rw [eval_ListComp]
  refine wpAny_comprehension_free (use := none) rfl hs hclos hkind hnames (wpAny_mono h (fun xv s₁ h₁ => wpAny_mono h₁ (fun it s₂ h₂ => ?_) fun _ _ e => e) fun _ _ e => e)
  obtain ⟨h, g, d, t, os, b₀, n, P, rfl, ⟨I, fp, wr, St, rfl, W, hst, hlv, hw0, hf0, l0⟩, turn, done⟩ := h₂
  refine wpAny_newObj_type (newEnv_comp fun C h₁ acc hC hacc l₁ hn hown => ?_)
  subst hacc
  have hD : h.get? h.objs.size = none := fresh_size h
  have hC' : C = h.objs.size + 1 := by rw [hC]; exact Heap.size_push ..
  have hC0 : h.get? C = none := by
    cases e : h.get? C with
    | none => rfl
    | some o => exact absurd (Heap.lt_size e) (Nat.not_lt.mpr (by rw [hC']; exact Nat.le_succ _))
  have lh : Le h h₁ := (push_le _ _).trans l₁
  have hDget : h₁.get? h.objs.size = some (listO [].toArray 0) := l₁ _ _ (Heap.get?_push_size _ rfl)
  have hDC : h.objs.size ≠ C := by rw [hC']; exact Nat.ne_of_lt (Nat.lt_succ_self _)
  generalize h.objs.size = D at *
  have hfp := hlv 0 h hst
  have fpC : ∀ p ∈ fp, p ≠ C := fun p hp e => not_some hC0 (e ▸ hfp p hp)
  have fpD : ∀ p ∈ fp, p ≠ D := fun p hp e => not_some hD (e ▸ hfp p hp)
  have b0C : b₀.get? C = none := l0.fresh hC0
  have b0D : b₀.get? D = none := l0.fresh hD
  have keepB : ∀ {h₂ h₃ : Heap}, Le b₀ h₂ → (∀ p o, p ∉ wr → h₂.get? p = some o → h₃.get? p = some o) → Le b₀ h₃ := fun l k p o e => k p o (fun hm => by rw [hw0 p hm] at e; cases e) (l p o e)
  have loop : codeAny (model prog w) A (.compLoop (.ListComp elt [⟨.Name x px, i1, [], 0⟩, ⟨.Name y py, i2, [c], 0⟩] scope pos) 0 (.ref I) (.ref D) (cenvOf scope cl C env)) (compPost (model prog w) A E none Q (.ref D) C) ⟨h₁, g, d, t, os⟩ := by
    refine loop_out (fun k s' => ∃ i h' tk n', s' = ⟨h', g, d, tk, os⟩ ∧ St i h' ∧ Le b₀ h' ∧ (∃ m, h'.Ns C m) ∧ h'.get? D = some (listO [].toArray n') ∧ i ≤ n ∧ k = n + 1 - i) ?_ (n + 1)
      ⟨0, h₁, t, 0, rfl, W.frame _ _ _ hst (fun b _ o e => lh b o e), l0.trans lh, ⟨_, hn⟩, hDget, Nat.zero_le _, rfl⟩ (hs2 C)
    rintro k s' ⟨i, h', tk, n', rfl, hst', lb', ⟨m, hn'⟩, hDg, hi, rfl⟩
    by_cases hlt : i < n
    · refine W.item i _ _ _ hlt hst' fun v h₂ tk₂ hP hst₂ hk => ?_
      have lb₂ := keepB lb' hk
      have hnC : C ∉ wr := fun hm => fpC C (W.sub C hm) rfl
      have hnD : D ∉ wr := fun hm => fpD D (W.sub D hm) rfl
      have hn₂ : h₂.Ns C m := hn'.at' fun o e => hk _ _ hnC e
      have hD₂ := hk _ _ hnD hDg
      refine wpAny_assign_Name (wpAny_storeName_local (lookup_relabel_local hlx) hn₂ (fun h₃ hn₃ hs₃ => ?_) (by simp [compEnvC, relabel, hkind]))
      have x₃ : Ext [C] h₂ h₃ := Ext.mono (Ext.of_sameBut hs₃) (by simp [cenvOf, compEnvC])
      have lb₃ : Le b₀ h₃ := x₃.base lb₂ (by simpa using b0C)
      have hD₃ := x₃ _ _ (by simpa using hDC) hD₂
      have st₃ := W.frame _ _ _ hst₂ (fun p hp o e => x₃ p o (by simpa using fpC p hp) e)
      refine wpAny_mono (turn i v C _ h₃ _ _ hlt hP lb₃ hn₃ (by simp)) (fun yv s₃ h₃' => ?_) fun _ _ e => e
      obtain ⟨tk₃, a, its, n2, rfl, rfl, ha, tests⟩ := h₃'
      have hla : h₃.get? a = some (listO its.toArray n2) := lb₃ _ _ ha
      refine wpAny_pyIter_list ⟨_, hla, rfl, _, rfl⟩ ?_
      dsimp only
      have lp : Le h₃ (h₃.push { cls := .type "list_iterator", data := .fields #[.ref a, .int 0 0] }) := push_le _ _
      have hi2 : Heap.IsListIter (h₃.push { cls := .type "list_iterator", data := .fields #[.ref a, .int 0 0] }) h₃.objs.size a 0 := ⟨_, Heap.get?_push_size _ rfl, rfl, rfl⟩
      have hI2 := fresh_size h₃
      have haI2 : a ≠ h₃.objs.size := Nat.ne_of_lt (Heap.lt_size hla)
      generalize h₃.push { cls := .type "list_iterator", data := .fields #[.ref a, .int 0 0] } = h₄ at *
      generalize h₃.objs.size = I2 at *
      have W2 := Walks.list (prog := prog) (w := w) (A := A) hh I2 a haI2 its.toArray
      have hI2C : I2 ≠ C := fun e => by obtain ⟨o, _, _, ho, _⟩ := hn₃; exact not_some hI2 ⟨o, e ▸ ho⟩
      have hI2D : I2 ≠ D := fun e => not_some hI2 ⟨_, e ▸ hD₃⟩
      have hI2f : ∀ p ∈ fp, p ≠ I2 := fun p hp e => not_some hI2 (e ▸ hlv _ _ st₃ p hp)
      have haC : a ≠ C := fun e => not_some b0C ⟨_, e ▸ ha⟩
      have b0I2 : b₀.get? I2 = none := lb₃.fresh hI2
      have inner : codeAny (model prog w) A (.compLoop (.ListComp elt [⟨.Name x px, i1, [], 0⟩, ⟨.Name y py, i2, [c], 0⟩] scope pos) 1 (.ref I2) (.ref D) (cenvOf scope cl C env))
          (fun r s₅ => match r with | .ok _ => ∃ m, m < n + 1 - i ∧ ∃ i h' tk n', s₅ = ⟨h', g, d, tk, os⟩ ∧ St i h' ∧ Le b₀ h' ∧ (∃ m, h'.Ns C m) ∧ h'.get? D = some (listO [].toArray n') ∧ i ≤ n ∧ m = n + 1 - i | .error _ => False) ⟨h₄, g, d, tk₃, os⟩ := by
        refine loop_in (fun k s' => ∃ j h' tk m', s' = ⟨h', g, d, tk, os⟩ ∧ (h'.IsListIter I2 a j ∧ h'.IsList a its.toArray) ∧ St (i + 1) h' ∧ Le b₀ h' ∧ h'.Ns C m' ∧ m' x = some v ∧ h'.get? D = some (listO [].toArray n') ∧ j ≤ its.length ∧ k = its.length + 1 - j) ?_ (its.length + 1)
          ⟨0, h₄, tk₃, _, rfl, ⟨hi2, ⟨_, lp _ _ hla, rfl, _, rfl⟩⟩, W.frame _ _ _ st₃ (fun p _ o e => lp p o e), lb₃.trans lp, hn₃.keeps lp, by simp, lp _ _ hD₃, Nat.zero_le _, rfl⟩
        rintro k s' ⟨j, h₅, tk₅, m₅, rfl, st₅, so₅, lb₅, hn₅, hx₅, hD₅, hj, rfl⟩
        by_cases hjl : j < its.length
        · refine W2.item j _ _ _ (by simpa using hjl) st₅ fun u h₆ tk₆ hP₆ st₆ hk₆ => ?_
          have hu : its[j]? = some u := by simpa using hP₆
          have x₆ : Ext [I2] h₅ h₆ := fun p o hp e => hk₆ p o hp e
          have lb₆ : Le b₀ h₆ := x₆.base lb₅ (by simpa using b0I2)
          have hn₆ : h₆.Ns C m₅ := ns_ext hn₅ x₆ (by simpa using hI2C.symm)
          have so₆ := W.frame _ _ _ so₅ (fun p hp o e => x₆ p o (by simpa using hI2f p hp) e)
          have hD₆ := x₆ _ _ (by simpa using hI2D.symm) hD₅
          refine wpAny_assign_Name (wpAny_storeName_local (lookup_relabel_local hly) hn₆ (fun h₇ hn₇ hs₇ => ?_) (by simp [compEnvC, relabel, hkind]))
          have x₇ : Ext [C] h₆ h₇ := Ext.mono (Ext.of_sameBut hs₇) (by simp [cenvOf, compEnvC])
          have lb₇ : Le b₀ h₇ := x₇.base lb₆ (by simpa using b0C)
          have st₇ := W2.frame _ _ _ st₆ (fun p hp o e => x₇ p o (by
            simp at hp
            rcases hp with rfl | rfl
            · simpa using hI2C
            · simpa using haC) e)
          refine wpAny_mono (tests j u _ h₇ _ _ hu lb₇ hn₇ (by simp [hxy, hx₅]) (by simp)) (fun ok s₅ hok => ?_) fun _ _ e => e
          obtain ⟨rfl, tk₇, rfl⟩ := hok
          exact ⟨rfl, its.length + 1 - (j + 1), by omega, j + 1, h₇, tk₇, _, rfl, st₇, W.frame _ _ _ so₆ (fun p hp o e => x₇ p o (by simpa using fpC p hp) e), lb₇, hn₇, by simp [hxy, hx₅], x₇ _ _ (by simpa using hDC) hD₆, hjl, rfl⟩
        · have hje : j = its.length := by omega
          subst hje
          refine W2.done _ _ _ (by simpa using st₅) fun h₆ tk₆ hk₆ => ?_
          have x₆ : Ext [I2] h₅ h₆ := fun p o hp e => hk₆ p o hp e
          exact ⟨n + 1 - (i + 1), by omega, i + 1, h₆, tk₆, n', rfl, W.frame _ _ _ so₅ (fun p hp o e => x₆ p o (by simpa using hI2f p hp) e), x₆.base lb₅ (by simpa using b0I2), ⟨_, ns_ext hn₅ x₆ (by simpa using hI2C.symm)⟩, x₆ _ _ (by simpa using hI2D.symm) hD₅, hlt, rfl⟩
      exact compStart1 inner (W2.self 0 _ _ _ ⟨hi2, ⟨_, lp _ _ hla, rfl, _, rfl⟩⟩ inner)
    · have hin : i = n := by omega
      subst hin
      refine W.done _ _ _ hst' fun h₂ tk₂ hk => ?_
      have lb₂ := keepB lb' hk
      have hn₂ : h₂.Ns C m := hn'.at' fun o e => hk _ _ (fun hm => fpC C (W.sub C hm) rfl) e
      have hD₂ := hk _ _ (fun hm => fpD D (W.sub D hm) rfl) hDg
      refine ⟨m, hn₂, fun h₃ hs₃ => ?_⟩
      exact done D h₃ _ n' ((Ext.of_sameBut hs₃).base lb₂ (by simpa using b0C)) b0D (hs₃.extBut _ _ hDC hD₂)
  exact codeAny_compStart_list loop (W.self 0 _ _ _ (W.frame _ _ _ hst (fun b _ o e => lh b o e)) loop)
end
end Mine
end

section
open PySem PySem.W PySem.Calls PyProof.Rows Builtin Builtin.ObjectAttr PySem.SeqAt
set_option maxRecDepth 100000
namespace Mine
section
variable {prog : Program} {w : World} {A : Around} {E : Value → Shared → Prop} {h : Heap} {g : Array GenState} {d : Drawn} {t : Nat} {os : OsState} {b : Heap} {fs : Nat → DA} {σ : Nat → DS} {env : Env} {m : Str → Option Value} {cv : Nat → Option Value} {L : Addr}

/-- [] != [] -/
theorem nilne {a c : Addr} {n n' : Nat} {Q : Value → Shared → Prop} (hu : A.units + 64 < cLine) (ha : h.get? a = some (listO [].toArray n)) (hc : h.get? c = some (listO [].toArray n')) (k : Q (.bool false) ⟨h, g, d, t, os⟩) :
    wpAny (model prog w) A (compareOp .NotEq (.ref a) (.ref c)) Q E ⟨h, g, d, t, os⟩ :=
  ne_dataH (.list ha rfl rfl .nil) (.list hc rfl rfl .nil) (by decide) (by decide) hu (by exact k)

set_option maxHeartbeats 1000000 in
/-- the three tests of a turn -/
theorem turn_checks {td hd lf sf du : Addr} {ans fits : Bool} {left shown due : Nat → List Int} {kvs : List (Int × Value)} {Q : Flow → Shared → Prop} (S : Sys w b) (l : Le b h) (Rm : Room A 3) (F : LF h L m cv)
    (ht : cv 6 = some (.ref td)) (T : ID prog w h td kvs) (Hd : ID prog w h hd kvs) (K : KvOk kvs) (hlf : cv 8 = some (.ref lf)) (hsf : cv 9 = some (.ref sf)) (hdu : cv 7 = some (.ref du)) (hL : LL h lf left) (hS : LL h sf shown) (hD : LL h du due)
    (mh : m sHanded = some (.ref hd)) (ma : m sAnswer = some (.bool ans)) (mf : m sFits = some (.bool fits))
    (c1 : ans = (fits && noNil left)) (c2 : ans = true → eqLL shown left = true) (c3 : fits = false → eqLL shown due = true) (c4 : fits = true → ∀ o, o < 4 → ∀ v ∈ left o, v ∈ shown o)
    (kk : ∀ h' tk, Le h h' → wpAny (model prog w) A (execs ((turnB w.params).drop 12) (lawE w.params L)) Q E ⟨h', g, d, tk, os⟩) :
    wpAny (model prog w) A (execs ((turnB w.params).drop 9) (lawE w.params L)) Q E ⟨h, g, d, t, os⟩ := by
  have hu : A.units + 65 < cLine := by have := Rm.hu; omega
  -- handed != told or answer is not (..)
  refine wpAny_execs_cons (wpAny_If (isTrue_or (wpAny_isTrue_Compare1 (ln (v := .ref hd) F.ns mh (lC 6 F ht (told_same (by omega) Hd T K (trb ?_)))) rfl)))
  have step2 : ∀ h₁ tk, Le h h₁ → wpAny (model prog w) A (execs ((turnB w.params).drop 10) (lawE w.params L)) Q E ⟨h₁, g, d, tk, os⟩ := by
    intro h₁ tk l₁
    have F₁ := F.le l₁
    -- answer and shown != left or not fits and shown != due
    have step3 : wpAny (model prog w) A (execs ((turnB w.params).drop 11) (lawE w.params L)) Q E ⟨h₁, g, d, tk, os⟩ := by
      refine wpAny_execs_cons (wpAny_If (isTrue_and (wpAny_isTrue_value (ln (v := .bool fits) F₁.ns mf (trb ?_)))))
      cases hf : fits with
      | false => exact wpAny_execs_nil (kk h₁ _ l₁)
      | true =>
        have lb₁ := l.trans l₁
        refine isTrue_and (wpAny_isTrue_Compare1 ?_ rfl)
        refine comp_none Rm.hh rfl rfl rfl (by decide) (fun _ => rfl) (by decide) ?_
        refine it_range4 S lb₁ Rm.hh fun h₂ it t₂ hit => ?_
        refine ⟨h₂, g, d, _, os, h₁, 4, _, rfl, hit, ?_, ?_⟩
        · rintro o v C m₃ h₃ tk₃ E₃ ho4 ⟨uo, rfl⟩ l₃ hn₃ hm₃
          obtain ⟨lits, ln', le, ll4, li⟩ := hL
          obtain ⟨p, hp, its, n2, hpe, hpi⟩ := li o ho4
          refine lsub (lC 8 (F₁.le l₃) hlf (ln (v := .int ((o : Nat) : Int) uo) hn₃ hm₃ ⟨h₃, g, d, _, os, lf, lits, ln', _, uo, _, rfl, rfl, rfl, l₃ _ _ (l₁ _ _ le), by omega, by omega, by simpa using hp, ?_⟩))
          refine ⟨_, p, its, n2, rfl, rfl, l₁ _ _ hpe, ?_⟩
          rintro j u m₄ h₄ tk₄ E₄ hj l₄ hn₄ hx₄ hy₄
          obtain ⟨vi, uv, rfl, hvi⟩ := hpi.at j u hj
          refine wpAny_isTrue_Compare1 (ln (v := .int vi uv) hn₄ hy₄ (llsub (lC 9 (F₁.le l₄) hsf (ln (v := .int ((o : Nat) : Int) uo) hn₄ hx₄ ⟨h₄, g, d, _, os, sf, shown, o, uo, rfl, rfl, rfl, (hS.le l₁).le l₄, ho4, fun q hq => lnin hq (trb ?_)⟩)))) rfl
          refine ⟨?_, _, rfl⟩
          have := c4 hf o ho4 vi (List.mem_of_getElem? hvi)
          simpa using this
        · intro D h₃ tk₃ n' l₃ hDn hDg
          refine lnil fun h₄ R n₄ f₄ e₄ l₄ => ?_
          refine nilne (by omega) (l₄ _ _ hDg) f₄ (trb ?_)
          exact wpAny_execs_nil (kk h₄ _ ((l₁.trans l₃).trans l₄))
    refine wpAny_execs_cons (wpAny_If (isTrue_or (isTrue_and (wpAny_isTrue_value (ln (v := .bool ans) F₁.ns ma (trb ?_))))))
    cases ha : ans with
    | true =>
      refine isTrue_and (wpAny_isTrue_Compare1 (lC 9 F₁ hsf (lC 8 F₁ hlf (llne (by omega) (hS.le l₁) (hL.le l₁) (trb ?_)))) rfl)
      rw [c2 ha]
      have hft : fits = true := by rw [ha] at c1; exact (Bool.and_eq_true_iff.mp c1.symm).1
      refine isTrue_or (isTrue_and (isTrue_not (wpAny_isTrue_value (ln (v := .bool fits) F₁.ns mf (trb ?_)))))
      rw [hft]
      refine isTrue_or_nil ?_
      rw [if_neg Bool.false_ne_true]
      refine wpAny_execs_nil ?_
      exact step3
    | false =>
      refine isTrue_or (isTrue_and (isTrue_not (wpAny_isTrue_value (ln (v := .bool fits) F₁.ns mf (trb ?_)))))
      cases hf : fits with
      | true =>
        refine isTrue_or_nil ?_
        rw [if_neg Bool.false_ne_true]
        refine wpAny_execs_nil ?_
        exact step3
      | false =>
        refine isTrue_and (wpAny_isTrue_Compare1 (lC 9 F₁ hsf (lC 7 F₁ hdu (llne (by omega) (hS.le l₁) (hD.le l₁) (trb ?_)))) rfl)
        rw [c3 hf]
        refine isTrue_or_nil ?_
        rw [if_neg Bool.false_ne_true]
        refine wpAny_execs_nil ?_
        exact step3
  refine isTrue_or (wpAny_isTrue_Compare1 (ln (v := .bool ans) F.ns ma (wpAny_And2 (ln (v := .bool fits) F.ns mf (trb ?_)))) rfl)
  cases hf : fits with
  | false =>
    have e : (ans != false) = false := by rw [c1, hf]; rfl
    refine isn_bb (trb ?_)
    rw [e]
    refine isTrue_or_nil ?_
    rw [if_neg Bool.false_ne_true]
    refine wpAny_execs_nil ?_
    exact step2 h _ (Le.refl h)
  | true =>
    have e : (ans != noNil left) = false := by rw [c1, hf]; simp
    refine wpAny_Compare1 (lnil fun h₄ R n₄ f₄ e₄ l₄ => ?_)
    refine lC 8 (F.le l₄) hlf (nilnotin hu (hL.le l₄) f₄ (isn_bb (trb ?_)))
    rw [e]
    refine isTrue_or_nil ?_
    rw [if_neg Bool.false_ne_true]
    refine wpAny_execs_nil ?_
    exact step2 h₄ _ l₄
end
end Mine
end

section
open PySem PySem.W PySem.Calls PyProof.Rows Builtin Builtin.ObjectAttr PySem.SeqAt
set_option maxRecDepth 100000
namespace Mine
abbrev sSteps : Str := Str.ofString "steps"
section
variable {prog : Program} {w : World} {A : Around} {E : Value → Shared → Prop} {h : Heap} {g : Array GenState} {d : Drawn} {t : Nat} {os : OsState} {b : Heap} {fs : Nat → DA} {σ : Nat → DS} {env : Env} {m : Str → Option Value} {cv : Nat → Option Value} {L : Addr}

set_option maxHeartbeats 1000000 in
/-- steps.append((free, due)); due = left; if not answer: break -/
theorem turn_tail {sa fa du lf : Addr} {stk : List Value} {n0 : Nat} {ans : Bool} {Q : Flow → Shared → Prop} (F : LF h L m cv) (hst : m sSteps = some (.ref sa)) (hsa : h.get? sa = some (listO stk.toArray n0)) (hz : stk.length ≤ 10)
    (hfa : m sFree = some (.ref fa)) (hdu : cv 7 = some (.ref du)) (hlf : cv 8 = some (.ref lf)) (ma : m sAnswer = some (.bool ans)) (hsL : sa ∉ frameW L)
    (kk : ∀ h' tk Tp n', h.get? Tp = none → h'.IsTuple Tp #[.ref fa, .ref du] → h'.get? sa = some (listO (stk ++ [Value.ref Tp]).toArray n') → LF h' L m (upd cv 7 (some (.ref lf))) → Ext [sa, L + 8] h h' → Q (if ans = true then .next else .brk) ⟨h', g, d, tk, os⟩) :
    wpAny (model prog w) A (execs ((turnB w.params).drop 12) (lawE w.params L)) Q E ⟨h, g, d, t, os⟩ := by
  refine wpAny_execs_cons (wpAny_Expr_any (mcall (ln (v := .ref sa) F.ns hst fun pl => ?_)))
  refine list_meth hsa rfl rfl PySem.F.slot_list_append PySem.F.type_list_append ?_
  refine cw1 (wpAny_Tuple (k := 0) (spliced_cons (ln (v := .ref fa) F.ns hfa (spliced_cons (lC 7 F hdu (spliced_nil ⟨sz_small (by simp), ?_⟩))))))
  have l₁ : Le h (h.push { cls := .type "tuple", data := .seq [Value.ref fa, Value.ref du].toArray }) := push_le _ _
  have hT : Heap.IsTuple (h.push { cls := .type "tuple", data := .seq [Value.ref fa, Value.ref du].toArray }) h.objs.size #[.ref fa, .ref du] := ⟨_, Heap.get?_push_size _ rfl, rfl, _, rfl⟩
  have f₁ := fresh_size h
  dsimp only
  generalize h.push { cls := .type "tuple", data := .seq [Value.ref fa, Value.ref du].toArray } = h₁ at *
  generalize h.objs.size = Tp at *
  have hTs : Tp ≠ sa := fun e => not_some f₁ ⟨_, e ▸ hsa⟩
  refine lapp (l₁ _ _ hsa) (by omega) fun h₂ n₂ e₂ x₂ => ?_
  have F₂ : LF h₂ L m cv := (F.le l₁).ext x₂ (fun p hp => by simpa using fun e : p = sa => hsL (e ▸ hp))
  have T₂ : h₂.IsTuple Tp #[.ref fa, .ref du] := hT.at fun o e => x₂ _ _ (by simpa using hTs) e
  refine wpAny_execs_cons (wpAny_Assign_Name (lC 8 F₂ hlf (sC 7 F₂ fun h₃ F₃ x₃ => ?_)))
  have c7 : L + 1 + 7 ∈ frameW L := c_frame L (by decide)
  have hs7 : sa ≠ L + 1 + 7 := fun e => hsL (e ▸ c7)
  have hT7 : Tp ≠ L + 1 + 7 := fun e => not_some f₁ (e ▸ F.live _ c7)
  have T₃ : h₃.IsTuple Tp #[.ref fa, .ref du] := T₂.at fun o e => x₃ _ _ (by simpa using hT7) e
  have e₃ := x₃ _ _ (by simpa using hs7) e₂
  have x03 : Ext [sa, L + 8] h h₃ := ((Ext.of_le (W := [sa, L + 8]) l₁).trans x₂ (by simp)).trans x₃ (by simp)
  refine wpAny_execs_cons (wpAny_If (isTrue_not (wpAny_isTrue_value (ln (v := .bool ans) F₃.ns ma (trb ?_)))))
  cases ha : ans with
  | true =>
    rw [ha] at kk
    exact wpAny_execs_nil (wpAny_execs_nil (kk h₃ _ Tp n₂ f₁ T₃ e₃ F₃ x03))
  | false =>
    rw [ha] at kk
    exact wpAny_execs_cons (wpAny_Break (kk h₃ _ Tp n₂ f₁ T₃ e₃ F₃ x03))
end
end Mine
end

section
open PySem PySem.W PySem.Calls PyProof.Rows Builtin Builtin.ObjectAttr PySem.SeqAt
set_option maxRecDepth 100000
namespace Mine

/-! one turn -/
def tFree₀ (τ : Nat → Option Int) : List Nat := (List.range 4).filter fun k => !(τ k).isSome
def tJ (τ : Nat → Option Int) (x : Int) : Nat := (x.fmod (tFree₀ τ).length).toNat
def tK (τ : Nat → Option Int) (x : Int) : Nat := (tFree₀ τ).getD (tJ τ x) 0
def tFree (τ : Nat → Option Int) (x : Int) : List Nat := (tFree₀ τ).eraseIdx (tJ τ x)
def tV (ls : Nat → List Int) (τ : Nat → Option Int) (x : Int) : Int := (ls (tK τ x)).getD ((x.fdiv 4).fmod (ls (tK τ x)).length).toNat 0
def tτ (ls : Nat → List Int) (τ : Nat → Option Int) (x : Int) : Nat → Option Int := upd τ (tK τ x) (some (tV ls τ x))
def tPush (τ : Nat → Option Int) (x : Int) (σ : Nat → DS) : Nat → DS := pushAll (tFree τ x) σ
def tCall (kind n : Int) (ls : Nat → List Int) (row : List Nat) (τ : Nat → Option Int) (x : Int) (σ : Nat → DS) : Bool × (Nat → DS) := callP kind n (ls 0) row (tτ ls τ x) (tPush τ x σ)
def tFits (kind n : Int) (ls : Nat → List Int) (row : List Nat) (τ : Nat → Option Int) (x : Int) : Bool := soundP kind n (ls 0) (row.map (tτ ls τ x))
def tLeft (kind n : Int) (ls : Nat → List Int) (row : List Nat) (τ : Nat → Option Int) (x : Int) (due : Nat → List Int) : Nat → List Int := leftP kind n (ls 0) row (tτ ls τ x) due

/-- what the plain law says of a turn -/
structure TurnOk (kind n : Int) (ls : Nat → List Int) (row : List Nat) (τ : Nat → Option Int) (x : Int) (σ : Nat → DS) (due : Nat → List Int) : Prop where
  fp : 0 < (tFree₀ τ).length
  s1 : ∀ k, k < 4 → (σ k).sh.length ≤ 50 ∧ (σ k).hd.length ≤ 50 ∧ (σ k).st.length ≤ 90 ∧ (σ k).sh.Nodup
  s2 : ∀ k, k < 4 → ((tCall kind n ls row τ x σ).2 k).sh.length ≤ 50
  dz : ∀ k, k < 4 → (due k).length ≤ 50
  c1 : (tCall kind n ls row τ x σ).1 = (tFits kind n ls row τ x && noNil (tLeft kind n ls row τ x due))
  c2 : (tCall kind n ls row τ x σ).1 = true → eqLL (fun k => srt ((tCall kind n ls row τ x σ).2 k).sh) (tLeft kind n ls row τ x due) = true
  c3 : tFits kind n ls row τ x = false → eqLL (fun k => srt ((tCall kind n ls row τ x σ).2 k).sh) due = true
  c4 : tFits kind n ls row τ x = true → ∀ o, o < 4 → ∀ v ∈ tLeft kind n ls row τ x due o, v ∈ srt ((tCall kind n ls row τ x σ).2 o).sh

/-- what is fixed, in the base -/
structure Fix (prog : Program) (w : World) (b : Heap) (fs : Nat → DA) (la ra ca da msa : Addr) (dk : List (Int × Value)) (kind n : Int) (ls : Nat → List Int) (row : List Nat) : Prop where
  S : Sys w b
  hls : LL b la ls
  l4 : ∀ k, k < 4 → 0 < (ls k).length ∧ (ls k).length ≤ 50
  hrow : IL b ra (row.map Int.ofNat)
  r4 : ∀ k ∈ row, k < 4
  rn : row.Nodup
  rz : row.length ≤ 4
  C : Con b ca kind n msa
  hms : IL b msa (ls 0)
  hdd : ID prog w b da dk
  hdv : ∀ k, k < 4 → valueAt dk ((k : Nat) : Int) = some (.ref (fs k).a)
theorem Fix.le {prog : Program} {w : World} {b b' : Heap} {fs : Nat → DA} {la ra ca da msa : Addr} {dk : List (Int × Value)} {kind n : Int} {ls : Nat → List Int} {row : List Nat} (X : Fix prog w b fs la ra ca da msa dk kind n ls row) (l : Le b b') : Fix prog w b' fs la ra ca da msa dk kind n ls row :=
  ⟨X.S.keeps l, X.hls.le l, X.l4, X.hrow.le l, X.r4, X.rn, X.rz, X.C.le l, X.hms.le l, X.hdd.le l, X.hdv⟩
/-- what is fixed, in the frame -/
structure Fr0 (la ra ca da : Addr) (kind n : Int) (m : Str → Option Value) (cv : Nat → Option Value) : Prop where
  c1 : cv 1 = some (.ref la)
  c2 : ∃ u, cv 2 = some (.int kind u)
  c3 : ∃ u, cv 3 = some (.int n u)
  c4 : cv 4 = some (.ref ra)
  c5 : cv 5 = some (.ref da)
  mm : m sMade = some (.ref ca)
/-- the steps, in the base -/
def StepsIn (b : Heap) (vs : List Value) (st : List (List Nat × (Nat → List Int))) : Prop :=
  Paired (fun v p => ∃ T pf pd, v = .ref T ∧ b.IsTuple T #[.ref pf, .ref pd] ∧ IL b pf (p.1.map Int.ofNat) ∧ LL b pd p.2) vs st
theorem StepsIn.le {b b' : Heap} {vs : List Value} {st : List (List Nat × (Nat → List Int))} (x : StepsIn b vs st) (l : Le b b') : StepsIn b' vs st :=
  x.mono fun _ _ ⟨T, pf, pd, e, h1, h2, h3⟩ => ⟨T, pf, pd, e, h1.at fun _ e => l _ _ e, h2.le l, h3.le l⟩
/-- what stands between the turns -/
structure TS (prog : Program) (w : World) (b h : Heap) (fs : Nat → DA) (L td sa : Addr) (m : Str → Option Value) (cv : Nat → Option Value) (τ : Nat → Option Int) (σ : Nat → DS) (due : Nat → List Int) (st : List (List Nat × (Nat → List Int))) : Prop where
  F : LF h L m cv
  D : Doms h b fs σ
  T : ∃ kvs, ID prog w h td kvs ∧ Tells kvs τ ∧ KvOk kvs ∧ kvs.length = st.length
  s : ∃ vs n, h.get? sa = some (listO vs.toArray n) ∧ StepsIn b vs st
  c6 : cv 6 = some (.ref td)
  c7 : ∃ du, cv 7 = some (.ref du) ∧ LL b du due
  ms : m sSteps = some (.ref sa)
/-- the addresses that change, apart from each other and from the base -/
structure Off (b : Heap) (fs : Nat → DA) (L td sa : Addr) : Prop where
  Lb : ∀ p ∈ frameW L, b.get? p = none
  LF : ∀ p ∈ allF fs, p ∉ frameW L
  tb : b.get? td = none
  tL : td ∉ frameW L
  tF : td ∉ allF fs
  sb : b.get? sa = none
  sL : sa ∉ frameW L
  sF : sa ∉ allF fs
  ts : td ≠ sa
abbrev mutW (fs : Nat → DA) (L td sa : Addr) : List Addr := frameW L ++ allF fs ++ [td, sa]

theorem stored_new {kvs : List (Int × Value)} {i : Int} {v : Value} (hn : i ∉ kvs.map (·.1)) : stored kvs i v = kvs ++ [(i, v)] := by
  unfold stored
  rw [if_neg]
  intro h
  rw [List.any_eq_true] at h
  obtain ⟨x, h1, h2⟩ := h
  exact hn (List.mem_map.mpr ⟨x, h1, by simpa using h2⟩)
theorem valueAt_snoc {kvs : List (Int × Value)} {i j : Int} {v : Value} (hn : i ∉ kvs.map (·.1)) : valueAt (kvs ++ [(i, v)]) j = if j = i then some v else valueAt kvs j := by
  unfold valueAt
  rw [List.find?_append]
  by_cases e : j = i
  · subst e
    have : kvs.find? (fun x => decide (x.1 = j)) = none := List.find?_eq_none.mpr fun x hx => by simpa using fun q : x.1 = j => hn (q ▸ List.mem_map_of_mem hx)
    rw [this, if_pos rfl]; simp
  · rw [if_neg e]
    have : ¬ i = j := fun q => e q.symm
    cases hq : kvs.find? (fun x => decide (x.1 = j)) <;> simp [this]
theorem told_new {kvs : List (Int × Value)} {τ : Nat → Option Int} {k : Nat} (hT : Tells kvs τ) (hk : k < 4) (hn : τ k = none) : ((k : Nat) : Int) ∉ kvs.map (·.1) := fun hm => by
  have := hT k hk
  rw [hn] at this
  have h2 := valueAt_mem.mpr hm
  rw [show valueAt kvs ((k : Nat) : Int) = none from this] at h2
  cases h2
theorem tells_new {kvs : List (Int × Value)} {τ : Nat → Option Int} {k : Nat} {v : Int} {u : Tok} (hT : Tells kvs τ) (hk : k < 4) (hn : τ k = none) : Tells (stored kvs k (.int v u)) (upd τ k (some v)) := fun j hj => by
  have hnew := told_new hT hk hn
  rw [stored_new hnew, valueAt_snoc hnew]
  by_cases e : j = k
  · subst e; rw [upd_same, if_pos rfl]; exact ⟨u, rfl⟩
  · rw [upd_other _ _ e, if_neg (show ¬ ((j : Nat) : Int) = ((k : Nat) : Int) from fun q => e (Int.ofNat.inj q))]; exact hT j hj
theorem kvok_new {kvs : List (Int × Value)} {τ : Nat → Option Int} {k : Nat} {v : Int} {u : Tok} (K : KvOk kvs) (hT : Tells kvs τ) (hk : k < 4) (hn : τ k = none) : KvOk (stored kvs k (.int v u)) := by
  have hnew := told_new hT hk hn
  rw [stored_new hnew]
  refine ⟨?_, fun p hp => ?_⟩
  · rw [List.map_append]
    exact List.nodup_append.mpr ⟨K.nd, by simp, fun a ha c hc e => by simp at hc; subst hc; exact hnew (e ▸ ha)⟩
  · rcases List.mem_append.mp hp with hp | hp
    · exact K.isI p hp
    · rw [List.mem_singleton.mp hp]; exact ⟨v, u, rfl⟩
end Mine
end

section
open PySem PySem.W PySem.Calls PyProof.Rows Builtin Builtin.ObjectAttr PySem.SeqAt
set_option maxRecDepth 100000
namespace Mine
section
variable {prog : Program} {w : World} {A : Around} {E : Value → Shared → Prop} {h : Heap} {g : Array GenState} {d : Drawn} {t : Nat} {os : OsState} {b : Heap} {fs : Nat → DA} {σ : Nat → DS} {env : Env} {m : Str → Option Value} {cv : Nat → Option Value} {L : Addr}

theorem erase_mem {α : Type} {a : α} : ∀ {l : List α} {j : Nat}, a ∈ l.eraseIdx j → a ∈ l
  | [], _, h => h
  | _ :: _, 0, h => List.mem_cons_of_mem _ h
  | c :: l, j + 1, h => by
    rcases List.mem_cons.mp (show a ∈ c :: l.eraseIdx j from h) with e | h
    · exact e ▸ List.mem_cons_self
    · exact List.mem_cons_of_mem _ (erase_mem h)
theorem erase_len {α : Type} : ∀ (l : List α) (j : Nat), (l.eraseIdx j).length ≤ l.length
  | [], _ => Nat.le_refl _
  | _ :: _, 0 => Nat.le_succ _
  | _ :: l, j + 1 => Nat.succ_le_succ (erase_len l j)

theorem LL.cell {h h' : Heap} {a c : Addr} {f : Nat → List Int} {v : Option Value} (x : LL h a f) (hc : h.IsCell c v) (e : Ext [c] h h') : LL h' a f := by
  obtain ⟨its, n, ho, hl, hi⟩ := x
  have hac : a ≠ c := fun q => by
    obtain ⟨o, ho', hd⟩ := hc
    rw [q, ho'] at ho
    cases ho
    cases hd
  refine ⟨its, n, e _ _ (by simpa using hac) ho, hl, fun k hk => ?_⟩
  obtain ⟨p, hp, hI⟩ := hi k hk
  have hpc := cell_not_list hc hI
  obtain ⟨its2, n2, e2, i2⟩ := hI
  exact ⟨p, hp, its2, n2, e _ _ (by simpa using hpc) e2, i2⟩

set_option maxHeartbeats 1000000 in
theorem turn_spec {la ra ca da msa td sa : Addr} {dk : List (Int × Value)} {kind n : Int} {ls : Nat → List Int} {row : List Nat} {τ : Nat → Option Int} {due : Nat → List Int} {st : List (List Nat × (Nat → List Int))} {x : Int} {ux : Tok} {Z : List Addr} {Q : Flow → Shared → Prop}
    (X : Fix prog w b fs la ra ca da msa dk kind n ls row) (l : Le b h) (Rm : Room A 3) (O : Off b fs L td sa) (N : Fr0 la ra ca da kind n m cv) (Y : TS prog w b h fs L td sa m cv τ σ due st) (hst : st.length ≤ 4)
    (hZ : ∀ p ∈ Z, b.get? p = none) (hZl : ∀ p ∈ Z, ∃ o, h.get? p = some o) (hZm : ∀ p ∈ Z, p ∉ mutW fs L td sa) (hx : m sX = some (.int x ux)) (P : TurnOk kind n ls row τ x σ due)
    (kk : ∀ h' tk b' m' cv', Le b b' → Le b' h' → (∀ p ∈ Z, b'.get? p = none) → Off b' fs L td sa → Ext (mutW fs L td sa) h h' → Fr0 la ra ca da kind n m' cv' →
      TS prog w b' h' fs L td sa m' cv' (tτ ls τ x) (tCall kind n ls row τ x σ).2 (tLeft kind n ls row τ x due) (st ++ [(tFree τ x, due)]) →
      Q (if (tCall kind n ls row τ x σ).1 = true then .next else .brk) ⟨h', g, d, tk, os⟩) :
    wpAny (model prog w) A (execs (turnB w.params) (lawE w.params L)) Q E ⟨h, g, d, t, os⟩ := by
  obtain ⟨kvs, T, hT, K, hkl⟩ := Y.T
  obtain ⟨vs, n0, hs, hsI⟩ := Y.s
  obtain ⟨du, c7, hD⟩ := Y.c7
  obtain ⟨uk, c2⟩ := N.c2
  obtain ⟨un, c3⟩ := N.c3
  have hvl : vs.length = st.length := hsI.length
  have F := Y.F
  have D := Y.D
  have tdl : ∃ o, h.get? td = some o := let ⟨o, ho, _⟩ := T.live; ⟨o, ho⟩
  have sal : ∃ o, h.get? sa = some o := ⟨_, hs⟩
  have freshM : ∀ {p : Addr}, h.get? p = none → p ∉ mutW fs L td sa := fun hn hm => not_some hn (by
    rcases List.mem_append.mp hm with hm | hm
    · rcases List.mem_append.mp hm with hm | hm
      · exact F.live _ hm
      · exact D.live _ hm
    · simp at hm
      rcases hm with rfl | rfl
      · exact tdl
      · exact sal)
  have offM : ∀ p ∈ mutW fs L td sa, b.get? p = none := fun p hm => by
    rcases List.mem_append.mp hm with hm | hm
    · rcases List.mem_append.mp hm with hm | hm
      · exact O.Lb p hm
      · exact D.offA p hm
    · simp at hm
      rcases hm with rfl | rfl
      · exact O.tb
      · exact O.sb
  have mL : ∀ p ∈ frameW L, p ∈ mutW fs L td sa := fun p hp => List.mem_append_left _ (List.mem_append_left _ hp)
  have mF : ∀ p ∈ allF fs, p ∈ mutW fs L td sa := fun p hp => List.mem_append_left _ (List.mem_append_right _ hp)
  have mt : td ∈ mutW fs L td sa := List.mem_append_right _ (by simp)
  have ms' : sa ∈ mutW fs L td sa := List.mem_append_right _ (by simp)
  -- free
  refine turn_free X.S l Rm F Y.c6 T hT fun h₁ t₁ fa x₁ fh hI₁ F₁ => ?_
  have faM := freshM fh
  have faL : fa ∉ frameW L := fun hm => faM (mL _ hm)
  have faF : fa ∉ allF fs := fun hm => faM (mF _ hm)
  have fat : fa ≠ td := fun e => faM (e ▸ mt)
  have fas : fa ≠ sa := fun e => faM (e ▸ ms')
  have fab : b.get? fa = none := l.fresh fh
  have Lf : L ∈ frameW L := L_frame L
  have l₁ : Le b h₁ := x₁.base l (by simpa using O.Lb L Lf)
  have T₁ : ID prog w h₁ td kvs := T.ext x₁ (by simpa using fun e : td = L => O.tL (e ▸ Lf))
  have mfa : updM m sFree (.ref fa) sFree = some (.ref fa) := by simp [updM]
  have q₁ : ∀ y, y ≠ sFree → updM m sFree (.ref fa) y = m y := fun y hy => by rw [updM, if_neg hy]
  generalize updM m sFree (.ref fa) = m₁ at *
  have hf4 : ∀ k ∈ tFree₀ τ, k < 4 := fun k hk => List.mem_range.mp (List.mem_filter.mp hk).1
  have hf4l : (tFree₀ τ).length ≤ 4 := Nat.le_trans (List.length_filter_le _ _) (by simp)
  -- pop and tell
  refine turn_tell X.S l₁ O.Lb F₁ X.hls X.l4 N.c1 Y.c6 T₁ (by omega) (by rw [q₁ _ (by decide)]; exact hx) mfa hI₁ hf4 P.fp hf4l fab fat faL O.tL fun h₂ t₂ k j uk' uv hj hk x₂ hI₂ T₂ F₂ => ?_
  have hjt : j = tJ τ x := hj
  subst hjt
  have hkt : k = tK τ x := by
    unfold tK; rw [List.getD_eq_getElem?_getD]; rw [show (tFree₀ τ)[tJ τ x]? = some k from hk]; rfl
  have hk4 : k < 4 := hf4 k (List.mem_of_getElem? hk)
  have hkn : τ k = none := by
    have := (List.mem_filter.mp (List.mem_of_getElem? hk : k ∈ tFree₀ τ)).2
    cases hq : τ k with
    | none => rfl
    | some v => rw [hq] at this; cases this
  have hT₂ := tells_new (u := uv) (v := tV ls τ x) hT hk4 hkn
  have K₂ := kvok_new (u := uv) (v := tV ls τ x) K hT hk4 hkn
  have hsl : (stored kvs ((k : Nat) : Int) (.int (tV ls τ x) uv)).length = kvs.length + 1 := by rw [stored_new (told_new hT hk4 hkn)]; simp
  rw [show (ls k).getD ((x.fdiv 4).fmod (ls k).length).toNat 0 = tV ls τ x by unfold tV; rw [← hkt]] at T₂
  have eτ : upd τ k (some (tV ls τ x)) = tτ ls τ x := by unfold tτ; rw [← hkt]
  rw [eτ] at hT₂
  generalize stored kvs ((k : Nat) : Int) (.int (tV ls τ x) uv) = kvs₂ at *
  have l₂ : Le b h₂ := x₂.base l₁ (fun p hp => by
    simp at hp
    rcases hp with rfl | rfl | rfl
    · exact O.Lb _ Lf
    · exact fab
    · exact O.tb)
  have D₂ : Doms h₂ b fs σ := (D.ext x₁ (fun p hp => by simpa using fun e : p = L => O.LF p hp (e ▸ Lf))).ext x₂ (fun p hp => by
    simp
    exact ⟨fun e => O.LF p hp (e ▸ Lf), fun e => faF (e ▸ hp), fun e => O.tF (e ▸ hp)⟩)
  have mfa₂ : updM m₁ sK (.int ((k : Nat) : Int) uk') sFree = some (.ref fa) := by rw [updM, if_neg (by decide)]; exact mfa
  have q₂ : ∀ y, y ≠ sFree → y ≠ sK → updM m₁ sK (.int ((k : Nat) : Int) uk') y = m y := fun y hy hz => by rw [updM, if_neg hz]; exact q₁ y hy
  generalize updM m₁ sK (.int ((k : Nat) : Int) uk') = m₂ at *
  have hfr4 : ∀ k ∈ tFree τ x, k < 4 := fun k hk => hf4 k (erase_mem hk)
  have hfrl : (tFree τ x).length ≤ 4 := Nat.le_trans (erase_len _ _) hf4l
  have s₂ : h₂.get? sa = some (listO vs.toArray n0) := x₂ _ _ (by
    simp
    exact ⟨fun e => O.sL (e ▸ Lf), fun e => fas e.symm, fun e => O.ts e.symm⟩) (x₁ _ _ (by simpa using fun e : sa = L => O.sL (e ▸ Lf)) hs)
  have x02 : Ext (mutW fs L td sa) h h₂ := (x₁.mono (V := mutW fs L td sa) (by simpa using mL _ Lf)).trans x₂ (fun p hp => by
    simp at hp
    rcases hp with rfl | rfl | rfl
    · exact .inl (mL _ Lf)
    · exact .inr fh
    · exact .inl mt)
  -- push
  refine turn_push X.S l₂ Rm O.Lb F₂ D₂ O.LF X.hdd X.hdv N.c5 mfa₂ hI₂ hfr4 hfrl faL faF (fun k hk => ⟨(P.s1 k hk).1, (P.s1 k hk).2.1, (P.s1 k hk).2.2.1⟩) fun h₃ t₃ m₃ q₃ F₃ D₃ x₃ => ?_
  have l₃ : Le b h₃ := x₃.base l₂ (fun p hp => by
    rcases List.mem_cons.mp hp with e | hp
    · exact e ▸ O.Lb L Lf
    · exact D.offA p hp)
  have offLF : ∀ {p : Addr}, p ∉ frameW L → p ∉ allF fs → p ∉ L :: allF fs := fun h1 h2 hm => by
    rcases List.mem_cons.mp hm with e | hm
    · exact h1 (e ▸ Lf)
    · exact h2 hm
  have T₃ := T₂.ext x₃ (offLF O.tL O.tF)
  have hok : ∀ k ∈ row, (tPush τ x σ k).ok := fun k hk => by
    obtain ⟨a1, a2, a3⟩ := pushAll_keep (tFree τ x) σ k
    obtain ⟨b1, b2, b3, b4⟩ := P.s1 k (X.r4 k hk)
    exact ⟨by show (pushAll _ _ _).sh.Nodup; rw [a1]; exact b4, by show (pushAll _ _ _).sh.length ≤ 50; rw [a1]; exact b1, by show (pushAll _ _ _).hd.length ≤ 50; rw [a2]; exact b2, by show (pushAll _ _ _).st.length ≤ 100; omega⟩
  have s₃ := x₃ _ _ (offLF O.sL O.sF) s₂
  have I₃ : IL h₃ fa ((tFree τ x).map Int.ofNat) := let ⟨its, n2, e, hi⟩ := hI₂; ⟨its, n2, x₃ _ _ (offLF faL faF) e, hi⟩
  have mLF : ∀ p ∈ L :: allF fs, p ∈ mutW fs L td sa := fun p hp => by
    rcases List.mem_cons.mp hp with e | hp
    · exact e ▸ mL _ Lf
    · exact mF p hp
  -- the answer
  refine turn_answer (σ := tPush τ x σ) (τ := tτ ls τ x) (ms := ls 0) X.S l₃ Rm O.Lb F₃ D₃ O.LF X.hdd X.hdv N.c5 N.c4 X.hrow X.r4 X.rn X.rz (by rw [q₃ _ (by decide), q₂ _ (by decide) (by decide)]; exact N.mm) X.C X.hms Y.c6 T₃ hT₂ (by omega) O.tb O.tL O.tF hok fun h₄ t₄ m₄ hd q₄ mh₄ ma₄ F₄ fhd H₄ T₄ D₄ x₄ => ?_
  have l₄ : Le b h₄ := x₄.base l₃ (fun p hp => by
    rcases List.mem_cons.mp hp with e | hp
    · exact e ▸ O.Lb L Lf
    · exact D.offA p hp)
  have hdL : hd ≠ L := fun e => not_some fhd (e ▸ F₃.live L Lf)
  have s₄ := x₄ _ _ (offLF O.sL O.sF) s₃
  have I₄ : IL h₄ fa ((tFree τ x).map Int.ofNat) := let ⟨its, n2, e, hi⟩ := I₃; ⟨its, n2, x₄ _ _ (offLF faL faF) e, hi⟩
  -- fits
  refine turn_fits X.S l₄ Rm F₄ X.hls N.c1 c2 c3 N.c4 X.hrow X.r4 X.rz Y.c6 T₄ hT₂ fun h₅ t₅ F₅ x₅ => ?_
  have l₅ : Le b h₅ := x₅.base l₄ (by simpa using O.Lb L Lf)
  have T₅ := T₄.ext x₅ (by simpa using fun e : td = L => O.tL (e ▸ Lf))
  have H₅ := H₄.ext x₅ (by simpa using hdL)
  have D₅ := D₄.ext x₅ (fun p hp => by simpa using fun e : p = L => O.LF p hp (e ▸ Lf))
  have s₅ := x₅ _ _ (by simpa using fun e : sa = L => O.sL (e ▸ Lf)) s₄
  have hI₅ : IL h₅ fa ((tFree τ x).map Int.ofNat) := let ⟨its, n2, e, hi⟩ := I₄; ⟨its, n2, x₅ _ _ (by simpa using fun e : fa = L => faL (e ▸ Lf)) e, hi⟩
  have x05 : Ext (mutW fs L td sa) h h₅ := ((x02.trans x₃ (fun p hp => .inl (mLF p hp))).trans x₄ (fun p hp => .inl (mLF p hp))).trans x₅ (by simpa using Or.inl (mL _ Lf))
  have ma₅ : updM m₄ sFits (.bool (soundP kind n (ls 0) (row.map (tτ ls τ x)))) sAnswer = some (.bool (tCall kind n ls row τ x σ).1) := by rw [updM, if_neg (by decide)]; exact ma₄
  have mh₅ : updM m₄ sFits (.bool (soundP kind n (ls 0) (row.map (tτ ls τ x)))) sHanded = some (.ref hd) := by rw [updM, if_neg (by decide)]; exact mh₄
  have mf₅ : updM m₄ sFits (.bool (soundP kind n (ls 0) (row.map (tτ ls τ x)))) sFits = some (.bool (tFits kind n ls row τ x)) := by simp [updM, tFits]
  have mfa₅ : updM m₄ sFits (.bool (soundP kind n (ls 0) (row.map (tτ ls τ x)))) sFree = some (.ref fa) := by rw [updM, if_neg (by decide), q₄ _ (by decide) (by decide), q₃ _ (by decide)]; exact mfa₂
  have mst₅ : updM m₄ sFits (.bool (soundP kind n (ls 0) (row.map (tτ ls τ x)))) sSteps = some (.ref sa) := by rw [updM, if_neg (by decide), q₄ _ (by decide) (by decide), q₃ _ (by decide), q₂ _ (by decide) (by decide)]; exact Y.ms
  have mma₅ : updM m₄ sFits (.bool (soundP kind n (ls 0) (row.map (tτ ls τ x)))) sMade = some (.ref ca) := by rw [updM, if_neg (by decide), q₄ _ (by decide) (by decide), q₃ _ (by decide), q₂ _ (by decide) (by decide)]; exact N.mm
  generalize updM m₄ sFits (.bool (soundP kind n (ls 0) (row.map (tτ ls τ x)))) = m₅ at *
  -- left
  have cL : ∀ i, i < 10 → L + 1 + i ∈ frameW L := fun i hi => c_frame L hi
  have c9 : L + 9 ∈ frameW L := cL 8 (by decide)
  have c10 : L + 10 ∈ frameW L := cL 9 (by decide)
  have c8 : L + 8 ∈ frameW L := cL 7 (by decide)
  have hdM : hd ∉ frameW L := fun hm => not_some fhd (F₃.live _ hm)
  have live₅ : ∀ p ∈ mutW fs L td sa ++ Z, ∃ o, h₅.get? p = some o := fun p hm => by
    rcases List.mem_append.mp hm with hm | hm
    · rcases List.mem_append.mp hm with hm | hm
      · rcases List.mem_append.mp hm with hm | hm
        · exact F₅.live _ hm
        · exact D₅.live _ hm
      · simp at hm
        rcases hm with rfl | rfl
        · obtain ⟨o, ho, _⟩ := T₅.live; exact ⟨o, ho⟩
        · exact ⟨_, s₅⟩
    · obtain ⟨o, ho⟩ := hZl p hm
      exact ⟨o, x05 p o (hZm p hm) ho⟩
  refine turn_left X.S l₅ Rm F₅ X.hls N.c1 c2 c3 N.c4 X.hrow X.r4 X.rz Y.c6 c7 hD P.dz T₅ hT₂ fun h₆ t₆ lf hL₆ hM₆ flf F₆ x₆ => ?_
  have l₆ : Le b h₆ := x₆.base l₅ (by simpa using O.Lb _ c9)
  have T₆ := T₅.ext x₆ (by simpa using fun e : td = L + 9 => O.tL (e ▸ c9))
  have H₆ := H₅.ext x₆ (by simpa using fun e : hd = L + 9 => hdM (e ▸ c9))
  have D₆ := D₅.ext x₆ (fun p hp => by simpa using fun e : p = L + 9 => O.LF p hp (e ▸ c9))
  have s₆ := x₆ _ _ (by simpa using fun e : sa = L + 9 => O.sL (e ▸ c9)) s₅
  -- shown
  refine turn_shown X.S l₆ Rm F₆ D₆ X.hdd X.hdv N.c5 P.s2 fun h₇ t₇ sf hS₇ fsf F₇ x₇ => ?_
  have l₇ : Le b h₇ := x₇.base l₆ (by simpa using O.Lb _ c10)
  have T₇ := T₆.ext x₇ (by simpa using fun e : td = L + 10 => O.tL (e ▸ c10))
  have H₇ := H₆.ext x₇ (by simpa using fun e : hd = L + 10 => hdM (e ▸ c10))
  have D₇ := D₆.ext x₇ (fun p hp => by simpa using fun e : p = L + 10 => O.LF p hp (e ▸ c10))
  have s₇ := x₇ _ _ (by simpa using fun e : sa = L + 10 => O.sL (e ▸ c10)) s₆
  have hL₇ : LL h₇ lf (tLeft kind n ls row τ x due) := hL₆.cell (F₆.cs 9 (by decide)) x₇
  -- the tests
  refine turn_checks X.S l₇ Rm F₇ Y.c6 T₇ H₇ K₂ (by rw [upd_other _ _ (by decide), upd_same]) (upd_same _ _ _) c7 hL₇ hS₇ (hD.le l₇) mh₅ ma₅ mf₅ P.c1 P.c2 P.c3 P.c4 fun h₈ t₈ l₇₈ => ?_
  -- the tail
  have F₈ := F₇.le l₇₈
  refine turn_tail (ans := (tCall kind n ls row τ x σ).1) F₈ mst₅ (l₇₈ _ _ s₇) (by omega) mfa₅ c7 (by rw [upd_other _ _ (by decide), upd_same]) ma₅ O.sL fun h₉ t₉ Tp n₉ fTp hTp s₉ F₉ x₉ => ?_
  have x58 : Ext (mutW fs L td sa) h₅ h₈ := ((x₆.mono (V := mutW fs L td sa) (by simpa using mL _ c9)).trans x₇ (by simpa using Or.inl (mL _ c10))).trans (Ext.of_le l₇₈) (fun p hp => .inl hp)
  have x59 : Ext (mutW fs L td sa) h₅ h₉ := x58.trans x₉ (fun p hp => .inl (by
    simp at hp
    rcases hp with rfl | rfl
    · exact ms'
    · exact mL _ c8))
  have x09 : Ext (mutW fs L td sa) h h₉ := x05.trans x59 (fun p hp => .inl hp)
  have off9 : ∀ p ∈ mutW fs L td sa ++ Z, b.get? p = none := fun p hp => by
    rcases List.mem_append.mp hp with hp | hp
    · exact offM p hp
    · exact hZ p hp
  have l₉ : Le b h₉ := x09.base l (fun p hp => offM p hp)
  have lB : Le b (mask h₉ (mutW fs L td sa ++ Z)) := le_mask l₉ off9
  have inB : ∀ {p : Addr} {o : Obj}, p ∉ mutW fs L td sa ++ Z → h₉.get? p = some o → (mask h₉ (mutW fs L td sa ++ Z)).get? p = some o := fun hp e => by rw [mask_out hp]; exact e
  have faW : fa ∉ mutW fs L td sa ++ Z := fun hm => by
    rcases List.mem_append.mp hm with hm | hm
    · exact faM hm
    · exact not_some fh (hZl _ hm)
  have TpW : Tp ∉ mutW fs L td sa ++ Z := fun hm => not_some fTp (by
    rcases List.mem_append.mp hm with hm | hm
    · rcases List.mem_append.mp hm with hm | hm
      · rcases List.mem_append.mp hm with hm | hm
        · exact F₈.live _ hm
        · exact D₇.le l₇₈ |>.live _ hm
      · simp at hm
        rcases hm with rfl | rfl
        · obtain ⟨o, ho, _⟩ := (T₇.le l₇₈).live; exact ⟨o, ho⟩
        · exact ⟨_, l₇₈ _ _ s₇⟩
    · obtain ⟨o, ho⟩ := live₅ _ (List.mem_append_right _ hm)
      exact ⟨o, x58 _ o (hZm _ hm) ho⟩)
  have hLB : LL (mask h₉ (mutW fs L td sa ++ Z)) lf (tLeft kind n ls row τ x due) := hM₆ _ live₅ h₉ (((x₇.mono (V := mutW fs L td sa ++ Z) (fun p hp => by rw [List.mem_singleton.mp hp]; exact List.mem_append_left _ (mL _ c10))).trans (Ext.of_le l₇₈) (fun p hp => .inl hp)).trans x₉ (fun p hp => .inl (by
    simp only [List.mem_cons, List.not_mem_nil, or_false] at hp
    rcases hp with rfl | rfl
    · exact List.mem_append_left _ ms'
    · exact List.mem_append_left _ (mL _ c8))))
  have fa₉ : IL h₉ fa ((tFree τ x).map Int.ofNat) := by
    obtain ⟨its, n2, e, hi⟩ := hI₅
    exact ⟨its, n2, x59 _ _ faM e, hi⟩
  have maskM : ∀ p ∈ mutW fs L td sa, (mask h₉ (mutW fs L td sa ++ Z)).get? p = none := fun p hp => mask_in (List.mem_append_left _ hp)
  have lm := mask_le h₉ (mutW fs L td sa ++ Z)
  have hZB : ∀ p ∈ Z, (mask h₉ (mutW fs L td sa ++ Z)).get? p = none := fun p hp => mask_in (List.mem_append_right _ hp)
  have hTpB : (mask h₉ (mutW fs L td sa ++ Z)).IsTuple Tp #[.ref fa, .ref du] := let ⟨o, e1, e2⟩ := hTp; ⟨o, inB TpW e1, e2⟩
  have hfaB : IL (mask h₉ (mutW fs L td sa ++ Z)) fa ((tFree τ x).map Int.ofNat) := let ⟨its, n2, e, hi⟩ := fa₉; ⟨its, n2, inB faW e, hi⟩
  generalize mask h₉ (mutW fs L td sa ++ Z) = B at *
  have eans : (if (tCall kind n ls row τ x σ).1 = true then Flow.next else Flow.brk) = (if (tCall kind n ls row τ x σ).1 = true then Flow.next else Flow.brk) := rfl
  refine kk h₉ _ B m₅ _ lB lm hZB ⟨fun p hp => maskM p (mL p hp), O.LF, maskM td mt, O.tL, O.tF, maskM sa ms', O.sL, O.sF, O.ts⟩ x09
    ⟨by rw [upd_other _ _ (by decide), upd_other _ _ (by decide), upd_other _ _ (by decide)]; exact N.c1, ⟨uk, by rw [upd_other _ _ (by decide), upd_other _ _ (by decide), upd_other _ _ (by decide)]; exact c2⟩, ⟨un, by rw [upd_other _ _ (by decide), upd_other _ _ (by decide), upd_other _ _ (by decide)]; exact c3⟩, by rw [upd_other _ _ (by decide), upd_other _ _ (by decide), upd_other _ _ (by decide)]; exact N.c4, by rw [upd_other _ _ (by decide), upd_other _ _ (by decide), upd_other _ _ (by decide)]; exact N.c5, mma₅⟩
    ⟨F₉, ?_, ⟨kvs₂, ?_, hT₂, K₂, by rw [hsl, hkl, List.length_append]; rfl⟩, ⟨vs ++ [.ref Tp], n₉, s₉, Paired.snoc (hsI.le lB) ⟨Tp, fa, du, rfl, hTpB, hfaB, hD.le lB⟩⟩, by rw [upd_other _ _ (by decide), upd_other _ _ (by decide), upd_other _ _ (by decide)]; exact Y.c6, ⟨lf, upd_same _ _ _, hLB⟩, mst₅⟩
  · refine ((D₇.le l₇₈).ext x₉ (fun p hp => ?_)).rebase fun p hp => maskM p (mF p hp)
    simp
    exact ⟨fun e => O.sF (e ▸ hp), fun e => O.LF p hp (e ▸ c8)⟩
  · refine (T₇.le l₇₈).ext x₉ ?_
    simp
    exact ⟨O.ts, fun e => O.tL (e ▸ c8)⟩
end
end Mine
end

section
open PySem PySem.W PySem.Calls PyProof.Rows Builtin Builtin.ObjectAttr PySem.SeqAt
set_option maxRecDepth 100000
namespace Mine

def popOne (σ : Nat → DS) (k : Nat) : Nat → DS :=
  upd σ k ⟨(σ k).sh ++ (σ k).hd.drop ((σ k).hd.length - ((σ k).st.getLast?.getD 0 - (σ k).sh.length)), (σ k).hd.take ((σ k).hd.length - ((σ k).st.getLast?.getD 0 - (σ k).sh.length)), (σ k).st.dropLast⟩
def popAll (fr : List Nat) (σ : Nat → DS) : Nat → DS := fr.foldl popOne σ
/-- a state that may be popped -/
structure PopOk (x : DS) : Prop where
  ne : x.st ≠ []
  lo : x.sh.length ≤ x.st.getLast?.getD 0
  hi : x.st.getLast?.getD 0 - x.sh.length ≤ x.hd.length
  s1 : x.sh.length ≤ 50
  s2 : x.hd.length ≤ 50
  s3 : x.st.length ≤ 100

theorem ints_snoc : ∀ {vs : List Value} {ns : List Int} {a : Int}, IntsAre vs (ns ++ [a]) → ∃ ws u, vs = ws ++ [.int a u] ∧ IntsAre ws ns
  | _, [], a, .cons _ t .nil => ⟨[], t, rfl, .nil⟩
  | _, n :: ns, a, .cons _ t h => by
    obtain ⟨ws, u, rfl, hw⟩ := ints_snoc (ns := ns) h
    exact ⟨_ :: ws, u, rfl, .cons _ t hw⟩
theorem ints_take : ∀ {vs : List Value} {ns : List Int}, IntsAre vs ns → ∀ j, IntsAre (vs.take j) (ns.take j)
  | _, _, .nil, j => by simp; exact .nil
  | _, _, .cons n t h, 0 => .nil
  | _, _, .cons n t h, j + 1 => .cons n t (ints_take h j)
theorem ints_drop : ∀ {vs : List Value} {ns : List Int}, IntsAre vs ns → ∀ j, IntsAre (vs.drop j) (ns.drop j)
  | _, _, .nil, j => by simp; exact .nil
  | _, _, .cons n t h, 0 => .cons n t h
  | _, _, .cons n t h, j + 1 => ints_drop h j

section
variable {prog : Program} {w : World} {A : Around} {E : Value → Shared → Prop} {h : Heap} {g : Array GenState} {d : Drawn} {t : Nat} {os : OsState} {b : Heap} {fs : Nat → DA} {σ : Nat → DS} {env : Env} {m : Str → Option Value} {cv : Nat → Option Value} {L : Addr}

theorem pop_at {k : Nat} {Q : Value → Shared → Prop} (S : Sys w b) (l : Le b h) (Rm : Room A 1) (D : Doms h b fs σ) (hk : k < 4) (hs : PopOk (σ k))
    (kk : ∀ h' tk, Doms h' b fs (popOne σ k) → Ext (allF fs) h h' → Q .none ⟨h', g, d, tk, os⟩) :
    wpAny (model prog w) A (call (.ref 87) [.ref (fs k).a]) Q E ⟨h, g, d, t, os⟩ := by
  obtain ⟨its, hh, ss, Dk, i1, i2, i3⟩ := D.at_ k hk
  obtain ⟨ne, lo, hi, s1, s2, s3⟩ := hs
  have l1 := i1.length
  have l2 := i2.length
  have l3 := i3.length
  rw [List.length_map] at l3
  have hq : (σ k).st.getLast?.getD 0 = (σ k).st.getLast ne := by rw [List.getLast?_eq_some_getLast ne]; rfl
  rw [hq] at lo hi
  have est : (σ k).st = (σ k).st.dropLast ++ [(σ k).st.getLast ne] := (List.dropLast_concat_getLast ne).symm
  rw [est, List.map_append] at i3
  obtain ⟨ws, u, rfl, hw⟩ := ints_snoc i3
  have hwl : ws.length ≤ 100 := by rw [List.length_append] at l3; omega
  refine pop_spec S l Rm Dk (D.off k hk) (by omega) (by omega) (by omega) (by omega) (by omega) fun h' tk D' x => ?_
  refine kk h' tk (D.set hk (x.mono (by simp [DA.foot])) ⟨_, _, _, D', ?_, ?_, hw⟩) (x.mono ?_)
  · rw [l1, l2, hq]; exact IntsAre.append i1 (ints_drop i2 _)
  · rw [l1, l2, hq]; exact ints_take i2 _
  · intro p hp
    exact foot_all hk p (by simp at hp; rcases hp with rfl | rfl | rfl <;> simp [DA.foot])

set_option maxHeartbeats 1000000 in
/-- for other in free: domains[other].popState() -/
theorem back_pop {da fa : Addr} {dk : List (Int × Value)} {free : List Nat} {Q : Flow → Shared → Prop} (S : Sys w b) (l : Le b h) (Rm : Room A 3) (hLb : ∀ p ∈ frameW L, b.get? p = none) (F : LF h L m cv) (D : Doms h b fs σ) (hLF : ∀ p ∈ allF fs, p ∉ frameW L)
    (hdd : ID prog w b da dk) (hdv : ∀ k, k < 4 → valueAt dk ((k : Nat) : Int) = some (.ref (fs k).a)) (hda : cv 5 = some (.ref da)) (hfa : m sFree = some (.ref fa)) (hI : IL b fa (free.map Int.ofNat)) (hf4 : ∀ k ∈ free, k < 4)
    (hok : ∀ (i k : Nat), free[i]? = some k → PopOk (popAll (free.take i) σ k))
    (kk : ∀ h' tk m', (∀ y, y ≠ sOther → m' y = m y) → LF h' L m' cv → Doms h' b fs (popAll free σ) → Ext (L :: allF fs) h h' →
      wpAny (model prog w) A (execs ((backB w.params).drop 2) (lawE w.params L)) Q E ⟨h', g, d, tk, os⟩) :
    wpAny (model prog w) A (execs ((backB w.params).drop 1) (lawE w.params L)) Q E ⟨h, g, d, t, os⟩ := by
  obtain ⟨its, n0, ho, hi⟩ := hI
  have hil := hi.length
  rw [List.length_map] at hil
  have hLF' : L ∉ allF fs := fun hm => hLF L hm (L_frame L)
  have hX0 : ∀ p ∈ L :: allF fs, b.get? p = none := fun p hp => by
    rcases List.mem_cons.mp hp with e | hp
    · exact e ▸ hLb L (L_frame L)
    · exact D.offA p hp
  have Xl : ∀ p ∈ L :: allF fs, ∃ o, h.get? p = some o := fun p hp => by
    rcases List.mem_cons.mp hp with e | hp
    · exact e ▸ F.live L (L_frame L)
    · exact D.live p hp
  have faX : fa ∉ L :: allF fs := fun hm => not_some (hX0 _ hm) ⟨_, ho⟩
  refine wpAny_execs_cons (for_list Rm.hh (ln (v := .ref fa) F.ns hfa ⟨h, g, d, _, os, fa, its, n0, L :: allF fs, rfl, rfl, l _ _ ho, faX, Xl, fun I hI => ⟨fun i h₁ => ∃ m₁, LF h₁ L m₁ cv ∧ (∀ y, y ≠ sOther → m₁ y = m y) ∧ Doms h₁ b fs (popAll (free.take i) σ) ∧ Ext (L :: allF fs) h h₁, fun h' l' => ?_, ?_, ?_, ?_⟩⟩))
  · exact ⟨m, F.le l', fun _ _ => rfl, by simpa [popAll] using D.le l', Ext.of_le l'⟩
  · rintro i ha' hb' ⟨m₁, F₁, q₁, D₁, x₁⟩ x
    have hIX : ∀ p ∈ L :: allF fs, p ≠ I := fun p hp e => not_some hI (e ▸ Xl p hp)
    refine ⟨m₁, F₁.ext x (fun p hp hm => by rw [List.mem_singleton.mp hm] at hp; exact not_some hI (F.live I hp)), q₁, D₁.ext x (fun p hp => by simpa using hIX p (List.mem_cons_of_mem _ hp)), x₁.trans x (fun p hp => .inr ?_)⟩
    rw [List.mem_singleton.mp hp]; exact hI
  · rintro i v h₁ tk E' hv ⟨m₁, F₁, q₁, D₁, x₁⟩
    obtain ⟨vi, u, rfl, hvi⟩ := hi.at i v hv
    rw [List.getElem?_map] at hvi
    obtain ⟨k, hk, rfl⟩ := Option.map_eq_some_iff.mp hvi
    have hk4 := hf4 k (List.mem_of_getElem? hk)
    have htake : free.take (i + 1) = free.take i ++ [k] := by rw [List.take_add_one, hk]; rfl
    have hp : popAll (free.take (i + 1)) σ = popOne (popAll (free.take i) σ) k := by
      rw [htake]; unfold popAll; rw [List.foldl_append]; rfl
    have l₁ : Le b h₁ := x₁.base l hX0
    refine sL F₁ fun h₂ u₂ F₂ x₂ => ?_
    have l₂ : Le b h₂ := x₂.base l₁ (by simpa using hLb L (L_frame L))
    have D₂ := D₁.ext x₂ (fun p hp => by simpa using fun e : p = L => hLF' (e ▸ hp))
    refine wpAny_execs_cons (wpAny_Expr_any (mcall (dsub (lC 5 F₂ hda (ln (v := .int ((k : Nat) : Int) u) F₂.ns (by simp [updM]) ⟨h₂, g, d, _, os, da, dk, k, u, _, rfl, rfl, rfl, hdd.le l₂, hdv k hk4, fun tk₄ => fun pl => ?_⟩)))))
    obtain ⟨its3, hh3, ss3, Dk3, _⟩ := D₂.at_ k hk4
    refine dom_meth S l₂ Dk3 (f_pop _) (t_87 _) (by decide) (by decide) ?_
    refine cwg rfl (ev0 ⟨kp_fn S l₂ rfl, ?_⟩)
    refine pop_at S l₂ ⟨Rm.hh, by have := Rm.hd; omega, by have := Rm.hu; omega⟩ D₂ hk4 (hok i k hk) fun h₃ t₃ D₃ x₃ => ?_
    refine wpAny_execs_nil ⟨h₃, t₃, rfl, (x₂.mono (by simp)).trans x₃ (fun p hp => .inl (List.mem_cons_of_mem _ hp)), _, F₂.ext x₃ (fun p hp hm => hLF p hm hp), fun y hy => ?_, by rw [hp]; exact D₃, (x₁.trans x₂ (by simp)).trans x₃ (fun p hp => .inl (List.mem_cons_of_mem _ hp))⟩
    rw [updM, if_neg hy]; exact q₁ y hy
  · rintro h₁ tk ⟨m₁, F₁, q₁, D₁, x₁⟩
    rw [hil, List.take_length] at D₁
    exact kk h₁ tk m₁ q₁ F₁ D₁ x₁
end
end Mine
end

section
open PySem PySem.W PySem.Calls PyProof.Rows Builtin Builtin.ObjectAttr PySem.SeqAt
set_option maxRecDepth 100000
namespace Mine
/-- what stands between the steps back -/
structure BS (prog : Program) (w : World) (b h : Heap) (fs : Nat → DA) (L sa : Addr) (m : Str → Option Value) (cv : Nat → Option Value) (σ : Nat → DS) (st : List (List Nat × (Nat → List Int))) : Prop where
  F : LF h L m cv
  D : Doms h b fs σ
  s : ∃ vs n, h.get? sa = some (listO vs.toArray n) ∧ StepsIn b vs st
  ms : m sSteps = some (.ref sa)
structure OffB (b : Heap) (fs : Nat → DA) (L sa : Addr) : Prop where
  Lb : ∀ p ∈ frameW L, b.get? p = none
  LF : ∀ p ∈ allF fs, p ∉ frameW L
  sb : b.get? sa = none
  sL : sa ∉ frameW L
  sF : sa ∉ allF fs
abbrev mutB (fs : Nat → DA) (L sa : Addr) : List Addr := frameW L ++ allF fs ++ [sa]
theorem paired_unsnoc {α β : Type} {F : α → β → Prop} {q : β} : ∀ (l₂ : List β) {l₁ : List α}, Paired F l₁ (l₂ ++ [q]) → ∃ ws a, l₁ = ws ++ [a] ∧ Paired F ws l₂ ∧ F a q
  | [], l₁, h => by
    cases h with
    | cons hf h => cases h; exact ⟨[], _, rfl, .nil, hf⟩
  | p :: l₂, l₁, h => by
    cases h with
    | cons hf h =>
      obtain ⟨ws, a, rfl, hw, ha⟩ := paired_unsnoc l₂ h
      exact ⟨_ :: ws, a, rfl, .cons hf hw, ha⟩
theorem steps_snoc {b : Heap} {vs : List Value} {st : List (List Nat × (Nat → List Int))} {p : List Nat × (Nat → List Int)} (h : StepsIn b vs (st ++ [p])) :
    ∃ ws T pf pd, vs = ws ++ [.ref T] ∧ StepsIn b ws st ∧ b.IsTuple T #[.ref pf, .ref pd] ∧ IL b pf (p.1.map Int.ofNat) ∧ LL b pd p.2 := by
  obtain ⟨ws, a, rfl, hw, T, pf, pd, rfl, h1, h2, h3⟩ := paired_unsnoc st h
  exact ⟨ws, T, pf, pd, rfl, hw, h1, h2, h3⟩

section
variable {prog : Program} {w : World} {A : Around} {E : Value → Shared → Prop} {h : Heap} {g : Array GenState} {d : Drawn} {t : Nat} {os : OsState} {b : Heap} {fs : Nat → DA} {σ : Nat → DS} {env : Env} {m : Str → Option Value} {cv : Nat → Option Value} {L : Addr}

set_option maxHeartbeats 1000000 in
theorem back_spec {la ra ca da msa sa : Addr} {dk : List (Int × Value)} {kind n : Int} {ls : Nat → List Int} {row : List Nat} {st : List (List Nat × (Nat → List Int))} {fr : List Nat} {du : Nat → List Int} {Q : Flow → Shared → Prop}
    (X : Fix prog w b fs la ra ca da msa dk kind n ls row) (l : Le b h) (Rm : Room A 3) (O : OffB b fs L sa) (N : Fr0 la ra ca da kind n m cv) (Y : BS prog w b h fs L sa m cv σ (st ++ [(fr, du)])) (hst : st.length ≤ 10)
    (hf4 : ∀ k ∈ fr, k < 4) (hok : ∀ (i k : Nat), fr[i]? = some k → PopOk (popAll (fr.take i) σ k)) (hz : ∀ k, k < 4 → (popAll fr σ k).sh.length ≤ 50) (heq : eqLL (fun k => srt (popAll fr σ k).sh) du = true)
    (kk : ∀ h' tk m' cv', Ext (mutB fs L sa) h h' → Fr0 la ra ca da kind n m' cv' → BS prog w b h' fs L sa m' cv' (popAll fr σ) st → Q .next ⟨h', g, d, tk, os⟩) :
    wpAny (model prog w) A (execs (backB w.params) (lawE w.params L)) Q E ⟨h, g, d, t, os⟩ := by
  obtain ⟨vs, n0, hs, hsI⟩ := Y.s
  obtain ⟨ws, T, pf, pd, rfl, hw, hT, hpf, hpd⟩ := steps_snoc hsI
  have hwl : ws.length = st.length := hw.length
  have hpf : IL b pf (fr.map Int.ofNat) := hpf
  have hpd : LL b pd du := hpd
  have Lf := L_frame L
  have mL : ∀ p ∈ frameW L, p ∈ mutB fs L sa := fun p hp => List.mem_append_left _ (List.mem_append_left _ hp)
  have mF : ∀ p ∈ allF fs, p ∈ mutB fs L sa := fun p hp => List.mem_append_left _ (List.mem_append_right _ hp)
  have ms' : sa ∈ mutB fs L sa := List.mem_append_right _ (by simp)
  have c8 : L + 1 + 7 ∈ frameW L := c_frame L (by decide)
  -- free, due = steps.pop()
  refine wpAny_execs_cons (Assign_Tuple (mcall (ln (v := .ref sa) Y.F.ns Y.ms fun pl => ?_)))
  refine list_meth hs rfl rfl PySem.F.slot_list_pop PySem.F.type_list_pop ?_
  refine cw0 (lpop hs (by omega) fun h₁ n₁ e₁ x₁ => ?_)
  have l₁ : Le b h₁ := x₁.base l (by simpa using O.sb)
  have F₁ := Y.F.ext x₁ (fun p hp => by simpa using fun e : p = sa => O.sL (e ▸ hp))
  have D₁ := Y.D.ext x₁ (fun p hp => by simpa using fun e : p = sa => O.sF (e ▸ hp))
  refine asg2 Rm.hh (hT.at fun _ e => l₁ _ _ e) fun h₂ l₂ => ?_
  refine sL (F₁.le l₂) fun h₃ u₃ F₃ x₃ => ?_
  refine sC 7 F₃ fun h₄ F₄ x₄ => ?_
  have x24 : Ext (mutB fs L sa) h₁ h₄ := ((Ext.of_le (W := mutB fs L sa) l₂).trans x₃ (by simpa using Or.inl (mL _ Lf))).trans x₄ (by simpa using Or.inl (mL _ c8))
  have lb₂ : Le b h₂ := l₁.trans l₂
  have lb₃ : Le b h₃ := x₃.base lb₂ (by simpa using O.Lb _ Lf)
  have lb₄ : Le b h₄ := x₄.base lb₃ (by simpa using O.Lb _ c8)
  have D₄ := ((D₁.le l₂).ext x₃ (fun p hp => by simpa using fun e : p = L => O.LF p hp (e ▸ Lf))).ext x₄ (fun p hp => by simpa using fun e : p = L + 1 + 7 => O.LF p hp (e ▸ c8))
  have e₄ := x₄ _ _ (by simpa using fun e : sa = L + 1 + 7 => O.sL (e ▸ c8)) (x₃ _ _ (by simpa using fun e : sa = L => O.sL (e ▸ Lf)) (l₂ _ _ e₁))
  have N₄ : Fr0 la ra ca da kind n (updM m sFree (.ref pf)) (upd cv 7 (some (.ref pd))) :=
    ⟨by rw [upd_other _ _ (by decide)]; exact N.c1, by rw [upd_other _ _ (by decide)]; exact N.c2, by rw [upd_other _ _ (by decide)]; exact N.c3, by rw [upd_other _ _ (by decide)]; exact N.c4, by rw [upd_other _ _ (by decide)]; exact N.c5, by rw [updM, if_neg (by decide)]; exact N.mm⟩
  have mf : updM m sFree (.ref pf) sFree = some (.ref pf) := by simp [updM]
  have mst : updM m sFree (.ref pf) sSteps = some (.ref sa) := by rw [updM, if_neg (by decide)]; exact Y.ms
  have c7 : upd cv 7 (some (.ref pd)) 7 = some (.ref pd) := upd_same _ _ _
  generalize updM m sFree (.ref pf) = m₄ at *
  generalize upd cv 7 (some (.ref pd)) = cv₄ at *
  refine back_pop X.S lb₄ Rm O.Lb F₄ D₄ O.LF X.hdd X.hdv N₄.c5 mf hpf hf4 hok fun h₅ t₅ m₅ q₅ F₅ D₅ x₅ => ?_
  have lb₅ : Le b h₅ := x₅.base lb₄ (fun p hp => by
    rcases List.mem_cons.mp hp with e | hp
    · exact e ▸ O.Lb L Lf
    · exact Y.D.offA p hp)
  have e₅ := x₅ _ _ (fun hm => by
    rcases List.mem_cons.mp hm with e | hm
    · exact O.sL (e ▸ Lf)
    · exact O.sF hm) e₄
  have x05 : Ext (mutB fs L sa) h h₅ := ((x₁.mono (V := mutB fs L sa) (fun p hp => by rw [List.mem_singleton.mp hp]; exact ms')).trans x24 (fun p hp => .inl hp)).trans x₅ (fun p hp => .inl (by
    rcases List.mem_cons.mp hp with e | hp
    · exact e ▸ mL _ Lf
    · exact mF p hp))
  -- the test
  refine wpAny_execs_cons (wpAny_If (wpAny_isTrue_Compare1 ?_ rfl))
  refine comp_eval .loc (fun v y h' => match v with | .int i _ => ∃ p, y = .ref p ∧ IL h' p (srt (popAll fr σ i.toNat).sh) | _ => False) (fun _ => true) rfl ⟨rfl, fun _ => rfl⟩ (by decide) ?_
  refine it_range4 X.S lb₅ Rm.hh fun h₆ it t₆ hit => ?_
  refine ⟨h₆, g, d, _, os, h₅, 4, _, rfl, hit, by decide, ?_, ?_⟩
  · rintro o v C1 ho tk ho4 ⟨uo, rfl⟩ lo ⟨m₃, hn₃, hm₃⟩ E''
    refine wpAny_pure ⟨rfl, ho, _, rfl, Le.refl _, fun _ => ?_⟩
    have lbo : Le b ho := lb₅.trans lo
    refine ncall (bname X.S lbo (b_sorted _) bb_sorted (by decide) (cw1 (dsub (lC 5 (F₅.le lo) N₄.c5 (ln (v := .int ((o : Nat) : Int) uo) hn₃ hm₃ ⟨ho, g, d, _, os, da, dk, o, uo, _, rfl, rfl, rfl, X.hdd.le lbo, X.hdv o ho4, fun tk₄ => ?_⟩)))))
    refine sorted_at Rm.hh X.S lbo (D₅.le lo) ho4 (by have := hz o ho4; omega) fun h₂ t₂ r hI hr l₂ => ?_
    refine ⟨h₂, _, rfl, l₂, fun h₃ l₃ k₃ => ⟨r, rfl, ?_⟩⟩
    obtain ⟨its, n, e, hi⟩ := hI
    exact ⟨its, n, k₃ _ _ hr e, hi⟩
  · intro D h₇ tk ys vs n' hlen hP hF l₇ hDn hDg
    obtain ⟨y4, yk⟩ := four_of (G := fun k y => ∃ p, y = .ref p ∧ IL h₇ p (srt (popAll fr σ k).sh)) hlen hP hF
    have hS : LL h₇ D (fun k => srt (popAll fr σ k).sh) := ⟨ys, n', hDg, y4, fun k hk => by
      obtain ⟨y, hy, p, rfl, hp⟩ := yk k hk
      exact ⟨p, hy, hp⟩⟩
    refine lC 7 (F₅.le l₇) c7 (llne (by have := Rm.hu; omega) hS (hpd.le (lb₅.trans l₇)) (trb ?_))
    rw [heq]
    rw [Bool.not_true, if_neg Bool.false_ne_true]
    refine wpAny_execs_nil ?_
    refine wpAny_execs_nil ?_
    refine kk h₇ _ m₅ cv₄ (x05.trans (Ext.of_le l₇) (fun p hp => .inl hp)) ⟨N₄.c1, N₄.c2, N₄.c3, N₄.c4, N₄.c5, by rw [q₅ _ (by decide)]; exact N₄.mm⟩ ⟨F₅.le l₇, D₅.le l₇, ⟨ws, n₁, l₇ _ _ e₅, hw⟩, by rw [q₅ _ (by decide)]; exact mst⟩
end
end Mine
end

section
open PySem PySem.W PySem.Calls PyProof.Rows Builtin Builtin.ObjectAttr PySem.SeqAt
set_option maxRecDepth 100000
namespace Mine
/-- the steps back go well (the last step first) -/
def UnwindOk : List (List Nat × (Nat → List Int)) → (Nat → DS) → Prop
  | [], _ => True
  | (fr, du) :: r, σ => (∀ k ∈ fr, k < 4) ∧ (∀ (i k : Nat), fr[i]? = some k → PopOk (popAll (fr.take i) σ k)) ∧ (∀ k, k < 4 → (popAll fr σ k).sh.length ≤ 50) ∧ eqLL (fun k => srt (popAll fr σ k).sh) du = true ∧ UnwindOk r (popAll fr σ)
def unwind : List (List Nat × (Nat → List Int)) → (Nat → DS) → (Nat → DS)
  | [], σ => σ
  | (fr, _) :: r, σ => unwind r (popAll fr σ)

section
variable {prog : Program} {w : World} {A : Around} {E : Value → Shared → Prop} {h : Heap} {g : Array GenState} {d : Drawn} {t : Nat} {os : OsState} {b : Heap} {fs : Nat → DA} {σ : Nat → DS} {env : Env} {m : Str → Option Value} {cv : Nat → Option Value} {L : Addr}

/-- l != [] by lengths -/
theorem lne_nil {a c : Addr} {vs : List Value} {n n' : Nat} {Q : Value → Shared → Prop} (hu : A.units + 64 < cLine) (ha : h.get? a = some (listO vs.toArray n)) (hc : h.get? c = some (listO [].toArray n')) (k : Q (.bool (!vs.isEmpty)) ⟨h, g, d, t, os⟩) :
    wpAny (model prog w) A (compareOp .NotEq (.ref a) (.ref c)) Q E ⟨h, g, d, t, os⟩ := by
  cases vs with
  | nil => exact nilne hu ha hc k
  | cons v r =>
    exact RcNeAt.lists_lengths (items := (v :: r).toArray) (items2 := [].toArray) ⟨_, ha, rfl, _, rfl⟩ ⟨_, hc, rfl, _, rfl⟩ (by simp) (by omega) prog w E Q k

set_option maxHeartbeats 1000000 in
/-- while steps != []: .. -/
theorem while_spec {la ra ca da msa sa : Addr} {dk : List (Int × Value)} {kind n : Int} {ls : Nat → List Int} {row : List Nat} {st : List (List Nat × (Nat → List Int))} {Q : Flow → Shared → Prop}
    (X : Fix prog w b fs la ra ca da msa dk kind n ls row) (l : Le b h) (Rm : Room A 3) (O : OffB b fs L sa) (N : Fr0 la ra ca da kind n m cv) (Y : BS prog w b h fs L sa m cv σ st) (hst : st.length ≤ 10)
    (U : UnwindOk st.reverse σ)
    (kk : ∀ h' tk m' cv', Ext (mutB fs L sa) h h' → Fr0 la ra ca da kind n m' cv' → LF h' L m' cv' → Doms h' b fs (unwind st.reverse σ) → Q .next ⟨h', g, d, tk, os⟩) :
    wpAny (model prog w) A (execs ((passB w.params).drop 4) (lawE w.params L)) Q E ⟨h, g, d, t, os⟩ := by
  have offM : ∀ p ∈ mutB fs L sa, b.get? p = none := fun p hm => by
    rcases List.mem_append.mp hm with hm | hm
    · rcases List.mem_append.mp hm with hm | hm
      · exact O.Lb p hm
      · exact Y.D.offA p hm
    · rw [List.mem_singleton.mp hm]; exact O.sb
  refine wpAny_execs_cons (wpAny_While ?_)
  refine codeAny_whileLoop (fun k s => ∃ h' tk m' cv' σ' st', s = ⟨h', g, d, tk, os⟩ ∧ Ext (mutB fs L sa) h h' ∧ Fr0 la ra ca da kind n m' cv' ∧ BS prog w b h' fs L sa m' cv' σ' st' ∧ st'.length ≤ 10 ∧ UnwindOk st'.reverse σ' ∧ unwind st'.reverse σ' = unwind st.reverse σ ∧ k = st'.length) ?_ st.length
    ⟨h, t, m, cv, σ, st, rfl, Ext.of_le (Le.refl h), N, Y, hst, U, rfl, rfl⟩
  rintro k s ⟨h', tk, m', cv', σ', st', rfl, x', N', Y', hst', U', hu, rfl⟩
  obtain ⟨vs, n0, hs, hsI⟩ := Y'.s
  have hvl : vs.length = st'.length := hsI.length
  refine wpAny_isTrue_Compare1 (ln (v := .ref sa) Y'.F.ns Y'.ms (lnil fun h₂ r n₂ e₂ f₂ l₂ => lne_nil (by have := Rm.hu; omega) (l₂ _ _ hs) e₂ (trb ?_))) rfl
  have x₂ : Ext (mutB fs L sa) h h₂ := x'.trans (Ext.of_le l₂) (fun p hp => .inl hp)
  have Y₂ : BS prog w b h₂ fs L sa m' cv' σ' st' := ⟨Y'.F.le l₂, Y'.D.le l₂, ⟨vs, n0, l₂ _ _ hs, hsI⟩, Y'.ms⟩
  rcases List.eq_nil_or_concat st' with e | ⟨st2, p, e⟩
  · subst e
    have : vs = [] := List.eq_nil_of_length_eq_zero hvl
    subst this
    rw [show (!([] : List Value).isEmpty) = false from rfl, if_neg Bool.false_ne_true]
    refine wpAny_execs_nil ?_
    refine wpAny_execs_nil ?_
    refine kk h₂ _ m' cv' x₂ N' Y₂.F ?_
    rw [← hu]; exact Y₂.D
  · obtain ⟨fr, du⟩ := p
    rw [List.concat_eq_append] at e
    subst e
    have : (!vs.isEmpty) = true := by
      cases vs with
      | nil => simp at hvl
      | cons _ _ => rfl
    rw [this, if_pos rfl]
    rw [List.reverse_append] at U' hu
    obtain ⟨u1, u2, u3, u4, u5⟩ := U'
    refine back_spec X (x₂.base l offM) Rm O N' Y₂ (by simp at hst'; omega) u1 u2 u3 u4 fun h₃ t₃ m₃ cv₃ x₃ N₃ Y₃ => ?_
    exact ⟨st2.length, by simp, h₃, t₃, m₃, cv₃, _, st2, rfl, x₂.trans x₃ (fun p hp => .inl hp), N₃, Y₃, by simp at hst'; omega, u5, hu, rfl⟩
end
end Mine
end

section
open PySem PySem.W PySem.Calls PyProof.Rows Builtin Builtin.ObjectAttr PySem.SeqAt
set_option maxRecDepth 100000
namespace Mine
section
variable {prog : Program} {w : World} {A : Around} {E : Value → Shared → Prop} {h : Heap} {g : Array GenState} {d : Drawn} {t : Nat} {os : OsState} {b : Heap} {env : Env}

/-- list + list -/
theorem ladd {a c : Addr} {xs ys : List Value} {n n' : Nat} {Q : Value → Shared → Prop} (ha : h.get? a = some (listO xs.toArray n)) (hc : h.get? c = some (listO ys.toArray n')) (hz : xs.length + ys.length ≤ 1000)
    (k : ∀ h' r n2, h'.get? r = some (listO (xs ++ ys).toArray n2) → h.get? r = none → Le h h' → Q (.ref r) ⟨h', g, d, t, os⟩) : wpAny (model prog w) A (binaryOp .Add (.ref a) (.ref c)) Q E ⟨h, g, d, t, os⟩ := by
  refine PySem.P.add_list (items := xs.toArray) (items2 := ys.toArray) ha hc (k _ _ 0 ?_ (fresh_size h) (push_le _ _)) (by rw [sizeLine_eq]; simp; omega)
  have e := Heap.get?_push_size h (o := { cls := .type "list", data := .seq (xs.toArray ++ ys.toArray) }) rfl
  simpa using e
end
end Mine
end

section
open PySem PySem.W PySem.Calls PyProof.Rows Builtin Builtin.ObjectAttr PySem.SeqAt
set_option maxRecDepth 100000
namespace Mine
/-- what a pass carries -/
structure St4 where
  τ : Nat → Option Int
  σ : Nat → DS
  due : Nat → List Int
  st : List (List Nat × (Nat → List Int))
def stepT (kind n : Int) (ls : Nat → List Int) (row : List Nat) (x : Int) (s : St4) : St4 :=
  ⟨tτ ls s.τ x, (tCall kind n ls row s.τ x s.σ).2, tLeft kind n ls row s.τ x s.due, s.st ++ [(tFree s.τ x, s.due)]⟩
def runT (kind n : Int) (ls : Nat → List Int) (row : List Nat) : List Int → St4 → St4
  | [], s => s
  | x :: r, s => if (tCall kind n ls row s.τ x s.σ).1 = true then runT kind n ls row r (stepT kind n ls row x s) else stepT kind n ls row x s
def RunOk (kind n : Int) (ls : Nat → List Int) (row : List Nat) : List Int → St4 → Prop
  | [], _ => True
  | x :: r, s => TurnOk kind n ls row s.τ x s.σ s.due ∧ ((tCall kind n ls row s.τ x s.σ).1 = true → RunOk kind n ls row r (stepT kind n ls row x s))
end Mine
end

section
open PySem PySem.W PySem.Calls PyProof.Rows Builtin Builtin.ObjectAttr
set_option maxRecDepth 100000
namespace Mine
section
variable {prog : Program} {w : World} {A : Around} {E : Value → Shared → Prop} {env : Env}
/-- for x in a list; each turn knows that the iterator lives -/
theorem for_listI {x : Str} {px pos : Pos} {iter : Expr} {body : List Stmt} {s : Shared} {Q : Flow → Shared → Prop} (hh : A.handled = none)
    (h : wpAny (model prog w) A (eval iter env) (fun xv s₁ => ∃ h g d t os a xs n X, s₁ = ⟨h, g, d, t, os⟩ ∧ xv = .ref a ∧ h.get? a = some (listO (List.toArray xs) n) ∧ a ∉ X ∧ (∀ p ∈ X, ∃ o, h.get? p = some o) ∧
      ∀ I, h.get? I = none → ∃ J : Nat → Heap → Prop, (∀ h', Le h h' → J 0 h') ∧ (∀ i h₁ h₂, J i h₁ → Ext [I] h₁ h₂ → J i h₂) ∧
        (∀ i v h₁ tk E', xs[i]? = some v → J i h₁ → (∃ o, h₁.get? I = some o) → wpAny (model prog w) A (storeName env x v) (fun _ s₂ => wpAny (model prog w) A (execs body env) (After Q fun s₃ => ∃ h₃ tk₃, s₃ = ⟨h₃, g, d, tk₃, os⟩ ∧ Ext X h₁ h₃ ∧ J (i + 1) h₃) E' s₂) E' ⟨h₁, g, d, tk, os⟩) ∧
        (∀ h₁ tk, J xs.length h₁ → Q .next ⟨h₁, g, d, tk, os⟩)) E s)
    (hs : ∀ x, foldedSetIterable iter env x = pure x := by intro _; rfl) :
    wpAny (model prog w) A (exec (.For (.Name x px) iter body [] pos) env) Q E s := by
  refine wpAny_For (wpAny_mono h (fun xv s₁ h₁ => ?_) fun _ _ e => e) hs
  obtain ⟨h, g, d, t, os, a, xs, n, X, rfl, rfl, ho, haX, hX, h₁⟩ := h₁
  refine wpAny_pyIter_list ⟨_, ho, rfl, _, rfl⟩ ?_
  dsimp only
  have l1 : Le h (h.push { cls := .type "list_iterator", data := .fields #[.ref a, .int 0 0] }) := push_le _ _
  have hi : Heap.IsListIter (h.push { cls := .type "list_iterator", data := .fields #[.ref a, .int 0 0] }) h.objs.size a 0 := ⟨_, Heap.get?_push_size _ rfl, rfl, rfl⟩
  have hI := fresh_size h
  generalize h.push { cls := .type "list_iterator", data := .fields #[.ref a, .int 0 0] } = h' at *
  generalize h.objs.size = I at *
  obtain ⟨J, J0, Jk, Jt, Jd⟩ := h₁ I hI
  have haI : a ≠ I := fun e => not_some hI ⟨_, e ▸ ho⟩
  have hIX : I ∉ X := fun hm => not_some hI (hX _ hm)
  refine codeAny_forLoop (fun k s' => ∃ i h' tk, s' = ⟨h', g, d, tk, os⟩ ∧ h'.IsListIter I a i ∧ h'.IsList a xs.toArray ∧ J i h' ∧ i ≤ xs.length ∧ k = xs.length + 1 - i) ?_ (xs.length + 1)
    ⟨0, h', t, rfl, hi, ⟨_, l1 _ _ ho, rfl, _, rfl⟩, J0 h' l1, Nat.zero_le _, rfl⟩
  rintro k s' ⟨i, h₂, tk, rfl, hit, hl, hJ, hin, rfl⟩
  by_cases hlt : i < xs.length
  · have hv : xs.toArray[i]? = some xs[i] := by simp [hlt]
    refine wpAny_pyNext_list_item hit hl hv fun hN hit₃ hs₃ => ?_
    refine wpAny_assign_Name (wpAny_mono (Jt i xs[i] hN _ _ (by simp [hlt]) (Jk _ _ _ hJ (Ext.of_sameBut hs₃)) (let ⟨o, ho, _⟩ := hit₃; ⟨o, ho⟩)) (fun _ s₂ h₂ => wpAny_mono h₂ (fun f s₃ h₃ => ?_) fun _ _ e => e) fun _ _ e => e)
    have nx : ∀ h₅ tk₅, Ext X hN h₅ → J (i + 1) h₅ → ∃ m, m < xs.length + 1 - i ∧ ∃ i h' tk, (⟨h₅, g, d, tk₅, os⟩ : Shared) = ⟨h', g, d, tk, os⟩ ∧ h'.IsListIter I a i ∧ h'.IsList a xs.toArray ∧ J i h' ∧ i ≤ xs.length ∧ m = xs.length + 1 - i := fun h₅ tk₅ x₅ J₅ => by
      refine ⟨xs.length + 1 - (i + 1), by omega, i + 1, h₅, tk₅, rfl, ?_, ?_, J₅, hlt, rfl⟩
      · obtain ⟨o, ho, r⟩ := hit₃; exact ⟨o, x₅ _ _ hIX ho, r⟩
      · obtain ⟨o, ho, r⟩ := hl; exact ⟨o, x₅ _ _ haX (hs₃.extBut _ _ haI ho), r⟩
    cases f with
    | next => obtain ⟨h₅, tk₅, rfl, x₅, J₅⟩ := h₃; exact nx h₅ tk₅ x₅ J₅
    | cont => obtain ⟨h₅, tk₅, rfl, x₅, J₅⟩ := h₃; exact nx h₅ tk₅ x₅ J₅
    | brk => exact h₃
    | ret v => exact h₃
  · have hie : i = xs.length := by omega
    subst hie
    refine wpAny_pyNext_list_end hh hit hl (by simp) fun h₃ he₃ => wpAny_execs_nil ?_
    exact Jd h₃ _ (Jk _ _ _ hJ (fun p o hp e => he₃ p o (by simpa using hp) e))
end
end Mine
end

section
open PySem PySem.W PySem.Calls PyProof.Rows Builtin Builtin.ObjectAttr PySem.SeqAt
set_option maxRecDepth 100000
namespace Mine
abbrev sNumbers : Str := Str.ofString "numbers"
theorem runT_app {kind n : Int} {ls : Nat → List Int} {row : List Nat} {x : Int} {r : List Int} {s : St4} : runT kind n ls row (x :: r) s = if (tCall kind n ls row s.τ x s.σ).1 = true then runT kind n ls row r (stepT kind n ls row x s) else stepT kind n ls row x s := rfl

section
variable {prog : Program} {w : World} {A : Around} {E : Value → Shared → Prop} {h : Heap} {g : Array GenState} {d : Drawn} {t : Nat} {os : OsState} {b : Heap} {fs : Nat → DA} {σ : Nat → DS} {env : Env} {m : Str → Option Value} {cv : Nat → Option Value} {L : Addr}

theorem TS.ext {h' : Heap} {td sa : Addr} {τ : Nat → Option Int} {due : Nat → List Int} {st : List (List Nat × (Nat → List Int))} {W : List Addr} (Y : TS prog w b h fs L td sa m cv τ σ due st) (x : Ext W h h') (hw : ∀ p ∈ mutW fs L td sa, p ∉ W) : TS prog w b h' fs L td sa m cv τ σ due st :=
  ⟨Y.F.ext x (fun p hp => hw p (List.mem_append_left _ (List.mem_append_left _ hp))), Y.D.ext x (fun p hp => hw p (List.mem_append_left _ (List.mem_append_right _ hp))), let ⟨kvs, T, r⟩ := Y.T; ⟨kvs, T.ext x (hw td (List.mem_append_right _ (by simp))), r⟩, let ⟨vs, n, e, i⟩ := Y.s; ⟨vs, n, x _ _ (hw sa (List.mem_append_right _ (by simp))) e, i⟩, Y.c6, Y.c7, Y.ms⟩
theorem Off.keep {b' : Heap} {fs : Nat → DA} {L td sa : Addr} (O : Off b' fs L td sa) : OffB b' fs L sa := ⟨O.Lb, O.LF, O.sb, O.sL, O.sF⟩

set_option maxHeartbeats 1000000 in
/-- for x in (numbers + [0, 0, 0, 0])[:4]: .., then the while -/
theorem pass_for {la ra ca da msa td sa na : Addr} {dk : List (Int × Value)} {kind n : Int} {ls : Nat → List Int} {row : List Nat} {xs0 : List Int} {s : St4} {Q : Flow → Shared → Prop}
    (X : Fix prog w b fs la ra ca da msa dk kind n ls row) (l : Le b h) (Rm : Room A 3) (O : Off b fs L td sa) (N : Fr0 la ra ca da kind n m cv) (Y : TS prog w b h fs L td sa m cv s.τ s.σ s.due s.st) (hst : s.st = [])
    (hn : m sNumbers = some (.ref na)) (hna : IL b na xs0) (hn4 : xs0.length ≤ 100)
    (hR : ∀ xs : List Int, xs.length ≤ 4 → RunOk kind n ls row xs s ∧ UnwindOk (runT kind n ls row xs s).st.reverse (runT kind n ls row xs s).σ)
    (kk : ∀ h' tk m' cv' xs, xs.length ≤ 4 → Ext (mutW fs L td sa) h h' → Fr0 la ra ca da kind n m' cv' → LF h' L m' cv' → Doms h' b fs (unwind (runT kind n ls row xs s).st.reverse (runT kind n ls row xs s).σ) → Q .next ⟨h', g, d, tk, os⟩) :
    wpAny (model prog w) A (execs ((passB w.params).drop 3) (lawE w.params L)) Q E ⟨h, g, d, t, os⟩ := by
  obtain ⟨nits, nn, hne, hni⟩ := hna
  have hnl := hni.length
  refine wpAny_execs_cons (for_listI Rm.hh (lslice ?_))
  have hb0 : ∀ {p : Addr}, (∃ o, b.get? p = some o) → p ∉ mutW fs L td sa := fun hp hm => by
    obtain ⟨o, ho⟩ := hp
    rcases List.mem_append.mp hm with hm | hm
    · rcases List.mem_append.mp hm with hm | hm
      · rw [O.Lb _ hm] at ho; cases ho
      · rw [Y.D.offA _ hm] at ho; cases ho
    · simp at hm
      rcases hm with rfl | rfl
      · rw [O.tb] at ho; cases ho
      · rw [O.sb] at ho; cases ho
  refine wpAny_BinOp (ln (v := .ref na) Y.F.ns hn (ldisp (spliced_cons (ci (k := 0) (pos := default) fun u1 t1 => spliced_cons (ci (k := 0) (pos := default) fun u2 t2 => spliced_cons (ci (k := 0) (pos := default) fun u3 t3 => spliced_cons (ci (k := 0) (pos := default) fun u4 t4 => spliced_nil ⟨h, g, d, _, os, rfl, by simp, fun h₁ z nz e₁ f₁ l₁ => ?_⟩)))))))
  refine ladd (l₁ _ _ (l _ _ hne)) e₁ (by simp; omega) fun h₂ z2 nz2 e₂ f₂ l₂ => ?_
  refine wpAny_evalPart_none (wpAny_evalPart_some (ci fun u5 t5 => ?_))
  refine ⟨_, _, _, _, _, z2, _, nz2, none, some 4, rfl, rfl, e₂, by simp; omega, .none, .int _ _, fun h₃ xa n3 e₃ f₃ l₃ => ?_⟩
  have hI2 : IntsAre (nits ++ [Value.int 0 u1, .int 0 u2, .int 0 u3, .int 0 u4]) (xs0 ++ [0, 0, 0, 0]) := IntsAre.append hni (.cons 0 u1 (.cons 0 u2 (.cons 0 u3 (.cons 0 u4 .nil))))
  have e4 : slicePick (nits ++ [Value.int 0 u1, .int 0 u2, .int 0 u3, .int 0 u4]).toArray none (some 4) none = ((nits ++ [Value.int 0 u1, .int 0 u2, .int 0 u3, .int 0 u4]).take 4).toArray := slicePick_upto _ 4 (by simp)
  rw [e4] at e₃
  have hxi := ints_take hI2 4
  generalize (nits ++ [Value.int 0 u1, .int 0 u2, .int 0 u3, .int 0 u4]).take 4 = xits at *
  have hx4 : ((xs0 ++ [0, 0, 0, 0]).take 4).length ≤ 4 := by simp
  generalize (xs0 ++ [0, 0, 0, 0]).take 4 = xs at *
  obtain ⟨hR1, hR2⟩ := hR xs hx4
  have hxl := hxi.length
  have l03 : Le h h₃ := (l₁.trans l₂).trans l₃
  have Y₃ : TS prog w b h₃ fs L td sa m cv s.τ s.σ s.due s.st := ⟨Y.F.le l03, Y.D.le l03, let ⟨kvs, T, r⟩ := Y.T; ⟨kvs, T.le l03, r⟩, let ⟨vs, n, e, i⟩ := Y.s; ⟨vs, n, l03 _ _ e, i⟩, Y.c6, Y.c7, Y.ms⟩
  have live : ∀ p ∈ mutW fs L td sa, ∃ o, h.get? p = some o := fun p hm => by
    rcases List.mem_append.mp hm with hm | hm
    · rcases List.mem_append.mp hm with hm | hm
      · exact Y.F.live _ hm
      · exact Y.D.live _ hm
    · simp at hm
      rcases hm with rfl | rfl
      · obtain ⟨kvs, T, _⟩ := Y.T; obtain ⟨o, ho, _⟩ := T.live; exact ⟨o, ho⟩
      · obtain ⟨vs, n, e, _⟩ := Y.s; exact ⟨_, e⟩
  have xaM : xa ∉ mutW fs L td sa := fun hm => by
    obtain ⟨o, ho⟩ := live _ hm
    exact not_some f₃ ⟨o, (l₁.trans l₂) _ _ ho⟩
  have fin : ∀ h' tk b' m' cv' (s' : St4), Le b b' → Le b' h' → Off b' fs L td sa → Ext (mutW fs L td sa) h h' → Fr0 la ra ca da kind n m' cv' → TS prog w b' h' fs L td sa m' cv' s'.τ s'.σ s'.due s'.st → s' = runT kind n ls row xs s → s'.st.length ≤ 10 →
      wpAny (model prog w) A (execs ((passB w.params).drop 4) (lawE w.params L)) Q E ⟨h', g, d, tk, os⟩ := by
    intro h' tk b' m' cv' s' lb lb' O' x' N' Y' es hl
    subst es
    refine while_spec (X.le lb) lb' Rm O'.keep N' ⟨Y'.F, Y'.D, Y'.s, Y'.ms⟩ hl hR2 fun h₅ t₅ m₅ cv₅ x₅ N₅ F₅ D₅ => ?_
    refine kk h₅ t₅ m₅ cv₅ xs hx4 (x'.trans x₅ (fun p hp => .inl ?_)) N₅ F₅ (D₅.rebase fun p hp => Y.D.offA p hp)
    rcases List.mem_append.mp hp with hp | hp
    · exact List.mem_append_left _ hp
    · exact List.mem_append_right _ (by rw [List.mem_singleton.mp hp]; simp)
  refine ⟨h₃, g, d, _, os, xa, xits, n3, mutW fs L td sa, rfl, rfl, e₃, xaM, fun p hp => let ⟨o, ho⟩ := live p hp; ⟨o, l03 _ _ ho⟩, fun I hI => ⟨fun i h' => ∃ b' m' cv' s', Le b b' ∧ Le b' h' ∧ b'.get? I = none ∧ Off b' fs L td sa ∧ Ext (mutW fs L td sa) h h' ∧ Fr0 la ra ca da kind n m' cv' ∧ TS prog w b' h' fs L td sa m' cv' s'.τ s'.σ s'.due s'.st ∧ s'.st.length = i ∧ RunOk kind n ls row (xs.drop i) s' ∧ runT kind n ls row (xs.drop i) s' = runT kind n ls row xs s, ?_, ?_, ?_, ?_⟩⟩
  · intro h' l'
    exact ⟨b, m, cv, s, Le.refl b, (l.trans l03).trans l', (l.trans l03).fresh hI, O, Ext.of_le (l03.trans l'), N, Y₃.ext (W := []) (Ext.of_le l') (by simp), by rw [hst]; rfl, hR1, rfl⟩
  · rintro i ha hb ⟨b', m', cv', s', lb, lb', hbI, O', x', N', Y', hl, r1, r2⟩ x
    have hIM : ∀ p ∈ mutW fs L td sa, p ∉ [I] := fun p hp hm => by
      rw [List.mem_singleton.mp hm] at hp
      obtain ⟨o, ho⟩ := live _ hp
      exact not_some hI ⟨o, l03 _ _ ho⟩
    exact ⟨b', m', cv', s', lb, x.base lb' (by simpa using hbI), hbI, O', x'.trans x (fun p hp => .inr (by rw [List.mem_singleton.mp hp]; exact l03.fresh hI)), N', Y'.ext x hIM, hl, r1, r2⟩
  · rintro i v h' tk E' hv ⟨b', m', cv', s', lb, lb', hbI, O', x', N', Y', hl, r1, r2⟩ ⟨oI, hoI⟩
    obtain ⟨x, ux, rfl, hx⟩ := hxi.at i v hv
    have hil : i < xs.length := (List.getElem?_eq_some_iff.mp hx).1
    have hdrop : xs.drop i = x :: xs.drop (i + 1) := by rw [← (List.getElem?_eq_some_iff.mp hx).2]; exact List.drop_eq_getElem_cons hil
    rw [hdrop] at r1 r2
    obtain ⟨P, r1⟩ := r1
    refine sL Y'.F fun h₄ u₄ F₄ x₄ => ?_
    have Lf := L_frame L
    have lb₄ : Le b' h₄ := x₄.base lb' (by simpa using O'.Lb L Lf)
    have hLM : ∀ p ∈ frameW L, p ∈ mutW fs L td sa := fun p hp => List.mem_append_left _ (List.mem_append_left _ hp)
    have Y₄ : TS prog w b' h₄ fs L td sa (updM m' sX (.int x ux)) cv' s'.τ s'.σ s'.due s'.st := ⟨F₄, Y'.D.ext x₄ (fun p hp => by simpa using fun e : p = L => O'.LF p hp (e ▸ Lf)), let ⟨kvs, T, r⟩ := Y'.T; ⟨kvs, T.ext x₄ (by simpa using fun e : td = L => O'.tL (e ▸ Lf)), r⟩, let ⟨vs, n, e, i⟩ := Y'.s; ⟨vs, n, x₄ _ _ (by simpa using fun e : sa = L => O'.sL (e ▸ Lf)) e, i⟩, Y'.c6, Y'.c7, by rw [updM, if_neg (by decide)]; exact Y'.ms⟩
    have N₄ : Fr0 la ra ca da kind n (updM m' sX (.int x ux)) cv' := ⟨N'.c1, N'.c2, N'.c3, N'.c4, N'.c5, by rw [updM, if_neg (by decide)]; exact N'.mm⟩
    have hIM : I ∉ mutW fs L td sa := fun hm => by
      obtain ⟨o, ho⟩ := live _ hm
      exact not_some hI ⟨o, l03 _ _ ho⟩
    have hIL : I ≠ L := fun e => hIM (e ▸ hLM L Lf)
    refine turn_spec (Z := [I]) (x := x) (X.le lb) lb₄ Rm O' N₄ Y₄ (by omega) (by simpa using hbI) (by simpa using ⟨oI, x₄ _ _ (by simpa using hIL) hoI⟩) (by simpa using hIM) (show updM m' sX (.int x ux) sX = _ by rw [updM, if_pos rfl]) P fun h₅ t₅ b₅ m₅ cv₅ lb₅ lh₅ hZ₅ O₅ x₅ N₅ Y₅ => ?_
    have x45 : Ext (mutW fs L td sa) h' h₅ := (x₄.mono (by simpa using hLM L Lf)).trans x₅ (fun p hp => .inl hp)
    rw [runT_app] at r2
    by_cases hc : (tCall kind n ls row s'.τ x s'.σ).1 = true
    · rw [if_pos hc] at r2 ⊢
      exact ⟨h₅, t₅, rfl, x45, b₅, m₅, cv₅, stepT kind n ls row x s', lb.trans lb₅, lh₅, by simpa using hZ₅, O₅, x'.trans x45 (fun p hp => .inl hp), N₅, Y₅, by simp [stepT, hl], r1 hc, r2⟩
    · rw [if_neg hc] at r2 ⊢
      exact fin h₅ t₅ b₅ m₅ cv₅ (stepT kind n ls row x s') (lb.trans lb₅) lh₅ O₅ (x'.trans x45 (fun p hp => .inl hp)) N₅ Y₅ r2 (by simp [stepT, hl]; omega)
  · rintro h' tk ⟨b', m', cv', s', lb, lb', hbI, O', x', N', Y', hl, r1, r2⟩
    rw [hxl, List.drop_length] at r2
    exact fin h' tk b' m' cv' s' lb lb' O' x' N' Y' r2 (by omega)
end
end Mine
end

section
namespace Mine

/-- some shown values are hidden -/
structure Hid (x y : DS) : Prop where
  hd : ∃ H, y.hd = x.hd ++ H ∧ (y.sh ++ H).Perm x.sh
  st : y.st = x.st
theorem Hid.refl (x : DS) : Hid x x := ⟨⟨[], by simp⟩, rfl⟩
theorem Hid.trans {x y z : DS} (a : Hid x y) (c : Hid y z) : Hid x z := by
  obtain ⟨⟨H, e1, p1⟩, s1⟩ := a
  obtain ⟨⟨K, e2, p2⟩, s2⟩ := c
  refine ⟨⟨H ++ K, by rw [e2, e1, List.append_assoc], ?_⟩, s2.trans s1⟩
  have : (z.sh ++ (H ++ K)).Perm ((z.sh ++ K) ++ H) := by
    rw [List.append_assoc]
    exact (List.perm_append_comm).append_left z.sh
  exact this.trans ((p2.append_right H).trans p1)
theorem hid_all (P : Int → Bool) (x : DS) : Hid x (hideAll P x) :=
  ⟨⟨x.sh.filter P, rfl, (List.perm_append_comm).trans (List.filter_append_perm P x.sh)⟩, rfl⟩

/-- one variable of the row -/
structure StepOk (q : Int → Bool) (x : DS) (r : Bool × DS) : Prop where
  hid : Hid x r.2
  ans : r.1 = true ↔ x.sh.filter q ≠ []
  all : r.1 = true → r.2.sh.Perm (x.sh.filter q)
  sup : ∀ v ∈ x.sh, q v = true → v ∈ r.2.sh
theorem step_hide {q P : Int → Bool} {x : DS} (h : ∀ v, P v = !q v) : StepOk q x (!(hideAll P x).sh.isEmpty, hideAll P x) := by
  have e : (hideAll P x).sh = x.sh.filter q := by
    show x.sh.filter (fun v => !P v) = _
    exact List.filter_congr fun v _ => by rw [h]; simp
  refine ⟨hid_all P x, ?_, fun _ => ?_, fun v hv hq => ?_⟩
  · show (!(hideAll P x).sh.isEmpty) = true ↔ _
    rw [e]; cases x.sh.filter q <;> simp
  · show (hideAll P x).sh.Perm _
    rw [e]
  · show v ∈ (hideAll P x).sh
    rw [e]; exact List.mem_filter.mpr ⟨hv, hq⟩
theorem step_seen : ∀ (tl : List Int) (x : DS), x.sh.Nodup → x.sh ≠ [] → StepOk (fun v => !tl.contains v) x (seenStep tl x)
  | [], x, _, hne => by
    refine ⟨Hid.refl x, ?_, fun _ => ?_, fun v hv _ => hv⟩
    · have : x.sh.filter (fun v => !([] : List Int).contains v) = x.sh := List.filter_eq_self.mpr fun v _ => rfl
      rw [this]; exact ⟨fun _ => hne, fun _ => rfl⟩
    · have : x.sh.filter (fun v => !([] : List Int).contains v) = x.sh := List.filter_eq_self.mpr fun v _ => rfl
      rw [this]; exact List.Perm.refl _
  | v :: r, x, hn, hne => by
    unfold seenStep
    by_cases hv : x.sh.contains v = true
    · rw [if_pos hv]
      have hm : v ∈ x.sh := by simpa using hv
      have h1 : Hid x ⟨x.sh.erase v, x.hd ++ [v], x.st⟩ := ⟨⟨[v], rfl, (List.perm_append_comm).trans (List.perm_cons_erase hm).symm⟩, rfl⟩
      have hf : (x.sh.erase v).filter (fun u => !r.contains u) = x.sh.filter (fun u => !(v :: r).contains u) := by
        rw [hn.erase_eq_filter, List.filter_filter]
        refine List.filter_congr fun u _ => ?_
        by_cases e : u = v
        · subst e; simp
        · simp [e]
      by_cases he : (x.sh.erase v).isEmpty = true
      · rw [if_pos he]
        have he' : x.sh.erase v = [] := by simpa using he
        rw [he'] at hf
        refine ⟨h1, ?_, fun h => by simp at h, fun u hu hq => ?_⟩
        · rw [← hf]; simp
        · have : u ∈ x.sh.filter (fun u => !(v :: r).contains u) := List.mem_filter.mpr ⟨hu, hq⟩
          rw [← hf] at this; simp at this
      · rw [if_neg he]
        obtain ⟨a, b, c, e⟩ := step_seen r ⟨x.sh.erase v, x.hd ++ [v], x.st⟩ (hn.erase v) (by simpa using he)
        refine ⟨h1.trans a, ?_, fun h => ?_, fun u hu hq => ?_⟩
        · rw [← hf]; exact b
        · rw [← hf]; exact c h
        · have : u ∈ (x.sh.erase v).filter (fun u => !r.contains u) := by rw [hf]; exact List.mem_filter.mpr ⟨hu, hq⟩
          obtain ⟨m1, m2⟩ := List.mem_filter.mp this
          exact e u m1 m2
    · rw [if_neg hv]
      have hm : v ∉ x.sh := by simpa using hv
      have hf : x.sh.filter (fun u => !r.contains u) = x.sh.filter (fun u => !(v :: r).contains u) := by
        refine List.filter_congr fun u hu => ?_
        have : u ≠ v := fun e => hm (e ▸ hu)
        simp [this]
      obtain ⟨a, b, c, e⟩ := step_seen r x hn hne
      refine ⟨a, ?_, fun h => ?_, fun u hu hq => ?_⟩
      · rw [← hf]; exact b
      · rw [← hf]; exact c h
      · have : u ∈ x.sh.filter (fun u => !r.contains u) := by rw [hf]; exact List.mem_filter.mpr ⟨hu, hq⟩
        exact e u hu (List.mem_filter.mp this).2
theorem step_eq {c : Int} {x : DS} : StepOk (fun v => v == c) x (eqStep c x) := by
  unfold eqStep
  by_cases hv : x.sh.contains c = true
  · rw [if_pos hv]
    have hm : c ∈ x.sh := by simpa using hv
    obtain ⟨a, b, d, e⟩ := step_hide (q := fun v => v == c) (P := fun v => v != c) (x := x) (fun v => rfl)
    have : (!(hideAll (fun v => v != c) x).sh.isEmpty) = true := by
      rw [b]; exact fun h => by
        have := List.mem_filter (p := fun v => v == c).mpr ⟨hm, (by simp : (c == c) = true)⟩
        rw [h] at this; simp at this
    rw [this] at a b d e
    exact ⟨a, b, d, e⟩
  · rw [if_neg hv]
    have hm : c ∉ x.sh := by simpa using hv
    have hf : x.sh.filter (fun v => v == c) = [] := List.filter_eq_nil_iff.mpr fun v hv => by simpa using fun e : v = c => hm (e ▸ hv)
    exact ⟨Hid.refl x, by simp [hf], fun h => by simp at h, fun v hv _ => hv⟩

/-- what a constraint's call does -/
structure CallOk (fits : Bool) (q : Nat → Int → Bool) (row : List Nat) (told : Nat → Bool) (σ : Nat → DS) (r : Bool × (Nat → DS)) : Prop where
  hid : ∀ k, Hid (σ k) (r.2 k)
  oth : ∀ k, (k ∈ row → told k = true) → r.2 k = σ k
  nofit : fits = false → r = (false, σ)
  ans : fits = true → (r.1 = true ↔ ∀ k ∈ row, told k = false → (σ k).sh.filter (q k) ≠ [])
  all : r.1 = true → ∀ k ∈ row, told k = false → (r.2 k).sh.Perm ((σ k).sh.filter (q k))
  sup : ∀ k ∈ row, told k = false → ∀ v ∈ (σ k).sh, q k v = true → v ∈ (r.2 k).sh
theorem call_none {fits : Bool} {q : Nat → Int → Bool} {row : List Nat} {told : Nat → Bool} {σ : Nat → DS} (h : fits = false) : CallOk fits q row told σ (false, σ) :=
  ⟨fun k => Hid.refl _, fun _ _ => rfl, fun _ => rfl, fun hf => (by rw [h] at hf; cases hf), fun hf => (by cases hf), fun _ _ _ v hv _ => hv⟩
theorem call_true {fits : Bool} {q : Nat → Int → Bool} {row : List Nat} {told : Nat → Bool} {σ : Nat → DS} (h : fits = true) (hq : ∀ k ∈ row, told k = false → ∀ v, q k v = true) (hne : ∀ k ∈ row, (σ k).sh ≠ []) : CallOk fits q row told σ (true, σ) := by
  have hf : ∀ k ∈ row, told k = false → (σ k).sh.filter (q k) = (σ k).sh := fun k hk ht => List.filter_eq_self.mpr fun v _ => hq k hk ht v
  refine ⟨fun k => Hid.refl _, fun _ _ => rfl, fun e => (by rw [h] at e; cases e), fun _ => ⟨fun _ k hk ht => (by rw [hf k hk ht]; exact hne k hk), fun _ => rfl⟩, fun _ k hk ht => by rw [hf k hk ht], fun _ _ _ v hv _ => hv⟩
theorem call_row {fits : Bool} {q : Nat → Int → Bool} {told : Nat → Bool} {stepF : Nat → DS → Bool × DS} (h : fits = true) : ∀ (row : List Nat) (σ : Nat → DS), row.Nodup →
    (∀ k ∈ row, told k = false → StepOk (q k) (σ k) (stepF k (σ k))) → CallOk fits q row told σ (rowF stepF told row σ)
  | [], σ, _, _ => ⟨fun k => Hid.refl _, fun _ _ => rfl, fun e => (by rw [h] at e; cases e), fun _ => ⟨fun _ k hk => by simp at hk, fun _ => rfl⟩, fun _ k hk => by simp at hk, fun k hk => by simp at hk⟩
  | o :: r, σ, hn, hs => by
    have ho : o ∉ r := (List.nodup_cons.mp hn).1
    have hr := (List.nodup_cons.mp hn).2
    unfold rowF
    by_cases ht : told o = true
    · rw [if_pos ht]
      obtain ⟨a1, a2, a3, a4, a5, a6⟩ := call_row (q := q) h r σ hr (fun k hk => hs k (List.mem_cons_of_mem _ hk))
      have up : ∀ k ∈ o :: r, told k = false → k ∈ r := fun k hk hf => (List.mem_cons.mp hk).elim (fun e => (by rw [e, ht] at hf; cases hf)) id
      exact ⟨a1, fun k hk => a2 k fun hm => hk (List.mem_cons_of_mem _ hm), fun e => (by rw [h] at e; cases e), fun hf => (a4 hf).trans ⟨fun H k hk ht => H k (up k hk ht) ht, fun H k hk ht => H k (List.mem_cons_of_mem _ hk) ht⟩, fun hf k hk ht => a5 hf k (up k hk ht) ht, fun k hk ht => a6 k (up k hk ht) ht⟩
    · rw [if_neg ht]
      have htf : told o = false := by simpa using ht
      obtain ⟨b1, b2, b3, b4⟩ := hs o List.mem_cons_self htf
      have hne : ∀ k ∈ r, k ≠ o := fun k hk e => ho (e ▸ hk)
      by_cases h1 : (stepF o (σ o)).1 = true
      · rw [if_pos h1]
        obtain ⟨a1, a2, a3, a4, a5, a6⟩ := call_row (q := q) h r (upd σ o (stepF o (σ o)).2) hr (fun k hk hf => by rw [upd_other _ _ (hne k hk)]; exact hs k (List.mem_cons_of_mem _ hk) hf)
        have hoo := a2 o (fun hm => absurd hm ho)
        rw [upd_same] at hoo
        refine ⟨fun k => ?_, fun k hk => ?_, fun e => (by rw [h] at e; cases e), fun hf => (a4 hf).trans ⟨fun H k hk hf => ?_, fun H k hk hf => ?_⟩, fun hf k hk ht => ?_, fun k hk ht => ?_⟩
        · by_cases e : k = o
          · subst e; rw [hoo]; exact b1
          · have := a1 k; rw [upd_other _ _ e] at this; exact this
        · have e : k ≠ o := fun e => ht (e ▸ hk (e ▸ List.mem_cons_self))
          rw [a2 k fun hm => hk (List.mem_cons_of_mem _ hm), upd_other _ _ e]
        · rcases List.mem_cons.mp hk with e | hk
          · subst e; exact b2.mp h1
          · have := H k hk hf; rw [upd_other _ _ (hne k hk)] at this; exact this
        · rw [upd_other _ _ (hne k hk)]; exact H k (List.mem_cons_of_mem _ hk) hf
        · rcases List.mem_cons.mp hk with e | hk
          · subst e; rw [hoo]; exact b3 h1
          · have := a5 hf k hk ht; rw [upd_other _ _ (hne k hk)] at this; exact this
        · rcases List.mem_cons.mp hk with e | hk
          · subst e; rw [hoo]; exact b4
          · have := a6 k hk ht; rw [upd_other _ _ (hne k hk)] at this; exact this
      · rw [if_neg h1]
        refine ⟨fun k => ?_, fun k hk => ?_, fun e => (by rw [h] at e; cases e), fun hf => ⟨fun e => (by cases e), fun H => absurd (b2.mpr (H o List.mem_cons_self htf)) h1⟩, fun e => (by cases e), fun k hk ht' v hv hq => ?_⟩
        · show Hid (σ k) (upd σ o (stepF o (σ o)).2 k)
          by_cases e : k = o
          · subst e; rw [upd_same]; exact b1
          · rw [upd_other _ _ e]; exact Hid.refl _
        · exact upd_other _ _ fun e => ht (e ▸ hk (e ▸ List.mem_cons_self))
        · show v ∈ (upd σ o (stepF o (σ o)).2 k).sh
          by_cases e : k = o
          · subst e; rw [upd_same]; exact b4 v hv hq
          · rw [upd_other _ _ e]; exact hv

/-! the lines -/
theorem told_map (row : List Nat) (τ : Nat → Option Int) : toldOf (row.map τ) = row.filterMap τ := by
  unfold toldOf; rw [List.filterMap_map]; rfl
theorem line_off {τ : Nat → Option Int} {o : Nat} {v : Int} : ∀ {row : List Nat}, o ∉ row → lineP row τ o v = row.map τ
  | row, h => List.map_congr_left fun a ha => by rw [if_neg fun e : a = o => h (e ▸ ha)]
theorem line_told {τ : Nat → Option Int} {o : Nat} {v : Int} (ht : τ o = none) : ∀ {row : List Nat}, o ∈ row → row.Nodup → (toldOf (lineP row τ o v)).Perm (v :: row.filterMap τ)
  | a :: r, hm, hn => by
    have ha : a ∉ r := (List.nodup_cons.mp hn).1
    by_cases e : a = o
    · subst e
      have : lineP (a :: r) τ a v = some v :: r.map τ := by
        show (if a = a then some v else τ a) :: lineP r τ a v = _
        rw [if_pos rfl, line_off ha]
      rw [this]
      show (v :: toldOf (r.map τ)).Perm _
      rw [told_map, List.filterMap_cons, ht]
    · have hr : o ∈ r := (List.mem_cons.mp hm).resolve_left fun q => e q.symm
      have ih := line_told (v := v) ht hr (List.nodup_cons.mp hn).2
      have : lineP (a :: r) τ o v = τ a :: lineP r τ o v := by
        show (if a = o then some v else τ a) :: lineP r τ o v = _
        rw [if_neg e]
      rw [this, List.filterMap_cons]
      cases hq : τ a with
      | none => exact ih
      | some u => exact (ih.cons u).trans (List.Perm.swap v u _)
theorem line_score {τ : Nat → Option Int} {o : Nat} {v : Int} (ht : τ o = none) : ∀ {row : List Nat} {fs : List Int}, o ∈ row → row.Nodup → scoreOf (lineP row τ o v) fs = scoreOf (row.map τ) fs + v * fs.getD (row.idxOf o) 0
  | a :: r, [], hm, hn => by simp [scoreOf, lineP]
  | a :: r, f :: fs, hm, hn => by
    have ha : a ∉ r := (List.nodup_cons.mp hn).1
    by_cases e : a = o
    · subst e
      have : lineP (a :: r) τ a v = some v :: r.map τ := by
        show (if a = a then some v else τ a) :: lineP r τ a v = _
        rw [if_pos rfl, line_off ha]
      rw [this]
      simp [scoreOf, ht]; omega
    · have hr : o ∈ r := (List.mem_cons.mp hm).resolve_left fun q => e q.symm
      have ih := line_score (v := v) (fs := fs) ht hr (List.nodup_cons.mp hn).2
      have : lineP (a :: r) τ o v = τ a :: lineP r τ o v := by
        show (if a = o then some v else τ a) :: lineP r τ o v = _
        rw [if_neg e]
      rw [this, List.idxOf_cons]
      have e' : (a == o) = false := by simpa using e
      rw [e']
      simp only [scoreOf, List.map_cons, List.zipWith_cons_cons, List.sum_cons, cond_false, List.getD_cons_succ] at ih ⊢
      rw [ih]; omega
end Mine
end

section
namespace Mine

section
variable {kind n : Int} {ms : List Int} {row : List Nat} {τ : Nat → Option Int} {σ : Nat → DS}

abbrev qOf (kind n : Int) (ms : List Int) (row : List Nat) (τ : Nat → Option Int) (k : Nat) (v : Int) : Bool := soundP kind n ms (lineP row τ k v)
theorem told_none {k : Nat} (h : (τ k).isSome = false) : τ k = none := by cases e : τ k <;> simp [e] at h ⊢
theorem step_congr {q q' : Int → Bool} {x : DS} {r : Bool × DS} (h : StepOk q x r) (e : ∀ v, q v = q' v) : StepOk q' x r := (funext e : q = q') ▸ h

theorem call0_ok (hn : row.Nodup) (hd : ∀ k ∈ row, (σ k).sh.Nodup) (hne : ∀ k ∈ row, (σ k).sh ≠ []) :
    CallOk (soundP 0 n ms (row.map τ)) (qOf 0 n ms row τ) row (fun k => (τ k).isSome) σ (call0 row τ σ) := by
  have hs : ∀ line, soundP 0 n ms line = decide (toldOf line).Nodup := fun line => by unfold soundP; rw [if_pos rfl]
  unfold call0
  by_cases h : (row.filterMap τ).Nodup
  · rw [if_pos h]
    refine call_row (by rw [hs, told_map]; simpa using h) row σ hn fun k hk ht => ?_
    refine step_congr (step_seen _ _ (hd k hk) (hne k hk)) fun v => ?_
    show _ = soundP 0 n ms (lineP row τ k v)
    rw [hs, Bool.eq_iff_iff, decide_eq_true_iff, (line_told (told_none ht) hk hn).nodup_iff, List.nodup_cons]
    simp [h]
  · rw [if_neg h]
    exact call_none (by rw [hs, told_map]; simpa using h)

theorem same_iff {c : Int} {r : List Int} {v : Int} (h : allSame (c :: r)) : (∀ a ∈ v :: c :: r, ∀ b ∈ v :: c :: r, a = b) ↔ v = c := by
  constructor
  · exact fun H => H v (by simp) c (by simp)
  · rintro rfl a ha b hb
    exact h a (by simpa using ha) b (by simpa using hb)
theorem call1_ok (hn : row.Nodup) (hne : ∀ k ∈ row, (σ k).sh ≠ []) :
    CallOk (soundP 1 n ms (row.map τ)) (qOf 1 n ms row τ) row (fun k => (τ k).isSome) σ (call1 row τ σ) := by
  have hs : ∀ line, soundP 1 n ms line = decide (∀ a ∈ toldOf line, ∀ b ∈ toldOf line, a = b) := fun line => by
    unfold soundP; rw [if_neg (by decide), if_pos rfl]
  unfold call1
  by_cases h : allSame (row.filterMap τ)
  · rw [if_pos h]
    have hq : ∀ k ∈ row, (τ k).isSome = false → ∀ v, (qOf 1 n ms row τ k v = true ↔ ∀ a ∈ v :: row.filterMap τ, ∀ b ∈ v :: row.filterMap τ, a = b) := fun k hk ht v => by
      show soundP 1 n ms (lineP row τ k v) = true ↔ _
      have p := line_told (v := v) (told_none ht) hk hn
      rw [hs, decide_eq_true_iff]
      exact ⟨fun H a ha b hb => H a (p.mem_iff.mpr ha) b (p.mem_iff.mpr hb), fun H a ha b hb => H a (p.mem_iff.mp ha) b (p.mem_iff.mp hb)⟩
    have hf : soundP 1 n ms (row.map τ) = true := by rw [hs, told_map]; exact decide_eq_true h
    cases e : row.filterMap τ with
    | nil =>
      show CallOk _ _ _ _ _ (true, σ)
      refine call_true hf (fun k hk ht v => ?_) hne
      rw [hq k hk ht, e]
      intro a ha b hb; simp at ha hb; rw [ha, hb]
    | cons c r =>
      show CallOk _ _ _ _ _ (rowF _ _ row σ)
      refine call_row hf row σ hn fun k hk ht => ?_
      refine step_congr step_eq fun v => ?_
      rw [Bool.eq_iff_iff, hq k hk ht, e, same_iff (e ▸ h)]; simp
  · rw [if_neg h]
    refine call_none ?_
    rw [hs, told_map]
    exact decide_eq_false h

theorem call2_ok (hn : row.Nodup) :
    CallOk (soundP 2 n ms (row.map τ)) (qOf 2 n ms row τ) row (fun k => (τ k).isSome) σ (call2 n row τ σ) := by
  have hs : ∀ line, soundP 2 n ms line = decide (scoreOf line facs ≤ n) := fun line => by
    unfold soundP; rw [if_neg (by decide), if_neg (by decide), if_pos rfl]
  unfold call2
  by_cases h : scoreOf (row.map τ) facs > n
  · rw [if_pos h]
    exact call_none (by rw [hs]; exact decide_eq_false (by omega))
  · rw [if_neg h]
    refine call_row (by rw [hs]; exact decide_eq_true (by omega)) row σ hn fun k hk ht => ?_
    refine step_hide fun v => ?_
    show _ = !soundP 2 n ms (lineP row τ k v)
    rw [hs, line_score (told_none ht) hk hn]
    unfold mulAt
    rw [Bool.eq_iff_iff]; simp

theorem told_count : ∀ (row : List Nat), (row.filterMap τ).length + missing row τ = row.length
  | [] => rfl
  | a :: r => by
    have ih := told_count r
    unfold missing at ih ⊢
    rw [List.filterMap_cons]
    cases h : τ a with
    | none => rw [List.filter_cons_of_pos (by simp [h])]; simp only [List.length_cons]; omega
    | some v => rw [List.filter_cons_of_neg (by simp [h])]; simp only [List.length_cons]; omega
theorem count_hit {inn : Bool} : ∀ (tl : List Int), found inn ms tl + (tl.filter fun v => !hit inn ms v).length = tl.length
  | [] => rfl
  | a :: r => by
    have ih := count_hit (inn := inn) r
    unfold found at ih ⊢
    by_cases h : hit inn ms a = true
    · rw [List.filter_cons_of_pos h, List.filter_cons_of_neg (by simp [h])]; simp; omega
    · rw [List.filter_cons_of_neg h, List.filter_cons_of_pos (by simpa using h)]; simp; omega
theorem call3_ok {inn : Bool} (hk34 : (kind = 3 ∧ inn = true) ∨ (kind = 4 ∧ inn = false)) (hn : row.Nodup) (hne : ∀ k ∈ row, (σ k).sh ≠ []) :
    CallOk (soundP kind n ms (row.map τ)) (qOf kind n ms row τ) row (fun k => (τ k).isSome) σ (call3 inn n ms row τ σ) := by
  have hs : ∀ line, soundP kind n ms line = decide ((((toldOf line).filter fun v => !hit inn ms v).length : Int) ≤ line.length - n) := fun line => by
    have e : (fun v => ms.contains v == (kind == 4)) = fun v => !hit inn ms v := by
      funext v
      unfold hit
      rcases hk34 with ⟨rfl, rfl⟩ | ⟨rfl, rfl⟩ <;> cases ms.contains v <;> rfl
    unfold soundP
    rw [if_neg (by rcases hk34 with ⟨rfl, _⟩ | ⟨rfl, _⟩ <;> decide), if_neg (by rcases hk34 with ⟨rfl, _⟩ | ⟨rfl, _⟩ <;> decide), if_neg (by rcases hk34 with ⟨rfl, _⟩ | ⟨rfl, _⟩ <;> decide), e]
  have c1 := told_count (τ := τ) row
  have c2 := count_hit (ms := ms) (inn := inn) (row.filterMap τ)
  have hf : soundP kind n ms (row.map τ) = decide (n ≤ (missing row τ : Int) + (found inn ms (row.filterMap τ) : Int)) := by
    rw [hs, told_map, List.length_map, Bool.eq_iff_iff, decide_eq_true_iff, decide_eq_true_iff]; omega
  have hq : ∀ k ∈ row, (τ k).isSome = false → ∀ v, qOf kind n ms row τ k v = decide (n + (if hit inn ms v = true then 0 else 1) ≤ (missing row τ : Int) + (found inn ms (row.filterMap τ) : Int)) := fun k hk ht v => by
    show soundP kind n ms (lineP row τ k v) = _
    have p := line_told (v := v) (told_none ht) hk hn
    rw [hs, (p.filter _).length_eq]
    have hl : (lineP row τ k v).length = row.length := List.length_map ..
    rw [hl, Bool.eq_iff_iff, decide_eq_true_iff, decide_eq_true_iff]
    by_cases h : hit inn ms v = true
    · rw [if_pos h, List.filter_cons_of_neg (by simp [h])]; omega
    · rw [if_neg h, List.filter_cons_of_pos (by simpa using h)]; simp only [List.length_cons]; omega
  unfold call3
  by_cases h0 : missing row τ = 0
  · rw [if_pos h0]
    by_cases h1 : (found inn ms (row.filterMap τ) : Int) < n
    · rw [if_pos h1]
      exact call_none (by rw [hf]; exact decide_eq_false (by omega))
    · rw [if_neg h1]
      refine call_true (by rw [hf]; exact decide_eq_true (by omega)) (fun k hk ht => ?_) hne
      exfalso
      unfold missing at h0
      have := List.length_eq_zero_iff.mp h0
      have hm : k ∈ row.filter fun k => !(τ k).isSome := List.mem_filter.mpr ⟨hk, by simpa using ht⟩
      rw [this] at hm; simp at hm
  · rw [if_neg h0]
    by_cases h1 : n > (missing row τ : Int) + (found inn ms (row.filterMap τ) : Int)
    · rw [if_pos h1]
      exact call_none (by rw [hf]; exact decide_eq_false (by omega))
    · rw [if_neg h1]
      by_cases h2 : n - (found inn ms (row.filterMap τ) : Int) = (missing row τ : Int)
      · rw [if_pos h2]
        refine call_row (by rw [hf]; exact decide_eq_true (by omega)) row σ hn fun k hk ht => ?_
        refine step_hide fun v => ?_
        rw [hq k hk ht v]
        by_cases h : hit inn ms v = true
        · rw [if_pos h, h]; simp; omega
        · rw [if_neg h]; simp [h]; omega
      · rw [if_neg h2]
        refine call_true (by rw [hf]; exact decide_eq_true (by omega)) (fun k hk ht v => ?_) hne
        rw [hq k hk ht v]
        refine decide_eq_true ?_
        split <;> omega

theorem callP_ok (hk : 0 ≤ kind ∧ kind < 5) (hn : row.Nodup) (hd : ∀ k ∈ row, (σ k).sh.Nodup) (hne : ∀ k ∈ row, (σ k).sh ≠ []) :
    CallOk (soundP kind n ms (row.map τ)) (qOf kind n ms row τ) row (fun k => (τ k).isSome) σ (callP kind n ms row τ σ) := by
  unfold callP
  by_cases h0 : kind = 0
  · subst h0; rw [if_pos rfl]; exact call0_ok hn hd hne
  by_cases h1 : kind = 1
  · subst h1; rw [if_neg h0, if_pos rfl]; exact call1_ok hn hne
  by_cases h2 : kind = 2
  · subst h2; rw [if_neg h0, if_neg h1, if_pos rfl]; exact call2_ok hn
  by_cases h3 : kind = 3
  · rw [if_neg h0, if_neg h1, if_neg h2, if_pos h3]; exact call3_ok (.inl ⟨h3, rfl⟩) hn hne
  · rw [if_neg h0, if_neg h1, if_neg h2, if_neg h3]; exact call3_ok (.inr ⟨by omega, rfl⟩) hn hne
end
end Mine
end

section
namespace Mine

/-! what popState gives back -/
def Same (σ σ' : Nat → DS) : Prop := ∀ k, k < 4 → (σ' k).sh.Perm (σ k).sh ∧ (σ' k).hd = (σ k).hd ∧ (σ' k).st = (σ k).st
theorem Same.refl (σ : Nat → DS) : Same σ σ := fun _ _ => ⟨List.Perm.refl _, rfl, rfl⟩
theorem Same.trans {σ σ' σ'' : Nat → DS} (a : Same σ σ') (c : Same σ' σ'') : Same σ σ'' := fun k hk => ⟨(c k hk).1.trans (a k hk).1, (c k hk).2.1.trans (a k hk).2.1, (c k hk).2.2.trans (a k hk).2.2⟩
theorem srt_perm_eq {a c : List Int} (p : a.Perm c) : srt a = srt c := srt_of ((srt_perm a).trans p) (srt_sorted a)

theorem push_all_at : ∀ (fr : List Nat) (σ : Nat → DS) (k : Nat), fr.Nodup → pushAll fr σ k = if k ∈ fr then pushOne σ k k else σ k
  | [], σ, k, _ => by simp [pushAll]
  | o :: r, σ, k, hn => by
    have ho := (List.nodup_cons.mp hn).1
    show pushAll r (pushOne σ o) k = _
    rw [push_all_at r (pushOne σ o) k (List.nodup_cons.mp hn).2]
    by_cases e : k = o
    · subst e; rw [if_neg ho, if_pos List.mem_cons_self]
    · have e1 : pushOne σ o k = σ k := upd_other _ _ e
      have e2 : pushOne (pushOne σ o) k k = pushOne σ k k := by unfold pushOne at e1 ⊢; rw [upd_same, upd_same, e1]
      have e3 : (k ∈ o :: r) ↔ k ∈ r := ⟨fun h => (List.mem_cons.mp h).resolve_left e, List.mem_cons_of_mem _⟩
      rw [e1, e2]
      by_cases h : k ∈ r
      · rw [if_pos h, if_pos (e3.mpr h)]
      · rw [if_neg h, if_neg fun q => h (e3.mp q)]
theorem pop_all_at : ∀ (fr : List Nat) (σ : Nat → DS) (k : Nat), fr.Nodup → popAll fr σ k = if k ∈ fr then popOne σ k k else σ k
  | [], σ, k, _ => by simp [popAll]
  | o :: r, σ, k, hn => by
    have ho := (List.nodup_cons.mp hn).1
    show popAll r (popOne σ o) k = _
    rw [pop_all_at r (popOne σ o) k (List.nodup_cons.mp hn).2]
    by_cases e : k = o
    · subst e; rw [if_neg ho, if_pos List.mem_cons_self]
    · have e1 : popOne σ o k = σ k := upd_other _ _ e
      have e2 : popOne (popOne σ o) k k = popOne σ k k := by unfold popOne at e1 ⊢; rw [upd_same, upd_same, e1]
      have e3 : (k ∈ o :: r) ↔ k ∈ r := ⟨fun h => (List.mem_cons.mp h).resolve_left e, List.mem_cons_of_mem _⟩
      rw [e1, e2]
      by_cases h : k ∈ r
      · rw [if_pos h, if_pos (e3.mpr h)]
      · rw [if_neg h, if_neg fun q => h (e3.mp q)]

/-- a turn: the free ones pushed, and some of their values hidden -/
def Turned (fr : List Nat) (σ σ' : Nat → DS) : Prop := ∀ k, k < 4 →
  if k ∈ fr then (∃ H, (σ' k).hd = (σ k).hd ++ H ∧ ((σ' k).sh ++ H).Perm (σ k).sh) ∧ (σ' k).st = (σ k).st ++ [(σ k).sh.length]
  else (σ' k).sh.Perm (σ k).sh ∧ (σ' k).hd = (σ k).hd ∧ (σ' k).st = (σ k).st
theorem Turned.same {fr : List Nat} {σ σ' σ'' : Nat → DS} (a : Turned fr σ σ') (c : Same σ' σ'') : Turned fr σ σ'' := fun k hk => by
  obtain ⟨c1, c2, c3⟩ := c k hk
  have := a k hk
  by_cases h : k ∈ fr
  · rw [if_pos h] at this ⊢
    obtain ⟨⟨H, e, p⟩, s⟩ := this
    exact ⟨⟨H, c2.trans e, (c1.append_right H).trans p⟩, c3.trans s⟩
  · rw [if_neg h] at this ⊢
    exact ⟨c1.trans this.1, c2.trans this.2.1, c3.trans this.2.2⟩
theorem popOne_turned {fr : List Nat} {σ σ' : Nat → DS} {k : Nat} (a : Turned fr σ σ') (hk : k < 4) (h : k ∈ fr) :
    (popOne σ' k k).sh.Perm (σ k).sh ∧ (popOne σ' k k).hd = (σ k).hd ∧ (popOne σ' k k).st = (σ k).st := by
  have := a k hk
  rw [if_pos h] at this
  obtain ⟨⟨H, e, p⟩, s⟩ := this
  have hl := p.length_eq
  rw [List.length_append] at hl
  have hd : (σ' k).hd.length - (((σ' k).st.getLast?.getD 0) - (σ' k).sh.length) = (σ k).hd.length := by
    rw [s, List.getLast?_append]; simp [e]; omega
  unfold popOne
  rw [upd_same]
  refine ⟨?_, ?_, ?_⟩
  · dsimp only
    rw [hd, e, List.drop_left]; exact p
  · dsimp only
    rw [hd, e, List.take_left]
  · dsimp only
    rw [s, List.dropLast_concat]
theorem pop_same {fr : List Nat} {σ σ' : Nat → DS} (a : Turned fr σ σ') (hn : fr.Nodup) : Same σ (popAll fr σ') := fun k hk => by
  rw [pop_all_at fr σ' k hn]
  by_cases h : k ∈ fr
  · rw [if_pos h]; exact popOne_turned a hk h
  · rw [if_neg h]
    have := a k hk
    rw [if_neg h] at this; exact this

/-- all that is at hand is the list's -/
structure Whole (ls : Nat → List Int) (σ : Nat → DS) : Prop where
  p : ∀ k, k < 4 → ((σ k).sh ++ (σ k).hd).Perm (ls k)
theorem Whole.same {ls : Nat → List Int} {σ σ' : Nat → DS} (a : Whole ls σ) (c : Same σ σ') : Whole ls σ' := ⟨fun k hk => by
  rw [(c k hk).2.1]; exact ((c k hk).1.append_right _).trans (a.p k hk)⟩
theorem Whole.turned {ls : Nat → List Int} {fr : List Nat} {σ σ' : Nat → DS} (a : Whole ls σ) (c : Turned fr σ σ') : Whole ls σ' := ⟨fun k hk => by
  have := c k hk
  by_cases h : k ∈ fr
  · rw [if_pos h] at this
    obtain ⟨⟨H, e, p⟩, s⟩ := this
    rw [e]
    have : ((σ' k).sh ++ ((σ k).hd ++ H)).Perm ((σ' k).sh ++ H ++ (σ k).hd) := by
      rw [List.append_assoc]; exact (List.perm_append_comm).append_left _
    exact this.trans ((p.append_right _).trans (a.p k hk))
  · rw [if_neg h] at this
    rw [this.2.1]; exact (this.1.append_right _).trans (a.p k hk)⟩

structure LsOk (ls : Nat → List Int) : Prop where
  so : ∀ k, k < 4 → (ls k).Pairwise (· ≤ ·)
  nd : ∀ k, k < 4 → (ls k).Nodup
  ne : ∀ k, k < 4 → ls k ≠ []
  le : ∀ k, k < 4 → (ls k).length ≤ 50
theorem Whole.len {ls : Nat → List Int} {σ : Nat → DS} (a : Whole ls σ) (X : LsOk ls) {k : Nat} (hk : k < 4) : (σ k).sh.length ≤ 50 ∧ (σ k).hd.length ≤ 50 := by
  have h1 := (a.p k hk).length_eq
  have h2 := X.le k hk
  rw [List.length_append] at h1; omega
theorem Whole.nd {ls : Nat → List Int} {σ : Nat → DS} (a : Whole ls σ) (X : LsOk ls) {k : Nat} (hk : k < 4) : (σ k).sh.Nodup :=
  (List.nodup_append.mp ((a.p k hk).nodup_iff.mpr (X.nd k hk))).1

def Chain (σ₀ : Nat → DS) : List (List Nat × (Nat → List Int)) → (Nat → DS) → Prop
  | [], σ => Same σ₀ σ
  | (fr, du) :: r, σ => ∃ σ₁, Chain σ₀ r σ₁ ∧ Turned fr σ₁ σ ∧ (∀ k, k < 4 → srt (σ₁ k).sh = du k) ∧ (∀ k ∈ fr, k < 4) ∧ fr.Nodup
theorem Chain.same {σ₀ : Nat → DS} : ∀ {l : List (List Nat × (Nat → List Int))} {σ σ' : Nat → DS}, Chain σ₀ l σ → Same σ σ' → Chain σ₀ l σ'
  | [], _, _, a, c => Same.trans a c
  | _ :: _, _, _, ⟨σ₁, a, b, r⟩, c => ⟨σ₁, a, b.same c, r⟩
theorem chain_whole {ls : Nat → List Int} {σ₀ : Nat → DS} (h0 : Whole ls σ₀) : ∀ {l : List (List Nat × (Nat → List Int))} {σ : Nat → DS}, Chain σ₀ l σ → Whole ls σ
  | [], _, a => h0.same a
  | _ :: _, _, ⟨_, a, b, _⟩ => (chain_whole h0 a).turned b
theorem chain_st {σ₀ : Nat → DS} (h0 : ∀ k, k < 4 → (σ₀ k).st = []) : ∀ {l : List (List Nat × (Nat → List Int))} {σ : Nat → DS}, Chain σ₀ l σ → ∀ k, k < 4 → (σ k).st.length ≤ l.length
  | [], _, a, k, hk => by rw [(a k hk).2.2, h0 k hk]; simp
  | (fr, _) :: l, _, ⟨_, a, b, _⟩, k, hk => by
    have i := chain_st h0 a k hk
    have := b k hk
    by_cases h : k ∈ fr
    · rw [if_pos h] at this; rw [this.2]; simp; omega
    · rw [if_neg h] at this; rw [this.2.2]; simp; omega

theorem chain_unwind {ls : Nat → List Int} (X : LsOk ls) {σ₀ : Nat → DS} (h0 : Whole ls σ₀) (hs : ∀ k, k < 4 → (σ₀ k).st = []) : ∀ {l : List (List Nat × (Nat → List Int))} {σ : Nat → DS}, l.length ≤ 50 → Chain σ₀ l σ → UnwindOk l σ ∧ Same σ₀ (unwind l σ)
  | [], σ, _, a => ⟨trivial, a⟩
  | (fr, du) :: r, σ, hl, a => by
    have hst := chain_st hs a
    have hw := chain_whole h0 a
    obtain ⟨σ₁, c, tu, hd, h4, hn⟩ := a
    have hp := pop_same tu hn
    obtain ⟨u1, u2⟩ := chain_unwind X h0 hs (by simp at hl; omega) (c.same hp)
    have hw1 := chain_whole h0 (c.same hp)
    refine ⟨⟨h4, fun i k hi => ?_, fun k hk => (hw1.len X hk).1, eqLL_iff.mpr fun k hk => ?_, u1⟩, u2⟩
    · have hm := List.mem_of_getElem? hi
      have hk := h4 k hm
      have hni : k ∉ fr.take i := fun hm' => by
        obtain ⟨j, hj, e⟩ := List.mem_iff_getElem.mp hm'
        have hj2 : j < i := by simp at hj; omega
        have hi2 : i < fr.length := (List.getElem?_eq_some_iff.mp hi).1
        have hj3 : fr[j]? = some k := by rw [← List.getElem?_take_of_lt hj2]; exact List.getElem?_eq_some_iff.mpr ⟨hj, e⟩
        have := (List.getElem?_inj (by omega) hn).mp (hj3.trans hi.symm); omega
      rw [pop_all_at _ _ _ (hn.sublist (List.take_sublist i fr)), if_neg hni]
      have t := tu k hk
      rw [if_pos hm] at t
      obtain ⟨⟨H, e, p⟩, s⟩ := t
      have q := p.length_eq
      rw [List.length_append] at q
      obtain ⟨z1, z2⟩ := hw.len X hk
      have z3 := hst k hk
      have eh : (σ k).hd.length = (σ₁ k).hd.length + H.length := by rw [e, List.length_append]
      have el : (σ k).st.getLast?.getD 0 = (σ₁ k).sh.length := by rw [s]; simp
      exact ⟨by rw [s]; simp, by rw [el]; omega, by rw [el]; omega, z1, z2, by omega⟩
    · rw [srt_perm_eq (hp k hk).1]; exact hd k hk
end Mine
end

section
namespace Mine

theorem noNil_iff {f : Nat → List Int} : noNil f = true ↔ ∀ k, k < 4 → f k ≠ [] := by
  unfold noNil
  constructor
  · intro h k hk
    simp at h
    obtain ⟨a, b, c, e⟩ := h
    match k, hk with
    | 0, _ => exact a
    | 1, _ => exact b
    | 2, _ => exact c
    | 3, _ => exact e
  · intro h
    have a := h 0 (by decide)
    have b := h 1 (by decide)
    have c := h 2 (by decide)
    have e := h 3 (by decide)
    simp [a, b, c, e]

section
variable {ls : Nat → List Int} {τ : Nat → Option Int} {x : Int}
theorem mem_free₀ {k : Nat} : k ∈ tFree₀ τ ↔ k < 4 ∧ τ k = none := by
  unfold tFree₀
  rw [List.mem_filter, List.mem_range]
  cases τ k <;> simp
theorem nodup_free₀ : (tFree₀ τ).Nodup := (List.nodup_range).sublist List.filter_sublist
theorem tJ_lt (h : 0 < (tFree₀ τ).length) : tJ τ x < (tFree₀ τ).length := by
  unfold tJ
  have h0 : 0 ≤ x.fmod (tFree₀ τ).length := Int.fmod_nonneg_of_pos _ (by omega)
  have hlt : x.fmod (tFree₀ τ).length < (tFree₀ τ).length := Int.fmod_lt_of_pos _ (by omega)
  omega
theorem tK_at (h : 0 < (tFree₀ τ).length) : (tFree₀ τ)[tJ τ x]? = some (tK τ x) := by
  unfold tK
  rw [List.getD_eq_getElem?_getD, List.getElem?_eq_getElem (tJ_lt h)]; rfl
theorem nodup_free : (tFree τ x).Nodup := nodup_free₀.sublist (List.eraseIdx_sublist _ _)
theorem mem_free (h : 0 < (tFree₀ τ).length) {k : Nat} : k ∈ tFree τ x ↔ k < 4 ∧ τ k = none ∧ k ≠ tK τ x := by
  unfold tFree
  rw [List.mem_eraseIdx_iff_getElem?]
  have hK := tK_at (x := x) h
  constructor
  · rintro ⟨i, hi, e⟩
    obtain ⟨a, b⟩ := mem_free₀.mp (List.mem_of_getElem? e)
    refine ⟨a, b, fun q => hi ?_⟩
    subst q
    exact (List.getElem?_inj (List.getElem?_eq_some_iff.mp e).1 nodup_free₀).mp (e.trans hK.symm)
  · rintro ⟨a, b, c⟩
    obtain ⟨i, hi, e⟩ := List.mem_iff_getElem.mp (mem_free₀.mpr ⟨a, b⟩)
    refine ⟨i, fun q => c ?_, List.getElem?_eq_some_iff.mpr ⟨hi, e⟩⟩
    subst q
    have : (tFree₀ τ)[tJ τ x]? = some k := List.getElem?_eq_some_iff.mpr ⟨hi, e⟩
    rw [hK] at this; exact (Option.some.inj this).symm
theorem told_free (h : 0 < (tFree₀ τ).length) {k : Nat} (hk : k < 4) : k ∈ tFree τ x ↔ (tτ ls τ x k).isSome = false := by
  rw [mem_free h]
  unfold tτ
  by_cases e : k = tK τ x
  · subst e; rw [upd_same]; simp
  · rw [upd_other _ _ e]; simp [hk, e]
theorem free_next (h : 0 < (tFree₀ τ).length) : (tFree₀ (tτ ls τ x)).length + 1 = (tFree₀ τ).length := by
  have p : (tFree₀ (tτ ls τ x)).Perm (tFree τ x) := (List.perm_ext_iff_of_nodup nodup_free₀ nodup_free).mpr fun k => by
    constructor
    · intro hm
      obtain ⟨a, b⟩ := mem_free₀.mp hm
      exact (told_free (ls := ls) h a).mpr (by rw [b]; rfl)
    · intro hm
      have a := ((mem_free h).mp hm).1
      have b := (told_free (ls := ls) h a).mp hm
      exact mem_free₀.mpr ⟨a, told_none b⟩
  rw [p.length_eq]
  unfold tFree
  rw [List.length_eraseIdx_of_lt (tJ_lt h)]; omega
end

/-- what holds at a turn's start -/
structure Inv (ls : Nat → List Int) (σ₀ : Nat → DS) (s : St4) : Prop where
  ch : Chain σ₀ s.st.reverse s.σ
  sd : ∀ k, k < 4 → srt (s.σ k).sh = s.due k
  ne : ∀ k, k < 4 → s.due k ≠ []
  fr : (tFree₀ s.τ).length + s.st.length = 4
/-- what the domains are at a pass's start -/
structure Start (ls : Nat → List Int) (σ₀ : Nat → DS) : Prop where
  X : LsOk ls
  sh : ∀ k, k < 4 → (σ₀ k).sh.Perm (ls k)
  hd : ∀ k, k < 4 → (σ₀ k).hd = []
  st : ∀ k, k < 4 → (σ₀ k).st = []
theorem Start.whole {ls : Nat → List Int} {σ₀ : Nat → DS} (S : Start ls σ₀) : Whole ls σ₀ := ⟨fun k hk => by rw [S.hd k hk, List.append_nil]; exact S.sh k hk⟩
theorem Start.same {ls : Nat → List Int} {σ₀ σ : Nat → DS} (S : Start ls σ₀) (c : Same σ₀ σ) : Start ls σ :=
  ⟨S.X, fun k hk => (c k hk).1.trans (S.sh k hk), fun k hk => by rw [(c k hk).2.1, S.hd k hk], fun k hk => by rw [(c k hk).2.2, S.st k hk]⟩
theorem Start.inv {ls : Nat → List Int} {σ₀ : Nat → DS} (S : Start ls σ₀) : Inv ls σ₀ ⟨fun _ => none, σ₀, ls, []⟩ :=
  ⟨Same.refl σ₀, fun k hk => by
    show srt (σ₀ k).sh = ls k
    exact (srt_of (S.sh k hk).symm (S.X.so k hk)).symm, S.X.ne, rfl⟩

section
variable {kind n : Int} {ls : Nat → List Int} {row : List Nat} {σ₀ : Nat → DS} {s : St4} {x : Int}

theorem turn_ok (hkind : 0 ≤ kind ∧ kind < 5) (hn : row.Nodup) (h4 : ∀ k ∈ row, k < 4) (S : Start ls σ₀) (I : Inv ls σ₀ s) (hlt : s.st.length < 4) :
    TurnOk kind n ls row s.τ x s.σ s.due ∧ Chain σ₀ (stepT kind n ls row x s).st.reverse (stepT kind n ls row x s).σ ∧
      ((tCall kind n ls row s.τ x s.σ).1 = true → Inv ls σ₀ (stepT kind n ls row x s)) := by
  have hfp : 0 < (tFree₀ s.τ).length := by have := I.fr; omega
  have hw := chain_whole S.whole I.ch
  have hst := chain_st S.st I.ch
  have hfn := nodup_free (τ := s.τ) (x := x)
  -- the pushed domains
  have hP : ∀ k, tPush s.τ x s.σ k = if k ∈ tFree s.τ x then pushOne s.σ k k else s.σ k := fun k => push_all_at _ _ _ hfn
  have hPs : ∀ k, (tPush s.τ x s.σ k).sh = (s.σ k).sh := fun k => (pushAll_keep _ _ k).1
  have hne : ∀ k, k < 4 → (s.σ k).sh ≠ [] := fun k hk e => I.ne k hk (by rw [← I.sd k hk, e]; exact (srt_perm []).eq_nil)
  have C := callP_ok (n := n) (ms := ls 0) (τ := tτ ls s.τ x) (σ := tPush s.τ x s.σ) hkind hn (fun k hk => by rw [hPs]; exact hw.nd S.X (h4 k hk)) (fun k hk => by rw [hPs]; exact hne k (h4 k hk))
  change CallOk (tFits kind n ls row s.τ x) _ _ _ _ (tCall kind n ls row s.τ x s.σ) at C
  obtain ⟨a1, a2, a3, a4, a5, a6⟩ := C
  have hfree : ∀ k, k < 4 → (k ∈ tFree s.τ x ↔ (tτ ls s.τ x k).isSome = false) := fun k hk => told_free hfp hk
  have tu : Turned (tFree s.τ x) s.σ (tCall kind n ls row s.τ x s.σ).2 := fun k hk => by
    by_cases h : k ∈ tFree s.τ x
    · rw [if_pos h]
      have e : tPush s.τ x s.σ k = ⟨(s.σ k).sh, (s.σ k).hd, (s.σ k).st ++ [(s.σ k).sh.length]⟩ := by rw [hP, if_pos h]; unfold pushOne; rw [upd_same]
      obtain ⟨q1, q2⟩ := a1 k
      rw [e] at q1 q2
      exact ⟨q1, q2⟩
    · rw [if_neg h]
      have ht : (tτ ls s.τ x k).isSome = true := by
        cases hq : (tτ ls s.τ x k).isSome with
        | true => rfl
        | false => exact absurd ((hfree k hk).mpr hq) h
      rw [a2 k fun _ => ht, hP, if_neg h]
      exact ⟨List.Perm.refl _, rfl, rfl⟩
  -- left
  have hoth : ∀ k, k < 4 → (k ∈ row → (tτ ls s.τ x k).isSome = true) → tLeft kind n ls row s.τ x s.due k = s.due k ∧ ((tCall kind n ls row s.τ x s.σ).2 k).sh = (s.σ k).sh := fun k hk h => by
    refine ⟨List.filter_eq_self.mpr fun v _ => ?_, by rw [a2 k h, hPs]⟩
    unfold keepP
    by_cases hm : k ∈ row
    · rw [h hm]; rfl
    · have : row.contains k = false := by simpa using hm
      rw [this]; simp
  have hin : ∀ k, k ∈ row → (tτ ls s.τ x k).isSome = false → tLeft kind n ls row s.τ x s.due k = (s.due k).filter (qOf kind n (ls 0) row (tτ ls s.τ x) k) := fun k hk h => by
    refine List.filter_congr fun v _ => ?_
    unfold keepP
    have : row.contains k = true := by simpa using hk
    rw [h, this]; rfl
  have hper : ∀ k, k < 4 → (s.due k).Perm (s.σ k).sh := fun k hk => by rw [← I.sd k hk]; exact srt_perm _
  have hper2 : ∀ k, k < 4 → ∀ q : Int → Bool, ((s.due k).filter q).Perm ((tPush s.τ x s.σ k).sh.filter q) := fun k hk q => by rw [hPs]; exact (hper k hk).filter q
  have hnil : ∀ {a c : List Int}, a.Perm c → (a ≠ [] ↔ c ≠ []) := fun p => not_congr ⟨fun e => by rw [e] at p; exact p.nil_eq.symm, fun e => by rw [e] at p; exact p.eq_nil⟩
  have sem : ∀ k, (k ∈ row → (tτ ls s.τ x k).isSome = true) ∨ (k ∈ row ∧ (tτ ls s.τ x k).isSome = false) := fun k => by
    by_cases h : k ∈ row ∧ (tτ ls s.τ x k).isSome = false
    · exact .inr h
    · exact .inl fun hm => by
        cases hq : (tτ ls s.τ x k).isSome with
        | true => rfl
        | false => exact absurd ⟨hm, hq⟩ h
  have c2 : (tCall kind n ls row s.τ x s.σ).1 = true → ∀ k, k < 4 → srt ((tCall kind n ls row s.τ x s.σ).2 k).sh = tLeft kind n ls row s.τ x s.due k := fun ht k hk => by
    rcases sem k with h | ⟨h1, h2⟩
    · obtain ⟨e1, e2⟩ := hoth k hk h
      rw [e1, e2]; exact I.sd k hk
    · rw [hin k h1 h2]
      refine (srt_of ?_ ?_).symm
      · exact (hper2 k hk _).trans (a5 ht k h1 h2).symm
      · have : (s.due k).Pairwise (· ≤ ·) := by rw [← I.sd k hk]; exact srt_sorted _
        exact this.sublist List.filter_sublist
  have c1 : (tCall kind n ls row s.τ x s.σ).1 = (tFits kind n ls row s.τ x && noNil (tLeft kind n ls row s.τ x s.due)) := by
    cases hf : tFits kind n ls row s.τ x with
    | false => rw [a3 hf]; rfl
    | true =>
      rw [Bool.true_and, Bool.eq_iff_iff, a4 hf, noNil_iff]
      constructor
      · intro H k hk
        rcases sem k with h | ⟨h1, h2⟩
        · rw [(hoth k hk h).1]; exact I.ne k hk
        · rw [hin k h1 h2]
          exact (hnil (hper2 k hk _)).mpr (H k h1 h2)
      · intro H k h1 h2
        have := H k (h4 k h1)
        rw [hin k h1 h2] at this
        exact (hnil (hper2 k (h4 k h1) _)).mp this
  have hch : Chain σ₀ (stepT kind n ls row x s).st.reverse (stepT kind n ls row x s).σ := by
    show Chain σ₀ (s.st ++ [(tFree s.τ x, s.due)]).reverse (tCall kind n ls row s.τ x s.σ).2
    rw [List.reverse_append]
    exact ⟨s.σ, I.ch, tu, I.sd, fun k hk => ((mem_free hfp).mp hk).1, hfn⟩
  have hw2 := hw.turned tu
  refine ⟨⟨hfp, fun k hk => ⟨(hw.len S.X hk).1, (hw.len S.X hk).2, ?_, hw.nd S.X hk⟩, fun k hk => (hw2.len S.X hk).1, fun k hk => ?_, c1, fun ht => eqLL_iff.mpr (c2 ht), fun hf => eqLL_iff.mpr fun k hk => ?_, fun hf k hk v hv => ?_⟩, hch, fun ht => ⟨hch, c2 ht, ?_, ?_⟩⟩
  · have := hst k hk; rw [List.length_reverse] at this; omega
  · rw [(hper k hk).length_eq]; exact (hw.len S.X hk).1
  · rw [a3 hf]; show srt (tPush s.τ x s.σ k).sh = _
    rw [hPs]; exact I.sd k hk
  · rw [(srt_perm _).mem_iff]
    rcases sem k with h | ⟨h1, h2⟩
    · obtain ⟨e1, e2⟩ := hoth k hk h
      rw [e2]; rw [e1] at hv; exact (hper k hk).mem_iff.mp hv
    · rw [hin k h1 h2] at hv
      obtain ⟨m1, m2⟩ := List.mem_filter.mp hv
      exact a6 k h1 h2 v (by rw [hPs]; exact (hper k hk).mem_iff.mp m1) m2
  · rw [c1] at ht
    exact noNil_iff.mp (Bool.and_eq_true_iff.mp ht).2
  · show (tFree₀ (tτ ls s.τ x)).length + (s.st ++ [(tFree s.τ x, s.due)]).length = 4
    have := free_next (ls := ls) (x := x) hfp
    have := I.fr
    rw [List.length_append]; simp only [List.length_singleton]; omega

theorem run_ok (hkind : 0 ≤ kind ∧ kind < 5) (hn : row.Nodup) (h4 : ∀ k ∈ row, k < 4) (S : Start ls σ₀) : ∀ (xs : List Int) (s : St4), Inv ls σ₀ s → xs.length + s.st.length ≤ 4 →
    RunOk kind n ls row xs s ∧ Chain σ₀ (runT kind n ls row xs s).st.reverse (runT kind n ls row xs s).σ ∧ (runT kind n ls row xs s).st.length ≤ 4
  | [], s, I, h => ⟨trivial, I.ch, by simpa [runT] using h⟩
  | x :: r, s, I, h => by
    simp at h
    obtain ⟨t1, t2, t3⟩ := turn_ok (kind := kind) (n := n) (x := x) hkind hn h4 S I (by omega)
    have hl : (stepT kind n ls row x s).st.length = s.st.length + 1 := by simp [stepT]
    by_cases hc : (tCall kind n ls row s.τ x s.σ).1 = true
    · obtain ⟨u1, u2, u3⟩ := run_ok hkind hn h4 S r _ (t3 hc) (by omega)
      refine ⟨⟨t1, fun _ => u1⟩, ?_⟩
      unfold runT; rw [if_pos hc]; exact ⟨u2, u3⟩
    · refine ⟨⟨t1, fun h => absurd h hc⟩, ?_⟩
      unfold runT; rw [if_neg hc]; exact ⟨t2, by omega⟩

/-- a pass goes well, and gives all back -/
theorem pass_ok (hkind : 0 ≤ kind ∧ kind < 5) (hn : row.Nodup) (h4 : ∀ k ∈ row, k < 4) (S : Start ls σ₀) (xs : List Int) (hx : xs.length ≤ 4) :
    (RunOk kind n ls row xs ⟨fun _ => none, σ₀, ls, []⟩ ∧ UnwindOk (runT kind n ls row xs ⟨fun _ => none, σ₀, ls, []⟩).st.reverse (runT kind n ls row xs ⟨fun _ => none, σ₀, ls, []⟩).σ) ∧
      Start ls (unwind (runT kind n ls row xs ⟨fun _ => none, σ₀, ls, []⟩).st.reverse (runT kind n ls row xs ⟨fun _ => none, σ₀, ls, []⟩).σ) := by
  obtain ⟨a, c, e⟩ := run_ok (kind := kind) (n := n) hkind hn h4 S xs ⟨fun _ => none, σ₀, ls, []⟩ S.inv (by simpa using hx)
  obtain ⟨u1, u2⟩ := chain_unwind S.X S.whole S.st (by rw [List.length_reverse]; omega) c
  exact ⟨⟨a, u1⟩, S.same u2⟩
end
end Mine
end

section
open PySem PySem.W PySem.Calls PyProof.Rows Builtin Builtin.ObjectAttr PySem.SeqAt
set_option maxRecDepth 100000
namespace Mine
section
variable {prog : Program} {w : World} {A : Around} {E : Value → Shared → Prop} {h : Heap} {g : Array GenState} {d : Drawn} {t : Nat} {os : OsState} {b : Heap} {fs : Nat → DA} {σ : Nat → DS} {env : Env} {m : Str → Option Value} {cv : Nat → Option Value} {L : Addr}

set_option maxHeartbeats 1000000 in
/-- one pass -/
theorem pass_spec {la ra ca da msa na : Addr} {dk : List (Int × Value)} {kind n : Int} {ls : Nat → List Int} {row : List Nat} {xs0 : List Int} {Q : Flow → Shared → Prop}
    (X : Fix prog w b fs la ra ca da msa dk kind n ls row) (l : Le b h) (Rm : Room A 3) (Lb : ∀ p ∈ frameW L, b.get? p = none) (LFr : ∀ p ∈ allF fs, p ∉ frameW L)
    (N : Fr0 la ra ca da kind n m cv) (F : LF h L m cv) (D : Doms h b fs σ) (hn : m sNumbers = some (.ref na)) (hna : IL b na xs0) (hn4 : xs0.length ≤ 100) (S : Start ls σ) (hkind : 0 ≤ kind ∧ kind < 5)
    (kk : ∀ h' tk m' cv' σ', Ext (frameW L ++ allF fs) h h' → Fr0 la ra ca da kind n m' cv' → LF h' L m' cv' → Doms h' b fs σ' → Start ls σ' → Q .next ⟨h', g, d, tk, os⟩) :
    wpAny (model prog w) A (execs (passB w.params) (lawE w.params L)) Q E ⟨h, g, d, t, os⟩ := by
  have Lf := L_frame L
  have hLM : ∀ p ∈ frameW L, p ∈ frameW L ++ allF fs := fun p hp => List.mem_append_left _ hp
  have live : ∀ p ∈ frameW L ++ allF fs, ∃ o, h.get? p = some o := fun p hm => (List.mem_append.mp hm).elim (F.live p) (D.live p)
  refine wpAny_execs_cons (wpAny_Assign_Name (dnil X.S l fun h₁ td T f₁ l₁ => sC 6 (F.le l₁) fun h₂ F₂ x₂ => ?_))
  have c6 := c_frame L (i := 6) (by decide)
  have c7 := c_frame L (i := 7) (by decide)
  have tdM : td ∉ frameW L ++ allF fs := fun hm => not_some f₁ (live td hm)
  have tdL : td ∉ frameW L := fun hm => tdM (hLM td hm)
  have x02 : Ext (frameW L ++ allF fs) h h₂ := (Ext.of_le (W := frameW L ++ allF fs) l₁).trans x₂ (fun p hp => .inl (by rw [List.mem_singleton.mp hp]; exact hLM _ c6))
  have T₂ := T.ext x₂ (by simpa using fun e : td = L + 1 + 6 => tdL (e ▸ c6))
  refine wpAny_execs_cons (wpAny_Assign_Name (lC 1 F₂ (by rw [upd_other _ _ (by decide)]; exact N.c1) (sC 7 F₂ fun h₃ F₃ x₃ => ?_)))
  have x03 : Ext (frameW L ++ allF fs) h h₃ := x02.trans x₃ (fun p hp => .inl (by rw [List.mem_singleton.mp hp]; exact hLM _ c7))
  have T₃ := T₂.ext x₃ (by simpa using fun e : td = L + 1 + 7 => tdL (e ▸ c7))
  refine wpAny_execs_cons (wpAny_Assign_Name (lnil fun h₄ sa n₄ e₄ f₄ l₄ => sL (F₃.le l₄) fun h₅ u₅ F₅ x₅ => ?_))
  have live3 : ∀ p ∈ frameW L ++ allF fs, ∃ o, h₃.get? p = some o := fun p hm => by
    rcases List.mem_append.mp hm with hm | hm
    · exact F₃.live p hm
    · have D₃ : Doms h₃ b fs σ := ((D.le l₁).ext x₂ (fun p hp => by simpa using fun e : p = L + 1 + 6 => LFr p hp (e ▸ c6))).ext x₃ (fun p hp => by simpa using fun e : p = L + 1 + 7 => LFr p hp (e ▸ c7))
      exact D₃.live p hm
  have saM : sa ∉ frameW L ++ allF fs := fun hm => not_some f₄ (live3 sa hm)
  have saL : sa ∉ frameW L := fun hm => saM (hLM sa hm)
  have hsh : h.get? sa = none := by
    cases e : h.get? sa with
    | none => rfl
    | some o => exact absurd ⟨o, x03 _ _ saM e⟩ (not_some f₄)
  have x05 : Ext (frameW L ++ allF fs) h h₅ := (x03.trans (Ext.of_le (W := []) l₄) (by simp)).trans x₅ (fun p hp => .inl (by rw [List.mem_singleton.mp hp]; exact hLM _ Lf))
  have lb : ∀ p ∈ frameW L ++ allF fs, b.get? p = none := fun p hm => (List.mem_append.mp hm).elim (Lb p) (D.offA p)
  have T₅ := (T₃.le l₄).ext x₅ (by simpa using fun e : td = L => tdL (e ▸ Lf))
  have e₅ := x₅ _ _ (by simpa using fun e : sa = L => saL (e ▸ Lf)) e₄
  have D₅ : Doms h₅ b fs σ := (((D.le l₁).ext x₂ (fun p hp => by simpa using fun e : p = L + 1 + 6 => LFr p hp (e ▸ c6))).ext x₃ (fun p hp => by simpa using fun e : p = L + 1 + 7 => LFr p hp (e ▸ c7))).le l₄ |>.ext x₅ (fun p hp => by simpa using fun e : p = L => LFr p hp (e ▸ Lf))
  have hts : td ≠ sa := fun e => by
    obtain ⟨o, ho, _⟩ := T₃.live
    exact not_some f₄ ⟨o, e ▸ ho⟩
  have O : Off b fs L td sa := ⟨Lb, LFr, l.fresh f₁, tdL, fun hm => tdM (List.mem_append_right _ hm), l.fresh hsh, saL, fun hm => saM (List.mem_append_right _ hm), hts⟩
  have N₅ : Fr0 la ra ca da kind n (updM m sSteps (.ref sa)) (upd (upd cv 6 (some (.ref td))) 7 (some (.ref la))) := by
    obtain ⟨a1, a2, a3, a4, a5, a6⟩ := N
    refine ⟨?_, ?_, ?_, ?_, ?_, ?_⟩
    · rw [upd_other _ _ (by decide), upd_other _ _ (by decide)]; exact a1
    · rw [upd_other _ _ (by decide), upd_other _ _ (by decide)]; exact a2
    · rw [upd_other _ _ (by decide), upd_other _ _ (by decide)]; exact a3
    · rw [upd_other _ _ (by decide), upd_other _ _ (by decide)]; exact a4
    · rw [upd_other _ _ (by decide), upd_other _ _ (by decide)]; exact a5
    · rw [updM, if_neg (by decide)]; exact a6
  have Y : TS prog w b h₅ fs L td sa (updM m sSteps (.ref sa)) (upd (upd cv 6 (some (.ref td))) 7 (some (.ref la))) (fun _ => none) σ ls [] :=
    ⟨F₅, D₅, ⟨[], T₅, fun k hk => rfl, ⟨by simp, by simp⟩, rfl⟩, ⟨[], _, e₅, .nil⟩, by rw [upd_other _ _ (by decide), upd_same], ⟨la, upd_same _ _ _, X.hls⟩, by rw [updM, if_pos rfl]⟩
  refine pass_for (s := ⟨fun _ => none, σ, ls, []⟩) X (x05.base l lb) Rm O N₅ Y rfl (by rw [updM, if_neg (by decide)]; exact hn) hna hn4 (fun xs hx => (pass_ok hkind X.rn X.r4 S xs hx).1) fun h₆ t₆ m₆ cv₆ xs hx x₆ N₆ F₆ D₆ => ?_
  refine kk h₆ t₆ m₆ cv₆ _ (x05.trans x₆ (fun p hp => ?_)) N₆ F₆ D₆ (pass_ok hkind X.rn X.r4 S xs hx).2
  rcases List.mem_append.mp hp with hp | hp
  · exact .inl hp
  · simp at hp
    rcases hp with rfl | rfl
    · exact .inr f₁
    · exact .inr hsh
end
end Mine
end

section
open PySem PySem.W PySem.Calls PyProof.Rows Builtin Builtin.ObjectAttr PySem.SeqAt
set_option maxRecDepth 100000
namespace Mine
/-- a statement as a whole, its form not looked into -/
structure Goes (P : Prop) : Prop where
  go : P
section
variable {prog : Program} {w : World} {A : Around} {E : Value → Shared → Prop} {h : Heap} {g : Array GenState} {d : Drawn} {t : Nat} {os : OsState} {b : Heap} {fs : Nat → DA} {σ : Nat → DS} {env : Env} {m : Str → Option Value} {cv : Nat → Option Value} {L : Addr}

set_option maxHeartbeats 1000000 in
/-- for numbers in [script[:4], script[4:8]]: .., then return True -/
theorem outer_spec {la ra ca da msa sc : Addr} {dk : List (Int × Value)} {kind n : Int} {ls : Nat → List Int} {row : List Nat} {ns : List Int} {Q : Flow → Shared → Prop}
    (X : Fix prog w b fs la ra ca da msa dk kind n ls row) (l : Le b h) (Rm : Room A 3) (Lb : ∀ p ∈ frameW L, b.get? p = none) (LFr : ∀ p ∈ allF fs, p ∉ frameW L)
    (N : Fr0 la ra ca da kind n m cv) (F : LF h L m cv) (D : Doms h b fs σ) (c0 : cv 0 = some (.ref sc)) (hsc : IL b sc ns) (hn4 : ns.length ≤ 100) (S : Start ls σ) (hkind : 0 ≤ kind ∧ kind < 5)
    (kk : ∀ h' tk, Ext (frameW L ++ allF fs) h h' → Q (.ret (.bool true)) ⟨h', g, d, tk, os⟩) :
    Goes (wpAny (model prog w) A (execs ((lawB w.params).drop 7) (lawE w.params L)) Q E ⟨h, g, d, t, os⟩) := by
  refine ⟨?_⟩
  obtain ⟨sits, sn, hse, hsi⟩ := hsc
  have hsl := hsi.length
  have Lf := L_frame L
  have lb : ∀ p ∈ frameW L ++ allF fs, b.get? p = none := fun p hm => (List.mem_append.mp hm).elim (Lb p) (D.offA p)
  have live : ∀ p ∈ frameW L ++ allF fs, ∃ o, h.get? p = some o := fun p hm => (List.mem_append.mp hm).elim (F.live p) (D.live p)
  refine wpAny_execs_cons (for_listI Rm.hh (ldisp (spliced_cons (lslice (lC 0 F c0 (wpAny_evalPart_none (wpAny_evalPart_some (ci fun u1 t1 => ?_)))))))
  )
  refine ⟨_, _, _, _, _, sc, _, sn, none, some 4, rfl, rfl, l _ _ hse, by omega, .none, .int _ _, fun h₁ n1 m1 e₁ f₁ l₁ => ?_⟩
  refine spliced_cons (lslice (lC 0 (F.le l₁) c0 (wpAny_evalPart_some (ci fun u2 t2 => wpAny_evalPart_some (ci fun u3 t3 => ?_)))))
  refine ⟨_, _, _, _, _, sc, _, sn, some 4, some 8, rfl, rfl, l₁ _ _ (l _ _ hse), by omega, .int _ _, .int _ _, fun h₂ n2 m2 e₂ f₂ l₂ => ?_⟩
  refine spliced_nil ⟨h₂, g, d, _, os, rfl, by simp, fun h₃ z nz e₃ f₃ l₃ => ?_⟩
  have l03 : Le h h₃ := (l₁.trans l₂).trans l₃
  have i1 : IL h₃ n1 (pickNums ns none (some 4) none) := ⟨_, _, by rw [Array.toArray_toList]; exact l₃ _ _ (l₂ _ _ e₁), hsi.pick none (some 4) none⟩
  have i2 : IL h₃ n2 (pickNums ns (some 4) (some 8) none) := ⟨_, _, by rw [Array.toArray_toList]; exact l₃ _ _ e₂, hsi.pick (some 4) (some 8) none⟩
  have z1 := length_pickNums_le hsi none (some 4) none
  have z2 := length_pickNums_le hsi (some 4) (some 8) none
  have fr : ∀ {p : Addr}, h.get? p = none → p ∉ frameW L ++ allF fs := fun hn hm => not_some hn (live _ hm)
  have n1M : n1 ∉ frameW L ++ allF fs := fr f₁
  have n2M : n2 ∉ frameW L ++ allF fs := fr (l₁.fresh f₂)
  have zM : z ∉ frameW L ++ allF fs := fr ((l₁.trans l₂).fresh f₃)
  -- the base of the loop
  have bb : Le b (mask h₃ (frameW L ++ allF fs)) := le_mask (l.trans l03) lb
  have ILm : ∀ {p : Addr} {ms : List Int}, IL h₃ p ms → p ∉ frameW L ++ allF fs → IL (mask h₃ (frameW L ++ allF fs)) p ms := fun ⟨its, c, e, i⟩ hp => ⟨its, c, by rw [mask_out hp]; exact e, i⟩
  refine ⟨h₃, g, d, _, os, z, _, nz, frameW L ++ allF fs, rfl, rfl, e₃, zM, fun p hp => let ⟨o, ho⟩ := live p hp; ⟨o, l03 _ _ ho⟩, fun I hI => ⟨fun i h' => ∃ m' cv' σ', Ext (frameW L ++ allF fs) h₃ h' ∧ Fr0 la ra ca da kind n m' cv' ∧ LF h' L m' cv' ∧ Doms h' (mask h₃ (frameW L ++ allF fs)) fs σ' ∧ Start ls σ', ?_, ?_, ?_, ?_⟩⟩
  · intro h' l'
    exact ⟨m, cv, σ, Ext.of_le l', N, (F.le l03).le l', ((D.le l03).le l').rebase fun p hp => mask_in (List.mem_append_right _ hp), S⟩
  · rintro i ha hb ⟨m', cv', σ', x', N', F', D', S'⟩ x
    have hIM : ∀ p ∈ frameW L ++ allF fs, p ∉ [I] := fun p hp hm => by
      rw [List.mem_singleton.mp hm] at hp
      obtain ⟨o, ho⟩ := live _ hp
      exact not_some hI ⟨o, l03 _ _ ho⟩
    exact ⟨m', cv', σ', x'.trans x (fun p hp => .inr (by rw [List.mem_singleton.mp hp]; exact hI)), N', F'.ext x fun p hp => hIM p (List.mem_append_left _ hp), D'.ext x fun p hp => hIM p (List.mem_append_right _ hp), S'⟩
  · rintro i v h' tk E' hv ⟨m', cv', σ', x', N', F', D', S'⟩ _
    obtain ⟨na, xs0, rfl, hna, hz⟩ : ∃ na xs0, v = Value.ref na ∧ IL (mask h₃ (frameW L ++ allF fs)) na xs0 ∧ xs0.length ≤ 100 := by
      match i, hv with
      | 0, hv => cases hv; exact ⟨n1, _, rfl, ILm i1 n1M, by omega⟩
      | 1, hv => cases hv; exact ⟨n2, _, rfl, ILm i2 n2M, by omega⟩
    refine sL F' fun h₄ u₄ F₄ x₄ => ?_
    have lb' : Le (mask h₃ (frameW L ++ allF fs)) h' := x'.base (mask_le _ _) fun p hp => mask_in hp
    have lb₄ : Le (mask h₃ (frameW L ++ allF fs)) h₄ := x₄.base lb' (by simpa using mask_in (List.mem_append_left _ Lf))
    have N₄ : Fr0 la ra ca da kind n (updM m' sNumbers (.ref na)) cv' := ⟨N'.c1, N'.c2, N'.c3, N'.c4, N'.c5, by rw [updM, if_neg (by decide)]; exact N'.mm⟩
    refine pass_spec (na := na) (X.le bb) lb₄ Rm (fun p hp => mask_in (List.mem_append_left _ hp)) LFr N₄ F₄ (D'.ext x₄ fun p hp => by simpa using fun e : p = L => LFr p hp (e ▸ Lf)) (by rw [updM, if_pos rfl]) hna hz S' hkind fun h₅ t₅ m₅ cv₅ σ₅ x₅ N₅ F₅ D₅ S₅ => ?_
    have x45 : Ext (frameW L ++ allF fs) h' h₅ := (x₄.mono (by simpa using List.mem_append_left _ Lf)).trans x₅ (fun p hp => .inl hp)
    exact ⟨h₅, t₅, rfl, x45, m₅, cv₅, σ₅, x'.trans x45 (fun p hp => .inl hp), N₅, F₅, D₅, S₅⟩
  · rintro h' tk ⟨m', cv', σ', x', N', F', D', S'⟩
    exact wpAny_execs_cons (ret' (cb (kk h' _ ((Ext.of_le (W := frameW L ++ allF fs) l03).trans x' (fun p hp => .inl hp)))))
end
end Mine
end

section
open PySem PySem.W PySem.Calls PyProof.Rows Builtin Builtin.ObjectAttr PySem.SeqAt
set_option maxRecDepth 100000
namespace Mine
/-- a list is no part of the frame -/
theorem LF.not_list {h : Heap} {L : Addr} {m : Str → Option Value} {cv : Nat → Option Value} {p : Addr} {xs : List Value} {n : Nat} (F : LF h L m cv) (e : h.get? p = some (listO xs.toArray n)) : p ∉ frameW L := fun hm => by
  obtain ⟨h1, h2⟩ := mem_frameW.mp hm
  by_cases q : p = L
  · subst q
    obtain ⟨o, es, ep, ho, hd, _⟩ := F.ns
    rw [ho] at e; cases e; cases hd
  · obtain ⟨o, ho, hd⟩ := F.cs (p - L - 1) (cellLt h1 h2)
    rw [cellEq h1 q] at ho
    rw [ho] at e; cases e; cases hd
theorem LF.mask_IL {h : Heap} {L : Addr} {m : Str → Option Value} {cv : Nat → Option Value} {p : Addr} {ns : List Int} (F : LF h L m cv) (x : IL h p ns) : IL (mask h (frameW L)) p ns :=
  let ⟨its, n, e, i⟩ := x; ⟨its, n, (mask_out (F.not_list e)).trans e, i⟩
theorem LF.mask_LL {h : Heap} {L : Addr} {m : Str → Option Value} {cv : Nat → Option Value} {p : Addr} {f : Nat → List Int} (F : LF h L m cv) (x : LL h p f) : LL (mask h (frameW L)) p f :=
  let ⟨its, n, e, hl, i⟩ := x; ⟨its, n, (mask_out (F.not_list e)).trans e, hl, fun k hk => let ⟨q, hq, j⟩ := i k hk; ⟨q, hq, F.mask_IL j⟩⟩

section
variable {prog : Program} {w : World} {A : Around} {E : Value → Shared → Prop} {h : Heap} {g : Array GenState} {d : Drawn} {t : Nat} {os : OsState} {b : Heap} {fs : Nat → DA} {σ : Nat → DS} {env : Env} {m : Str → Option Value} {cv : Nat → Option Value} {L : Addr}

/-- a slice with a step -/
theorem lslice3 {value : Expr} {lower upper step : Option Expr} {p pos : Pos} {s : Shared} {Q : Value → Shared → Prop}
    (k : wpAny (model prog w) A (eval value env) (fun o s₁ => wpAny (model prog w) A (evalPart lower env) (fun vl s₂ => wpAny (model prog w) A (evalPart upper env) (fun vu s₃ => wpAny (model prog w) A (evalPart step env) (fun vs s₄ =>
      ∃ h g d t os l items n lo hi st, s₄ = ⟨h, g, d, t, os⟩ ∧ o = .ref l ∧ h.get? l = some (listO (List.toArray items) n) ∧ items.length ≤ 1000 ∧ IsPart vl lo ∧ IsPart vu hi ∧ IsPart vs st ∧ st ≠ some 0 ∧
        ∀ h' r n, h'.get? r = some (listO (slicePick items.toArray lo hi st) n) → h.get? r = none → Le h h' → Q (.ref r) ⟨h', g, d, t, os⟩) E s₃) E s₂) E s₁) E s) :
    wpAny (model prog w) A (eval (.Subscript value (.Slice lower upper step p) pos) env) Q E s := by
  refine subG (wpAny_mono k (fun o s₁ k₁ => wpAny_Slice (wpAny_mono k₁ (fun vl s₂ k₂ => wpAny_mono k₂ (fun vu s₃ k₃ => wpAny_mono k₃ (fun vs s₄ k₄ => ?_) fun _ _ e => e) fun _ _ e => e) fun _ _ e => e)) fun _ _ e => e)
  obtain ⟨h, g, d, t, os, l, items, n, lo, hi, st, rfl, rfl, hl, hz, pl, pu, ps, h0, kk⟩ := k₄
  refine ⟨gi_list ((push_le _ _) _ _ hl), wpAny_getItem_list_slice (items := items.toArray) (Heap.IsList.push (by exact ⟨_, hl, rfl, _, rfl⟩) _) (Heap.IsSliceOf.new ..) pl pu ps h0 ?_ (sz_small hz)⟩
  rw [Heap.size_push]
  refine kk _ _ 0 ?_ ?_ ((push_le _ _).trans (push_le _ _))
  · exact Heap.get?_push_at (by rw [Heap.size_push]) rfl
  · cases e : h.get? (h.objs.size + 1) with
    | none => rfl
    | some o => exact absurd (Heap.lt_size e) (Nat.not_lt.mpr (Nat.le_succ _))

/-- a member of lists -/
def Mem (ns : List Int) : Prop := ns.Pairwise (· ≤ ·) ∧ ns.Nodup ∧ ns ≠ [] ∧ ns.length ≤ 4

set_option maxHeartbeats 1000000 in
/-- lists = [sorted(set(script[k::4][:3] + [k])) for k in range(4)] -/
theorem head_lists {sc : Addr} {ns : List Int} {Q : Flow → Shared → Prop} (S : Sys w b) (l : Le b h) (Rm : Room A 3) (F : LF h L m cv) (c0 : cv 0 = some (.ref sc)) (hsc : IL b sc ns) (hz : ns.length ≤ 100)
    (kk : ∀ h' tk la ls, LL h' la ls → (∀ k, k < 4 → Mem (ls k)) → LF h' L m (upd cv 1 (some (.ref la))) → Ext [L + 1 + 1] h h' → wpAny (model prog w) A (execs ((lawB w.params).drop 1) (lawE w.params L)) Q E ⟨h', g, d, tk, os⟩) :
    wpAny (model prog w) A (execs (lawB w.params) (lawE w.params L)) Q E ⟨h, g, d, t, os⟩ := by
  obtain ⟨sits, sn, hse, hsi⟩ := hsc
  have hsl := hsi.length
  refine wpAny_execs_cons (wpAny_Assign_Name ?_)
  refine comp_eval .loc (fun v y h' => match v with | .int i _ => ∃ p ms, y = .ref p ∧ IL h' p ms ∧ Mem ms | _ => False) (fun _ => true) rfl ⟨rfl, fun _ => rfl⟩ (by decide) ?_
  refine it_range4 S l Rm.hh fun h₁ it t₁ hit => ?_
  refine ⟨h₁, g, d, _, os, h, 4, _, rfl, hit, by decide, ?_, ?_⟩
  · rintro o v C1 ho tk ho4 ⟨uo, rfl⟩ lo ⟨m₃, hn₃, hm₃⟩ E''
    refine wpAny_pure ⟨rfl, ho, _, rfl, Le.refl _, fun _ => ?_⟩
    have lbo : Le b ho := l.trans lo
    refine ncall (bname S lbo (b_sorted _) bb_sorted (by decide) (cw1 (ncall (bname S lbo (b_set _) bb_set (by decide) (cwt1 (wpAny_BinOp (lslice (lslice3 (lC 0 (F.le lo) c0 (wpAny_evalPart_some (ln (v := .int ((o : Nat) : Int) uo) hn₃ hm₃ (wpAny_evalPart_none (wpAny_evalPart_some (ci fun u4 t4 => ?_))))))))))))))
    refine ⟨ho, g, d, _, os, sc, sits, sn, some _, none, some 4, rfl, rfl, lbo _ _ hse, by omega, .int _ _, .none, .int _ _, by decide, fun h₂ a2 n2 e₂ f₂ l₂ => ?_⟩
    have hi2 := hsi.pick (some ((o : Nat) : Int)) none (some 4)
    have hl2 := length_pickNums_le hsi (some ((o : Nat) : Int)) none (some 4)
    generalize slicePick sits.toArray (some ((o : Nat) : Int)) none (some 4) = arr at *
    obtain ⟨xs2⟩ := arr
    have hxl := hi2.length
    refine wpAny_evalPart_none (wpAny_evalPart_some (ci fun u5 t5 => ?_))
    refine ⟨h₂, g, d, _, os, a2, xs2, n2, none, some 3, rfl, rfl, e₂, by simp at hxl; omega, .none, .int _ _, fun h₃ a3 n3 e₃ f₃ l₃ => ?_⟩
    rw [show (3 : Int) = ((3 : Nat) : Int) from rfl, slicePick_upto' xs2.toArray 3] at e₃
    have hi3 : IntsAre (xs2.take 3) ((pickNums ns (some ((o : Nat) : Int)) none (some 4)).take 3) := ints_take hi2 3
    refine ldisp (spliced_cons (ln (v := .int ((o : Nat) : Int) uo) ((hn₃.keeps l₂).keeps l₃) hm₃ (spliced_nil ⟨h₃, g, d, _, os, rfl, by simp, fun h₄ a4 n4 e₄ f₄ l₄ => ?_⟩)))
    refine ladd (l₄ _ _ e₃) e₄ (by simp; omega) fun h₅ a5 n5 e₅ f₅ l₅ => ?_
    have hi5 := hi3.append (.cons ((o : Nat) : Int) uo .nil)
    refine set_of_list Rm.hh e₅ hi5 (by simp; omega) fun h₆ t₆ Sa ms hS hm hml l₆ f₆ => ?_
    refine sorted_set Rm.hh hS (by omega) fun h₇ t₇ r ms' hI hr l₇ hp hs => ?_
    refine ⟨h₇, _, rfl, ((((l₂.trans l₃).trans l₄).trans l₅).trans l₆).trans l₇, fun h₈ l₈ k₈ => ⟨r, ms', rfl, ?_, hs, ?_, ?_, ?_⟩⟩
    · obtain ⟨its, n, e, hi⟩ := hI
      exact ⟨its, n, k₈ _ _ (((((l₂.trans l₃).trans l₄).trans l₅).trans l₆).fresh hr) e, hi⟩
    · have hnd : ms.Nodup := let ⟨_, _, _, _, _, _, q, _⟩ := hS; q
      exact hp.nodup_iff.mpr hnd
    · intro e
      have : ((o : Nat) : Int) ∈ ms' := hp.mem_iff.mpr ((hm _).mpr (by simp))
      rw [e] at this; simp at this
    · rw [hp.length_eq]; exact hml
  · intro D h₂ tk ys vs n' hlen hP hF l₂ hDn hDg
    refine sC 1 (F.le l₂) fun h₃ F₃ x₃ => ?_
    have hDL : D ≠ L + 1 + 1 := fun e => not_some hDn (e ▸ F.live _ (c_frame L (by decide)))
    obtain ⟨y4, yk⟩ := four_of (G := fun k y => ∃ p ms, y = .ref p ∧ IL h₂ p ms ∧ Mem ms) hlen hP hF
    have ch : ∀ k, ∃ ms, k < 4 → ∃ p, ys[k]? = some (.ref p) ∧ IL h₂ p ms ∧ Mem ms := fun k => by
      by_cases hk : k < 4
      · obtain ⟨y, hy, p, ms, rfl, hp, hM⟩ := yk k hk
        exact ⟨ms, fun _ => ⟨p, hy, hp, hM⟩⟩
      · exact ⟨[], fun h => absurd h hk⟩
    obtain ⟨ls, hls⟩ := Classical.axiomOfChoice ch
    refine kk h₃ _ D ls ⟨ys, n', x₃ _ _ (by simpa using hDL) hDg, y4, fun k hk => ?_⟩ (fun k hk => let ⟨_, _, _, q⟩ := hls k hk; q) F₃ ((Ext.of_le (W := [L + 1 + 1]) l₂).trans x₃ (fun p hp => .inl hp))
    obtain ⟨p, hy, hp, _⟩ := hls k hk
    have hne := cell_not_list ((F.le l₂).cs 1 (by decide)) hp
    obtain ⟨its, n2, e, hi⟩ := hp
    exact ⟨p, hy, its, n2, x₃ _ _ (by simpa using hne) e, hi⟩
end
end Mine
end

section
open PySem PySem.W PySem.Calls PyProof.Rows Builtin Builtin.ObjectAttr PySem.SeqAt
set_option maxRecDepth 100000
namespace Mine
abbrev sTurn : Str := Str.ofString "turn"
/-- a row of names -/
structure RowOk (row : List Nat) : Prop where
  r4 : ∀ k ∈ row, k < 4
  rn : row.Nodup
  rz : row.length ≤ 4
section
variable {prog : Program} {w : World} {A : Around} {E : Value → Shared → Prop} {h : Heap} {g : Array GenState} {d : Drawn} {t : Nat} {os : OsState} {b : Heap} {fs : Nat → DA} {σ : Nat → DS} {env : Env} {m : Str → Option Value} {cv : Nat → Option Value} {L : Addr}

set_option maxHeartbeats 1000000 in
/-- row = [[0, 1, 2, 3], [2, 0, 3], [3, 1], [1, 3, 0, 2]][turn // 5 % 4] -/
theorem head_row {T : Int} {u : Tok} {Q : Flow → Shared → Prop} (F : LF h L m cv) (hT : m sTurn = some (.int T u))
    (kk : ∀ h' tk ra row, RowOk row → IL h' ra (row.map Int.ofNat) → LF h' L m (upd cv 4 (some (.ref ra))) → Ext [L + 1 + 4] h h' → wpAny (model prog w) A (execs ((lawB w.params).drop 5) (lawE w.params L)) Q E ⟨h', g, d, tk, os⟩) :
    Goes (wpAny (model prog w) A (execs ((lawB w.params).drop 4) (lawE w.params L)) Q E ⟨h, g, d, t, os⟩) := by
  refine ⟨?_⟩
  refine wpAny_execs_cons ?_
  refine wpAny_Assign_Name ?_
  refine lsub ?_
  refine ldisp ?_
  refine spliced_cons ?_
  refine ldisp ?_
  refine (spliced_cons (ci (k := 0) (pos := default) fun u1 t1 => spliced_cons (ci (k := 0) (pos := default) fun u2 t2 => spliced_cons (ci (k := 0) (pos := default) fun u3 t3 => spliced_cons (ci (k := 0) (pos := default) fun u4 t4 => spliced_nil ⟨h, g, d, _, os, rfl, by simp, fun h₁ r1 n1 e₁ f₁ l₁ => ?_⟩)))))
  refine spliced_cons ?_
  refine ldisp ?_
  refine (spliced_cons (ci (k := 0) (pos := default) fun v1 t1 => spliced_cons (ci (k := 0) (pos := default) fun v2 t2 => spliced_cons (ci (k := 0) (pos := default) fun v3 t3 => spliced_nil ⟨h₁, g, d, _, os, rfl, by simp, fun h₂ r2 n2 e₂ f₂ l₂ => ?_⟩))))
  refine spliced_cons ?_
  refine ldisp ?_
  refine (spliced_cons (ci (k := 0) (pos := default) fun w1 t1 => spliced_cons (ci (k := 0) (pos := default) fun w2 t2 => spliced_nil ⟨h₂, g, d, _, os, rfl, by simp, fun h₃ r3 n3 e₃ f₃ l₃ => ?_⟩)))
  refine spliced_cons ?_
  refine ldisp ?_
  refine (spliced_cons (ci (k := 0) (pos := default) fun x1 t1 => spliced_cons (ci (k := 0) (pos := default) fun x2 t2 => spliced_cons (ci (k := 0) (pos := default) fun x3 t3 => spliced_cons (ci (k := 0) (pos := default) fun x4 t4 => spliced_nil ⟨h₃, g, d, _, os, rfl, by simp, fun h₄ r4 n4 e₄ f₄ l₄ => ?_⟩)))))
  refine spliced_nil ⟨h₄, g, d, _, os, rfl, by simp, fun h₅ z nz e₅ f₅ l₅ => ?_⟩
  have l05 : Le h h₅ := (((l₁.trans l₂).trans l₃).trans l₄).trans l₅
  refine wpAny_BinOp (wpAny_BinOp (ln (v := .int T u) (F.le l05).ns hT (ci fun u6 t6 => divi (by decide) (by decide) fun u7 t7 => ci fun u8 t8 => modi (by decide) fun u9 t9 => ?_)))
  have g0 : 0 ≤ (T.fdiv 5).fmod 4 := Int.fmod_nonneg_of_pos _ (by decide)
  have glt : (T.fdiv 5).fmod 4 < 4 := Int.fmod_lt_of_pos _ (by decide)
  have i1 : IL h₅ r1 (([0, 1, 2, 3] : List Nat).map Int.ofNat) := ⟨_, _, l₅ _ _ (l₄ _ _ (l₃ _ _ (l₂ _ _ e₁))), .cons _ _ (.cons _ _ (.cons _ _ (.cons _ _ .nil)))⟩
  have i2 : IL h₅ r2 (([2, 0, 3] : List Nat).map Int.ofNat) := ⟨_, _, l₅ _ _ (l₄ _ _ (l₃ _ _ e₂)), .cons _ _ (.cons _ _ (.cons _ _ .nil))⟩
  have i3 : IL h₅ r3 (([3, 1] : List Nat).map Int.ofNat) := ⟨_, _, l₅ _ _ (l₄ _ _ e₃), .cons _ _ (.cons _ _ .nil)⟩
  have i4 : IL h₅ r4 (([1, 3, 0, 2] : List Nat).map Int.ofNat) := ⟨_, _, l₅ _ _ e₄, .cons _ _ (.cons _ _ (.cons _ _ (.cons _ _ .nil)))⟩
  have pick : ∃ ra row, ([Value.ref r1, .ref r2, .ref r3, .ref r4] : List Value)[((T.fdiv 5).fmod 4).toNat]? = some (.ref ra) ∧ RowOk row ∧ IL h₅ ra (row.map Int.ofNat) := by
    have : ((T.fdiv 5).fmod 4).toNat < 4 := by omega
    match ((T.fdiv 5).fmod 4).toNat, this with
    | 0, _ => exact ⟨r1, _, rfl, ⟨by decide, by decide, by decide⟩, i1⟩
    | 1, _ => exact ⟨r2, _, rfl, ⟨by decide, by decide, by decide⟩, i2⟩
    | 2, _ => exact ⟨r3, _, rfl, ⟨by decide, by decide, by decide⟩, i3⟩
    | 3, _ => exact ⟨r4, _, rfl, ⟨by decide, by decide, by decide⟩, i4⟩
  obtain ⟨ra, row, hp, hrow, hI⟩ := pick
  refine ⟨h₅, g, d, _, os, z, _, nz, _, _, _, rfl, rfl, rfl, e₅, g0, by simp, hp, ?_⟩
  refine sC 4 (F.le l05) fun h₆ F₆ x₆ => ?_
  have hne := cell_not_list ((F.le l05).cs 4 (by decide)) hI
  obtain ⟨its, n2, e, hi⟩ := hI
  exact kk h₆ _ ra row hrow ⟨its, n2, x₆ _ _ (by simpa using hne) e, hi⟩ F₆ ((Ext.of_le (W := [L + 1 + 4]) l05).trans x₆ (fun p hp => .inl hp))

set_option maxHeartbeats 1000000 in
/-- turn, kind, n, row -/
theorem head_mid {sc : Addr} {ns : List Int} {Q : Flow → Shared → Prop} (S : Sys w b) (l : Le b h) (Rm : Room A 3) (F : LF h L m cv) (c0 : cv 0 = some (.ref sc)) (hsc : IL b sc ns)
    (kk : ∀ h' tk m' (kind n : Int) (uk un : Tok) ra row, 0 ≤ kind ∧ kind < 5 → LF h' L m' (upd (upd (upd cv 2 (some (.int kind uk))) 3 (some (.int n un))) 4 (some (.ref ra))) → RowOk row → IL h' ra (row.map Int.ofNat) → Ext (frameW L) h h' → wpAny (model prog w) A (execs ((lawB w.params).drop 5) (lawE w.params L)) Q E ⟨h', g, d, tk, os⟩) :
    wpAny (model prog w) A (execs ((lawB w.params).drop 1) (lawE w.params L)) Q E ⟨h, g, d, t, os⟩ := by
  have Lf := L_frame L
  have c2f := c_frame L (i := 2) (by decide)
  have c3f := c_frame L (i := 3) (by decide)
  refine wpAny_execs_cons ?_
  refine wpAny_Assign_Name ?_
  refine ncall (bname S l (b_sum _) bb_sum (by decide) (cw1 (lC 0 F c0 ?_)))
  refine lsum Rm.hh (hsc.le l) fun h₁ u₁ t₁ l₁ => sL (F.le l₁) fun h₂ u₂ F₂ x₂ => ?_
  generalize ns.sum = T at *
  have x02 : Ext (frameW L) h h₂ := (Ext.of_le (W := frameW L) l₁).trans x₂ (fun p hp => .inl (by rw [List.mem_singleton.mp hp]; exact Lf))
  generalize hm : updM m (Str.ofString "turn") (.int T u₁) = m₂ at *
  have hT : m₂ sTurn = some (.int T u₁) := by rw [← hm, updM, if_pos rfl]
  refine wpAny_execs_cons ?_
  refine wpAny_Assign_Name ?_
  refine wpAny_BinOp (ln (v := .int T u₁) F₂.ns hT (ci fun u3 t3 => modi (by decide) fun u4 t4 => sC 2 F₂ fun h₃ F₃ x₃ => ?_))
  have rest : ∀ h₄ t₄ (kind n : Int) (uk un : Tok), 0 ≤ kind ∧ kind < 5 → LF h₄ L m₂ (upd (upd cv 2 (some (.int kind uk))) 3 (some (.int n un))) → Ext (frameW L) h h₄ →
      Goes (wpAny (model prog w) A (execs ((lawB w.params).drop 4) (lawE w.params L)) Q E ⟨h₄, g, d, t₄, os⟩) := fun h₄ t₄ kind n uk un hk F₄ x₄ =>
    head_row F₄ hT fun h₅ t₅ ra row hr hI F₅ x₅ => kk h₅ t₅ m₂ kind n uk un ra row hk F₅ hr hI (x₄.trans x₅ (fun p hp => .inl (by rw [List.mem_singleton.mp hp]; exact c_frame L (i := 4) (by decide))))
  have k0 : 0 ≤ T.fmod 5 := Int.fmod_nonneg_of_pos _ (by decide)
  have k5 : T.fmod 5 < 5 := Int.fmod_lt_of_pos _ (by decide)
  have x03 : Ext (frameW L) h h₃ := x02.trans x₃ (fun p hp => .inl (by rw [List.mem_singleton.mp hp]; exact c2f))
  refine wpAny_execs_cons ?_
  refine wpAny_Assign_Name ?_
  refine wpAny_IfExp (wpAny_isTrue_Compare1 (lC 2 F₃ (upd_same _ _ _) (ci fun u5 t5 => eqi (trb ?_))) rfl)
  by_cases h2 : (T.fmod 5 == 2) = true
  · rw [if_pos h2]
    refine ln (v := .int T u₁) F₃.ns hT (sC 3 F₃ fun h₄ F₄ x₄ => ?_)
    refine @Goes.go _ ?_
    exact rest h₄ _ _ _ _ _ ⟨k0, k5⟩ F₄ (x03.trans x₄ (fun p hp => .inl (by rw [List.mem_singleton.mp hp]; exact c3f)))
  · rw [if_neg h2]
    refine wpAny_BinOp (wpAny_BinOp (ln (v := .int T u₁) F₃.ns hT (ci fun u6 t6 => divi (by decide) (by decide) fun u7 t7 => ci fun u8 t8 => modi (by decide) fun u9 t9 => sC 3 F₃ fun h₄ F₄ x₄ => ?_)))
    refine @Goes.go _ ?_
    exact rest h₄ _ _ _ _ _ ⟨k0, k5⟩ F₄ (x03.trans x₄ (fun p hp => .inl (by rw [List.mem_singleton.mp hp]; exact c3f)))
end
end Mine
end

section
open PySem PySem.W PySem.Calls PyProof.Rows Builtin Builtin.ObjectAttr PySem.SeqAt
set_option maxRecDepth 100000
namespace Mine
section
variable {prog : Program} {w : World} {A : Around} {E : Value → Shared → Prop} {env : Env}

set_option maxHeartbeats 1000000 in
/-- a dict comprehension over one clause without tests, int keys -/
theorem dcomp {kx vx iter : Expr} {scope : Scope} {pos px : Pos} {x : Str} {cl : List (Str × Addr)} {s : Shared} {Q : Value → Shared → Prop}
    (hclos : closureFor scope env = pure cl) (hx : scope.names.lookup x = some .local)
    (hnames : ∀ y ∈ scope.names, y.2 = .local → scope.names.lookup y.1 = some .local)
    (h : wpAny (model prog w) A (eval iter env) (fun xv s₁ => wpAny (model prog w) A (pyIter xv) (fun it s₂ => ∃ b h g d t os b₀ n P, s₂ = ⟨h, g, d, t, os⟩ ∧ Sys w b ∧ Le b h ∧ IterAt prog w A b₀ h it n P ∧ n ≤ 1000 ∧
        ∃ J : Nat → List (Int × Value) → Heap → Prop, (∀ B, Le b₀ B → J 0 [] B) ∧ (∀ i kvs B, J i kvs B → kvs.length ≤ i) ∧
          (∀ i v kvs B C h₁ tk E', i < n → P i v → J i kvs B → Le b₀ B → Le B h₁ → (∃ m, h₁.Ns C m ∧ m x = some v) →
            wpAny (model prog w) A (eval kx (cenvOf scope cl C env)) (fun kv s₄ => ∃ key u, kv = .int key u ∧ wpAny (model prog w) A (eval vx (cenvOf scope cl C env)) (fun y s₅ => ∃ h'' tk'', s₅ = ⟨h'', g, d, tk'', os⟩ ∧ Le h₁ h'' ∧
              ∀ B', Le B B' → (∀ a o, h₁.get? a = none → h''.get? a = some o → B'.get? a = some o) → J (i + 1) (stored kvs key y) B') E' s₄) E' ⟨h₁, g, d, tk, os⟩) ∧
          (∀ D kvs B h₂ tk, J n kvs B → Le b₀ B → Le B h₂ → h.get? D = none → B.get? D = none → ID prog w h₂ D kvs → Le b₀ h₂ → Q (.ref D) ⟨h₂, g, d, tk, os⟩)) E s₁) E s)
    (hs : ∀ x, foldedSetIterable iter env x = pure x := by intro _; rfl) (hkind : scope.kind = .function := by rfl) :
    wpAny (model prog w) A (eval (.DictComp kx vx [⟨.Name x px, iter, [], 0⟩] scope pos) env) Q E s := by
  rw [arm_eval_DictComp]
  refine wpAny_comprehension_free (use := none) rfl hs hclos hkind hnames (wpAny_mono h (fun xv s₁ h₁ => wpAny_mono h₁ (fun it s₂ h₂ => ?_) fun _ _ e => e) fun _ _ e => e)
  obtain ⟨b, h, g, d, t, os, b₀, n, P, rfl, S, l, ⟨I, fp, wr, St, rfl, W, hst, hlv, hw0, hf0, l0⟩, hsz, J, J0, Jl, turn, done⟩ := h₂
  refine wpAny_newObj_type (newEnv_comp fun C h₁ acc hC hacc l₁ hn hcell => ?_)
  subst hacc
  have hD0 : h.get? h.objs.size = none := fresh_size h
  have hC' : C = h.objs.size + 1 := by rw [hC]; exact Heap.size_push ..
  have hC0 : h.get? C = none := by
    cases e : h.get? C with
    | none => rfl
    | some o => exact absurd (Heap.lt_size e) (Nat.not_lt.mpr (by rw [hC']; exact Nat.le_succ _))
  have hDC : h.objs.size ≠ C := by rw [hC']; exact Nat.ne_of_lt (Nat.lt_succ_self _)
  have l01 : Le h h₁ := (push_le _ _).trans l₁
  have hDI : ID prog w h₁ h.objs.size [] := ⟨S.big l, (Heap.DictOf.new h).at fun o e => l₁ _ _ e⟩
  generalize h.objs.size = D at *
  let Z : List Addr := D :: C :: wr
  have hwlive : ∀ z ∈ wr, ∃ o, h.get? z = some o := fun z hz => hlv 0 h hst z (W.sub _ hz)
  have hbZ : ∀ z ∈ Z, b₀.get? z = none := fun z hz => by
    rcases List.mem_cons.mp hz with e | hz
    · exact l0.fresh (e ▸ hD0)
    rcases List.mem_cons.mp hz with e | hz
    · exact l0.fresh (e ▸ hC0)
    · exact hw0 z hz
  have DZ : D ∈ Z := List.mem_cons_self
  have CZ : C ∈ Z := List.mem_cons_of_mem _ List.mem_cons_self
  have wZ : ∀ z ∈ wr, z ∈ Z := fun z hz => List.mem_cons_of_mem _ (List.mem_cons_of_mem _ hz)
  have Dw : D ∉ wr := fun hm => not_some hD0 (hwlive _ hm)
  have Cw : C ∉ wr := fun hm => not_some hC0 (hwlive _ hm)
  have fpD : ∀ z ∈ fp, z ≠ D := fun z hz e => not_some hD0 (e ▸ hlv 0 h hst z hz)
  have fpC : ∀ z ∈ fp, z ≠ C := fun z hz e => not_some hC0 (e ▸ hlv 0 h hst z hz)
  have loop : codeAny (model prog w) A (.compLoop (.DictComp kx vx [⟨.Name x px, iter, [], 0⟩] scope pos) 0 (.ref I) (.ref D) (cenvOf scope cl C env)) (compPost (model prog w) A E none Q (.ref D) C) ⟨h₁, g, d, t, os⟩ := by
    refine codeAny_compLoop_testsD (fun k s' => ∃ i kvs h' tk B m, s' = ⟨h', g, d, tk, os⟩ ∧ St i h' ∧ Le B h' ∧ Le b₀ B ∧ (∀ z ∈ Z, B.get? z = none) ∧ J i kvs B ∧ h'.Ns C m ∧ ID prog w h' D kvs ∧ i ≤ n ∧ k = n + 1 - i) ?_ (n + 1)
      ⟨0, [], h₁, t, mask h₁ Z, _, rfl, W.frame _ _ _ hst (fun b _ o e => l01 b o e), mask_le _ _, le_mask (l0.trans l01) hbZ, fun z hz => mask_in hz, J0 _ (le_mask (l0.trans l01) hbZ), hn, hDI, Nat.zero_le _, rfl⟩
    rintro k s' ⟨i, kvs, h', tk, B, m, rfl, hst', lB, lb, hZ, hJ, hn', hD', hi, rfl⟩
    by_cases hlt : i < n
    · refine W.item i _ _ _ hlt hst' fun v h'' tk'' hP hst'' hk => ?_
      have lB'' : Le B h'' := fun a o e => hk a o (fun q => by rw [hZ a (wZ a q)] at e; cases e) (lB a o e)
      have hn'' : h''.Ns C m := hn'.at' fun o e => hk _ o Cw e
      have hD'' : ID prog w h'' D kvs := ⟨hD'.lo, hD'.d.at fun o e => hk _ o Dw e⟩
      refine wpAny_assign_Name (wpAny_storeName_local (lookup_relabel_local hx) hn'' (fun h₂ hn₂ hs₂ => ?_) (by simp [compEnvC, relabel, hkind]))
      have x₂ : Ext [C] h'' h₂ := Ext.of_sameBut hs₂
      have lB₂ : Le B h₂ := x₂.base lB'' (by simpa using hZ C CZ)
      have hD₂ : ID prog w h₂ D kvs := hD''.ext x₂ (by simpa using hDC)
      have hst₂ : St (i + 1) h₂ := W.frame _ _ _ hst'' fun z hz o e => x₂ z o (by simpa using fpC z hz) e
      have hZl : ∀ z ∈ Z, ∃ o, h₂.get? z = some o := fun z hz => by
        rcases List.mem_cons.mp hz with e | hz
        · obtain ⟨o, ho, _⟩ := hD₂.live; exact ⟨o, e ▸ ho⟩
        rcases List.mem_cons.mp hz with e | hz
        · obtain ⟨o, es, ep, ho, _⟩ := hn₂; exact ⟨o, e ▸ ho⟩
        · exact hlv _ _ hst₂ z (W.sub _ hz)
      refine wpAny_pure ?_
      rw [if_pos rfl]
      refine wpAny_mono (turn i v kvs B C h₂ _ _ hlt hP hJ lb lB₂ ⟨_, hn₂, by simp⟩) (fun kv s₄ h₄ => ?_) fun _ _ e => e
      obtain ⟨key, u, rfl, h₄⟩ := h₄
      refine wpAny_mono h₄ (fun y s₅ h₅ => ?_) fun _ _ e => e
      obtain ⟨h₅, tk₅, rfl, l₅, hJ₅⟩ := h₅
      have hD₅ := hD₂.le l₅
      have lBm : Le B (mask h₅ Z) := le_mask (lB₂.trans l₅) hZ
      have hkl := Jl _ _ _ hJ
      refine wpAny_dictSet_pairs (hsz := by rw [sizeLine_eq]; omega) (intKind_is _ _ _ _) hD₅.d fun h₆ hl₆ hs₆ => ?_
      have x₆ : Ext [D] h₅ h₆ := Ext.of_sameBut hs₆
      refine ⟨n + 1 - (i + 1), by omega, i + 1, stored kvs key y, h₆, _, mask h₅ Z, _, rfl, ?_, x₆.base (mask_le _ _) (by simpa using mask_in DZ), lb.trans lBm, fun z hz => mask_in hz, ?_, (hn₂.keeps l₅).sameBut hs₆ hDC.symm, ⟨hD₅.lo, hl₆⟩, hlt, rfl⟩
      · exact W.frame _ _ _ hst₂ fun z hz o e => x₆ z o (by simpa using fpD z hz) (l₅ z o e)
      · exact hJ₅ _ lBm fun a o hn he => by rw [mask_out fun hm => not_some hn (hZl a hm)]; exact he
    · have hin : i = n := by omega
      subst hin
      refine W.done _ _ _ hst' fun h'' tk'' hk => ?_
      have lB'' : Le B h'' := fun a o e => hk a o (fun q => by rw [hZ a (wZ a q)] at e; cases e) (lB a o e)
      refine ⟨m, hn'.at' fun o e => hk _ o Cw e, fun h₃ hs₃ => ?_⟩
      have x₃ : Ext [C] h'' h₃ := Ext.of_sameBut hs₃
      have lB₃ : Le B h₃ := x₃.base lB'' (by simpa using hZ C CZ)
      exact done D kvs B h₃ _ hJ lb lB₃ hD0 (hZ D DZ) (ID.ext ⟨hD'.lo, hD'.d.at fun o e => hk _ o Dw e⟩ x₃ (by simpa using hDC)) (lb.trans lB₃)
  exact codeAny_compStart_dict loop (W.self 0 _ _ _ (W.frame _ _ _ hst (fun b _ o e => l01 b o e)) loop)
end
end Mine
end

section
open PySem PySem.W PySem.Calls PyProof.Rows Builtin Builtin.ObjectAttr PySem.SeqAt
set_option maxRecDepth 100000
namespace Mine
section
variable {prog : Program} {w : World} {A : Around} {E : Value → Shared → Prop} {h : Heap} {g : Array GenState} {d : Drawn} {t : Nat} {os : OsState} {b : Heap} {C : Addr} {Q : Value → Shared → Prop}

/-- MaxSumConstraint(n, list) -/
theorem new_max2 {k0 : Nat} {n : Int} {u : Tok} {lm : Addr} (S : Sys w b) (l : Le b h) (Rm : Room A (k0 + 2)) (k : ∀ h' tk a, Le h h' → (∀ W, (∀ p ∈ W, ∃ o, h.get? p = some o) → IsMax (mask h' W) a n lm) → Q (.ref a) ⟨h', g, d, tk, os⟩) :
    wpAny (model prog w) A (call (.ref 218) [.int n u, .ref lm]) Q E ⟨h, g, d, t, os⟩ := by
  refine new1 (n := k0 + 1) S l Rm (mk_218 _) (fi_218 _) (t_200 _) fun h₁ a dx A₁ N Rm₁ => ?_
  refine uclc (n := k0) S (l.trans N.le) Rm₁ (f := 200) (binds := [(Str.ofString "self", .ref a), (Str.ofString "maxsum", .int n u), (Str.ofString "multipliers", .ref lm)]) rfl (by kernel_rfl) (binds_K (S.X.keeps (l.trans N.le)) rfl rfl rfl rfl rfl) (locs rfl) (by decide) fun A L h₂ E' t₂ hn l₂ hL hbL lb Rm₂ => ?_
  have lh : Le h h₂ := N.le.trans l₂
  have naL : dx ≠ L := fun e => not_some hL ⟨_, e ▸ N.gd⟩
  refine wpAny_execs_cons (plainObj_wpAny_Assign_Attribute (ln (v := .int n u) hn rfl (ln (v := .ref a) hn rfl ?_)))
  refine set_any S lb ⟨l₂ _ _ N.ga, rfl, rfl, l₂ _ _ N.gd⟩ rfl (l₂ _ _ N.gd) (sa_218 _) (mro_218 _) rfl rfl (rf_obj 218) (tk_1 _) (d_218 _) rfl (by simp [putL]) fun h₃ hs₃ tk₃ e₃ x₃ => ?_
  have lh₃ : Le h h₃ := x₃.base lh (by simpa using N.fd)
  have lb₃ : Le b h₃ := x₃.base lb (by simpa using l.fresh N.fd)
  have hn₃ := ns_ext hn x₃ (by simpa using Ne.symm naL)
  have ga₃ := x₃ _ _ (by simpa using N.ne) (l₂ _ _ N.ga)
  refine wpAny_execs_cons (plainObj_wpAny_Assign_Attribute (ln (v := .ref lm) hn₃ rfl (ln (v := .ref a) hn₃ rfl ?_)))
  refine set_any S lb₃ ⟨ga₃, rfl, rfl, e₃⟩ rfl e₃ (sa_218 _) (mro_218 _) rfl rfl (rf_obj 218) (tk_2 _) (d_218 _) rfl (show (2 : Nat) ≤ 1000 by decide) fun h₄ hs₄ tk₄ e₄ x₄ => ?_
  refine wpAny_execs_nil ⟨rfl, ?_⟩
  exact k h₄ _ a (x₄.base lh₃ (by simpa using N.fd)) fun W hW => ⟨dx, _, (mask_out fun hm => not_some N.fa (hW _ hm)).trans (x₄ _ _ (by simpa using N.ne) ga₃), (mask_out fun hm => not_some N.fd (hW _ hm)).trans e₄, ⟨u, rfl⟩, rfl⟩

/-- SomeInSetConstraint(list, n) and SomeNotInSetConstraint(list, n) -/
theorem new_in2 {k0 : Nat} {n : Int} {u : Tok} {ms : Addr} (S : Sys w b) (l : Le b h) (Rm : Room A (k0 + 2)) (k : ∀ h' tk a, Le h h' → (∀ W, (∀ p ∈ W, ∃ o, h.get? p = some o) → IsSome 246 (mask h' W) a n ms) → Q (.ref a) ⟨h', g, d, tk, os⟩) :
    wpAny (model prog w) A (call (.ref 246) [.ref ms, .int n u]) Q E ⟨h, g, d, t, os⟩ := by
  refine new1 (n := k0 + 1) S l Rm (mk_246 _) (fi_246 _) (t_235 _) fun h₁ a dx A₁ N Rm₁ => ?_
  refine uclc (n := k0) S (l.trans N.le) Rm₁ (f := 235) (binds := [(Str.ofString "self", .ref a), (Str.ofString "members", .ref ms), (Str.ofString "n", .int n u), (Str.ofString "exact", .bool false)]) rfl (by kernel_rfl) (binds_K (S.X.keeps (l.trans N.le)) rfl rfl rfl rfl rfl) (locs rfl) (by decide) fun A L h₂ E' t₂ hn l₂ hL hbL lb Rm₂ => ?_
  have lh : Le h h₂ := N.le.trans l₂
  have naL : dx ≠ L := fun e => not_some hL ⟨_, e ▸ N.gd⟩
  refine wpAny_execs_cons (plainObj_wpAny_Assign_Attribute (ln (v := .ref ms) hn rfl (ln (v := .ref a) hn rfl ?_)))
  refine set_any S lb ⟨l₂ _ _ N.ga, rfl, rfl, l₂ _ _ N.gd⟩ rfl (l₂ _ _ N.gd) (sa_246 _) (mro_246 _) rfl rfl (rf_obj 246) (tk_3 _) (d_246 _) rfl (by simp [putL]) fun h₃ hs₃ tk₃ e₃ x₃ => ?_
  have lh₃ : Le h h₃ := x₃.base lh (by simpa using N.fd)
  have lb₃ : Le b h₃ := x₃.base lb (by simpa using l.fresh N.fd)
  have hn₃ := ns_ext hn x₃ (by simpa using Ne.symm naL)
  have ga₃ := x₃ _ _ (by simpa using N.ne) (l₂ _ _ N.ga)
  refine wpAny_execs_cons (plainObj_wpAny_Assign_Attribute (ln (v := .int n u) hn₃ rfl (ln (v := .ref a) hn₃ rfl ?_)))
  refine set_any S lb₃ ⟨ga₃, rfl, rfl, e₃⟩ rfl e₃ (sa_246 _) (mro_246 _) rfl rfl (rf_obj 246) (tk_4 _) (d_246 _) rfl (show (2 : Nat) ≤ 1000 by decide) fun h₄ hs₄ tk₄ e₄ x₄ => ?_
  have lh₄ : Le h h₄ := x₄.base lh₃ (by simpa using N.fd)
  have lb₄ : Le b h₄ := x₄.base lb₃ (by simpa using l.fresh N.fd)
  have hn₄ := ns_ext hn₃ x₄ (by simpa using Ne.symm naL)
  have ga₄ := x₄ _ _ (by simpa using N.ne) ga₃
  refine wpAny_execs_cons (plainObj_wpAny_Assign_Attribute (ln (v := .bool false) hn₄ rfl (ln (v := .ref a) hn₄ rfl ?_)))
  refine set_any S lb₄ ⟨ga₄, rfl, rfl, e₄⟩ rfl e₄ (sa_246 _) (mro_246 _) rfl rfl (rf_obj 246) (tk_5 _) (d_246 _) rfl (show (3 : Nat) ≤ 1000 by decide) fun h₅ hs₅ tk₅ e₅ x₅ => ?_
  refine wpAny_execs_nil ⟨rfl, ?_⟩
  exact k h₅ _ a (x₅.base lh₄ (by simpa using N.fd)) fun W hW => ⟨dx, _, (mask_out fun hm => not_some N.fa (hW _ hm)).trans (x₅ _ _ (by simpa using N.ne) ga₄), (mask_out fun hm => not_some N.fd (hW _ hm)).trans e₅, rfl, ⟨u, rfl⟩, rfl⟩
theorem new_notin2 {k0 : Nat} {n : Int} {u : Tok} {ms : Addr} (S : Sys w b) (l : Le b h) (Rm : Room A (k0 + 2)) (k : ∀ h' tk a, Le h h' → (∀ W, (∀ p ∈ W, ∃ o, h.get? p = some o) → IsSome 274 (mask h' W) a n ms) → Q (.ref a) ⟨h', g, d, tk, os⟩) :
    wpAny (model prog w) A (call (.ref 274) [.ref ms, .int n u]) Q E ⟨h, g, d, t, os⟩ := by
  refine new1 (n := k0 + 1) S l Rm (mk_274 _) (fi_274 _) (t_263 _) fun h₁ a dx A₁ N Rm₁ => ?_
  refine uclc (n := k0) S (l.trans N.le) Rm₁ (f := 263) (binds := [(Str.ofString "self", .ref a), (Str.ofString "members", .ref ms), (Str.ofString "n", .int n u), (Str.ofString "exact", .bool false)]) rfl (by kernel_rfl) (binds_K (S.X.keeps (l.trans N.le)) rfl rfl rfl rfl rfl) (locs rfl) (by decide) fun A L h₂ E' t₂ hn l₂ hL hbL lb Rm₂ => ?_
  have lh : Le h h₂ := N.le.trans l₂
  have naL : dx ≠ L := fun e => not_some hL ⟨_, e ▸ N.gd⟩
  refine wpAny_execs_cons (plainObj_wpAny_Assign_Attribute (ln (v := .ref ms) hn rfl (ln (v := .ref a) hn rfl ?_)))
  refine set_any S lb ⟨l₂ _ _ N.ga, rfl, rfl, l₂ _ _ N.gd⟩ rfl (l₂ _ _ N.gd) (sa_274 _) (mro_274 _) rfl rfl (rf_obj 274) (tk_6 _) (d_274 _) rfl (by simp [putL]) fun h₃ hs₃ tk₃ e₃ x₃ => ?_
  have lh₃ : Le h h₃ := x₃.base lh (by simpa using N.fd)
  have lb₃ : Le b h₃ := x₃.base lb (by simpa using l.fresh N.fd)
  have hn₃ := ns_ext hn x₃ (by simpa using Ne.symm naL)
  have ga₃ := x₃ _ _ (by simpa using N.ne) (l₂ _ _ N.ga)
  refine wpAny_execs_cons (plainObj_wpAny_Assign_Attribute (ln (v := .int n u) hn₃ rfl (ln (v := .ref a) hn₃ rfl ?_)))
  refine set_any S lb₃ ⟨ga₃, rfl, rfl, e₃⟩ rfl e₃ (sa_274 _) (mro_274 _) rfl rfl (rf_obj 274) (tk_7 _) (d_274 _) rfl (show (2 : Nat) ≤ 1000 by decide) fun h₄ hs₄ tk₄ e₄ x₄ => ?_
  have lh₄ : Le h h₄ := x₄.base lh₃ (by simpa using N.fd)
  have lb₄ : Le b h₄ := x₄.base lb₃ (by simpa using l.fresh N.fd)
  have hn₄ := ns_ext hn₃ x₄ (by simpa using Ne.symm naL)
  have ga₄ := x₄ _ _ (by simpa using N.ne) ga₃
  refine wpAny_execs_cons (plainObj_wpAny_Assign_Attribute (ln (v := .bool false) hn₄ rfl (ln (v := .ref a) hn₄ rfl ?_)))
  refine set_any S lb₄ ⟨ga₄, rfl, rfl, e₄⟩ rfl e₄ (sa_274 _) (mro_274 _) rfl rfl (rf_obj 274) (tk_8 _) (d_274 _) rfl (show (3 : Nat) ≤ 1000 by decide) fun h₅ hs₅ tk₅ e₅ x₅ => ?_
  refine wpAny_execs_nil ⟨rfl, ?_⟩
  exact k h₅ _ a (x₅.base lh₄ (by simpa using N.fd)) fun W hW => ⟨dx, _, (mask_out fun hm => not_some N.fa (hW _ hm)).trans (x₅ _ _ (by simpa using N.ne) ga₄), (mask_out fun hm => not_some N.fd (hW _ hm)).trans e₅, rfl, ⟨u, rfl⟩, rfl⟩
/-- the constraint made, apart from what was -/
theorem made_spec2 {kind n : Int} {u u' : Tok} {ms : Addr} (S : Sys w b) (l : Le b h) (Rm : Room A 4) (k : ∀ h' tk a, Le h h' → (∀ W, (∀ p ∈ W, ∃ o, h.get? p = some o) → Con (mask h' W) a kind n ms) → Q (.ref a) ⟨h', g, d, tk, os⟩) :
    wpAny (model prog w) A (call (.ref 283) [.int kind u, .int n u', .ref ms]) Q E ⟨h, g, d, t, os⟩ := by
  refine ucl (n := 3) S l Rm (f := 283) (binds := [(Str.ofString "kind", .int kind u), (Str.ofString "n", .int n u'), (Str.ofString "members", .ref ms)]) rfl (by kernel_rfl) (BindsTo.of_eq rfl) (locs rfl) (by decide) fun A L h₁ E' t₁ hn l₁ hL hbL lb Rm₁ => ?_
  refine wpAny_execs_cons (wpAny_If (t_eqk (i := kind) (u := u) hn rfl fun t₂ => ?_))
  by_cases h0 : kind = 0
  · rw [if_pos (by simpa using h0)]
    refine wpAny_execs_cons (ret' (ncall (gname S lb (g_163 _) (cwg rfl (ev0 ⟨kp_cls S lb (c_163 _), ?_⟩)))))
    refine new0 S lb (mk_163 _) (fi_163 _) fun h' a dx N => ?_
    exact k h' _ a (l₁.trans N.le) (fun W hW => by
      have hW' : ∀ p ∈ W, ∃ o, h₁.get? p = some o := fun p hp => let ⟨o, ho⟩ := hW p hp; ⟨o, l₁ _ _ ho⟩
      unfold Con; rw [if_pos h0]; exact ⟨dx, _, (mask_out fun hm => not_some N.fa (hW' _ hm)).trans N.ga, (mask_out fun hm => not_some N.fd (hW' _ hm)).trans N.gd⟩)
  rw [if_neg (by simpa using h0)]
  refine wpAny_execs_nil (wpAny_execs_cons (wpAny_If (t_eqk (i := kind) (u := u) hn rfl fun t₃ => ?_)))
  by_cases h1 : kind = 1
  · rw [if_pos (by simpa using h1)]
    refine wpAny_execs_cons (ret' (ncall (gname S lb (g_183 _) (cwg rfl (ev0 ⟨kp_cls S lb (c_183 _), ?_⟩)))))
    refine new0 S lb (mk_183 _) (fi_183 _) fun h' a dx N => ?_
    exact k h' _ a (l₁.trans N.le) (fun W hW => by
      have hW' : ∀ p ∈ W, ∃ o, h₁.get? p = some o := fun p hp => let ⟨o, ho⟩ := hW p hp; ⟨o, l₁ _ _ ho⟩
      unfold Con; rw [if_neg h0, if_pos h1]; exact ⟨dx, _, (mask_out fun hm => not_some N.fa (hW' _ hm)).trans N.ga, (mask_out fun hm => not_some N.fd (hW' _ hm)).trans N.gd⟩)
  rw [if_neg (by simpa using h1)]
  refine wpAny_execs_nil (wpAny_execs_cons (wpAny_If (t_eqk (i := kind) (u := u) hn rfl fun t₄ => ?_)))
  by_cases h2 : kind = 2
  · rw [if_pos (by simpa using h2)]
    refine wpAny_execs_cons (ret' (ncall (gname S lb (g_218 _) (cwg rfl (ev2 (ln (v := .int n u') hn rfl ?_))))))
    refine ldisp (spliced_cons (ci (k := 0) (pos := default) fun _ _ => spliced_cons (ci (k := 0) (pos := default) fun _ _ => spliced_cons (wpAny_UnaryOp (ci fun _ _ => negi fun _ _ => spliced_cons (ci (k := 0) (pos := default) fun _ _ => spliced_nil ?_))))))
    refine ⟨_, _, _, _, _, rfl, by simp, fun h₂ lm n₂ e₂ f₂ l₂ => ⟨kp_cls S (lb.trans l₂) (c_218 _), ?_⟩⟩
    refine new_max2 (k0 := 1) S (lb.trans l₂) Rm₁ fun h' tk a l' c => ?_
    exact k h' _ a ((l₁.trans l₂).trans l') (fun W hW => by
      have hW' : ∀ p ∈ W, ∃ o, h₁.get? p = some o := fun p hp => let ⟨o, ho⟩ := hW p hp; ⟨o, l₁ _ _ ho⟩
      unfold Con; rw [if_neg h0, if_neg h1, if_pos h2]
      exact ⟨lm, c W fun p hp => let ⟨o, ho⟩ := hW' p hp; ⟨o, l₂ _ _ ho⟩, _, _, (mask_out fun hm => not_some f₂ (hW' _ hm)).trans (l' _ _ e₂), .cons _ _ (.cons _ _ (.cons _ _ (.cons _ _ .nil)))⟩)
  rw [if_neg (by simpa using h2)]
  refine wpAny_execs_nil (wpAny_execs_cons (wpAny_If (t_eqk (i := kind) (u := u) hn rfl fun t₅ => ?_)))
  by_cases h3 : kind = 3
  · rw [if_pos (by simpa using h3)]
    refine wpAny_execs_cons (ret' (ncall (gname S lb (g_246 _) (cwg rfl (ev2 (ln (v := .ref ms) hn rfl (ln (v := .int n u') hn rfl ⟨kp_cls S lb (c_246 _), ?_⟩)))))))
    refine new_in2 (k0 := 1) S lb Rm₁ fun h' tk a l' c => ?_
    exact k h' _ a (l₁.trans l') (fun W hW => by
      unfold Con; rw [if_neg h0, if_neg h1, if_neg h2, if_pos h3]; exact c W fun p hp => let ⟨o, ho⟩ := hW p hp; ⟨o, l₁ _ _ ho⟩)
  rw [if_neg (by simpa using h3)]
  refine wpAny_execs_nil ?_
  refine wpAny_execs_cons (ret' (ncall (gname S lb (g_274 _) (cwg rfl (ev2 (ln (v := .ref ms) hn rfl (ln (v := .int n u') hn rfl ⟨kp_cls S lb (c_274 _), ?_⟩)))))))
  refine new_notin2 (k0 := 1) S lb Rm₁ fun h' tk a l' c => ?_
  exact k h' _ a (l₁.trans l') (fun W hW => by
    unfold Con; rw [if_neg h0, if_neg h1, if_neg h2, if_neg h3]; exact c W fun p hp => let ⟨o, ho⟩ := hW p hp; ⟨o, l₁ _ _ ho⟩)
end
end Mine
end

section
open PySem PySem.W PySem.Calls PyProof.Rows Builtin Builtin.ObjectAttr PySem.SeqAt
set_option maxRecDepth 100000
namespace Mine
theorem g_283 (P : Params) : nsIn (KK P) mainGlobals (Str.ofString "_law_made") = some (some (.ref 283)) := by kernel_rfl
theorem g_97 (P : Params) : nsIn (KK P) mainGlobals (Str.ofString "Domain") = some (some (.ref 97)) := by kernel_rfl
theorem c_97 (P : Params) : clsAt (KK P) 97 = true := by kernel_rfl
theorem Dom.at_foot {h h' : Heap} {F : DA} {its hs ss : List Value} (D : Dom h F its hs ss) (k : ∀ p ∈ F.foot, ∀ o, h.get? p = some o → h'.get? p = some o) : Dom h' F its hs ss :=
  D.ext (W := (List.range h.objs.size).filter fun p => !F.foot.contains p) (fun p o hp e => by
    by_cases hm : p ∈ F.foot
    · exact k p hm o e
    · exact absurd (List.mem_filter.mpr ⟨List.mem_range.mpr (Heap.lt_size e), by simpa using hm⟩) hp) fun p hp hm => by
    have := (List.mem_filter.mp hm).2
    simp [hp] at this
section
variable {prog : Program} {w : World} {A : Around} {E : Value → Shared → Prop} {h : Heap} {g : Array GenState} {d : Drawn} {t : Nat} {os : OsState} {b : Heap} {fs : Nat → DA} {σ : Nat → DS} {env : Env} {m : Str → Option Value} {cv : Nat → Option Value} {L : Addr}

set_option maxHeartbeats 1000000 in
/-- made = _law_made(kind, n, list(lists[0])) -/
theorem head_made {la : Addr} {ls : Nat → List Int} {kind n : Int} {uk un : Tok} {Q : Flow → Shared → Prop} (S : Sys w b) (l : Le b h) (Rm : Room A 4) (hLb : ∀ p ∈ frameW L, b.get? p = none) (F : LF h L m cv)
    (c1 : cv 1 = some (.ref la)) (hls : LL b la ls) (hl : ∀ k, k < 4 → (ls k).length ≤ 50) (c2 : cv 2 = some (.int kind uk)) (c3 : cv 3 = some (.int n un))
    (kk : ∀ h' tk ca msa b', Le b b' → Le b' h' → (∀ p ∈ frameW L, b'.get? p = none) → Con b' ca kind n msa → IL b' msa (ls 0) → LF h' L (updM m sMade (.ref ca)) cv → Ext [L] h h' →
      wpAny (model prog w) A (execs ((lawB w.params).drop 6) (lawE w.params L)) Q E ⟨h', g, d, tk, os⟩) :
    wpAny (model prog w) A (execs ((lawB w.params).drop 5) (lawE w.params L)) Q E ⟨h, g, d, t, os⟩ := by
  refine wpAny_execs_cons ?_
  refine wpAny_Assign_Name ?_
  have hl0 := hl 0 (by decide)
  refine ncall (gname S l (g_283 _) ?_)
  refine cwg rfl (ev3 (lC 2 F c2 (lC 3 F c3 ?_)))
  refine lcopy S l ?_
  refine llsub ?_
  refine lC 1 F c1 (ci fun u1 t1 => ⟨h, g, d, _, os, la, ls, 0, u1, rfl, rfl, rfl, hls.le l, by decide, fun p hp => ⟨h, g, d, _, os, p, _, rfl, rfl, hp, by omega, fun h₁ r l₁ f₁ i₁ => ⟨kp_fn S (l.trans l₁) rfl, ?_⟩⟩⟩)
  refine made_spec2 S (l.trans l₁) Rm fun h₂ t₂ ca l₂ hC => sL ((F.le l₁).le l₂) fun h₃ u₃ F₃ x₃ => ?_
  have Lf := L_frame L
  have F₂ := (F.le l₁).le l₂
  exact kk h₃ _ ca r (mask h₂ (frameW L)) (le_mask ((l.trans l₁).trans l₂) hLb) (x₃.base (mask_le _ _) (by simpa using mask_in Lf)) (fun p hp => mask_in hp) (hC (frameW L) fun p hp => (F.le l₁).live p hp) (F₂.mask_IL (i₁.le l₂)) F₃
    ((Ext.of_le (W := [L]) (l₁.trans l₂)).trans x₃ (fun p hp => .inl hp))

/-- what the dict comprehension carries -/
def DJ (h : Heap) (ls : Nat → List Int) (i : Nat) (kvs : List (Int × Value)) (B : Heap) : Prop :=
  ∃ fs : Nat → DA, (∀ k, k < i → DomS B (fs k) ⟨ls k, [], []⟩ ∧ ∀ p ∈ (fs k).foot, h.get? p = none) ∧ (∀ j k, j < i → k < i → j ≠ k → ∀ p ∈ (fs j).foot, p ∉ (fs k).foot) ∧ kvs = (List.range i).map fun (k : Nat) => ((k : Int), Value.ref (fs k).a)
theorem DJ.snoc {h B B' h'' : Heap} {ls : Nat → List Int} {i : Nat} {kvs : List (Int × Value)} {F : DA} {its : List Value} (x : DJ h ls i kvs B) (lB : Le B B') (D : Dom h'' F its [] []) (hi : IntsAre its (ls i)) (hf : ∀ p ∈ F.foot, h.get? p = none ∧ B.get? p = none)
    (hk : ∀ p ∈ F.foot, ∀ o, h''.get? p = some o → B'.get? p = some o) : DJ h ls (i + 1) (stored kvs i (.ref F.a)) B' := by
  obtain ⟨fs, h1, h2, rfl⟩ := x
  have old : ∀ k, k < i → ∀ p ∈ (fs k).foot, p ∉ F.foot := fun k hk p hp hm => not_some (hf p hm).2 ((h1 k hk).1.live p hp)
  refine ⟨upd fs i F, fun k hk' => ?_, fun j k hj hk' hne p hp => ?_, ?_⟩
  · by_cases e : k = i
    · subst e
      rw [upd_same]
      exact ⟨⟨its, [], [], D.at_foot hk, hi, .nil, .nil⟩, fun p hp => (hf p hp).1⟩
    · rw [upd_other _ _ e]
      obtain ⟨a, c⟩ := h1 k (by omega)
      exact ⟨a.ext (W := []) (Ext.of_le lB) (by simp), c⟩
  · by_cases ej : j = i
    · subst ej
      rw [upd_same] at hp
      rw [upd_other _ _ (Ne.symm hne)]
      exact fun hm => old k (by omega) p hm hp
    · rw [upd_other _ _ ej] at hp
      by_cases ek : k = i
      · subst ek; rw [upd_same]; exact old j (by omega) p hp
      · rw [upd_other _ _ ek]; exact h2 j k (by omega) (by omega) hne p hp
  · have hnew : ((i : Nat) : Int) ∉ (((List.range i).map fun (k : Nat) => ((k : Int), Value.ref (fs k).a)).map (·.1)) := fun hm => by
      rw [List.map_map] at hm
      obtain ⟨k, hk, e⟩ := List.mem_map.mp hm
      have := List.mem_range.mp hk
      have e' : ((k : Nat) : Int) = ((i : Nat) : Int) := e
      omega
    rw [stored_new hnew, List.range_succ, List.map_append]
    congr 1
    · refine List.map_congr_left fun k hk => ?_
      have := List.mem_range.mp hk
      rw [upd_other _ _ (by omega)]
    · simp [upd_same]

set_option maxHeartbeats 1000000 in
/-- domains = {k: Domain(list(lists[k])) for k in range(4)} -/
theorem head_domains {la : Addr} {ls : Nat → List Int} {Q : Flow → Shared → Prop} (S : Sys w b) (l : Le b h) (Rm : Room A 4) (F : LF h L m cv)
    (c1 : cv 1 = some (.ref la)) (hls : LL b la ls) (hl : ∀ k, k < 4 → (ls k).length ≤ 50)
    (kk : ∀ h' tk da fs dk, ID prog w h' da dk → (∀ k : Nat, k < 4 → valueAt dk (k : Int) = some (.ref (fs k).a)) → (∀ k, k < 4 → DomS h' (fs k) ⟨ls k, [], []⟩) → (∀ j k, j < 4 → k < 4 → j ≠ k → ∀ p ∈ (fs j).foot, p ∉ (fs k).foot) →
      (∀ p ∈ allF fs, h.get? p = none) → h.get? da = none → da ∉ allF fs → LF h' L m (upd cv 5 (some (.ref da))) → Ext [L + 1 + 5] h h' →
      wpAny (model prog w) A (execs ((lawB w.params).drop 7) (lawE w.params L)) Q E ⟨h', g, d, tk, os⟩) :
    wpAny (model prog w) A (execs ((lawB w.params).drop 6) (lawE w.params L)) Q E ⟨h, g, d, t, os⟩ := by
  refine wpAny_execs_cons ?_
  refine wpAny_Assign_Name ?_
  refine dcomp rfl rfl (by decide) ?_
  refine it_range4 S l Rm.hh fun h₁ it t₁ hit => ?_
  have l01 : Le h h₁ := let ⟨_, _, _, _, _, _, _, _, _, _, q⟩ := hit; q
  refine ⟨b, h₁, g, d, _, os, h, 4, _, rfl, S, l.trans l01, hit, by decide, DJ h ls, fun B _ => ⟨fun _ => ⟨0, 0, 0, 0⟩, by simp, by simp, rfl⟩, ?_, ?_, ?_⟩
  · rintro i kvs B ⟨fs, _, _, rfl⟩
    simp
  · rintro i v kvs B C h₂ tk E'' hi ⟨u, rfl⟩ hJ lB lB₂ ⟨m₃, hn₃, hm₃⟩
    refine ln (v := .int ((i : Nat) : Int) u) hn₃ hm₃ ⟨_, u, rfl, ?_⟩
    have lb₂ : Le b h₂ := (l.trans lB).trans lB₂
    have hli := hl i hi
    refine ncall (gname S lb₂ (g_97 _) ?_)
    refine cwg rfl (ev1 ?_)
    refine lcopy S lb₂ ?_
    refine llsub ?_
    refine lC 1 (F.le (lB.trans lB₂)) c1 (ln (v := .int ((i : Nat) : Int) u) hn₃ hm₃ ⟨h₂, g, d, _, os, la, ls, i, u, rfl, rfl, rfl, hls.le lb₂, hi, fun p hp => ⟨h₂, g, d, _, os, p, _, rfl, rfl, hp, by omega, fun h₃ r l₃ f₃ i₃ => ⟨kp_cls S (lb₂.trans l₃) (c_97 _), ?_⟩⟩⟩)
    obtain ⟨its, n0, e₃, hI⟩ := i₃
    have hil := hI.length
    refine dom_new (n := 2) S (lb₂.trans l₃) Rm e₃ (by omega) fun h₄ t₄ F₄ D₄ l₄ f₄ => ?_
    refine ⟨h₄, _, rfl, l₃.trans l₄, fun B' lB' hB' => hJ.snoc lB' D₄ hI (fun p hp => ?_) fun p hp o ho => hB' p o (l₃.fresh (f₄ p hp)) ho⟩
    exact ⟨((lB.trans lB₂).trans l₃).fresh (f₄ p hp), (lB₂.trans l₃).fresh (f₄ p hp)⟩
  · rintro D kvs B h₂ tk ⟨fs, j1, j2, rfl⟩ lB lB₂ hD1 hDB hID l₂
    refine sC 5 (F.le l₂) fun h₃ F₃ x₃ => ?_
    have c5f := c_frame L (i := 5) (by decide)
    have hcell : ∃ o, h.get? (L + 1 + 5) = some o := F.live _ c5f
    have hDh : h.get? D = none := l01.fresh hD1
    have hDL : D ≠ L + 1 + 5 := fun e => not_some hDh (e ▸ hcell)
    have hfh : ∀ p ∈ allF fs, h.get? p = none := fun p hp => let ⟨k, hk, hm⟩ := mem_allF.mp hp; (j1 k hk).2 p hm
    refine kk h₃ _ D fs _ (hID.ext x₃ (by simpa using hDL)) (fun k hk => ?_) (fun k hk => ?_) j2 hfh hDh (fun hm => ?_) F₃ ((Ext.of_le (W := [L + 1 + 5]) l₂).trans x₃ (fun p hp => .inl hp))
    · match k, hk with
      | 0, _ => rfl
      | 1, _ => rfl
      | 2, _ => rfl
      | 3, _ => rfl
    · exact ((j1 k hk).1.ext (W := []) (Ext.of_le lB₂) (by simp)).ext x₃ fun p hp => by simpa using fun e : p = L + 1 + 5 => not_some ((j1 k hk).2 p hp) (e ▸ hcell)
    · obtain ⟨k, hk, hm⟩ := mem_allF.mp hm
      exact not_some hDB ((j1 k hk).1.live D hm)
end
end Mine
end

section
open PySem PySem.W PySem.Calls PyProof.Rows Builtin Builtin.ObjectAttr PySem.SeqAt
set_option maxRecDepth 100000
namespace Mine
theorem ext_mask (h : Heap) (W : List Addr) : Ext W h (mask h W) := fun _ _ hp e => (mask_out hp).trans e
theorem ls_ok {ls : Nat → List Int} (h : ∀ k, k < 4 → Mem (ls k)) : LsOk ls :=
  ⟨fun k hk => (h k hk).1, fun k hk => (h k hk).2.1, fun k hk => (h k hk).2.2.1, fun k hk => Nat.le_trans (h k hk).2.2.2 (by decide)⟩
section
variable {prog : Program} {w : World} {A : Around} {E : Value → Shared → Prop} {h : Heap} {g : Array GenState} {d : Drawn} {t : Nat} {os : OsState} {b : Heap} {fs : Nat → DA} {σ : Nat → DS} {env : Env} {m : Str → Option Value} {cv : Nat → Option Value} {L : Addr}

set_option maxHeartbeats 1000000 in
/-- the law's body -/
theorem law_body {sc : Addr} {ns : List Int} {Q : Flow → Shared → Prop} (S : Sys w b) (l : Le b h) (Rm : Room A 4) (hLb : ∀ p ∈ frameW L, b.get? p = none) (F : LF h L m cv) (c0 : cv 0 = some (.ref sc)) (hsc : IL b sc ns) (hz : ns.length ≤ 100)
    (kk : ∀ h' tk, Le b h' → Q (.ret (.bool true)) ⟨h', g, d, tk, os⟩) :
    wpAny (model prog w) A (execs (lawB w.params) (lawE w.params L)) Q E ⟨h, g, d, t, os⟩ := by
  have Rm3 : Room A 3 := ⟨Rm.hh, by have := Rm.hd; omega, by have := Rm.hu; omega⟩
  refine head_lists S l Rm3 F c0 hsc hz fun h₁ t₁ la ls hLL hM F₁ x₁ => ?_
  have off₁ : ∀ p ∈ frameW L, (mask h₁ (frameW L)).get? p = none := fun p hp => mask_in hp
  have lb₁ : Le b (mask h₁ (frameW L)) := le_mask (x₁.base l fun p hp => by rw [List.mem_singleton.mp hp]; exact hLb _ (c_frame L (by decide))) hLb
  have hLL₁ := F₁.mask_LL hLL
  refine head_mid (S.keeps lb₁) (mask_le _ _) Rm3 F₁ (by rw [upd_other _ _ (by decide)]; exact c0) (hsc.le lb₁) fun h₂ t₂ m₂ kind n uk un ra row hk F₂ hr hI x₂ => ?_
  have off₂ : ∀ p ∈ frameW L, (mask h₂ (frameW L)).get? p = none := fun p hp => mask_in hp
  have lb₂ : Le (mask h₁ (frameW L)) (mask h₂ (frameW L)) := le_mask (x₂.base (mask_le _ _) off₁) off₁
  have hrow := F₂.mask_IL hI
  have X := ls_ok hM
  refine head_made (S.keeps (lb₁.trans lb₂)) (mask_le _ _) Rm off₂ F₂ (la := la) (by rw [upd_other _ _ (by decide), upd_other _ _ (by decide), upd_other _ _ (by decide), upd_same]) (hLL₁.le lb₂) X.le (by rw [upd_other _ _ (by decide), upd_other _ _ (by decide), upd_same]) (by rw [upd_other _ _ (by decide), upd_same]) fun h₃ t₃ ca msa b₃ lb₃ l₃ off₃ hC hms F₃ x₃ => ?_
  have lb03 := (lb₁.trans lb₂).trans lb₃
  refine head_domains (S.keeps lb03) l₃ Rm F₃ (la := la) (by rw [upd_other _ _ (by decide), upd_other _ _ (by decide), upd_other _ _ (by decide), upd_same]) (hLL₁.le (lb₂.trans lb₃)) X.le fun h₄ t₄ da fs dk hID hdv hDom hap hfr hdf hda F₄ x₄ => ?_
  have LFr : ∀ p ∈ allF fs, p ∉ frameW L := fun p hp hm => not_some (hfr p hp) (F₃.live p hm)
  have daL : da ∉ frameW L := fun hm => not_some hdf (F₃.live da hm)
  have offW : ∀ p ∈ frameW L ++ allF fs, b₃.get? p = none := fun p hp => (List.mem_append.mp hp).elim (off₃ p) fun hp => l₃.fresh (hfr p hp)
  have lb₄ : Le b₃ (mask h₄ (frameW L ++ allF fs)) := le_mask (x₄.base l₃ fun p hp => by rw [List.mem_singleton.mp hp]; exact off₃ _ (c_frame L (by decide))) offW
  have Y : Fix prog w (mask h₄ (frameW L ++ allF fs)) fs la ra ca da msa dk kind n ls row :=
    ⟨(S.keeps lb03).keeps lb₄, hLL₁.le ((lb₂.trans lb₃).trans lb₄), fun k hk => ⟨List.length_pos_iff.mpr (X.ne k hk), X.le k hk⟩, hrow.le (lb₃.trans lb₄), hr.r4, hr.rn, hr.rz, hC.le lb₄, hms.le lb₄,
      hID.ext (ext_mask _ _) (fun hm => (List.mem_append.mp hm).elim daL hda), hdv⟩
  refine @Goes.go _ ?_
  refine outer_spec (σ := fun k => ⟨ls k, [], []⟩) Y (mask_le _ _) Rm3 (fun p hp => mask_in (List.mem_append_left _ hp)) LFr ⟨?_, ⟨uk, ?_⟩, ⟨un, ?_⟩, ?_, ?_, ?_⟩ F₄ ⟨hDom, fun k hk p hp => mask_in (List.mem_append_right _ (foot_all hk p hp)), hap⟩ (sc := sc) ?_ (hsc.le (lb03.trans lb₄)) hz ⟨X, fun k hk => List.Perm.refl _, fun k hk => rfl, fun k hk => rfl⟩ hk fun h' tk x => kk h' tk ((lb03.trans lb₄).trans (x.base (mask_le _ _) fun p hp => mask_in hp))
  · rw [upd_other _ _ (by decide), upd_other _ _ (by decide), upd_other _ _ (by decide), upd_other _ _ (by decide), upd_same]
  · rw [upd_other _ _ (by decide), upd_other _ _ (by decide), upd_other _ _ (by decide), upd_same]
  · rw [upd_other _ _ (by decide), upd_other _ _ (by decide), upd_same]
  · rw [upd_other _ _ (by decide), upd_same]
  · rw [upd_same]
  · rw [updM, if_pos rfl]
  · rw [upd_other _ _ (by decide), upd_other _ _ (by decide), upd_other _ _ (by decide), upd_other _ _ (by decide), upd_other _ _ (by decide)]; exact c0
end
end Mine
end

section
open PySem PySem.W PySem.Calls PyProof.Rows Builtin Builtin.ObjectAttr PySem.SeqAt
set_option maxRecDepth 100000
namespace Mine
theorem loose_same : looseW VW LO = LO := by kernel_rfl
theorem g_law (P : Params) : nsIn (KK P) mainGlobals (Str.ofString "law") = some (some (.ref 293)) := by kernel_rfl
theorem sys_of {w : World} {mean : ExcName → Option Value} {mg mb : Str → Option Value} {h : Heap} (X : (KK w.params).In h) (T : Top VW (looseW VW LO) mean mg mb h) : Sys w h :=
  ⟨X, mg, mb, (loose_same ▸ topRead_of T : TopRead VW LO mg mb h)⟩
theorem law_at {w : World} {mean : ExcName → Option Value} {mg mb : Str → Option Value} {h : Heap} {lo : List Str} {fa : Addr} (X : (KK w.params).In h) (T : Top VW lo mean mg mb h) (e : mg (Str.ofString "law") = some (.ref fa)) : fa = 293 := by
  have := e.symm.trans (mg_of X T.g (g_law w.params))
  simpa using this
/-- the list that is handed in -/
theorem well_list {P : Params} {h : Heap} {a : Addr} {x : WData} {arr : Array Value} (W : Well P h (.ref a) x) (hL : h.IsList a arr) : h.get? a = some (listO arr 0) := by
  obtain ⟨o, ho, hc, n, hd⟩ := hL
  cases W with
  | list e _ => rw [e] at ho; cases ho; cases hd; exact e
  | bytearray e => rw [e] at ho; cases ho; cases hd
  | tuple e _ => rw [e] at ho; cases ho; exact absurd (Value.type.inj (show Value.type "tuple" = Value.type "list" from hc)) (by decide)
  | dict e _ => rw [e] at ho; cases ho; cases hd
  | set e _ _ _ => rw [e] at ho; cases ho; cases hd
  | frozenset e _ _ _ => rw [e] at ho; cases ho; cases hd
  | obj e _ _ _ => rw [e] at ho; cases ho; cases hd

theorem post_true (args ds : List WData) : PySem.Challenge.rw_bm0020_01.row.claim.post args (.bool true) ds = true := by
  have h1 : (WShape.has PySem.Challenge.rw_bm0020_01.row.records (WData.bool true) PySem.Challenge.rw_bm0020_01.row.returns) = true := by rfl
  have h2 : (PySem.Challenge.rw_bm0020_01.row.post.holds PySem.Challenge.rw_bm0020_01.row.records { args := args, res := some (.bool true), after := ds }) = true := by
    show (WTm.eq .res (.lit (.bool true))).holds [] _ = true
    simp [WTm.holds, WTm.value, same]
  change (WShape.has PySem.Challenge.rw_bm0020_01.row.records (WData.bool true) PySem.Challenge.rw_bm0020_01.row.returns && PySem.Challenge.rw_bm0020_01.row.post.holds PySem.Challenge.rw_bm0020_01.row.records { args := args, res := some (.bool true), after := ds }) = true
  rw [h1, h2]; rfl
abbrev cvLaw (sc : Addr) : Nat → Option Value := fun i => if i = 0 then some (.ref sc) else none
section
variable {prog : Program} {w : World} {A : Around} {E : Value → Shared → Prop} {h : Heap} {g : Array GenState} {d : Drawn} {t : Nat} {os : OsState} {b : Heap}

/-- a call of the law -/
theorem law_call {sc : Addr} {ns : List Int} {Q : Value → Shared → Prop} (S : Sys w b) (l : Le b h) (Rm : Room A 5) (hsc : IL b sc ns) (hz : ns.length ≤ 100) (kk : ∀ h' tk, Le b h' → Q (.bool true) ⟨h', g, d, tk, os⟩) :
    wpAny (model prog w) A (call (.ref 293) [.ref sc]) Q E ⟨h, g, d, t, os⟩ := by
  refine uclC (n := 4) S l Rm (f := 293) (binds := [(Str.ofString "script", .ref sc)]) rfl (by kernel_rfl) rfl (kindsX rfl) fun A L h₁ E' t₁ hn hc l₁ hL hbL lb Rm₁ => ?_
  have F : LF h₁ L _ (cvLaw sc) := ⟨hn, fun i hi => by
    match i, hi with
    | 0, _ => exact (hc (Str.ofString "script") (L + 1 + 0) rfl).1
    | 1, _ => exact (hc (Str.ofString "lists") (L + 1 + 1) rfl).1
    | 2, _ => exact (hc (Str.ofString "kind") (L + 1 + 2) rfl).1
    | 3, _ => exact (hc (Str.ofString "n") (L + 1 + 3) rfl).1
    | 4, _ => exact (hc (Str.ofString "row") (L + 1 + 4) rfl).1
    | 5, _ => exact (hc (Str.ofString "domains") (L + 1 + 5) rfl).1
    | 6, _ => exact (hc (Str.ofString "told") (L + 1 + 6) rfl).1
    | 7, _ => exact (hc (Str.ofString "due") (L + 1 + 7) rfl).1
    | 8, _ => exact (hc (Str.ofString "left") (L + 1 + 8) rfl).1
    | 9, _ => exact (hc (Str.ofString "shown") (L + 1 + 9) rfl).1⟩
  have hLb : ∀ p ∈ frameW L, b.get? p = none := fun p hp => by
    obtain ⟨h1, h2⟩ := mem_frameW.mp hp
    by_cases q : p = L
    · rw [q]; exact hbL
    have hj := cellLt h1 h2
    rw [← cellEq h1 q]
    generalize p - L - 1 = j at *
    refine l.fresh ?_
    match j, hj with
    | 0, _ => exact (hc (Str.ofString "script") (L + 1 + 0) rfl).2.1
    | 1, _ => exact (hc (Str.ofString "lists") (L + 1 + 1) rfl).2.1
    | 2, _ => exact (hc (Str.ofString "kind") (L + 1 + 2) rfl).2.1
    | 3, _ => exact (hc (Str.ofString "n") (L + 1 + 3) rfl).2.1
    | 4, _ => exact (hc (Str.ofString "row") (L + 1 + 4) rfl).2.1
    | 5, _ => exact (hc (Str.ofString "domains") (L + 1 + 5) rfl).2.1
    | 6, _ => exact (hc (Str.ofString "told") (L + 1 + 6) rfl).2.1
    | 7, _ => exact (hc (Str.ofString "due") (L + 1 + 7) rfl).2.1
    | 8, _ => exact (hc (Str.ofString "left") (L + 1 + 8) rfl).2.1
    | 9, _ => exact (hc (Str.ofString "shown") (L + 1 + 9) rfl).2.1
  exact law_body S lb Rm₁ hLb F rfl hsc hz fun h' tk l' => kk h' tk l'
end
end Mine
end

open PySem PySem.W PyProof.Rows
set_option maxRecDepth 100000 in
set_option maxHeartbeats 8000000 in
theorem PySem.Challenge.cw_bm0020_01_holds : PySem.Challenge.rw_bm0020_01.Holds := by
  refine Mine.hd ?_
  k_fill
  intro w s₀ s₁ mg mb G Y fa o pm cd doc dV kV ho hd hcd hD hmg hg args vals as hpre hlay hrd hwl hlo
  have KX := kIn_of Y
  refine Ground.open G ?_
  intro T B D TE TW
  have hfa := Mine.law_at KX T hmg
  subst hfa
  wrow_args hpre hlay hrd hwl hlo
  rename Heap.IsList _ _ _ => hL
  rename IntsAre _ _ => hI
  rename Well _ _ _ _ => hW
  refine Mine.law_call (Mine.sys_of KX T) (Mine.Le.refl s₁.heap) ⟨rfl, by decide, by decide⟩ ⟨_, _, Mine.well_list hW hL, hI⟩ (by omega) fun h' tk l' => ?_
  refine ⟨.inl ⟨.bool true, .bool true, [], rfl, fun _ => rfl, .bool true, Mine.post_true _ _, fun _ => ⟨List.nodup_nil, by simp⟩⟩, OldK.of_keep l', rfl, AllBare.of_eq hg⟩
