import PyProof.Rows.All
import Wide.All
import OpenK.AllK
import Wide.FinOn
import PySem.Challenge.RW_mr0024_01
set_option Elab.async false

section
open PySem PySem.W PyProof.Rows
set_option maxRecDepth 100000
set_option maxHeartbeats 8000000
namespace Mine
open_top hd for PySem.Challenge.rw_mr0024_01
end Mine
end

section
open PySem PySem.W PyProof.Rows
set_option maxRecDepth 100000
set_option maxHeartbeats 4000000
namespace Mine
open Builtin Builtin.ObjectAttr

theorem slot_fn_ga : Slot "function" "__getattribute__" "object.__getattribute__" :=
  .of (owner := "object") (n := "__getattribute__") (by rw [typeLookup_type, builtinLookup_eq_fast]; kernel_rfl) (by decide +kernel) (by decide +kernel) (by decide +kernel)
    (by first | exact .inl (by decide +kernel) | exact .inr (by decide +kernel)) (by rw [isSubtype_type]; kernel_rfl)
theorem slot_fn_sa : Slot "function" "__setattr__" "object.__setattr__" :=
  .of (owner := "object") (n := "__setattr__") (by rw [typeLookup_type, builtinLookup_eq_fast]; kernel_rfl) (by decide +kernel) (by decide +kernel) (by decide +kernel)
    (by first | exact .inl (by decide +kernel) | exact .inr (by decide +kernel)) (by rw [isSubtype_type]; kernel_rfl)
theorem lk_fn_getattr : typeLookup (.type "function") "__getattr__" = pure none := by rw [typeLookup_type, builtinLookup_eq_fast]; kernel_rfl
theorem lk_fn_bool : typeLookup (.type "function") "__bool__" = pure none := by rw [typeLookup_type, builtinLookup_eq_fast]; kernel_rfl
theorem lk_fn_len : typeLookup (.type "function") "__len__" = pure none := by rw [typeLookup_type, builtinLookup_eq_fast]; kernel_rfl
theorem lk_fn_search : typeLookup (.type "function") (Str.ofString "search") = pure none := by rw [typeLookup_type, builtinLookup_eq_fast]; kernel_rfl
theorem lk_fn_span : typeLookup (.type "function") (Str.ofString "span") = pure none := by rw [typeLookup_type, builtinLookup_eq_fast]; kernel_rfl
theorem mro_fn : mroOf (.type "function") = pure [.type "function", .type "object"] := by kernel_rfl
theorem fn_passes (self : Value) : refuseLoop self "__setattr__" [.type "function", .type "object"] = pure () := by
  unfold refuseLoop; kernel_rfl

/-- A function object (any body) with its attribute dict laid at `d`. -/
abbrev fnWith (fd : FuncData) (d : Addr) : Obj := { cls := .type "function", dict := some d, data := .func fd }
/-- A dict object that holds one name alone. -/
def OneName (o : Obj) (name : Str) (v : Value) : Prop := ∃ es ep, o.data = .dict es ep ∧ StrKeys es ∧ ∀ n, nsFind es n = if n = name then some v else none

section
variable {prog : Program} {w : World} {A : Around} {E : Value → Shared → Prop} {s : Shared} {x d : Addr} {fd : FuncData} {name : Str} {v : Value} {od : Obj}

theorem fn_truthy {Q : Bool → Shared → Prop} {dd : Option Addr} {sl : Array (Option Value)} (hx : s.heap.get? x = some ⟨.type "function", dd, .func fd, sl⟩) (hq : Q true s) : wpAny (model prog w) A (truthy (.ref x)) Q E s := by
  obtain ⟨hp, g, dr, tk, os⟩ := s
  have hT : (⟨hp, g, dr, tk, os⟩ : Shared).TypeIs (.ref x) "function" := ⟨_, hx, rfl⟩
  have f1 := lk_fn_bool
  have f2 := lk_fn_len
  unfold truthy callSpecial?
  repeat (any_goals (first | assumption | wp_step))

theorem fn_setattr {Q : Unit → Shared → Prop} (hn : typeLookup (.type "function") name = pure none)
    (hx : s.heap.get? x = some { cls := .type "function", data := .func fd })
    (hq : ∀ h' tk' od, h'.get? x = some (fnWith fd s.heap.objs.size) → h'.get? s.heap.objs.size = some od → OneName od name v →
      (∀ b o, b ≠ x → s.heap.get? b = some o → h'.get? b = some o) → Q () { s with heap := h', toks := tk' }) :
    wpAny (model prog w) A (setAttr (.ref x) name v) Q E s := by
  obtain ⟨hp, g, dr, tk, os⟩ := s
  have hT : ∀ tk', (⟨hp, g, dr, tk', os⟩ : Shared).TypeIs (.ref x) "function" := fun _ => ⟨_, hx, rfl⟩
  have f3 := slot_fn_sa.lookup
  have f4 := slot_fn_sa.bind (.ref x)
  unfold setAttr callSpecial?
  repeat (any_goals (first | assumption | exact hT _ | wp_step))
  refine codeAny_call_builtin slot_fn_sa.plain F.entry_object_setattr (slot_fn_sa.check _ _ _ _ _ _ _ _ (hT _) (F.args_object_setattr_3 _ _ _) ?_)
  have hm := mro_fn
  have hpass := fn_passes (.ref x)
  have hxs : x ≠ hp.objs.size := Nat.ne_of_lt (Heap.lt_size hx)
  have hx₁ : (hp.push { cls := .type "dict", data := .dict #[] }).get? x = some { cls := .type "function", data := .func fd } := Heap.get?_push_of_some _ hx
  have hgd : ((hp.push { cls := .type "dict", data := .dict #[] }).update x fun o => { cls := o.cls, dict := some hp.objs.size, data := o.data, slots := o.slots }).get? hp.objs.size
      = some { cls := .type "dict", data := .dict #[] } :=
    (Heap.get?_update_ne _ _ _ _ hxs.symm).trans (Heap.get?_push_at rfl rfl)
  have hnd : ((hp.push { cls := .type "dict", data := .dict #[] }).update x fun o => { cls := o.cls, dict := some hp.objs.size, data := o.data, slots := o.slots }).Ns1 hp.objs.size (fun _ => none) :=
    Heap.Ns1.of_empty ⟨_, #[], _, hgd, rfl, fun e he => absurd he (by simp), fun _ => rfl⟩
  unfold Builtin.«object.__setattr__»
  simp only [refuse_eq]
  repeat (any_goals (first | assumption | exact hT _ | with_reducible refine wpAny_nsSet1 hnd ?_ | wp_step))
  intro h' hn' hs
  obtain ⟨oD, esD, epD, hoD, hdD, hcD⟩ := hn'.count (Within.cons name v Within.nil)
  refine wpAny_bind (wpAny_lookBehind hoD (by rw [hdD]; exact pastItsLine_dict (Nat.le_trans hcD (by rw [List.length_cons, List.length_nil, sizeLine_eq]; omega))) ?_)
  repeat (any_goals (first | assumption | wp_step))
  have hx' : h'.get? x = some (fnWith fd hp.objs.size) := by
    refine (hs.2 x hxs).trans (Heap.get?_update_self _ hx₁ rfl)
  obtain ⟨oN, es, ep, e1, e2, e3, _, e4⟩ := id hn'
  refine hq h' _ oN hx' e1 ⟨es, ep, e2, e3, e4⟩ fun b ob hb e => ?_
  exact (hs.2 b (Nat.ne_of_lt (Heap.lt_size e))).trans ((Heap.get?_update_ne _ _ _ _ hb).trans (Heap.get?_push_of_some _ e))

/-- The heap tells the dict's object from the ledger's entry. -/
theorem OneName.ns {h : Heap} (e : h.get? d = some od) (o : OneName od name v) : h.Ns d (fun n => if n = name then some v else none) := by
  obtain ⟨es, ep, a, b, c⟩ := o
  exact ⟨od, es, ep, e, a, b, c⟩

theorem fn_getattr {expr : Bool} {Q : Value → Shared → Prop} (hn : typeLookup (.type "function") name = pure none)
    (hx : s.heap.get? x = some (fnWith fd d)) (hd : s.heap.get? d = some od) (ho : OneName od name v) (hh : handedOut v = pure v)
    (hq : ∀ tk', Q v { s with toks := tk' }) :
    wpAny (model prog w) A (getAttr (.ref x) name expr) Q E s := by
  obtain ⟨hp, g, dr, tk, os⟩ := s
  have hT : ∀ tk', (⟨hp, g, dr, tk', os⟩ : Shared).TypeIs (.ref x) "function" := fun _ => ⟨_, hx, rfl⟩
  have f3 := slot_fn_ga.lookup
  have f4 := slot_fn_ga.bind (.ref x)
  have f5 := lk_fn_getattr
  have hns : hp.Ns d _ := ho.ns hd
  have hexp : (expr && onTheHeap (Value.builtin "object.__getattribute__")) = false := Bool.and_false _
  unfold getAttr getAttrBy
  repeat (any_goals (first | assumption | exact hT _ | ((with_reducible apply wpAny_ite_false); focus (rw [hexp]; rfl)) | wp_step))
  refine codeAny_call_builtin slot_fn_ga.plain F.entry_object_getattribute (slot_fn_ga.check _ _ _ _ _ _ _ _ (hT _) (F.args_object_getattribute_2 _ _) ?_)
  unfold Builtin.«object.__getattribute__»
  repeat (any_goals (first | assumption | exact hT _ | (with_reducible refine wpAny_nsGet hns ?_; rw [if_pos rfl]) | wp_step))
  exact hq _

theorem fn_method {pl : Sem Bool} {Q : Value × List Value → Shared → Prop} (hn : typeLookup (.type "function") name = pure none)
    (hx : s.heap.get? x = some (fnWith fd d)) (hd : s.heap.get? d = some od) (ho : OneName od name v) (hh : handedOut v = pure v)
    (hq : ∀ tk', Q (v, []) { s with toks := tk' }) :
    wpAny (model prog w) A (getMethod (.ref x) name pl) Q E s := by
  have hT : s.TypeIs (.ref x) "function" := ⟨_, hx, rfl⟩
  have f3 := slot_fn_ga.lookup
  have f5 := lk_fn_getattr
  have hcan := F.canon_object_ga
  unfold getMethod
  repeat (any_goals (first | assumption | simp only [hcan, Bool.false_eq_true, if_false] | (with_reducible refine fn_getattr hn hx hd ho hh fun tk' => ?_) | wp_step))
  exact hq _
end
end Mine
end

section
open PySem PySem.W PyProof.Rows PySem.Calls
set_option maxRecDepth 100000
set_option maxHeartbeats 4000000
namespace Mine

/-- A table of a code object's inner codes (the one kind of object that a run turns in place, besides frames and cells). -/
def isTab (o : Obj) : Bool := match o.cls, o.data with
  | .none, .fields _ => true
  | _, _ => false
/-- What a call of the text's leaves as it stands: all below the mark `n` but the table 44, and all that is no table. -/
def firm (n : Nat) (b : Addr) (o : Obj) : Bool := (decide (b < n) && b != 44) || !isTab o
def Held (n : Nat) (h h' : Heap) : Prop := ∀ b o, firm n b o = true → h.get? b = some o → h'.get? b = some o
def Solid (n : Nat) (g : Heap) : Prop := ∀ b o, g.get? b = some o → firm n b o = true

theorem Held.refl {n : Nat} {h : Heap} : Held n h h := fun _ _ _ e => e
theorem Held.trans {n : Nat} {h h' h'' : Heap} (a : Held n h h') (b : Held n h' h'') : Held n h h'' := fun x o f e => b x o f (a x o f e)
theorem Held.of_keep {n : Nat} {h h' : Heap} (k : ∀ b o, h.get? b = some o → h'.get? b = some o) : Held n h h' := fun b o _ e => k b o e
theorem firm_of {n : Nat} {b : Addr} {o : Obj} (h : isTab o = false) : firm n b o = true := by simp [firm, h]
theorem firm_low {n : Nat} {b : Addr} {o : Obj} (h : b < n) (h2 : b ≠ 44) : firm n b o = true := by simp [firm, h, h2]
theorem firm_loose {n : Nat} {b : Addr} {o : Obj} (h : firm n b o = false) : isTab o = true ∧ (n ≤ b ∨ b = 44) := by
  unfold firm at h
  rw [Bool.or_eq_false_iff] at h
  refine ⟨by simpa using h.2, ?_⟩
  by_cases hb : b < n
  · right; simpa [hb] using h.1
  · exact .inl (Nat.le_of_not_lt hb)

theorem isTab_dict {o : Obj} {es : Array DictEntry} {n : Nat} (h : o.data = .dict es n) : isTab o = false := by
  unfold isTab; rw [h]; split <;> simp_all
theorem isTab_func {o : Obj} {fd : FuncData} (h : o.data = .func fd) : isTab o = false := by
  unfold isTab; rw [h]; split <;> simp_all
theorem isTab_cell {o : Obj} {v : Option Value} (h : o.data = .cell v) : isTab o = false := by
  unfold isTab; rw [h]; split <;> simp_all
theorem isTab_seq {o : Obj} {xs : Array Value} {n : Nat} (h : o.data = .seq xs n) : isTab o = false := by
  unfold isTab; rw [h]; split <;> simp_all
theorem isTab_cls {o : Obj} (h : o.cls ≠ .none) : isTab o = false := by
  unfold isTab; split <;> simp_all

def looseN (n : Nat) (h : Heap) : List (Addr × Obj) := (List.range h.objs.size).filterMap fun a => match h.get? a with
  | some o => if firm n a o then none else some (a, o)
  | none => none
theorem mem_looseN {n : Nat} {h : Heap} {a : Addr} {o : Obj} : (a, o) ∈ looseN n h ↔ h.get? a = some o ∧ firm n a o = false := by
  unfold looseN
  rw [List.mem_filterMap]
  constructor
  · rintro ⟨b, hb, e⟩
    cases q : h.get? b with
    | none => rw [q] at e; cases e
    | some ob =>
      rw [q] at e
      cases hf : firm n b ob with
      | true => simp [hf] at e
      | false =>
        simp only [hf, Bool.false_eq_true, if_false, Option.some.injEq, Prod.mk.injEq] at e
        obtain ⟨rfl, rfl⟩ := e
        exact ⟨q, hf⟩
  · rintro ⟨e, hf⟩
    refine ⟨a, List.mem_range.mpr (Heap.lt_size e), ?_⟩
    simp [e, hf]

abbrev firmPart (n : Nat) (h : Heap) : Heap := hideAll h ((looseN n h).map (·.1))
theorem firmPart_get {n : Nat} {h : Heap} {b : Addr} {o : Obj} (e : h.get? b = some o) (hf : firm n b o = true) : (firmPart n h).get? b = some o := by
  refine hideAll_get _ e fun q => ?_
  obtain ⟨⟨b', o'⟩, hm, rfl⟩ := List.mem_map.mp q
  obtain ⟨e', hf'⟩ := mem_looseN.mp hm
  rw [e] at e'; cases e'
  rw [hf] at hf'; cases hf'
theorem of_firmPart {n : Nat} {h : Heap} {b : Addr} {o : Obj} (e : (firmPart n h).get? b = some o) : h.get? b = some o ∧ firm n b o = true := by
  have e1 := of_hideAll _ e
  refine ⟨e1, ?_⟩
  cases hf : firm n b o with
  | true => rfl
  | false =>
    have := hideAll_none (h := h) _ (List.mem_map_of_mem (f := (·.1)) (mem_looseN.mpr ⟨e1, hf⟩))
    rw [e] at this; cases this

theorem Fr.held {n : Nat} {g h h' : Heap} {L : Addr} {m : Str → Option Value} (F : Fr g L h m) (S : Solid n g) (H : Held n h h') : Fr g L h' m := by
  obtain ⟨oL, es, ep, hL, hd, r⟩ := F.ns
  exact ⟨⟨oL, es, ep, H _ _ (firm_of (isTab_dict hd)) hL, hd, r⟩, fun b o e => H b o (S b o e) (F.keep b o e), F.above⟩
theorem News.held {n : Nat} {g h h' : Heap} {L : Addr} {news : List (Addr × Obj)} (N : News g L h news) (S : ∀ p ∈ news, isTab p.2 = false) (H : Held n h h') : News g L h' news :=
  fun p hp => ⟨H _ _ (firm_of (S p hp)) (N p hp).1, (N p hp).2⟩

def LeaveH (n : Nat) (h g : Heap) (L' : Addr) (R : Result → Shared → Prop) (v : Value) (s' : Shared) : Prop :=
  (∃ m', Fr g L' s'.heap m') ∧ (Held n h s'.heap → R (.ok (.ret v)) s')

section
variable {prog : Program} {w : World} {A₀ A : Around} {s : Shared} {base h₀ : Heap} {outer : List Env} {L : Addr} {m : Str → Option Value} {env : Env} {n : Nat}
  {R : Result → Shared → Prop} {name qual : Str} {params : Arguments} {body : List Stmt} {scope : Scope} {cl : List (Str × Addr)} {dV kV doc pm cdv ct : Value} {an : Option Addr} {fo : Obj} {f : Addr} {args : Args} {binds : List (Str × Value)}

theorem groundH (B : Below A₀ base outer h₀) (F : Fr h₀ L s.heap m) (S : Solid n h₀) (hA : A.frames = some (env :: outer)) (hf : env.frame = some L) (hke : env.scope.kind = .function) :
    Below A base (env :: outer) (firmPart n s.heap) ∧ h₀.StaysIn (firmPart n s.heap) := by
  have N : News h₀ L s.heap (looseN n s.heap) := by
    rintro ⟨b, o⟩ hp
    obtain ⟨e, hf'⟩ := mem_looseN.mp hp
    refine ⟨e, ?_, ?_⟩
    · rintro rfl
      obtain ⟨oL, es, ep, hL, hd, _⟩ := F.ns
      rw [e] at hL; cases hL
      have := (firm_loose hf').1
      rw [isTab_dict hd] at this; cases this
    · cases q : h₀.get? b with
      | none => rfl
      | some o' =>
        have e2 := F.keep _ _ q
        rw [e] at e2; cases e2
        rw [S _ _ q] at hf'; cases hf'
  obtain ⟨_, BG, st, _⟩ := groundX (R := fun _ _ => True) B F N hA hf hke
  exact ⟨BG, st⟩

theorem enterH (n : Nat) (B : Below A₀ base outer h₀) (F : Fr h₀ L s.heap m) (S : Solid n h₀) (hlim : h₀.NoLimit) (hA : A.frames = some (env :: outer)) (hf : env.frame = some L) (hke : env.scope.kind = .function)
    (ho : s.heap.get? f = some fo) (hd : fo.data = .func (fnX name qual params body scope cl dV kV doc pm an cdv ct)) (hcd : s.heap.CodeRec cdv qual) (hroom : A.depth < recursionLimit)
    (hbind : BindsTo s (fnX name qual params body scope cl dV kV doc pm an cdv ct) args binds) (hloc : ∀ y ∈ binds, scope.names.lookup y.1 = some .local)
    (h : ∀ g L' h₁ tk, Fr g L' h₁ (fun y => binds.reverse.lookup y) → Below A base (env :: outer) g → h₀.StaysIn g → Solid n g → (∀ b o, s.heap.get? b = some o → firm n b o = true → g.get? b = some o) →
        (∀ b o, s.heap.get? b = some o → h₁.get? b = some o) → (∀ b o, g.get? b = some o → s.heap.get? b = some o) → h₀.objs.size ≤ g.objs.size →
      wpAny (model prog w) (A.deeper (envX qual scope L' f cdv cl)) (execs body (envX qual scope L' f cdv cl))
        (fun fl s' => LeaveH n s.heap g L' R (match fl with | .ret v => v | _ => .none) s')
        (fun e s' => wpAny (model prog w) (A.deeper (envX qual scope L' f cdv cl)) (leaving (envX qual scope L' f cdv cl) e) (fun _ s'' => R (.error e) s'') (fun e' s'' => R (.error e') s'') s')
        { s with heap := h₁, toks := tk })
    (hcell : ∀ x ∈ scope.names, x.2 ≠ .cell) (hco : scope.isCoroutine = false := by rfl) (hgen : scope.isGenerator = false := by rfl) (hk : scope.kind = .function := by rfl) : codeAny (model prog w) A (.call (.ref f) args) R s := by
  obtain ⟨BG, st⟩ := groundH (s := s) B F S hA hf hke
  have hsize : h₀.objs.size ≤ (firmPart n s.heap).objs.size := by rw [hideAll_size]; exact Nat.le_trans F.above (Nat.le_of_lt F.ns.lt)
  refine codeAny_call_def (fd := fnX name qual params body scope cl dV kV doc pm an cdv ct) (body := body) (binds := binds) hroom ho hd (hlim.keeps F.keep) hcd rfl hbind hcell hloc (fun h₁ hns hk₁ => ?_) hco hgen hk
  refine wpAny_mono (h (firmPart n s.heap) s.heap.objs.size h₁ _ ⟨hns, fun b o e => hk₁ b o (of_hideAll _ e), Nat.le_of_eq (hideAll_size _ _)⟩ BG st (fun b o e => (of_firmPart e).2) (fun b o e hf => firmPart_get e hf) hk₁ (fun b o e => of_hideAll _ e) hsize) (fun fl s' hl => ?_) fun _ _ y => y
  obtain ⟨⟨m', F'⟩, k⟩ := hl
  exact k fun b o hf e => F'.keep b o (firmPart_get e hf)

theorem enterE {bodyE : Expr} (n : Nat) (B : Below A₀ base outer h₀) (F : Fr h₀ L s.heap m) (S : Solid n h₀) (hlim : h₀.NoLimit) (hA : A.frames = some (env :: outer)) (hf : env.frame = some L) (hke : env.scope.kind = .function)
    (ho : s.heap.get? f = some (kla_obj name qual params bodyE scope cl pm cd' ct)) (hcd : s.heap.CodeRec (.ref cd') qual) (hroom : A.depth < recursionLimit)
    (hbind : bindArgs (kla_fn name qual params bodyE scope cl pm (.ref cd') ct) args = pure binds) (hloc : ∀ y ∈ binds, scope.names.lookup y.1 = some .local)
    (h : ∀ g L' h₁ tk, Fr g L' h₁ (fun y => binds.reverse.lookup y) → Below A base (env :: outer) g → h₀.StaysIn g → Solid n g → (∀ b o, s.heap.get? b = some o → firm n b o = true → g.get? b = some o) →
        (∀ b o, s.heap.get? b = some o → h₁.get? b = some o) → (∀ b o, g.get? b = some o → s.heap.get? b = some o) → h₀.objs.size ≤ g.objs.size →
      wpAny (model prog w) (A.deeper (envX qual scope L' f (.ref cd') cl)) (eval bodyE (envX qual scope L' f (.ref cd') cl))
        (fun v s' => LeaveH n s.heap g L' R v s')
        (fun e s' => wpAny (model prog w) (A.deeper (envX qual scope L' f (.ref cd') cl)) (leaving (envX qual scope L' f (.ref cd') cl) e) (fun _ s'' => R (.error e) s'') (fun e' s'' => R (.error e') s'') s')
        { s with heap := h₁, toks := tk })
    (hcell : ∀ x ∈ scope.names, x.2 ≠ .cell) (hco : scope.isCoroutine = false := by rfl) (hgen : scope.isGenerator = false := by rfl) (hk : scope.kind = .function := by rfl) : codeAny (model prog w) A (.call (.ref f) args) R s := by
  obtain ⟨BG, st⟩ := groundH (s := s) B F S hA hf hke
  have hsize : h₀.objs.size ≤ (firmPart n s.heap).objs.size := by rw [hideAll_size]; exact Nat.le_trans F.above (Nat.le_of_lt F.ns.lt)
  refine kla_callFunE hroom ho rfl hco hgen rfl hcd ?_
  rw [hbind]
  refine wpAny_pure (wpAny_newFunctionEnv hcell hloc (fun h₁ hns hsb => ⟨(hlim.keeps F.keep).fresh _ hsb, ?_⟩) hk)
  show codeAny _ _ (.expr bodyE (envX qual scope s.heap.objs.size f (.ref cd') cl)) _ _
  have hk₁ : ∀ b o, s.heap.get? b = some o → h₁.get? b = some o := fun b o e => hsb.extBut b o (Nat.ne_of_lt (Heap.lt_size e)) (Heap.get?_push_of_some _ e)
  refine kla_codeExpr (wpAny_mono (h (firmPart n s.heap) s.heap.objs.size h₁ _ ⟨hns, fun b o e => hk₁ b o (of_hideAll _ e), Nat.le_of_eq (hideAll_size _ _)⟩ BG st (fun b o e => (of_firmPart e).2) (fun b o e hf => firmPart_get e hf) hk₁ (fun b o e => of_hideAll _ e) hsize) (fun v s' hl => ?_) fun _ _ y => y)
  obtain ⟨⟨m', F'⟩, k⟩ := hl
  exact k fun b o hf e => F'.keep b o (firmPart_get e hf)

theorem enterC (n : Nat) (B : Below A₀ base outer h₀) (F : Fr h₀ L s.heap m) (S : Solid n h₀) (hlim : h₀.NoLimit) (hA : A.frames = some (env :: outer)) (hf : env.frame = some L) (hke : env.scope.kind = .function)
    (ho : s.heap.get? f = some fo) (hd : fo.data = .func (fnX name qual params body scope [] dV kV doc pm an cdv ct)) (hcd : s.heap.CodeRec cdv qual) (hroom : A.depth < recursionLimit)
    (hbind : BindsTo s (fnX name qual params body scope [] dV kV doc pm an cdv ct) args binds)
    (hkind : ∀ n, ∀ x ∈ binds, scope.names.lookup x.1 = some .local ∨ (scope.names.lookup x.1 = some .cell ∧ ((cellsFrom n scope.names []).lookup x.1).isSome = true))
    (hnd : ((cellsFrom 0 scope.names []).map (·.1)).Nodup)
    (h : ∀ g L' h₁ tk cells, Fr g L' h₁ (bindL (envOfC qual scope L' f cdv).kindOf binds fun _ => none) → News g L' h₁ cells →
      CellsAre (bindC (envOfC qual scope L' f cdv).kindOf binds fun _ => none) (cellsFrom (L' + 1) scope.names []) cells → Below A base (env :: outer) g → h₀.StaysIn g → Solid n g →
        (∀ b o, s.heap.get? b = some o → firm n b o = true → g.get? b = some o) → (∀ b o, s.heap.get? b = some o → h₁.get? b = some o) → (∀ b o, g.get? b = some o → s.heap.get? b = some o) → h₀.objs.size ≤ g.objs.size → (∀ b o, s.heap.get? b = some o → b < L') →
      wpAny (model prog w) (A.deeper (envOfC qual scope L' f cdv)) (execs body (envOfC qual scope L' f cdv))
        (fun fl s' => LeaveH n s.heap g L' R (match fl with | .ret v => v | _ => .none) s')
        (fun e s' => wpAny (model prog w) (A.deeper (envOfC qual scope L' f cdv)) (leaving (envOfC qual scope L' f cdv) e) (fun _ s'' => R (.error e) s'') (fun e' s'' => R (.error e') s'') s')
        { s with heap := h₁, toks := tk })
    (hco : scope.isCoroutine = false := by rfl) (hgen : scope.isGenerator = false := by rfl) (hk : scope.kind = .function := by rfl) : codeAny (model prog w) A (.call (.ref f) args) R s := by
  obtain ⟨BG, st⟩ := groundH (s := s) B F S hA hf hke
  have hsize : h₀.objs.size ≤ (firmPart n s.heap).objs.size := by rw [hideAll_size]; exact Nat.le_trans F.above (Nat.le_of_lt F.ns.lt)
  refine codeAny_call_function hroom ho hd hco hgen rfl hcd (hbind _ _ _ _ ?_)
  refine wpAny_newFunctionEnv_cells hk (hkind _) fun env' he s' x => ?_
  subst he
  refine ⟨(hlim.keeps F.keep).keeps x.toInCall.keep, codeAny_func ?_⟩
  obtain ⟨h₁, tk, rfl, _⟩ := x.done
  have hk₁ := x.toInCall.keep
  obtain ⟨cells, NC, Y⟩ := Cl.news (h₀ := s.heap) (Nat.le_refl _) fun n c hm => ⟨x.cell n c (lookup_of_mem_nodup (cellsFrom_names scope.names 0 (s.heap.objs.size + 1) [] [] rfl ▸ hnd) hm), x.above n c hm⟩
  refine wpAny_mono (h (firmPart n s.heap) s.heap.objs.size h₁ tk cells ⟨x.toInCall.ns, fun b o e => hk₁ b o (of_hideAll _ e), Nat.le_of_eq (hideAll_size _ _)⟩ (fun p hp => ⟨(NC p hp).1, (NC p hp).2.1, ?_⟩) Y BG st
    (fun b o e => (of_firmPart e).2) (fun b o e hf => firmPart_get e hf) hk₁ (fun b o e => of_hideAll _ e) hsize (fun b o e => Heap.lt_size e)) (fun fl s' hl => ?_) fun _ _ y => y
  · cases q : (firmPart n s.heap).get? p.1 with
    | none => rfl
    | some o => have := of_hideAll _ q; rw [(NC p hp).2.2] at this; cases this
  · obtain ⟨⟨m', F'⟩, k⟩ := hl
    exact k fun b o hf e => F'.keep b o (firmPart_get e hf)

/-- The same for a def of the text's top, told by the written part. -/
theorem enterK {K : Frag} {oc : Value} {od : Option Addr} {osl : Array (Option Value)} {p : Program} {loose : List Str} {mean : ExcName → Option Value} {mg mb : Str → Option Value} (n : Nat)
    (B : Below A₀ base outer h₀) (F : Fr h₀ L s.heap m) (X₀ : K.In h₀) (T : Top p loose mean mg mb h₀) (S : Solid n h₀) (hA : A.frames = some (env :: outer)) (hf : env.frame = some L) (hke : env.scope.kind = .function)
    (ho : K.lookup f = some ⟨oc, od, .func (fnX name qual params body scope [] dV kV doc pm an cdv ct), osl⟩) (hcd : codeIn K cdv qual = true) (hroom : A.depth < recursionLimit)
    (hbind : BindsTo s (fnX name qual params body scope [] dV kV doc pm an cdv ct) args binds) (hloc : ∀ y ∈ binds, scope.names.lookup y.1 = some .local)
    (h : ∀ g L' h₁ tk, Fr g L' h₁ (fun y => binds.reverse.lookup y) → Below A base (env :: outer) g → K.In g → Top p loose mean mg mb g → Solid n g → (∀ b o, s.heap.get? b = some o → firm n b o = true → g.get? b = some o) →
        (∀ b o, s.heap.get? b = some o → h₁.get? b = some o) → (∀ b o, g.get? b = some o → s.heap.get? b = some o) → h₀.objs.size ≤ g.objs.size →
      wpAny (model prog w) (A.deeper (envX qual scope L' f cdv [])) (execs body (envX qual scope L' f cdv []))
        (fun fl s' => LeaveH n s.heap g L' R (match fl with | .ret v => v | _ => .none) s')
        (fun e s' => wpAny (model prog w) (A.deeper (envX qual scope L' f cdv [])) (leaving (envX qual scope L' f cdv []) e) (fun _ s'' => R (.error e) s'') (fun e' s'' => R (.error e') s'') s')
        { s with heap := h₁, toks := tk })
    (hcell : ∀ x ∈ scope.names, x.2 ≠ .cell) (hco : scope.isCoroutine = false) (hgen : scope.isGenerator = false) (hk : scope.kind = .function) : codeAny (model prog w) A (.call (.ref f) args) R s :=
  enterH n B F S T.nolimit hA hf hke (F.keep _ _ (X₀ _ _ ho)) rfl (codeRec_of (X₀.keeps F.keep) hcd) hroom hbind hloc (fun g L' h₁ tk F₁ B₁ st S₁ hg hk hs hz => h g L' h₁ tk F₁ B₁ (X₀.keeps st) (T.keeps st) S₁ hg hk hs hz) hcell hco hgen hk
end
end Mine
end

section
open PySem PySem.W PyProof.Rows PySem.Calls PySem.Spec
set_option maxRecDepth 100000
set_option maxHeartbeats 4000000
namespace Mine

/-- An object that is a code object under the address `c`, its table at `P`, its name `qual`. -/
def CodeO (o : Obj) (c P : Addr) (qual : Str) : Prop :=
  ∃ vs file tf flags tg inF text tt tq, o.cls = .type "code" ∧ o.data = .fields vs ∧ vs[11]? = some (.ref P) ∧ vs.getD 11 .none = .ref P ∧ vs.getD 18 .none = .str file tf ∧
    vs.getD 7 .none = .int flags tg ∧ vs.getD 9 .none = .bool inF ∧ vs.getD 10 .none = .int text tt ∧ c ≠ P ∧ vs[1]? = some (.str qual tq)
theorem CodeO.hd {h : Heap} {o : Obj} {c P : Addr} {qual : Str} (x : CodeO o c P qual) (e : h.get? c = some o) : CodeHd h c P :=
  let ⟨vs, file, tf, flags, tg, inF, text, tt, _, h1, h2, h3, h4, h5, h6, h7, h8, h9, _⟩ := x; ⟨o, vs, file, tf, flags, tg, inF, text, tt, e, h1, h2, h3, h4, h5, h6, h7, h8, h9⟩
theorem CodeO.rec' {h : Heap} {o : Obj} {c P : Addr} {qual : Str} (x : CodeO o c P qual) (e : h.get? c = some o) : h.CodeRec (.ref c) qual :=
  let ⟨vs, _, _, _, _, _, _, _, tq, _, h2, _, _, _, _, _, _, _, h10⟩ := x; ⟨c, o, vs, tq, rfl, e, h2, h10⟩
theorem CodeO.of {h : Heap} {c P : Addr} {qual : Str} (x : CodeHd h c P) (r : h.CodeRec (.ref c) qual) : ∃ o, h.get? c = some o ∧ CodeO o c P qual := by
  obtain ⟨o, vs, file, tf, flags, tg, inF, text, tt, e, h1, h2, h3, h4, h5, h6, h7, h8, h9⟩ := x
  obtain ⟨c2, o2, vs2, t, e2, e3, e4, e5⟩ := r
  cases e2
  rw [e] at e3; cases e3
  rw [h2] at e4; cases e4
  exact ⟨o, e, vs, file, tf, flags, tg, inF, text, tt, t, h1, h2, h3, h4, h5, h6, h7, h8, h9, e5⟩
theorem CodeO.firm {n : Nat} {o : Obj} {c P : Addr} {qual : Str} (x : CodeO o c P qual) : firm n c o = true := by
  obtain ⟨vs, _, _, _, _, _, _, _, _, h1, _⟩ := x
  exact firm_of (isTab_cls (by rw [h1]; nofun))

theorem isTab_tabObj {ps : Array Value} : isTab (tabObj ps) = true := rfl

section
variable {M : Model} {A : Around} {E : Value → Shared → Prop} {s : Shared} {name qual : Str} {params : Arguments} {body : FuncBody} {scope : Scope} {env : Env} {c P : Addr} {ps : Array Value} {pos : Pos} {firstLine : Nat} {mg mb : Str → Option Value}
  {Q : Value → Shared → Prop}

/-- What `Top` tells of the heap for the making of a function. -/
theorem top_for {p : Program} {loose : List Str} {mean : ExcName → Option Value} {h₀ h : Heap} (T : Top p loose mean mg mb h₀) (k : ∀ b o, h₀.get? b = some o → h.get? b = some o) (hP : h.get? P = some (tabObj ps)) :
    h.Ns mainGlobals mg ∧ mainGlobals ≠ P ∧ h.BuiltinsAt mg P := by
  have hgs := T.g.keeps k
  obtain ⟨bm, ob, b1, b2, b3, b4, b5, b6⟩ := T.bmain
  refine ⟨hgs, fun q => ?_, bm, ob, b1, b2, fun q => ?_, fun q => ?_, k _ _ b3, b4, b5, b6⟩
  · obtain ⟨o, es, ep, e, hd, _⟩ := hgs
    rw [q, hP] at e; cases e; cases hd
  · obtain ⟨o, es, ep, e, hd, _⟩ := T.g
    rw [q, e] at b3; cases b3; rw [hd] at b6; cases b6
  · have e := k _ _ b3
    rw [q, hP] at e; cases e; cases b4

/-- A function made where its code object does not stand yet: the new code object has a table of its own. -/
theorem mk_tail_new {dV : Value} {clos : List (Str × Addr)} (hcl : closureFor scope env = pure clos) (hge0 : env.globals = mainGlobals) (hg : s.heap.Ns mainGlobals mg) (hcode : env.code = .ref c) (C : CodeHd s.heap c P) (hP : s.heap.get? P = some (tabObj ps)) (ht : TriplesOk ps.toList)
    (hnf : codeAmong pos ps.toList = none) (hgP : mainGlobals ≠ P) (hb : s.heap.BuiltinsAt mg P) (hdoc : ∀ b, body = .stmts b → docOf b = none)
    (h : ∀ f c' P' oc ctv h' tk, Heap.ExtBut P s.heap h' → s.heap.objs.size ≤ f → s.heap.objs.size ≤ c' → s.heap.objs.size ≤ P' → h'.get? c' = some oc → CodeO oc c' P' qual → h'.get? P' = some (tabObj #[]) → h'.get? P = some (tabObj (ps ++ #[rawInt pos.line, rawInt pos.col, .ref c'])) →
      h'.get? f = some (kdv_obj name qual params body scope clos dV .none ((mg "__name__").getD .none) c' ctv) → Q (.ref f) { s with heap := h', toks := tk }) :
    wpAny M A (makeTail name qual params body scope env dV .none none pos firstLine) Q E s := by
  obtain ⟨bm, ob, hbm, hne0, _, hneP, hbo, hcls, hdict, hdata⟩ := hb
  have last : ∀ (c' P' : Addr) (ctv : Value) (h' : Heap) (tk : Nat), Heap.ExtBut P s.heap h' → s.heap.objs.size ≤ c' → c' < h'.objs.size → s.heap.objs.size ≤ P' → h'.IsCode c' P' #[] → h'.TableAt c' P' #[] → h'.CodeRec (.ref c') qual → h'.get? P = some (tabObj (ps ++ #[rawInt pos.line, rawInt pos.col, .ref c'])) →
      wpAny M A (newObj (.type "function") (.func (kdv_fn name qual params body scope clos dV .none ((mg "__name__").getD .none) (.ref c') ctv))) Q E { s with heap := h', toks := tk } := by
    intro c' P' ctv h' tk hx hge hlt hP' hcode' htab' hrec htb
    obtain ⟨oc, hoc, hO⟩ := CodeO.of (CodeHd.of hcode' htab') hrec
    refine wpAny_newObj_type (h h'.objs.size c' P' oc ctv _ tk (fun b o hb e => Heap.get?_push_of_some _ (hx b o hb e)) (Nat.le_of_lt (Nat.lt_of_le_of_lt hge hlt)) hge hP' (Heap.get?_push_of_some _ hoc) hO (Heap.get?_push_of_some _ htab'.2) (Heap.get?_push_of_some _ htb) (Heap.get?_push_size _ rfl)) (by size_fits)
  unfold makeTail
  rw [hcl, hge0]
  refine wpAny_bind (wpAny_pure ?_)
  cases clos with
  | nil =>
    simp only [List.isEmpty_nil, if_true]
    refine wpAny_bind (wpAny_pure ?_)
    refine wpAny_bind (wpAny_functionCodeX hcode (C.code hP ht) (C.tab hP) hnf fun c' h' tk hx hge hlt _ hrec htb hnew => ?_)
    obtain ⟨P', hP', hcode', htab'⟩ := hnew
    have hg' := hg.extBut hx hgP
    refine wpAny_bind (wpAny_builtinsFor hg' hbm hne0 (hx _ _ hneP hbo) hcls hdict hdata ?_)
    refine wpAny_bind (wpAny_nsGet hg' ?_)
    cases body with
    | expr e => exact wpAny_bind (wpAny_pure (last _ _ _ _ _ hx hge hlt hP' hcode' htab' hrec htb.2))
    | stmts b => exact wpAny_bind (by simp only [hdoc b rfl]; exact wpAny_pure (last _ _ _ _ _ hx hge hlt hP' hcode' htab' hrec htb.2))
  | cons q r =>
    simp only [List.isEmpty_cons, Bool.false_eq_true, if_false]
    refine wpAny_bind (wpAny_newTextTuple ?_)
    refine wpAny_bind (wpAny_functionCodeX hcode ((C.keeps fun b o e => Heap.get?_push_of_some _ e).code (Heap.get?_push_of_some _ hP) ht) ((C.keeps fun b o e => Heap.get?_push_of_some _ e).tab (Heap.get?_push_of_some _ hP)) hnf fun c' h' tk hx hge hlt _ hrec htb hnew => ?_)
    obtain ⟨P', hP', hcode', htab'⟩ := hnew
    have hg' := (hg.push _).extBut hx hgP
    have hx' : Heap.ExtBut P s.heap h' := fun b o hb' e => hx b o hb' (Heap.get?_push_of_some _ e)
    have hge' : s.heap.objs.size ≤ c' := Nat.le_trans (by rw [Heap.size_push]; omega) hge
    have hP'' : s.heap.objs.size ≤ P' := Nat.le_trans (by rw [Heap.size_push]; omega) hP'
    refine wpAny_bind (wpAny_builtinsFor hg' hbm hne0 (hx' _ _ hneP hbo) hcls hdict hdata ?_)
    refine wpAny_bind (wpAny_nsGet hg' ?_)
    cases body with
    | expr e => exact wpAny_bind (wpAny_pure (last _ _ _ _ _ hx' hge' hlt hP'' hcode' htab' hrec htb.2))
    | stmts b => exact wpAny_bind (by simp only [hdoc b rfl]; exact wpAny_pure (last _ _ _ _ _ hx' hge' hlt hP'' hcode' htab' hrec htb.2))

/-- A function made where its code object stands. -/
theorem mk_tail_hit {dV : Value} {c' : Addr} {clos : List (Str × Addr)} (hcl : closureFor scope env = pure clos) (hge0 : env.globals = mainGlobals) (hg : s.heap.Ns mainGlobals mg) (hcode : env.code = .ref c) (C : CodeHd s.heap c P) (hP : s.heap.get? P = some (tabObj ps)) (ht : TriplesOk ps.toList)
    (hf : codeAmong pos ps.toList = some (.ref c')) (hb : s.heap.BuiltinsAt mg P) 
    (h : ∀ f ctv doc h' tk, (∀ b o, s.heap.get? b = some o → h'.get? b = some o) → s.heap.objs.size ≤ f →
      h'.get? f = some (kdv_obj name qual params body scope clos dV doc ((mg "__name__").getD .none) c' ctv) → Q (.ref f) { s with heap := h', toks := tk }) :
    wpAny M A (makeTail name qual params body scope env dV .none none pos firstLine) Q E s := by
  refine kdv_makeTailHit hcl hge0 hg hcode C hP ht hf hb fun ctv doc h' tk hk hsz => ?_
  exact h h'.objs.size ctv doc _ tk (fun b o e => Heap.get?_push_of_some _ (hk b o e)) hsz (Heap.get?_push_size _ rfl)

theorem mk_tail_hitE {e : Expr} {dV : Value} {c' : Addr} {clos : List (Str × Addr)} (hcl : closureFor scope env = pure clos) (hge0 : env.globals = mainGlobals) (hg : s.heap.Ns mainGlobals mg) (hcode : env.code = .ref c) (C : CodeHd s.heap c P) (hP : s.heap.get? P = some (tabObj ps)) (ht : TriplesOk ps.toList)
    (hf : codeAmong pos ps.toList = some (.ref c')) (hb : s.heap.BuiltinsAt mg P) 
    (h : ∀ f ctv h' tk, (∀ b o, s.heap.get? b = some o → h'.get? b = some o) → s.heap.objs.size ≤ f →
      h'.get? f = some (kla_obj name qual params e scope clos ((mg "__name__").getD .none) c' ctv) → Q (.ref f) { s with heap := h', toks := tk }) :
    wpAny M A (makeFunction name qual params (.expr e) scope env [] [] [] pos firstLine) Q E s := by
  refine kla_makeFunctionHit hcl hge0 hg hcode C hP ht hf hb fun ctv h' tk hk hsz => ?_
  exact h h'.objs.size ctv _ tk (fun b o e => Heap.get?_push_of_some _ (hk b o e)) hsz (Heap.get?_push_size _ rfl)

theorem mk_lam_new {e : Expr} {clos : List (Str × Addr)} (hcl : closureFor scope env = pure clos) (hge0 : env.globals = mainGlobals) (hg : s.heap.Ns mainGlobals mg) (hcode : env.code = .ref c) (C : CodeHd s.heap c P) (hP : s.heap.get? P = some (tabObj ps)) (ht : TriplesOk ps.toList)
    (hnf : codeAmong pos ps.toList = none) (hgP : mainGlobals ≠ P) (hb : s.heap.BuiltinsAt mg P)
    (h : ∀ f c' P' oc ctv h' tk, Heap.ExtBut P s.heap h' → s.heap.objs.size ≤ f → s.heap.objs.size ≤ c' → s.heap.objs.size ≤ P' → h'.get? c' = some oc → CodeO oc c' P' qual → h'.get? P' = some (tabObj #[]) → h'.get? P = some (tabObj (ps ++ #[rawInt pos.line, rawInt pos.col, .ref c'])) →
      h'.get? f = some (kla_obj name qual params e scope clos ((mg "__name__").getD .none) c' ctv) → Q (.ref f) { s with heap := h', toks := tk }) :
    wpAny M A (makeFunction name qual params (.expr e) scope env [] [] [] pos firstLine) Q E s := by
  rw [makeFunction_eq]
  simp only [List.zip_nil_right, List.filterMap_nil, List.isEmpty_nil, if_true, pure_bind]
  exact mk_tail_new hcl hge0 hg hcode C hP ht hnf hgP hb (fun b hb => nomatch hb) h

theorem mk_dflt {dv : List Value} (hne : dv.isEmpty = false)
    (h : ∀ t h', (∀ b o, s.heap.get? b = some o → h'.get? b = some o) → s.heap.objs.size ≤ t → h'.get? t = some (kdv_tup dv) → wpAny M A (makeTail name qual params body scope env (.ref t) .none none pos firstLine) Q E { s with heap := h' }) :
    wpAny M A (makeFunction name qual params body scope env dv [] [] pos firstLine) Q E s := by
  rw [makeFunction_eq]
  simp only [List.zip_nil_right, List.filterMap_nil, List.isEmpty_nil, if_true, pure_bind, hne, Bool.false_eq_true, if_false]
  exact wpAny_bind (wpAny_newTextTuple (h _ _ (fun b o e => Heap.get?_push_of_some _ e) (Nat.le_refl _) (Heap.get?_push_size _ rfl)))
end

theorem Fr.new {g h : Heap} {L a : Addr} {m : Str → Option Value} (F : Fr g L h m) (ha : h.objs.size ≤ a) : a ≠ L ∧ g.get? a = none := by
  have hl := F.ns.lt
  exact ⟨Nat.ne_of_gt (Nat.lt_of_lt_of_le hl ha), Heap.get?_none_of_le (Nat.le_trans F.above (Nat.le_of_lt (Nat.lt_of_lt_of_le hl ha)))⟩

section
variable {M : Model} {A : Around} {E : Value → Shared → Prop} {s : Shared} {h₀ : Heap} {L a c P : Addr} {m mg mb : Str → Option Value} {cn : Str} {cs : Scope} {cl : List (Str × Addr)} {rest : List (Addr × Obj)}
  {p : Program} {loose : List Str} {mean : ExcName → Option Value} {name qual : Str} {params : Arguments} {body : FuncBody} {scope : Scope} {ps : Array Value} {pos : Pos} {firstLine : Nat} {clos : List (Str × Addr)} {Q : Value → Shared → Prop}

theorem nest_new {dV : Value} (F : Fr h₀ L s.heap m) (N : News h₀ L s.heap ((P, tabObj ps) :: rest)) (hr : ∀ q ∈ rest, q.1 ≠ P) (T : Top p loose mean mg mb h₀) (C : CodeHd s.heap c P) (ht : TriplesOk ps.toList) (hnf : codeAmong pos ps.toList = none)
    (hcl : closureFor scope (envX cn cs L a (.ref c) cl) = pure clos) (hdoc : ∀ b, body = .stmts b → docOf b = none)
    (h : ∀ f c' P' oc ctv h' tk, Fr h₀ L h' m →
      News h₀ L h' ((f, kdv_obj name qual params body scope clos dV .none ((mg "__name__").getD .none) c' ctv) :: (c', oc) :: (P', tabObj #[]) :: (P, tabObj (ps ++ #[rawInt pos.line, rawInt pos.col, .ref c'])) :: rest) →
      CodeO oc c' P' qual → s.heap.objs.size ≤ f → s.heap.objs.size ≤ c' → s.heap.objs.size ≤ P' → Q (.ref f) { s with heap := h', toks := tk }) :
    wpAny M A (makeTail name qual params body scope (envX cn cs L a (.ref c) cl) dV .none none pos firstLine) Q E s := by
  have hm := N _ (.head _)
  obtain ⟨t1, t2, t3⟩ := top_for T F.keep hm.1
  refine mk_tail_new hcl rfl t1 rfl C hm.1 ht hnf t2 t3 hdoc fun f c' P' oc ctv h' tk hx hf hc hP' hoc hO htP' htP hfo => ?_
  refine h f c' P' oc ctv h' tk ⟨F.ns.extBut hx hm.2.1.symm, fun b o e => hx b o (fun q => by rw [q, hm.2.2] at e; cases e) (F.keep b o e), F.above⟩ (fun q hq => ?_) hO hf hc hP'
  rcases List.mem_cons.mp hq with rfl | hq
  · exact ⟨hfo, Fr.new F hf⟩
  rcases List.mem_cons.mp hq with rfl | hq
  · exact ⟨hoc, Fr.new F hc⟩
  rcases List.mem_cons.mp hq with rfl | hq
  · exact ⟨htP', Fr.new F hP'⟩
  rcases List.mem_cons.mp hq with rfl | hq
  · exact ⟨htP, hm.2⟩
  · have nq := N q (.tail _ hq)
    exact ⟨hx _ _ (hr q hq) nq.1, nq.2⟩

theorem nest_hit {dV : Value} {c' : Addr} (F : Fr h₀ L s.heap m) (N : News h₀ L s.heap ((P, tabObj ps) :: rest)) (T : Top p loose mean mg mb h₀) (C : CodeHd s.heap c P) (ht : TriplesOk ps.toList) (hf : codeAmong pos ps.toList = some (.ref c'))
    (hcl : closureFor scope (envX cn cs L a (.ref c) cl) = pure clos)
    (h : ∀ f ctv doc h' tk, Fr h₀ L h' m →
      News h₀ L h' ((f, kdv_obj name qual params body scope clos dV doc ((mg "__name__").getD .none) c' ctv) :: (P, tabObj ps) :: rest) → s.heap.objs.size ≤ f → Q (.ref f) { s with heap := h', toks := tk }) :
    wpAny M A (makeTail name qual params body scope (envX cn cs L a (.ref c) cl) dV .none none pos firstLine) Q E s := by
  have hm := N _ (.head _)
  obtain ⟨t1, t2, t3⟩ := top_for T F.keep hm.1
  refine mk_tail_hit hcl rfl t1 rfl C hm.1 ht hf t3 fun f ctv doc h' tk hx hf hfo => ?_
  refine h f ctv doc h' tk ⟨F.ns.keeps hx, fun b o e => hx b o (F.keep b o e), F.above⟩ (fun q hq => ?_) hf
  rcases List.mem_cons.mp hq with rfl | hq
  · exact ⟨hfo, Fr.new F hf⟩
  · have nq := N q hq
    exact ⟨hx _ _ nq.1, nq.2⟩

theorem lam_new {e : Expr} (F : Fr h₀ L s.heap m) (N : News h₀ L s.heap ((P, tabObj ps) :: rest)) (hr : ∀ q ∈ rest, q.1 ≠ P) (T : Top p loose mean mg mb h₀) (C : CodeHd s.heap c P) (ht : TriplesOk ps.toList) (hnf : codeAmong pos ps.toList = none)
    (hcl : closureFor scope (envX cn cs L a (.ref c) cl) = pure clos) (hdef : defaultsOf params (envX cn cs L a (.ref c) cl) = ([], []))
    (h : ∀ f c' P' oc ctv h' tk, Fr h₀ L h' m →
      News h₀ L h' ((f, kla_obj "<lambda>" (cn ++ ".<locals>." ++ "<lambda>") params e scope clos ((mg "__name__").getD .none) c' ctv) :: (c', oc) :: (P', tabObj #[]) :: (P, tabObj (ps ++ #[rawInt pos.line, rawInt pos.col, .ref c'])) :: rest) →
      CodeO oc c' P' (cn ++ ".<locals>." ++ "<lambda>") → s.heap.objs.size ≤ f → s.heap.objs.size ≤ c' → s.heap.objs.size ≤ P' → Q (.ref f) { s with heap := h', toks := tk }) :
    wpAny M A (eval (.Lambda params e scope pos) (envX cn cs L a (.ref c) cl)) Q E s := by
  refine kla_eval hdef ?_
  rw [makeFunction_eq]
  simp only [List.zip_nil_right, List.filterMap_nil, List.isEmpty_nil, if_true, pure_bind]
  exact nest_new F N hr T C ht hnf hcl (fun b hb => nomatch hb) h

theorem lam_hit {e : Expr} {c' : Addr} (F : Fr h₀ L s.heap m) (N : News h₀ L s.heap ((P, tabObj ps) :: rest)) (T : Top p loose mean mg mb h₀) (C : CodeHd s.heap c P) (ht : TriplesOk ps.toList) (hf : codeAmong pos ps.toList = some (.ref c'))
    (hcl : closureFor scope (envX cn cs L a (.ref c) cl) = pure clos) (hdef : defaultsOf params (envX cn cs L a (.ref c) cl) = ([], []))
    (h : ∀ f ctv h' tk, Fr h₀ L h' m →
      News h₀ L h' ((f, kla_obj "<lambda>" (cn ++ ".<locals>." ++ "<lambda>") params e scope clos ((mg "__name__").getD .none) c' ctv) :: (P, tabObj ps) :: rest) → s.heap.objs.size ≤ f → Q (.ref f) { s with heap := h', toks := tk }) :
    wpAny M A (eval (.Lambda params e scope pos) (envX cn cs L a (.ref c) cl)) Q E s := by
  have hm := N _ (.head _)
  obtain ⟨t1, t2, t3⟩ := top_for T F.keep hm.1
  refine kla_eval hdef (mk_tail_hitE (dV := .none) hcl rfl t1 rfl C hm.1 ht hf t3 fun f ctv h' tk hx hf hfo => ?_)
  refine h f ctv h' tk ⟨F.ns.keeps hx, fun b o e => hx b o (F.keep b o e), F.above⟩ (fun q hq => ?_) hf
  rcases List.mem_cons.mp hq with rfl | hq
  · exact ⟨hfo, Fr.new F hf⟩
  · have nq := N q hq
    exact ⟨hx _ _ nq.1, nq.2⟩

/-- An attribute laid upon a function of the ledger that has none yet. -/
theorem fn_setattr_N {prog : Program} {w : World} {x : Addr} {fd : FuncData} {v : Value} {Q : Unit → Shared → Prop} (F : Fr h₀ L s.heap m) (N : News h₀ L s.heap ((x, { cls := .type "function", data := .func fd }) :: rest)) (hr : ∀ q ∈ rest, q.1 ≠ x)
    (hn : typeLookup (.type "function") name = pure none)
    (h : ∀ d od h' tk, Fr h₀ L h' m → News h₀ L h' ((x, fnWith fd d) :: (d, od) :: rest) → OneName od name v → s.heap.objs.size ≤ d → Q () { s with heap := h', toks := tk }) :
    wpAny (model prog w) A (setAttr (.ref x) name v) Q E s := by
  have hm := N _ (.head _)
  refine fn_setattr hn hm.1 fun h' tk od hx hd ho hk => ?_
  refine h _ od h' tk ⟨F.ns.at' fun o e => hk _ o hm.2.1.symm e, fun b o e => hk b o (fun q => by rw [q, hm.2.2] at e; cases e) (F.keep b o e), F.above⟩ (fun q hq => ?_) ho (Nat.le_refl _)
  rcases List.mem_cons.mp hq with rfl | hq
  · exact ⟨hx, hm.2⟩
  rcases List.mem_cons.mp hq with rfl | hq
  · exact ⟨hd, Fr.new F (Nat.le_refl _)⟩
  · have nq := N q (.tail _ hq)
    exact ⟨hk _ _ (hr q hq) nq.1, nq.2⟩
end
end Mine
end

section
open PySem PySem.W PyProof.Rows PySem.Calls PySem.Spec
set_option maxRecDepth 100000
set_option maxHeartbeats 8000000
namespace Mine

def bodyOf : Stmt → List Stmt
  | .FunctionDef _ _ b _ _ _ _ _ _ _ => b
  | .For _ _ b _ _ => b
  | .If _ b _ _ => b
  | _ => []
def paramsOf : Stmt → Arguments
  | .FunctionDef _ a _ _ _ _ _ _ _ _ => a
  | _ => default
def scopeOf : Stmt → Scope
  | .FunctionDef _ _ _ _ _ _ s _ _ _ => s
  | _ => default
def valueOf : Stmt → Expr
  | .Assign _ v _ => v
  | _ => default
def lamBody : Expr → Expr
  | .Lambda _ b _ _ => b
  | _ => default
def lamScope : Expr → Scope
  | .Lambda _ _ s _ => s
  | _ => default
def lamParams : Expr → Arguments
  | .Lambda a _ _ _ => a
  | _ => default
def firstS : List Stmt → Stmt
  | x :: _ => x
  | [] => default
def secondS : List Stmt → Stmt
  | _ :: x :: _ => x
  | _ => default
/-- The def of the text's finder, as the row has it. -/
def progStmt : Stmt := match Challenge.pw_mr0024_01.main.body with
  | _ :: _ :: _ :: _ :: _ :: _ :: _ :: x :: _ => x
  | _ => default
def searchStmt : Stmt := firstS (bodyOf progStmt)
def hitBlock : List Stmt := bodyOf (firstS (bodyOf (firstS (bodyOf searchStmt))))
def hitLam : Expr := valueOf (firstS hitBlock)
def spanLam : Expr := valueOf (secondS hitBlock)
abbrev searchQual : Str := Str.ofString "_law_prog" ++ Str.ofString ".<locals>." ++ Str.ofString "search"
abbrev progLamQual : Str := Str.ofString "_law_prog" ++ Str.ofString ".<locals>." ++ Str.ofString "<lambda>"
abbrev lamQual : Str := searchQual ++ Str.ofString ".<locals>." ++ Str.ofString "<lambda>"

def CodeAt (h : Heap) (c : Addr) (qual : Str) : Prop := ∃ o P, h.get? c = some o ∧ CodeO o c P qual
/-- The table of the finder's own code: empty, or with the two inner functions' codes. -/
def Tab1 (h : Heap) (P1 : Addr) : Prop := h.get? P1 = some (tabObj #[]) ∨
  ∃ c3 c4, h.get? P1 = some (tabObj #[rawInt 36, rawInt 22, .ref c3, rawInt 37, rawInt 27, .ref c4]) ∧ CodeAt h c3 lamQual ∧ CodeAt h c4 lamQual
structure Memo1 (n : Nat) (h : Heap) (c1 P1 c2 : Addr) : Prop where
  tab : h.get? 44 = some (tabObj #[rawInt 33, rawInt 4, .ref c1, rawInt 40, rawInt 11, .ref c2])
  code : ∃ o, h.get? c1 = some o ∧ CodeO o c1 P1 searchQual
  lam : CodeAt h c2 progLamQual
  above : n ≤ P1
  ne : P1 ≠ 44
  inner : Tab1 h P1
def Memo (n : Nat) (h : Heap) : Prop := h.get? 44 = some (tabObj #[]) ∨ ∃ c1 P1 c2, Memo1 n h c1 P1 c2

/-- The finder's function object. -/
def SearchAt (h : Heap) (fs c1 : Addr) : Prop := ∃ T₀ t doc pm ctv, h.get? fs = some (kdv_obj "search" searchQual (paramsOf searchStmt) (.stmts (bodyOf searchStmt)) (scopeOf searchStmt) [] (.ref T₀) doc pm c1 ctv) ∧
  h.get? T₀ = some (kdv_tup [.int 0 t])
def ProgAt (h : Heap) (pr c1 : Addr) : Prop := ∃ fd d od fs, h.get? pr = some (fnWith fd d) ∧ h.get? d = some od ∧ OneName od "search" (.ref fs) ∧ SearchAt h fs c1

theorem CodeAt.keep {h h' : Heap} {c : Addr} {q : Str} (x : CodeAt h c q) (k : ∀ b o, h.get? b = some o → h'.get? b = some o) : CodeAt h' c q := let ⟨o, P, e, r⟩ := x; ⟨o, P, k _ _ e, r⟩
theorem CodeAt.held {n : Nat} {h h' : Heap} {c : Addr} {q : Str} (x : CodeAt h c q) (k : Held n h h') : CodeAt h' c q := let ⟨o, P, e, r⟩ := x; ⟨o, P, k _ _ r.firm e, r⟩
theorem CodeAt.rec' {h : Heap} {c : Addr} {q : Str} (x : CodeAt h c q) : h.CodeRec (.ref c) q := let ⟨_, _, e, r⟩ := x; r.rec' e
theorem Tab1.keep {h h' : Heap} {P : Addr} (x : Tab1 h P) (k : ∀ b o, h.get? b = some o → h'.get? b = some o) : Tab1 h' P := x.imp (k _ _) fun ⟨c3, c4, e, a, b⟩ => ⟨c3, c4, k _ _ e, a.keep k, b.keep k⟩
theorem Memo1.keep {n : Nat} {h h' : Heap} {c1 P1 c2 : Addr} (x : Memo1 n h c1 P1 c2) (k : ∀ b o, h.get? b = some o → h'.get? b = some o) : Memo1 n h' c1 P1 c2 :=
  ⟨k _ _ x.tab, let ⟨o, e, r⟩ := x.code; ⟨o, k _ _ e, r⟩, x.lam.keep k, x.above, x.ne, x.inner.keep k⟩
theorem Memo.keep {n : Nat} {h h' : Heap} (x : Memo n h) (k : ∀ b o, h.get? b = some o → h'.get? b = some o) : Memo n h' := x.imp (k _ _) fun ⟨c1, P1, c2, r⟩ => ⟨c1, P1, c2, r.keep k⟩
theorem SearchAt.keep {h h' : Heap} {fs c : Addr} (x : SearchAt h fs c) (k : ∀ b o, h.get? b = some o → h'.get? b = some o) : SearchAt h' fs c := let ⟨T₀, t, doc, pm, ctv, a, b⟩ := x; ⟨T₀, t, doc, pm, ctv, k _ _ a, k _ _ b⟩
theorem SearchAt.held {n : Nat} {h h' : Heap} {fs c : Addr} (x : SearchAt h fs c) (k : Held n h h') : SearchAt h' fs c := let ⟨T₀, t, doc, pm, ctv, a, b⟩ := x; ⟨T₀, t, doc, pm, ctv, k _ _ (firm_of rfl) a, k _ _ (firm_of rfl) b⟩
theorem OneName.firm {n : Nat} {d : Addr} {od : Obj} {x : Str} {v : Value} (o : OneName od x v) : firm n d od = true := let ⟨_, _, e, _⟩ := o; firm_of (isTab_dict e)
theorem ProgAt.held {n : Nat} {h h' : Heap} {fs c : Addr} (x : ProgAt h fs c) (k : Held n h h') : ProgAt h' fs c := let ⟨fd, d, od, f, a, b, o, r⟩ := x; ⟨fd, d, od, f, k _ _ (firm_of rfl) a, k _ _ o.firm b, o, r.held k⟩
/-- The finder's maker's own code object and its table. -/
theorem code48 {w : World} {h : Heap} (X : (hd.heap_39 w.params).In h) : CodeHd h 48 44 :=
  ⟨_, _, _, _, _, _, _, _, _, X 48 _ rfl, rfl, rfl, rfl, rfl, rfl, rfl, rfl, rfl, by decide⟩


theorem news_ne {g h : Heap} {L : Addr} {l : List (Addr × Obj)} (N : News g L h l) {p q : Addr × Obj} (hp : p ∈ l) (hq : q ∈ l) (ne : p.2 ≠ q.2) : p.1 ≠ q.1 := fun e => ne (by
  have a := (N p hp).1
  have b := (N q hq).1
  rw [e, b] at a
  exact (Option.some.inj a).symm)
theorem CodeO.cls {o : Obj} {c P : Addr} {q : Str} (x : CodeO o c P q) : o.cls = .type "code" := let ⟨_, _, _, _, _, _, _, _, _, h, _⟩ := x; h
theorem split_news {g h : Heap} {L : Addr} {m : Str → Option Value} (F : Fr g L h m) (full : List (Addr × Obj)) (hf : ∀ p ∈ full, h.get? p.1 = some p.2) (hd : ∀ p ∈ full, ∃ vs, p.2.data = .fields vs) :
    ∃ rel, News g L h rel ∧ (∀ p ∈ rel, p ∈ full) ∧ ∀ h' : Heap, (∀ b o, g.get? b = some o → h'.get? b = some o) → (∀ p ∈ rel, h'.get? p.1 = some p.2) → ∀ p ∈ full, h'.get? p.1 = some p.2 := by
  refine ⟨full.filter fun p => (g.get? p.1).isNone, fun p hp => ?_, fun p hp => (List.mem_filter.mp hp).1, fun h' k1 k2 p hp => ?_⟩
  · obtain ⟨hp, hn⟩ := List.mem_filter.mp hp
    refine ⟨hf p hp, fun q => ?_, by simpa using hn⟩
    obtain ⟨oL, es, ep, hL, hd', _⟩ := F.ns
    obtain ⟨vs, hv⟩ := hd p hp
    rw [← q, hf p hp] at hL
    cases hL
    rw [hv] at hd'; cases hd'
  · cases hq : g.get? p.1 with
    | none => exact k2 p (List.mem_filter.mpr ⟨hp, by simp [hq]⟩)
    | some o =>
      have e := F.keep _ _ hq
      rw [hf p hp] at e; cases e
      exact k1 _ _ hq
theorem CodeO.flds {o : Obj} {c P : Addr} {q : Str} (x : CodeO o c P q) : ∃ vs, o.data = .fields vs := let ⟨vs, _, _, _, _, _, _, _, _, _, h, _⟩ := x; ⟨vs, h⟩
theorem Memo1.sup {n : Nat} {h : Heap} {c1 P1 c2 : Addr} (x : Memo1 n h c1 P1 c2) : ∃ full : List (Addr × Obj), (∀ p ∈ full, h.get? p.1 = some p.2) ∧ (∀ p ∈ full, ∃ vs, p.2.data = .fields vs) ∧
    ∀ h' : Heap, h'.get? 44 = h.get? 44 → (∀ p ∈ full, h'.get? p.1 = some p.2) → Memo1 n h' c1 P1 c2 := by
  obtain ⟨tab, ⟨o1, e1, O1⟩, ⟨o2, P2, e2, O2⟩, ab, ne, inner⟩ := x
  rcases inner with e3 | ⟨c3, c4, e3, ⟨o3, P3, e4, O3⟩, o4, P4, e5, O4⟩
  · refine ⟨[(c1, o1), (c2, o2), (P1, tabObj #[])], ?_, ?_, fun h' k1 k2 => ?_⟩
    · simpa using ⟨e1, e2, e3⟩
    · simpa using ⟨O1.flds, O2.flds⟩
    · exact ⟨k1.trans tab, ⟨o1, k2 (c1, o1) (by simp), O1⟩, ⟨o2, P2, k2 (c2, o2) (by simp), O2⟩, ab, ne, .inl (k2 (P1, _) (by simp))⟩
  · refine ⟨[(c1, o1), (c2, o2), (P1, tabObj #[rawInt 36, rawInt 22, .ref c3, rawInt 37, rawInt 27, .ref c4]), (c3, o3), (c4, o4)], ?_, ?_, fun h' k1 k2 => ?_⟩
    · simpa using ⟨e1, e2, e3, e4, e5⟩
    · simpa using ⟨O1.flds, O2.flds, O3.flds, O4.flds⟩
    · exact ⟨k1.trans tab, ⟨o1, k2 (c1, o1) (by simp), O1⟩, ⟨o2, P2, k2 (c2, o2) (by simp), O2⟩, ab, ne, .inr ⟨c3, c4, k2 (P1, _) (by simp), ⟨o3, P3, k2 (c3, o3) (by simp), O3⟩, o4, P4, k2 (c4, o4) (by simp), O4⟩⟩
theorem prog_body {w : World} {n : Nat} {p : Program} {loose : List Str} {mean : ExcName → Option Value} {mg mb : Str → Option Value} {A : Around} {g : Heap} {L : Addr} {s : Shared} {m : Str → Option Value} {Q : Flow → Shared → Prop} {E : Value → Shared → Prop}
    (F : Fr g L s.heap m) (X : (hd.heap_39 w.params).In g) (T : Top p loose mean mg mb g) (S : Solid n g) (hn : n ≤ g.objs.size) (ME : Memo n s.heap)
    (h : ∀ pr c1 P1 c2 h' tk m', Fr g L h' m' → Memo1 n h' c1 P1 c2 → ProgAt h' pr c1 → Q (.ret (.ref pr)) { s with heap := h', toks := tk }) :
    wpAny (model Challenge.rw_mr0024_01.row.prog w) A (execs (bodyOf progStmt) (envX "_law_prog" (scopeOf progStmt) L 49 (.ref 48) [])) Q E s := by
  have C₁ : CodeHd s.heap 48 44 := code48 (X.keeps F.keep)
  have h44 : ∀ ps, s.heap.get? 44 = some (tabObj ps) → News g L s.heap [(44, tabObj ps)] := by
    intro ps e q hq
    rw [List.mem_singleton.mp hq]
    refine ⟨e, ?_, ?_⟩
    · rintro rfl
      obtain ⟨oL, es, ep, hL, hd, _⟩ := F.ns
      rw [e] at hL; cases hL; cases hd
    · cases q : g.get? 44 with
      | none => rfl
      | some o =>
        have e2 := F.keep _ _ q
        rw [e] at e2; cases e2
        have := S _ _ q
        simp [firm, isTab] at this
  conv in (execs _ _) => arg 1; whnf
  conv in (scopeOf _) => whnf
  refine wpAny_execs_cons (kdv_def rfl rfl rfl (kdv_all1 ?_))
  walk1
  refine kdv_all0 ?_
  dsimp only
  refine mk_dflt rfl fun t₀ h₁ hk₁ ht₀ ht₀' => ?_
  have hL := F.ns.lt
  have F₁ : Fr g L h₁ m := ⟨F.ns.keeps hk₁, fun b o e => hk₁ b o (F.keep b o e), F.above⟩
  have N₀ : ∀ ps, s.heap.get? 44 = some (tabObj ps) → News g L h₁ [(44, tabObj ps), (t₀, kdv_tup [.int 0 s.toks])] := by
    intro ps e q hq
    rcases List.mem_cons.mp hq with rfl | hq
    · have := h44 ps e _ (.head _)
      exact ⟨hk₁ _ _ this.1, this.2⟩
    · rw [List.mem_singleton.mp hq]
      exact ⟨ht₀', Fr.new F ht₀⟩
  have fin : ∀ (fs c1 P1 c2 d pr : Addr) (fd : FuncData) (od : Obj) (ctv doc pm : Value) (h' : Heap) (tk : Nat) (m' : Str → Option Value), Fr g L h' m' → Memo1 n h' c1 P1 c2 →
      h'.get? pr = some (fnWith fd d) → h'.get? d = some od → OneName od "search" (.ref fs) →
      h'.get? fs = some (kdv_obj "search" searchQual (paramsOf searchStmt) (.stmts (bodyOf searchStmt)) (scopeOf searchStmt) [] (.ref t₀) doc pm c1 ctv) → h'.get? t₀ = some (kdv_tup [.int 0 s.toks]) → Q (.ret (.ref pr)) { s with heap := h', toks := tk } :=
    fun fs c1 P1 c2 d pr fd od ctv doc pm h' tk m' F' ME' e1 e2 e3 e4 e5 => h pr c1 P1 c2 h' tk m' F' ME' ⟨fd, d, od, fs, e1, e2, e3, t₀, s.toks, doc, pm, ctv, e4, e5⟩
  have tail : ∀ (m₁ : Str → Option Value) (fs pr : Addr) (fd : FuncData) (rest : List (Addr × Obj)) (h₁ : Heap) (tk₁ : Nat), Fr g L h₁ m₁ → News g L h₁ ((pr, { cls := .type "function", data := .func fd }) :: rest) → (∀ q ∈ rest, q.1 ≠ pr) → m₁ "search" = some (.ref fs) →
      (∀ d h' tk' od m', Fr g L h' m' → News g L h' ((pr, fnWith fd d) :: (d, od) :: rest) → OneName od "search" (.ref fs) → Q (.ret (.ref pr)) { s with heap := h', toks := tk' }) →
      wpAny (model Challenge.rw_mr0024_01.row.prog w) A (storeName (envX "_law_prog" (scopeOf progStmt) L 49 (.ref 48) []) "prog" (.ref pr)) (fun _ s' => wpAny (model Challenge.rw_mr0024_01.row.prog w) A (execs (bodyOf progStmt).tail.tail (envX "_law_prog" (scopeOf progStmt) L 49 (.ref 48) [])) Q E s') E { s with heap := h₁, toks := tk₁ } := by
    intro m₁ fs pr fd rest h₁ tk₁ F₁ N₁ hr hfs k
    refine storeX_L F₁ N₁ (fun h₂ F₂ N₂ => ?_) rfl rfl
    conv in (execs _ _) => arg 1; whnf
    refine wpAny_execs_cons (plainObj_wpAny_Assign_Attribute ?_ rfl)
    refine nameX_L F₂ (v := .ref fs) ?_ ?_ rfl rfl
    · rw [if_neg (by decide)]; exact hfs
    refine nameX_L F₂ (v := .ref pr) (by rw [if_pos rfl]) ?_ rfl rfl
    refine fn_setattr_N F₂ N₂ hr lk_fn_search fun d od h₃ tk₃ F₃ N₃ hO ld => ?_
    dsimp only
    refine wpAny_execs_cons (wpAny_Return_some ?_)
    refine nameX_L F₃ (v := .ref pr) (by rw [if_pos rfl]) ?_ rfl rfl
    exact k d h₃ tk₃ od _ F₃ N₃ hO
  rcases ME with e | ⟨c1, P1, c2, ME⟩
  · have ht44 : t₀ ≠ 44 := fun q => by rw [q] at ht₀; exact absurd (Heap.lt_size e) (Nat.not_lt.mpr ht₀)
    refine nest_new (P := 44) (ps := #[]) F₁ (N₀ _ e) (by rintro q hq; rw [List.mem_singleton.mp hq]; exact ht44) T (C₁.keeps hk₁) trivial rfl rfl (fun b hb => by cases hb; rfl) ?_
    intro fs c1 P1 o1 ctv h₂ tk₂ F₂ N₂ O1 lf lc lP
    have l44 : 44 < h₁.objs.size := Heap.lt_size (hk₁ _ _ e)
    have ne1 : fs ≠ 44 := Nat.ne_of_gt (Nat.lt_of_lt_of_le l44 lf)
    have ne2 : c1 ≠ 44 := Nat.ne_of_gt (Nat.lt_of_lt_of_le l44 lc)
    have ne3 : P1 ≠ 44 := Nat.ne_of_gt (Nat.lt_of_lt_of_le l44 lP)
    refine storeX_L F₂ N₂ (fun h₃ F₃ N₃ => ?_) rfl rfl
    dsimp only
    refine wpAny_execs_cons (wpAny_Assign_Name ?_ rfl)
    have N₃' : News g L h₃ ((44, tabObj (#[] ++ #[rawInt 33, rawInt 4, .ref c1])) :: [(t₀, kdv_tup [.int 0 s.toks]), (P1, tabObj #[]), (c1, o1), (fs, kdv_obj "search" searchQual (paramsOf searchStmt) (.stmts (bodyOf searchStmt)) (scopeOf searchStmt) [] (.ref t₀) .none ((mg "__name__").getD .none) c1 ctv)]) :=
      fun q hq => N₃ q (by
        simp only [List.mem_cons, List.not_mem_nil, or_false] at hq ⊢
        rcases hq with h | h | h | h | h
        · exact .inr (.inr (.inr (.inl h)))
        · exact .inr (.inr (.inr (.inr h)))
        · exact .inr (.inr (.inl h))
        · exact .inr (.inl h)
        · exact .inl h)
    refine lam_new (P := 44) F₃ N₃' ?_ T (code48 (X.keeps F₃.keep)) ?_ ?_ rfl rfl ?_
    · intro q hq
      simp only [List.mem_cons, List.not_mem_nil, or_false] at hq
      rcases hq with rfl | rfl | rfl | rfl <;> assumption
    · simp [TriplesOk, rawInt]
    · rfl
    intro pr c2 P2 o2 ctv2 h₄ tk₄ F₄ N₄ O2 lf2 lc2 lP2
    have e44 := (N₄ (44, _) (.tail _ (.tail _ (.tail _ (.head _))))).1
    have efs := (N₄ (fs, _) (.tail _ (.tail _ (.tail _ (.tail _ (.tail _ (.tail _ (.tail _ (.head _)))))))))
    refine tail _ fs pr _ _ _ _ F₄ N₄ (fun q hq => ?_) (by simp) fun d h' tk' od m' F' N' hO => ?_
    · rcases List.mem_cons.mp hq with rfl | hq
      · refine news_ne N₄ (.tail _ (.head _)) (.head _) (fun q => ?_)
        have := O2.cls
        rw [show o2 = _ from q] at this
        simp at this
      rcases List.mem_cons.mp hq with rfl | hq
      · exact news_ne N₄ (.tail _ (.tail _ (.head _))) (.head _) (fun q => by cases q)
      rcases List.mem_cons.mp hq with rfl | hq
      · exact Nat.ne_of_lt (Nat.lt_of_lt_of_le (Heap.lt_size (N₃' (44, _) (.head _)).1) lf2)
      · exact Nat.ne_of_lt (Nat.lt_of_lt_of_le (Heap.lt_size (N₃' q (.tail _ hq)).1) lf2)
    · have hP : n ≤ P1 := by
        have := Nat.le_trans (Nat.le_trans hn F.above) (Nat.le_of_lt hL)
        have h2 : s.heap.objs.size ≤ h₁.objs.size := Nat.le_of_lt (Nat.lt_of_le_of_lt ht₀ (Heap.lt_size ht₀'))
        exact Nat.le_trans this (Nat.le_trans h2 lP)
      have G := fun (q : Addr × Obj) hq => (N' q hq).1
      refine fin fs c1 P1 c2 d pr _ od ctv .none ((mg "__name__").getD .none) h' tk' m' F' ?_ (G (pr, _) (.head _)) (G (d, od) (.tail _ (.head _))) hO (G (fs, kdv_obj "search" searchQual (paramsOf searchStmt) (.stmts (bodyOf searchStmt)) (scopeOf searchStmt) [] (.ref t₀) .none ((mg "__name__").getD .none) c1 ctv) ?_) (G (t₀, kdv_tup [.int 0 s.toks]) ?_)
      · exact ⟨G (44, _) (.tail _ (.tail _ (.tail _ (.tail _ (.head _))))), ⟨o1, G (c1, o1) (by simp), O1⟩, ⟨o2, P2, G (c2, o2) (.tail _ (.tail _ (.head _))), O2⟩, hP, ne3, .inl (G (P1, tabObj #[]) (by simp))⟩
      · simp
      · simp
  · obtain ⟨full, f1, f2, f3⟩ := (ME.keep hk₁).sup
    obtain ⟨rel, NR, _, hrel⟩ := split_news F₁ full f1 f2
    have N₁ : News g L h₁ ((44, tabObj #[rawInt 33, rawInt 4, .ref c1, rawInt 40, rawInt 11, .ref c2]) :: (t₀, kdv_tup [.int 0 s.toks]) :: rel) := fun q hq => by
      rcases List.mem_cons.mp hq with rfl | hq
      · exact N₀ _ ME.tab _ (.head _)
      rcases List.mem_cons.mp hq with rfl | hq
      · exact N₀ _ ME.tab _ (.tail _ (.head _))
      · exact NR q hq
    refine nest_hit (P := 44) F₁ N₁ T (C₁.keeps hk₁) (by simp [TriplesOk, rawInt]) rfl rfl fun fs ctv doc h₂ tk₂ F₂ N₂ lf => ?_
    refine storeX_L F₂ N₂ (fun h₃ F₃ N₃ => ?_) rfl rfl
    dsimp only
    refine wpAny_execs_cons (wpAny_Assign_Name ?_ rfl)
    have N₃' : News g L h₃ ((44, tabObj #[rawInt 33, rawInt 4, .ref c1, rawInt 40, rawInt 11, .ref c2]) :: (t₀, kdv_tup [.int 0 s.toks]) :: (fs, kdv_obj "search" searchQual (paramsOf searchStmt) (.stmts (bodyOf searchStmt)) (scopeOf searchStmt) [] (.ref t₀) doc ((mg "__name__").getD .none) c1 ctv) :: rel) :=
      fun q hq => N₃ q (by
        simp only [List.mem_cons] at hq ⊢
        rcases hq with h | h | h | h
        · exact .inr (.inl h)
        · exact .inr (.inr (.inl h))
        · exact .inl h
        · exact .inr (.inr (.inr h)))
    refine lam_hit (P := 44) F₃ N₃' T (code48 (X.keeps F₃.keep)) (by simp [TriplesOk, rawInt]) rfl rfl rfl fun pr ctv2 h₄ tk₄ F₄ N₄ lf2 => ?_
    refine tail _ fs pr _ _ _ _ F₄ N₄ (fun q hq => Nat.ne_of_lt (Nat.lt_of_lt_of_le (Heap.lt_size (N₃' q hq).1) lf2)) (by simp) fun d h' tk' od m' F' N' hO => ?_
    have G := fun (q : Addr × Obj) hq => (N' q hq).1
    refine fin fs c1 P1 c2 d pr _ od ctv doc ((mg "__name__").getD .none) h' tk' m' F' ?_ (G (pr, _) (.head _)) (G (d, od) (.tail _ (.head _))) hO (G (fs, kdv_obj "search" searchQual (paramsOf searchStmt) (.stmts (bodyOf searchStmt)) (scopeOf searchStmt) [] (.ref t₀) doc ((mg "__name__").getD .none) c1 ctv) (by simp)) (G (t₀, kdv_tup [.int 0 s.toks]) (by simp))
    exact f3 h' ((G (44, _) (.tail _ (.tail _ (.head _)))).trans (hk₁ _ _ ME.tab).symm) (hrel h' F'.keep fun q hq => G q (by simp [hq]))

theorem prog_con {w : World} {n : Nat} {p : Program} {loose : List Str} {mean : ExcName → Option Value} {mg mb : Str → Option Value} {dp un : Nat} {gd : Option (List Code)} {cn : Str} {cs : Scope} {a : Addr} {ccd : Value} {cl : List (Str × Addr)} {outer : List Env} {A₀ : Around} {base h₀ : Heap} {L : Addr} {m : Str → Option Value} {s : Shared} {Q E : Value → Shared → Prop}
    (B : Below A₀ base outer h₀) (F : Fr h₀ L s.heap m) (X : (hd.heap_39 w.params).In h₀) (T : Top p loose mean mg mb h₀) (S : Solid n h₀) (hn : n ≤ h₀.objs.size) (hcs : cs.kind = .function) (hdp : dp < recursionLimit)
    (ME : Memo n s.heap)
    (h : ∀ pr c1 P1 c2 h' tk, Held n s.heap h' → Memo1 n h' c1 P1 c2 → ProgAt h' pr c1 → Q (.ref pr) { s with heap := h', toks := tk }) :
    wpAny (model Challenge.rw_mr0024_01.row.prog w) (ktrTop dp un gd cn cs L a ccd cl outer) (call (.ref 49) []) Q E s := by
  revert X; k_fill; intro X
  refine wpAny_call ?_
  refine' enterK (binds := []) n B F X T S rfl rfl hcs ?ko ?kc hdp ?kb ?kl ?_ ?k5 ?k6 ?k7 ?k8
  (case ko => k_is)
  (case kc => k_is)
  (case kb => exact BindsTo.of_eq rfl)
  (case kl => exact locs rfl)
  (case k5 => decide)
  (case k6 => exact rfl)
  (case k7 => exact rfl)
  (case k8 => exact rfl)
  intro g L' h₁ tk F₁ B₁ X₁ T₁ S₁ hg hk hsub hz
  have hn' : n ≤ g.objs.size := Nat.le_trans hn hz
  exact prog_body F₁ X₁ T₁ S₁ hn' (ME.keep hk) fun pr c1 P1 c2 h' tk m' F' M' P' => ⟨⟨m', F'⟩, fun hH => h pr c1 P1 c2 h' tk hH M' P'⟩
end Mine
end

section
open PySem PySem.W PyProof.Rows PySem.Calls PySem.Spec
set_option maxRecDepth 100000
set_option maxHeartbeats 8000000
namespace Mine

theorem ctoi_con {w : World} {p : Program} {loose : List Str} {mean : ExcName → Option Value} {mg mb : Str → Option Value} {dp un : Nat} {gd : Option (List Code)} {cn : Str} {cs : Scope} {a : Addr} {ccd : Value} {cl : List (Str × Addr)} {outer : List Env} {A₀ : Around} {base h₀ : Heap} {L : Addr} {m : Str → Option Value} {news : List (Addr × Obj)} {s : Shared} {Q E : Value → Shared → Prop} {c : Nat} {t : Tok}
    (B : Below A₀ base outer h₀) (F : Fr h₀ L s.heap m) (X : (hd.heap_39 w.params).In h₀) (N : News h₀ L s.heap news) (T : Top p loose mean mg mb h₀) (hcs : cs.kind = .function) (hdp : dp < recursionLimit) (hun : un + 8 < cLine)
    (hret : ∀ t' h' tk, Fr h₀ L h' m → News h₀ L h' news → Q (.int c t') { s with heap := h', toks := tk }) :
    wpAny (model Challenge.rw_mr0024_01.row.prog w) (ktrTop dp un gd cn cs L a ccd cl outer) (call (.ref 28) [.str ⟨#[c]⟩ t]) Q E s := by
  revert X; k_fill; intro X
  refine wpAny_call ?_
  k_dflt cell_enter
  k_steps
  exact hret _ _ _ (by assumption) (by assumption)

theorem ismeta_con {w : World} {p : Program} {loose : List Str} {mean : ExcName → Option Value} {mg mb : Str → Option Value} {dp un : Nat} {gd : Option (List Code)} {cn : Str} {cs : Scope} {a : Addr} {ccd : Value} {cl : List (Str × Addr)} {outer : List Env} {A₀ : Around} {base h₀ : Heap} {L : Addr} {m : Str → Option Value} {news : List (Addr × Obj)} {s : Shared} {Q E : Value → Shared → Prop} {c : Nat} {t : Tok}
    (B : Below A₀ base outer h₀) (F : Fr h₀ L s.heap m) (X : (hd.heap_39 w.params).In h₀) (N : News h₀ L s.heap news) (T : Top p loose mean mg mb h₀) (hcs : cs.kind = .function) (hdp : dp + 1 < recursionLimit) (hun : un + 16 < cLine)
    (hret : ∀ h' tk, Fr h₀ L h' m → News h₀ L h' news → Q (.bool (decide ((127 : Int) < (c : Int)))) { s with heap := h', toks := tk }) :
    wpAny (model Challenge.rw_mr0024_01.row.prog w) (ktrTop dp un gd cn cs L a ccd cl outer) (call (.ref 35) [.str ⟨#[c]⟩ t]) Q E s := by
  revert X; k_fill; intro X
  refine wpAny_call ?_
  k_dflt cell_enter
  k_steps
  refine ctoi_con (by assumption) (by assumption) (by assumption) (by assumption) (by assumption) rfl (by ktr_room) (by ktr_units) fun t' h' tk F' N' => ?_
  k_steps
  exact hret _ _ (by assumption) (by assumption)

theorem bitOr_128 {c : Nat} (hc : c < 128) : Builtin.bitOr (c : Int) 128 = ((c + 128 : Nat) : Int) := by
  have h : ∀ k : Fin 128, Builtin.bitOr ((k.val : Nat) : Int) 128 = ((k.val + 128 : Nat) : Int) := by decide +kernel
  exact h ⟨c, hc⟩

theorem alt_con {w : World} {p : Program} {loose : List Str} {mean : ExcName → Option Value} {mg mb : Str → Option Value} {dp un : Nat} {gd : Option (List Code)} {cn : Str} {cs : Scope} {a : Addr} {ccd : Value} {cl : List (Str × Addr)} {outer : List Env} {A₀ : Around} {base h₀ : Heap} {L : Addr} {m : Str → Option Value} {news : List (Addr × Obj)} {s : Shared} {Q E : Value → Shared → Prop} {c : Nat} {t : Tok}
    (B : Below A₀ base outer h₀) (F : Fr h₀ L s.heap m) (X : (hd.heap_39 w.params).In h₀) (N : News h₀ L s.heap news) (T : Top p loose mean mg mb h₀) (hcs : cs.kind = .function) (hdp : dp + 1 < recursionLimit) (hun : un + 16 < cLine) (hc : c < 128)
    (hret : ∀ t' h' tk, Fr h₀ L h' m → News h₀ L h' news → Q (.str ⟨#[c + 128]⟩ t') { s with heap := h', toks := tk }) :
    wpAny (model Challenge.rw_mr0024_01.row.prog w) (ktrTop dp un gd cn cs L a ccd cl outer) (call (.ref 42) [.str ⟨#[c]⟩ t]) Q E s := by
  revert X; k_fill; intro X
  refine wpAny_call ?_
  k_dflt cell_enter
  k_steps
  refine ctoi_con (by assumption) (by assumption) (by assumption) (by assumption) (by assumption) rfl (by ktr_room) (by ktr_units) fun t' h' tk F' N' => ?_
  k_steps
  rw [bitOr_128 hc]
  refine chr_of_range (by omega) (by omega) ?_
  k_steps
  exact hret _ _ _ (by assumption) (by assumption)

def numF (pre : List Int) : Int := pre.foldl (fun n c => 2 * n + Int.fmod (n + Int.fdiv c 128) 2) 0
theorem numF_snoc (pre : List Int) (c : Int) : numF (pre ++ [c]) = 2 * numF pre + Int.fmod (numF pre + Int.fdiv c 128) 2 := by simp [numF]

theorem number_con {w : World} {p : Program} {loose : List Str} {mean : ExcName → Option Value} {mg mb : Str → Option Value} {dp un : Nat} {gd : Option (List Code)} {cn : Str} {cs : Scope} {a : Addr} {ccd : Value} {cl : List (Str × Addr)} {outer : List Env} {A₀ : Around} {base h₀ : Heap} {L : Addr} {m : Str → Option Value} {news : List (Addr × Obj)} {s : Shared} {Q E : Value → Shared → Prop} {x : Str} {t : Tok}
    (B : Below A₀ base outer h₀) (F : Fr h₀ L s.heap m) (X : (hd.heap_39 w.params).In h₀) (N : News h₀ L s.heap news) (T : Top p loose mean mg mb h₀) (hcs : cs.kind = .function) (hdp : dp + 1 < recursionLimit) (hun : un + 16 < cLine) (hx : x.cps.size ≤ 6)
    (hret : ∀ t' h' tk, Fr h₀ L h' m → News h₀ L h' news → Q (.int (numF (KStt.codes x)) t') { s with heap := h', toks := tk }) :
    wpAny (model Challenge.rw_mr0024_01.row.prog w) (ktrTop dp un gd cn cs L a ccd cl outer) (call (.ref 61) [.str x t]) Q E s := by
  revert X; k_fill; intro X
  k_with "pyIter str" => k_state (fun pre nb => nb = numF pre) "number"
  k_with "state" => (first | rfl | (simp only [numF_snoc]; subst_vars; rfl))
  refine wpAny_call ?_
  k_dflt cell_enter
  k_steps
  rename _ = numF (KStt.codes x) => e9
  rw [e9]
  exact hret _ _ _ (by assumption) (by assumption)
end Mine
end

section
open PySem PySem.W PyProof.Rows PySem.Calls PySem.Spec
set_option maxRecDepth 100000
set_option maxHeartbeats 2000000
namespace Mine
def dueC (x : Str) (col num k : Int) : Nat := ((((Txt.item x k).cps.getD 0 0 : Nat) : Int).fmod 128 + 128 * (num.fdiv (2 ^ (col - 1 - k).toNat) + num.fdiv (2 ^ (col - k).toNat)).fmod 2).toNat
def dueP (x : Str) (col num : Int) : Nat → Str
  | 0 => Str.ofString ""
  | i + 1 => dueP x col num i ++ ⟨#[dueC x col num i]⟩
theorem due_con {w : World} {p : Program} {loose : List Str} {mean : ExcName → Option Value} {mg mb : Str → Option Value} {dp un : Nat} {gd : Option (List Code)} {cn : Str} {cs : Scope} {a : Addr} {ccd : Value} {cl : List (Str × Addr)} {outer : List Env} {A₀ : Around} {base h₀ : Heap} {L : Addr} {m : Str → Option Value} {news : List (Addr × Obj)} {s : Shared} {Q E : Value → Shared → Prop} {x : Str} {col num : Int} {t t1 t2 : Tok}
    (B : Below A₀ base outer h₀) (F : Fr h₀ L s.heap m) (X : (hd.heap_39 w.params).In h₀) (N : News h₀ L s.heap news) (T : Top p loose mean mg mb h₀) (hcs : cs.kind = .function) (hdp : dp + 1 < recursionLimit) (hun : un + 16 < cLine) (hx : x.length ≤ 6) (hc : 1 ≤ col) (hc' : col ≤ x.length) (hnum : 0 ≤ num) (hnum' : num < 64)
    (hret : ∀ t' h' tk, Fr h₀ L h' m → News h₀ L h' news → Q (.str (dueP x col num col.toNat ++ Txt.slice x (some col) none) t') { s with heap := h', toks := tk }) :
    wpAny (model Challenge.rw_mr0024_01.row.prog w) (ktrTop dp un gd cn cs L a ccd cl outer) (call (.ref 68) [.str x t, .int col t1, .int num t2]) Q E s := by
  revert X; k_fill; intro X
  refine wpAny_call ?_
  refine' code_def (binds := [(Str.ofString "line", .str x t), (Str.ofString "col", .int col t1), (Str.ofString "number", .int num t2)]) B F X N T rfl rfl hcs ?ko ?kc ?kd ?kb ?kl ?_ ?k6 ?k7 ?k8 ?k5
  (case ko => k_is)
  (case kc => k_is)
  (case kd => ktr_room)
  (case kb => exact BindsTo.of_eq rfl)
  (case kl => exact locs rfl)
  (case k5 => decide)
  (case k6 => exact rfl)
  (case k7 => exact rfl)
  (case k8 => exact rfl)
  intro g L' h₁ FG F₁ N₁ B₁ X₁ T₁
  clear B F X N T
  k_fold
  repeat ((fail_if_success (with_reducible show wpAny _ _ (pyIter _) _ _ _)); ((first | (k_unfold; (try dsimp only)) | walk1 | (dsimp only; walk1)); (try dsimp only)))
  rename IsRange _ _ _ _ _ _ _ _ => hR
  rename Fr g L' _ _ => F₂
  rename News g L' _ _ => N₂
  refine kst_range (σ := Str × Tok) (fun _ => news) (fun c => [(Str.ofString "due", .str c.1 c.2)]) (fun _ => True) [Str.ofString "on"] (fun pre c => c.1 = dueP x col num pre.length ∧ c.1.length = pre.length) (Str.ofString "", ?tok) rfl hR ?hs (n := col.toNat) ?hn F₂ N₂ trivial ?hk ⟨rfl, rfl⟩ ?turn ?done
  case hs => exact small_one (by decide) (by decide) (by omega) (by omega)
  case hn => rw [rangeSize_nat, Int.sub_zero]
  case hk => intro p hp; rw [List.mem_singleton.mp hp]; rfl
  case done =>
    intro c u h tk2 _ hP F₃ N₃
    obtain ⟨due, td⟩ := c
    obtain ⟨hD, hP⟩ := hP
    dsimp only at F₃ N₃ hP ⊢
    rw [rangeKs_length] at hD hP
    refine id ?_
    repeat ((first | (k_unfold; (try dsimp only)) | walk1 | (dsimp only; walk1)); (try dsimp only))
    have hD' : due = dueP x col num col.toNat := hD
    rw [hD']
    exact leaveK_ (by assumption) (by assumption) fun kF kN => hret _ _ _ kF kN
  case turn =>
    intro c pre k tk' u h tk2 own hk hlt hoff _ hP F₃ N₃
    obtain ⟨due, td⟩ := c
    obtain ⟨hD, hP⟩ := hP
    have hk0 : 0 ≤ k := by omega
    have hk1 : k < col := by omega
    dsimp only at F₃ N₃ hP ⊢
    refine id ?_
    repeat ((fail_if_success (with_reducible show InvPostN _ _ _ _ _ _ _ _ _)); ((first | (k_unfold; (try dsimp only)) | walk1 | (dsimp only; walk1)); (try dsimp only)))
    rename Fr g L' _ _ => F₄
    rename News g L' _ _ => N₄
    refine kst_end (σ := Str × Tok) (_, _) F₄ N₄ (fun p hp => List.mem_append_left _ hp) (fun p hp => List.mem_append_right _ hp) rfl trivial (fun p hp => by rw [List.mem_singleton.mp hp]; rfl) ?_ ?_
    · intro z h1 h2 h3
      have h4 : z ≠ Str.ofString "due" := h2 _ (.head _)
      have h5 : z ≠ Str.ofString "on" := fun q => by rw [q] at h3; cases h3
      rw [if_neg h4, if_neg h5, if_neg h1]
      show (if z = Str.ofString "due" then _ else _) = _
      rw [if_neg h4]
      show (if [Str.ofString "on"].contains z = true then u z else if z = Str.ofString "due" then _ else _) = (if z = Str.ofString "due" then _ else _)
      rw [if_neg h4, if_neg (by rw [h3]; nofun)]
    · refine ⟨?_, ?_⟩
      · dsimp only
        rw [List.length_append, List.length_singleton]
        show _ = dueP x col num pre.length ++ _
        rw [show due = dueP x col num pre.length from hD]
        have e : k = (pre.length : Int) := by omega
        rw [e]
        rfl
      · dsimp only
        rw [Str.length_append, List.length_append, hP]
        rfl
end Mine
end

section
open PySem PySem.W PyProof.Rows PySem.Calls PySem.Spec
set_option maxRecDepth 100000
set_option maxHeartbeats 2000000
namespace Mine

/-- What a hit of the finder's is: a function object with one attribute, a function of its own that tells the cell's int. -/
def HitAt (h : Heap) (q : Addr) (k : Int) : Prop := ∃ fd d od sp cell oc pm c4 ctv tk, h.get? q = some (fnWith fd d) ∧ h.get? d = some od ∧ OneName od "span" (.ref sp) ∧
  h.get? sp = some (kla_obj "<lambda>" lamQual (lamParams spanLam) (lamBody spanLam) (lamScope spanLam) [(Str.ofString "k", cell)] pm c4 ctv) ∧ CodeAt h c4 lamQual ∧ h.get? cell = some oc ∧ oc.data = .cell (some (.int k tk))
theorem HitAt.held {n : Nat} {h h' : Heap} {q : Addr} {k : Int} (x : HitAt h q k) (H : Held n h h') : HitAt h' q k := by
  obtain ⟨fd, d, od, sp, cell, oc, pm, c4, ctv, tk, a1, a2, a3, a4, a5, a6, a7⟩ := x
  exact ⟨fd, d, od, sp, cell, oc, pm, c4, ctv, tk, H _ _ (firm_of rfl) a1, H _ _ a3.firm a2, a3, H _ _ (firm_of rfl) a4, a5.held H, H _ _ (firm_of (isTab_cell a7)) a6, a7⟩

theorem hit_block {w : World} {n : Nat} {p : Program} {loose : List Str} {mean : ExcName → Option Value} {mg mb : Str → Option Value} {A : Around} {g : Heap} {L fs c1 P1 c2 kc : Addr} {s : Shared} {m : Str → Option Value} {ok : Obj} {k : Int} {tk : Tok} {Q : Flow → Shared → Prop} {E : Value → Shared → Prop}
    (F : Fr g L s.heap m) (T : Top p loose mean mg mb g) (S : Solid n g) (ME : Memo1 n s.heap c1 P1 c2)
    (hkc : s.heap.get? kc = some ok) (hok : ok.data = .cell (some (.int k tk))) (hkL : kc ≠ L) (hkg : g.get? kc = none)
    (h : ∀ q h' tk m', Fr g L h' m' → Memo1 n h' c1 P1 c2 → HitAt h' q k → Q (.ret (.ref q)) { s with heap := h', toks := tk }) :
    wpAny (model Challenge.rw_mr0024_01.row.prog w) A (execs hitBlock (envX searchQual (scopeOf searchStmt) L fs (.ref c1) [(Str.ofString "k", kc)])) Q E s := by
  obtain ⟨tab, ⟨o1, e1, O1⟩, ⟨o2, P2, e2, O2⟩, ab, ne, inner⟩ := ME
  have loose_none : ∀ b ps, (b = 44 ∨ b = P1) → s.heap.get? b = some (tabObj ps) → g.get? b = none := by
    intro b ps hb e
    cases q : g.get? b with
    | none => rfl
    | some o =>
      have e2 := F.keep _ _ q
      rw [e] at e2; cases e2
      have := S _ _ q
      rcases hb with rfl | rfl
      · simp [firm, isTab] at this
      · have l : ¬ b < n := Nat.not_lt.mpr ab
        simp [firm, isTab, l] at this
  have off : ∀ b ps, s.heap.get? b = some (tabObj ps) → b ≠ L := by
    rintro b ps e rfl
    obtain ⟨oL, es, ep, hL, hd, _⟩ := F.ns
    rw [e] at hL; cases hL; cases hd
  conv in (execs _ _) => arg 1; whnf
  conv in (scopeOf _) => whnf
  have tail : ∀ (fd : FuncData) (q sp c4 : Addr) (pm ctv : Value) (m₁ : Str → Option Value) (rest : List (Addr × Obj)) (h₁ : Heap) (tk₁ : Nat), Fr g L h₁ m₁ → m₁ "hit" = some (.ref q) →
      News g L h₁ ((q, { cls := .type "function", data := .func fd }) :: rest) → (∀ p ∈ rest, p.1 ≠ q) → (kc, ok) ∈ rest →
      (sp, kla_obj "<lambda>" lamQual (lamParams spanLam) (lamBody spanLam) (lamScope spanLam) [(Str.ofString "k", kc)] pm c4 ctv) ∈ rest →
      (∀ h', (∀ b o, g.get? b = some o → h'.get? b = some o) → (∀ p ∈ rest, h'.get? p.1 = some p.2) → Memo1 n h' c1 P1 c2 ∧ CodeAt h' c4 lamQual) →
      wpAny (model Challenge.rw_mr0024_01.row.prog w) A (eval (.Name "hit" ⟨37, 16, 37, 19⟩) (envX searchQual (scopeOf searchStmt) L fs (.ref c1) [(Str.ofString "k", kc)]))
        (fun ov s₂ => wpAny (model Challenge.rw_mr0024_01.row.prog w) A (setAttr ov "span" (.ref sp)) (fun _ s₃ => wpAny (model Challenge.rw_mr0024_01.row.prog w) A (execs hitBlock.tail.tail (envX searchQual (scopeOf searchStmt) L fs (.ref c1) [(Str.ofString "k", kc)])) Q E s₃) E s₂) E { s with heap := h₁, toks := tk₁ } := by
    intro fd q sp c4 pm ctv m₁ rest h₁ tk₁ F₁ hm N₁ hr hk hsp hME
    refine nameX_L F₁ hm ?_ rfl rfl
    refine fn_setattr_N F₁ N₁ hr lk_fn_span fun d od h₂ tk₂ F₂ N₂ hO ld => ?_
    conv in (execs _ _) => arg 1; whnf
    refine wpAny_execs_cons (wpAny_Return_some ?_)
    refine nameX_L F₂ hm ?_ rfl rfl
    have G := fun (q : Addr × Obj) hq => (N₂ q hq).1
    obtain ⟨ME, CA⟩ := hME h₂ F₂.keep fun p hp => G p (.tail _ (.tail _ hp))
    exact h q h₂ tk₂ m₁ F₂ ME ⟨fd, d, od, sp, kc, ok, pm, c4, ctv, tk, G (q, _) (.head _), G (d, od) (.tail _ (.head _)), hO, G (sp, _) (.tail _ (.tail _ hsp)), CA, G (kc, ok) (.tail _ (.tail _ hk)), hok⟩
  refine wpAny_execs_cons (wpAny_Assign_Name ?_ rfl)
  rcases inner with e3 | ⟨c3, c4, e3, ⟨o3, P3, e4, O3⟩, o4, P4, e5, O4⟩
  · -- both inner functions are made for the first time
    obtain ⟨rel, NR, hin, hrel⟩ := split_news F [(c1, o1), (c2, o2)] (by simpa using ⟨e1, e2⟩) (by simpa using ⟨O1.flds, O2.flds⟩)
    have relC : ∀ q ∈ rel, q.2.cls = .type "code" := by
      intro q hq
      have := hin q hq
      simp only [List.mem_cons, List.not_mem_nil, or_false] at this
      rcases this with rfl | rfl
      · exact O1.cls
      · exact O2.cls
    have N : News g L s.heap ((P1, tabObj #[]) :: (44, tabObj #[rawInt 33, rawInt 4, .ref c1, rawInt 40, rawInt 11, .ref c2]) :: (kc, ok) :: rel) := by
      intro q hq
      rcases List.mem_cons.mp hq with rfl | hq
      · exact ⟨e3, off _ _ e3, loose_none _ _ (.inr rfl) e3⟩
      rcases List.mem_cons.mp hq with rfl | hq
      · exact ⟨tab, off _ _ tab, loose_none _ _ (.inl rfl) tab⟩
      rcases List.mem_cons.mp hq with rfl | hq
      · exact ⟨hkc, hkL, hkg⟩
      · exact NR q hq
    have offP : ∀ {h' : Heap} {l : List (Addr × Obj)} {ps : Array Value}, News g L h' l → (P1, tabObj ps) ∈ l → ∀ q ∈ l, (q.2.cls ≠ .none ∨ q.1 = 44 ∨ ∃ v, q.2.data = .cell v) → q.1 ≠ P1 := by
      intro h' l ps N' hP q hq hc
      rcases hc with hc | hc | ⟨v, hc⟩
      · exact news_ne N' hq hP fun e => hc (by rw [e])
      · rw [hc]; exact ne.symm
      · exact news_ne N' hq hP fun e => by rw [e] at hc; cases hc
    refine lam_new (P := P1) (ps := #[]) F N (fun q hq => offP N (.head _) q (.tail _ hq) ?_) T (O1.hd e1) trivial rfl rfl rfl ?_
    · rcases List.mem_cons.mp hq with rfl | hq
      · exact .inr (.inl rfl)
      rcases List.mem_cons.mp hq with rfl | hq
      · exact .inr (.inr ⟨_, hok⟩)
      · exact .inl (by rw [relC q hq]; nofun)
    intro q1 c3 P3 o3 ctv h₁ tk₁ F₁ N₁ O3 l1 l2 l3
    refine storeX_L F₁ N₁ (fun h₂ F₂ N₂ => ?_) rfl rfl
    dsimp only
    refine wpAny_execs_cons (plainObj_wpAny_Assign_Attribute ?_ rfl)
    have G₂ := fun (q : Addr × Obj) hq => (N₂ q hq).1
    have N₂' : News g L h₂ ((P1, tabObj (#[] ++ #[rawInt 36, rawInt 22, .ref c3])) :: (q1, kla_obj "<lambda>" lamQual (lamParams hitLam) (lamBody hitLam) (lamScope hitLam) [] ((mg "__name__").getD .none) c3 ctv) :: (c3, o3) ::
        (44, tabObj #[rawInt 33, rawInt 4, .ref c1, rawInt 40, rawInt 11, .ref c2]) :: (kc, ok) :: rel) := fun q hq => N₂ q (by
      simp only [List.mem_cons] at hq ⊢
      rcases hq with h | h | h | h | h | h
      · exact .inr (.inr (.inr (.inl h)))
      · exact .inl h
      · exact .inr (.inl h)
      · exact .inr (.inr (.inr (.inr (.inl h))))
      · exact .inr (.inr (.inr (.inr (.inr (.inl h)))))
      · exact .inr (.inr (.inr (.inr (.inr (.inr h))))))
    have e1' := hrel h₂ F₂.keep (fun q hq => G₂ q (by simp [hq])) (c1, o1) (.head _)
    refine lam_new (P := P1) F₂ N₂' (fun q hq => offP N₂' (.head _) q (.tail _ hq) ?_) T (O1.hd e1') (by simp [TriplesOk, rawInt]) rfl rfl rfl ?_
    · rcases List.mem_cons.mp hq with rfl | hq
      · exact .inl nofun
      rcases List.mem_cons.mp hq with rfl | hq
      · exact .inl (by rw [O3.cls]; nofun)
      rcases List.mem_cons.mp hq with rfl | hq
      · exact .inr (.inl rfl)
      rcases List.mem_cons.mp hq with rfl | hq
      · exact .inr (.inr ⟨_, hok⟩)
      · exact .inl (by rw [relC q hq]; nofun)
    intro sp c4 P4 o4 ctv4 h₃ tk₃ F₃ N₃ O4 l4 l5 l6
    have lq : q1 < h₂.objs.size := Heap.lt_size (G₂ (q1, _) (.head _))
    have N₃' : News g L h₃ ((q1, kla_obj "<lambda>" lamQual (lamParams hitLam) (lamBody hitLam) (lamScope hitLam) [] ((mg "__name__").getD .none) c3 ctv) ::
        (sp, kla_obj "<lambda>" lamQual (lamParams spanLam) (lamBody spanLam) (lamScope spanLam) [(Str.ofString "k", kc)] ((mg "__name__").getD .none) c4 ctv4) :: (c4, o4) ::
        (P1, tabObj (#[] ++ #[rawInt 36, rawInt 22, .ref c3] ++ #[rawInt 37, rawInt 27, .ref c4])) :: (c3, o3) ::
        (44, tabObj #[rawInt 33, rawInt 4, .ref c1, rawInt 40, rawInt 11, .ref c2]) :: (kc, ok) :: rel) := fun q hq => N₃ q (by
      simp only [List.mem_cons] at hq ⊢
      rcases hq with h | h | h | h | h | h | h | h
      · exact .inr (.inr (.inr (.inr (.inl h))))
      · exact .inl h
      · exact .inr (.inl h)
      · exact .inr (.inr (.inr (.inl h)))
      · exact .inr (.inr (.inr (.inr (.inr (.inl h)))))
      · exact .inr (.inr (.inr (.inr (.inr (.inr (.inl h))))))
      · exact .inr (.inr (.inr (.inr (.inr (.inr (.inr (.inl h)))))))
      · exact .inr (.inr (.inr (.inr (.inr (.inr (.inr (.inr h))))))))
    refine tail _ q1 sp c4 _ ctv4 _ _ h₃ tk₃ F₃ (by simp) N₃' (fun q hq => ?_) (.tail _ (.tail _ (.tail _ (.tail _ (.tail _ (.head _)))))) (.head _) fun h' k1 k2 => ?_
    · rcases List.mem_cons.mp hq with rfl | hq
      · exact Nat.ne_of_gt (Nat.lt_of_lt_of_le lq l4)
      · refine news_ne N₃' (.tail _ (.tail _ hq)) (.head _) fun e => ?_
        have hd : q.2.data = Data.func (kla_fn "<lambda>" lamQual (lamParams hitLam) (lamBody hitLam) (lamScope hitLam) [] ((mg "__name__").getD .none) (.ref c3) ctv) := by rw [e]
        rcases List.mem_cons.mp hq with rfl | hq
        · obtain ⟨vs, hv⟩ := O4.flds; rw [hv] at hd; cases hd
        rcases List.mem_cons.mp hq with rfl | hq
        · cases hd
        rcases List.mem_cons.mp hq with rfl | hq
        · obtain ⟨vs, hv⟩ := O3.flds; rw [hv] at hd; cases hd
        rcases List.mem_cons.mp hq with rfl | hq
        · cases hd
        rcases List.mem_cons.mp hq with rfl | hq
        · rw [hok] at hd; cases hd
        · have := relC q hq
          rw [e] at this; simp at this
    · have hr := hrel h' k1 fun q hq => k2 q (by simp [hq])
      have a4 : CodeAt h' c4 lamQual := ⟨o4, P4, k2 (c4, o4) (by simp), O4⟩
      exact ⟨⟨k2 (44, _) (by simp), ⟨o1, hr (c1, o1) (.head _), O1⟩, ⟨o2, P2, hr (c2, o2) (.tail _ (.head _)), O2⟩, ab, ne, .inr ⟨c3, c4, k2 (P1, _) (.tail _ (.tail _ (.head _))), ⟨o3, P3, k2 (c3, o3) (by simp), O3⟩, a4⟩⟩, a4⟩
  · obtain ⟨rel, NR, hin, hrel⟩ := split_news F [(c1, o1), (c2, o2), (c3, o3), (c4, o4)] (by simpa using ⟨e1, e2, e4, e5⟩) (by simpa using ⟨O1.flds, O2.flds, O3.flds, O4.flds⟩)
    have relC : ∀ q ∈ rel, q.2.cls = .type "code" := by
      intro q hq
      have := hin q hq
      simp only [List.mem_cons, List.not_mem_nil, or_false] at this
      rcases this with rfl | rfl | rfl | rfl
      · exact O1.cls
      · exact O2.cls
      · exact O3.cls
      · exact O4.cls
    have N : News g L s.heap ((P1, tabObj #[rawInt 36, rawInt 22, .ref c3, rawInt 37, rawInt 27, .ref c4]) :: (44, tabObj #[rawInt 33, rawInt 4, .ref c1, rawInt 40, rawInt 11, .ref c2]) :: (kc, ok) :: rel) := by
      intro q hq
      rcases List.mem_cons.mp hq with rfl | hq
      · exact ⟨e3, off _ _ e3, loose_none _ _ (.inr rfl) e3⟩
      rcases List.mem_cons.mp hq with rfl | hq
      · exact ⟨tab, off _ _ tab, loose_none _ _ (.inl rfl) tab⟩
      rcases List.mem_cons.mp hq with rfl | hq
      · exact ⟨hkc, hkL, hkg⟩
      · exact NR q hq
    refine lam_hit (P := P1) F N T (O1.hd e1) (by simp [TriplesOk, rawInt]) rfl rfl rfl fun q1 ctv h₁ tk₁ F₁ N₁ l1 => ?_
    refine storeX_L F₁ N₁ (fun h₂ F₂ N₂ => ?_) rfl rfl
    dsimp only
    refine wpAny_execs_cons (plainObj_wpAny_Assign_Attribute ?_ rfl)
    have G₂ := fun (q : Addr × Obj) hq => (N₂ q hq).1
    have N₂' : News g L h₂ ((P1, tabObj #[rawInt 36, rawInt 22, .ref c3, rawInt 37, rawInt 27, .ref c4]) :: (q1, kla_obj "<lambda>" lamQual (lamParams hitLam) (lamBody hitLam) (lamScope hitLam) [] ((mg "__name__").getD .none) c3 ctv) ::
        (44, tabObj #[rawInt 33, rawInt 4, .ref c1, rawInt 40, rawInt 11, .ref c2]) :: (kc, ok) :: rel) := fun q hq => N₂ q (by
      simp only [List.mem_cons] at hq ⊢
      rcases hq with h | h | h | h | h
      · exact .inr (.inl h)
      · exact .inl h
      · exact .inr (.inr (.inl h))
      · exact .inr (.inr (.inr (.inl h)))
      · exact .inr (.inr (.inr (.inr h))))
    have e1' := hrel h₂ F₂.keep (fun q hq => G₂ q (by simp [hq])) (c1, o1) (.head _)
    refine lam_hit (P := P1) F₂ N₂' T (O1.hd e1') (by simp [TriplesOk, rawInt]) rfl rfl rfl fun sp ctv4 h₃ tk₃ F₃ N₃ l4 => ?_
    have lq : q1 < h₂.objs.size := Heap.lt_size (G₂ (q1, _) (.head _))
    have N₃' : News g L h₃ ((q1, kla_obj "<lambda>" lamQual (lamParams hitLam) (lamBody hitLam) (lamScope hitLam) [] ((mg "__name__").getD .none) c3 ctv) ::
        (sp, kla_obj "<lambda>" lamQual (lamParams spanLam) (lamBody spanLam) (lamScope spanLam) [(Str.ofString "k", kc)] ((mg "__name__").getD .none) c4 ctv4) ::
        (P1, tabObj #[rawInt 36, rawInt 22, .ref c3, rawInt 37, rawInt 27, .ref c4]) ::
        (44, tabObj #[rawInt 33, rawInt 4, .ref c1, rawInt 40, rawInt 11, .ref c2]) :: (kc, ok) :: rel) := fun q hq => N₃ q (by
      simp only [List.mem_cons] at hq ⊢
      rcases hq with h | h | h | h | h | h
      · exact .inr (.inr (.inl h))
      · exact .inl h
      · exact .inr (.inl h)
      · exact .inr (.inr (.inr (.inl h)))
      · exact .inr (.inr (.inr (.inr (.inl h))))
      · exact .inr (.inr (.inr (.inr (.inr h)))))
    refine tail _ q1 sp c4 _ ctv4 _ _ h₃ tk₃ F₃ (by simp) N₃' (fun q hq => ?_) (.tail _ (.tail _ (.tail _ (.head _)))) (.head _) fun h' k1 k2 => ?_
    · rcases List.mem_cons.mp hq with rfl | hq
      · exact Nat.ne_of_gt (Nat.lt_of_lt_of_le lq l4)
      · refine news_ne N₃' (.tail _ (.tail _ hq)) (.head _) fun e => ?_
        have hd : q.2.data = Data.func (kla_fn "<lambda>" lamQual (lamParams hitLam) (lamBody hitLam) (lamScope hitLam) [] ((mg "__name__").getD .none) (.ref c3) ctv) := by rw [e]
        rcases List.mem_cons.mp hq with rfl | hq
        · cases hd
        rcases List.mem_cons.mp hq with rfl | hq
        · cases hd
        rcases List.mem_cons.mp hq with rfl | hq
        · rw [hok] at hd; cases hd
        · have := relC q hq
          rw [e] at this; simp at this
    · have hr := hrel h' k1 fun q hq => k2 q (by simp [hq])
      have a3 : CodeAt h' c3 lamQual := ⟨o3, P3, hr (c3, o3) (by simp), O3⟩
      have a4 : CodeAt h' c4 lamQual := ⟨o4, P4, hr (c4, o4) (by simp), O4⟩
      exact ⟨⟨k2 (44, _) (by simp), ⟨o1, hr (c1, o1) (.head _), O1⟩, ⟨o2, P2, hr (c2, o2) (.tail _ (.head _)), O2⟩, ab, ne, .inr ⟨c3, c4, k2 (P1, _) (.tail _ (.head _)), a3, a4⟩⟩, a4⟩
end Mine
end

section
open PySem PySem.W PyProof.Rows PySem.Calls PySem.Spec
set_option maxRecDepth 100000
set_option maxHeartbeats 2000000
namespace Mine

theorem memo_led {n : Nat} {g h : Heap} {L c1 P1 c2 : Addr} {m : Str → Option Value} (F : Fr g L h m) (ME : Memo1 n h c1 P1 c2) :
    ∃ rel, News g L h rel ∧ (∀ q ∈ rel, ∃ vs, q.2.data = .fields vs) ∧ ∀ h' : Heap, (∀ b o, g.get? b = some o → h'.get? b = some o) → (∀ p ∈ rel, h'.get? p.1 = some p.2) → Memo1 n h' c1 P1 c2 := by
  obtain ⟨full, f1, f2, f3⟩ := ME.sup
  have f2' : ∀ q ∈ (44, tabObj #[rawInt 33, rawInt 4, .ref c1, rawInt 40, rawInt 11, .ref c2]) :: full, ∃ vs, q.2.data = .fields vs := by
    intro q hq
    rcases List.mem_cons.mp hq with rfl | hq
    · exact ⟨_, rfl⟩
    · exact f2 q hq
  obtain ⟨rel, NR, hin, hrel⟩ := split_news F ((44, tabObj #[rawInt 33, rawInt 4, .ref c1, rawInt 40, rawInt 11, .ref c2]) :: full) (by
    intro q hq
    rcases List.mem_cons.mp hq with rfl | hq
    · exact ME.tab
    · exact f1 q hq) f2'
  refine ⟨rel, NR, fun q hq => f2' q (hin q hq), fun h' k1 k2 => ?_⟩
  have r := hrel h' k1 k2
  exact f3 h' ((r _ (.head _)).trans ME.tab.symm) fun p hp => r p (.tail _ hp)

theorem item_at {x : Str} {k : Int} (h0 : 0 ≤ k) (h1 : k < x.length) : Txt.item x k = ⟨#[x.cps.getD k.toNat 0]⟩ := by
  refine item_meets h0 ?_
  have h2 : k.toNat < x.cps.size := by
    have : (x.length : Int) = (x.cps.size : Int) := rfl
    omega
  simp [Array.getD, h2]

theorem search_body {w : World} {n : Nat} {p : Program} {loose : List Str} {mean : ExcName → Option Value} {mg mb : Str → Option Value} {dp un : Nat} {gd : Option (List Code)} {cn : Str} {cs : Scope} {a : Addr} {ccd : Value} {cl : List (Str × Addr)} {outer : List Env} {base g : Heap} {L₀ L fs c1 P1 c2 kc : Addr} {s : Shared} {ok : Obj} {v0 : Option Value} {x : Str} {t tj : Tok} {j : Int} {Q : Flow → Shared → Prop} {E : Value → Shared → Prop}
    (B : Below (ktrTop dp un gd cn cs L₀ a ccd cl outer) base (envX cn cs L₀ a ccd cl :: outer) g) (F : Fr g L s.heap (fun y => if y = Str.ofString "start" then some (.int j tj) else if y = Str.ofString "chars" then some (.str x t) else none)) (X : (hd.heap_39 w.params).In g) (T : Top p loose mean mg mb g) (S : Solid n g) (ME : Memo1 n s.heap c1 P1 c2)
    (hdp : dp + 2 < recursionLimit) (hun : un + 24 < cLine) (hx : x.length ≤ 6) (hj : 0 ≤ j) (hj' : j ≤ 7)
    (hkc : s.heap.get? kc = some ok) (hok : ok.data = .cell v0) (hkL : kc ≠ L) (hkg : g.get? kc = none)
    (hnone : (∀ i : Nat, j ≤ i → i < x.length → x.cps.getD i 0 ≤ 127) → ∀ h' tk m', Fr g L h' m' → Memo1 n h' c1 P1 c2 → Q (.ret .none) { s with heap := h', toks := tk })
    (hsome : ∀ k : Nat, j ≤ k → k < x.length → 127 < x.cps.getD k 0 → (∀ i : Nat, j ≤ i → i < k → x.cps.getD i 0 ≤ 127) → ∀ q h' tk m', Fr g L h' m' → Memo1 n h' c1 P1 c2 → HitAt h' q k → Q (.ret (.ref q)) { s with heap := h', toks := tk }) :
    wpAny (model Challenge.rw_mr0024_01.row.prog w) ((ktrTop dp un gd cn cs L₀ a ccd cl outer).deeper (envX searchQual (scopeOf searchStmt) L fs (.ref c1) [(Str.ofString "k", kc)]))
      (execs (bodyOf searchStmt) (envX searchQual (scopeOf searchStmt) L fs (.ref c1) [(Str.ofString "k", kc)])) Q E s := by
  revert X; k_fill; intro X
  obtain ⟨rel, NR, hfl, hrel⟩ := memo_led F ME
  have N : News g L s.heap ((kc, ok) :: rel) := by
    intro q hq
    rcases List.mem_cons.mp hq with rfl | hq
    · exact ⟨hkc, hkL, hkg⟩
    · exact NR q hq
  clear NR
  conv in (execs _ _) => arg 1; whnf
  conv in (occs := *) (scopeOf _) => all_goals whnf
  refine wpAny_execs_cons (wpAny_For ?_ (fun _ => rfl))
  repeat ((fail_if_success (with_reducible show wpAny _ _ (pyIter _) _ _ _)); ((first | (k_unfold; (try dsimp only)) | walk1 | (dsimp only; walk1)); (try dsimp only)))
  rename IsRange _ _ _ _ _ _ _ _ => hR
  rename Fr g L _ _ => F₂
  rename News g L _ _ => N₂
  refine wpAny_pyIter_range hR (small_one (by omega) (by omega) (by omega) (by omega)) ?_
  rename Heap => hh
  generalize hit : hh.objs.size = it
  obtain ⟨nn, hnn⟩ : ∃ nn : Nat, Builtin.Range.rangeSize j (x.length : Int) 1 = (nn : Int) := ⟨_, rangeSize_nat _ _⟩
  have hnn' : (nn : Int) = (((x.length : Int) - j).toNat : Int) := by rw [← hnn, rangeSize_nat]
  dsimp only
  have itL : L < it := hit ▸ F₂.ns.lt
  have itg : g.get? it = none := Heap.get?_none_of_le (Nat.le_trans F₂.above (Nat.le_of_lt itL))
  have itN : ∀ q ∈ (kc, ok) :: rel, q.1 ≠ it := fun q hq => Nat.ne_of_lt (hit ▸ Heap.lt_size (N₂ q hq).1)
  have itk : kc ≠ it := itN (kc, ok) (.head _)
  have W := Walks.range (prog := Challenge.rw_mr0024_01.row.prog) (w := w) (A := (ktrTop dp un gd cn cs L₀ a ccd cl outer).deeper (envX searchQual (scopeOf searchStmt) L fs (.ref c1) [(Str.ofString "k", kc)])) rfl it j 1 nn
  refine codeAny_forLoop (fun k s' => ∃ h' tk ok' i, s' = { s with heap := h', toks := tk } ∧ IsRangeIter h' it (j + (i : Nat) * 1) ((nn : Int) - (i : Nat)) 1 ∧
      Fr g L h' (fun y => if y = Str.ofString "start" then some (.int j tj) else if y = Str.ofString "chars" then some (.str x t) else none) ∧ News g L h' ((kc, ok') :: rel) ∧ (∃ v, ok'.data = .cell v) ∧
      (∀ i' : Nat, j ≤ i' → (i' : Int) < j + (i : Nat) → x.cps.getD i' 0 ≤ 127) ∧ i ≤ nn ∧ k = nn + 1 - i) ?turn (nn + 1)
    ⟨_, _, ok, 0, rfl, ?i0, F₂.push _, fun q hq => ⟨Heap.get?_push_of_some _ (N₂ q hq).1, (N₂ q hq).2⟩, ⟨_, hok⟩, fun i' a b => absurd b (by omega), Nat.zero_le _, rfl⟩
  case i0 =>
    show Heap.get? _ it = _
    rw [← hit, Heap.get?_push_size _ rfl, hnn]
    simp
  case turn =>
    rintro k s' ⟨h', tk, ok', i, rfl, hst, F₃, N₃, ⟨v, hok'⟩, hpre, hi, rfl⟩
    have next : ∀ h₁ : Heap, (∀ b o, b ∉ [it] → h'.get? b = some o → h₁.get? b = some o) → Fr g L h₁ (fun y => if y = Str.ofString "start" then some (.int j tj) else if y = Str.ofString "chars" then some (.str x t) else none) ∧ News g L h₁ ((kc, ok') :: rel) := fun h₁ hk₁ => by
      refine ⟨⟨F₃.ns.at' fun o e => hk₁ _ o (fun q => Nat.ne_of_lt itL (List.mem_singleton.mp q)) e, fun b o e => hk₁ b o (fun q => ?_) (F₃.keep b o e), F₃.above⟩, fun q hq => ⟨hk₁ _ _ (fun q2 => ?_) (N₃ q hq).1, (N₃ q hq).2⟩⟩
      · rw [List.mem_singleton.mp q, itg] at e; cases e
      · have q3 := List.mem_singleton.mp q2
        rcases List.mem_cons.mp hq with rfl | hq
        · exact itk q3
        · exact itN q (.tail _ hq) q3
    by_cases hlt : i < nn
    · refine W.item i _ _ _ hlt hst fun v₁ h₁ tk₁ hP hst₁ hk₁ => ?_
      obtain ⟨tv, rfl⟩ := hP
      obtain ⟨F₄, N₄⟩ := next h₁ hk₁
      have N₄' : News g L h₁ ((kc, ok') :: (it, { cls := .type "range_iterator", dict := none, data := .fields #[rawInt (j + ((i + 1 : Nat) : Int) * 1), rawInt ((nn : Int) - ((i + 1 : Nat) : Int)), rawInt 1], slots := #[] }) :: rel) := by
        intro q hq
        rcases List.mem_cons.mp hq with rfl | hq
        · exact N₄ _ (.head _)
        rcases List.mem_cons.mp hq with rfl | hq
        · exact ⟨hst₁, Nat.ne_of_gt itL, itg⟩
        · exact N₄ q (.tail _ hq)
      have hcell : ∀ q ∈ (it, { cls := .type "range_iterator", dict := none, data := .fields #[rawInt (j + ((i + 1 : Nat) : Int) * 1), rawInt ((nn : Int) - ((i + 1 : Nat) : Int)), rawInt 1], slots := #[] }) :: rel, q.1 ≠ kc := fun q hq => news_ne N₄' (.tail _ hq) (.head _) fun e => by
        rcases List.mem_cons.mp hq with rfl | hq
        · dsimp only at e; rw [← e] at hok'; cases hok'
        · obtain ⟨vs, hv⟩ := hfl q hq
          rw [e, hok'] at hv; cases hv
      dsimp only
      refine wpAny_assign_Name (storeX_C F₄ N₄' rfl (UpdF.head hcell) hok' (fun h₂ o' F₅ N₅ hd' => ?_) rfl rfl)
      have hk0 : 0 ≤ j + (i : Int) * 1 := by omega
      have hk1 : j + (i : Int) * 1 < x.length := by omega
      clear N₄' F₄ N₄ next F₃ N₃ F₂ N₂
      repeat ((fail_if_success (with_reducible show wpAny _ _ (call (Value.ref 35) _) _ _ _)); ((first | (k_unfold; (try dsimp only)) | walk1 | (dsimp only; walk1)); (try dsimp only)))
      rw [item_at hk0 hk1]
      refine ismeta_con B F₅ X N₅ T rfl (by ktr_room) (by ktr_units) fun h₃ tk₃ F₆ N₆ => ?_
      have hidx : ((j + (i : Int) * 1).toNat : Int) = j + (i : Int) := by omega
      refine wpAny_truthy_bool ?_
      by_cases hb : (127 : Int) < ((x.cps.getD (j + (i : Int) * 1).toNat 0 : Nat) : Int)
      · rw [if_pos (decide_eq_true hb)]
        refine hit_block (k := j + (i : Int) * 1) F₆ T S (hrel _ F₆.keep fun q hq => (N₆ q (.tail _ (.tail _ hq))).1) (N₆ (kc, o') (.head _)).1 hd' hkL hkg fun q h₄ tk₄ m₄ F₇ M₇ H₇ => ?_
        dsimp only
        refine hsome (j + (i : Int) * 1).toNat (by omega) (by omega) (by omega) (fun i' a b => hpre i' a (by omega)) q _ _ _ F₇ M₇ ?_
        have e : ((j + (i : Int) * 1).toNat : Int) = j + (i : Int) * 1 := by omega
        rw [e]
        exact H₇
      · rw [if_neg (by simpa using hb)]
        refine wpAny_execs_nil ?_
        dsimp only
        refine wpAny_execs_nil ?_
        refine ⟨nn + 1 - (i + 1), by omega, _, _, o', i + 1, rfl, (N₆ (it, _) (.tail _ (.head _))).1, F₆, fun q hq => N₆ q ?_, ⟨_, hd'⟩, fun i' a b => ?_, hlt, rfl⟩
        · rcases List.mem_cons.mp hq with rfl | hq
          · exact .head _
          · exact .tail _ (.tail _ hq)
        · by_cases hi' : (i' : Int) < j + (i : Nat)
          · exact hpre i' a hi'
          · have e : i' = (j + (i : Int) * 1).toNat := by omega
            rw [e]
            omega
    · have hin : i = nn := by omega
      subst hin
      refine W.done _ _ _ hst fun h₁ tk₁ hk₁ => wpAny_execs_nil ?_
      obtain ⟨F₄, N₄⟩ := next h₁ hk₁
      refine wpAny_execs_cons (wpAny_Return_some ?_)
      repeat ((first | (k_unfold; (try dsimp only)) | walk1 | (dsimp only; walk1)); (try dsimp only))
      exact hnone (fun i' a b => hpre i' a (by omega)) _ _ _ F₄ (hrel _ F₄.keep fun q hq => (N₄ q (.tail _ hq)).1)

theorem search_con {w : World} {n : Nat} {p : Program} {loose : List Str} {mean : ExcName → Option Value} {mg mb : Str → Option Value} {dp un : Nat} {gd : Option (List Code)} {cn : Str} {cs : Scope} {a : Addr} {ccd : Value} {cl : List (Str × Addr)} {outer : List Env} {A₀ : Around} {base h₀ : Heap} {L : Addr} {m : Str → Option Value} {s : Shared} {Q E : Value → Shared → Prop} {fs c1 P1 c2 : Addr} {x : Str} {t tj : Tok} {j : Int} {args : List Value} {T₀ : Addr} {doc pm ctv : Value}
    (B : Below A₀ base outer h₀) (F : Fr h₀ L s.heap m) (X : (hd.heap_39 w.params).In h₀) (T : Top p loose mean mg mb h₀) (S : Solid n h₀) (hcs : cs.kind = .function) (hdp : dp + 2 < recursionLimit) (hun : un + 24 < cLine)
    (ME : Memo1 n s.heap c1 P1 c2) (hfs : s.heap.get? fs = some (kdv_obj "search" searchQual (paramsOf searchStmt) (.stmts (bodyOf searchStmt)) (scopeOf searchStmt) [] (.ref T₀) doc pm c1 ctv))
    (hx : x.length ≤ 6) (hj : 0 ≤ j) (hj' : j ≤ 7)
    (hb : BindsTo s (kdv_fn "search" searchQual (paramsOf searchStmt) (.stmts (bodyOf searchStmt)) (scopeOf searchStmt) [] (.ref T₀) doc pm (.ref c1) ctv) ⟨args, []⟩ [(Str.ofString "chars", .str x t), (Str.ofString "start", .int j tj)])
    (hnone : (∀ i : Nat, j ≤ i → i < x.length → x.cps.getD i 0 ≤ 127) → ∀ h' tk, Held n s.heap h' → Memo1 n h' c1 P1 c2 → Q .none { s with heap := h', toks := tk })
    (hsome : ∀ k : Nat, j ≤ k → k < x.length → 127 < x.cps.getD k 0 → (∀ i : Nat, j ≤ i → i < k → x.cps.getD i 0 ≤ 127) → ∀ q h' tk, Held n s.heap h' → Memo1 n h' c1 P1 c2 → HitAt h' q k → Q (.ref q) { s with heap := h', toks := tk }) :
    wpAny (model Challenge.rw_mr0024_01.row.prog w) (ktrTop dp un gd cn cs L a ccd cl outer) (call (.ref fs) args) Q E s := by
  obtain ⟨o1, e1, O1⟩ := ME.code
  refine wpAny_call ?_
  refine enterC n B F S T.nolimit rfl rfl hcs hfs rfl (O1.rec' e1) (by ktr_room) hb (kindsX rfl) (by decide) ?_ rfl rfl rfl
  intro g L' h₁ tk cells F₁ N₁ Y B₁ st S₁ hg hk hsub hz hlt
  obtain ⟨o', hE, d1⟩ := CellsAre.one Y
  subst hE
  have hc := N₁ _ (.head _)
  refine search_body (kc := L' + 1) B₁ F₁ (X.keeps st) (T.keeps st) S₁ (ME.keep hk) hdp hun hx hj hj' hc.1 d1 hc.2.1 hc.2.2 ?_ ?_
  · intro hall h' tk' m' F' M'
    exact ⟨⟨m', F'⟩, fun H => hnone hall h' tk' H M'⟩
  · intro k a1 a2 a3 a4 q h' tk' m' F' M' H'
    exact ⟨⟨m', F'⟩, fun H => hsome k a1 a2 a3 a4 q h' tk' H M' H'⟩
end Mine
end

section
open PySem PySem.W PyProof.Rows PySem.Calls PySem.Spec
set_option maxRecDepth 100000
set_option maxHeartbeats 2000000
namespace Mine

theorem span_eval {w : World} {A : Around} {s : Shared} {L sp c4 cell : Addr} {oc : Obj} {k : Int} {tk : Tok} {Q E : Value → Shared → Prop}
    (hc : s.heap.get? cell = some oc) (hoc : oc.data = .cell (some (.int k tk)))
    (h : ∀ t' tk', Q (.ref s.heap.objs.size) { s with heap := s.heap.push { cls := .type "tuple", data := .seq #[.int k tk, .int (k + 1) t'] }, toks := tk' }) :
    wpAny (model Challenge.rw_mr0024_01.row.prog w) A (eval (lamBody spanLam) (envX lamQual (lamScope spanLam) L sp (.ref c4) [(Str.ofString "k", cell)])) Q E s := by
  conv in (eval _ _) => arg 1; whnf
  conv in (lamScope _) => whnf
  refine Tuple_ ?_
  walk1
  refine wpAny_Name (wpAny_loadName_free rfl rfl rfl ⟨_, hc, hoc⟩ ?_ (by decide)) (by decide)
  walk1
  walk1
  refine wpAny_Name (wpAny_loadName_free rfl rfl rfl ⟨_, hc, hoc⟩ ?_ (by decide)) (by decide)
  walk1
  walk1
  walk1
  exact wpAny_newObj_type (h _ _) (by size_fits)

theorem span_con {w : World} {A : Around} {s : Shared} {sp c4 cell : Addr} {oc : Obj} {pm ctv : Value} {k : Int} {tk : Tok} {Q E : Value → Shared → Prop}
    (hroom : A.depth < recursionLimit) (hlim : s.heap.NoLimit)
    (ho : s.heap.get? sp = some (kla_obj "<lambda>" lamQual (lamParams spanLam) (lamBody spanLam) (lamScope spanLam) [(Str.ofString "k", cell)] pm c4 ctv)) (hcd : s.heap.CodeRec (.ref c4) lamQual)
    (hc : s.heap.get? cell = some oc) (hoc : oc.data = .cell (some (.int k tk)))
    (h : ∀ tup t' h' tk', (∀ b o, s.heap.get? b = some o → h'.get? b = some o) → s.heap.objs.size ≤ tup → h'.get? tup = some { cls := .type "tuple", data := .seq #[.int k tk, .int (k + 1) t'] } → Q (.ref tup) { s with heap := h', toks := tk' }) :
    wpAny (model Challenge.rw_mr0024_01.row.prog w) A (call (.ref sp) []) Q E s := by
  refine wpAny_call (kla_callFunE hroom ho rfl rfl rfl rfl hcd ?_)
  refine wpAny_of_eq (show bindArgs _ _ = pure [] from rfl) ?_
  refine wpAny_newFunctionEnv (show ∀ x ∈ (lamScope spanLam).names, x.2 ≠ .cell by decide) (fun x hx => nomatch hx) (fun h₁ hns hsb => ⟨hlim.fresh _ hsb, ?_⟩) rfl
  have hk₁ : ∀ b o, s.heap.get? b = some o → h₁.get? b = some o := fun b o e => hsb.extBut b o (Nat.ne_of_lt (Heap.lt_size e)) (Heap.get?_push_of_some _ e)
  show codeAny _ _ (.expr (lamBody spanLam) (envX lamQual (lamScope spanLam) s.heap.objs.size sp (.ref c4) [(Str.ofString "k", cell)])) _ _
  refine kla_codeExpr (span_eval (hk₁ _ _ hc) hoc fun t' tk' => ?_)
  have hs : s.heap.objs.size ≤ h₁.objs.size := Nat.le_of_lt hns.lt
  exact h _ t' _ tk' (fun b o e => Heap.get?_push_of_some _ (hk₁ b o e)) hs (Heap.get?_push_size _ rfl)
end Mine
end

section
open PySem PySem.W PyProof.Rows PySem.Calls PySem.Spec
set_option maxRecDepth 100000
set_option maxHeartbeats 2000000
namespace Mine

def revStmt : Stmt := match Challenge.pw_mr0024_01.main.body with
  | _ :: x :: _ => x
  | _ => default

/-- A heap's predicate that hangs on the base and on a part of the ledger. -/
def Supd (g : Heap) (L : Addr) (h : Heap) (P : Heap → Prop) : Prop := ∃ rel, News g L h rel ∧ ∀ h' : Heap, (∀ b o, g.get? b = some o → h'.get? b = some o) → (∀ p ∈ rel, h'.get? p.1 = some p.2) → P h'
theorem Supd.and {g h : Heap} {L : Addr} {P P' : Heap → Prop} (a : Supd g L h P) (b : Supd g L h P') : Supd g L h fun h => P h ∧ P' h := by
  obtain ⟨r, N, k⟩ := a
  obtain ⟨r', N', k'⟩ := b
  exact ⟨r ++ r', N.append N', fun h' k1 k2 => ⟨k h' k1 fun p hp => k2 p (List.mem_append_left _ hp), k' h' k1 fun p hp => k2 p (List.mem_append_right _ hp)⟩⟩
theorem Supd.of {g h : Heap} {L : Addr} {P : Heap → Prop} {m : Str → Option Value} (F : Fr g L h m) (full : List (Addr × Obj)) (hf : ∀ p ∈ full, h.get? p.1 = some p.2) (hd : ∀ p ∈ full, p.1 ≠ L)
    (k : ∀ h' : Heap, (∀ p ∈ full, h'.get? p.1 = some p.2) → P h') : Supd g L h P := by
  refine ⟨full.filter fun p => (g.get? p.1).isNone, fun p hp => ?_, fun h' k1 k2 => k h' fun p hp => ?_⟩
  · obtain ⟨hp, hn⟩ := List.mem_filter.mp hp
    exact ⟨hf p hp, hd p hp, by simpa using hn⟩
  · cases hq : g.get? p.1 with
    | none => exact k2 p (List.mem_filter.mpr ⟨hp, by simp [hq]⟩)
    | some o =>
      have e := F.keep _ _ hq
      rw [hf p hp] at e; cases e
      exact k1 _ _ hq
theorem Supd.pure {g h : Heap} {L : Addr} {P : Prop} (a : P) : Supd g L h fun _ => P := ⟨[], News.nil, fun _ _ _ => a⟩
theorem memo_supd {n : Nat} {g h : Heap} {L c1 P1 c2 : Addr} {m : Str → Option Value} (F : Fr g L h m) (ME : Memo1 n h c1 P1 c2) : Supd g L h fun h => Memo1 n h c1 P1 c2 :=
  let ⟨rel, N, _, k⟩ := memo_led F ME; ⟨rel, N, k⟩
theorem hit_supdN {g h : Heap} {L q : Addr} {k : Int} {m : Str → Option Value} {v : Value} {nm : Str} (hne : nm ≠ Str.ofString "span") (F : Fr g L h m) (hm : m nm = some v) (HA : HitAt h q k) : Supd g L h fun h => HitAt h q k := by
  obtain ⟨fd, d, od, sp, cell, oc, pm, c4, ctv, tk, a1, a2, a3, a4, ⟨o4, P4, a5, O4⟩, a6, a7⟩ := HA
  obtain ⟨oL, es, ep, hL, hdL, hkL, hfL⟩ := F.ns
  have nd : ∀ {b : Addr} {o : Obj}, h.get? b = some o → (∀ es ep, o.data ≠ .dict es ep) → b ≠ L := by
    rintro b o e hn rfl
    rw [e] at hL; cases hL
    exact hn _ _ hdL
  refine Supd.of F [(q, fnWith fd d), (d, od), (sp, kla_obj "<lambda>" lamQual (lamParams spanLam) (lamBody spanLam) (lamScope spanLam) [(Str.ofString "k", cell)] pm c4 ctv), (c4, o4), (cell, oc)] ?_ ?_ fun h' k => ?_
  · simpa using ⟨a1, a2, a4, a5, a6⟩
  · intro p hp
    simp only [List.mem_cons, List.not_mem_nil, or_false] at hp
    rcases hp with rfl | rfl | rfl | rfl | rfl
    · exact nd a1 nofun
    · rintro rfl
      obtain ⟨es', ep', b1, _, b3⟩ := a3
      rw [a2] at hL; cases hL
      rw [hdL] at b1; cases b1
      have := hfL nm
      rw [b3, hm, if_neg hne] at this
      cases this
    · exact nd a4 nofun
    · exact nd a5 fun es ep e => by obtain ⟨vs, hv⟩ := O4.flds; rw [hv] at e; cases e
    · exact nd a6 fun es ep e => by rw [a7] at e; cases e
  · exact ⟨fd, d, od, sp, cell, oc, pm, c4, ctv, tk, k (q, _) (by simp), k (d, od) (by simp), a3, k (sp, _) (by simp), ⟨o4, P4, k (c4, o4) (by simp), O4⟩, k (cell, oc) (by simp), a7⟩

theorem hit_supd {g h : Heap} {L q : Addr} {k : Int} {m : Str → Option Value} {v : Value} (F : Fr g L h m) (hm : m (Str.ofString "chars") = some v) (HA : HitAt h q k) : Supd g L h fun h => HitAt h q k := hit_supdN (by decide) F hm HA

/-- What search_reverse has kept so far, where the hits ahead of `lim` are told. -/
def Fd (x : Str) (col : Int) (v : Value) (lim : Nat) (h : Heap) : Prop := (v = .none ∧ ∀ i : Nat, i < lim → x.cps.getD i 0 ≤ 127) ∨
  ∃ q0 k0 : Nat, v = .ref q0 ∧ HitAt h q0 (k0 : Int) ∧ k0 < lim ∧ (k0 : Int) < col ∧ 127 < x.cps.getD k0 0 ∧ ∀ i : Nat, k0 < i → i < lim → x.cps.getD i 0 ≤ 127
theorem fd_supd {g h : Heap} {L : Addr} {x : Str} {col : Int} {lim : Nat} {u : Value} {m : Str → Option Value} {v : Value} (F : Fr g L h m) (hm : m (Str.ofString "chars") = some v) (D : Fd x col u lim h) : Supd g L h (Fd x col u lim) := by
  rcases D with D | ⟨q0, k0, e, HA, r⟩
  · exact ⟨[], News.nil, fun _ _ _ => .inl D⟩
  · obtain ⟨rel, N, k⟩ := hit_supd F hm HA
    exact ⟨rel, N, fun h' k1 k2 => .inr ⟨q0, k0, e, k h' k1 k2, r⟩⟩
theorem ProgAt.keep {h h' : Heap} {pr c1 : Addr} (x : ProgAt h pr c1) (k : ∀ b o, h.get? b = some o → h'.get? b = some o) : ProgAt h' pr c1 := let ⟨fd, d, od, f, a, b, o, r⟩ := x; ⟨fd, d, od, f, k _ _ a, k _ _ b, o, r.keep k⟩

theorem fr_keep {g h h' : Heap} {L : Addr} {m : Str → Option Value} (F : Fr g L h m) (k : ∀ b o, h.get? b = some o → h'.get? b = some o) : Fr g L h' m := ⟨F.ns.keeps k, fun b o e => k b o (F.keep b o e), F.above⟩

def revBinds (x : Str) (col : Int) (t tc : Tok) (pr q k : Nat) (v : Value) (ti tj : Tok) : List (Str × Value) :=
  [(Str.ofString "j", .int ((k : Int) + 1) tj), (Str.ofString "i", .int k ti), (Str.ofString "found", v), (Str.ofString "m", .ref q), (Str.ofString "col", .int col tc), (Str.ofString "chars", .str x t), (Str.ofString "prog", .ref pr)]
/-- What holds at the while's head. -/
def RevI (x : Str) (col : Int) (t tc : Tok) (pr n c1 P1 c2 : Nat) (g : Heap) (L : Addr) (s : Shared) (μ : Nat) (s' : Shared) : Prop :=
  ∃ h' tk m' q k v ti tj, s' = { s with heap := h', toks := tk } ∧ Fr g L h' m' ∧ (Supd g L h' fun h => Memo1 n h c1 P1 c2 ∧ HitAt h q (k : Nat)) ∧ (∀ p ∈ revBinds x col t tc pr q k v ti tj, m' p.1 = some p.2) ∧
    k < x.length ∧ 127 < x.cps.getD k 0 ∧ Fd x col v k h' ∧ μ = x.length - k
theorem fr_pick {g h : Heap} {L : Addr} {m : Str → Option Value} (F : Fr g L h m) (ps : List (Str × Value)) (hp : ∀ p ∈ ps, m p.1 = some p.2) : Fr g L h (kstB m ps) := by
  have e : kstB m ps = m := funext fun z => kstB_eq hp fun _ => rfl
  rw [e]
  exact F

theorem rev_body {w : World} {n : Nat} {p : Program} {loose : List Str} {mean : ExcName → Option Value} {mg mb : Str → Option Value} {dp un : Nat} {gd : Option (List Code)} {cn : Str} {cs : Scope} {a : Addr} {ccd : Value} {cl : List (Str × Addr)} {outer : List Env} {base g : Heap} {L₀ L c1 P1 c2 pr : Addr} {s : Shared} {x : Str} {t tc : Tok} {col : Int} {Q : Flow → Shared → Prop} {E : Value → Shared → Prop}
    (B : Below (ktrTop dp un gd cn cs L₀ a ccd cl outer) base (envX cn cs L₀ a ccd cl :: outer) g) (F : Fr g L s.heap (fun y => List.lookup y [(Str.ofString "col", .int col tc), (Str.ofString "chars", .str x t), (Str.ofString "prog", .ref pr)])) (X : (hd.heap_39 w.params).In g) (T : Top p loose mean mg mb g) (S : Solid n g) (ME : Memo1 n s.heap c1 P1 c2) (PA : ProgAt g pr c1)
    (hdp : dp + 3 < recursionLimit) (hun : un + 32 < cLine) (hx : x.length ≤ 6) (hc : 1 ≤ col) (hc' : col ≤ x.length)
    (hnone : (∀ i : Nat, (i : Int) < col → x.cps.getD i 0 ≤ 127) → ∀ h' tk m', Fr g L h' m' → Memo1 n h' c1 P1 c2 → Q (.ret .none) { s with heap := h', toks := tk })
    (hsome : ∀ k : Nat, (k : Int) < col → 127 < x.cps.getD k 0 → (∀ i : Nat, k < i → (i : Int) < col → x.cps.getD i 0 ≤ 127) → ∀ q h' tk m', Fr g L h' m' → Memo1 n h' c1 P1 c2 → HitAt h' q k → Q (.ret (.ref q)) { s with heap := h', toks := tk }) :
    wpAny (model Challenge.rw_mr0024_01.row.prog w) ((ktrTop dp un gd cn cs L₀ a ccd cl outer).deeper (envX (Str.ofString "search_reverse") (scopeOf revStmt) L 21 (.ref 20) []))
      (execs (bodyOf revStmt) (envX (Str.ofString "search_reverse") (scopeOf revStmt) L 21 (.ref 20) [])) Q E s := by
  revert X; k_fill; intro X
  have N : News g L s.heap [] := News.nil
  conv in (execs _ _) => arg 1; whnf
  conv in (occs := *) (scopeOf _) => all_goals whnf
  obtain ⟨fdP, dP, odP, fs, p1, p2, p3, T₀, t₀, doc, pm, ctv, p4, p5⟩ := PA
  repeat ((fail_if_success (with_reducible show wpAny _ _ (getMethod _ _ _) _ _ _)); ((first | (k_unfold; (try dsimp only)) | walk1 | (dsimp only; walk1)); (try dsimp only)))
  refine fn_method lk_fn_search (F.keep _ _ p1) (F.keep _ _ p2) p3 rfl fun tk₁ => ?_
  dsimp only
  refine callWith_F ⟨_, _, _, _, F.keep _ _ p4⟩ ?_
  ((first | (k_unfold; (try dsimp only)) | walk1 | (dsimp only; walk1)); (try dsimp only))
  ((first | (k_unfold; (try dsimp only)) | walk1 | (dsimp only; walk1)); (try dsimp only))
  ((first | (k_unfold; (try dsimp only)) | walk1 | (dsimp only; walk1)); (try dsimp only))
  refine ⟨⟨_, _, _, _, F.keep _ _ p4⟩, ?_⟩
  refine search_con (j := 0) (tj := t₀) (x := x) (t := t) B F X T S rfl (by ktr_room) (by ktr_units) ME (F.keep _ _ p4) hx (by omega) (by omega) (BindsTo.of_defaults rfl (F.keep _ _ p5) rfl rfl rfl) ?_ ?_
  · intro hall h₁ tk₂ H₁ M₁
    have F₁ := Fr.held F S H₁
    obtain ⟨rel, N₁, hrel⟩ := memo_supd F₁ M₁
    clear F N
    repeat ((first | (k_unfold; (try dsimp only)) | walk1 | (dsimp only; walk1)); (try dsimp only))
    rename Fr g L _ _ => F₂
    rename News g L _ _ => N₂
    exact hnone (fun i hi => hall i (by omega) (by omega)) _ _ _ F₂ (hrel _ F₂.keep fun p hp => (N₂ p hp).1)
  · intro k a1 a2 a3 a4 q h₁ tk₂ H₁ M₁ A₁
    have F₁ := Fr.held F S H₁
    obtain ⟨rel, N₁, hrel⟩ := (memo_supd F₁ M₁).and (hit_supd F₁ rfl A₁)
    clear F N ME M₁ A₁ H₁
    repeat ((fail_if_success (with_reducible show wpAny _ _ (truthy (Value.ref _)) _ _ _)); ((first | (k_unfold; (try dsimp only)) | walk1 | (dsimp only; walk1)); (try dsimp only)))
    rename Fr g L _ _ => F₂
    rename News g L _ _ => N₂
    obtain ⟨M₂, A₂⟩ := hrel _ F₂.keep fun p hp => (N₂ p hp).1
    obtain ⟨fd, d, od, sp, cell, oc, pm', c4, ctv', tkk, b1, b2, b3, b4, b5, b6, b7⟩ := id A₂
    refine fn_truthy b1 ?_
    repeat ((fail_if_success (with_reducible show wpAny _ _ (getMethod _ _ _) _ _ _)); ((first | (k_unfold; (try dsimp only)) | walk1 | (dsimp only; walk1)); (try dsimp only)))
    rename Fr g L _ _ => F₃
    rename News g L _ _ => N₃
    obtain ⟨M₃, A₃⟩ := hrel _ F₃.keep fun p hp => (N₃ p hp).1
    clear b1 b2 b3 b4 b5 b6 b7 A₂ M₂
    obtain ⟨fd', d', od', sp', cell', oc', pm'', c4', ctv'', tkk', b1, b2, b3, b4, b5, b6, b7⟩ := id A₃
    refine fn_method lk_fn_span b1 b2 b3 rfl fun tk₃ => ?_
    dsimp only
    refine callWith_F0 ⟨_, _, _, _, b4⟩ ?_
    refine span_con (by ktr_room) (T.nolimit.keeps F₃.keep) b4 b5.rec' b6 b7 fun tup t' h₄ tk₄ hk₄ hs₄ ht₄ => ?_
    have F₄ := fr_keep F₃ hk₄
    have N₄ : News g L h₄ ((tup, { cls := .type "tuple", data := .seq #[.int k tkk', .int (k + 1) t'] }) :: rel) := fun p hp => by
      rcases List.mem_cons.mp hp with rfl | hp
      · exact ⟨ht₄, Fr.new F₃ hs₄⟩
      · exact ⟨hk₄ _ _ (N₃ p hp).1, (N₃ p hp).2⟩
    clear F₃ N₃ b1 b2 b3 b4 b5 b6 b7 A₃ M₃
    repeat ((fail_if_success (with_reducible show wpAny _ _ (exec (.While _ _ _ _) _) _ _ _)); ((first | (k_unfold; (try dsimp only)) | walk1 | (dsimp only; walk1)); (try dsimp only)))
    rename Fr g L _ _ => F₅
    rename News g L _ _ => N₅
    refine wpAny_While ?_
    have P₅ := hrel _ F₅.keep fun p hp => (N₅ p (.tail _ hp)).1
    refine codeAny_whileLoop (RevI x col t tc pr n c1 P1 c2 g L s) ?turn (x.length - k) ⟨_, _, _, q, k, .none, tkk', t', rfl, F₅, ?su, ?bi, a2, a3, .inl ⟨rfl, fun i hi => a4 i (by omega) hi⟩, rfl⟩
    case su => exact (memo_supd F₅ P₅.1).and (hit_supd F₅ rfl P₅.2)
    case bi =>
      intro p hp
      simp only [revBinds, List.mem_cons, List.not_mem_nil, or_false] at hp
      rcases hp with rfl | rfl | rfl | rfl | rfl | rfl | rfl <;> rfl
    case turn =>
      clear F₅ N₅ P₅ hrel hk₄ hs₄ ht₄ a1 a2 a3 a4
      rintro μ s' ⟨h₁, tk₁, m₁, q, k, v, ti, tj, rfl, F₁, U, hm, hkl, hmt, D, rfl⟩
      have F₂ := fr_pick F₁ _ hm
      have hch := hm (Str.ofString "chars", .str x t) (by simp [revBinds])
      obtain ⟨rel, N₂, hrel⟩ := U.and (fd_supd F₁ hch D)
      clear F₁ U D hch
      unfold revBinds at F₂
      by_cases hkc : (k : Int) < col
      · repeat ((fail_if_success (with_reducible show wpAny _ _ (compareOp CmpOp.Eq _ _) _ _ _)); ((first | (k_unfold; (try dsimp only)) | walk1 | (dsimp only; walk1)); (try dsimp only)))
        ((first | (k_unfold; (try dsimp only)) | walk1 | (dsimp only; walk1)); (try dsimp only))
        ((first | (k_unfold; (try dsimp only)) | walk1 | (dsimp only; walk1)); (try dsimp only))
        rw [if_neg (by rw [beq_iff_eq]; omega)]
        repeat ((fail_if_success (with_reducible show wpAny _ _ (getMethod _ _ _) _ _ _)); ((first | (k_unfold; (try dsimp only)) | walk1 | (dsimp only; walk1)); (try dsimp only)))
        rename Fr g L _ _ => F₃
        rename News g L _ _ => N₃
        refine fn_method lk_fn_search (F₃.keep _ _ p1) (F₃.keep _ _ p2) p3 rfl fun tk₄ => ?_
        dsimp only
        refine callWith_F ⟨_, _, _, _, F₃.keep _ _ p4⟩ ?_
        ((first | (k_unfold; (try dsimp only)) | walk1 | (dsimp only; walk1)); (try dsimp only))
        ((first | (k_unfold; (try dsimp only)) | walk1 | (dsimp only; walk1)); (try dsimp only))
        ((first | (k_unfold; (try dsimp only)) | walk1 | (dsimp only; walk1)); (try dsimp only))
        ((first | (k_unfold; (try dsimp only)) | walk1 | (dsimp only; walk1)); (try dsimp only))
        ((first | (k_unfold; (try dsimp only)) | walk1 | (dsimp only; walk1)); (try dsimp only))
        refine ⟨⟨_, _, _, _, F₃.keep _ _ p4⟩, ?_⟩
        obtain ⟨⟨M₃, A₃⟩, D₃⟩ := hrel _ F₃.keep fun p hp => (N₃ p hp).1
        refine search_con (j := (k : Int) + 1) (tj := tj) (x := x) (t := t) B F₃ X T S rfl (by ktr_room) (by ktr_units) M₃ (F₃.keep _ _ p4) hx (by omega) (by omega) (BindsTo.of_defaults rfl (F₃.keep _ _ p5) rfl rfl rfl) ?_ ?_
        · intro hall h₅ tk₅ H₅ M₅
          have F₄ := Fr.held F₃ S H₅
          obtain ⟨rel', N₄, hrel'⟩ := (memo_supd F₄ M₅).and (hit_supd F₄ rfl (A₃.held H₅))
          clear hrel F₃ N₃ M₃ A₃ D₃ M₅
          repeat ((first | (k_unfold; (try dsimp only)) | walk1 | (dsimp only; walk1)); (try dsimp only))
          rename Fr g L _ _ => F₆
          rename News g L _ _ => N₆
          obtain ⟨M₆, A₆⟩ := hrel' _ F₆.keep fun p hp => (N₆ p hp).1
          exact hsome k hkc hmt (fun i h1 h2 => hall i (by omega) (by omega)) _ _ _ _ F₆ M₆ A₆
        · intro k' g1 g2 g3 g4 q' h₅ tk₅ H₅ M₅ A₅
          have F₄ := Fr.held F₃ S H₅
          obtain ⟨rel', N₄, hrel'⟩ := (memo_supd F₄ M₅).and ((hit_supd F₄ rfl (A₃.held H₅)).and (hit_supd F₄ rfl A₅))
          clear hrel F₃ N₃ M₃ A₃ D₃ M₅ A₅
          repeat ((fail_if_success (with_reducible show wpAny _ _ (truthy (Value.ref _)) _ _ _)); ((first | (k_unfold; (try dsimp only)) | walk1 | (dsimp only; walk1)); (try dsimp only)))
          rename Fr g L _ _ => F₆
          rename News g L _ _ => N₆
          obtain ⟨M₆, A₆, A₆'⟩ := hrel' _ F₆.keep fun p hp => (N₆ p hp).1
          obtain ⟨fd', d', od', sp', cell', oc', pm'', c4', ctv'', tkk', b1, b2, b3, b4, b5, b6, b7⟩ := id A₆'
          refine fn_truthy b1 ?_
          repeat ((fail_if_success (with_reducible show wpAny _ _ (getMethod _ _ _) _ _ _)); ((first | (k_unfold; (try dsimp only)) | walk1 | (dsimp only; walk1)); (try dsimp only)))
          refine fn_method lk_fn_span b1 b2 b3 rfl fun tk₃ => ?_
          dsimp only
          refine callWith_F0 ⟨_, _, _, _, b4⟩ ?_
          refine span_con (by ktr_room) (T.nolimit.keeps F₆.keep) b4 b5.rec' b6 b7 fun tup t' h₇ tk₇ hk₇ hs₇ ht₇ => ?_
          have F₇ := fr_keep F₆ hk₇
          have N₇ : News g L h₇ ((tup, { cls := .type "tuple", data := .seq #[.int k' tkk', .int (k' + 1) t'] }) :: rel') := fun p hp => by
            rcases List.mem_cons.mp hp with rfl | hp
            · exact ⟨ht₇, Fr.new F₆ hs₇⟩
            · exact ⟨hk₇ _ _ (N₆ p hp).1, (N₆ p hp).2⟩
          clear F₆ N₆ b1 b2 b3 b4 b5 b6 b7 A₆ A₆' M₆
          repeat ((fail_if_success (with_reducible refine Exists.intro ?_ ?_)); ((first | (k_unfold; (try dsimp only)) | walk1 | (dsimp only; walk1)); (try dsimp only)))
          rename Fr g L _ _ => F₈
          rename News g L _ _ => N₈
          obtain ⟨M₈, A₈, A₈'⟩ := hrel' _ F₈.keep fun p hp => (N₈ p (.tail _ hp)).1
          refine ⟨x.length - k', by omega, _, _, _, q', k', .ref q, tkk', t', rfl, F₈, (memo_supd F₈ M₈).and (hit_supd F₈ rfl A₈'), ?_, g2, g3, .inr ⟨q, k, rfl, A₈, by omega, hkc, hmt, fun i h1 h2 => g4 i (by omega) h2⟩, rfl⟩
          intro p hp
          simp only [revBinds, List.mem_cons, List.not_mem_nil, or_false] at hp
          rcases hp with rfl | rfl | rfl | rfl | rfl | rfl | rfl <;> rfl
      · repeat ((first | (k_unfold; (try dsimp only)) | walk1 | (dsimp only; walk1)); (try dsimp only))
        rename Fr g L _ _ => F₃
        rename News g L _ _ => N₃
        obtain ⟨⟨M₃, A₃⟩, D₃⟩ := hrel _ F₃.keep fun p hp => (N₃ p hp).1
        rcases D₃ with ⟨rfl, d1⟩ | ⟨q0, k0, rfl, d1, d2, d3, d4, d5⟩
        · exact hnone (fun i hi => d1 i (by omega)) _ _ _ F₃ M₃
        · exact hsome k0 d3 d4 (fun i h1 h2 => d5 i h1 (by omega)) _ _ _ _ F₃ M₃ d1

theorem rev_con {w : World} {n : Nat} {p : Program} {loose : List Str} {mean : ExcName → Option Value} {mg mb : Str → Option Value} {dp un : Nat} {gd : Option (List Code)} {cn : Str} {cs : Scope} {a : Addr} {ccd : Value} {cl : List (Str × Addr)} {outer : List Env} {A₀ : Around} {base h₀ : Heap} {L : Addr} {m : Str → Option Value} {s : Shared} {Q E : Value → Shared → Prop} {c1 P1 c2 pr : Addr} {x : Str} {t tc : Tok} {col : Int}
    (B : Below A₀ base outer h₀) (F : Fr h₀ L s.heap m) (X : (hd.heap_39 w.params).In h₀) (T : Top p loose mean mg mb h₀) (S : Solid n h₀) (hcs : cs.kind = .function) (hdp : dp + 3 < recursionLimit) (hun : un + 32 < cLine)
    (ME : Memo1 n s.heap c1 P1 c2) (PA : ProgAt s.heap pr c1) (hx : x.length ≤ 6) (hc : 1 ≤ col) (hc' : col ≤ x.length)
    (hnone : (∀ i : Nat, (i : Int) < col → x.cps.getD i 0 ≤ 127) → ∀ h' tk, Held n s.heap h' → Memo1 n h' c1 P1 c2 → Q .none { s with heap := h', toks := tk })
    (hsome : ∀ k : Nat, (k : Int) < col → 127 < x.cps.getD k 0 → (∀ i : Nat, k < i → (i : Int) < col → x.cps.getD i 0 ≤ 127) → ∀ q h' tk, Held n s.heap h' → Memo1 n h' c1 P1 c2 → HitAt h' q k → Q (.ref q) { s with heap := h', toks := tk }) :
    wpAny (model Challenge.rw_mr0024_01.row.prog w) (ktrTop dp un gd cn cs L a ccd cl outer) (call (.ref 21) [.ref pr, .str x t, .int col tc]) Q E s := by
  revert X; k_fill; intro X
  refine wpAny_call ?_
  refine' enterK (binds := [(Str.ofString "prog", .ref pr), (Str.ofString "chars", .str x t), (Str.ofString "col", .int col tc)]) n B F X T S rfl rfl hcs ?ko ?kc ?kd ?kb ?kl ?_ ?k5 ?k6 ?k7 ?k8
  (case ko => k_is)
  (case kc => k_is)
  (case kd => ktr_room)
  (case kb => exact BindsTo.of_eq rfl)
  (case kl => exact locs rfl)
  (case k5 => decide)
  (case k6 => exact rfl)
  (case k7 => exact rfl)
  (case k8 => exact rfl)
  intro g L' h₁ tk F₁ B₁ X₁ T₁ S₁ hg hk hsub hz
  have PA' : ProgAt g pr c1 := by
    obtain ⟨fd, d, od, fs, b1, b2, b3, T₀, t₀, doc, pm, ctv, b4, b5⟩ := PA
    exact ⟨fd, d, od, fs, hg _ _ b1 (firm_of rfl), hg _ _ b2 b3.firm, b3, T₀, t₀, doc, pm, ctv, hg _ _ b4 (firm_of rfl), hg _ _ b5 (firm_of rfl)⟩
  refine rev_body B₁ F₁ X₁ T₁ S₁ (ME.keep hk) PA' hdp hun hx hc hc' ?_ ?_
  · intro hall h' tk' m' F' M'
    exact ⟨⟨m', F'⟩, fun H => hnone hall h' tk' H M'⟩
  · intro k a1 a2 a3 q h' tk' m' F' M' H'
    exact ⟨⟨m', F'⟩, fun H => hsome k a1 a2 a3 q h' tk' H M' H'⟩
end Mine
end

section
open PySem PySem.W PyProof.Rows PySem.Calls PySem.Spec
set_option maxRecDepth 100000
set_option maxHeartbeats 2000000
namespace Mine
open PyProof.Rows.LCt PyProof.Rows.LCg

section
variable {prog : Program} {w : World} {A : Around} {E : Value → Shared → Prop} {s : Shared} {h₀ : Heap} {L : Addr} {m : Str → Option Value} {env : Env}
/-- A list comprehension with one test over a text. -/
theorem ListComp_S {ct elt iter : Expr} {x : Str} {px : Pos} {scope : Scope} {cl : List (Str × Addr)} {pos : Pos} {Q : Value → Shared → Prop} (Fx : Fr h₀ L s.heap m)
    (hclos : closureFor scope env = pure cl) (hcell : ∀ y ∈ scope.names, y.2 ≠ .cell) (hkind : scope.kind = .function)
    (hnames : ∀ y ∈ scope.names, y.2 = .local → scope.names.lookup y.1 = some .local) (hx : scope.names.lookup x = some .local)
    (h : wpAny (model prog w) A (eval iter env) (fun xv s₁ => ∃ y t news, xv = .str y t ∧ A.handled = none ∧ Fr h₀ L s₁.heap m ∧ News h₀ L s₁.heap news ∧ y.cps.size ≤ sizeLine ∧
      ∀ g, CompRestT prog w A h₀ L m env ct elt x scope cl { s₁ with heap := g } (fun _ => True) (SignAt y) (FinE h₀ L m { s₁ with heap := g } Q) y.cps.size 0 [] news) E s)
    (hs : ∀ x, foldedSetIterable iter env x = pure x := by intro _; rfl) :
    wpAny (model prog w) A (eval (.ListComp elt [⟨.Name x px, iter, [ct], 0⟩] scope pos) env) Q E s := by
  rw [eval_ListComp]
  refine wpAny_comprehension_free (use := none) rfl hs hclos hkind hnames (wpAny_mono h (fun xv s₁ h₁ => ?_) fun _ _ e => e)
  obtain ⟨y, t, news, rfl, hh, F, N, hsz, R⟩ := h₁
  have last : ∀ (o : Obj) (St : Nat → Heap → Prop), Walks prog w A s₁.heap.objs.size [s₁.heap.objs.size] [s₁.heap.objs.size] y.cps.size (SignAt y) St → (∀ i h, St i h → ∃ o, h.get? s₁.heap.objs.size = some o) → St 0 (s₁.heap.push o) →
      wpAny (model prog w) A (newList []) (fun acc s₃ => wpAny (model prog w) A (newFunctionEnv scope env.globals cl [] env.qual none .none (some env)) (fun cenv s₄ =>
        codeAny (model prog w) A (.compStart (.ListComp elt [⟨.Name x px, iter, [ct], 0⟩] scope pos) 0 (.ref s₁.heap.objs.size) acc { cenv with scope := relabel scope env }) (compPost (model prog w) A E none Q acc cenv.locals) s₄) E s₃) E { s₁ with heap := s₁.heap.push o } := by
    intro o St W hIo hst
    have up : ∀ b ob, s₁.heap.get? b = some ob → (s₁.heap.push o).get? b = some ob := fun b ob e => Heap.get?_push_of_some _ e
    refine block_T W hsz hIo (fun i h h' o' nw st e e' _ _ _ => W.frame i h h' st fun b hb ob eb => ?_) hcell hkind hx hst (fun b hb => ?_) (F.keeps up) (N.grown up) (Nat.ne_of_lt F.ns.lt) (next_is_new F) (fun p hp => Nat.ne_of_lt (Heap.lt_size (N p hp).1)) trivial (R _) ?_
    · rw [List.mem_singleton.mp hb] at eb ⊢
      rw [e] at eb; cases eb
      exact e'
    · rw [List.mem_singleton.mp hb]
      show s₁.heap.objs.size < (s₁.heap.push _).objs.size
      rw [Heap.size_push]; exact Nat.lt_succ_self _
    · intro D C h tk m' ys news' F' N' o1 hn hC₀ hD₀ hCL hDL hCD offC fin
      refine ⟨m', hn, fun h'' hs'' => fin D h'' tk (F'.change hs'' hCL hC₀) (fun p hp => ?_) o1⟩
      refine ⟨hs''.extBut _ _ ?_ (N' p hp).1, (N' p hp).2⟩
      rcases List.mem_cons.mp hp with rfl | hp
      · exact Ne.symm hCD
      · exact offC p hp
  cases ha : y.cps.all (· < 128)
  · exact wpAny_pyIter_wide ha (last _ _ (Walks.strWide hh _ y t) (fun i h st => let ⟨o, e, _⟩ := st; ⟨o, e⟩) ⟨_, Heap.get?_push_size _ rfl, rfl, rfl⟩)
  · exact wpAny_pyIter_ascii ha (last _ _ (Walks.strAscii hh _ y t) (fun i h st => let ⟨o, e, _⟩ := st; ⟨o, e⟩) ⟨_, Heap.get?_push_size _ rfl, rfl, rfl⟩)
end
end Mine
end

section
open PySem PySem.W PyProof.Rows PySem.Calls PySem.Spec
set_option maxRecDepth 100000
set_option maxHeartbeats 2000000
namespace Mine
open PyProof.Rows.LCt PyProof.Rows.LCg

def turnStmt : Stmt := match Challenge.pw_mr0024_01.main.body with
  | _ :: _ :: _ :: _ :: _ :: _ :: _ :: _ :: x :: _ => x
  | _ => default
def isMeta (c : Nat) : Bool := decide (127 < c)
def cnt (y : Str) (i : Nat) : Nat := ((y.cps.toList.take i).filter isMeta).length

theorem memo_supd0 {n : Nat} {g h : Heap} {L : Addr} {m : Str → Option Value} (F : Fr g L h m) (ME : Memo n h) : Supd g L h (Memo n) := by
  rcases ME with e | ⟨c1, P1, c2, ME⟩
  · refine Supd.of F [(44, tabObj #[])] (by simpa using e) ?_ fun h' k => .inl (k _ (.head _))
    intro p hp
    rw [List.mem_singleton.mp hp]
    rintro rfl
    obtain ⟨oL, es, ep, hL, hd, _⟩ := F.ns
    rw [e] at hL; cases hL; cases hd
  · obtain ⟨rel, N, k⟩ := memo_supd F ME
    exact ⟨rel, N, fun h' k1 k2 => .inr ⟨c1, P1, c2, k h' k1 k2⟩⟩

def countComp : Expr := match valueOf (firstS (bodyOf turnStmt)) with
  | .Call _ (e :: _) _ _ => e
  | _ => default
def compTest : Expr → Expr
  | .ListComp _ (⟨_, _, c :: _, _⟩ :: _) _ _ => c
  | _ => default
def compElt : Expr → Expr
  | .ListComp e _ _ _ => e
  | _ => default
def compScope : Expr → Scope
  | .ListComp _ _ s _ => s
  | _ => default

theorem cnt_succ {y : Str} {i c : Nat} (hc : y.cps[i]? = some c) : cnt y (i + 1) = cnt y i + (if isMeta c then 1 else 0) := by
  unfold cnt
  have hc' : y.cps.toList[i]? = some c := by simpa using hc
  rw [List.take_add_one, hc']
  cases h : isMeta c <;> simp [h]

theorem count_rest {w : World} {p : Program} {loose : List Str} {mean : ExcName → Option Value} {mg mb : Str → Option Value} {dp un : Nat} {gd : Option (List Code)} {cn : Str} {cs : Scope} {a : Addr} {ccd : Value} {cl : List (Str × Addr)} {outer : List Env} {base g : Heap} {L₀ L : Addr} {s : Shared} {m : Str → Option Value} {y : Str} {rel : List (Addr × Obj)} {Fin : List Value → List (Addr × Obj) → Prop}
    (B : Below (ktrTop dp un gd cn cs L₀ a ccd cl outer) base (envX cn cs L₀ a ccd cl :: outer) g) (X : (hd.heap_39 w.params).In g) (T : Top p loose mean mg mb g)
    (hdp : dp + 4 < recursionLimit) (hun : un + 40 < cLine) (hFin : ∀ ys, ys.length = cnt y y.cps.size → Fin ys rel) :
    ∀ k i ys, i + k = y.cps.size → ys.length = cnt y i →
    CompRestT Challenge.rw_mr0024_01.row.prog w ((ktrTop dp un gd cn cs L₀ a ccd cl outer).deeper (envX (Str.ofString "_law_turn") (scopeOf turnStmt) L 54 (.ref 53) [])) g L m
      (envX (Str.ofString "_law_turn") (scopeOf turnStmt) L 54 (.ref 53) []) (compTest countComp) (compElt countComp) (Str.ofString "sign") (compScope countComp) [] s (fun _ => True) (SignAt y) Fin k i ys rel := by
  revert X; k_fill; intro X
  intro k
  induction k with
  | zero =>
    intro i ys hi hys
    refine CompRestT.zero (hFin ys ?_)
    rw [hys, ← hi]; rfl
  | succ k ih =>
    intro i ys hi hys
    refine CompRestT.succ ?_
    intro v I oI C oC D m₂ h tk E' hP hC hm F N off ne
    obtain ⟨c, u, hc, rfl⟩ := hP
    conv in (occs := *) (compTest countComp) => all_goals whnf
    repeat ((fail_if_success (with_reducible show wpAny _ _ (call (Value.ref 35) _) _ _ _)); ((first | (k_unfold; (try dsimp only)) | walk1 | (dsimp only; walk1)); (try dsimp only)))
    rename Fr g L _ _ => F₁
    rename News g L _ _ => N₁
    refine ismeta_con B F₁ X N₁ T rfl (by ktr_room) (by ktr_units) fun h₃ tk₃ F₃ N₃ => ?_
    refine wpAny_truthy_bool ?_
    clear F₁ N₁
    by_cases hb : (127 : Int) < (c : Int)
    · show (if decide ((127 : Int) < (c : Int)) = true then _ else _)
      rw [if_pos (decide_eq_true hb)]
      have hq : isMeta c = true := by unfold isMeta; simp; omega
      conv in (occs := *) (compElt countComp) => all_goals whnf
      repeat ((fail_if_success (with_reducible show CompEnd _ _ _ _ _ _ _ _ _ _ _ _ _ _)); ((first | (k_unfold; (try dsimp only)) | walk1 | (dsimp only; walk1)); (try dsimp only)))
      refine CompEnd.intro F₃ N₃ rel (fun p hp => hp) off trivial (ih (i + 1) _ (by omega) ?_)
      rw [cnt_succ hc, hq, List.length_append, hys]; rfl
    · show (if decide ((127 : Int) < (c : Int)) = true then _ else _)
      rw [if_neg (by simpa using hb)]
      have hq : isMeta c = false := by unfold isMeta; simp; omega
      refine CompEnd.intro F₃ N₃ rel (fun p hp => hp) off trivial (ih (i + 1) ys (by omega) ?_)
      rw [cnt_succ hc, hq, hys]; rfl

def flipC (c : Nat) : Nat := if 127 < c then c % 128 else c + 128
def turned (x : Str) (k : Nat) : Str := Txt.slice x none (some (k : Int)) ++ ⟨#[flipC (x.cps.getD k 0)]⟩ ++ Txt.slice x (some ((k : Int) + 1)) none

theorem turn_tail {w : World} {n : Nat} {p : Program} {loose : List Str} {mean : ExcName → Option Value} {mg mb : Str → Option Value} {dp un : Nat} {gd : Option (List Code)} {cn : Str} {cs : Scope} {a : Addr} {ccd : Value} {cl : List (Str × Addr)} {outer : List Env} {base g : Heap} {L₀ L : Addr} {s : Shared} {x : Str} {t tk₀ : Tok} {m : Str → Option Value} {k : Nat} {Q : Flow → Shared → Prop} {E : Value → Shared → Prop}
    (B : Below (ktrTop dp un gd cn cs L₀ a ccd cl outer) base (envX cn cs L₀ a ccd cl :: outer) g) (F₀ : Fr g L s.heap m) (hm1 : m (Str.ofString "k") = some (.int k tk₀)) (hm2 : m (Str.ofString "line") = some (.str x t)) (X : (hd.heap_39 w.params).In g) (T : Top p loose mean mg mb g) (ME : Memo n s.heap)
    (hdp : dp + 4 < recursionLimit) (hun : un + 40 < cLine) (hx : x.length ≤ 6) (hk : k < x.length)
    (h : ∀ t' h' tk m', Fr g L h' m' → Memo n h' → Q (.ret (.str (turned x k) t')) { s with heap := h', toks := tk }) :
    wpAny (model Challenge.rw_mr0024_01.row.prog w) ((ktrTop dp un gd cn cs L₀ a ccd cl outer).deeper (envX (Str.ofString "_law_turn") (scopeOf turnStmt) L 54 (.ref 53) []))
      (execs (bodyOf turnStmt).tail.tail (envX (Str.ofString "_law_turn") (scopeOf turnStmt) L 54 (.ref 53) [])) Q E s := by
  revert X; k_fill; intro X
  obtain ⟨rel, N, hrel⟩ := memo_supd0 F₀ ME
  have F := fr_pick F₀ [(Str.ofString "k", .int k tk₀), (Str.ofString "line", .str x t)] (by
    intro p hp
    simp only [List.mem_cons, List.not_mem_nil, or_false] at hp
    rcases hp with rfl | rfl
    · exact hm1
    · exact hm2)
  clear F₀ hm1 hm2 ME
  have hk0 : (0 : Int) ≤ (k : Int) := by omega
  have hk1 : (k : Int) < x.length := by omega
  conv in (execs _ _) => arg 1; whnf
  conv in (occs := *) (scopeOf _) => all_goals whnf
  repeat ((fail_if_success (with_reducible show wpAny _ _ (call (Value.ref 35) _) _ _ _)); ((first | (k_unfold; (try dsimp only)) | walk1 | (dsimp only; walk1)); (try dsimp only)))
  rename Fr g L _ _ => F₁
  rename News g L _ _ => N₁
  rw [item_at hk0 hk1]
  refine ismeta_con B F₁ X N₁ T rfl (by ktr_room) (by ktr_units) fun h₃ tk₃ F₃ N₃ => ?_
  refine wpAny_truthy_bool ?_
  clear F₁ N₁
  by_cases hb : (127 : Int) < ((x.cps.getD (k : Int).toNat 0 : Nat) : Int)
  · rw [if_pos (decide_eq_true hb)]
    repeat ((first | (k_unfold; (try dsimp only)) | walk1 | (dsimp only; walk1)); (try dsimp only))
    rename Fr g L _ _ => F₄
    rename News g L _ _ => N₄
    have e : ((((Txt.item x (k : Int)).cps.getD 0 0 : Nat) : Int).fmod 128).toNat = flipC (x.cps.getD k 0) := by
      rw [item_at hk0 hk1]
      rw [Int.toNat_natCast] at hb ⊢
      show (Int.fmod ((x.cps.getD k 0 : Nat) : Int) 128).toNat = _
      unfold flipC
      rw [if_pos (by omega), Int.fmod_eq_emod_of_nonneg _ (by omega)]
      omega
    rw [e]
    exact h _ _ _ _ F₄ (hrel _ F₄.keep fun p hp => (N₄ p hp).1)
  · rw [if_neg (by simpa using hb)]
    repeat ((fail_if_success (with_reducible show wpAny _ _ (call (Value.ref 42) _) _ _ _)); ((first | (k_unfold; (try dsimp only)) | walk1 | (dsimp only; walk1)); (try dsimp only)))
    rename Fr g L _ _ => F₁
    rename News g L _ _ => N₁
    rw [item_at hk0 hk1]
    refine alt_con B F₁ X N₁ T rfl (by ktr_room) (by ktr_units) (by omega) fun t₅ h₅ tk₅ F₅ N₅ => ?_
    clear F₁ N₁
    repeat ((first | (k_unfold; (try dsimp only)) | walk1 | (dsimp only; walk1)); (try dsimp only))
    rename Fr g L _ _ => F₆
    rename News g L _ _ => N₆
    have e : x.cps.getD (k : Int).toNat 0 + 128 = flipC (x.cps.getD k 0) := by
      rw [Int.toNat_natCast] at hb ⊢
      unfold flipC
      rw [if_neg (by omega)]
    rw [e]
    exact h _ _ _ _ F₆ (hrel _ F₆.keep fun p hp => (N₆ p hp).1)

theorem prog_supd {g h : Heap} {L pr c1 : Addr} {m : Str → Option Value} {v : Value} (F : Fr g L h m) (hm : m (Str.ofString "line") = some v) (PA : ProgAt h pr c1) : Supd g L h fun h => ProgAt h pr c1 := by
  obtain ⟨fd, d, od, fs, a1, a2, a3, T₀, t₀, doc, pm, ctv, a4, a5⟩ := PA
  obtain ⟨oL, es, ep, hL, hdL, hkL, hfL⟩ := F.ns
  have nd : ∀ {b : Addr} {o : Obj}, h.get? b = some o → (∀ es ep, o.data ≠ .dict es ep) → b ≠ L := by
    rintro b o e hn rfl
    rw [e] at hL; cases hL
    exact hn _ _ hdL
  refine Supd.of F [(pr, fnWith fd d), (d, od), (fs, kdv_obj "search" searchQual (paramsOf searchStmt) (.stmts (bodyOf searchStmt)) (scopeOf searchStmt) [] (.ref T₀) doc pm c1 ctv), (T₀, kdv_tup [.int 0 t₀])] ?_ ?_ fun h' k => ?_
  · simpa using ⟨a1, a2, a4, a5⟩
  · intro p hp
    simp only [List.mem_cons, List.not_mem_nil, or_false] at hp
    rcases hp with rfl | rfl | rfl | rfl
    · exact nd a1 nofun
    · rintro rfl
      obtain ⟨es', ep', b1, _, b3⟩ := a3
      rw [a2] at hL; cases hL
      rw [hdL] at b1; cases b1
      have := hfL (Str.ofString "line")
      rw [b3, hm, if_neg (by decide)] at this
      cases this
    · exact nd a4 nofun
    · exact nd a5 nofun
  · exact ⟨fd, d, od, fs, k (pr, _) (by simp), k (d, od) (by simp), a3, T₀, t₀, doc, pm, ctv, k (fs, _) (by simp), k (T₀, _) (by simp)⟩

/-- Where a turn turns. -/
def TurnAt (x : Str) (col : Int) (up : Bool) (k : Nat) : Prop :=
  ((((cnt (Txt.slice x none (some col)) (Txt.slice x none (some col)).cps.size : Nat) : Int).fmod 2 == 0) = up ∧ (k : Int) = col - 1) ∨
  ((((cnt (Txt.slice x none (some col)) (Txt.slice x none (some col)).cps.size : Nat) : Int).fmod 2 == 0) ≠ up ∧
    (((∀ i : Nat, (i : Int) < col → x.cps.getD i 0 ≤ 127) ∧ k = 0) ∨
      ∃ j : Nat, (j : Int) < col ∧ 127 < x.cps.getD j 0 ∧ (∀ i : Nat, j < i → (i : Int) < col → x.cps.getD i 0 ≤ 127) ∧ k = j - 1))

theorem turn_body {w : World} {n : Nat} {p : Program} {loose : List Str} {mean : ExcName → Option Value} {mg mb : Str → Option Value} {dp un : Nat} {gd : Option (List Code)} {cn : Str} {cs : Scope} {a : Addr} {ccd : Value} {cl : List (Str × Addr)} {outer : List Env} {base g : Heap} {L₀ L : Addr} {s : Shared} {x : Str} {t tc : Tok} {col : Int} {up : Bool} {Q : Flow → Shared → Prop} {E : Value → Shared → Prop}
    (B : Below (ktrTop dp un gd cn cs L₀ a ccd cl outer) base (envX cn cs L₀ a ccd cl :: outer) g) (F : Fr g L s.heap (fun y => List.lookup y [(Str.ofString "up", .bool up), (Str.ofString "col", .int col tc), (Str.ofString "line", .str x t)])) (X : (hd.heap_39 w.params).In g) (T : Top p loose mean mg mb g) (S : Solid n g) (hn : n ≤ g.objs.size) (ME : Memo n s.heap)
    (hdp : dp + 4 < recursionLimit) (hun : un + 40 < cLine) (hx : x.length ≤ 6) (hc : 1 ≤ col) (hc' : col ≤ x.length)
    (h : ∀ k, TurnAt x col up k → ∀ t' h' tk m', Fr g L h' m' → Memo n h' → Q (.ret (.str (turned x k) t')) { s with heap := h', toks := tk }) :
    wpAny (model Challenge.rw_mr0024_01.row.prog w) ((ktrTop dp un gd cn cs L₀ a ccd cl outer).deeper (envX (Str.ofString "_law_turn") (scopeOf turnStmt) L 54 (.ref 53) []))
      (execs (bodyOf turnStmt) (envX (Str.ofString "_law_turn") (scopeOf turnStmt) L 54 (.ref 53) [])) Q E s := by
  revert X; k_fill; intro X
  obtain ⟨rel, N, hrel⟩ := memo_supd0 F ME
  conv in (execs _ _) => arg 1; whnf
  conv in (occs := *) (scopeOf _) => all_goals whnf
  repeat ((fail_if_success (with_reducible show wpAny _ _ (eval (Expr.ListComp _ _ _ _) _) _ _ _)); ((first | (k_unfold; (try dsimp only)) | walk1 | (dsimp only; walk1)); (try dsimp only)))
  refine ListComp_S (h₀ := g) (L := L) (cl := []) F rfl (by decide) rfl (by decide) rfl ?_ (fun _ => rfl)
  repeat ((fail_if_success (with_reducible refine Exists.intro ?_ ?_)); ((first | (k_unfold; (try dsimp only)) | walk1 | (dsimp only; walk1)); (try dsimp only)))
  rename Fr g L _ _ => F₁
  rename News g L _ _ => N₁
  refine ⟨_, _, rel, rfl, rfl, F₁, N₁, ?_, fun g' => count_rest B X T hdp hun (fun ys hys => ?_) _ 0 [] (Nat.zero_add _) rfl⟩
  · have := Txt.slice_le x none (some col)
    show (Txt.slice x none (some col)).length ≤ sizeLine
    rw [sizeLine_eq]; omega
  intro D h₁ tk₁ F₂ N₂ off
  have hys' : ys.length ≤ 6 := by
    have h1 : cnt (Txt.slice x none (some col)) (Txt.slice x none (some col)).cps.size ≤ (Txt.slice x none (some col)).length := by
      unfold cnt
      refine Nat.le_trans (List.length_filter_le _ _) ?_
      rw [List.length_take]
      exact Nat.min_le_left _ _
    have h2 := Txt.slice_le x none (some col)
    omega
  clear F₁ N₁
  dsimp only at F₂ N₂ off ⊢
  ((first | (k_unfold; (try dsimp only)) | walk1 | (dsimp only; walk1)); (try dsimp only))
  refine call_len_list (items := ys.toArray) ⟨_, (N₂ (D, _) (.head _)).1, rfl, _, rfl⟩ (by rw [List.size_toArray]; omega) ?_
  dsimp only
  rw [List.size_toArray]
  have N₃ : News g L h₁ rel := fun p hp => N₂ p (.tail _ hp)
  clear N₂ off
  repeat ((fail_if_success (with_reducible show wpAny _ _ (compareOp CmpOp.Eq (Value.bool _) _) _ _ _)); ((first | (k_unfold; (try dsimp only)) | walk1 | (dsimp only; walk1)); (try dsimp only)))
  ((first | (k_unfold; (try dsimp only)) | walk1 | (dsimp only; walk1)); (try dsimp only))
  ((first | (k_unfold; (try dsimp only)) | walk1 | (dsimp only; walk1)); (try dsimp only))
  rename Fr g L _ _ => F₃
  rename News g L _ _ => N₃
  by_cases hb : (((ys.length : Int).fmod 2 == 0) == up) = true
  · rw [if_pos hb]
    repeat ((fail_if_success (with_reducible show wpAny _ _ (execs [Stmt.Assign _ _ _, Stmt.Return _ _] _) _ _ _)); ((first | (k_unfold; (try dsimp only)) | walk1 | (dsimp only; walk1)); (try dsimp only)))
    rename Fr g L _ _ => F₄
    rename News g L _ _ => N₄
    have e : col - 1 = ((col - 1).toNat : Int) := by omega
    refine turn_tail (k := (col - 1).toNat) B F₄ (congrArg (fun z => some (Value.int z _)) e) rfl X T (hrel _ F₄.keep fun p hp => (N₄ p hp).1) hdp hun hx (by omega) fun t' h' tk m' F' M' => ?_
    exact h _ (.inl ⟨by rw [← hys]; simpa using hb, by omega⟩) t' h' tk m' F' M'
  · rw [if_neg hb]
    repeat ((fail_if_success (with_reducible show wpAny _ _ (call (Value.ref 49) _) _ _ _)); ((first | (k_unfold; (try dsimp only)) | walk1 | (dsimp only; walk1)); (try dsimp only)))
    rename Fr g L _ _ => F₄
    rename News g L _ _ => N₄
    refine prog_con B F₄ X T S hn rfl (by ktr_room) (hrel _ F₄.keep fun p hp => (N₄ p hp).1) fun pr c1 P1 c2 h₅ tk₅ H₅ M₅ PA₅ => ?_
    have F₅ := Fr.held F₄ S H₅
    obtain ⟨rel₅, N₅, hrel₅⟩ := (memo_supd F₅ M₅).and (prog_supd F₅ rfl PA₅)
    clear F₄ N₄ hrel M₅ PA₅ H₅
    repeat ((fail_if_success (with_reducible show wpAny _ _ (call (Value.ref 21) _) _ _ _)); ((first | (k_unfold; (try dsimp only)) | walk1 | (dsimp only; walk1)); (try dsimp only)))
    rename Fr g L _ _ => F₆
    rename News g L _ _ => N₆
    obtain ⟨M₆, PA₆⟩ := hrel₅ _ F₆.keep fun p hp => (N₆ p hp).1
    refine rev_con B F₆ X T S rfl (by ktr_room) (by ktr_units) M₆ PA₆ hx hc hc' ?_ ?_
    · intro hall h₇ tk₇ H₇ M₇
      have F₇ := Fr.held F₆ S H₇
      obtain ⟨rel₇, N₇, hrel₇⟩ := memo_supd F₇ M₇
      clear F₆ N₆ hrel₅ M₆ PA₆
      repeat ((fail_if_success (with_reducible show wpAny _ _ (execs [Stmt.Assign _ _ _, Stmt.Return _ _] _) _ _ _)); ((first | (k_unfold; (try dsimp only)) | walk1 | (dsimp only; walk1)); (try dsimp only)))
      rename Fr g L _ _ => F₈
      rename News g L _ _ => N₈
      refine turn_tail (k := 0) B F₈ rfl rfl X T (.inr ⟨_, _, _, hrel₇ _ F₈.keep fun p hp => (N₈ p hp).1⟩) hdp hun hx (by omega) fun t' h' tk m' F' M' => ?_
      exact h _ (.inr ⟨by rw [← hys]; simpa using hb, .inl ⟨hall, rfl⟩⟩) t' h' tk m' F' M'
    · intro j a1 a2 a3 q h₇ tk₇ H₇ M₇ A₇
      have F₇ := Fr.held F₆ S H₇
      have U₇ : Supd g L h₇ fun h => HitAt h q j := hit_supdN (nm := Str.ofString "line") (by decide) F₇ rfl A₇
      obtain ⟨rel₇, N₇, hrel₇⟩ := (memo_supd F₇ M₇).and U₇
      clear F₆ N₆ hrel₅ M₆ PA₆
      repeat ((fail_if_success (with_reducible show wpAny _ _ (getMethod _ _ _) _ _ _)); ((first | (k_unfold; (try dsimp only)) | walk1 | (dsimp only; walk1)); (try dsimp only)))
      rename Fr g L _ _ => F₈
      rename News g L _ _ => N₈
      obtain ⟨M₈, A₈⟩ := hrel₇ _ F₈.keep fun p hp => (N₈ p hp).1
      obtain ⟨fd', d', od', sp', cell', oc', pm'', c4', ctv'', tkk', b1, b2, b3, b4, b5, b6, b7⟩ := id A₈
      refine fn_method lk_fn_span b1 b2 b3 rfl fun tk₃ => ?_
      dsimp only
      refine callWith_F0 ⟨_, _, _, _, b4⟩ ?_
      refine span_con (by ktr_room) (T.nolimit.keeps F₈.keep) b4 b5.rec' b6 b7 fun tup t' h₉ tk₉ hk₉ hs₉ ht₉ => ?_
      have F₉ := fr_keep F₈ hk₉
      have N₉ : News g L h₉ ((tup, { cls := .type "tuple", data := .seq #[.int j tkk', .int (j + 1) t'] }) :: rel₇) := fun p hp => by
        rcases List.mem_cons.mp hp with rfl | hp
        · exact ⟨ht₉, Fr.new F₈ hs₉⟩
        · exact ⟨hk₉ _ _ (N₈ p hp).1, (N₈ p hp).2⟩
      clear F₈ N₈ b1 b2 b3 b4 b5 b6 b7 A₈ M₈
      repeat ((fail_if_success (with_reducible show wpAny _ _ (execs [Stmt.Assign _ _ _, Stmt.Return _ _] _) _ _ _)); ((first | (k_unfold; (try dsimp only)) | walk1 | (dsimp only; walk1)); (try dsimp only)))
      rename Fr g L _ _ => F₁₀
      rename News g L _ _ => N₁₀
      obtain ⟨M₁₀, _⟩ := hrel₇ _ F₁₀.keep fun p hp => (N₁₀ p (.tail _ hp)).1
      have e : (if (0 : Int) > (j : Int) - 1 then (0 : Int) else (j : Int) - 1) = ((j - 1 : Nat) : Int) := by split <;> omega
      refine turn_tail (k := j - 1) B F₁₀ (congrArg (fun z => some (Value.int z _)) e) rfl X T (.inr ⟨_, _, _, M₁₀⟩) hdp hun hx (by omega) fun t' h' tk m' F' M' => ?_
      exact h _ (.inr ⟨by rw [← hys]; simpa using hb, .inr ⟨j, a1, a2, a3, rfl⟩⟩) t' h' tk m' F' M'

theorem turn_con {w : World} {n : Nat} {p : Program} {loose : List Str} {mean : ExcName → Option Value} {mg mb : Str → Option Value} {dp un : Nat} {gd : Option (List Code)} {cn : Str} {cs : Scope} {a : Addr} {ccd : Value} {cl : List (Str × Addr)} {outer : List Env} {A₀ : Around} {base h₀ : Heap} {L : Addr} {m : Str → Option Value} {s : Shared} {Q E : Value → Shared → Prop} {x : Str} {t tc : Tok} {col : Int} {up : Bool}
    (B : Below A₀ base outer h₀) (F : Fr h₀ L s.heap m) (X : (hd.heap_39 w.params).In h₀) (T : Top p loose mean mg mb h₀) (S : Solid n h₀) (hn : n ≤ h₀.objs.size) (hcs : cs.kind = .function) (hdp : dp + 4 < recursionLimit) (hun : un + 40 < cLine)
    (ME : Memo n s.heap) (hx : x.length ≤ 6) (hc : 1 ≤ col) (hc' : col ≤ x.length)
    (h : ∀ k, TurnAt x col up k → ∀ t' h' tk, Held n s.heap h' → Memo n h' → Q (.str (turned x k) t') { s with heap := h', toks := tk }) :
    wpAny (model Challenge.rw_mr0024_01.row.prog w) (ktrTop dp un gd cn cs L a ccd cl outer) (call (.ref 54) [.str x t, .int col tc, .bool up]) Q E s := by
  revert X; k_fill; intro X
  refine wpAny_call ?_
  refine' enterK (binds := [(Str.ofString "line", .str x t), (Str.ofString "col", .int col tc), (Str.ofString "up", .bool up)]) n B F X T S rfl rfl hcs ?ko ?kc ?kd ?kb ?kl ?_ ?k5 ?k6 ?k7 ?k8
  (case ko => k_is)
  (case kc => k_is)
  (case kd => ktr_room)
  (case kb => exact BindsTo.of_eq rfl)
  (case kl => exact locs rfl)
  (case k5 => decide)
  (case k6 => exact rfl)
  (case k7 => exact rfl)
  (case k8 => exact rfl)
  intro g L' h₁ tk F₁ B₁ X₁ T₁ S₁ hg hk hsub hz
  refine turn_body B₁ F₁ X₁ T₁ S₁ (Nat.le_trans hn hz) (ME.keep hk) hdp hun hx hc hc' ?_
  intro k hk t' h' tk' m' F' M'
  exact ⟨⟨m', F'⟩, fun H => h k hk t' h' tk' H M'⟩
end Mine
end

section
open PySem PySem.W PyProof.Rows PySem.Calls PySem.Spec
set_option maxRecDepth 100000
set_option maxHeartbeats 4000000
namespace Mine
def dueS (x : Str) (col num : Int) : Str := dueP x col num col.toNat ++ Txt.slice x (some col) none
def nextN (col num : Int) (up : Bool) : Int := (num + (if up then 1 else -1)).fmod (2 ^ col.toNat)

def onB (c N i : Nat) : Bool := (N / 2 ^ (c - 1 - i) + N / 2 ^ (c - i)) % 2 == 1
def nxt (c N : Nat) (up : Bool) : Nat := if up then (N + 1) % 2 ^ c else (N + (2 ^ c - 1)) % 2 ^ c
def tAt (c N : Nat) (up : Bool) (k : Nat) : Prop :=
  ((((List.range c).filter (onB c N)).length % 2 == 0) = up ∧ k = c - 1) ∨
  ((((List.range c).filter (onB c N)).length % 2 == 0) ≠ up ∧
    (((∀ i, i < c → onB c N i = false) ∧ k = 0) ∨ ∃ j, j < c ∧ onB c N j = true ∧ (∀ i, i < c → j < i → onB c N i = false) ∧ k = j - 1))
set_option synthInstance.maxSize 4096 in
set_option synthInstance.maxHeartbeats 400000 in
theorem gray : ∀ c, c < 7 → ∀ N, N < 2 ^ c → ∀ up k, k < c → tAt c N up k → ∀ i, i < c → onB c (nxt c N up) i = (if i = k then !onB c N i else onB c N i) := by
  unfold tAt
  decide +kernel

def dueN (cs : List Nat) (c N i : Nat) : Nat := cs.getD i 0 % 128 + (if onB c N i then 128 else 0)
theorem dueN_eq (cs : List Nat) (c N i : Nat) : dueN cs c N i = cs.getD i 0 % 128 + 128 * ((N / 2 ^ (c - 1 - i) + N / 2 ^ (c - i)) % 2) := by
  unfold dueN onB
  rcases Nat.mod_two_eq_zero_or_one (N / 2 ^ (c - 1 - i) + N / 2 ^ (c - i)) with e | e <;> rw [e] <;> rfl
theorem getD_toList (x : Str) (i : Nat) : x.cps.getD i 0 = x.cps.toList.getD i 0 := by
  simp [Array.getD, List.getD]
  split <;> simp_all
theorem dueC_nat {x : Str} {c N i : Nat} (hi : i < c) (hc : c ≤ x.cps.size) : dueC x (c : Int) (N : Int) (i : Int) = dueN x.cps.toList c N i := by
  have hl : (x.length : Int) = (x.cps.size : Int) := rfl
  unfold dueC
  rw [item_at (by omega) (by omega), dueN_eq, Int.toNat_natCast, ← getD_toList]
  have e1 : ((c : Int) - 1 - (i : Int)).toNat = c - 1 - i := by omega
  have e2 : ((c : Int) - (i : Int)).toNat = c - i := by omega
  rw [e1, e2]
  generalize x.cps.getD i 0 = a
  show ((((a : Nat) : Int)).fmod 128 + _).toNat = _
  have p1 : (0 : Int) ≤ 2 ^ (c - 1 - i) := Int.le_of_lt (Int.pow_pos (by decide))
  have p2 : (0 : Int) ≤ 2 ^ (c - i) := Int.le_of_lt (Int.pow_pos (by decide))
  rw [Int.fmod_eq_emod_of_nonneg _ (by decide), Int.fmod_eq_emod_of_nonneg _ (by decide), Int.fdiv_eq_ediv_of_nonneg _ p1, Int.fdiv_eq_ediv_of_nonneg _ p2]
  have e3 : ((N : Int) / 2 ^ (c - 1 - i)) = ((N / 2 ^ (c - 1 - i) : Nat) : Int) := by push_cast; rfl
  have e4 : ((N : Int) / 2 ^ (c - i)) = ((N / 2 ^ (c - i) : Nat) : Int) := by push_cast; rfl
  rw [e3, e4]
  omega
theorem dueP_list {x : Str} {col num : Int} : ∀ i : Nat, (dueP x col num i).cps.toList = (List.range i).map fun (k : Nat) => dueC x col num (k : Int)
  | 0 => rfl
  | i + 1 => by
    rw [List.range_succ, List.map_append, ← dueP_list i]
    show (dueP x col num i ++ ⟨#[dueC x col num i]⟩).cps.toList = _
    rw [Str.cps_append, Array.toList_append]
    rfl
def dueL (cs : List Nat) (c N : Nat) : List Nat := (List.range c).map (dueN cs c N) ++ cs.drop c
theorem slice_to_list {x : Str} {c : Nat} (hc : c ≤ x.cps.size) : (Txt.slice x none (some (c : Int))).cps.toList = x.cps.toList.take c := by
  have hl : (x.length : Int) = (x.cps.size : Int) := rfl
  rw [beq_iff_eq.mp (slice_closes_toL (x := x) (j := (c : Int)) (by omega) (by omega))]
  simp
theorem slice_from_list {x : Str} {c : Nat} (hc : c ≤ x.cps.size) : (Txt.slice x (some (c : Int)) none).cps.toList = x.cps.toList.drop c := by
  have hl : (x.length : Int) = (x.cps.size : Int) := rfl
  rw [slice_from_eq (x := x) (i := (c : Int)) (by omega) (by omega) rfl]
  show List.take _ (List.drop _ _) = _
  rw [Int.toNat_natCast]
  refine List.take_of_length_le ?_
  rw [List.length_drop, Array.length_toList]
  omega
theorem dueS_list {x : Str} {c N : Nat} (hc : c ≤ x.cps.size) : (dueS x (c : Int) (N : Int)).cps.toList = dueL x.cps.toList c N := by
  unfold dueS dueL
  rw [Str.cps_append, Array.toList_append, slice_from_list hc, Int.toNat_natCast, dueP_list]
  congr 1
  refine List.map_congr_left fun k hk => dueC_nat (List.mem_range.mp hk) hc
theorem str_ext {x y : Str} (h : x.cps.toList = y.cps.toList) : x = y := Str.ext' (Array.toList_inj.mp h)
theorem dueL_length {cs : List Nat} {c N : Nat} (hc : c ≤ cs.length) : (dueL cs c N).length = cs.length := by
  unfold dueL
  rw [List.length_append, List.length_map, List.length_range, List.length_drop]
  omega
theorem dueS_length {x : Str} {col num : Int} (hc : 1 ≤ col) (hc' : col ≤ x.length) : (dueS x col num).length = x.length := by
  have hl : (x.length : Int) = (x.cps.size : Int) := rfl
  obtain ⟨c, rfl⟩ : ∃ c : Nat, col = c := ⟨col.toNat, by omega⟩
  show (dueS x c num).cps.size = x.cps.size
  unfold dueS
  rw [Str.cps_append, Array.size_append, ← Array.length_toList, ← Array.length_toList (xs := (Txt.slice _ _ _).cps), dueP_list, slice_from_list (by omega), List.length_map, List.length_range, List.length_drop, Array.length_toList]
  omega
theorem nextN_bounds {col num : Int} {up : Bool} : 0 ≤ nextN col num up ∧ nextN col num up < 2 ^ col.toNat := by
  have p : (0 : Int) < 2 ^ col.toNat := Int.pow_pos (by decide)
  exact ⟨Int.fmod_nonneg_of_pos _ p, Int.fmod_lt_of_pos _ p⟩
theorem nextN_nat {c N : Nat} {up : Bool} : nextN (c : Int) (N : Int) up = (nxt c N up : Int) := by
  unfold nextN nxt
  have p : 0 < 2 ^ c := Nat.pow_pos (by decide)
  have p' : (0 : Int) < 2 ^ c := Int.pow_pos (by decide)
  have e : ((2 ^ c : Nat) : Int) = (2 : Int) ^ c := by push_cast; rfl
  rw [Int.toNat_natCast, Int.fmod_eq_emod_of_nonneg _ (Int.le_of_lt p')]
  cases up
  · show ((N : Int) + -1) % 2 ^ c = (((N + (2 ^ c - 1)) % 2 ^ c : Nat) : Int)
    rw [Int.natCast_emod, e, Int.natCast_add, Int.natCast_sub (by omega), e, show (N : Int) + (2 ^ c - ((1 : Nat) : Int)) = ((N : Int) + -1) + 2 ^ c by omega, Int.add_emod_right]
  · show ((N : Int) + 1) % 2 ^ c = (((N + 1) % 2 ^ c : Nat) : Int)
    rw [Int.natCast_emod, e]; rfl
theorem turned_list {y : Str} {k : Nat} (hk : k < y.cps.size) : (turned y k).cps.toList = y.cps.toList.set k (flipC (y.cps.toList.getD k 0)) := by
  unfold turned
  rw [Str.cps_append, Array.toList_append, Str.cps_append, Array.toList_append, slice_to_list (by omega), show ((k : Int) + 1) = ((k + 1 : Nat) : Int) by omega, slice_from_list (by omega), List.set_eq_take_append_cons_drop, if_pos (by rw [Array.length_toList]; exact hk), getD_toList, List.append_assoc]
  rfl
theorem meta_dueN (cs : List Nat) (c N i : Nat) : isMeta (dueN cs c N i) = onB c N i := by
  unfold isMeta dueN
  have := Nat.mod_lt (cs.getD i 0) (show 0 < 128 by decide)
  cases onB c N i
  · refine decide_eq_false ?_
    rw [if_neg nofun]
    omega
  · refine decide_eq_true ?_
    rw [if_pos rfl]
    omega
theorem dueL_getD {cs : List Nat} {c N i : Nat} (hi : i < c) : (dueL cs c N).getD i 0 = dueN cs c N i := by
  unfold dueL
  rw [List.getD_eq_getElem?_getD, List.getElem?_append_left (by rw [List.length_map, List.length_range]; exact hi), List.getElem?_map, List.getElem?_range hi]
  rfl
theorem dueL_take (cs : List Nat) (c N : Nat) : (dueL cs c N).take c = (List.range c).map (dueN cs c N) := by
  unfold dueL
  exact List.take_left' (by rw [List.length_map, List.length_range])
theorem dueL_metas (cs : List Nat) (c N : Nat) : (((dueL cs c N).take c).filter isMeta).length = ((List.range c).filter (onB c N)).length := by
  rw [dueL_take, List.filter_map, List.length_map]
  congr 2
  funext i
  exact meta_dueN cs c N i
theorem cnt_due {y : Str} {c : Nat} (hc : c ≤ y.cps.size) : cnt (Txt.slice y none (some (c : Int))) (Txt.slice y none (some (c : Int))).cps.size = ((y.cps.toList.take c).filter isMeta).length := by
  unfold cnt
  rw [← Array.length_toList, List.take_length, slice_to_list hc]
theorem flip_dueN {cs : List Nat} {c N M i : Nat} (h : onB c M i = !onB c N i) : flipC (dueN cs c N i) = dueN cs c M i := by
  unfold flipC dueN
  rw [h]
  have := Nat.mod_lt (cs.getD i 0) (show 0 < 128 by decide)
  cases onB c N i
  · show (if 127 < cs.getD i 0 % 128 + 0 then (cs.getD i 0 % 128 + 0) % 128 else cs.getD i 0 % 128 + 0 + 128) = cs.getD i 0 % 128 + 128
    rw [if_neg (by omega)]
  · show (if 127 < cs.getD i 0 % 128 + 128 then (cs.getD i 0 % 128 + 128) % 128 else cs.getD i 0 % 128 + 128 + 128) = cs.getD i 0 % 128 + 0
    rw [if_pos (by omega)]
    omega
theorem turnAt_nat {x : Str} {c N : Nat} {up : Bool} {k : Nat} (hc : c ≤ x.cps.size) (hk : TurnAt (dueS x (c : Int) (N : Int)) (c : Int) up k) (h1 : 1 ≤ c) : tAt c N up k ∧ k < c := by
  have hs : (dueS x (c : Int) (N : Int)).cps.size = x.cps.size := dueS_length (by omega) (by have hl : (x.length : Int) = (x.cps.size : Int) := rfl; omega)
  have hg : ∀ i, i < c → ((dueS x (c : Int) (N : Int)).cps.getD i 0 ≤ 127 ↔ onB c N i = false) := fun i hi => by
    rw [getD_toList, dueS_list hc, dueL_getD hi, ← meta_dueN x.cps.toList, isMeta, decide_eq_false_iff_not]
    omega
  have hcnt : (((((cnt (Txt.slice (dueS x (c : Int) (N : Int)) none (some (c : Int))) (Txt.slice (dueS x (c : Int) (N : Int)) none (some (c : Int))).cps.size : Nat) : Int).fmod 2 == 0) : Bool)) = (((List.range c).filter (onB c N)).length % 2 == 0) := by
    rw [cnt_due (by omega), dueS_list hc, dueL_metas, Int.fmod_eq_emod_of_nonneg _ (by decide), Bool.eq_iff_iff, beq_iff_eq, beq_iff_eq]
    omega
  unfold TurnAt at hk
  unfold tAt
  rw [hcnt] at hk
  rcases hk with ⟨a, b⟩ | ⟨a, ⟨b, rfl⟩ | ⟨j, b1, b2, b3, rfl⟩⟩
  · exact ⟨.inl ⟨a, by omega⟩, by omega⟩
  · exact ⟨.inr ⟨a, .inl ⟨fun i hi => (hg i hi).mp (b i (by omega)), rfl⟩⟩, by omega⟩
  · refine ⟨.inr ⟨a, .inr ⟨j, by omega, ?_, fun i hi hj => (hg i hi).mp (b3 i hj (by omega)), rfl⟩⟩, by omega⟩
    cases e : onB c N j
    · have := (hg j (by omega)).mpr e
      omega
    · rfl
/-- The plain law of one turn. -/
theorem one_turn {x : Str} {col num : Int} {up : Bool} {k : Nat} (hx : x.length ≤ 6) (hc : 1 ≤ col) (hc' : col ≤ x.length) (h0 : 0 ≤ num) (h1 : num < 2 ^ col.toNat) (hk : TurnAt (dueS x col num) col up k) :
    turned (dueS x col num) k = dueS x col (nextN col num up) := by
  have hl : x.length = x.cps.size := rfl
  obtain ⟨c, rfl⟩ : ∃ c : Nat, col = c := ⟨col.toNat, by omega⟩
  obtain ⟨N, rfl⟩ : ∃ N : Nat, num = N := ⟨num.toNat, by omega⟩
  have hc2 : c ≤ x.cps.size := by omega
  have hN : N < 2 ^ c := by
    rw [Int.toNat_natCast] at h1
    exact_mod_cast h1
  obtain ⟨tk, kc⟩ := turnAt_nat hc2 hk (by omega)
  have G := gray c (by omega) N hN up k kc tk
  rw [nextN_nat]
  refine str_ext ?_
  rw [turned_list (by rw [show (dueS x (c : Int) (N : Int)).cps.size = x.cps.size from dueS_length hc hc']; omega), dueS_list hc2, dueS_list hc2, dueL_getD kc]
  have gk := G k kc
  rw [if_pos rfl] at gk
  rw [flip_dueN gk]
  refine List.ext_getElem? fun i => ?_
  rw [List.getElem?_set]
  unfold dueL
  by_cases hi : i < c
  · rw [List.getElem?_append_left (by rw [List.length_map, List.length_range]; exact hi), List.getElem?_append_left (by rw [List.length_map, List.length_range]; exact hi), List.getElem?_map, List.getElem?_map, List.getElem?_range hi]
    by_cases e : k = i
    · subst e
      rw [if_pos rfl, if_pos (by rw [List.length_append, List.length_map, List.length_range]; omega)]
      rfl
    · rw [if_neg e]
      have gi := G i hi
      rw [if_neg (fun h => e h.symm)] at gi
      show some _ = some _
      unfold dueN
      rw [gi]
  · rw [if_neg (by omega), List.getElem?_append_right (by rw [List.length_map, List.length_range]; omega), List.getElem?_append_right (by rw [List.length_map, List.length_range]; omega), List.length_map, List.length_map]

def numN (cs : List Nat) : Nat → Nat
  | 0 => 0
  | i + 1 => 2 * numN cs i + (numN cs i + cs.getD i 0 / 128) % 2
theorem numN_lt (cs : List Nat) : ∀ i, numN cs i < 2 ^ i
  | 0 => by
    show 0 < 1
    decide
  | i + 1 => by
    have := numN_lt cs i
    rw [Nat.pow_succ]
    show 2 * numN cs i + (numN cs i + cs.getD i 0 / 128) % 2 < _
    omega
theorem numN_div (cs : List Nat) : ∀ c i, i ≤ c → numN cs c / 2 ^ (c - i) = numN cs i
  | 0, i, h => by
    obtain rfl : i = 0 := by omega
    rw [Nat.sub_self, Nat.pow_zero, Nat.div_one]
  | c + 1, i, h => by
    by_cases e : i = c + 1
    · subst e
      rw [Nat.sub_self, Nat.pow_zero, Nat.div_one]
    · have ih := numN_div cs c i (by omega)
      rw [show c + 1 - i = (c - i) + 1 by omega, Nat.pow_succ, Nat.mul_comm, ← Nat.div_div_eq_div_mul]
      rw [show numN cs (c + 1) / 2 = numN cs c from ?_, ih]
      show (2 * numN cs c + (numN cs c + cs.getD c 0 / 128) % 2) / 2 = _
      omega
theorem numN_due {cs : List Nat} {c i : Nat} (hi : i < c) (h : cs.getD i 0 < 256) : dueN cs c (numN cs c) i = cs.getD i 0 := by
  rw [dueN_eq, numN_div cs c i (by omega), show c - 1 - i = c - (i + 1) by omega, numN_div cs c (i + 1) (by omega)]
  show _ + 128 * ((2 * numN cs i + (numN cs i + cs.getD i 0 / 128) % 2 + numN cs i) % 2) = _
  omega
theorem numF_nat (cs : List Nat) : ∀ i, i ≤ cs.length → numF ((cs.take i).map fun (c : Nat) => (c : Int)) = (numN cs i : Int)
  | 0, _ => rfl
  | i + 1, h => by
    have e : cs[i]? = some (cs.getD i 0) := by
      rw [List.getD_eq_getElem?_getD, List.getElem?_eq_getElem (by omega)]
      rfl
    rw [List.take_add_one, e, List.map_append]
    show numF (_ ++ [((cs.getD i 0 : Nat) : Int)]) = _
    rw [numF_snoc, numF_nat cs i (by omega), Int.fmod_eq_emod_of_nonneg _ (by decide), Int.fdiv_eq_ediv_of_nonneg _ (by decide)]
    show _ = ((2 * numN cs i + (numN cs i + cs.getD i 0 / 128) % 2 : Nat) : Int)
    omega
theorem first_due0 {x : Str} {col : Int} (hx : ∀ c ∈ x.cps.toList, c < 256) (hc : 1 ≤ col) (hc' : col ≤ x.length) :
    0 ≤ numF (KStt.codes (Txt.slice x none (some col))) ∧ numF (KStt.codes (Txt.slice x none (some col))) < 2 ^ col.toNat ∧ dueS x col (numF (KStt.codes (Txt.slice x none (some col)))) = x := by
  have hl : x.length = x.cps.size := rfl
  obtain ⟨c, rfl⟩ : ∃ c : Nat, col = c := ⟨col.toNat, by omega⟩
  have hc2 : c ≤ x.cps.size := by omega
  have e : numF (KStt.codes (Txt.slice x none (some (c : Int)))) = (numN x.cps.toList c : Int) := by
    unfold KStt.codes
    rw [slice_to_list hc2]
    exact numF_nat _ _ (by rw [Array.length_toList]; exact hc2)
  rw [e, Int.toNat_natCast]
  refine ⟨by omega, ?_, ?_⟩
  · have := numN_lt x.cps.toList c
    exact_mod_cast this
  · refine str_ext ?_
    rw [dueS_list hc2]
    unfold dueL
    conv => rhs; rw [← List.take_append_drop c x.cps.toList]
    congr 1
    refine List.ext_getElem? fun i => ?_
    by_cases hi : i < c
    · have hs : i < x.cps.toList.length := by rw [Array.length_toList]; omega
      have eg : x.cps.toList[i]? = some (x.cps.toList.getD i 0) := by
        rw [List.getD_eq_getElem?_getD, List.getElem?_eq_getElem hs]
        rfl
      rw [List.getElem?_map, List.getElem?_range hi, List.getElem?_take_of_lt hi, eg]
      show some _ = some _
      rw [numN_due hi (hx _ (List.mem_of_getElem? eg))]
    · rw [List.getElem?_eq_none (by rw [List.length_map, List.length_range]; omega), List.getElem?_eq_none (by rw [List.length_take]; omega)]
end Mine
end

section
open PySem PySem.W PyProof.Rows PySem.Calls PySem.Spec
set_option maxRecDepth 100000
set_option maxHeartbeats 4000000
namespace Mine
def lawStmt : Stmt := match Challenge.pw_mr0024_01.main.body with
  | _ :: _ :: _ :: _ :: _ :: _ :: _ :: _ :: _ :: _ :: _ :: x :: _ => x
  | _ => default
def outerFor : Stmt := match (bodyOf lawStmt) with
  | _ :: _ :: _ :: _ :: _ :: x :: _ => x
  | _ => default
def innerFor : Stmt := secondS (bodyOf outerFor)
def lawB (x : Str) (t : Tok) (col : Int) (tc : Tok) (D₀ : Addr) (num : Int) (tt tn : Tok) : List (Str × Value) :=
  [(Str.ofString "turned", .str (dueS x col num) tt), (Str.ofString "number", .int num tn), (Str.ofString "line", .str x t), (Str.ofString "col", .int col tc), (Str.ofString "numbers", .ref D₀)]

theorem lawB_of {g h : Heap} {L : Addr} {mm : Str → Option Value} {x : Str} {t tc : Tok} {col num : Int} {D₀ : Addr} (Fx : Fr g L h mm) (e1 : ∃ tt, mm (Str.ofString "turned") = some (.str (dueS x col num) tt)) (e2 : ∃ tn, mm (Str.ofString "number") = some (.int num tn))
    (e3 : mm (Str.ofString "line") = some (.str x t)) (e4 : mm (Str.ofString "col") = some (.int col tc)) (e5 : mm (Str.ofString "numbers") = some (.ref D₀)) : ∃ tt tn, ∀ q ∈ lawB x t col tc D₀ num tt tn, mm q.1 = some q.2 := by
  obtain ⟨tt, e1⟩ := e1
  obtain ⟨tn, e2⟩ := e2
  refine ⟨tt, tn, fun q hq => ?_⟩
  simp only [lawB, List.mem_cons, List.not_mem_nil, or_false] at hq
  rcases hq with rfl | rfl | rfl | rfl | rfl <;> assumption

theorem inner_turn {w : World} {n : Nat} {p : Program} {loose : List Str} {mean : ExcName → Option Value} {mg mb : Str → Option Value} {fa D₀ : Addr} {cd : Value} {base g : Heap} {L : Addr} {s : Shared} {m : Str → Option Value} {x : Str} {t tc tt tn tj : Tok} {col num j : Int} {kl : List (Addr × Obj)} {Q : Flow → Shared → Prop} {E : Value → Shared → Prop}
    (NK : News g L s.heap kl) (hkl : ∀ q ∈ kl, isTab q.2 = false) (B : Below callerA base [] g) (F₀ : Fr g L s.heap m) (hm : ∀ q ∈ lawB x t col tc D₀ num tt tn, m q.1 = some q.2) (hj : m (Str.ofString "jump") = some (.int j tj)) (X : (hd.heap_39 w.params).In g) (T : Top p loose mean mg mb g) (S : Solid n g) (hn : n ≤ g.objs.size) (ME : Memo n s.heap)
    (hx : x.length ≤ 6) (hc : 1 ≤ col) (hc' : col ≤ x.length) (h0 : 0 ≤ num) (h1 : num < 2 ^ col.toNat)
    (h : ∀ num' tt' tn' h' tk m', Fr g L h' m' → News g L h' kl → Memo n h' → (∀ q ∈ lawB x t col tc D₀ num' tt' tn', m' q.1 = some q.2) → (m' (Str.ofString "jump") = some (.int j tj)) → 0 ≤ num' → num' < 2 ^ col.toNat → Q .next { s with heap := h', toks := tk }) :
    wpAny (model Challenge.rw_mr0024_01.row.prog w) (callerA.deeper (envX (Str.ofString "law") (scopeOf lawStmt) L fa cd []))
      (execs (bodyOf innerFor) (envX (Str.ofString "law") (scopeOf lawStmt) L fa cd [])) Q E s := by
  revert X; k_fill; intro X
  obtain ⟨rel, NR, hrel⟩ := memo_supd0 F₀ ME
  have N : News g L s.heap (kl ++ rel) := NK.append NR
  clear NK NR
  have F := fr_pick F₀ ((Str.ofString "jump", .int j tj) :: lawB x t col tc D₀ num tt tn) (by
    intro q hq
    rcases List.mem_cons.mp hq with rfl | hq
    · exact hj
    · exact hm q hq)
  unfold lawB at F
  clear F₀
  conv in (execs _ _) => arg 1; whnf
  conv in (occs := *) (scopeOf _) => all_goals whnf
  repeat ((fail_if_success (with_reducible show wpAny _ _ (call (Value.ref 54) _) _ _ _)); ((first | (k_unfold; (try dsimp only)) | walk1 | (dsimp only; walk1)); (try dsimp only)))
  rename Fr g L _ _ => F₁
  rename News g L _ _ => N₁
  have h64 : (2 : Int) ^ col.toNat ≤ 64 := by
    have : col.toNat ≤ 6 := by omega
    exact_mod_cast Nat.pow_le_pow_right (n := 2) (by omega) this
  refine turn_con B F₁ X T S hn rfl (by decide) (by decide) (hrel _ F₁.keep fun q hq => (N₁ q (List.mem_append_right _ hq)).1) (by rw [dueS_length hc hc']; exact hx) hc (by rw [dueS_length hc hc']; exact hc') fun k hk t' h₂ tk₂ H₂ M₂ => ?_
  have F₂ := Fr.held F₁ S H₂
  have NK₂ : News g L h₂ kl := News.held (fun q hq => N₁ q (List.mem_append_left _ hq)) hkl H₂
  obtain ⟨rel₂, NR₂, hrel₂⟩ := memo_supd0 F₂ M₂
  have N₂ : News g L h₂ (kl ++ rel₂) := NK₂.append NR₂
  rw [one_turn hx hc hc' h0 h1 hk]
  clear F₁ N₁ NK₂ NR₂ hrel M₂ H₂
  by_cases hj0 : 0 < j
  · have e : nextN col num (decide (0 < j)) = (num + 1).fmod (2 ^ col.toNat) := by
      unfold nextN
      rw [decide_eq_true hj0]; rfl
    obtain ⟨b0, b1⟩ := nextN_bounds (col := col) (num := num) (up := decide (0 < j))
    rw [e] at b0 b1 ⊢
    repeat ((fail_if_success (with_reducible show wpAny _ _ (call (Value.ref 68) _) _ _ _)); ((first | (k_unfold; (try dsimp only)) | walk1 | (dsimp only; walk1)); (try dsimp only)))
    rename Fr g L _ _ => F₃
    rename News g L _ _ => N₃
    refine due_con B F₃ X N₃ T rfl (by decide) (by decide) hx hc hc' b0 (by omega) fun t₄ h₄ tk₄ F₄ N₄ => ?_
    rw [show dueP x col ((num + 1).fmod (2 ^ col.toNat)) col.toNat ++ Txt.slice x (some col) none = dueS x col ((num + 1).fmod (2 ^ col.toNat)) from rfl]
    clear F₃ N₃
    ((first | (k_unfold; (try dsimp only)) | walk1 | (dsimp only; walk1)); (try dsimp only))
    ((first | (k_unfold; (try dsimp only)) | walk1 | (dsimp only; walk1)); (try dsimp only))
    rw [if_neg (by rw [bne_self_eq_false]; nofun)]
    repeat ((first | (k_unfold; (try dsimp only)) | walk1 | (dsimp only; walk1)); (try dsimp only))
    rename Fr g L _ _ => F₅
    rename News g L _ _ => N₅
    obtain ⟨tt', tn', hB⟩ := lawB_of (x := x) (t := t) (col := col) (tc := tc) (D₀ := D₀) (num := (num + 1).fmod (2 ^ col.toNat)) F₅ ⟨_, rfl⟩ ⟨_, rfl⟩ rfl rfl rfl
    exact h _ tt' tn' _ _ _ F₅ (fun q hq => N₅ q (List.mem_append_left _ hq)) (hrel₂ _ F₅.keep fun q hq => (N₅ q (List.mem_append_right _ hq)).1) hB rfl b0 b1
  · have e : nextN col num (decide (0 < j)) = (num + -1).fmod (2 ^ col.toNat) := by
      unfold nextN
      rw [decide_eq_false hj0]; rfl
    obtain ⟨b0, b1⟩ := nextN_bounds (col := col) (num := num) (up := decide (0 < j))
    rw [e] at b0 b1 ⊢
    repeat ((fail_if_success (with_reducible show wpAny _ _ (call (Value.ref 68) _) _ _ _)); ((first | (k_unfold; (try dsimp only)) | walk1 | (dsimp only; walk1)); (try dsimp only)))
    rename Fr g L _ _ => F₃
    rename News g L _ _ => N₃
    refine due_con B F₃ X N₃ T rfl (by decide) (by decide) hx hc hc' b0 (by omega) fun t₄ h₄ tk₄ F₄ N₄ => ?_
    rw [show dueP x col ((num + -1).fmod (2 ^ col.toNat)) col.toNat ++ Txt.slice x (some col) none = dueS x col ((num + -1).fmod (2 ^ col.toNat)) from rfl]
    clear F₃ N₃
    ((first | (k_unfold; (try dsimp only)) | walk1 | (dsimp only; walk1)); (try dsimp only))
    ((first | (k_unfold; (try dsimp only)) | walk1 | (dsimp only; walk1)); (try dsimp only))
    rw [if_neg (by rw [bne_self_eq_false]; nofun)]
    repeat ((first | (k_unfold; (try dsimp only)) | walk1 | (dsimp only; walk1)); (try dsimp only))
    rename Fr g L _ _ => F₅
    rename News g L _ _ => N₅
    obtain ⟨tt', tn', hB⟩ := lawB_of (x := x) (t := t) (col := col) (tc := tc) (D₀ := D₀) (num := (num + -1).fmod (2 ^ col.toNat)) F₅ ⟨_, rfl⟩ ⟨_, rfl⟩ rfl rfl rfl
    exact h _ tt' tn' _ _ _ F₅ (fun q hq => N₅ q (List.mem_append_left _ hq)) (hrel₂ _ F₅.keep fun q hq => (N₅ q (List.mem_append_right _ hq)).1) hB rfl b0 b1
end Mine
end

section
open PySem PySem.W PyProof.Rows PySem.Calls PySem.Spec
set_option maxRecDepth 100000
set_option maxHeartbeats 4000000
namespace Mine
theorem Memo.off {n : Nat} {h h' : Heap} {it : Addr} {oI : Obj} (ME : Memo n h) (hI : h.get? it = some oI) (hc : oI.cls ≠ .none) (hc2 : oI.cls ≠ .type "code") (k : ∀ b o, b ≠ it → h.get? b = some o → h'.get? b = some o) : Memo n h' := by
  have offT : ∀ {b : Addr} {ps : Array Value}, h.get? b = some (tabObj ps) → h'.get? b = some (tabObj ps) := fun {b ps} e => k b _ (by rintro rfl; rw [e] at hI; cases hI; exact hc rfl) e
  have offC : ∀ {b P : Addr} {o : Obj} {q : Str}, h.get? b = some o → CodeO o b P q → h'.get? b = some o := fun {b P o q} e O => k b _ (by rintro rfl; rw [e] at hI; cases hI; exact hc2 O.cls) e
  have offA : ∀ {c : Addr} {q : Str}, CodeAt h c q → CodeAt h' c q := fun {c q} ⟨o, P, e, O⟩ => ⟨o, P, offC e O, O⟩
  rcases ME with e | ⟨c1, P1, c2, tab, ⟨o1, e1, O1⟩, lam, ab, ne, inner⟩
  · exact .inl (offT e)
  · refine .inr ⟨c1, P1, c2, offT tab, ⟨o1, offC e1 O1, O1⟩, offA lam, ab, ne, ?_⟩
    rcases inner with e | ⟨c3, c4, e, a3, a4⟩
    · exact .inl (offT e)
    · exact .inr ⟨c3, c4, offT e, offA a3, offA a4⟩

theorem inner_loop {w : World} {n : Nat} {p : Program} {loose : List Str} {mean : ExcName → Option Value} {mg mb : Str → Option Value} {fa D₀ : Addr} {cd : Value} {base g : Heap} {L : Addr} {s : Shared} {m : Str → Option Value} {x : Str} {t tc tt tn tj : Tok} {col num j : Int} {kl : List (Addr × Obj)} {Q : Flow → Shared → Prop} {E : Value → Shared → Prop}
    (NK : News g L s.heap kl) (hkl : ∀ q ∈ kl, isTab q.2 = false) (B : Below callerA base [] g) (F₀ : Fr g L s.heap m) (hm : ∀ q ∈ lawB x t col tc D₀ num tt tn, m q.1 = some q.2) (hj : m (Str.ofString "jump") = some (.int j tj)) (hj1 : -3 ≤ j) (hj2 : j ≤ 3) (X : (hd.heap_39 w.params).In g) (T : Top p loose mean mg mb g) (S : Solid n g) (hn : n ≤ g.objs.size) (ME : Memo n s.heap)
    (hx : x.length ≤ 6) (hc : 1 ≤ col) (hc' : col ≤ x.length) (h0 : 0 ≤ num) (h1 : num < 2 ^ col.toNat)
    (h : ∀ num' tt' tn' h' tk m', Fr g L h' m' → News g L h' kl → Memo n h' → (∀ q ∈ lawB x t col tc D₀ num' tt' tn', m' q.1 = some q.2) → 0 ≤ num' → num' < 2 ^ col.toNat → Q .next { s with heap := h', toks := tk }) :
    wpAny (model Challenge.rw_mr0024_01.row.prog w) (callerA.deeper (envX (Str.ofString "law") (scopeOf lawStmt) L fa cd []))
      (exec innerFor (envX (Str.ofString "law") (scopeOf lawStmt) L fa cd [])) Q E s := by
  revert X; k_fill; intro X
  obtain ⟨rel, NR, hrel⟩ := memo_supd0 F₀ ME
  have N : News g L s.heap (kl ++ rel) := NK.append NR
  clear NK NR
  have F := fr_pick F₀ ((Str.ofString "jump", .int j tj) :: lawB x t col tc D₀ num tt tn) (by
    intro q hq
    rcases List.mem_cons.mp hq with rfl | hq
    · exact hj
    · exact hm q hq)
  unfold lawB at F
  clear F₀
  conv in (exec _ _) => arg 1; whnf
  conv in (occs := *) (scopeOf _) => all_goals whnf
  refine wpAny_For ?_ (fun _ => rfl)
  repeat ((fail_if_success (with_reducible show wpAny _ _ (pyIter _) _ _ _)); ((first | (k_unfold; (try dsimp only)) | walk1 | (dsimp only; walk1)); (try dsimp only)))
  rename IsRange _ _ _ _ _ _ _ _ => hR
  rename Fr g L _ _ => F₂
  rename News g L _ _ => N₂
  have ha1 : 0 ≤ (if j < 0 then -j else j) := by split <;> omega
  have ha2 : (if j < 0 then -j else j) ≤ 3 := by split <;> omega
  generalize haj : (if j < 0 then -j else j) = aj at hR ha1 ha2 ⊢
  refine wpAny_pyIter_range hR (small_one (by decide) (by decide) (by omega) (by omega)) ?_
  rename Heap => hh
  generalize hit : hh.objs.size = it
  obtain ⟨nn, hnn⟩ : ∃ nn : Nat, Builtin.Range.rangeSize 0 aj 1 = (nn : Int) := ⟨_, rangeSize_nat _ _⟩
  dsimp only
  have M₂ : Memo n hh := hrel _ F₂.keep fun q hq => (N₂ q (List.mem_append_right _ hq)).1
  have itL : L < it := hit ▸ F₂.ns.lt
  have itg : g.get? it = none := Heap.get?_none_of_le (Nat.le_trans F₂.above (Nat.le_of_lt itL))
  have itN : ∀ q ∈ kl, q.1 ≠ it := fun q hq => Nat.ne_of_lt (hit ▸ Heap.lt_size (N₂ q (List.mem_append_left _ hq)).1)
  have W := Walks.range (prog := Challenge.rw_mr0024_01.row.prog) (w := w) (A := callerA.deeper (envX (Str.ofString "law") (scopeOf lawStmt) L fa cd [])) rfl it 0 1 nn
  refine codeAny_forLoop (fun k s' => ∃ h' tk m' num' tt' tn' i, s' = { s with heap := h', toks := tk } ∧ IsRangeIter h' it (0 + (i : Nat) * 1) ((nn : Int) - (i : Nat)) 1 ∧
      Fr g L h' m' ∧ News g L h' kl ∧ Memo n h' ∧ (∀ q ∈ lawB x t col tc D₀ num' tt' tn', m' q.1 = some q.2) ∧ m' (Str.ofString "jump") = some (.int j tj) ∧ 0 ≤ num' ∧ num' < 2 ^ col.toNat ∧ i ≤ nn ∧ k = nn + 1 - i) ?turn (nn + 1)
    ⟨_, _, _, num, tt, tn, 0, rfl, ?i0, F₂.push _, fun q hq => ⟨Heap.get?_push_of_some _ (N₂ q (List.mem_append_left _ hq)).1, (N₂ q (List.mem_append_left _ hq)).2⟩, M₂.keep fun b o e => Heap.get?_push_of_some _ e, ?bi, rfl, h0, h1, Nat.zero_le _, rfl⟩
  case i0 =>
    show Heap.get? _ it = _
    rw [← hit, Heap.get?_push_size _ rfl, hnn]
    simp
  case bi =>
    intro q hq
    simp only [lawB, List.mem_cons, List.not_mem_nil, or_false] at hq
    rcases hq with rfl | rfl | rfl | rfl | rfl <;> rfl
  case turn =>
    clear F₂ N₂ M₂ hR hrel
    rintro k s' ⟨h', tk, m', num', tt', tn', i, rfl, hst, F₃, NK₃, M₃, hm₃, hj₃, b0, b1, hi, rfl⟩
    have next : ∀ h₁ : Heap, (∀ b o, b ∉ [it] → h'.get? b = some o → h₁.get? b = some o) → Fr g L h₁ m' ∧ News g L h₁ kl ∧ Memo n h₁ := fun h₁ hk₁ => by
      refine ⟨⟨F₃.ns.at' fun o e => hk₁ _ o (fun q => Nat.ne_of_lt itL (List.mem_singleton.mp q)) e, fun b o e => hk₁ b o (fun q => ?_) (F₃.keep b o e), F₃.above⟩, fun q hq => ⟨hk₁ _ _ (fun q2 => itN q hq (List.mem_singleton.mp q2)) (NK₃ q hq).1, (NK₃ q hq).2⟩, M₃.off hst nofun (by simp) fun b o hb e => hk₁ b o (fun q => hb (List.mem_singleton.mp q)) e⟩
      rw [List.mem_singleton.mp q, itg] at e; cases e
    by_cases hlt : i < nn
    · refine W.item i _ _ _ hlt hst fun v₁ h₁ tk₁ hP hst₁ hk₁ => ?_
      obtain ⟨tv, rfl⟩ := hP
      obtain ⟨F₄, NK₄, M₄⟩ := next h₁ hk₁
      obtain ⟨rel₄, NR₄, hrel₄⟩ := memo_supd0 F₄ M₄
      have NK₄' : News g L h₁ ((it, { cls := .type "range_iterator", dict := none, data := .fields #[rawInt (0 + ((i + 1 : Nat) : Int) * 1), rawInt ((nn : Int) - ((i + 1 : Nat) : Int)), rawInt 1], slots := #[] }) :: kl) := by
        intro q hq
        rcases List.mem_cons.mp hq with rfl | hq
        · exact ⟨hst₁, Nat.ne_of_gt itL, itg⟩
        · exact NK₄ q hq
      dsimp only
      refine wpAny_assign_Name (storeX_L F₄ (NK₄'.append NR₄) (fun h₂ F₅ N₅ => ?_) rfl rfl)
      have hkl' : ∀ q ∈ (it, ({ cls := .type "range_iterator", dict := none, data := .fields #[rawInt (0 + ((i + 1 : Nat) : Int) * 1), rawInt ((nn : Int) - ((i + 1 : Nat) : Int)), rawInt 1], slots := #[] } : Obj)) :: kl, isTab q.2 = false := by
        intro q hq
        rcases List.mem_cons.mp hq with rfl | hq
        · rfl
        · exact hkl q hq
      refine inner_turn (num := num') (tt := tt') (tn := tn') (t := t) (tc := tc) (D₀ := D₀) (j := j) (tj := tj) (fun q hq => N₅ q (List.mem_append_left _ hq)) hkl' B F₅ ?_ ?_ X T S hn (hrel₄ _ F₅.keep fun q hq => (N₅ q (List.mem_append_right _ hq)).1) hx hc hc' b0 b1 ?_
      · intro q hq
        have e := hm₃ q hq
        simp only [lawB, List.mem_cons, List.not_mem_nil, or_false] at hq
        rcases hq with rfl | rfl | rfl | rfl | rfl <;> (dsimp only at e ⊢; rw [if_neg (by decide)]; exact e)
      · rw [if_neg (by decide)]; exact hj₃
      · intro num₂ tt₂ tn₂ h₃ tk₃ m₃ F₆ N₆ M₆ hm₆ hj₆ c0 c1
        exact ⟨nn + 1 - (i + 1), by omega, h₃, tk₃, m₃, num₂, tt₂, tn₂, i + 1, rfl, (N₆ (it, _) (.head _)).1, F₆, fun q hq => N₆ q (.tail _ hq), M₆, hm₆, hj₆, c0, c1, hlt, rfl⟩
    · have hin : i = nn := by omega
      subst hin
      refine W.done _ _ _ hst fun h₁ tk₁ hk₁ => wpAny_execs_nil ?_
      obtain ⟨F₄, NK₄, M₄⟩ := next h₁ hk₁
      exact h num' tt' tn' _ _ _ F₄ NK₄ M₄ hm₃ b0 b1
end Mine
end

section
open PySem PySem.W PyProof.Rows PySem.Calls PySem.Spec
set_option maxRecDepth 100000
set_option maxHeartbeats 4000000
namespace Mine

theorem outer_turn {w : World} {n : Nat} {p : Program} {loose : List Str} {mean : ExcName → Option Value} {mg mb : Str → Option Value} {fa D₀ : Addr} {cd : Value} {base g : Heap} {L : Addr} {s : Shared} {m : Str → Option Value} {x : Str} {t tc tt tn ty : Tok} {col num y : Int} {kl : List (Addr × Obj)} {Q : Flow → Shared → Prop} {E : Value → Shared → Prop}
    (NK : News g L s.heap kl) (hkl : ∀ q ∈ kl, isTab q.2 = false) (B : Below callerA base [] g) (F₀ : Fr g L s.heap m) (hm : ∀ q ∈ lawB x t col tc D₀ num tt tn, m q.1 = some q.2) (hy : m (Str.ofString "x") = some (.int y ty)) (X : (hd.heap_39 w.params).In g) (T : Top p loose mean mg mb g) (S : Solid n g) (hn : n ≤ g.objs.size) (ME : Memo n s.heap)
    (hx : x.length ≤ 6) (hc : 1 ≤ col) (hc' : col ≤ x.length) (h0 : 0 ≤ num) (h1 : num < 2 ^ col.toNat)
    (h : ∀ num' tt' tn' h' tk m', Fr g L h' m' → News g L h' kl → Memo n h' → (∀ q ∈ lawB x t col tc D₀ num' tt' tn', m' q.1 = some q.2) → 0 ≤ num' → num' < 2 ^ col.toNat → Q .next { s with heap := h', toks := tk }) :
    wpAny (model Challenge.rw_mr0024_01.row.prog w) (callerA.deeper (envX (Str.ofString "law") (scopeOf lawStmt) L fa cd []))
      (execs (bodyOf outerFor) (envX (Str.ofString "law") (scopeOf lawStmt) L fa cd [])) Q E s := by
  revert X; k_fill; intro X
  obtain ⟨rel, NR, hrel⟩ := memo_supd0 F₀ ME
  have N : News g L s.heap (kl ++ rel) := NK.append NR
  clear NK NR
  have F := fr_pick F₀ ((Str.ofString "x", .int y ty) :: lawB x t col tc D₀ num tt tn) (by
    intro q hq
    rcases List.mem_cons.mp hq with rfl | hq
    · exact hy
    · exact hm q hq)
  unfold lawB at F
  clear F₀
  have hy0 : 0 ≤ y.fmod 5 := Int.fmod_nonneg_of_pos _ (by decide)
  have hy5 : y.fmod 5 < 5 := Int.fmod_lt_of_pos _ (by decide)
  conv in (execs _ _) => arg 1; whnf
  conv in (occs := *) (scopeOf _) => all_goals whnf
  repeat' ((fail_if_success (with_reducible show wpAny _ _ (exec (Stmt.For _ _ _ _ _) _) _ _ _)); ((first | (k_unfold; (try dsimp only)) | walk1 | (dsimp only; walk1)); (try dsimp only)))
  all_goals
    rename Fr g L _ _ => F₁
    rename News g L _ _ => N₁
  · obtain ⟨tt', tn', hB⟩ := lawB_of (x := x) (t := t) (col := col) (tc := tc) (D₀ := D₀) (num := num) F₁ ⟨_, rfl⟩ ⟨_, rfl⟩ rfl rfl rfl
    refine inner_loop (num := num) (fun q hq => N₁ q (List.mem_append_left _ hq)) hkl B F₁ hB rfl (by omega) (by omega) X T S hn (hrel _ F₁.keep fun q hq => (N₁ q (List.mem_append_right _ hq)).1) hx hc hc' h0 h1 ?_
    intro num' tt' tn' h' tk m' F' N' M' hB' c0 c1
    dsimp only
    exact wpAny_execs_nil (h num' tt' tn' h' tk m' F' N' M' hB' c0 c1)
  · obtain ⟨tt', tn', hB⟩ := lawB_of (x := x) (t := t) (col := col) (tc := tc) (D₀ := D₀) (num := num) F₁ ⟨_, rfl⟩ ⟨_, rfl⟩ rfl rfl rfl
    refine inner_loop (num := num) (fun q hq => N₁ q (List.mem_append_left _ hq)) hkl B F₁ hB rfl (by omega) (by omega) X T S hn (hrel _ F₁.keep fun q hq => (N₁ q (List.mem_append_right _ hq)).1) hx hc hc' h0 h1 ?_
    intro num' tt' tn' h' tk m' F' N' M' hB' c0 c1
    dsimp only
    exact wpAny_execs_nil (h num' tt' tn' h' tk m' F' N' M' hB' c0 c1)

theorem outer_loop {w : World} {n : Nat} {p : Program} {loose : List Str} {mean : ExcName → Option Value} {mg mb : Str → Option Value} {fa D₀ : Addr} {cd : Value} {base g : Heap} {L : Addr} {s : Shared} {m : Str → Option Value} {x : Str} {t tc tt tn : Tok} {col num : Int} {us : List Value} {ks : List Int} {c₀ : Nat} {Q : Flow → Shared → Prop} {E : Value → Shared → Prop}
    (hD : s.heap.get? D₀ = some (listOf us.toArray c₀)) (hDL : D₀ ≠ L) (hDg : g.get? D₀ = none) (hi : IntsAre us ks) (B : Below callerA base [] g) (F₀ : Fr g L s.heap m) (hm : ∀ q ∈ lawB x t col tc D₀ num tt tn, m q.1 = some q.2) (X : (hd.heap_39 w.params).In g) (T : Top p loose mean mg mb g) (S : Solid n g) (hn : n ≤ g.objs.size) (ME : Memo n s.heap)
    (hx : x.length ≤ 6) (hc : 1 ≤ col) (hc' : col ≤ x.length) (h0 : 0 ≤ num) (h1 : num < 2 ^ col.toNat)
    (h : ∀ h' tk m', Fr g L h' m' → Memo n h' → Q .next { s with heap := h', toks := tk }) :
    wpAny (model Challenge.rw_mr0024_01.row.prog w) (callerA.deeper (envX (Str.ofString "law") (scopeOf lawStmt) L fa cd []))
      (exec outerFor (envX (Str.ofString "law") (scopeOf lawStmt) L fa cd [])) Q E s := by
  conv in (exec _ _) => arg 1; whnf
  conv in (occs := *) (scopeOf _) => all_goals whnf
  refine wpAny_For ?_ (fun _ => rfl)
  refine nameX_L F₀ (hm (Str.ofString "numbers", .ref D₀) (by simp [lawB])) ?_ rfl rfl
  have hls : s.heap.IsList D₀ us.toArray := ⟨_, hD, rfl, _, rfl⟩
  refine wpAny_pyIter_list hls ?_
  generalize hit : s.heap.objs.size = it
  have hDit : D₀ ≠ it := hit ▸ Nat.ne_of_lt (Heap.lt_size hD)
  have itL : L < it := hit ▸ F₀.ns.lt
  have itg : g.get? it = none := Heap.get?_none_of_le (Nat.le_trans F₀.above (Nat.le_of_lt itL))
  have W := Walks.list (prog := Challenge.rw_mr0024_01.row.prog) (w := w) (A := callerA.deeper (envX (Str.ofString "law") (scopeOf lawStmt) L fa cd [])) rfl it D₀ hDit us.toArray
  refine codeAny_forLoop (fun k s' => ∃ h' tk m' num' tt' tn' i, s' = { s with heap := h', toks := tk } ∧ h'.IsListIter it D₀ i ∧ h'.get? D₀ = some (listOf us.toArray c₀) ∧
      Fr g L h' m' ∧ Memo n h' ∧ (∀ q ∈ lawB x t col tc D₀ num' tt' tn', m' q.1 = some q.2) ∧ 0 ≤ num' ∧ num' < 2 ^ col.toNat ∧ i ≤ us.toArray.size ∧ k = us.toArray.size + 1 - i) ?turn (us.toArray.size + 1)
    ⟨_, _, _, num, tt, tn, 0, rfl, ?i0, Heap.get?_push_of_some _ hD, F₀.push _, ME.keep fun b o e => Heap.get?_push_of_some _ e, hm, h0, h1, Nat.zero_le _, rfl⟩
  case i0 => exact hit ▸ ⟨_, Heap.get?_push_size _ rfl, rfl, rfl⟩
  case turn =>
    rintro k s' ⟨h', tk, m', num', tt', tn', i, rfl, hst, hD', F₃, M₃, hm₃, b0, b1, hi', rfl⟩
    have hst' := hst
    obtain ⟨oI, eI, cI, dI⟩ := hst'
    have next : ∀ h₁ : Heap, (∀ b o, b ∉ [it] → h'.get? b = some o → h₁.get? b = some o) → Fr g L h₁ m' ∧ h₁.get? D₀ = some (listOf us.toArray c₀) ∧ Memo n h₁ := fun h₁ hk₁ => by
      refine ⟨⟨F₃.ns.at' fun o e => hk₁ _ o (fun q => Nat.ne_of_lt itL (List.mem_singleton.mp q)) e, fun b o e => hk₁ b o (fun q => ?_) (F₃.keep b o e), F₃.above⟩, hk₁ _ _ (fun q => hDit (List.mem_singleton.mp q)) hD', M₃.off eI (by rw [cI]; nofun) (by rw [cI]; simp) fun b o hb e => hk₁ b o (fun q => hb (List.mem_singleton.mp q)) e⟩
      rw [List.mem_singleton.mp q, itg] at e; cases e
    have hls' : h'.IsList D₀ us.toArray := ⟨_, hD', rfl, _, rfl⟩
    by_cases hlt : i < us.toArray.size
    · refine W.item i _ _ _ hlt ⟨hst, hls'⟩ fun v₁ h₁ tk₁ hP hst₁ hk₁ => ?_
      obtain ⟨y, ty, rfl, hy⟩ := hi.at i v₁ (by simpa using hP)
      obtain ⟨F₄, hD₄, M₄⟩ := next h₁ hk₁
      obtain ⟨rel₄, NR₄, hrel₄⟩ := memo_supd0 F₄ M₄
      obtain ⟨o₂, e₂, c₂, d₂⟩ := hst₁.1
      have NK₄ : News g L h₁ [(it, o₂), (D₀, listOf us.toArray c₀)] := by
        intro q hq
        simp only [List.mem_cons, List.not_mem_nil, or_false] at hq
        rcases hq with rfl | rfl
        · exact ⟨e₂, Nat.ne_of_gt itL, itg⟩
        · exact ⟨hD₄, hDL, hDg⟩
      dsimp only
      refine wpAny_assign_Name (storeX_L F₄ (NK₄.append NR₄) (fun h₂ F₅ N₅ => ?_) rfl rfl)
      refine outer_turn (num := num') (tt := tt') (tn := tn') (t := t) (tc := tc) (D₀ := D₀) (y := y) (ty := ty) (kl := [(it, o₂), (D₀, listOf us.toArray c₀)]) (fun q hq => N₅ q (List.mem_append_left _ hq)) ?_ B F₅ ?_ (by rw [if_pos rfl]) X T S hn (hrel₄ _ F₅.keep fun q hq => (N₅ q (List.mem_append_right _ hq)).1) hx hc hc' b0 b1 ?_
      · intro q hq
        simp only [List.mem_cons, List.not_mem_nil, or_false] at hq
        rcases hq with rfl | rfl
        · exact isTab_cls (by rw [c₂]; nofun)
        · rfl
      · intro q hq
        have e := hm₃ q hq
        simp only [lawB, List.mem_cons, List.not_mem_nil, or_false] at hq
        rcases hq with rfl | rfl | rfl | rfl | rfl <;> (dsimp only at e ⊢; rw [if_neg (by decide)]; exact e)
      · intro num₂ tt₂ tn₂ h₃ tk₃ m₃ F₆ N₆ M₆ hm₆ c0 c1
        exact ⟨us.toArray.size + 1 - (i + 1), by omega, h₃, tk₃, m₃, num₂, tt₂, tn₂, i + 1, rfl, ⟨o₂, (N₆ (it, o₂) (.head _)).1, c₂, d₂⟩, (N₆ (D₀, _) (.tail _ (.head _))).1, F₆, M₆, hm₆, c0, c1, hlt, rfl⟩
    · have hin : i = us.toArray.size := by omega
      subst hin
      refine W.done _ _ _ ⟨hst, hls'⟩ fun h₁ tk₁ hk₁ => wpAny_execs_nil ?_
      obtain ⟨F₄, _, M₄⟩ := next h₁ hk₁
      exact h _ _ _ F₄ M₄
end Mine
end

section
open PySem PySem.W PyProof.Rows PySem.Calls PySem.Spec
set_option maxRecDepth 100000
set_option maxHeartbeats 4000000
namespace Mine
open PyProof.Rows.LCt PyProof.Rows.LCg
def lineComp : Expr := match valueOf (secondS (bodyOf lawStmt)) with
  | .Call _ (e :: _) _ _ => e
  | _ => default
def chS (k : Int) : Str := ⟨#[(k.fmod 256).toNat]⟩

theorem chr_rest {w : World} {p : Program} {loose : List Str} {mean : ExcName → Option Value} {mg mb : Str → Option Value} {fa : Addr} {cd : Value} {base g : Heap} {L D₀ : Addr} {s : Shared} {m : Str → Option Value} {us : List Value} {ks : List Int} {rel : List (Addr × Obj)} {Fin : List Value → List (Addr × Obj) → Prop}
    (B : Below callerA base [] g) (X : (hd.heap_39 w.params).In g) (T : Top p loose mean mg mb g) (hi : IntsAre us ks) (hS : SrcAt g D₀ us.toArray rel)
    (hFin : ∀ ys, StrsAre ys (ks.map chS) → Fin ys rel) :
    ∀ k i ys, i + k = us.length → StrsAre ys ((ks.take i).map chS) →
    CompRest Challenge.rw_mr0024_01.row.prog w (callerA.deeper (envX (Str.ofString "law") (scopeOf lawStmt) L fa cd [])) g L m
      (envX (Str.ofString "law") (scopeOf lawStmt) L fa cd []) (compElt lineComp) (Str.ofString "x") (compScope lineComp) [] s (SrcAt g D₀ us.toArray) (fun i v => us.toArray[i]? = some v) Fin k i ys rel := by
  revert X; k_fill; intro X
  intro k
  induction k with
  | zero =>
    intro i ys hi' hys
    refine CompRest.zero (hFin ys ?_)
    have e : ks.take i = ks := List.take_of_length_le (by have := hi.length; omega)
    rw [e] at hys
    exact hys
  | succ k ih =>
    intro i ys hi' hys
    refine CompRest.succ ?_
    intro v I oI C oC D m₂ h tk E' hP hC hm F N off ne
    obtain ⟨c, u, rfl, hc⟩ := hi.at i v (by simpa using hP)
    conv in (occs := *) (compElt lineComp) => all_goals whnf
    repeat ((fail_if_success (with_reducible show CompEnd _ _ _ _ _ _ _ _ _ _ _ _ _ _)); ((first | (k_unfold; (try dsimp only)) | walk1 | (dsimp only; walk1)); (try dsimp only)))
    k_unfold
    rename Fr g L _ _ => F₁
    rename News g L _ _ => N₁
    refine CompEnd.intro F₁ N₁ rel (fun p hp => hp) off hS (ih (i + 1) _ (by omega) ?_)
    have e : ks.take (i + 1) = ks.take i ++ [c] := by rw [List.take_add_one, hc]; rfl
    rw [e, List.map_append]
    exact StrsAre.append' hys (.cons _ _ .nil)

def lineOf (ks : List Int) : Str := Txt.join (Str.ofString "") (ks.map chS)

theorem sum_ones : ∀ ks : List Int, ((ks.map chS).map (·.length)).sum = ks.length
  | [] => rfl
  | a :: r => by
    rw [List.map_cons, List.map_cons, List.sum_cons, sum_ones r]
    show 1 + r.length = r.length + 1
    omega
theorem lineOf_list : ∀ ks : List Int, (lineOf ks).cps.toList = ks.map fun k => (k.fmod 256).toNat
  | [] => rfl
  | [a] => rfl
  | a :: b :: r => by
    have ih := lineOf_list (b :: r)
    have e : ∀ l : List Str, Txt.join (Str.ofString "") l = Str.join (Str.ofString "") l := fun l => StrLaws.glued_eq_join _ l
    have e2 : lineOf (a :: b :: r) = chS a ++ Str.ofString "" ++ lineOf (b :: r) := by
      unfold lineOf
      rw [e, e]
      rfl
    rw [e2]
    show (chS a ++ Str.ofString "" ++ lineOf (b :: r)).cps.toList = _
    rw [Str.cps_append, Array.toList_append, Str.cps_append, Array.toList_append, ih]
    rfl
theorem first_due {x : Str} {ks : List Int} {col : Int} (hx : x = lineOf ks) (hlen : ks.length ≤ 6) (hc : 1 ≤ col) (hc' : col ≤ x.length) :
    0 ≤ numF (KStt.codes (Txt.slice x none (some col))) ∧ numF (KStt.codes (Txt.slice x none (some col))) < 2 ^ col.toNat ∧ dueS x col (numF (KStt.codes (Txt.slice x none (some col)))) = x := by
  refine first_due0 (fun c hcm => ?_) hc hc'
  rw [hx, lineOf_list] at hcm
  obtain ⟨k, _, rfl⟩ := List.mem_map.mp hcm
  have h0 := Int.fmod_nonneg_of_pos k (b := 256) (by decide)
  have h1 := Int.fmod_lt_of_pos k (b := 256) (by decide)
  omega
theorem lineOf_length (ks : List Int) : (lineOf ks).length = ks.length := by
  show (lineOf ks).cps.size = _
  rw [← Array.length_toList, lineOf_list, List.length_map]

theorem lawB_of2 {g h : Heap} {L : Addr} {mm : Str → Option Value} {x : Str} {t : Tok} {col num : Int} {D₀ : Addr} (Fx : Fr g L h mm) (e1 : ∃ tt, mm (Str.ofString "turned") = some (.str (dueS x col num) tt)) (e2 : ∃ tn, mm (Str.ofString "number") = some (.int num tn))
    (e3 : mm (Str.ofString "line") = some (.str x t)) (e4 : ∃ tc, mm (Str.ofString "col") = some (.int col tc)) (e5 : mm (Str.ofString "numbers") = some (.ref D₀)) : ∃ tc tt tn, ∀ q ∈ lawB x t col tc D₀ num tt tn, mm q.1 = some q.2 :=
  let ⟨tc, e4⟩ := e4; ⟨tc, lawB_of Fx e1 e2 e3 e4 e5⟩

theorem law_rest {w : World} {n : Nat} {p : Program} {loose : List Str} {mean : ExcName → Option Value} {mg mb : Str → Option Value} {fa D₀ : Addr} {cd : Value} {base g : Heap} {L : Addr} {s : Shared} {us : List Value} {ks : List Int} {c₀ : Nat} {m : Str → Option Value} {Q : Flow → Shared → Prop} {E : Value → Shared → Prop}
    (B : Below callerA base [] g) (F : Fr g L s.heap (fun y => if y = Str.ofString "numbers" then some (.ref D₀) else m y)) (X : (hd.heap_39 w.params).In g) (T : Top p loose mean mg mb g) (S : Solid n g) (hn : n ≤ g.objs.size) (ME : Memo n s.heap)
    (hD : s.heap.get? D₀ = some (listOf us.toArray c₀)) (hDL : D₀ ≠ L) (hDg : g.get? D₀ = none) (hi : IntsAre us ks) (hlen : ks.length ≤ 6) (hpos : 1 ≤ ks.length)
    (h : ∀ h' tk m', Fr g L h' m' → Memo n h' → Q (.ret (.bool true)) { s with heap := h', toks := tk }) :
    wpAny (model Challenge.rw_mr0024_01.row.prog w) (callerA.deeper (envX (Str.ofString "law") (scopeOf lawStmt) L fa cd []))
      (execs (bodyOf lawStmt).tail (envX (Str.ofString "law") (scopeOf lawStmt) L fa cd [])) Q E s := by
  revert X; k_fill; intro X
  obtain ⟨rel, NR, hrel⟩ := memo_supd0 F ME
  have N : News g L s.heap ((D₀, listOf us.toArray c₀) :: rel) := fun p hp => by
    rcases List.mem_cons.mp hp with rfl | hp
    · exact ⟨hD, hDL, hDg⟩
    · exact NR p hp
  clear NR
  have hus : us.length = ks.length := hi.length
  conv in (execs _ _) => arg 1; whnf
  conv in (occs := *) (scopeOf _) => all_goals whnf
  repeat ((fail_if_success (with_reducible show wpAny _ _ (eval (Expr.ListComp _ _ _ _) _) _ _ _)); ((first | (k_unfold; (try dsimp only)) | walk1 | (dsimp only; walk1)); (try dsimp only)))
  rename Fr g L _ _ => F₁
  rename News g L _ _ => N₁
  refine ListComp_U (h₀ := g) (L := L) (cl := []) F₁ rfl (by decide) rfl (by decide) rfl ?_ (fun _ => rfl)
  ((first | (k_unfold; (try dsimp only)) | walk1 | (dsimp only; walk1)); (try dsimp only))
  refine CompSrc.ledger (k := c₀) rfl F₁ N₁ (.head _) ?_ fun g' => chr_rest (D₀ := D₀) B X T hi (.inr ⟨_, .head _, rfl, _, rfl⟩) (fun ys hys => ?_) _ 0 [] ?_ .nil
  · rw [List.size_toArray, sizeLine_eq]; omega
  rotate_left
  · simp
  intro D h₁ tk₁ F₂ N₂ off
  dsimp only at F₂ N₂ off ⊢
  clear F₁ N₁
  ((first | (k_unfold; (try dsimp only)) | walk1 | (dsimp only; walk1)); (try dsimp only))
  refine join_listC (items := ys.toArray) (ys := ks.map chS) ⟨_, (N₂ (D, _) (.head _)).1, rfl, _, rfl⟩ (by simpa using hys) (by decide) ?_ fun t₂ k₂ => ?_
  · have e : (((ks.map chS).map (·.length)).sum) = ks.length := by
      exact sum_ones ks
    rw [e, List.length_map]; omega
  have N₃ : News g L h₁ ((D₀, listOf us.toArray c₀) :: rel) := fun p hp => N₂ p (.tail _ hp)
  clear N₂ off
  obtain ⟨x, hx⟩ : ∃ x, x = lineOf ks := ⟨_, rfl⟩
  have hxl : x.length = ks.length := by rw [hx]; exact lineOf_length ks
  rw [show Txt.join (Str.ofString "") (ks.map chS) = x from hx.symm]
  have hx6 : x.length ≤ 6 := by omega
  have hx1 : 1 ≤ x.length := by omega
  repeat ((fail_if_success (with_reducible show wpAny _ _ (call (Value.ref 61) _) _ _ _)); ((first | (k_unfold; (try dsimp only)) | walk1 | (dsimp only; walk1)); (try dsimp only)))
  rename Fr g L _ _ => F₄
  rename News g L _ _ => N₄
  obtain ⟨col, hcol⟩ : ∃ col, (x.length : Int) - (ks.sum.fdiv 256).fmod (x.length : Int) = col := ⟨_, rfl⟩
  have hm0 : 0 ≤ (ks.sum.fdiv 256).fmod (x.length : Int) := Int.fmod_nonneg_of_pos _ (by omega)
  have hm1 : (ks.sum.fdiv 256).fmod (x.length : Int) < (x.length : Int) := Int.fmod_lt_of_pos _ (by omega)
  rw [hcol] at F₄ ⊢
  have hc : 1 ≤ col := by omega
  have hc' : col ≤ x.length := by omega
  refine number_con B F₄ X N₄ T rfl (by decide) (by decide) (Nat.le_trans (Txt.slice_le x none (some col)) hx6) fun t₅ h₅ tk₅ F₅ N₅ => ?_
  obtain ⟨hf0, hf1, hf2⟩ := first_due (ks := ks) hx hlen hc hc'
  clear F₄ N₄
  repeat ((fail_if_success (with_reducible show wpAny _ _ (exec (Stmt.For _ _ _ _ _) _) _ _ _)); ((first | (k_unfold; (try dsimp only)) | walk1 | (dsimp only; walk1)); (try dsimp only)))
  rename Fr g L _ _ => F₆
  rename News g L _ _ => N₆
  obtain ⟨tc', tt', tn', hB⟩ := lawB_of2 (x := x) (t := t₂) (col := col) (D₀ := D₀) (num := numF (KStt.codes (Txt.slice x none (some col)))) F₆ ⟨_, by rw [hf2]; rfl⟩ ⟨_, rfl⟩ rfl ⟨_, rfl⟩ rfl
  refine outer_loop (N₆ (D₀, _) (.head _)).1 hDL hDg hi B F₆ hB X T S hn (hrel _ F₆.keep fun q hq => (N₆ q (.tail _ hq)).1) hx6 hc hc' hf0 hf1 fun h' tk m' F' M' => ?_
  dsimp only
  refine wpAny_execs_cons (wpAny_Return_some ?_)
  ((first | (k_unfold; (try dsimp only)) | walk1 | (dsimp only; walk1)); (try dsimp only))
  exact h _ _ _ F' M'
end Mine
end

section
open PySem PySem.W PyProof.Rows PySem.Calls PySem.Spec
set_option maxRecDepth 100000
set_option maxHeartbeats 4000000
namespace Mine

theorem law_body {w : World} {n : Nat} {p : Program} {loose : List Str} {mean : ExcName → Option Value} {mg mb : Str → Option Value} {fa l : Addr} {cd : Value} {base g : Heap} {L : Addr} {s : Shared} {vs : List Value} {ns : List Int} {Q : Flow → Shared → Prop} {E : Value → Shared → Prop}
    (B : Below callerA base [] g) (F : Fr g L s.heap (fun y => List.lookup y [(Str.ofString "script", .ref l)])) (X : (hd.heap_39 w.params).In g) (T : Top p loose mean mg mb g) (S : Solid n g) (hn : n ≤ g.objs.size) (ME : Memo n s.heap)
    (hl : g.IsList l vs.toArray) (hi : IntsAre vs ns) (hlen : ns.length ≤ 63)
    (h : ∀ h' tk m', Fr g L h' m' → Memo n h' → Q (.ret (.bool true)) { s with heap := h', toks := tk }) :
    wpAny (model Challenge.rw_mr0024_01.row.prog w) (callerA.deeper (envX (Str.ofString "law") (scopeOf lawStmt) L fa cd []))
      (execs (bodyOf lawStmt) (envX (Str.ofString "law") (scopeOf lawStmt) L fa cd [])) Q E s := by
  revert X; k_fill; intro X
  obtain ⟨rel, N, hrel⟩ := memo_supd0 F ME
  conv in (execs _ _) => arg 1; whnf
  conv in (occs := *) (scopeOf _) => all_goals whnf
  have hl' : s.heap.IsList l vs.toArray := hl.at fun o e => F.keep l o e
  rcases ns with _ | ⟨n₀, ns⟩
  · repeat ((fail_if_success (with_reducible show wpAny _ _ (storeName _ _ _) _ _ _)); ((first | (k_unfold; (try dsimp only)) | walk1 | (dsimp only; walk1)); (try dsimp only)))
    ((first | (k_unfold; (try dsimp only)) | walk1 | (dsimp only; walk1)); (try dsimp only))
    rename Fr g L _ _ => F₁
    rename News g L _ _ => N₁
    have hN := N₁ _ (.head _)
    exact law_rest (us := _) (ks := [227, 97, 160, 65, 190, 33]) B F₁ X T S hn (hrel _ F₁.keep fun q hq => (N₁ q (.tail _ (.tail _ hq))).1) hN.1 hN.2.1 hN.2.2
      (.cons _ _ (.cons _ _ (.cons _ _ (.cons _ _ (.cons _ _ (.cons _ _ .nil)))))) (by decide) (by decide) h
  · repeat ((fail_if_success (with_reducible show wpAny _ _ (truthy _) _ _ _)); ((first | (k_unfold; (try dsimp only)) | walk1 | (dsimp only; walk1)); (try dsimp only)))
    ((first | (k_unfold; (try dsimp only)) | walk1 | (dsimp only; walk1)); (try dsimp only))
    rw [if_pos (by simp)]
    repeat ((fail_if_success (with_reducible show wpAny _ _ (subscriptTail _ _ _ _) _ _ _)); ((first | (k_unfold; (try dsimp only)) | walk1 | (dsimp only; walk1)); (try dsimp only)))
    rename Fr g L _ _ => F₂
    rename News g L _ _ => N₂
    rename Heap => hh
    k_dflt (refine' kmk_slice_ints (s := ⟨hh, s.gens, s.drawn, _, s.os⟩) (lo := none) (hi := some 6) (ns := n₀ :: ns) (ms := (n₀ :: ns).take 6) ?vF ?vN ?vl ?vp ?vq hi (kmk_upto hi (by decide)) rfl ?_ ?vs ?vt ?vz; (case vF => exact F₂); (case vN => exact N₂); (case vl => exact hl.at fun o e => F₂.keep l o e); (case vp => kmk_part); (case vq => kmk_part); (case vs => with_unfolding_all rfl); (case vt => kmk_pure))
    (case vz => rw [List.size_toArray, hi.length, sizeLine_eq]; omega)
    intro D ws h₃ F₃ N₃ l3 hI _ _
    clear F₂ N₂
    ((first | (k_unfold; (try dsimp only)) | walk1 | (dsimp only; walk1)); (try dsimp only))
    rename Fr g L _ _ => F₁
    rename News g L _ _ => N₁
    have hN := N₁ _ (.head _)
    exact law_rest B F₁ X T S hn (hrel _ F₁.keep fun q hq => (N₁ q (.tail _ (.tail _ hq))).1) hN.1 hN.2.1 hN.2.2 hI (by rw [List.length_take]; omega) (by simp) h

theorem Held.solid_ghost {h : Heap} : Solid h.objs.size (ghostOf h [(48, 44)]) := by
  intro b o e
  refine firm_low (Heap.lt_size (of_hideAll _ e)) ?_
  rintro rfl
  have := hideAll_none (h := h) ([((48 : Addr), (44 : Addr))].map (·.2)) (b := 44) (by simp)
  rw [e] at this; cases this
end Mine
end

section
open PySem PySem.W PyProof.Rows PySem.Calls PySem.Spec
set_option maxRecDepth 100000
set_option maxHeartbeats 4000000
namespace Mine
theorem holds' : PySem.Challenge.rw_mr0024_01.Holds := by
  refine hd ?_
  w_strict k_go0
  rename Fr _ _ _ _ => F₀
  rename News _ _ _ _ => N₀
  rename Below _ _ _ _ => B₀
  rename Frag.In _ _ => X₀
  rename IntsAre _ _ => hI
  rename Heap.IsList _ _ _ => hL
  rename Top _ _ _ _ _ _ => T₀
  rename Shared => s₁
  refine law_body (n := s₁.heap.objs.size) B₀ F₀ X₀ T₀ Held.solid_ghost (Nat.le_of_eq (hideAll_size _ _).symm) (.inl (N₀ (44, _) (.head _)).1) hL hI (by omega) ?_
  intro h' tk m' F' M'
  dsimp only
  refine ⟨?_, ?_⟩
  · k_end; wrow_close
  · refine ⟨?_, trivial⟩
    rcases M' with e | ⟨c1, P1, c2, M'⟩
    · exact ⟨_, e⟩
    · exact ⟨_, M'.tab⟩
end Mine
end

theorem PySem.Challenge.cw_mr0024_01_holds : PySem.Challenge.rw_mr0024_01.Holds := by
  exact Mine.holds'
