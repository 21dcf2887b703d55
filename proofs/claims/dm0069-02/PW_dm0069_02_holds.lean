import PyProof.Rows.All
import Wide.All
import OpenK.AllK
import Wide.FinOn
import PySem.Challenge.RW_dm0069_02
set_option Elab.async false
set_option maxRecDepth 100000
set_option linter.unusedVariables false
namespace Mine
open PySem PySem.W PyProof.Rows PySem.Calls PySem.Spec

/-- what is said of an object -/
abbrev Asn := Obj → Prop
abbrev Led := List (Addr × Asn)

structure St (base : Heap) (os₀ : OsState) (led : Led) (s : Shared) : Prop where
  keep : ∀ b o, base.get? b = some o → s.heap.get? b = some o
  nd : (led.map (·.1)).Nodup
  has : ∀ p ∈ led, ∃ o, s.heap.get? p.1 = some o ∧ p.2 o
  new : ∀ p ∈ led, base.get? p.1 = none
  gens : s.gens = #[]
  os : s.os = os₀

/-- one entry of the ledger changes what is said of it -/
inductive Up (a : Addr) (P P' : Asn) : Led → Led → Prop
  | head {l} : Up a P P' ((a, P) :: l) ((a, P') :: l)
  | tail {q l l'} : Up a P P' l l' → Up a P P' (q :: l) (q :: l')

namespace Up
variable {a : Addr} {P P' : Asn} {l l' : Led}
theorem keys (u : Up a P P' l l') : l'.map (·.1) = l.map (·.1) := by
  induction u with
  | head => rfl
  | tail _ ih => simp [ih]
theorem mem (u : Up a P P' l l') : (a, P) ∈ l := by
  induction u with
  | head => exact .head _
  | tail _ ih => exact .tail _ ih
theorem split (u : Up a P P' l l') (nd : (l.map (·.1)).Nodup) : ∀ p ∈ l', (p.1 = a ∧ p = (a, P')) ∨ (p.1 ≠ a ∧ p ∈ l) := by
  induction u with
  | head =>
    intro p hp
    simp only [List.map_cons, List.nodup_cons] at nd
    rcases List.mem_cons.mp hp with rfl | hp
    · exact .inl ⟨rfl, rfl⟩
    · exact .inr ⟨fun e => nd.1 (e ▸ List.mem_map_of_mem hp), .tail _ hp⟩
  | @tail q l l' u ih =>
    intro p hp
    simp only [List.map_cons, List.nodup_cons] at nd
    rcases List.mem_cons.mp hp with rfl | hp
    · refine .inr ⟨fun e => nd.1 ?_, .head _⟩
      rw [e]; exact List.mem_map_of_mem (f := (·.1)) u.mem
    · rcases ih nd.2 p hp with h | h
      · exact .inl h
      · exact .inr ⟨h.1, .tail _ h.2⟩
end Up

section
variable {base : Heap} {os₀ : OsState} {led led' : Led} {s : Shared} {a : Addr} {P P' : Asn}

theorem St.ext (H : St base os₀ led s) {h' : Heap} {tk : Nat} (hk : ∀ b o, s.heap.get? b = some o → h'.get? b = some o) : St base os₀ led { s with heap := h', toks := tk } where
  keep := fun b o e => hk b o (H.keep b o e)
  nd := H.nd
  has := fun p hp => let ⟨o, ho, hP⟩ := H.has p hp; ⟨o, hk _ _ ho, hP⟩
  new := H.new
  gens := H.gens
  os := H.os
theorem St.tok (H : St base os₀ led s) {tk : Nat} : St base os₀ led { s with toks := tk } := H.ext fun _ _ e => e
theorem St.newAt (H : St base os₀ led s) {n : Nat} (hn : s.heap.objs.size ≤ n) : base.get? n = none := by
  cases e : base.get? n with
  | none => rfl
  | some o => exact absurd (Heap.lt_size (H.keep _ _ e)) (Nat.not_lt.mpr hn)
/-- a new object behind a heap that has grown -/
theorem St.more (H : St base os₀ led s) {h' : Heap} {tk n : Nat} {o : Obj} (hk : ∀ b o, s.heap.get? b = some o → h'.get? b = some o) (hn : s.heap.objs.size ≤ n) (ho : h'.get? n = some o) (hp : P o) :
    St base os₀ ((n, P) :: led) { s with heap := h', toks := tk } where
  keep := fun b o e => hk b o (H.keep b o e)
  nd := by
    simp only [List.map_cons, List.nodup_cons]
    refine ⟨fun h => ?_, H.nd⟩
    obtain ⟨p, hp', e⟩ := List.mem_map.mp h
    obtain ⟨o', ho', _⟩ := H.has p hp'
    have := Heap.lt_size ho'
    rw [e] at this
    exact absurd this (Nat.not_lt.mpr hn)
  has := fun p hp' => by
    rcases List.mem_cons.mp hp' with rfl | hp'
    · exact ⟨o, ho, hp⟩
    · obtain ⟨o', ho', hP⟩ := H.has p hp'; exact ⟨o', hk _ _ ho', hP⟩
  new := fun p hp' => by
    rcases List.mem_cons.mp hp' with rfl | hp'
    · exact H.newAt hn
    · exact H.new p hp'
  gens := H.gens
  os := H.os
theorem St.push (H : St base os₀ led s) {tk : Nat} {o : Obj} (hf : o.isFreed = false) (hp : P o) : St base os₀ ((s.heap.objs.size, P) :: led) { s with heap := s.heap.push o, toks := tk } :=
  H.more (fun _ _ e => Heap.get?_push_of_some _ e) (Nat.le_refl _) (Heap.get?_push_size _ hf) hp
/-- an entry changed, the heap grown perhaps -/
theorem St.upd (H : St base os₀ led s) (U : Up a P P' led led') {h' : Heap} {tk : Nat} (hx : Heap.ExtBut a s.heap h') (hp : ∃ o, h'.get? a = some o ∧ P' o) : St base os₀ led' { s with heap := h', toks := tk } where
  keep := fun b o e => hx b o (fun q => by have := H.new _ U.mem; rw [← q, e] at this; cases this) (H.keep b o e)
  nd := U.keys ▸ H.nd
  has := fun p hp' => by
    rcases U.split H.nd p hp' with ⟨_, rfl⟩ | ⟨hne, hm⟩
    · exact hp
    · obtain ⟨o, ho, hP⟩ := H.has p hm; exact ⟨o, hx _ _ hne ho, hP⟩
  new := fun p hp' => by
    rcases U.split H.nd p hp' with ⟨_, rfl⟩ | ⟨_, hm⟩
    · exact H.new (a, P) U.mem
    · exact H.new p hm
  gens := H.gens
  os := H.os
theorem St.sub (H : St base os₀ led s) (h : led'.Sublist led) : St base os₀ led' s where
  keep := H.keep
  nd := H.nd.sublist (h.map _)
  has := fun p hp => H.has p (h.subset hp)
  new := fun p hp => H.new p (h.subset hp)
  gens := H.gens
  os := H.os
theorem St.perm (H : St base os₀ led s) (h : led'.Perm led) : St base os₀ led' s where
  keep := H.keep
  nd := (h.map _).nodup_iff.mpr H.nd
  has := fun p hp => H.has p (h.mem_iff.mp hp)
  new := fun p hp => H.new p (h.mem_iff.mp hp)
  gens := H.gens
  os := H.os
theorem St.get (H : St base os₀ led s) (hm : (a, P) ∈ led) : ∃ o, s.heap.get? a = some o ∧ P o := H.has _ hm
theorem St.ne {b : Addr} {R : Asn} (H : St base os₀ ((a, P) :: led) s) (hm : (b, R) ∈ led) : b ≠ a := fun e => by
  have := H.nd
  simp only [List.map_cons, List.nodup_cons] at this
  exact this.1 (e ▸ List.mem_map_of_mem (f := (·.1)) hm)
/-- what is said may be weakened -/
theorem St.weak (H : St base os₀ ((a, P) :: led) s) (h : ∀ o, P o → P' o) : St base os₀ ((a, P') :: led) s where
  keep := H.keep
  nd := H.nd
  has := fun p hp => by
    rcases List.mem_cons.mp hp with rfl | hp
    · obtain ⟨o, ho, hP⟩ := H.has _ (.head _); exact ⟨o, ho, h o hP⟩
    · exact H.has p (.tail _ hp)
  new := fun p hp => by
    rcases List.mem_cons.mp hp with rfl | hp
    · exact H.new (a, P) (.head _)
    · exact H.new p (.tail _ hp)
  gens := H.gens
  os := H.os
end

/-! the kinds of objects -/
def nsA (m : Str → Option Value) : Asn := fun o => ∃ es ep, o.data = .dict es ep ∧ StrKeys es ∧ ∀ n, nsFind es n = m n
def lstA (vs : List Value) : Asn := fun o => ∃ n, o = { cls := .type "list", data := .seq vs.toArray n }
def tupA (vs : List Value) : Asn := fun o => ∃ n, o = { cls := .type "tuple", data := .seq vs.toArray n }
def celA (v : Option Value) : Asn := fun o => o.data = .cell v
def objA (o₀ : Obj) : Asn := fun o => o = o₀
section
variable {prog : Program} {w : World} {K : Type} [DecidableEq K]
def dctA (knd : KeyKind prog w K) (kvs : List (K × Value)) : Asn := fun o => ∃ es ep, o.ExactDict ∧ o.data = .dict es ep ∧ KeysOf knd es ∧ Pairs knd es.toList kvs ∧ (kvs.map (·.1)).Nodup
end

section
variable {base : Heap} {os₀ : OsState} {led led' : Led} {s : Shared} {a : Addr}
theorem St.ns (H : St base os₀ led s) {m : Str → Option Value} (hm : (a, nsA m) ∈ led) : s.heap.Ns a m := by
  obtain ⟨o, ho, es, ep, r⟩ := H.get hm; exact ⟨o, es, ep, ho, r⟩
theorem nsA_of {h : Heap} {m : Str → Option Value} (x : h.Ns a m) : ∃ o, h.get? a = some o ∧ nsA m o := by
  obtain ⟨o, es, ep, ho, r⟩ := x; exact ⟨o, ho, es, ep, r⟩
theorem St.isList (H : St base os₀ led s) {vs : List Value} (hm : (a, lstA vs) ∈ led) : s.heap.IsList a vs.toArray := by
  obtain ⟨o, ho, n, rfl⟩ := H.get hm; exact ⟨_, ho, rfl, n, rfl⟩
theorem St.isTup (H : St base os₀ led s) {vs : List Value} (hm : (a, tupA vs) ∈ led) : IsTup s.heap a vs.toArray := by
  obtain ⟨o, ho, n, rfl⟩ := H.get hm; exact ⟨_, ho, rfl, n, rfl⟩
theorem St.isDict {prog : Program} {w : World} {K : Type} [DecidableEq K] {knd : KeyKind prog w K} {kvs : List (K × Value)} (H : St base os₀ led s) (hm : (a, dctA knd kvs) ∈ led) : s.heap.DictOf knd a kvs := by
  obtain ⟨o, ho, es, ep, r⟩ := H.get hm; exact ⟨o, es, ep, ho, r⟩
theorem dctA_of {prog : Program} {w : World} {K : Type} [DecidableEq K] {knd : KeyKind prog w K} {kvs : List (K × Value)} {h : Heap} (x : h.DictOf knd a kvs) : ∃ o, h.get? a = some o ∧ dctA knd kvs o := by
  obtain ⟨o, es, ep, ho, r⟩ := x; exact ⟨o, ho, es, ep, r⟩
theorem St.isCell (H : St base os₀ led s) {v : Option Value} (hm : (a, celA v) ∈ led) : s.heap.IsCell a v := by
  obtain ⟨o, ho, r⟩ := H.get hm; exact ⟨o, ho, r⟩
end

section
variable {M : Model} {A : Around} {E : Value → Shared → Prop} {s : Shared} {env : Env} {base : Heap} {os₀ : OsState} {led led' : Led} {x : Str} {v : Value} {pos : Pos} {k : Nat}

theorem nm_l {Q : Value → Shared → Prop} {m : Str → Option Value} (H : St base os₀ led s) (hm : (env.locals, nsA m) ∈ led) (hv : m x = some v) (h : Q v s)
    (hk : env.scope.kind = .function := by rfl) (hx : env.kindOf x = some .local := by rfl) (hd : (x == ("__debug__" : Str)) = false := by decide) :
    wpAny M A (eval (.Name x pos) env) Q E s := wpAny_Name (wpAny_loadName_local hk hx (H.ns hm) hv h) hd
theorem nm_c {Q : Value → Shared → Prop} {c : Addr} (H : St base os₀ led s) (hc : env.cells.lookup x = some c) (hm : (c, celA (some v)) ∈ led) (h : Q v s)
    (hk : env.scope.kind = .function := by rfl) (hx : env.kindOf x = some .cell := by rfl) (hd : (x == ("__debug__" : Str)) = false := by decide) :
    wpAny M A (eval (.Name x pos) env) Q E s := wpAny_Name (wpAny_loadName_cell hk hx hc (H.isCell hm) h) hd
theorem nm_g {Q : Value → Shared → Prop} {mg : Str → Option Value} (H : St base os₀ led s) (hg : base.Ns env.globals mg) (hv : mg x = some v) (h : Q v s)
    (hk : env.scope.kind = .function := by rfl) (hx : env.kindOf x = some .globalImplicit := by rfl) (hd : (x == ("__debug__" : Str)) = false := by decide) :
    wpAny M A (eval (.Name x pos) env) Q E s := Name_function_global hk hx (loadGlobal_global (hg.keeps H.keep) hv h) hd
theorem nm_b {Q : Value → Shared → Prop} {mg mb : Str → Option Value} (H : St base os₀ led s) (hg : base.Ns env.globals mg) (hb : base.Ns env.builtins mb) (hv : mg x = none) (hvb : mb x = some v) (h : Q v s)
    (hk : env.scope.kind = .function := by rfl) (hx : env.kindOf x = some .globalImplicit := by rfl) (hd : (x == ("__debug__" : Str)) = false := by decide) :
    wpAny M A (eval (.Name x pos) env) Q E s := Name_function_global hk hx (loadGlobal_builtin (hg.keeps H.keep) hv (hb.keeps H.keep) hvb h) hd

theorem st_l {Q : Unit → Shared → Prop} {m : Str → Option Value} (H : St base os₀ led s) (U : Up env.locals (nsA m) (nsA fun y => if y = x then some v else m y) led led')
    (h : ∀ s', St base os₀ led' s' → Q () s')
    (hk : env.scope.kind = .function := by rfl) (hx : env.kindOf x = some .local := by rfl) :
    wpAny M A (storeName env x v) Q E s :=
  wpAny_storeName_local hx (H.ns U.mem) (fun h' hn hs => h _ (H.upd U hs.extBut (nsA_of hn))) (by rw [hk]; rfl)
theorem st_c {Q : Unit → Shared → Prop} {c : Addr} {v₀ : Option Value} (H : St base os₀ led s) (hc : env.cells.lookup x = some c) (U : Up c (celA v₀) (celA (some v)) led led')
    (h : ∀ s', St base os₀ led' s' → Q () s')
    (hk : env.scope.kind = .function := by rfl) (hx : env.kindOf x = some .cell := by rfl) :
    wpAny M A (storeName env x v) Q E s :=
  wpAny_storeName_cell hk hx hc (H.isCell U.mem) fun h' hv hs => h _ (H.upd (tk := s.toks) U hs.extBut (let ⟨o, ho, hd⟩ := hv; ⟨o, ho, hd⟩))

theorem c_int {Q : Value → Shared → Prop} {i : Int} (H : St base os₀ led s) (h : ∀ t s', St base os₀ led s' → Q (.int i t) s') : wpAny M A (eval (.Constant (.int i) k pos) env) Q E s :=
  wpAny_Constant_int (h _ _ H.tok)
theorem c_str {Q : Value → Shared → Prop} (H : St base os₀ led s) (h : ∀ t s', St base os₀ led s' → Q (.str x t) s') : wpAny M A (eval (.Constant (.str x) k pos) env) Q E s :=
  wpAny_Constant_str (h _ _ H.tok)

theorem new_list {Q : Value → Shared → Prop} {vs : List Value} (H : St base os₀ led s) (h : ∀ a s', St base os₀ ((a, lstA vs) :: led) s' → Q (.ref a) s') (hsz : vs.length ≤ sizeLine := by size_fits) :
    wpAny M A (newList vs) Q E s := wpAny_newObj_type (h _ _ (H.push rfl ⟨_, rfl⟩)) (by show vs.toArray.size ≤ sizeLine; rw [List.size_toArray]; exact hsz)
theorem new_tuple {Q : Value → Shared → Prop} {vs : List Value} (H : St base os₀ led s) (h : ∀ a s', St base os₀ ((a, tupA vs) :: led) s' → Q (.ref a) s') (hsz : vs.length ≤ sizeLine := by size_fits) :
    wpAny M A (newTuple vs) Q E s := wpAny_newObj_type (h _ _ (H.push rfl ⟨_, rfl⟩)) (by show vs.toArray.size ≤ sizeLine; rw [List.size_toArray]; exact hsz)
end
end Mine

namespace Mine
open PySem PySem.W PyProof.Rows PySem.Calls PySem.Spec
section
variable {prog : Program} {w : World} {A : Around} {E : Value → Shared → Prop} {s : Shared}
theorem callWith_fn {f : Addr} {first : List Value} {pos : Pos} {Q : Value → Shared → Prop} {args : List (Bool × Sem Value)} {kws : List (Option Str × Sem Value)}
    (h : wpAny (model prog w) A (evalArgs (.ref f) true args kws) (fun a s₁ => (∃ o fd, s₁.heap.get? f = some o ∧ o.data = .func fd) ∧ wpAny (model prog w) A (call (.ref f) (first ++ a.pos) a.kw) Q E s₁) E s) :
    wpAny (model prog w) A (callWith pos (.ref f) first args kws) Q E s := by
  unfold callWith
  refine wpAny_bind (wpAny_holding (wpAny_mono h (fun a s₁ h₁ => wpAny_bind (wpAny_standAt ?_)) fun _ _ x => x))
  obtain ⟨⟨o, fd, ho, hd⟩, h₁⟩ := h₁
  have hk : ∀ {Q' : Keeper → Shared → Prop}, Q' .frame s₁ → wpAny (model prog w) A (keeperOf (.ref f)) Q' E s₁ := fun q => by
    unfold keeperOf
    refine wpAny_bind (wpAny_load ho ?_)
    rw [hd]
    exact wpAny_pure q
  refine wpAny_bind (hk ?_)
  have tail : ∀ {t : Sem Value}, wpAny (model prog w) A t Q E s₁ → wpAny (model prog w) A (t >>= fun r => holding [r] point >>= fun _ => pure r) Q E s₁ :=
    fun ht => wpAny_bind (wpAny_mono ht (fun r s₂ hr => wpAny_bind (wpAny_holding (wpAny_point (wpAny_pure hr)))) fun _ _ x => x)
  have marked (mk : Value) : wpAny (model prog w) A (callMarked mk (.ref f) (first ++ a.pos) a.kw) Q E s₁ := by unfold callMarked; exact Calls.wpAny_keep h₁
  cases hst : (args.any (·.1) || kws.any (·.1.isNone)) with
  | true => exact tail (marked _)
  | false =>
    dsimp only
    split
    · exact tail h₁
    · exact tail (marked _)

variable {base : Heap} {os₀ : OsState} {led led' : Led}
theorem St.notSys (H : St base os₀ led s) {a : Addr} {P : Asn} (hm : (a, P) ∈ led) {o : Obj} (hs : base.get? sysModules = some o) : (a == sysModules) = false := by
  cases q : a == sysModules with
  | false => rfl
  | true =>
    have e := eq_of_beq q
    have := H.new _ hm
    rw [show ((a, P) : Addr × Asn).1 = sysModules from e, hs] at this
    cases this

end
end Mine

namespace Mine
open PySem PySem.W PyProof.Rows PySem.Calls PySem.Spec
section
variable {prog : Program} {w : World} {A : Around} {E : Value → Shared → Prop} {s : Shared} {base : Heap} {os₀ : OsState} {led led' : Led}
/-- a call of a def without cells of its own -/
theorem fn_enter {f : Addr} {o : Obj} {fd : FuncData} {body : List Stmt} {args : Args} {Q : Value → Shared → Prop} (H : St base os₀ led s) (hroom : A.depth < recursionLimit) (hlim : base.NoLimit)
    (ho : s.heap.get? f = some o) (hdata : o.data = .func fd) (hcd : s.heap.CodeRec fd.code fd.qualname) (hbody : fd.body = .stmts body)
    (hcell : ∀ x ∈ fd.scope.names, x.2 ≠ .cell)
    (h : wpAny (model prog w) A.in1 (bindArgs fd args) (fun binds s₁ => ∃ led₁, St base os₀ led₁ s₁ ∧ (∀ x ∈ binds, fd.scope.names.lookup x.1 = some .local) ∧
      ∀ L s₂, St base os₀ ((L, nsA fun x => binds.reverse.lookup x) :: led₁) s₂ →
        wpAny (model prog w) (A.deeper (callEnv fd L f)) (execs body (callEnv fd L f)) (fun fl s' => Q (match fl with | .ret v => v | _ => .none) s')
          (fun e s' => wpAny (model prog w) (A.deeper (callEnv fd L f)) (leaving (callEnv fd L f) e) (fun _ s'' => E e s'') (fun e' s'' => E e' s'') s') s₂) E s)
    (hco : fd.scope.isCoroutine = false := by rfl) (hgen : fd.scope.isGenerator = false := by rfl) (hk : fd.scope.kind = .function := by rfl) :
    wpAny (model prog w) A (call (.ref f) args.pos args.kw) Q E s := by
  refine wpAny_call (codeAny_call_function hroom ho hdata hco hgen hbody hcd (wpAny_mono h (fun binds s₁ h₁ => ?_) fun _ _ x => x))
  obtain ⟨led₁, H₁, hl, h₁⟩ := h₁
  refine wpAny_newFunctionEnv hcell hl (fun h' hns hsb => ?_) hk
  have H₂ : St base os₀ ((s₁.heap.objs.size, nsA fun x => binds.reverse.lookup x) :: led₁) { s₁ with heap := h', toks := s₁.toks + binds.length } := by
    obtain ⟨o', ho', hp'⟩ := nsA_of hns
    exact H₁.more (fun b o e => hsb.extBut b o (Nat.ne_of_lt (Heap.lt_size e)) (Heap.get?_push_of_some _ e)) (Nat.le_refl _) ho' hp'
  exact ⟨hlim.keeps H₂.keep, codeAny_func (h₁ _ _ H₂)⟩

end
end Mine

namespace Mine
open PySem PySem.W PyProof.Rows PySem.Calls PySem.Spec
theorem Up.of_mem {a : Addr} {P : Asn} : ∀ {l : Led}, (a, P) ∈ l → Up a P P l l
  | _ :: _, .head _ => .head
  | _ :: _, .tail _ h => .tail (Up.of_mem h)

def ex0 (cls : String) : Asn := fun o => o.cls = .type cls ∧ ∃ vs, o.data = .fields vs ∧ 4 < vs.size ∧ vs[1]? = some .none
def ex1 (cls : String) (t : Addr) : Asn := fun o => o.cls = .type cls ∧ ∃ vs, o.data = .fields vs ∧ 4 < vs.size ∧ vs[1]? = some (.ref t)
def tbA : Asn := fun o => ∃ vs, o.data = .fields vs ∧ 3 < vs.size
/-- an exception that has a traceback -/
def Fly (base : Heap) (os₀ : OsState) (led : Led) (e : Addr) (cls : String) (s : Shared) : Prop := ∃ t, St base os₀ ((e, ex1 cls t) :: (t, tbA) :: led) s
def FramesOk (led : Led) (fs : List Env) : Prop := ∀ env ∈ fs, env.scope.kind ≠ .module ∧ ∃ L m, env.frame = some L ∧ (L, nsA m) ∈ led
theorem FramesOk.mono {led led' : Led} {fs : List Env} (h : FramesOk led fs) (hs : ∀ p ∈ led, p ∈ led') : FramesOk led' fs := fun env he => by
  obtain ⟨h1, L, m, h2, h3⟩ := h env he
  exact ⟨h1, L, m, h2, hs _ h3⟩
theorem FramesOk.cons {led : Led} {fs : List Env} {env : Env} {L : Addr} {m : Str → Option Value} (h : FramesOk led fs) (hk : env.scope.kind ≠ .module) (hf : env.frame = some L) (hm : (L, nsA m) ∈ led) : FramesOk led (env :: fs) := fun env' he => by
  rcases List.mem_cons.mp he with rfl | he
  · exact ⟨hk, L, m, hf, hm⟩
  · exact h env' he
theorem FramesOk.tail {led : Led} {fs : List Env} {env : Env} (h : FramesOk led (env :: fs)) : FramesOk led fs := fun env' he => h env' (.tail _ he)

section
variable {prog : Program} {w : World} {A : Around} {E : Value → Shared → Prop} {s : Shared} {base : Heap} {os₀ : OsState} {led led' : Led} {e : Addr} {cls : String} {env : Env}

theorem ready {M : Model} : ∀ (fs : List Env) {s : Shared} {Q : Unit → Shared → Prop}, St base os₀ led s → FramesOk led fs → (∀ s', St base os₀ led s' → Q () s') → wpAny M A (readyFrames fs) Q E s
  | [], s, Q, H, _, h => by simp only [readyFrames]; exact wpAny_pure (h s H)
  | env :: outer, s, Q, H, hF, h => by
    obtain ⟨hk, L, m, hf, hm⟩ := hF env (.head _)
    obtain ⟨o, ho, hn⟩ := H.get hm
    simp only [readyFrames, hf]
    refine wpAny_bind (wpAny_load ho ?_)
    by_cases hr : ((o.slots.getD 3 none).isSome) = true
    · rw [if_pos hr]; exact wpAny_pure (h _ H)
    · rw [if_neg hr]
      refine wpAny_bind (wpAny_of_eq (a := false) (by simp [behindIsImport, hk]) ?_)
      have rest : ∀ back, wpAny M A (do
          update L fun o => { o with slots := #[some env.code, some (.ref env.globals), o.slots.getD 2 none, some back, o.slots.getD 4 none, env.func.map Value.ref, some (.ref env.builtins)] ++ (env.cells.map fun c => some (.ref c.2)).toArray }
          readyFrames outer) Q E s := fun back => by
        refine wpAny_bind (wpAny_update ho ?_)
        obtain ⟨es, ep, hd, hrest⟩ := hn
        have hnf : o.isFreed = false := Obj.isFreed_of_dict hd
        refine ready outer (H.upd (tk := s.toks) (Up.of_mem hm) (Heap.SameBut.update ..).extBut ⟨_, Heap.get?_update_self _ ho ?_, es, ep, hd, hrest⟩) hF.tail h
        obtain ⟨c, d, dt, sl⟩ := o
        cases dt <;> first | rfl | exact hnf
      cases outer with
      | nil => exact wpAny_bind (wpAny_keptBack_nil fun v => rest v)
      | cons c r => exact wpAny_bind (wpAny_pure (rest _))

theorem frameOf_ok {M : Model} {fs : List Env} {L : Addr} {Q : Value → Shared → Prop} (H : St base os₀ led s) (hfr : A.frames = some fs) (hF : FramesOk led fs) (hin : env ∈ fs) (hf : env.frame = some L)
    (h : ∀ v s', St base os₀ led s' → Q v s') : wpAny M A (PySem.frameOf env) Q E s := by
  unfold PySem.frameOf
  refine wpAny_bind (wpAny_frameEnvs hfr ?_)
  have hsub : ∀ x ∈ fs.dropWhile (fun x => x.frame != env.frame), x ∈ fs := fun x hx => (List.dropWhile_sublist _).subset hx
  have hne : fs.dropWhile (fun x => x.frame != env.frame) ≠ [] := fun q => by
    have hall : ∀ (l : List Env), l.dropWhile (fun x => x.frame != env.frame) = [] → ∀ x ∈ l, (x.frame != env.frame) = true := fun l => by
      induction l with
      | nil => intro _ x hx; cases hx
      | cons y r ih =>
        intro hl x hx
        rw [List.dropWhile_cons] at hl
        split at hl
        · rename_i hy
          rcases List.mem_cons.mp hx with rfl | hx
          · exact hy
          · exact ih hl x hx
        · cases hl
    have := hall fs q env hin
    simp at this
  cases hq : fs.dropWhile (fun x => x.frame != env.frame) with
  | nil => exact absurd hq hne
  | cons y r =>
    rw [hq] at hsub
    have hF' : FramesOk led (y :: r) := fun x hx => hF x (hsub x hx)
    unfold frameObject
    refine wpAny_bind (wpAny_bind (ready _ H hF' fun s' H' => wpAny_pure ?_))
    obtain ⟨_, Ly, _, hfy, _⟩ := hF' y (.head _)
    rw [hfy]
    exact wpAny_pure (h _ s' H')

theorem setF {M : Model} {a : Addr} {P P' : Asn} {i : Nat} {x : Value} {Q : Unit → Shared → Prop} (H : St base os₀ led s) (U : Up a P P' led led') (hP : ∀ o, P o → ∃ vs, o.data = .fields vs ∧ i < vs.size ∧ ∀ o', o'.cls = o.cls → o'.data = .fields (vs.setIfInBounds i x) → P' o')
    (h : ∀ s', St base os₀ led' s' → Q () s') : wpAny M A (setField (.ref a) i x) Q E s := by
  obtain ⟨o, ho, hp⟩ := H.get U.mem
  obtain ⟨vs, hd, hi, hP'⟩ := hP o hp
  refine wpAny_setField ho hd hi (h _ (H.upd (tk := s.toks) U (Heap.SameBut.update ..).extBut ⟨_, Heap.get?_update_self _ ho (Obj.isFreed_of_fields (Obj.data_mapFields hd _)), hP' _ (Obj.cls_mapFields ..) (Obj.data_mapFields hd _)⟩))

theorem note_tail {M : Model} {fs : List Env} {L : Addr} {P : Asn} {head : Value} {b : Bool} {Q : Unit → Shared → Prop} (H : St base os₀ ((e, P) :: led) s) (hP : ∀ o, P o → o.cls = .type cls ∧ ∃ vs, o.data = .fields vs ∧ 4 < vs.size)
    (hfr : A.frames = some fs) (hF : FramesOk led fs) (hin : env ∈ fs) (hf : env.frame = some L) (h : ∀ s', Fly base os₀ led e cls s' → Q () s') :
    wpAny M A (do let fr ← PySem.frameOf env; let pl ← entryPlaceOf L b; let t ← EntryCells.newEntry head fr .none (rawInt L) .none pl; setField (.ref e) 1 t) Q E s := by
  refine wpAny_bind (frameOf_ok H hfr (hF.mono fun p hp => .tail _ hp) hin hf fun v s' H' => ?_)
  refine wpAny_bind (wpAny_entryPlaceOf fun pl hpl => ?_)
  unfold EntryCells.newEntry newFields
  refine wpAny_bind (wpAny_newObj_type ?_ (hpl.sizeOk5 _ _ _ _ _))
  have H₂ := H'.push (tk := s'.toks) (P := tbA) (o := { cls := .type "traceback", dict := none, data := .fields ([head, v, .none, rawInt L, .none] ++ (if pl.isEmpty then List.replicate 6 Value.none else pl)).toArray }) rfl ⟨_, rfl, by simp⟩
  refine setF (P' := ex1 cls s'.heap.objs.size) H₂ (.tail .head) (fun o hp => ?_) fun s'' H'' => h s'' ⟨_, H''.perm (.swap ..)⟩
  obtain ⟨hc, vs, hd, hsz⟩ := hP o hp
  refine ⟨vs, hd, by omega, fun o' hc' hd' => ⟨hc'.trans hc, _, hd', by simpa using hsz, ?_⟩⟩
  rw [Array.getElem?_setIfInBounds_self_of_lt (by omega)]

theorem note0 {M : Model} {fs : List Env} {L : Addr} {Q : Unit → Shared → Prop} (H : St base os₀ ((e, ex0 cls) :: led) s) (hfr : A.frames = some fs) (hF : FramesOk led fs) (hin : env ∈ fs) (hf : env.frame = some L)
    (h : ∀ s', Fly base os₀ led e cls s' → Q () s') : wpAny M A (noteFrame (.ref e) env) Q E s := by
  obtain ⟨o, ho, hc, vs, hd, hsz, h1⟩ := H.get (.head _)
  unfold noteFrame
  simp only [hf]
  refine wpAny_bind (wpAny_field ho hd h1 ?_)
  rw [if_neg (by decide)]
  exact note_tail H (fun o hp => ⟨hp.1, let ⟨vs, a, b, _⟩ := hp.2; ⟨vs, a, b⟩⟩) hfr hF hin hf h

theorem note1 {M : Model} {fs : List Env} {L : Addr} {Q : Unit → Shared → Prop} (H : Fly base os₀ led e cls s) (hfr : A.frames = some fs) (hF : FramesOk led fs) (hin : env ∈ fs) (hf : env.frame = some L)
    (h : ∀ s', Fly base os₀ led e cls s' → Q () s') : wpAny M A (noteFrame (.ref e) env) Q E s := by
  obtain ⟨t, H⟩ := H
  obtain ⟨o, ho, hc, vs, hd, hsz, h1⟩ := H.get (.head _)
  obtain ⟨ot, hot, tvs, htd, htz⟩ := H.get (.tail _ (.head _))
  unfold noteFrame
  simp only [hf]
  refine wpAny_bind (wpAny_field ho hd h1 ?_)
  rw [if_pos (show (Value.ref t != Value.none) = true from by simp)]
  refine wpAny_bind (wpAny_field hot htd (Array.getElem?_eq_getElem htz) ?_)
  by_cases hq : (tvs[3] == rawInt L) = true
  · rw [if_pos hq]; exact wpAny_pure (h s ⟨t, H⟩)
  · rw [if_neg hq]
    refine wpAny_bind (setF (P' := tbA) H (.tail .head) (fun o hp => ?_) fun s' H' => ?_)
    · obtain ⟨vs', hd', hz'⟩ := hp
      exact ⟨vs', hd', hz', fun o' _ hd'' => ⟨_, hd'', by simpa using hz'⟩⟩
    · exact note_tail H' (fun o hp => ⟨hp.1, let ⟨vs, a, b, _⟩ := hp.2; ⟨vs, a, b⟩⟩) hfr (hF.mono fun p hp => .tail _ hp) hin hf fun s'' ⟨t', H''⟩ => h s'' ⟨t', H''.sub (.cons_cons _ (.cons_cons _ (.cons _ (.refl _))))⟩

theorem flight {M : Model} {x : Option Addr} {Q : Unit → Shared → Prop} (H : Fly base os₀ led e cls s) (h : ∀ s', Fly base os₀ led e cls s' → Q () s') : wpAny M A (setFlight (.ref e) x) Q E s := by
  obtain ⟨t, H⟩ := H
  obtain ⟨o, ho, hc, vs, hd, hsz, h1⟩ := H.get (.head _)
  unfold setFlight
  refine wpAny_bind (wpAny_field ho hd h1 ?_)
  rw [if_pos (show (Value.ref t != Value.none) = true from by simp)]
  refine setF (P' := tbA) H (.tail .head) (fun o hp => ?_) fun s' H' => h s' ⟨t, H'⟩
  obtain ⟨vs', hd', hz'⟩ := hp
  exact ⟨vs', hd', hz', fun o' _ hd'' => ⟨_, hd'', by simpa using hz'⟩⟩

theorem leave0 {M : Model} {fs : List Env} {L : Addr} {Q : Unit → Shared → Prop} (H : St base os₀ ((e, ex0 cls) :: led) s) (hfr : A.frames = some fs) (hF : FramesOk led fs) (hin : env ∈ fs) (hf : env.frame = some L)
    (h : ∀ s', Fly base os₀ led e cls s' → Q () s') : wpAny M A (leaving env (.ref e)) Q E s := by
  unfold leaving
  exact wpAny_bind (note0 H hfr hF hin hf fun s' H' => flight H' h)
theorem of_newExc {h' : Heap} {tk : Nat} (H : St base os₀ led s) (x : Heap.NewExc s.heap h' e cls) : St base os₀ ((e, ex0 cls) :: led) { s with heap := h', toks := tk } := by
  obtain ⟨ob, t, h1, h2, h3⟩ := x.there
  have hne : ∀ p ∈ led, p.1 ≠ e := fun p hp q => by
    obtain ⟨o, ho, _⟩ := H.has p hp
    rw [q, x.new] at ho; cases ho
  refine ⟨fun b o e => x.keeps b o (H.keep b o e), ?_, fun p hp => ?_, fun p hp => ?_, H.gens, H.os⟩
  · simp only [List.map_cons, List.nodup_cons]
    exact ⟨fun h => by obtain ⟨p, hp, q⟩ := List.mem_map.mp h; exact hne p hp q, H.nd⟩
  · rcases List.mem_cons.mp hp with rfl | hp
    · exact ⟨ob, h1, h2, _, h3, by simp, rfl⟩
    · obtain ⟨o, ho, q⟩ := H.has p hp; exact ⟨o, x.keeps _ _ ho, q⟩
  · rcases List.mem_cons.mp hp with rfl | hp
    · cases q : base.get? e with
      | none => rfl
      | some o => have := H.keep _ _ q; rw [x.new] at this; cases this
    · exact H.new p hp
end
end Mine

namespace Mine
open PySem PySem.W PyProof.Rows PySem.Calls PySem.Spec
/-- what the top gives -/
structure Gr (base : Heap) (mg mb : Str → Option Value) : Prop where
  g : base.Ns mainGlobals mg
  b : base.Ns builtinsNs mb
  lim : base.NoLimit
  sys : ∃ o, base.get? sysModules = some o
  bmain : ∃ bm ob, mg "__builtins__" = some (.ref bm) ∧ bm ≠ builtinsNs ∧ base.get? bm = some ob ∧ ob.cls = .type "module" ∧ ob.dict = some builtinsNs ∧ ob.data = .plain
section
variable {M : Model} {A : Around} {E : Value → Shared → Prop} {s : Shared} {base : Heap} {os₀ : OsState} {led : Led} {env : Env} {mg mb : Str → Option Value} {c P : Addr} {ps : Array Value} {pos : Pos} {firstLine : Nat} {name qual : Str} {params : Arguments} {scope : Scope}
  {clos : List (Str × Addr)} {Q : Value → Shared → Prop}

end
end Mine

namespace Mine
open PySem PySem.W PyProof.Rows PySem.Calls PySem.Spec
section
variable {prog : Program} {w : World} {A : Around} {E : Value → Shared → Prop} {s : Shared} {base : Heap} {os₀ : OsState} {led led' : Led} {env : Env} {e : Addr} {cls : String}

theorem l_append {l : Addr} {vs : List Value} {x : Value} {Q : Value → Shared → Prop} (H : St base os₀ led s) (U : Up l (lstA vs) (lstA (vs ++ [x])) led led') (h : ∀ s', St base os₀ led' s' → Q .none s') (hsz : vs.length ≤ sizeLine := by size_fits) :
    wpAny (model prog w) A (call (.builtin "list.append") [.ref l, x]) Q E s := by
  obtain ⟨o, ho, n, rfl⟩ := H.get U.mem
  exact append_at ho (fun h' hs ho' => h _ (H.upd (tk := s.toks) U hs.extBut ⟨_, ho', n + 1, by rw [List.push_toArray]⟩)) (by rw [List.size_toArray]; exact hsz)

/-- a method of a list, called with one argument -/
theorem l_append_stmt {o a : Expr} {apos pos : Pos} {l : Addr} {pl : Sem Bool} {Q : Value → Shared → Prop}
    (h : wpAny (model prog w) A (eval o env) (fun ov s₁ => ov = .ref l ∧ (∃ ob, s₁.heap.get? l = some ob ∧ ob.cls = .type "list" ∧ ob.dict = none) ∧ wpAny (model prog w) A (eval a env) (fun v s₂ => wpAny (model prog w) A (call (.builtin "list.append") [.ref l, v]) Q E s₂) E s₁) E s)
    (he : eval (.Call (.Attribute o (Str.ofString "append") apos) [a] [] pos) env = (do
      let ov ← eval o env
      standAt apos.atName
      let (f, first) ← holding [ov] (getMethod ov (Str.ofString "append") pl)
      callWith pos f first (backTo pos (starEach [a] env)) (backToKw pos (keywordEach [] env))) := by rfl)
    (ha : starEach [a] env = [(false, eval a env)] := by rfl) :
    wpAny (model prog w) A (eval (.Call (.Attribute o (Str.ofString "append") apos) [a] [] pos) env) Q E s := by
  refine methodCall_KW (pl := pl) (wpAny_mono h (fun ov s₁ h₁ => ?_) fun _ _ x => x) he
  obtain ⟨rfl, ⟨ob, ho, hc, hd⟩, h₁⟩ := h₁
  refine getMethod_list_append ho hc hd ?_
  rw [ha]
  exact callWith_builtin rfl (evalArgs_plain (spliced_cons (wpAny_mono h₁ (fun v s₂ h₂ => spliced_nil h₂) fun _ _ x => x)))
end
end Mine

namespace Mine
open PySem PySem.W PyProof.Rows PySem.Calls PySem.Spec
/-- one entry is taken out of a ledger -/
inductive Pick (a : Addr × Asn) : Led → Led → Prop
  | head {l} : Pick a (a :: l) l
  | tail {b l l'} : Pick a l l' → Pick a (b :: l) (b :: l')
theorem Pick.perm {a : Addr × Asn} {l l' l'' : Led} (h : Pick a l l') (hp : l''.Perm l') : (a :: l'').Perm l := by
  have : (a :: l').Perm l := by
    clear hp
    induction h with
    | head => exact .refl _
    | tail _ ih => exact (List.Perm.swap ..).trans (ih.cons _)
  exact (hp.cons a).trans this
def itA (l : Addr) (i : Nat) : Asn := fun o => o.cls = .type "list_iterator" ∧ o.data = .fields #[.ref l, .int i 0]
section
variable {prog : Program} {w : World} {A : Around} {E : Value → Shared → Prop} {s : Shared} {base : Heap} {os₀ : OsState} {led led' : Led} {env : Env}

theorem item_l {value slice : Expr} {a : Addr} {vs : List Value} {k : Int} {u : Tok} {x : Value} {Q : Value → Shared → Prop} (H : St base os₀ led s) (hm : (a, lstA vs) ∈ led)
    (h0 : 0 ≤ k) (hfit : k < 2 ^ 63) (hx : vs[k.toNat]? = some x) (h : Q x s)
    (hs : subscripted slice false (.ref a) (.int k u) = operate [.ref a, .int k u] (getItem (.ref a) (.int k u)) := by with_unfolding_all rfl) :
    wpAny (model prog w) A (subscriptTail value slice (.ref a) (.int k u)) Q E s :=
  item_listR (H.isList hm) h0 hfit (by simpa using hx) h hs

/-- the loop over a list of the ledger -/
theorem for_turns {R : Result → Shared → Prop} {target : Expr} {body : List Stmt} {I l : Addr} {vs : List Value} (J : Nat → Led → Prop) (hh : A.handled = none)
    (turn : ∀ i v led s E', vs[i]? = some v → J i led → St base os₀ ((I, itA l (i + 1)) :: (l, lstA vs) :: led) s →
      wpAny (model prog w) A (assign target env v) (fun _ s₂ => wpAny (model prog w) A (execs body env) (fun f s₃ => match f with
        | .next | .cont => ∃ led', J (i + 1) led' ∧ St base os₀ ((I, itA l (i + 1)) :: (l, lstA vs) :: led') s₃
        | .brk => R (.ok .next) s₃
        | .ret v => R (.ok (.ret v)) s₃) E' s₂) E' s)
    (fin : ∀ led s, J vs.length led → St base os₀ ((l, lstA vs) :: led) s → R (.ok .next) s)
    (H : St base os₀ ((I, itA l 0) :: (l, lstA vs) :: led) s) (h0 : J 0 led)
    (ht : ∀ v, letOwnedTupleGo target (.ref I) v = pure () := by intro _; rfl) :
    codeAny (model prog w) A (.forLoop target (.ref I) body [] env) R s := by
  refine codeAny_forLoop (fun k s' => ∃ i led', k = vs.length + 1 - i ∧ i ≤ vs.length ∧ J i led' ∧ St base os₀ ((I, itA l i) :: (l, lstA vs) :: led') s') ?_ (vs.length + 1) ⟨0, led, rfl, Nat.zero_le _, h0, H⟩ ht
  rintro k s' ⟨i, led', rfl, hi, hJ, H'⟩
  have hl := H'.isList (vs := vs) (a := l) (.tail _ (.head _))
  obtain ⟨oi, hoi, hic, hid⟩ := H'.get (.head _)
  have hit : s'.heap.IsListIter I l i := ⟨oi, hoi, hic, hid⟩
  by_cases hlt : i < vs.length
  · refine wpAny_pyNext_list_item hit hl (x := vs[i]) (by simp [hlt]) fun h' hit' hs' => ?_
    obtain ⟨oi', hoi', hic', hid'⟩ := hit'
    have H₁ : St base os₀ ((I, itA l (i + 1)) :: (l, lstA vs) :: led') { s' with heap := h' } := H'.upd (tk := s'.toks) .head hs'.extBut ⟨oi', hoi', hic', hid'⟩
    refine wpAny_mono (turn i vs[i] led' _ _ (by simp [hlt]) hJ H₁) (fun _ s₂ h₂ => wpAny_mono h₂ (fun f s₃ h₃ => ?_) fun _ _ x => x) fun _ _ x => x
    cases f with
    | next => obtain ⟨led'', hJ', H''⟩ := h₃; exact ⟨vs.length + 1 - (i + 1), by omega, i + 1, led'', rfl, hlt, hJ', H''⟩
    | cont => obtain ⟨led'', hJ', H''⟩ := h₃; exact ⟨vs.length + 1 - (i + 1), by omega, i + 1, led'', rfl, hlt, hJ', H''⟩
    | brk => exact h₃
    | ret v => exact h₃
  · have hin : i = vs.length := by omega
    subst hin
    refine wpAny_pyNext_list_end hh hit hl (by simp) fun h' he' => wpAny_execs_nil (fin led' _ hJ ?_)
    have H₁ : St base os₀ ((l, lstA vs) :: led') s' := H'.sub (.cons _ (.refl _))
    refine ⟨fun b o e => he' b o (fun q => ?_) (H'.keep b o e), H₁.nd, fun p hp => ?_, H₁.new, H₁.gens, H₁.os⟩
    · have := H'.new _ (.head _)
      simp only at this
      rw [← q, e] at this; cases this
    · obtain ⟨o, ho, hP⟩ := H₁.has p hp
      exact ⟨o, he' _ _ (H'.ne hp) ho, hP⟩

theorem for_list {target iter : Expr} {body : List Stmt} {pos : Pos} {Q : Flow → Shared → Prop} (J : Nat → Led → Prop) (hh : A.handled = none)
    (h : wpAny (model prog w) A (eval iter env) (fun x s₁ => ∃ l vs led, x = .ref l ∧ St base os₀ ((l, lstA vs) :: led) s₁ ∧ J 0 led ∧
      (∀ I i v led s E', vs[i]? = some v → J i led → St base os₀ ((I, itA l (i + 1)) :: (l, lstA vs) :: led) s →
        wpAny (model prog w) A (assign target env v) (fun _ s₂ => wpAny (model prog w) A (execs body env) (fun f s₃ => match f with
          | .next | .cont => ∃ led', J (i + 1) led' ∧ St base os₀ ((I, itA l (i + 1)) :: (l, lstA vs) :: led') s₃
          | .brk => Q .next s₃
          | .ret v => Q (.ret v) s₃) E' s₂) E' s) ∧
      (∀ led s, J vs.length led → St base os₀ ((l, lstA vs) :: led) s → Q .next s)) E s)
    (hs : ∀ x, foldedSetIterable iter env x = pure x := by intro _; rfl)
    (ht : ∀ I v, letOwnedTupleGo target (.ref I) v = pure () := by intro _ _; rfl) :
    wpAny (model prog w) A (exec (.For target iter body [] pos) env) Q E s := by
  refine wpAny_For (wpAny_mono h (fun x s₁ h₁ => ?_) fun _ _ x => x) hs
  obtain ⟨l, vs, led, rfl, H, h0, turn, fin⟩ := h₁
  refine wpAny_pyIter_list (H.isList (.head _)) ?_
  exact for_turns J hh (fun i v led s E' hv hJ H' => turn _ i v led s E' hv hJ H') fin (H.push (tk := s₁.toks) rfl ⟨rfl, rfl⟩) h0 (ht _)

/-- room for all that the laws do -/
structure Room (prog : Program) (w : World) (A : Around) (base : Heap) : Prop where
  depth : A.depth + 200 < recursionLimit
  units : A.units + 64 < cLine
  handled : A.handled = none
  pylong : ∀ s : Shared, (∀ b o, base.get? b = some o → s.heap.get? b = some o) → PylongRoom (model prog w) A s

theorem i_fdiv {a b : Int} {t u : Tok} {Q : Value → Shared → Prop} (R : Room prog w A base) (H : St base os₀ led s) (hb : b ≠ 0) (h : ∀ t' s', St base os₀ led s' → Q (.int (a.fdiv b) t') s') :
    wpAny (model prog w) A (binaryOp .FloorDiv (.int a t) (.int b u)) Q E s :=
  PyProof.Rows.floordiv_int hb (h _ _ H.tok) (.inr (R.pylong s H.keep))
theorem i_mod {a b : Int} {t u : Tok} {Q : Value → Shared → Prop} (H : St base os₀ led s) (hb : b ≠ 0) (h : ∀ t' s', St base os₀ led s' → Q (.int (a.fmod b) t') s') :
    wpAny (model prog w) A (binaryOp .Mod (.int a t) (.int b u)) Q E s :=
  PyProof.Rows.mod_int hb (h _ _ H.tok)

/-! equality in one world -/
def EqW (prog : Program) (w : World) (A : Around) (s : Shared) (x y : Value) (b : Bool) : Prop :=
  ∀ (E : Value → Shared → Prop) (Q : Bool → Shared → Prop), Q b s → wpAny (model prog w) A (eqBool x y) Q E s
theorem EqW.self (v : Value) : EqW prog w A s v v true := fun E Q h => SeqAt.EqAt.same v prog w E Q h
theorem EqW.of {x y : Value} {b : Bool} (h : SeqAt.EqAt A s x y b) : EqW prog w A s x y b := fun E Q hq => h prog w E Q hq
theorem EqW.refs {l b : Addr} {k : Bool} (hne : l ≠ b) (h : ∀ (E : Value → Shared → Prop) (Q : Value → Shared → Prop), Q (.bool k) s → wpAny (model prog w) A (richCompare .Eq (.ref l) (.ref b)) Q E s) : EqW prog w A s (.ref l) (.ref b) k := fun E Q hq => by
  unfold eqBool
  refine wpAny_holding ?_
  refine wpAny_ite_split (fun hab => absurd (by have := eq_of_beq hab; injection this) hne) (fun _ => ?_)
  exact wpAny_bind (h E _ (wpAny_truthy_bool hq))
end
end Mine

namespace Mine
open PySem PySem.W PyProof.Rows PySem.Calls PySem.Spec
open AutoSeq1 (wpAny_loadPart')
section
variable {prog : Program} {w : World} {A : Around} {E : Value → Shared → Prop} {s : Shared} {base : Heap} {os₀ : OsState} {led led' : Led} {env : Env}

theorem tup_eq_same {t u : Addr} {vs us : List Value} {Q : Value → Shared → Prop} (ht : IsTup s.heap t vs.toArray) (hu : IsTup s.heap u us.toArray) (hlen : vs.length = us.length) (hur : A.units < cLine)
    (he : ∀ p ∈ vs.zip us, EqW prog w A.in1 s p.1 p.2 true) (h : Q (.bool true) s) : wpAny (model prog w) A (richCompare .Eq (.ref t) (.ref u)) Q E s := by
  obtain ⟨⟨cls, dd, data, sl⟩, ho, hc, n, hd⟩ := ht
  obtain ⟨⟨cls2, dd2, data2, sl2⟩, ho2, hc2, n2, hd2⟩ := hu
  simp only at hc hd hc2 hd2
  subst hc hd hc2 hd2
  have hT : s.TypeIs (.ref t) "tuple" := ⟨_, ho, rfl⟩
  refine wpAny_richCompare_same_room (op := .Eq) hT ⟨_, ho2, rfl⟩ PySem.F.slot_tuple_eq (wpAny_call_entry PySem.F.slot_tuple_eq hT PySem.F.entry_tuple_eq ?_ (PySem.F.args_tuple_eq_2 _ _)) hur
  obtain ⟨hp, g, d, tk, os⟩ := s
  have f2 := AutoSeq1.sub_tuple_tuple
  wp_walk using wpAny_loadPart' ho, wpAny_loadPart' ho2, wpAny_forIn_list _ (fun rest b s' => b.1 = none ∧ s' = ⟨hp, g, d, tk, os⟩ ∧ ∀ p ∈ rest, EqW prog w A.in1 ⟨hp, g, d, tk, os⟩ p.1 p.2 true) _
  case turn =>
    rintro ⟨y, x⟩ rest b s' ⟨hb', rfl, hz⟩
    refine wpAny_bind (hz (y, x) (.head _) _ _ ?_)
    wp_walk
    exact ⟨rfl, rfl, fun p hp => hz p (.tail _ hp)⟩
  case fin =>
    rintro ⟨b1, b2⟩ s' ⟨hb', rfl, hz⟩
    simp only at hb'
    subst hb'
    wp_walk
    exact ⟨_, rfl, (fun x => nomatch x), by simpa [Builtin.Tuple.tupleCompareSizes, hlen] using h⟩
  case h =>
    exact ⟨rfl, rfl, he⟩
theorem EqW.tups {t u : Addr} {vs us : List Value} (hne : t ≠ u) (ht : IsTup s.heap t vs.toArray) (hu : IsTup s.heap u us.toArray) (hlen : vs.length = us.length) (hur : A.units < cLine)
    (he : ∀ p ∈ vs.zip us, EqW prog w A.in1 s p.1 p.2 true) : EqW prog w A s (.ref t) (.ref u) true := EqW.refs hne fun E Q hq => tup_eq_same ht hu hlen hur he hq

/-- the loop of the comparison of two lists of one length -/
theorem list_loop_same {l b : Addr} {vs us : List Value} {n n2 : Nat} {dd dd2 : Option Addr} {sl sl2 : Array (Option Value)} {R : Result → Shared → Prop} {op : Int} {r : Bool} (hop : op = 2 ∧ r = true ∨ op = 3 ∧ r = false) (hlen : vs.length = us.length)
    (ho : s.heap.get? l = some { cls := .type "list", dict := dd, data := .seq vs.toArray n, slots := sl }) (ho2 : s.heap.get? b = some { cls := .type "list", dict := dd2, data := .seq us.toArray n2, slots := sl2 })
    (he : ∀ p ∈ vs.zip us, EqW prog w A.in1 s p.1 p.2 true) (h : R (.ok (.ret (.bool r))) s) :
    ∀ k i : Nat, vs.length - i = k → codeAny (model prog w) A (.builtin "list.__eq__.loop" ⟨[.ref l, .ref b, rawInt i, rawInt op], []⟩) R s := by
  intro k
  induction k with
  | zero =>
    intro i hk
    refine codeAny_builtin MeetsSeq3.entry_eq_loop ?_
    rw [Around.under_plainId MeetsSeq3.plain_eq_loop _]
    obtain ⟨hp, g, d, tk, os⟩ := s
    have hi1 : vs.toArray[((i : Nat) : Int).toNat]? = none := by simp; omega
    have hi2 : us.toArray[((i : Nat) : Int).toNat]? = none := by simp; omega
    rcases hop with ⟨rfl, rfl⟩ | ⟨rfl, rfl⟩
    · wp_walk using wpAny_loadPart' ho, wpAny_loadPart' ho2
      rw [hi1, hi2]
      wp_walk using wpAny_loadPart' ho, wpAny_loadPart' ho2
      show R (.ok (.ret (.bool (vs.toArray.size == us.toArray.size)))) _
      simpa [hlen] using h
    · wp_walk using wpAny_loadPart' ho, wpAny_loadPart' ho2
      rw [hi1, hi2]
      wp_walk using wpAny_loadPart' ho, wpAny_loadPart' ho2
      show R (.ok (.ret (.bool (vs.toArray.size != us.toArray.size)))) _
      simpa [hlen] using h
  | succ k ih =>
    intro i hk
    refine codeAny_builtin MeetsSeq3.entry_eq_loop ?_
    rw [Around.under_plainId MeetsSeq3.plain_eq_loop _]
    have hlt : i < vs.length := by omega
    have hlt2 : i < us.length := by omega
    have hi1 : vs.toArray[((i : Nat) : Int).toNat]? = some vs[i] := by simp [hlt]
    have hi2 : us.toArray[((i : Nat) : Int).toNat]? = some us[i] := by simp [hlt2]
    have hc : ((i : Int) + 1) = ((i + 1 : Nat) : Int) := by push_cast; rfl
    have hz : EqW prog w A.in1 s vs[i] us[i] true := he (vs[i], us[i]) (List.mem_of_getElem? (i := i) (by simp [List.getElem?_zip_eq_some, hlt, hlt2]))
    have hn := ih (i + 1) (by omega)
    obtain ⟨hp, g, d, tk, os⟩ := s
    rcases hop with ⟨rfl, rfl⟩ | ⟨rfl, rfl⟩
    · wp_walk using wpAny_loadPart' ho, wpAny_loadPart' ho2
      rw [hi1, hi2]
      refine wpAny_bind (hz _ _ ?_)
      wp_walk
      rw [hc]
      exact ⟨plainId_quiet MeetsSeq3.plain_eq_loop _, hn⟩
    · wp_walk using wpAny_loadPart' ho, wpAny_loadPart' ho2
      rw [hi1, hi2]
      refine wpAny_bind (hz _ _ ?_)
      wp_walk
      rw [hc]
      exact ⟨plainId_quiet MeetsSeq3.plain_eq_loop _, hn⟩
theorem list_ne_same {l b : Addr} {vs us : List Value} {Q : Value → Shared → Prop} (hl : s.heap.IsList l vs.toArray) (hb : s.heap.IsList b us.toArray) (hlen : vs.length = us.length) (hur : A.units < cLine)
    (he : ∀ p ∈ vs.zip us, EqW prog w A.in1 s p.1 p.2 true) (h : Q (.bool false) s) : wpAny (model prog w) A (richCompare .NotEq (.ref l) (.ref b)) Q E s := by
  obtain ⟨⟨cls, dd, data, sl⟩, ho, hc, n, hd⟩ := hl
  obtain ⟨⟨cls2, dd2, data2, sl2⟩, ho2, hc2, n2, hd2⟩ := hb
  simp only at hc hd hc2 hd2
  subst hc hd hc2 hd2
  have hT : s.TypeIs (.ref l) "list" := ⟨_, ho, rfl⟩
  refine wpAny_richCompare_same_room (op := .NotEq) hT ⟨_, ho2, rfl⟩ PySem.F.slot_list_ne ?_ hur
  refine wpAny_call (codeAny_call_builtin PySem.F.slot_list_ne.plain PySem.F.entry_list_ne (PySem.F.slot_list_ne.check _ _ _ _ _ _ _ _ hT (PySem.F.args_list_ne_2 _ _) ?_))
  have f3 := AutoSeq1.sub_list_list
  have hne : ¬ (vs.toArray.size != us.toArray.size) = true := by simp [hlen]
  have hloop := list_loop_same (prog := prog) (w := w) (A := A) (R := fun r s' => match r with | .ok (.ret v) => v ≠ .notImplemented ∧ Q v s' | .ok _ => False | .error e => E e s') (.inr ⟨rfl, rfl⟩) hlen ho ho2 he ⟨(fun x => nomatch x), h⟩ _ 0 rfl
  obtain ⟨hp, g, d, tk, os⟩ := s
  wp_walk using wpAny_loadPart' ho, wpAny_loadPart' ho2
  exact ⟨plainId_quiet MeetsSeq3.plain_eq_loop _, hloop⟩
end
end Mine

namespace Mine
open PySem PySem.W PyProof.Rows PySem.Calls PySem.Spec
/-- an iterator in the ledger -/
structure Iter (prog : Program) (w : World) (A : Around) (base : Heap) (os₀ : OsState) (I : Addr) (n : Nat) (P : Nat → Value → Prop) (itP : Nat → Asn) (side : Led) : Prop where
  item : ∀ i led s (Q : Option Value → Shared → Prop) (E : Value → Shared → Prop), i < n → St base os₀ ((I, itP i) :: (side ++ led)) s → (∀ v s', P i v → St base os₀ ((I, itP (i + 1)) :: (side ++ led)) s' → Q (some v) s') → wpAny (model prog w) A (pyNext (.ref I)) Q E s
  done : ∀ led s (Q : Option Value → Shared → Prop) (E : Value → Shared → Prop), St base os₀ ((I, itP n) :: (side ++ led)) s → (∀ s', St base os₀ (side ++ led) s' → Q none s') → wpAny (model prog w) A (pyNext (.ref I)) Q E s
  self : ∀ led s (Q : Value → Shared → Prop) (E : Value → Shared → Prop), St base os₀ ((I, itP 0) :: (side ++ led)) s → Q (.ref I) s → wpAny (model prog w) A (pyIter (.ref I)) Q E s
section
variable {prog : Program} {w : World} {A : Around} {E : Value → Shared → Prop} {s : Shared} {base : Heap} {os₀ : OsState} {led led' : Led} {env : Env} {I l : Addr} {vs : List Value}

theorem St.gone {P : Asn} (H : St base os₀ ((I, P) :: led) s) {h' : Heap} {tk : Nat} (he : ∀ b o, b ≠ I → s.heap.get? b = some o → h'.get? b = some o) : St base os₀ led { s with heap := h', toks := tk } where
  keep := fun b o e => he b o (fun q => by have := H.new _ (.head _); simp only at this; rw [← q, e] at this; cases this) (H.keep b o e)
  nd := (H.sub (.cons _ (.refl _))).nd
  has := fun p hp => by obtain ⟨o, ho, hP⟩ := H.has p (.tail _ hp); exact ⟨o, he _ _ (H.ne hp) ho, hP⟩
  new := fun p hp => H.new p (.tail _ hp)
  gens := H.gens
  os := H.os

theorem Iter.list (hh : A.handled = none) : Iter prog w A base os₀ I vs.length (fun i v => vs[i]? = some v) (itA l) [(l, lstA vs)] where
  item := fun i led s Q E hi H h => by
    obtain ⟨oi, hoi, hic, hid⟩ := H.get (.head _)
    refine wpAny_pyNext_list_item ⟨oi, hoi, hic, hid⟩ (H.isList (.tail _ (.head _))) (x := vs[i]) (by simp [hi]) fun h' hit' hs' => h _ _ (by simp [hi]) ?_
    obtain ⟨oi', hoi', hic', hid'⟩ := hit'
    exact H.upd (tk := s.toks) .head hs'.extBut ⟨oi', hoi', hic', hid'⟩
  done := fun led s Q E H h => by
    obtain ⟨oi, hoi, hic, hid⟩ := H.get (.head _)
    exact wpAny_pyNext_list_end hh ⟨oi, hoi, hic, hid⟩ (H.isList (.tail _ (.head _))) (by simp) fun h' he' => h _ (H.gone (tk := s.toks) he')
  self := fun led s Q E H h => by
    obtain ⟨oi, hoi, hic, hid⟩ := H.get (.head _)
    exact wpAny_pyIter_listiter ⟨oi, hoi, hic, hid⟩ h

def rngA (n i : Nat) : Asn := fun o => o = { cls := .type "range_iterator", dict := none, data := .fields #[rawInt (0 + (i : Nat) * 1), rawInt ((n : Int) - (i : Nat)), rawInt 1], slots := #[] }
theorem Iter.range {n : Nat} (hh : A.handled = none) : Iter prog w A base os₀ I n (fun i v => ∃ t, v = .int i t) (rngA n) [] where
  item := fun i led s Q E hi H h => by
    obtain ⟨oi, hoi, rfl⟩ := H.get (.head _)
    refine (Walks.range (prog := prog) (w := w) hh I 0 1 n).item i s Q E hi hoi fun v h' tk hv hit hk => h v _ ?_ ?_
    · obtain ⟨t, rfl⟩ := hv; exact ⟨t, by congr 1; omega⟩
    · exact H.upd .head (fun b o hb e => hk b o (by simpa using hb) e) ⟨_, hit, rfl⟩
  done := fun led s Q E H h => by
    obtain ⟨oi, hoi, rfl⟩ := H.get (.head _)
    exact (Walks.range (prog := prog) (w := w) hh I 0 1 n).done s Q E hoi fun h' tk hk => h _ (H.gone (fun b o hb e => hk b o (by simpa using hb) e))
  self := fun led s Q E H h => by
    obtain ⟨oi, hoi, rfl⟩ := H.get (.head _)
    exact (Walks.range (prog := prog) (w := w) hh I 0 1 n).self 0 s Q E hoi h

theorem for_iter {R : Result → Shared → Prop} {target : Expr} {body : List Stmt} {n : Nat} {P : Nat → Value → Prop} {itP : Nat → Asn} {side : Led} (W : Iter prog w A base os₀ I n P itP side) (J : Nat → Led → Prop)
    (turn : ∀ i v led s E', i < n → P i v → J i led → St base os₀ ((I, itP (i + 1)) :: (side ++ led)) s →
      wpAny (model prog w) A (assign target env v) (fun _ s₂ => wpAny (model prog w) A (execs body env) (fun f s₃ => match f with
        | .next | .cont => ∃ led', J (i + 1) led' ∧ St base os₀ ((I, itP (i + 1)) :: (side ++ led')) s₃
        | .brk => R (.ok .next) s₃
        | .ret v => R (.ok (.ret v)) s₃) E' s₂) E' s)
    (fin : ∀ led s, J n led → St base os₀ (side ++ led) s → R (.ok .next) s)
    (H : St base os₀ ((I, itP 0) :: (side ++ led)) s) (h0 : J 0 led)
    (ht : ∀ v, letOwnedTupleGo target (.ref I) v = pure () := by intro _; rfl) :
    codeAny (model prog w) A (.forLoop target (.ref I) body [] env) R s := by
  refine codeAny_forLoop (fun k s' => ∃ i led', k = n + 1 - i ∧ i ≤ n ∧ J i led' ∧ St base os₀ ((I, itP i) :: (side ++ led')) s') ?_ (n + 1) ⟨0, led, rfl, Nat.zero_le _, h0, H⟩ ht
  rintro k s' ⟨i, led', rfl, hi, hJ, H'⟩
  by_cases hlt : i < n
  · refine W.item i led' s' _ _ hlt H' fun v s₁ hv H₁ => ?_
    refine wpAny_mono (turn i v led' _ _ hlt hv hJ H₁) (fun _ s₂ h₂ => wpAny_mono h₂ (fun f s₃ h₃ => ?_) fun _ _ x => x) fun _ _ x => x
    cases f with
    | next => obtain ⟨led'', hJ', H''⟩ := h₃; exact ⟨n + 1 - (i + 1), by omega, i + 1, led'', rfl, hlt, hJ', H''⟩
    | cont => obtain ⟨led'', hJ', H''⟩ := h₃; exact ⟨n + 1 - (i + 1), by omega, i + 1, led'', rfl, hlt, hJ', H''⟩
    | brk => exact h₃
    | ret v => exact h₃
  · have hin : i = n := by omega
    subst hin
    exact W.done led' s' _ _ H' fun s₁ H₁ => wpAny_execs_nil (fin led' _ hJ H₁)

theorem r_new {n : Nat} {t : Tok} {Q : Value → Shared → Prop} (H : St base os₀ led s) (h : ∀ r s', (∃ t1 t2, St base os₀ ((r, objA { cls := .type "range", data := .fields #[.int 0 t1, .int n t, .int 1 t2] }) :: led) s') → Q (.ref r) s') :
    wpAny (model prog w) A (call (.type "range") [.int n t]) Q E s := call_range_1 (h _ _ ⟨_, _, H.push (tk := s.toks + 1 + 1) rfl rfl⟩)
theorem r_iter {r : Addr} {n : Nat} {t1 t t2 : Tok} {Q : Value → Shared → Prop} (hn : (n : Int) < 2 ^ 62) (H : St base os₀ ((r, objA { cls := .type "range", data := .fields #[.int 0 t1, .int n t, .int 1 t2] }) :: led) s)
    (h : ∀ I s', St base os₀ ((I, rngA n 0) :: led) s' → Q (.ref I) s') : wpAny (model prog w) A (pyIter (.ref r)) Q E s := by
  obtain ⟨o, ho, rfl⟩ := H.get (.head _)
  refine wpAny_pyIter_range ho (small_one (by decide) (by decide) (by omega) hn) (h _ _ ?_)
  have e : Builtin.Range.rangeSize 0 n 1 = (n : Int) := by rw [rangeSize_one]; split <;> omega
  rw [e]
  refine (H.push (tk := s.toks) (P := rngA n 0) rfl ?_).sub (.cons_cons _ (.cons _ (.refl _)))
  show _ = _
  simp
theorem for_range {n : Nat} {t1 t t2 : Tok} {r : Addr} {x : Str} {px pos : Pos} {iter : Expr} {body : List Stmt} {Q : Flow → Shared → Prop} (J : Nat → Led → Prop) (hh : A.handled = none) (hn : (n : Int) < 2 ^ 62)
    (h : wpAny (model prog w) A (eval iter env) (fun v s₁ => ∃ r t1 t t2 led, v = .ref r ∧ St base os₀ ((r, objA { cls := .type "range", data := .fields #[.int 0 t1, .int n t, .int 1 t2] }) :: led) s₁ ∧ J 0 led) E s)
    (turn : ∀ I i v led s E', i < n → (∃ t, v = .int i t) → J i led → St base os₀ ((I, rngA n (i + 1)) :: led) s →
      wpAny (model prog w) A (assign (.Name x px) env v) (fun _ s₂ => wpAny (model prog w) A (execs body env) (fun f s₃ => match f with
        | .next | .cont => ∃ led', J (i + 1) led' ∧ St base os₀ ((I, rngA n (i + 1)) :: led') s₃
        | .brk => Q .next s₃
        | .ret v => Q (.ret v) s₃) E' s₂) E' s)
    (fin : ∀ led s, J n led → St base os₀ led s → Q .next s)
    (hs : ∀ x, foldedSetIterable iter env x = pure x := by intro _; rfl) :
    wpAny (model prog w) A (exec (.For (.Name x px) iter body [] pos) env) Q E s := by
  refine wpAny_For (wpAny_mono h (fun v s₁ h₁ => ?_) fun _ _ x => x) hs
  obtain ⟨r, t1, t, t2, led, rfl, H, h0⟩ := h₁
  refine r_iter hn H fun I s₂ H₂ => ?_
  exact for_iter (Iter.range hh) J (fun i v led s E' hi hv hJ H' => turn I i v led s E' hi hv hJ H') (fun led s hJ H' => fin led s hJ H') H₂ h0

end
end Mine

namespace Mine
open PySem PySem.W PyProof.Rows PySem.Calls PySem.Spec
theorem St.grown {base : Heap} {os₀ : OsState} {led : Led} {s : Shared} (H : St base os₀ led s) {h' : Heap} {tk : Nat} (hx : Heap.ExtBut s.heap.objs.size s.heap h') : St base os₀ led { s with heap := h', toks := tk } :=
  H.ext fun b o e => hx b o (Nat.ne_of_lt (Heap.lt_size e)) e
section
variable {prog : Program} {w : World} {A : Around} {E : Value → Shared → Prop} {s : Shared} {base : Heap} {os₀ : OsState} {led tl : Led} {m : Str → Option Value} {a : Addr} {vs : List Value}
theorem St.push2 (H : St base os₀ led s) {tk : Nat} {o₁ o : Obj} {P : Asn} (hf₁ : o₁.isFreed = false) (hf : o.isFreed = false) (hp : P o) : St base os₀ ((s.heap.objs.size + 1, P) :: led) { s with heap := (s.heap.push o₁).push o, toks := tk } := by
  have H₁ := H.push (tk := tk) (P := fun _ => True) hf₁ trivial
  have H₂ := H₁.push (tk := tk) (P := P) hf hp
  have e : (s.heap.push o₁).objs.size = s.heap.objs.size + 1 := Heap.size_push ..
  simp only [e] at H₂
  exact H₂.sub (.cons_cons _ (.cons _ (.refl _)))
def AllInt (vs : List Value) : Prop := ∀ v ∈ vs, ∃ n t, v = Value.int n t
theorem l_add {l b : Addr} {vs us : List Value} {Q : Value → Shared → Prop} (H : St base os₀ led s) (h1 : (l, lstA vs) ∈ led) (h2 : (b, lstA us) ∈ led) (hsz : vs.length + us.length ≤ sizeLine)
    (h : ∀ r s', St base os₀ ((r, lstA (vs ++ us)) :: led) s' → Q (.ref r) s') : wpAny (model prog w) A (binaryOp .Add (.ref l) (.ref b)) Q E s := by
  obtain ⟨o, ho, n, rfl⟩ := H.get h1
  obtain ⟨o', ho', n', rfl⟩ := H.get h2
  exact PySem.P.add_list ho ho' (h _ _ (H.push (tk := s.toks) rfl ⟨0, by simp⟩)) (by simpa using hsz)
theorem l_set {l : Addr} {vs : List Value} {k : Int} {t : Tok} {v : Value} {led' : Led} {Q : Unit → Shared → Prop} (H : St base os₀ led s) (U : Up l (lstA vs) (lstA (vs.set k.toNat v)) led led') (h0 : 0 ≤ k) (hfit : k < 2 ^ 63) (hn : k < vs.length)
    (h : ∀ s', St base os₀ led' s' → Q () s') : wpAny (model prog w) A (setItem (.ref l) (.int k t) v) Q E s := by
  obtain ⟨o, ho, n, rfl⟩ := H.get U.mem
  refine ki_setAt (n := n) ho h0 hfit (by simpa using hn) (h _ (H.upd (tk := s.toks) U (Heap.SameBut.update ..).extBut ?_))
  have := PySem.IsL.update (n := n) ho (·.setIfInBounds k.toNat v)
  simp only [List.setIfInBounds_toArray] at this
  exact ⟨_, this, _, rfl⟩
end
theorem allInt_of {vs : List Value} {ns : List Int} (h : IntsAre vs ns) : AllInt vs ∧ vs.length = ns.length := by
  induction h with
  | nil => exact ⟨fun v hv => (by cases hv), rfl⟩
  | cons n t _ ih =>
    refine ⟨fun v hv => ?_, by simp [ih.2]⟩
    rcases List.mem_cons.mp hv with rfl | hv
    · exact ⟨n, t, rfl⟩
    · exact ih.1 v hv
theorem good_true {l : OpenLaw} {cl : Str → Option Addr} {mean : ExcName → Option Value} {args : List WData} {s₁ s' : Shared} (hk : ∀ b o, s₁.heap.get? b = some o → s'.heap.get? b = some o) (ho : s'.os = s₁.os) (hg : s'.gens = #[]) :
    GoodW l.row.claim cl mean args s₁ (.ok (.ret (.bool true))) s' :=
  ⟨.inl ⟨.bool true, .bool true, [], rfl, fun _ => rfl, .bool true, by with_unfolding_all rfl, fun _ => ⟨.nil, fun a h => by cases h⟩⟩, hk, ho, hg⟩
theorem gr_of {p : Program} {loose : List Str} {mean : ExcName → Option Value} {mg mb : Str → Option Value} {h : Heap} (T : Top p loose mean mg mb h) (S : h.NoSeer) : Gr h mg mb := by
  obtain ⟨mm, ⟨o, es, ep, ho, _⟩, _⟩ := S.mods
  exact ⟨T.g, T.b, T.nolimit, ⟨o, ho⟩, T.bmain⟩
theorem room_of {prog : Program} {w : World} {base : Heap} {env : Env} {p : Program} {loose : List Str} {mean : ExcName → Option Value} {mg mb : Str → Option Value} (T : Top p loose mean mg mb base) (S : base.NoSeer) (ht : prog.given.tree = none) (h1 : env.scope.isGenerator = false) (h2 : env.scope.isCoroutine = false) (h3 : env.builtins = builtinsNs) (h4 : env.globals = mainGlobals) : Room prog w (callerA.deeper env) base where
  depth := of_decide_eq_true (by with_unfolding_all rfl)
  units := of_decide_eq_true (by with_unfolding_all rfl)
  handled := rfl
  pylong := fun s hk => PylongRoom.of (T.nolimit.keeps hk) (of_decide_eq_true (by with_unfolding_all rfl)) (PySem.SeerAt.of (S.keeps hk) ht rfl h1 h2 h3 h4)
end Mine

namespace Mine
open PySem PySem.W PyProof.Rows PySem.Calls PySem.Spec
section
variable {prog : Program} {w : World} {A : Around} {E : Value → Shared → Prop} {s : Shared} {base : Heap} {os₀ : OsState} {led led' : Led} {env : Env} {I l : Addr} {vs : List Value}
end
end Mine

namespace Mine
open PySem PySem.W PyProof.Rows PySem.Calls PySem.Spec
/-! sorting a few pairs by their first text -/
section
variable {prog : Program} {w : World} {A : Around} {E : Value → Shared → Prop} {s : Shared} {base : Heap} {os₀ : OsState} {led : Led}

end
end Mine

namespace Mine
open PySem PySem.W PyProof.Rows PySem.Calls PySem.Spec
theorem valueAt_get {K : Type} [DecidableEq K] : ∀ {kvs : List (K × Value)} {j : Nat} {k : K} {v : Value}, (kvs.map (·.1)).Nodup → kvs[j]? = some (k, v) → valueAt kvs k = some v
  | [], _, _, _, _, h => by simp at h
  | (k', v') :: r, 0, k, v, _, h => by
    simp only [List.getElem?_cons_zero, Option.some.injEq, Prod.mk.injEq] at h
    obtain ⟨rfl, rfl⟩ := h
    simp [valueAt]
  | (k', v') :: r, j + 1, k, v, hn, h => by
    simp only [List.map_cons, List.nodup_cons] at hn
    simp only [List.getElem?_cons_succ] at h
    have hm : k ∈ r.map (·.1) := List.mem_map_of_mem (f := (·.1)) (List.mem_of_getElem? h)
    have : k' ≠ k := fun e => hn.1 (e ▸ hm)
    have ih := valueAt_get hn.2 h
    simp only [valueAt] at ih ⊢
    rw [List.find?_cons_of_neg (by simpa using this)]
    exact ih
section
variable {prog : Program} {w : World} {A : Around} {E : Value → Shared → Prop} {s : Shared} {base : Heap} {os₀ : OsState} {led : Led}

end
end Mine

namespace Mine
open PySem PySem.W PyProof.Rows PySem.Calls PySem.Spec
section
variable {prog : Program} {w : World} {A : Around} {E : Value → Shared → Prop} {s : Shared} {base : Heap} {os₀ : OsState} {led led' : Led} {env : Env} {o₀ : Obj} {d : Addr} {kvs : List (Str × Value)} {pos : Pos}

/-- while, with a measure -/
theorem while_led {test : Expr} {body : List Stmt} {Q : Flow → Shared → Prop} (J : Nat → Led → Prop) {n : Nat} (H : St base os₀ led s) (h0 : J n led)
    (turn : ∀ n led s E', J n led → St base os₀ led s → wpAny (model prog w) A (isTrue test env (eval test env)) (fun b s₂ =>
      if b then wpAny (model prog w) A (execs body env) (fun f s₃ => match f with
          | .next | .cont => ∃ m led', m < n ∧ J m led' ∧ St base os₀ led' s₃
          | .brk => Q .next s₃
          | .ret v => Q (.ret v) s₃) E' s₂
      else Q .next s₂) E' s) :
    wpAny (model prog w) A (exec (.While test body [] pos) env) Q E s := by
  refine wpAny_While (codeAny_whileLoop (fun n s' => ∃ led', J n led' ∧ St base os₀ led' s') ?_ n ⟨led, h0, H⟩)
  rintro n s' ⟨led', hJ, H'⟩
  refine wpAny_mono (turn n led' s' _ hJ H') (fun b s₂ h₂ => ?_) fun _ _ x => x
  cases b with
  | true =>
    simp only [if_true] at h₂ ⊢
    refine wpAny_mono h₂ (fun f s₃ h₃ => ?_) fun _ _ x => x
    cases f with
    | next => obtain ⟨m, led'', h1, h2, h3⟩ := h₃; exact ⟨m, h1, led'', h2, h3⟩
    | cont => obtain ⟨m, led'', h1, h2, h3⟩ := h₃; exact ⟨m, h1, led'', h2, h3⟩
    | brk => exact h₃
    | ret v => exact h₃
  | false =>
    simp only [Bool.false_eq_true, if_false] at h₂ ⊢
    exact wpAny_execs_nil h₂
theorem s_int {a : Int} {t : Tok} {Q : Value → Shared → Prop} (H : St base os₀ led s) (ha : a.natAbs.log2 < 1920) (h : ∀ t' s', St base os₀ led s' → Q (.str (toString a) t') s') :
    wpAny (model prog w) A (call (.type "str") [.int a t]) Q E s := PySem.P.str_of_int ha (h _ _ H.tok)
end
end Mine

namespace Mine
open PySem PySem.W PyProof.Rows PySem.Calls PySem.Spec
section
variable {prog : Program} {w : World} {A : Around} {E : Value → Shared → Prop} {s : Shared} {base : Heap} {os₀ : OsState} {led : Led} {env : Env}

end
end Mine

namespace Mine
open PySem PySem.W PyProof.Rows PySem.Calls PySem.Spec
section
variable {prog : Program} {w : World} {A : Around} {E : Value → Shared → Prop} {s : Shared} {base : Heap} {os₀ : OsState} {led : Led}
end
end Mine

namespace Mine
open PySem PySem.W PyProof.Rows PySem.Calls PySem.Spec
/-! filter: what the tables say -/
theorem owner_fil : Manifest.owners.lookup (String.ofList ['r', 'e', 't', 'l', 'i', 'f'].reverse) = some Manifest.sig_filter := by kernel_rfl
theorem slot_fil_next : Slot "filter" "__next__" "filter.__next__" :=
  .of (owner := "filter") (n := "__next__") (by rw [typeLookup_type, builtinLookup_eq_fast]; kernel_rfl) (by decide +kernel) (by decide +kernel) (by decide +kernel)
    (by first | exact .inl (by decide +kernel) | exact .inr (by decide +kernel)) (by rw [isSubtype_type]; kernel_rfl)
theorem slot_fil_iter : Slot "filter" "__iter__" "filter.__iter__" :=
  .of (owner := "filter") (n := "__iter__") (by rw [typeLookup_type, builtinLookup_eq_fast]; kernel_rfl) (by decide +kernel) (by decide +kernel) (by decide +kernel)
    (by first | exact .inl (by decide +kernel) | exact .inr (by decide +kernel)) (by rw [isSubtype_type]; kernel_rfl)
theorem slot_fil_init : Slot "filter" "__init__" "object.__init__" :=
  .of (owner := "object") (n := "__init__") (by rw [typeLookup_type, builtinLookup_eq_fast]; kernel_rfl) (by decide +kernel) (by decide +kernel) (by decide +kernel)
    (by first | exact .inl (by decide +kernel) | exact .inr (by decide +kernel)) (by rw [isSubtype_type]; kernel_rfl)
theorem args_fil_next (a : Value) : argsOk "filter.__next__" ⟨[a], []⟩ := by
  unfold argsOk; rw [signature?_of (id := "filter.__next__") (n := ['_', '_', 't', 'x', 'e', 'n', '_', '_']) (o := ['r', 'e', 't', 'l', 'i', 'f']) (by kernel_rfl) owner_fil]; kernel_rfl
theorem args_fil_iter (a : Value) : argsOk "filter.__iter__" ⟨[a], []⟩ := by
  unfold argsOk; rw [signature?_of (id := "filter.__iter__") (n := ['_', '_', 'r', 'e', 't', 'i', '_', '_']) (o := ['r', 'e', 't', 'l', 'i', 'f']) (by kernel_rfl) owner_fil]; kernel_rfl
theorem entry_fil_next : entryFor table "filter.__next__" = some Builtin.«filter.__next__» := entryFor_of_tree (by kernel_rfl)
theorem entry_fil_new : entryFor table "filter.__new__" = some Builtin.«filter.__new__» := entryFor_of_tree (by kernel_rfl)
theorem entry_fil_iter : entryFor table "filter.__iter__" = some Builtin.«dict_keyiterator.__iter__» :=
  entryFor_alias (id' := "dict_keyiterator.__iter__") (by kernel_rfl) (by first | rfl | decide +kernel) (by decide +kernel) (by kernel_rfl)
theorem mro_fil : mroOf (.type "filter") = pure [.type "filter", .type "object"] := by rw [mroOf_type]; kernel_rfl
theorem lookup_fil_new : typeLookup (.type "filter") "__new__" = pure (some (.builtin "filter.__new__")) := by rw [typeLookup_type, builtinLookup_eq_fast]; kernel_rfl
theorem called_fil : TypeCalled "filter" "filter.__new__" "object.__init__" :=
  ⟨by decide +kernel, by decide +kernel, ⟨_, _, mro_fil⟩, madeBy_type mro_fil lookup_fil_new (by decide +kernel), by decide +kernel, by rw [isSubtype_type]; kernel_rfl, slot_fil_init⟩
theorem typeCall_fil (a b : Value) : checkTypeCall "filter" ⟨[a, b], []⟩ = pure () := by kernel_rfl
theorem newCall_fil (a b : Value) : checkBuiltinCall "filter.__new__" ⟨[.type "filter", a, b], []⟩ = pure () := by kernel_rfl
theorem sub_fil : isSubtype (.type "filter") (.type "filter") = pure true := by rw [isSubtype_type]; kernel_rfl
theorem plain_fil_next : plainId "filter.__next__" = true := by decide +kernel
theorem args_max_d (a v : Value) : argsOk "max" ⟨[a], [(Str.ofString "default", v)]⟩ := by unfold argsOk; kernel_rfl
end Mine

namespace Mine
open PySem PySem.W PyProof.Rows PySem.Calls PySem.Spec
section
variable {prog : Program} {w : World} {K : Type} [DecidableEq K]
def dctE (knd : KeyKind prog w K) (kvs : List (K × Value)) (ep : Nat) : Asn := fun o => ∃ es, o.ExactDict ∧ o.data = .dict es ep ∧ KeysOf knd es ∧ Pairs knd es.toList kvs ∧ (kvs.map (·.1)).Nodup
theorem dctE_A {knd : KeyKind prog w K} {kvs : List (K × Value)} {ep : Nat} (o : Obj) (h : dctE knd kvs ep o) : dctA knd kvs o := by
  obtain ⟨es, r⟩ := h; exact ⟨es, ep, r⟩
def valA (d : Addr) (n ep i : Nat) : Asn := fun o => o.cls = .type "dict_valueiterator" ∧ o.data = .fields #[.ref d, .int i 0, .int n 0, .int ep 0]
def stopA : Asn := fun o => o.cls = .type "StopIteration"
def filA (I : Addr) : Asn := fun o => o = { cls := .type "filter", data := .fields #[.none, .ref I] }
variable {knd : KeyKind prog w K} {A : Around} {E : Value → Shared → Prop} {s : Shared} {base : Heap} {os₀ : OsState} {led : Led} {I d F : Addr} {kvs : List (K × Value)} {i ep : Nat}
theorem St.seeEp (H : St base os₀ ((d, dctA knd kvs) :: led) s) : ∃ ep, St base os₀ ((d, dctE knd kvs ep) :: led) s := by
  obtain ⟨o, ho, es, ep, r⟩ := H.get (.head _)
  exact ⟨ep, H.upd (tk := s.toks) .head (fun _ _ _ e => e) ⟨o, ho, es, r⟩⟩
theorem St.dictAt (H : St base os₀ led s) (hm : (d, dctE knd kvs ep) ∈ led) : s.heap.DictAt knd d kvs ep := by
  obtain ⟨o, ho, es, h1, h2, r⟩ := H.get hm; exact ⟨o, es, ho, h1, h2, r⟩
theorem St.valIter {n : Nat} (H : St base os₀ led s) (hm : (I, valA d n ep i) ∈ led) : s.heap.IsValIter I d i n ep := by
  obtain ⟨o, ho, r⟩ := H.get hm; exact ⟨o, ho, r⟩

theorem nv_item {k : K} {v : Value} {Q : Option Value → Shared → Prop} (H : St base os₀ ((I, valA d kvs.length ep i) :: (d, dctE knd kvs ep) :: led) s) (hx : kvs[i]? = some (k, v))
    (h : ∀ s', St base os₀ ((I, valA d kvs.length ep (i + 1)) :: (d, dctE knd kvs ep) :: led) s' → Q (some v) s') : wpAny (model prog w) A (callSpecial? (.ref I) "__next__") Q E s := by
  have hit := H.valIter (.head _)
  have hm := H.dictAt (knd := knd) (kvs := kvs) (.tail _ (.head _))
  obtain ⟨o, ho, hc, hd⟩ := id hit
  obtain ⟨od, es, hod, hcd, hdd, hk, hp, hn⟩ := id hm
  have hsz : es.size = kvs.length := by rw [← hp.length]; simp
  have hlt : i < kvs.length := by
    rcases Nat.lt_or_ge i kvs.length with h | h
    · exact h
    · simp [List.getElem?_eq_none h] at hx
  have hlt' : i < es.size := by rw [hsz]; exact hlt
  have hval : es[i].val = v := (hp.get? (e := es[i]) (by simp [hlt']) hx).2
  have hown : Builtin.Dict_items.ownsTuple "dict_valueiterator" = false := by decide
  refine wpAny_callSpecial?_slot (name := Str.ofString "__next__") hit.typeIs PySem.F.slot_dict_valueiterator_next (wpAny_call_entry PySem.F.slot_dict_valueiterator_next hit.typeIs PySem.F.entry_dict_valueiterator_next ?_ (PySem.F.args_dict_valueiterator_next_1 _))
  refine wpAny_bind (wpAny_pure (wpAny_bind (wpAny_bind ?_)))
  refine wpAny_bind (wpAny_typeNameOfWhole_valiter hit.typeIs (wpAny_pure ?_))
  refine wpAny_bind (wpAny_fieldsOf ho hd ?_)
  simp only [hown, Bool.false_eq_true, if_false]
  refine wpAny_ite_split (fun q => Bool.noConfusion (show false = true from q)) fun _ => ?_
  refine wpAny_bind (wpAny_pure (wpAny_bind (wpAny_dictEntries hod hdd ?_)))
  rw [if_neg (by rw [hsz]; simp)]
  refine wpAny_bind (wpAny_pure (wpAny_bind (wpAny_dictEpoch hod hdd ?_)))
  rw [if_neg (by simp)]
  refine wpAny_pure ?_
  simp only [show ¬ ((i : Int) < 0) from by omega, if_false, Int.toNat_natCast, Array.getElem?_eq_getElem hlt']
  refine wpAny_bind (wpAny_bind (wpAny_typeNameOfWhole_valiter hit.typeIs (wpAny_pure (wpAny_bind (wpAny_isOneOf_valiter hit.typeIs ?_)))))
  refine wpAny_bind (wpAny_setField ho hd (by simp [hown]) ?_)
  have hit' : (s.heap.update I (Obj.mapFields (·.setIfInBounds 1 (rawInt ((i : Int) + 1))))).IsValIter I d (i + 1) kvs.length ep :=
    ⟨_, Heap.get?_update_self _ ho (Obj.isFreed_of_fields (Obj.data_mapFields hd _)), (Obj.cls_mapFields ..).trans hc, by rw [Obj.data_mapFields hd]; simp [rawInt]⟩
  refine wpAny_bind (wpAny_holding (wpAny_bind (wpAny_isOneOf_valiter (s := { s with heap := s.heap.update I (Obj.mapFields (·.setIfInBounds 1 (rawInt ((i : Int) + 1)))) }) hit'.typeIs ?_)))
  refine wpAny_bind (wpAny_isOneOf_valiter (s := { s with heap := s.heap.update I (Obj.mapFields (·.setIfInBounds 1 (rawInt ((i : Int) + 1)))) }) hit'.typeIs ?_)
  refine wpAny_pure (wpAny_pure ⟨_, rfl, ?_⟩)
  rw [hval]
  obtain ⟨o', ho', r'⟩ := hit'
  exact h _ (H.upd (tk := s.toks) .head (Heap.SameBut.update ..).extBut ⟨o', ho', r'⟩)
theorem nv_end {Q : Option Value → Shared → Prop} (hh : A.handled = none) (H : St base os₀ ((I, valA d kvs.length ep i) :: (d, dctE knd kvs ep) :: led) s) (hx : kvs[i]? = none)
    (h : ∀ e s', St base os₀ ((e, stopA) :: (d, dctE knd kvs ep) :: led) s' → E (.ref e) s') : wpAny (model prog w) A (callSpecial? (.ref I) "__next__") Q E s := by
  have hit := H.valIter (.head _)
  have hm := H.dictAt (knd := knd) (kvs := kvs) (.tail _ (.head _))
  obtain ⟨o, ho, hc, hd⟩ := id hit
  obtain ⟨od, es, hod, hcd, hdd, hk, hp, hn⟩ := id hm
  have hsz : es.size = kvs.length := by rw [← hp.length]; simp
  have hge : es.size ≤ i := by rw [hsz]; simpa using hx
  have hown : Builtin.Dict_items.ownsTuple "dict_valueiterator" = false := by decide
  refine wpAny_callSpecial?_slot (name := Str.ofString "__next__") hit.typeIs PySem.F.slot_dict_valueiterator_next (wpAny_call_entry PySem.F.slot_dict_valueiterator_next hit.typeIs PySem.F.entry_dict_valueiterator_next ?_ (PySem.F.args_dict_valueiterator_next_1 _))
  refine wpAny_bind (wpAny_pure (wpAny_bind (wpAny_bind ?_)))
  refine wpAny_bind (wpAny_typeNameOfWhole_valiter hit.typeIs (wpAny_pure ?_))
  refine wpAny_bind (wpAny_fieldsOf ho hd ?_)
  simp only [hown, Bool.false_eq_true, if_false]
  refine wpAny_ite_split (fun q => Bool.noConfusion (show false = true from q)) fun _ => ?_
  refine wpAny_bind (wpAny_pure (wpAny_bind (wpAny_dictEntries hod hdd ?_)))
  rw [if_neg (by rw [hsz]; simp)]
  refine wpAny_bind (wpAny_pure (wpAny_bind (wpAny_dictEpoch hod hdd ?_)))
  rw [if_neg (by simp)]
  refine wpAny_pure ?_
  simp only [show ¬ ((i : Int) < 0) from by omega, if_false, Int.toNat_natCast, Array.getElem?_eq_none hge]
  refine wpAny_bind (wpAny_bind (wpAny_typeNameOfWhole_valiter hit.typeIs (wpAny_pure ?_)))
  refine wpAny_bind (wpAny_setField ho hd (by simp [hown]) ?_)
  refine wpAny_bind ?_
  simp only [newExc, newTuple]
  refine wpAny_bind (wpAny_newObj_type ?_ (by size_fits))
  refine wpAny_bind (m := firstArgMember _ _) (wpAny_of_eq (a := Value.none) (by first | rfl | (simp only [firstArgMember]; rfl)) ?_)
  refine wpAny_newObj_type ?_ (by size_fits)
  simp only [raiseNew]
  refine wpAny_bind (wpAny_handled ?_)
  rw [show A.in1.handled = none from hh]
  refine wpAny_bind (wpAny_pure (wpAny_throw ?_))
  have H₁ : St base os₀ ((d, dctE knd kvs ep) :: led) { s with heap := s.heap.update I (Obj.mapFields (·.setIfInBounds 0 .none)) } := H.gone (tk := s.toks) (Heap.SameBut.update ..).extBut
  rw [Heap.size_push]
  exact h _ _ (H₁.push2 (s := { s with heap := s.heap.update I (Obj.mapFields (·.setIfInBounds 0 .none)) }) (tk := s.toks) (P := stopA) rfl rfl (show _ = _ from rfl))
end
end Mine

namespace Mine
open PySem PySem.W PyProof.Rows PySem.Calls PySem.Spec
/-- a line: None, a bool, a text, a number -/
inductive Ln | none | bool (b : Bool) | str (x : Str) | int (n : Int)
def LnV : Ln → Value → Prop
  | .none, v => v = .none
  | .bool b, v => v = .bool b
  | .str x, v => ∃ t, v = .str x t
  | .int n, v => ∃ t, v = .int n t
def Ln.yes : Ln → Bool
  | .none => false
  | .bool b => b
  | .str x => (x.length : Int) != 0
  | .int n => n != 0
def Ln.fits : Ln → Prop
  | .str x => x.length ≤ 1000
  | .int n => n.natAbs < 10 ^ 100
  | _ => True
def Ln.num : Ln → Option Int
  | .bool b => some (if b then 1 else 0)
  | .int n => some n
  | _ => Option.none
def Ln.gt : Ln → Ln → Option Bool
  | .str x, .str y => some (decide (y.cps.toList < x.cps.toList))
  | a, b => match a.num, b.num with | some m, some n => some (decide (m > n)) | _, _ => Option.none
/-- the greatest of the lines that count -/
def maxL : Option Ln → List Ln → Option (Option Ln)
  | b, [] => some b
  | b, l :: r => if l.yes then (match b with
      | Option.none => maxL (some l) r
      | some m => match l.gt m with
        | Option.none => Option.none
        | some true => maxL (some l) r
        | some false => maxL (some m) r) else maxL b r
theorem maxL_skip {b : Option Ln} : ∀ {pre post : List Ln}, (∀ l ∈ pre, l.yes = false) → maxL b (pre ++ post) = maxL b post
  | [], _, _ => rfl
  | l :: pre, post, h => by
    have h1 := h l (.head _)
    simp only [List.cons_append, maxL, h1, Bool.false_eq_true, if_false]
    exact maxL_skip fun x hx => h x (.tail _ hx)
section
variable {prog : Program} {w : World} {K : Type} [DecidableEq K] {knd : KeyKind prog w K} {A : Around} {E : Value → Shared → Prop} {s : Shared} {base : Heap} {os₀ : OsState} {led : Led} {I d F S : Addr} {kvs : List (K × Value)} {i ep : Nat}
def VL (kvs : List (K × Value)) (ls : List Ln) : Prop := kvs.length = ls.length ∧ ∀ (i : Nat) (l : Ln), ls[i]? = some l → ∃ k v, kvs[i]? = some (k, v) ∧ LnV l v
theorem truthy_ln {l : Ln} {v : Value} {Q : Bool → Shared → Prop} (hv : LnV l v) (hf : l.fits) (H : St base os₀ led s) (h : ∀ s', St base os₀ led s' → Q l.yes s') : wpAny (model prog w) A (truthy v) Q E s := by
  cases l with
  | none => cases hv; exact PyProof.Rows.truthy_none (h _ H)
  | bool b => cases hv; exact wpAny_truthy_bool (h _ H)
  | str x =>
    obtain ⟨t, rfl⟩ := hv
    have hf : x.length ≤ 1000 := hf
    exact PySem.P.truthy_str (by omega) (h _ H.tok)
  | int n => obtain ⟨t, rfl⟩ := hv; exact PySem.P.truthy_int (h _ H)

/-- the next line that counts -/
theorem fil_next {R : Result → Shared → Prop} {ls : List Ln} (hh : A.handled = none) (hV : VL kvs ls) (hf : ∀ l ∈ ls, l.fits) : ∀ (m i : Nat) (s : Shared), ls.length - i = m →
    St base os₀ ((I, valA d kvs.length ep i) :: (d, dctE knd kvs ep) :: (F, filA I) :: led) s →
    (∀ pre l post v s', ls.drop i = pre ++ l :: post → (∀ x ∈ pre, x.yes = false) → l.yes = true → LnV l v → St base os₀ ((I, valA d kvs.length ep (i + pre.length + 1)) :: (d, dctE knd kvs ep) :: (F, filA I) :: led) s' → R (.ok (.ret v)) s') →
    (∀ e s', (∀ x ∈ ls.drop i, x.yes = false) → St base os₀ ((e, stopA) :: (d, dctE knd kvs ep) :: (F, filA I) :: led) s' → R (.error (.ref e)) s') →
    codeAny (model prog w) A (.builtin "filter.__next__" ⟨[.ref F], []⟩) R s := by
  intro m
  induction m with
  | zero =>
    intro i s hm H hi he
    obtain ⟨oF, hoF, rfl⟩ := H.get (a := F) (P := filA I) (.tail _ (.tail _ (.head _)))
    have hge : ls.length ≤ i := by omega
    refine codeAny_builtin entry_fil_next ?_
    rw [Around.under_plainId plain_fil_next _]
    refine wpAny_bind (wpAny_pure ?_)
    refine wpAny_bind (wpAny_field hoF rfl rfl (wpAny_bind (wpAny_field hoF rfl rfl ?_)))
    refine wpAny_bind (nv_end hh H (List.getElem?_eq_none (by rw [hV.1]; exact hge)) fun e s' H' => he e s' (by rw [List.drop_eq_nil_of_le hge]; intro x hx; cases hx) H')
  | succ m ih =>
    intro i s hm H hi he
    obtain ⟨oF, hoF, rfl⟩ := H.get (a := F) (P := filA I) (.tail _ (.tail _ (.head _)))
    have hlt : i < ls.length := by omega
    have hdr : ls.drop i = ls[i] :: ls.drop (i + 1) := List.drop_eq_getElem_cons hlt
    obtain ⟨k, v, hkv, hv⟩ := hV.2 i ls[i] (List.getElem?_eq_getElem hlt)
    refine codeAny_builtin entry_fil_next ?_
    rw [Around.under_plainId plain_fil_next _]
    refine wpAny_bind (wpAny_pure ?_)
    refine wpAny_bind (wpAny_field hoF rfl rfl (wpAny_bind (wpAny_field hoF rfl rfl ?_)))
    refine wpAny_bind (nv_item H hkv fun s₁ H₁ => ?_)
    refine wpAny_bind (wpAny_holding ?_)
    refine wpAny_ite_split (fun _ => ?_) fun q => absurd (show (true || _) = true from rfl) q
    refine wpAny_bind (wpAny_rule (truthy_ln hv (hf _ (List.getElem_mem hlt)) H₁ fun s₂ H₂ => ?_))
    cases hy : ls[i].yes with
    | true =>
      simp only [if_true]
      exact wpAny_pure (hi [] ls[i] (ls.drop (i + 1)) v s₂ (by rw [hdr]; rfl) (fun x hx => by cases hx) hy hv H₂)
    | false =>
      simp only [Bool.false_eq_true, if_false]
      refine wpAny_pure ⟨plainId_quiet plain_fil_next _, ih (i + 1) s₂ (by omega) H₂ (fun pre l post v' s' e1 e2 e3 e4 H' => ?_) fun e s' e1 H' => ?_⟩
      · have en : i + (ls[i] :: pre).length + 1 = i + 1 + pre.length + 1 := by simp; omega
        refine hi (ls[i] :: pre) l post v' s' (by rw [hdr, e1]; rfl) (fun x hx => ?_) e3 e4 (by rw [en]; exact H')
        rcases List.mem_cons.mp hx with rfl | hx
        · exact hy
        · exact e2 x hx
      · refine he e s' (fun x hx => ?_) H'
        rw [hdr] at hx
        rcases List.mem_cons.mp hx with rfl | hx
        · exact hy
        · exact e1 x hx
end
end Mine

namespace Mine
open PySem PySem.W PyProof.Rows PySem.Calls PySem.Spec
section
variable {prog : Program} {w : World} {K : Type} [DecidableEq K] {knd : KeyKind prog w K} {A : Around} {E : Value → Shared → Prop} {s : Shared} {base : Heap} {os₀ : OsState} {led : Led} {I d F S v : Addr} {kvs : List (K × Value)} {i ep : Nat} {ls : List Ln}
theorem fil_iter {Q : Value → Shared → Prop} (H : St base os₀ led s) (hm : (F, filA I) ∈ led) (h : Q (.ref F) s) : wpAny (model prog w) A (pyIter (.ref F)) Q E s := by
  obtain ⟨o, ho, rfl⟩ := H.get hm
  have hT : s.TypeIs (.ref F) "filter" := ⟨_, ho, rfl⟩
  refine wpAny_pyIter_slot hT slot_fil_iter (wpAny_call_entry slot_fil_iter hT entry_fil_iter ?_ (args_fil_iter _))
  show wpAny _ _ (ret (.ref F)) _ _ s
  exact wpAny_pure ⟨_, rfl, "filter", _, hT, slot_fil_next.lookup, h⟩
theorem fil_pyNext {Q : Option Value → Shared → Prop} (hh : A.handled = none) (hV : VL kvs ls) (hf : ∀ l ∈ ls, l.fits) (H : St base os₀ ((I, valA d kvs.length ep i) :: (d, dctE knd kvs ep) :: (F, filA I) :: led) s)
    (hi : ∀ pre l post v s', ls.drop i = pre ++ l :: post → (∀ x ∈ pre, x.yes = false) → l.yes = true → LnV l v → St base os₀ ((I, valA d kvs.length ep (i + pre.length + 1)) :: (d, dctE knd kvs ep) :: (F, filA I) :: led) s' → Q (some v) s')
    (he : ∀ s', (∀ x ∈ ls.drop i, x.yes = false) → St base os₀ ((d, dctE knd kvs ep) :: (F, filA I) :: led) s' → Q none s') : wpAny (model prog w) A (pyNext (.ref F)) Q E s := by
  obtain ⟨o, ho, rfl⟩ := H.get (a := F) (P := filA I) (.tail _ (.tail _ (.head _)))
  have hT : s.TypeIs (.ref F) "filter" := ⟨_, ho, rfl⟩
  unfold pyNext
  refine wpAny_bind (wpAny_attempt (wpAny_callSpecial?_slot (name := Str.ofString "__next__") hT slot_fil_next (wpAny_call (codeAny_call_builtin_code (plainId_quiet plain_fil_next _) (slot_fil_next.check _ _ _ _ _ _ _ _ hT (args_fil_next _) ?_)))))
  refine fil_next hh hV hf _ i s rfl H (fun pre l post v s' e1 e2 e3 e4 H' => wpAny_pure (hi pre l post v s' e1 e2 e3 e4 H')) fun e s' e1 H' => ?_
  obtain ⟨oe, hoe, hce⟩ := H'.get (a := e) (P := stopA) (.head _)
  refine wpAny_bind (wpAny_isInstance (T := "StopIteration") (b := true) ⟨oe, hoe, hce⟩ isSubtype_stop ?_)
  exact wpAny_pure (he s' e1 (H'.sub (.cons _ (.refl _))))

/-- how the lines are compared -/
def CmpOk (prog : Program) (w : World) (A : Around) (base : Heap) (os₀ : OsState) (ls : List Ln) : Prop :=
  ∀ (l m : Ln) (v u : Value) (led : Led) (s : Shared) (Q : Value → Shared → Prop) (E : Value → Shared → Prop), l ∈ ls → m ∈ ls → l.yes = true → m.yes = true → LnV l v → LnV m u → St base os₀ led s →
    (∀ b s', l.gt m = some b → St base os₀ led s' → Q (.bool b) s') → (∀ e s', l.gt m = none → St base os₀ ((e, ex0 "TypeError") :: led) s' → E (.ref e) s') → wpAny (model prog w) A (richCompare .Gt v u) Q E s
def bestA (b : Option (Ln × Value)) : Asn := lstA (match b with | none => [] | some (_, v) => [v, v])

theorem max_loop {R : Result → Shared → Prop} {dv : Value} (hh : A.handled = none) (hV : VL kvs ls) (hf : ∀ l ∈ ls, l.fits) (hcmp : CmpOk prog w A.in1 base os₀ ls) : ∀ (n i : Nat) (b : Option (Ln × Value)) (s : Shared), ls.length - i ≤ n →
    (∀ l v, b = some (l, v) → l ∈ ls ∧ l.yes = true ∧ LnV l v) →
    St base os₀ ((S, bestA b) :: (I, valA d kvs.length ep i) :: (d, dctE knd kvs ep) :: (F, filA I) :: led) s →
    (∀ l v s', maxL (b.map (·.1)) (ls.drop i) = some (some l) → l ∈ ls → l.yes = true → LnV l v → St base os₀ ((d, dctE knd kvs ep) :: led) s' → R (.ok (.ret v)) s') →
    (∀ s', maxL (b.map (·.1)) (ls.drop i) = some none → St base os₀ ((d, dctE knd kvs ep) :: led) s' → R (.ok (.ret dv)) s') →
    (∀ e s', maxL (b.map (·.1)) (ls.drop i) = none → St base os₀ ((e, ex0 "TypeError") :: (d, dctE knd kvs ep) :: led) s' → R (.error (.ref e)) s') →
    codeAny (model prog w) A (.builtin "max.loop" ⟨[.ref F, .none, .ref S], [(Str.ofString "default", dv)]⟩) R s := by
  have hname : (toString "max" ++ toString ".loop" : String) = "max.loop" := by decide
  intro n
  induction n with
  | zero =>
    intro i b s hn hb H h1 h2 h3
    have hdr : ls.drop i = [] := List.drop_eq_nil_of_le (by omega)
    rw [hdr] at h1 h2 h3
    obtain ⟨oS, hoS, nS, rfl⟩ := H.get (a := S) (P := bestA b) (.head _)
    have Hn : St base os₀ ((I, valA d kvs.length ep i) :: (d, dctE knd kvs ep) :: (F, filA I) :: (S, bestA b) :: led) s := H.perm (List.perm_middle (l₁ := [(I, valA d kvs.length ep i), (d, dctE knd kvs ep), (F, filA I)]))
    refine codeAny_builtin PySem.F.entry_max_loop ?_
    rw [Around.under_plainId PySem.F.plain_max_loop _]
    refine wpAny_bind (wpAny_seqItems hoS rfl ?_)
    refine wpAny_bind (wpAny_tryCatch (fil_pyNext hh hV hf Hn (fun pre l post v s' e1 => ?_) fun s' e1 H' => ?_))
    · rw [hdr] at e1; cases pre <;> cases e1
    · have H'' : St base os₀ ((S, bestA b) :: (d, dctE knd kvs ep) :: led) s' := (H'.perm (led' := (F, filA I) :: (S, bestA b) :: (d, dctE knd kvs ep) :: led) (by
        repeat (first | exact List.Perm.refl _ | refine Pick.perm (by (repeat (first | exact Pick.head | apply Pick.tail))) ?_))).sub (.cons _ (.refl _))
      cases b with
      | none => exact wpAny_bind (wpAny_rule (wpAny_pure (h2 s' rfl (H''.sub (.cons _ (.refl _))))))
      | some lv =>
        obtain ⟨l, vb⟩ := lv
        obtain ⟨b1, b2, b3⟩ := hb l vb rfl
        obtain ⟨oS', hoS', nS', rfl⟩ := H''.get (a := S) (P := bestA (some (l, vb))) (.head _)
        refine wpAny_bind (wpAny_updateSeq hoS' rfl (wpAny_bind (wpAny_letGo (wpAny_pure ?_))))
        exact h1 l vb _ rfl b1 b2 b3 (H''.gone (tk := s'.toks) (Heap.SameBut.update ..).extBut)
  | succ n ih =>
    intro i b s hn hb H h1 h2 h3
    obtain ⟨oS, hoS, nS, rfl⟩ := H.get (a := S) (P := bestA b) (.head _)
    have Hn : St base os₀ ((I, valA d kvs.length ep i) :: (d, dctE knd kvs ep) :: (F, filA I) :: (S, bestA b) :: led) s := H.perm (List.perm_middle (l₁ := [(I, valA d kvs.length ep i), (d, dctE knd kvs ep), (F, filA I)]))
    refine codeAny_builtin PySem.F.entry_max_loop ?_
    rw [Around.under_plainId PySem.F.plain_max_loop _]
    refine wpAny_bind (wpAny_seqItems hoS rfl ?_)
    refine wpAny_bind (wpAny_tryCatch (fil_pyNext hh hV hf Hn (fun pre l post v s' e1 e2 e3 e4 H' => ?_) fun s' e1 H' => ?_))
    · have hpost : ls.drop (i + pre.length + 1) = post := by
        have : ls.drop (i + pre.length + 1) = (ls.drop i).drop (pre.length + 1) := by rw [List.drop_drop]; congr 1
        rw [this, e1]
        simp
      have hl : l ∈ ls := List.mem_of_mem_drop (i := i) (by rw [e1]; simp)
      have hlen : pre.length + 1 + post.length = ls.length - i := by have := congrArg List.length e1; simp at this; omega
      rw [e1, maxL_skip e2] at h1 h2 h3
      have H₁ : St base os₀ ((S, bestA b) :: (I, valA d kvs.length ep (i + pre.length + 1)) :: (d, dctE knd kvs ep) :: (F, filA I) :: led) s' := H'.perm (by
        repeat (first | exact List.Perm.refl _ | refine Pick.perm (by (repeat (first | exact Pick.head | apply Pick.tail))) ?_))
      refine wpAny_bind (wpAny_pure ?_)
      cases b with
      | none =>
        obtain ⟨oS', hoS', nS', rfl⟩ := H₁.get (a := S) (P := bestA none) (.head _)
        refine wpAny_bind (wpAny_updateSeq hoS' rfl ?_)
        rw [hname]
        have H₂ : St base os₀ ((S, bestA (some (l, v))) :: (I, valA d kvs.length ep (i + pre.length + 1)) :: (d, dctE knd kvs ep) :: (F, filA I) :: led) _ := H₁.upd (tk := s'.toks) .head (Heap.SameBut.update ..).extBut ⟨_, get?_update_seq hoS' fun _ => #[v, v], _, rfl⟩
        have em : maxL ((none : Option (Ln × Value)).map (·.1)) (l :: post) = maxL ((some (l, v)).map (·.1)) (ls.drop (i + pre.length + 1)) := by rw [hpost]; simp [maxL, e3]
        rw [em] at h1 h2 h3
        refine wpAny_pure ⟨plainId_quiet PySem.F.plain_max_loop _, ih (i + pre.length + 1) (some (l, v)) _ (by omega) (fun l' v' e => by cases e; exact ⟨hl, e3, e4⟩) H₂ h1 h2 h3⟩
      | some lv =>
        obtain ⟨m, vb⟩ := lv
        obtain ⟨b1, b2, b3⟩ := hb m vb rfl
        refine wpAny_bind (wpAny_tryCatch (wpAny_holding (wpAny_bind (hcmp l m v vb _ s' _ _ hl b1 e3 b2 e4 b3 H₁ (fun bb s₂ eg H₂ => ?_) fun e s₂ eg H₂ => ?_))))
        · refine wpAny_bind (wpAny_holding (wpAny_truthy_bool (wpAny_bind (wpAny_letGo (wpAny_pure ?_)))))
          cases bb with
          | true =>
            simp only [if_true]
            obtain ⟨oS', hoS', nS', rfl⟩ := H₂.get (a := S) (P := bestA (some (m, vb))) (.head _)
            refine wpAny_bind (wpAny_updateSeq hoS' rfl (wpAny_bind (wpAny_letGo ?_)))
            rw [hname]
            have H₃ : St base os₀ ((S, bestA (some (l, v))) :: (I, valA d kvs.length ep (i + pre.length + 1)) :: (d, dctE knd kvs ep) :: (F, filA I) :: led) _ := H₂.upd (tk := s₂.toks) .head (Heap.SameBut.update ..).extBut ⟨_, get?_update_seq hoS' fun _ => #[v, v], _, rfl⟩
            have em : maxL ((some (m, vb)).map (·.1)) (l :: post) = maxL ((some (l, v)).map (·.1)) (ls.drop (i + pre.length + 1)) := by rw [hpost]; simp [maxL, e3, eg]
            rw [em] at h1 h2 h3
            exact wpAny_pure ⟨plainId_quiet PySem.F.plain_max_loop _, ih (i + pre.length + 1) (some (l, v)) _ (by omega) (fun l' v' e => by cases e; exact ⟨hl, e3, e4⟩) H₃ h1 h2 h3⟩
          | false =>
            simp only [Bool.false_eq_true, if_false]
            refine wpAny_bind (wpAny_letGo ?_)
            rw [hname]
            have em : maxL ((some (m, vb)).map (·.1)) (l :: post) = maxL ((some (m, vb)).map (·.1)) (ls.drop (i + pre.length + 1)) := by rw [hpost]; simp [maxL, e3, eg]
            rw [em] at h1 h2 h3
            exact wpAny_pure ⟨plainId_quiet PySem.F.plain_max_loop _, ih (i + pre.length + 1) (some (m, vb)) _ (by omega) hb H₂ h1 h2 h3⟩
        · have H₃ : St base os₀ ((S, bestA (some (m, vb))) :: (e, ex0 "TypeError") :: (d, dctE knd kvs ep) :: led) s₂ := (H₂.perm (led' := (F, filA I) :: (I, valA d kvs.length ep (i + pre.length + 1)) :: (S, bestA (some (m, vb))) :: (e, ex0 "TypeError") :: (d, dctE knd kvs ep) :: led) (by
            repeat (first | exact List.Perm.refl _ | refine Pick.perm (by (repeat (first | exact Pick.head | apply Pick.tail))) ?_))).sub (.cons _ (.cons _ (.refl _)))
          obtain ⟨oS', hoS', nS', rfl⟩ := H₃.get (a := S) (P := bestA (some (m, vb))) (.head _)
          refine wpAny_bind (wpAny_updateSeq hoS' rfl (wpAny_bind (wpAny_letGo (wpAny_throw ?_))))
          exact h3 e _ (by simp [maxL, e3, eg]) (H₃.gone (tk := s₂.toks) (Heap.SameBut.update ..).extBut)
    · have hz : maxL (b.map (·.1)) (ls.drop i) = some (b.map (·.1)) := by
        have := maxL_skip (b := b.map (·.1)) (pre := ls.drop i) (post := []) e1
        rw [List.append_nil] at this
        rw [this]; rfl
      have H'' : St base os₀ ((S, bestA b) :: (d, dctE knd kvs ep) :: led) s' := (H'.perm (led' := (F, filA I) :: (S, bestA b) :: (d, dctE knd kvs ep) :: led) (by
        repeat (first | exact List.Perm.refl _ | refine Pick.perm (by (repeat (first | exact Pick.head | apply Pick.tail))) ?_))).sub (.cons _ (.refl _))
      cases b with
      | none => exact wpAny_bind (wpAny_rule (wpAny_pure (h2 s' hz (H''.sub (.cons _ (.refl _))))))
      | some lv =>
        obtain ⟨l, vb⟩ := lv
        obtain ⟨b1, b2, b3⟩ := hb l vb rfl
        obtain ⟨oS', hoS', nS', rfl⟩ := H''.get (a := S) (P := bestA (some (l, vb))) (.head _)
        refine wpAny_bind (wpAny_updateSeq hoS' rfl (wpAny_bind (wpAny_letGo (wpAny_pure ?_))))
        exact h1 l vb _ hz b1 b2 b3 (H''.gone (tk := s'.toks) (Heap.SameBut.update ..).extBut)
end
end Mine

namespace Mine
open PySem PySem.W PyProof.Rows PySem.Calls PySem.Spec
section
variable {prog : Program} {w : World} {K : Type} [DecidableEq K] {knd : KeyKind prog w K} {A : Around} {E : Value → Shared → Prop} {s : Shared} {base : Heap} {os₀ : OsState} {led : Led} {I d F S v : Addr} {kvs : List (K × Value)} {i ep : Nat} {ls : List Ln} {o₀ : Obj}
def viewA (d : Addr) : Asn := objA { cls := .type "dict_values", data := .fields #[.ref d] }
theorem meets_fil (knd : KeyKind prog w K) (v d : Addr) (kvs : List (K × Value)) (ep : Nat) :
    MeetsIn prog w (Builtin.«filter.__new__» ⟨[.type "filter", .none, .ref v], []⟩) (fun _ R s => s.heap.IsValuesView v d ∧ s.heap.DictAt knd d kvs ep ∧
      R (.ok (.ret (.ref (s.heap.objs.size + 1)))) { s with heap := (s.heap.push { cls := .type "dict_valueiterator", data := .fields #[.ref d, .int 0 0, .int kvs.length 0, .int ep 0] }).push { cls := .type "filter", data := .fields #[.none, .ref s.heap.objs.size] } }) :=
  .of_wp fun A R s h => by
    obtain ⟨hv, hm, h⟩ := h
    obtain ⟨hp, g, d', tk, os⟩ := s
    have hsub := sub_fil
    wp_walk using wpAny_pyIter_values hv hm
    refine ⟨_, rfl, ?_⟩
    rw [Heap.size_push]
    exact h
theorem fil_new {Q : Value → Shared → Prop} (H : St base os₀ ((d, dctE knd kvs ep) :: led) s) (hv : (v, viewA d) ∈ led)
    (h : ∀ F I s', St base os₀ ((F, filA I) :: (I, valA d kvs.length ep 0) :: (d, dctE knd kvs ep) :: led) s' → Q (.ref F) s') : wpAny (model prog w) A (call (.type "filter") [.none, .ref v]) Q E s := by
  obtain ⟨ov, hov, rfl⟩ := H.get (a := v) (P := viewA d) (.tail _ hv)
  refine callType_newIn called_fil (by decide) (typeCall_fil _ _) (newCall_fil _ _) (fun obj => PySem.F.args_object_init_3 obj _ _) entry_fil_new (meets_fil knd v d kvs ep) ⟨⟨_, hov, rfl, rfl⟩, H.dictAt (.head _), ?_⟩
  have H₁ := H.push (tk := s.toks) (P := valA d kvs.length ep 0) (o := { cls := .type "dict_valueiterator", data := .fields #[.ref d, .int 0 0, .int kvs.length 0, .int ep 0] }) rfl ⟨rfl, rfl⟩
  have H₂ := H₁.push (tk := s.toks) (P := filA s.heap.objs.size) (o := { cls := .type "filter", data := .fields #[.none, .ref s.heap.objs.size] }) rfl rfl
  have e : (s.heap.push { cls := .type "dict_valueiterator", data := .fields #[.ref d, .int 0 0, .int kvs.length 0, .int ep 0] }).objs.size = s.heap.objs.size + 1 := Heap.size_push ..
  simp only [e] at H₂
  obtain ⟨o, ho, hf⟩ := H₂.get (.head _)
  exact ⟨⟨o, ho, by rw [hf]⟩, h _ _ _ H₂⟩
theorem max_default {Q : Value → Shared → Prop} {dv : Value} (hh : A.handled = none) (hV : VL kvs ls) (hf : ∀ l ∈ ls, l.fits) (hcmp : CmpOk prog w A.in1 base os₀ ls)
    (H : St base os₀ ((F, filA I) :: (I, valA d kvs.length ep 0) :: (d, dctE knd kvs ep) :: led) s)
    (h1 : ∀ l v s', maxL none ls = some (some l) → l ∈ ls → l.yes = true → LnV l v → St base os₀ ((d, dctE knd kvs ep) :: led) s' → Q v s')
    (h2 : ∀ s', maxL none ls = some none → St base os₀ ((d, dctE knd kvs ep) :: led) s' → Q dv s')
    (h3 : ∀ e s', maxL none ls = none → St base os₀ ((e, ex0 "TypeError") :: (d, dctE knd kvs ep) :: led) s' → E (.ref e) s') :
    wpAny (model prog w) A (call (.builtin "max") [.ref F] [(Str.ofString "default", dv)]) Q E s := by
  have hname : (toString "max" ++ toString ".loop" : String) = "max.loop" := by decide
  refine kmk_tree PySem.F.kind_max PySem.F.plain_max PySem.F.entry_max (args_max_d _ _) ?_
  refine wpAny_bind (m := Builtin.Builtins.bindParams "max" ["key", "default"] 0 ⟨[], [(Str.ofString "default", dv)]⟩) (wpAny_of_eq (show Builtin.Builtins.bindParams "max" ["key", "default"] 0 ⟨[], [(Str.ofString "default", dv)]⟩ = pure [none, some dv] from rfl) ?_)
  refine wpAny_bind (wpAny_pure (wpAny_bind (fil_iter H (.head _) (wpAny_bind (new_list H fun S s₁ H₁ => ?_)))))
  rw [hname]
  refine wpAny_pure ⟨plainId_quiet PySem.F.plain_max_loop _, max_loop (I := I) (b := none) hh hV hf hcmp ls.length 0 s₁ (Nat.le_refl _) (fun l v e => by cases e) (H₁.perm ?_) (fun l v s' e => h1 l v s' e) (fun s' e => h2 s' e) fun e s' q => h3 e s' q⟩
  repeat (first | exact List.Perm.refl _ | refine Pick.perm (by (repeat (first | exact Pick.head | apply Pick.tail))) ?_)
end
end Mine

namespace Mine
open PySem PySem.W PyProof.Rows PySem.Calls PySem.Spec
theorem entry_ci : entryFor table "proto.contains_iter" = some Builtin.«proto.contains_iter» := entryFor_of_tree (by kernel_rfl)
theorem plain_ci : plainId "proto.contains_iter" = true := by decide +kernel
theorem no_contains_values : typeLookup (.type "dict_values") "__contains__" = pure none := by rw [typeLookup_type, builtinLookup_eq_fast]; kernel_rfl
def Ln.isNone : Ln → Bool | .none => true | _ => false
section
variable {prog : Program} {w : World} {K : Type} [DecidableEq K] {knd : KeyKind prog w K} {A : Around} {E : Value → Shared → Prop} {s : Shared} {base : Heap} {os₀ : OsState} {led led' : Led} {I d F S v : Addr} {kvs : List (K × Value)} {i ep : Nat} {ls : List Ln} {o₀ : Obj} {pos : Pos}
theorem eq_none {l : Ln} {v : Value} (hv : LnV l v) : SeqAt.EqAt A s v .none l.isNone := by
  cases l with
  | none => cases hv; exact SeqAt.EqAt.same _
  | bool b => cases hv; exact SeqAt.EqAt.bool_none b
  | str x => obtain ⟨t, rfl⟩ := hv; exact SeqAt.EqAt.str_none x t
  | int n => obtain ⟨t, rfl⟩ := hv; exact SeqAt.EqAt.int_none n t
theorem contains_loop {R : Result → Shared → Prop} (hh : A.handled = none) (hV : VL kvs ls) : ∀ (m i : Nat) (s : Shared), ls.length - i = m →
    St base os₀ ((I, valA d kvs.length ep i) :: (d, dctE knd kvs ep) :: led) s → (∀ s', St base os₀ ((d, dctE knd kvs ep) :: led) s' → R (.ok (.ret (.bool ((ls.drop i).any Ln.isNone)))) s') →
    codeAny (model prog w) A (.builtin "proto.contains_iter" ⟨[.ref I, .none], []⟩) R s := by
  intro m
  induction m with
  | zero =>
    intro i s hm H h
    have hge : ls.length ≤ i := by omega
    refine codeAny_builtin entry_ci ?_
    rw [Around.under_plainId plain_ci _]
    refine wpAny_bind (wpAny_pyNext_values_end (knd := knd) hh (H.valIter (.head _)) (H.dictAt (.tail _ (.head _))) (List.getElem?_eq_none (by rw [hV.1]; exact hge)) fun h' hx => wpAny_bind (wpAny_rule (wpAny_pure ?_)))
    have := h _ (H.gone (tk := s.toks) fun b o hb e => hx b o hb e)
    rw [List.drop_eq_nil_of_le hge] at this
    exact this
  | succ m ih =>
    intro i s hm H h
    have hlt : i < ls.length := by omega
    have hdr : ls.drop i = ls[i] :: ls.drop (i + 1) := List.drop_eq_getElem_cons hlt
    obtain ⟨k, v, hkv, hv⟩ := hV.2 i ls[i] (List.getElem?_eq_getElem hlt)
    refine codeAny_builtin entry_ci ?_
    rw [Around.under_plainId plain_ci _]
    refine wpAny_bind (wpAny_pyNext_values_item (knd := knd) (H.valIter (.head _)) (H.dictAt (.tail _ (.head _))) hkv fun h' hit hs => ?_)
    have H₁ : St base os₀ ((I, valA d kvs.length ep (i + 1)) :: (d, dctE knd kvs ep) :: led) { s with heap := h' } := by
      obtain ⟨o', ho', r'⟩ := hit
      exact H.upd (tk := s.toks) .head hs.extBut ⟨o', ho', r'⟩
    refine wpAny_bind (eq_none hv prog w _ _ ?_)
    rw [hdr, List.any_cons] at h
    cases hn : ls[i].isNone with
    | true =>
      simp only [if_true]
      rw [hn, Bool.true_or] at h
      exact wpAny_bind (wpAny_rule (wpAny_pure (h _ (H₁.sub (.cons _ (.refl _))))))
    | false =>
      simp only [Bool.false_eq_true, if_false]
      rw [hn, Bool.false_or] at h
      exact wpAny_pure ⟨plainId_quiet plain_ci _, ih (i + 1) _ (by omega) H₁ h⟩
/-- None in d.values() -/
theorem in_values {Q : Value → Shared → Prop} (hh : A.handled = none) (hV : VL kvs ls) (H : St base os₀ ((d, dctE knd kvs ep) :: led) s) (hv : (v, viewA d) ∈ led)
    (h : ∀ s', St base os₀ ((d, dctE knd kvs ep) :: led) s' → Q (.bool (ls.any Ln.isNone)) s') : wpAny (model prog w) A (compareOp .In .none (.ref v)) Q E s := by
  obtain ⟨ov, hov, rfl⟩ := H.get (a := v) (P := viewA d) (.tail _ hv)
  have hT : s.TypeIs (.ref v) "dict_values" := ⟨_, hov, rfl⟩
  show wpAny _ A (do return .bool (← contains (.ref v) .none)) Q E s
  refine wpAny_bind ?_
  unfold contains
  refine wpAny_holding ?_
  refine wpAny_bind (wpAny_specialOf (name := Str.ofString "__contains__") hT no_contains_values ?_)
  refine wpAny_ite_split (fun q => Bool.noConfusion (show false = true from q)) fun _ => ?_
  refine wpAny_bind (wpAny_callSpecialUnlessNone?_none hT no_contains_values ?_)
  refine wpAny_bind (wpAny_rule (wpAny_bind (wpAny_tryCatch (wpAny_pyIter_values (knd := knd) (kvs := kvs) (ep := ep) ⟨_, hov, rfl, rfl⟩ (H.dictAt (.head _)) (wpAny_bind ?_)))))
  have H₁ := H.push (tk := s.toks) (P := valA d kvs.length ep 0) (o := { cls := .type "dict_valueiterator", data := .fields #[.ref d, .int 0 0, .int kvs.length 0, .int ep 0] }) rfl ⟨rfl, rfl⟩
  exact wpAny_runValue (contains_loop hh hV _ 0 _ rfl H₁ fun s' H' => wpAny_pure (wpAny_pure (h s' H')))
theorem d_values {Q : Value → Shared → Prop} (H : St base os₀ led s) (hs : base.get? sysModules = some o₀) (hd : (d, dctA knd kvs) ∈ led)
    (h : ∀ v s', St base os₀ ((v, viewA d) :: led) s' → Q (.ref v) s') :
    MethodOn prog w A "values" pos (.ref d) [] Q E s :=
  ⟨"dict", "dict.values", PySem.F.plainAttrs_dict, PySem.F.slot_dict_values, PySem.F.type_dict_values, (H.isDict hd).typeIs, (H.isDict hd).mapOf.noDict,
    callWith_builtin rfl (PySem.evalArgs_none (call_meetsIn PySem.F.slot_dict_values (H.isDict hd).typeIs PySem.F.entry_dict_values (PySem.F.args_dict_values_1 _) (meets_dict_values knd d (H.notSys hd hs)) ⟨⟨kvs, H.isDict hd⟩, h _ _ (H.push (tk := s.toks) rfl rfl)⟩))⟩
end
end Mine

namespace Mine
open PySem PySem.W PyProof.Rows PySem.Calls PySem.Spec
/-- where the name of a comprehension stands -/
structure Var (prog : Program) (w : World) (A : Around) (base : Heap) (os₀ : OsState) (ce : Env) (target : Expr) (C : Addr) (V : Option Value → Led → Prop) : Prop where
  store : ∀ o vl v rest s (Q : Unit → Shared → Prop) (E : Value → Shared → Prop), V o vl → St base os₀ (vl ++ rest) s → (∀ vl' s', V (some v) vl' → St base os₀ (vl' ++ rest) s' → Q () s') → wpAny (model prog w) A (assign target ce v) Q E s
  ns : ∀ o vl, V o vl → ∃ m vr, vl = (C, nsA m) :: vr
def varL (C : Addr) (x : Str) (o : Option Value) (vl : Led) : Prop := ∃ m : Str → Option Value, vl = [(C, nsA m)] ∧ ∀ v, o = some v → m x = some v
section
variable {prog : Program} {w : World} {A : Around} {E : Value → Shared → Prop} {s : Shared} {base : Heap} {os₀ : OsState} {led : Led} {env : Env}
theorem Var.loc {ce : Env} {x : Str} {px : Pos} (hkind : ce.scope.kind = .function) (hx : ce.kindOf x = some .local) : Var prog w A base os₀ ce (.Name x px) ce.locals (varL ce.locals x) where
  store := fun o vl v rest s Q E ⟨m, e, hm⟩ H h => by
    subst e
    exact wpAny_assign_Name (st_l H .head (fun s' H' => h _ s' ⟨_, rfl, fun v' q => by cases q; exact if_pos rfl⟩ H') hkind hx)
  ns := fun o vl ⟨m, e, _⟩ => ⟨m, [], e⟩
theorem comp_loopG {R : Result → Shared → Prop} {elt iter target : Expr} {ifs : List Expr} {scope : Scope} {pos : Pos} {ce : Env} {I C D : Addr} {n : Nat} {P : Nat → Value → Prop} {itP : Nat → Asn} {side : Led} {V : Option Value → Led → Prop} {vl₀ : Led}
    (W : Iter prog w A base os₀ I n P itP side) (hsz : n ≤ sizeLine) (hV : Var prog w A base os₀ ce target C V) (J : Nat → List Value → Led → Prop)
    (turn : ∀ i v ys vl led s E', i < n → P i v → J i ys led → V (some v) vl → St base os₀ (vl ++ ((D, lstA ys) :: (I, itP (i + 1)) :: (side ++ led))) s →
      wpAny (model prog w) A (forIn ifs true fun c r => if r = true then do let ok ← isTrue c ce (eval c ce); pure (ForInStep.yield ok) else pure (ForInStep.yield r)) (fun ok s₂ =>
        if ok = true then wpAny (model prog w) A (eval elt ce) (fun y s₃ => ∃ led', J (i + 1) (ys ++ [y]) led' ∧ St base os₀ (vl ++ ((D, lstA ys) :: (I, itP (i + 1)) :: (side ++ led'))) s₃) E' s₂
        else ∃ led', J (i + 1) ys led' ∧ St base os₀ (vl ++ ((D, lstA ys) :: (I, itP (i + 1)) :: (side ++ led'))) s₂) E' s)
    (fin : ∀ o vl ys led s, V o vl → J n ys led → ys.length ≤ n → St base os₀ (vl ++ ((D, lstA ys) :: (side ++ led))) s → R (.ok .next) s)
    (hv0 : V none vl₀) (H : St base os₀ (vl₀ ++ ((D, lstA []) :: (I, itP 0) :: (side ++ led))) s) (h0 : J 0 [] led)
    (ht : ∀ v, letOwnedTupleGo target (.ref I) v = pure () := by intro _; rfl) :
    codeAny (model prog w) A (.compLoop (.ListComp elt [⟨target, iter, ifs, 0⟩] scope pos) 0 (.ref I) (.ref D) ce) R s := by
  refine codeAny_compLoop_tests (fun k s' => ∃ i ys led' o vl, k = n + 1 - i ∧ i ≤ n ∧ ys.length ≤ i ∧ J i ys led' ∧ V o vl ∧ St base os₀ (vl ++ ((D, lstA ys) :: (I, itP i) :: (side ++ led'))) s') ?_ (n + 1) ⟨0, [], led, none, vl₀, rfl, Nat.zero_le _, Nat.le_refl _, h0, hv0, H⟩ ht
  rintro k s' ⟨i, ys, led', o, vl, rfl, hi, hlen, hJ, hvl, H'⟩
  have p1 : ∀ (j : Nat) (vl : Led), ((I, itP j) :: (side ++ (vl ++ ((D, lstA ys) :: led')))).Perm (vl ++ ((D, lstA ys) :: (I, itP j) :: (side ++ led'))) := fun j vl => by
    exact (List.Perm.cons _ (List.perm_append_comm_assoc side vl _)).trans ((List.perm_middle (l₁ := vl)).symm.trans (List.Perm.append_left vl ((List.Perm.cons _ (List.perm_middle (l₁ := side))).trans (List.Perm.swap ..))))
  by_cases hlt : i < n
  · refine W.item i _ s' _ _ hlt (H'.perm (p1 i vl)) fun v s₁ hv H₁ => ?_
    have H₂ : St base os₀ (vl ++ ((D, lstA ys) :: (I, itP (i + 1)) :: (side ++ led'))) s₁ := H₁.perm (p1 (i + 1) vl).symm
    refine hV.store o vl v _ _ _ _ hvl H₂ fun vl' s₂ hvl' H₃ => ?_
    refine wpAny_mono (turn i v ys vl' led' s₂ _ hlt hv hJ hvl' H₃) (fun ok s₃ h₃ => ?_) fun _ _ x => x
    cases ok with
    | true =>
      simp only [if_true] at h₃ ⊢
      refine wpAny_mono h₃ (fun y s₄ h₄ => ?_) fun _ _ x => x
      obtain ⟨led'', hJ', H₄⟩ := h₄
      have hup : ∀ vl : Led, Up D (lstA ys) (lstA (ys ++ [y])) (vl ++ ((D, lstA ys) :: (I, itP (i + 1)) :: (side ++ led''))) (vl ++ ((D, lstA (ys ++ [y])) :: (I, itP (i + 1)) :: (side ++ led''))) := fun vl => by
        induction vl with
        | nil => exact .head
        | cons q r ih => exact .tail ih
      refine l_append H₄ (hup vl') (fun s₅ H₅ => ⟨n + 1 - (i + 1), by omega, i + 1, ys ++ [y], led'', some v, vl', rfl, hlt, by simp; omega, hJ', hvl', H₅⟩) (by omega)
    | false =>
      simp only [Bool.false_eq_true, if_false] at h₃ ⊢
      obtain ⟨led'', hJ', H₄⟩ := h₃
      exact ⟨n + 1 - (i + 1), by omega, i + 1, ys, led'', some v, vl', rfl, hlt, by omega, hJ', hvl', H₄⟩
  · have hin : i = n := by omega
    subst hin
    refine W.done _ s' _ _ (H'.perm (p1 i vl)) fun s₁ H₁ => ?_
    refine fin o vl ys led' s₁ hvl hJ hlen (H₁.perm ?_)
    exact (List.Perm.append_left vl (List.perm_middle (l₁ := side)).symm).trans (List.perm_append_comm_assoc vl side _)

/-- the environment of a comprehension -/
def EnvMade (prog : Program) (w : World) (A : Around) (base : Heap) (os₀ : OsState) (scope : Scope) (env : Env) (cl : List (Str × Addr)) (mk : Addr → Env) (V : Addr → Option Value → Led → Prop) : Prop :=
  ∀ led s (Q : Env → Shared → Prop) (E : Value → Shared → Prop), St base os₀ led s → (∀ C vl cenv s', cenv.locals = C → ({ cenv with scope := relabel scope env } : Env) = mk C → V C none vl → St base os₀ (vl ++ led) s' → Q cenv s') →
    wpAny (model prog w) A (newFunctionEnv scope env.globals cl [] env.qual none .none (some env)) Q E s
theorem env_loc {scope : Scope} {cl : List (Str × Addr)} {x : Str} (hcell : ∀ y ∈ scope.names, y.2 ≠ .cell) (hkind : scope.kind = .function) : EnvMade prog w A base os₀ scope env cl (fun C => compEnvC scope cl C env) (fun C => varL C x) := fun led s Q E H h => by
  refine wpAny_newFunctionEnv hcell (by intro y hy; simp at hy) (fun h₁ hns₁ hsb₁ => ?_) hkind
  obtain ⟨o', ho', hp'⟩ := nsA_of hns₁
  refine h s.heap.objs.size [(s.heap.objs.size, nsA fun x => ([] : List (Str × Value)).reverse.lookup x)] _ _ rfl rfl ⟨_, rfl, fun v q => by cases q⟩ ?_
  exact H.more (tk := s.toks + ([] : List (Str × Value)).length) (fun b o e => hsb₁.extBut b o (Nat.ne_of_lt (Heap.lt_size e)) (Heap.get?_push_of_some _ e)) (Nat.le_refl _) ho' hp'
def CompBody (prog : Program) (w : World) (A : Around) (base : Heap) (os₀ : OsState) (elt target : Expr) (ifs : List Expr) (mk : Addr → Env) (V : Addr → Option Value → Led → Prop) (fin : Addr → List Value → Led → Prop) (it : Value) (s₂ : Shared) : Prop :=
  ∃ I n P itP side led, ∃ J : Nat → List Value → Led → Prop, it = .ref I ∧ Iter prog w A base os₀ I n P itP side ∧ n ≤ sizeLine ∧ St base os₀ ((I, itP 0) :: (side ++ led)) s₂ ∧ J 0 [] led ∧
      (∀ C D i v ys vl led s E', i < n → P i v → J i ys led → V C (some v) vl → St base os₀ (vl ++ ((D, lstA ys) :: (I, itP (i + 1)) :: (side ++ led))) s →
        wpAny (model prog w) A (forIn ifs true fun c r => if r = true then do let ok ← isTrue c (mk C) (eval c (mk C)); pure (ForInStep.yield ok) else pure (ForInStep.yield r)) (fun ok s₂ =>
          if ok = true then wpAny (model prog w) A (eval elt (mk C)) (fun y s₃ => ∃ led', J (i + 1) (ys ++ [y]) led' ∧ St base os₀ (vl ++ ((D, lstA ys) :: (I, itP (i + 1)) :: (side ++ led'))) s₃) E' s₂
          else ∃ led', J (i + 1) ys led' ∧ St base os₀ (vl ++ ((D, lstA ys) :: (I, itP (i + 1)) :: (side ++ led'))) s₂) E' s) ∧
      (∀ D ys led, J n ys led → ys.length ≤ n → fin D ys (side ++ led))

/-- a list comprehension as an expression -/
theorem comp_expr {elt iter target : Expr} {ifs : List Expr} {scope : Scope} {cl : List (Str × Addr)} {pos : Pos} {Q : Value → Shared → Prop} {mk : Addr → Env} {V : Addr → Option Value → Led → Prop} (hclos : closureFor scope env = pure cl)
    (hM : EnvMade prog w A base os₀ scope env cl mk V) (hV : ∀ C, Var prog w A base os₀ (mk C) target C (V C))
    (h : wpAny (model prog w) A (eval iter env) (fun xv s₁ => wpAny (model prog w) A (pyIter xv) (fun it s₂ => CompBody prog w A base os₀ elt target ifs mk V (fun D ys led => ∀ s, St base os₀ ((D, lstA ys) :: led) s → Q (.ref D) s) it s₂) E s₁) E s)
    (hkind : scope.kind = .function) (hnames : ∀ y ∈ scope.names, y.2 = .local → scope.names.lookup y.1 = some .local)
    (hs : ∀ x, foldedSetIterable iter env x = pure x := by intro _; rfl) (ht : ∀ I v, letOwnedTupleGo target (.ref I) v = pure () := by intro _ _; rfl) :
    wpAny (model prog w) A (eval (.ListComp elt [⟨target, iter, ifs, 0⟩] scope pos) env) Q E s := by
  rw [eval_ListComp]
  refine wpAny_comprehension_free (use := none) rfl hs hclos hkind hnames (wpAny_mono h (fun xv s₁ h₁ => wpAny_mono h₁ (fun it s₂ h₂ => ?_) fun _ _ e => e) fun _ _ e => e)
  obtain ⟨I, n, P, itP, side, led, J, rfl, W, hsz, H, h0, turn, fin⟩ := h₂
  refine new_list H fun D s₃ H₃ => ?_
  refine hM _ _ _ _ H₃ fun C vl cenv s₄ hC hmk hv H₄ => ?_
  rw [hmk, hC]
  have loop : codeAny (model prog w) A (.compLoop (.ListComp elt [⟨target, iter, ifs, 0⟩] scope pos) 0 (.ref I) (.ref D) (mk C)) (compPost (model prog w) A E none Q (.ref D) C) s₄ :=
    comp_loopG W hsz (hV C) J (fun i v ys vl led s E' hi hp hJ hvl H' => turn C D i v ys vl led s E' hi hp hJ hvl H')
      (fun o vl ys led s hvl hJ hl H' => by
        obtain ⟨m, vr, e⟩ := (hV C).ns o vl hvl
        subst e
        exact ⟨m, H'.ns (.head _), fun h' hs' => fin D ys led hJ hl _ ((H'.gone (tk := s.toks) fun b o hb e => hs'.extBut b o hb e).sub (List.sublist_append_right _ _))⟩) hv H₄ h0 (ht I)
  exact codeAny_compStart_list loop (W.self _ _ _ _ (H₄.perm (led' := (I, itP 0) :: (side ++ (vl ++ ((D, lstA []) :: led)))) (by
    exact (List.Perm.cons _ (List.perm_append_comm_assoc side vl _)).trans ((List.perm_middle (l₁ := vl)).symm.trans (List.Perm.append_left vl ((List.Perm.cons _ (List.perm_middle (l₁ := side))).trans (List.Perm.swap ..)))))) loop)

/-- y = [.. for ..] -/
theorem comp_asg {elt iter target : Expr} {ifs : List Expr} {y : Str} {py : Pos} {scope : Scope} {cl : List (Str × Addr)} {pos spos : Pos} {Q : Flow → Shared → Prop} {mk : Addr → Env} {V : Addr → Option Value → Led → Prop} (hclos : closureFor scope env = pure cl)
    (hM : EnvMade prog w A base os₀ scope env cl mk V) (hV : ∀ C, Var prog w A base os₀ (mk C) target C (V C))
    (hsw : swapsWith (.ListComp elt [⟨target, iter, ifs, 0⟩] scope pos) (some (.Name y py)) spos.line env = pure true)
    (h : wpAny (model prog w) A (eval iter env) (fun xv s₁ => wpAny (model prog w) A (pyIter xv) (fun it s₂ => CompBody prog w A base os₀ elt target ifs mk V (fun D ys led => ∀ vl s, (∃ C m vr, vl = (C, nsA m) :: vr) → St base os₀ (vl ++ ((D, lstA ys) :: led)) s →
      wpAny (model prog w) A (storeName env y (.ref D)) (fun _ s' => ∃ led', St base os₀ (vl ++ led') s' ∧ ∀ s'', St base os₀ led' s'' → Q .next s'') E s) it s₂) E s₁) E s)
    (hkind : scope.kind = .function) (hnames : ∀ y ∈ scope.names, y.2 = .local → scope.names.lookup y.1 = some .local)
    (hs : ∀ x, foldedSetIterable iter env x = pure x := by intro _; rfl) (ht : ∀ I v, letOwnedTupleGo target (.ref I) v = pure () := by intro _ _; rfl) :
    wpAny (model prog w) A (exec (.Assign [.Name y py] (.ListComp elt [⟨target, iter, ifs, 0⟩] scope pos) spos) env) Q E s := by
  rw [exec_Assign_Name_used _ _ _ _ hsw]
  refine wpAny_bind (wpAny_standAt (wpAny_bind ?_))
  show wpAny _ A (do let _ ← comprehension (.ListComp elt [⟨target, iter, ifs, 0⟩] scope pos) scope env _ (newList []) false (eval iter env) (some (assign (.Name y py) env))) _ _ s
  refine wpAny_bind (wpAny_mono (wpAny_comprehension_free (use := some (assign (.Name y py) env)) (Q := fun _ s' => Q .next s') rfl hs hclos hkind hnames (wpAny_mono h (fun xv s₁ h₁ => wpAny_mono h₁ (fun it s₂ h₂ => ?_) fun _ _ e => e) fun _ _ e => e))
    (fun _ s' hq => wpAny_pure (wpAny_pure hq)) fun _ _ e => e)
  obtain ⟨I, n, P, itP, side, led, J, rfl, W, hsz, H, h0, turn, fin⟩ := h₂
  refine new_list H fun D s₃ H₃ => ?_
  refine hM _ _ _ _ H₃ fun C vl cenv s₄ hC hmk hv H₄ => ?_
  rw [hmk, hC]
  have loop : codeAny (model prog w) A (.compLoop (.ListComp elt [⟨target, iter, ifs, 0⟩] scope pos) 0 (.ref I) (.ref D) (mk C)) (compPost (model prog w) A E (some (assign (.Name y py) env)) (fun _ s' => Q .next s') (.ref D) C) s₄ :=
    comp_loopG W hsz (hV C) J (fun i v ys vl led s E' hi hp hJ hvl H' => turn C D i v ys vl led s E' hi hp hJ hvl H')
      (fun o vl ys led s hvl hJ hl H' => by
        obtain ⟨m, vr, e⟩ := (hV C).ns o vl hvl
        subst e
        refine wpAny_assign_Name (wpAny_mono (fin D ys led hJ hl _ s ⟨C, m, vr, rfl⟩ H') (fun _ s₂ h₂ => ?_) fun _ _ x => x)
        obtain ⟨led', H₅, hQ⟩ := h₂
        exact ⟨m, H₅.ns (.head _), fun h' hs' => hQ _ ((H₅.gone (tk := s₂.toks) fun b o hb e => hs'.extBut b o hb e).sub (List.sublist_append_right _ _))⟩) hv H₄ h0 (ht I)
  exact codeAny_compStart_list loop (W.self _ _ _ _ (H₄.perm (led' := (I, itP 0) :: (side ++ (vl ++ ((D, lstA []) :: led)))) (by
    exact (List.Perm.cons _ (List.perm_append_comm_assoc side vl _)).trans ((List.perm_middle (l₁ := vl)).symm.trans (List.Perm.append_left vl ((List.Perm.cons _ (List.perm_middle (l₁ := side))).trans (List.Perm.swap ..)))))) loop)
end
end Mine

namespace Mine
open PySem PySem.W PyProof.Rows PySem.Calls PySem.Spec
section
variable {prog : Program} {w : World} {A : Around} {E : Value → Shared → Prop} {s : Shared} {base : Heap} {os₀ : OsState} {led : Led} {env : Env} {K : Type} [DecidableEq K] {knd : KeyKind prog w K}
end
end Mine

namespace Mine
open PySem PySem.W PyProof.Rows PySem.Calls PySem.Spec
def nth (n : Nat) (l : List Stmt) : Stmt := match n, l with
  | 0, s :: _ => s
  | n + 1, _ :: r => nth n r
  | _, [] => .Pass default
def fnBody : Stmt → List Stmt | .FunctionDef _ _ b _ _ _ _ _ _ _ => b | _ => []
def fnPar : Stmt → Arguments | .FunctionDef _ a _ _ _ _ _ _ _ _ => a | _ => default
def fnScope : Stmt → Scope | .FunctionDef _ _ _ _ _ _ s _ _ _ => s | _ => default
/-- what is known of a def of the top -/
structure IsDef (base : Heap) (f : Addr) (st : Stmt) (fd : FuncData) : Prop where
  obj : ∃ o, base.get? f = some o ∧ o.data = .func fd
  body : fd.body = .stmts (fnBody st)
  par : fd.params = fnPar st
  scope : fd.scope = fnScope st
  clo : fd.closure = []
  glob : fd.globals = mainGlobals
  bi : fd.builtins = builtinsNs
  dflt : fd.defaults = .none
  code : base.CodeRec fd.code fd.qualname

section
variable {prog : Program} {w : World} {A : Around} {E : Value → Shared → Prop} {s : Shared} {base : Heap} {os₀ : OsState} {led : Led} {env : Env}
/-- a store of a local name; what else the names are stays -/
theorem st_g {x : Str} {v : Value} {m : Str → Option Value} {led' : (Str → Option Value) → Led} {Q : Unit → Shared → Prop} (H : St base os₀ led s) (U : ∀ m', Up env.locals (nsA m) (nsA m') led (led' m'))
    (h : ∀ m' s', m' x = some v → (∀ y, y ≠ x → m' y = m y) → St base os₀ (led' m') s' → Q () s') (hk : env.scope.kind = .function := by rfl) (hx : env.kindOf x = some .local := by rfl) :
    wpAny (model prog w) A (storeName env x v) Q E s :=
  st_l H (U _) (fun s' H' => h _ s' (if_pos rfl) (fun y hy => if_neg hy) H') hk hx
theorem ld_l {x : Str} {v : Value} {m : Str → Option Value} {Q : Value → Shared → Prop} (H : St base os₀ led s) (hm : (env.locals, nsA m) ∈ led) (hv : m x = some v) (h : Q v s)
    (hk : env.scope.kind = .function := by rfl) (hx : env.kindOf x = some .local := by rfl) : wpAny (model prog w) A (loadName env x) Q E s := wpAny_loadName_local hk hx (H.ns hm) hv h
end
theorem up_head {a : Addr} {P : Asn} {P' : Asn} {l : Led} : Up a P P' ((a, P) :: l) ((a, P') :: l) := .head
theorem room_deeper {prog : Program} {w : World} {base : Heap} {A : Around} {env : Env} {fs : List Env} (S : base.NoSeer) (lim : base.NoLimit) (ht : prog.given.tree = none) (hfr : A.frames = some fs) (hh : A.handled = none) (hd : A.depth + 201 < recursionLimit) (hu : A.units + 67 < cLine)
    (h1 : env.scope.isGenerator = false) (h2 : env.scope.isCoroutine = false) (h3 : env.builtins = builtinsNs) (h4 : env.globals = mainGlobals) : Room prog w (A.deeper env) base where
  depth := by show A.depth + 1 + 200 < _; omega
  units := by show A.units + 3 + 64 < _; omega
  handled := hh
  pylong := fun s hk => PylongRoom.of (lim.keeps hk) (by show A.depth + 1 + Builtin.pylongFrames < _; unfold Builtin.pylongFrames; omega) (PySem.SeerAt.of (S.keeps hk) ht (Around.frames_deeper hfr) h1 h2 h3 h4)
theorem ints_get {pv : List Value} {ns : List Int} (h : IntsAre pv ns) : ∀ {p : Nat} {n : Int}, ns[p]? = some n → ∃ t, pv[p]? = some (.int n t) := by
  induction h with
  | nil => intro p n e; simp at e
  | cons k t _ ih =>
    intro p n e
    cases p with
    | zero => simp at e; subst e; exact ⟨t, rfl⟩
    | succ p => simpa using ih (by simpa using e)
theorem ints_snoc {vs : List Value} {ns : List Int} (h : IntsAre vs ns) (n : Int) (t : Tok) : IntsAre (vs ++ [.int n t]) (ns ++ [n]) := by
  induction h with
  | nil => exact .cons n t .nil
  | cons k t' _ ih => exact .cons k t' ih
theorem ints_take {vs : List Value} {ns : List Int} (h : IntsAre vs ns) : ∀ k, IntsAre (vs.take k) (ns.take k) := by
  induction h with
  | nil => intro k; simp; exact .nil
  | cons n t _ ih =>
    intro k
    cases k with
    | zero => exact .nil
    | succ k => exact .cons n t (ih k)
section
variable {prog : Program} {w : World} {A : Around} {E : Value → Shared → Prop} {s : Shared} {base : Heap} {os₀ : OsState} {led : Led} {m : Str → Option Value} {a : Addr} {vs : List Value}
/-- a slice up to a number -/
theorem l_upto {env : Env} {x : Str} {k : Nat} {i : Int} {b : Nat} {p1 p2 p3 p4 : Pos} {Q : Value → Shared → Prop} (H : St base os₀ led s) (hm : (env.locals, nsA m) ∈ led) (hv : m x = some (.ref a)) (hl : base.IsList a vs.toArray) (hsz : vs.length ≤ sizeLine)
    (h : ∀ r s', St base os₀ ((r, lstA (vs.take b)) :: led) s' → Q (.ref r) s') (hib : i = (b : Nat) := by rfl)
    (hk : env.scope.kind = .function := by rfl) (hx : env.kindOf x = some .local := by rfl) (hd : (x == ("__debug__" : Str)) = false := by decide) :
    wpAny (model prog w) A (eval (.Subscript (.Name x p1) (.Slice none (some (.Constant (.int i) k p2)) none p3) p4) env) Q E s := by
  subst hib
  refine wpAny_Subscript_list_slice (nm_l H hm hv (evalPart_none_step (evalPart_some_step (c_int H fun t s₁ H₁ => ⟨a, vs.toArray, none, some (b : Nat), rfl, ?_, by simpa using hsz, .none, .int (b : Nat) t, ?_⟩))) hk hx hd)
  · obtain ⟨o, ho, r⟩ := hl; exact ⟨o, H₁.keep _ _ ho, r⟩
  · exact h _ _ (H₁.push2 (tk := s₁.toks) rfl rfl ⟨0, by rw [slicePick_upto']⟩)
theorem i_sub {a b : Int} {t u : Tok} {Q : Value → Shared → Prop} (H : St base os₀ led s) (h : ∀ t' s', St base os₀ led s' → Q (.int (a - b) t') s') : wpAny (model prog w) A (binaryOp .Sub (.int a t) (.int b u)) Q E s :=
  PyProof.Rows.sub_int (h _ _ H.tok)
theorem i_neg {a : Int} {t : Tok} {Q : Value → Shared → Prop} (H : St base os₀ led s) (h : ∀ t' s', St base os₀ led s' → Q (.int (-a) t') s') : wpAny (model prog w) A (unaryOp .USub (.int a t)) Q E s :=
  PySem.P.neg_int (h _ _ H.tok)
theorem i_pow {a b : Int} {t u : Tok} {Q : Value → Shared → Prop} (H : St base os₀ led s) (ha : 1 < a) (ha' : a < 16) (h0 : 0 ≤ b) (hb : b ≤ 200) (h : ∀ t' s', St base os₀ led s' → Q (.int (a ^ b.toNat) t') s') : wpAny (model prog w) A (binaryOp .Pow (.int a t) (.int b u)) Q E s := by
  by_cases hz : b = 0
  · subst hz
    refine PySem.AutoIntOps.pow_0 (by decide) (by decide) ?_
    have := h s.toks _ (H.tok (tk := s.toks + 1))
    simp only [Int.toNat_zero, Int.pow_zero] at this
    exact this
  · refine PySem.AutoIntOps.pow_4 h0 (by simpa using hz) (by simp; omega) (by simp; omega) ?_ (h _ _ H.tok)
    have hbits : Builtin.Int.intBits a ≤ 64 := by
      unfold Builtin.Int.intBits
      split
      · omega
      · have : a.natAbs.log2 < 4 := by rw [Nat.log2_lt (by omega)]; omega
        omega
    have h2 : ((Builtin.Int.intBits a : Nat) : Int) * b ≤ 64 * 200 := Int.mul_le_mul (by omega) hb h0 (by decide)
    have h3 : (12800 : Int) ≤ bitsLine := by decide
    simp only [Builtin.Int.intTooBig, decide_eq_true_eq]
    omega
theorem c_neg {n : Int} {k : Nat} {p1 p2 : Pos} {env : Env} {Q : Value → Shared → Prop} (H : St base os₀ led s) (h : ∀ t' s', St base os₀ led s' → Q (.int (-n) t') s') : wpAny (model prog w) A (eval (.UnaryOp .USub (.Constant (.int n) k p1) p2) env) Q E s :=
  wpAny_UnaryOp (c_int H fun t s₁ H₁ => i_neg H₁ h)
theorem len_l {l : Addr} {vs : List Value} {Q : Value → Shared → Prop} (H : St base os₀ led s) (hm : (l, lstA vs) ∈ led) (hz : vs.length ≤ 1000) (h : ∀ t' s', St base os₀ led s' → Q (.int (vs.length : Nat) t') s') : wpAny (model prog w) A (call (.builtin "len") [.ref l]) Q E s :=
  PyProof.Rows.len_list (H.isList hm) (by rw [List.size_toArray]; omega) (by rw [List.size_toArray]; exact h _ _ H.tok)
theorem len_s {x : Str} {t : Tok} {Q : Value → Shared → Prop} (H : St base os₀ led s) (hz : x.length ≤ 1000) (h : ∀ t' s', St base os₀ led s' → Q (.int (x.length : Nat) t') s') : wpAny (model prog w) A (call (.builtin "len") [.str x t]) Q E s :=
  PyProof.Rows.len_str (by omega) (h _ _ H.tok)
theorem max2 {a b : Int} {t u : Tok} {Q : Value → Shared → Prop} (hh : A.handled = none) (H : St base os₀ led s) (h : ∀ t' s', St base os₀ led s' → Q (.int (if b > a then b else a) t') s') : wpAny (model prog w) A (call (.builtin "max") [.int a t, .int b u]) Q E s := by
  refine max_two_ints hh fun h' tk hk => ?_
  by_cases hab : b > a
  · have := h u _ (H.ext (tk := tk) hk)
    rw [if_pos hab] at this ⊢; exact this
  · have := h t _ (H.ext (tk := tk) hk)
    rw [if_neg hab] at this ⊢; exact this
end
end Mine

namespace Mine
open PySem PySem.W PyProof.Rows PySem.Calls PySem.Spec
/-! how long a number's text is -/
def dlen (n : Int) : Nat := (Str.ofString (toString n)).length
theorem dlen_ofNat (m : Nat) : dlen (m : Int) = m.repr.length := by
  unfold dlen; rw [PySem.ofString_length]; rfl
theorem dlen_negSucc (m : Nat) : dlen (Int.negSucc m) = (m + 1).repr.length + 1 := by
  unfold dlen; rw [PySem.ofString_length]
  show ("-" ++ (m + 1).repr).length = _
  rw [String.length_append]
  have : "-".length = 1 := by decide
  omega
theorem dlen_le_pos {n : Int} (hn : 0 ≤ n) {k : Nat} (hk : 0 < k) : dlen n ≤ k ↔ n < 10 ^ k := by
  obtain ⟨m, rfl⟩ := Int.eq_ofNat_of_zero_le hn
  rw [dlen_ofNat, Nat.length_repr_le_iff hk]
  constructor
  · intro h; exact_mod_cast h
  · intro h; exact_mod_cast h
theorem dlen_le_neg {n : Int} (hn : n < 0) {k : Nat} (hk : 0 < k) : dlen n ≤ k + 1 ↔ -(10 ^ k : Int) < n := by
  obtain ⟨m, rfl⟩ := Int.eq_negSucc_of_lt_zero hn
  rw [dlen_negSucc, Nat.add_le_add_iff_right, Nat.length_repr_le_iff hk]
  rw [Int.negSucc_eq]
  constructor
  · intro h
    have : ((m + 1 : Nat) : Int) < 10 ^ k := by exact_mod_cast h
    omega
  · intro h
    have : ((m + 1 : Nat) : Int) < 10 ^ k := by omega
    exact_mod_cast this
theorem dlen_fits {n : Int} (h : n.natAbs < 10 ^ 100) : dlen n ≤ 101 := by
  by_cases hn : 0 ≤ n
  · have : dlen n ≤ 100 := (dlen_le_pos hn (by decide)).mpr (by
      have : ((n.natAbs : Nat) : Int) < ((10 ^ 100 : Nat) : Int) := by exact_mod_cast h
      have e : ((n.natAbs : Nat) : Int) = n := Int.natAbs_of_nonneg hn
      rw [e] at this; exact_mod_cast this)
    omega
  · refine (dlen_le_neg (by omega) (k := 100) (by decide)).mpr ?_
    have h1 : ((n.natAbs : Nat) : Int) < ((10 ^ 100 : Nat) : Int) := by exact_mod_cast h
    have e : ((n.natAbs : Nat) : Int) = -n := by omega
    rw [e] at h1
    have : -n < 10 ^ 100 := by exact_mod_cast h1
    omega
theorem log2_fits {n : Int} (h : n.natAbs < 10 ^ 100) : n.natAbs.log2 < 1920 := by
  by_cases hz : n.natAbs = 0
  · rw [hz]; decide
  · rw [Nat.log2_lt hz]
    exact Nat.lt_trans h (by decide +kernel)
/-- the length of a line's text -/
def Ln.len : Ln → Nat
  | .str x => x.length
  | .bool b => if b then 4 else 5
  | .int n => dlen n
  | .none => 4
def Ln.m1 : Ln → Bool
  | .int n => n == -1
  | _ => false
/-- the width that is told of the greatest line -/
def wOf (ls : List Ln) (l : Ln) : Int := if l.m1 then 0 else
  let w : Int := if (l.len : Int) > 3 then l.len else 3
  if w < 4 ∧ ls.any Ln.isNone = true then 4 else w
section
variable {prog : Program} {w : World} {A : Around} {E : Value → Shared → Prop} {s : Shared} {base : Heap} {os₀ : OsState} {led : Led} {l : Ln} {v : Value} {u : Tok}
theorem eq_m1 {Q : Value → Shared → Prop} (hv : LnV l v) (hl : l ≠ .none) (h : Q (.bool l.m1) s) : wpAny (model prog w) A (compareOp .Eq v (.int (-1) u)) Q E s := by
  cases l with
  | none => exact absurd rfl hl
  | bool b => cases hv; refine EqBoolInt.of_rc (SeqAt.RcAt.bool_int b (-1) u) ?_; cases b <;> exact h
  | str x => obtain ⟨t, rfl⟩ := hv; exact EqBoolInt.of_rc (SeqAt.RcAt.str_int x t (-1) u) h
  | int n => obtain ⟨t, rfl⟩ := hv; exact EqBoolInt.of_rc (SeqAt.RcAt.int_int n t (-1) u) h
theorem str_ln {Q : Value → Shared → Prop} (hv : LnV l v) (hl : l ≠ .none) (hf : l.fits) (H : St base os₀ led s) (h : ∀ x t s', x.length = l.len → x.length ≤ 1000 → St base os₀ led s' → Q (.str x t) s') : wpAny (model prog w) A (call (.type "str") [v]) Q E s := by
  cases l with
  | none => exact absurd rfl hl
  | bool b => cases hv; exact PySem.P.str_of_bool (h _ _ _ (by cases b <;> decide) (by cases b <;> decide) H.tok)
  | str x => obtain ⟨t, rfl⟩ := hv; exact PySem.P.str_of_str (h x t _ rfl hf H)
  | int n =>
    obtain ⟨t, rfl⟩ := hv
    have hf : n.natAbs < 10 ^ 100 := hf
    exact s_int H (log2_fits hf) fun t' s' H' => h _ _ _ rfl (by have := dlen_fits hf; show dlen n ≤ 1000; omega) H'
end
end Mine

namespace Mine
open PySem PySem.W PyProof.Rows PySem.Calls PySem.Spec
theorem gives_gt_bi (p : Bool) (b : Int) (u : Tok) : Gives (Builtin.«int.__gt__» ⟨[.bool p, .int b u], []⟩) (.val (.bool (decide ((if p then (1 : Int) else 0) > b)))) := .of_eq rfl
theorem gives_lt_bi (p : Bool) (b : Int) (u : Tok) : Gives (Builtin.«int.__lt__» ⟨[.bool p, .int b u], []⟩) (.val (.bool (decide ((if p then (1 : Int) else 0) < b)))) := .of_eq rfl
section
variable {prog : Program} {w : World} {A : Around} {E : Value → Shared → Prop} {s : Shared} {base : Heap} {os₀ : OsState} {led : Led} {l m : Ln} {v u : Value}
/-- > of two things whose classes both decline: the twin of the library's rule for < (wpAny_richCompare_lt_declined_or), which has no sister for > -/
theorem gt_refused {M : Model} {a b : Value} {Ta Tb ida idb : String} {Q : Value → Shared → Prop} (hh : A.handled = none) (ha : ∀ s' : Shared, s'.TypeIs a Ta) (hb : ∀ s' : Shared, s'.TypeIs b Tb)
    (hne : (Value.type Ta != Value.type Tb) = true) (hsub : isSubtype (.type Tb) (.type Ta) = pure false) (h1 : Slot Ta (cmpInfo .Gt).2.1 ida) (h2 : Slot Tb (cmpInfo .Gt).2.2 idb)
    (hna : (Value.type Ta == Value.type "builtin_function_or_method") = false) (hnb : (Value.type Tb == Value.type "builtin_function_or_method") = false)
    (hc : wpAny M A (call (.builtin ida) [a, b]) (fun v s₁ => v = .notImplemented ∧ wpAny M A (call (.builtin idb) [b, a]) (fun v s₂ => v = .notImplemented ∧
      ∀ h' tk e, Heap.NewExc s₂.heap h' e "TypeError" → E (.ref e) { s₂ with heap := h', toks := tk }) E s₁) E s)
    (hr : [a, b].any Value.onHeap = false := by rfl) (hTa : (shownName Ta).length ≤ 1000 := by decide) (hTb : (shownName Tb).length ≤ 1000 := by decide) :
    wpAny M A (richCompare .Gt a b) Q E s := by
  simp only [richCompare, cmpInfo, (ha s).oneThing_none] at h1 h2 ⊢
  refine wpAny_holding ?_
  refine wpAny_bind (wpAny_cRoomFor_or (.inl hr) ?_)
  refine wpAny_bind (wpAny_typeOf (ha s) (wpAny_bind (wpAny_typeOf (hb s) ?_)))
  simp only [hne, if_true]
  refine wpAny_bind (wpAny_of_eq hsub ?_)
  simp only [Bool.false_eq_true, if_false, Bool.not_false, if_true]
  refine wpAny_bind (m := tryCompare a _ b) (wpAny_tryCompare_declines (ha s) h1 (wpAny_mono hc (fun v s₁ h₁ => ⟨h₁.1, ?_⟩) fun _ _ x => x))
  refine wpAny_bind (m := tryCompare b _ a) (wpAny_tryCompare_declines (hb s₁) h2 (wpAny_mono h₁.2 (fun v s₂ h₂ => ⟨h₂.1, ?_⟩) fun _ _ x => x))
  refine wpAny_bind (wpAny_rule (wpAny_bind (wpAny_typeNameOf' (ha s₂) hna (wpAny_bind (wpAny_typeNameOf' (hb s₂) hnb (wpAny_raiseTypeError hh h₂.2 ?_))))))
  show (Str.ofString _).length ≤ sizeLine
  rw [PySem.ofString_length, sizeLine_eq]
  simp only [String.length_append, toString]
  have e1 : "'".length ≤ 100 := by decide
  have e2 : ">".length ≤ 100 := by decide
  have e3 : "' not supported between instances of '".length ≤ 100 := by decide
  have e4 : "' and '".length ≤ 100 := by decide
  omega
theorem gt_ln {Q : Value → Shared → Prop} (hh : A.handled = none) (yl : l.yes = true) (ym : m.yes = true) (hv : LnV l v) (hu : LnV m u) (H : St base os₀ led s)
    (h1 : ∀ b s', l.gt m = some b → St base os₀ led s' → Q (.bool b) s') (h2 : ∀ e s', l.gt m = none → St base os₀ ((e, ex0 "TypeError") :: led) s' → E (.ref e) s') : wpAny (model prog w) A (richCompare .Gt v u) Q E s := by
  cases l with
  | none => cases yl
  | str x =>
    obtain ⟨t, rfl⟩ := hv
    cases m with
    | none => cases ym
    | str y =>
      obtain ⟨t', rfl⟩ := hu
      have : wpAny (model prog w) A (compareOp .Gt (.str x t) (.str y t')) Q E s := PySem.P.gt_str (h1 _ s rfl H)
      exact this
    | int b =>
      obtain ⟨t', rfl⟩ := hu
      refine gt_refused hh (fun s' => typeIs_str s' x t) (fun s' => typeIs_int s' b t') (by decide) PySem.F.sub_int_str PySem.F.slot_str_gt PySem.F.slot_int_lt_refl (by decide) (by decide) ?_
      refine wpAny_call_entry PySem.F.slot_str_gt (typeIs_str s x t) PySem.F.entry_str_gt (show wpAny _ _ (do rule "str.__gt__.not-a-str"; ret .notImplemented) _ _ s from wpAny_bind (wpAny_rule (wpAny_pure ⟨_, rfl, rfl, ?_⟩))) (PySem.F.args_str_gt_2 _ _)
      exact wpAny_call_entry PySem.F.slot_int_lt_refl (typeIs_int s b t') PySem.F.entry_int_lt (show wpAny _ _ (do rule "int.binary.not-an-int"; ret .notImplemented) _ _ s from wpAny_bind (wpAny_rule (wpAny_pure ⟨_, rfl, rfl, fun h' tk e x => h2 e _ rfl (of_newExc H x)⟩))) (PySem.F.args_int_lt_2 _ _)
    | bool b =>
      cases hu
      refine gt_refused hh (fun s' => typeIs_str s' x t) (fun s' => (rfl : s'.TypeIs (.bool b) "bool")) (by decide) PySem.F.sub_bool_str PySem.F.slot_str_gt PySem.F.slot_bool_lt_refl (by decide) (by decide) ?_
      refine wpAny_call_entry PySem.F.slot_str_gt (typeIs_str s x t) PySem.F.entry_str_gt (show wpAny _ _ (do rule "str.__gt__.not-a-str"; ret .notImplemented) _ _ s from wpAny_bind (wpAny_rule (wpAny_pure ⟨_, rfl, rfl, ?_⟩))) (PySem.F.args_str_gt_2 _ _)
      exact wpAny_call_entry PySem.F.slot_bool_lt_refl (rfl : s.TypeIs (.bool b) "bool") PySem.F.entry_int_lt (show wpAny _ _ (do rule "int.binary.not-an-int"; ret .notImplemented) _ _ s from wpAny_bind (wpAny_rule (wpAny_pure ⟨_, rfl, rfl, fun h' tk e x => h2 e _ rfl (of_newExc H x)⟩))) (PySem.F.args_int_lt_2 _ _)
  | int a =>
    obtain ⟨t, rfl⟩ := hv
    cases m with
    | none => cases ym
    | str y =>
      obtain ⟨t', rfl⟩ := hu
      refine gt_refused hh (fun s' => typeIs_int s' a t) (fun s' => typeIs_str s' y t') (by decide) PySem.F.sub_str_int PySem.F.slot_int_gt PySem.F.slot_str_lt_refl (by decide) (by decide) ?_
      refine wpAny_call_entry PySem.F.slot_int_gt (typeIs_int s a t) PySem.F.entry_int_gt (show wpAny _ _ (do rule "int.binary.not-an-int"; ret .notImplemented) _ _ s from wpAny_bind (wpAny_rule (wpAny_pure ⟨_, rfl, rfl, ?_⟩))) (PySem.F.args_int_gt_2 _ _)
      exact wpAny_call_entry PySem.F.slot_str_lt_refl (typeIs_str s y t') PySem.F.entry_str_lt (show wpAny _ _ (do rule "str.__lt__.not-a-str"; ret .notImplemented) _ _ s from wpAny_bind (wpAny_rule (wpAny_pure ⟨_, rfl, rfl, fun h' tk e x => h2 e _ rfl (of_newExc H x)⟩))) (PySem.F.args_str_lt_2 _ _)
    | int b =>
      obtain ⟨t', rfl⟩ := hu
      have : wpAny (model prog w) A (compareOp .Gt (.int a t) (.int b t')) Q E s := PyProof.Rows.gt_int (h1 _ s rfl H)
      exact this
    | bool b =>
      cases hu
      refine PySem.SeqAt.rc_sub_first_or (op := .Gt) (typeIs_int s a t) (rfl : s.TypeIs (.bool b) "bool") (by decide) PySem.F.sub_bool_int PySem.F.slot_bool_lt_refl
        (call_gives PySem.F.slot_bool_lt_refl (rfl : s.TypeIs (.bool b) "bool") PySem.F.entry_int_lt (PySem.F.args_int_lt_2 _ _) (gives_lt_bi b a t) ⟨nofun, h1 _ s rfl H⟩) (.inl rfl)
  | bool a =>
    cases hv
    cases m with
    | none => cases ym
    | str y =>
      obtain ⟨t', rfl⟩ := hu
      refine gt_refused hh (fun s' => (rfl : s'.TypeIs (.bool a) "bool")) (fun s' => typeIs_str s' y t') (by decide) PySem.F.sub_str_bool PySem.F.slot_bool_gt PySem.F.slot_str_lt_refl (by decide) (by decide) ?_
      refine wpAny_call_entry PySem.F.slot_bool_gt (rfl : s.TypeIs (.bool a) "bool") PySem.F.entry_int_gt (show wpAny _ _ (do rule "int.binary.not-an-int"; ret .notImplemented) _ _ s from wpAny_bind (wpAny_rule (wpAny_pure ⟨_, rfl, rfl, ?_⟩))) (PySem.F.args_int_gt_2 _ _)
      exact wpAny_call_entry PySem.F.slot_str_lt_refl (typeIs_str s y t') PySem.F.entry_str_lt (show wpAny _ _ (do rule "str.__lt__.not-a-str"; ret .notImplemented) _ _ s from wpAny_bind (wpAny_rule (wpAny_pure ⟨_, rfl, rfl, fun h' tk e x => h2 e _ rfl (of_newExc H x)⟩))) (PySem.F.args_str_lt_2 _ _)
    | int b =>
      obtain ⟨t', rfl⟩ := hu
      exact wpAny_richCompare_left (op := .Gt) (rfl : s.TypeIs (.bool a) "bool") (typeIs_int s b t') (by decide) PySem.F.sub_int_bool PySem.F.slot_bool_gt
        (call_gives PySem.F.slot_bool_gt (rfl : s.TypeIs (.bool a) "bool") PySem.F.entry_int_gt (PySem.F.args_int_gt_2 _ _) (gives_gt_bi a b t') ⟨nofun, h1 _ s rfl H⟩)
    | bool b =>
      cases hu
      have : wpAny (model prog w) A (compareOp .Gt (.bool a) (.bool b)) Q E s := PyProof.Rows.gt_bool (h1 _ s rfl H)
      exact this
theorem cmp_all {ls : List Ln} (hh : A.handled = none) : CmpOk prog w A base os₀ ls := fun l m v u led s Q E _ _ yl ym hv hu H h1 h2 => gt_ln hh yl ym hv hu H h1 h2
end
end Mine

namespace Mine
open PySem PySem.W PyProof.Rows PySem.Calls PySem.Spec
section
variable {prog : Program} {w : World} {A : Around} {E : Value → Shared → Prop} {s : Shared} {base : Heap} {os₀ : OsState} {led : Led} {env : Env}
/-- y = [elt for a, b in pairs], pairs a list of tuples of two -/
theorem comp_pairs {elt iter : Expr} {a b y : Str} {pa pb py tp : Pos} {kk : Nat} {scope : Scope} {pos spos : Pos} {l : Addr} {vs : List Value} {Q : Flow → Shared → Prop} (hh : A.handled = none) (hclos : closureFor scope env = pure [])
    (hcell : ∀ y ∈ scope.names, y.2 ≠ .cell) (hkind : scope.kind = .function) (hnames : ∀ y ∈ scope.names, y.2 = .local → scope.names.lookup y.1 = some .local) (ha : scope.names.lookup a = some .local) (hb : scope.names.lookup b = some .local)
    (hsw : swapsWith (.ListComp elt [⟨.Tuple [.Name a pa, .Name b pb] kk tp, iter, [], 0⟩] scope pos) (some (.Name y py)) spos.line env = pure true) (hsz : vs.length ≤ sizeLine)
    (J : Nat → List Value → Led → Prop)
    (h : wpAny (model prog w) A (eval iter env) (fun xv s₁ => ∃ led, xv = .ref l ∧ St base os₀ ((l, lstA vs) :: led) s₁ ∧ J 0 [] led ∧
      (∀ i ys led, i < vs.length → J i ys led → ∃ t x z, vs[i]? = some (.ref t) ∧ (t, tupA [x, z]) ∈ led ∧ ∀ C mC rest s E', mC b = some z → St base os₀ ((C, nsA mC) :: rest) s → wpAny (model prog w) A (eval elt (compEnvC scope [] C env)) (fun v s' => St base os₀ ((C, nsA mC) :: rest) s' ∧ J (i + 1) (ys ++ [v]) led) E' s) ∧
      (∀ D ys led vl s, J vs.length ys led → (∃ C m vr, vl = (C, nsA m) :: vr) → St base os₀ (vl ++ ((D, lstA ys) :: (l, lstA vs) :: led)) s →
        wpAny (model prog w) A (storeName env y (.ref D)) (fun _ s' => ∃ led', St base os₀ (vl ++ led') s' ∧ ∀ s'', St base os₀ led' s'' → Q .next s'') E s)) E s)
    (hs : ∀ x, foldedSetIterable iter env x = pure x := by intro _; rfl) (he : ∀ C, ((assignEach [.Name a pa, .Name b pb] (compEnvC scope [] C env)).map (·.2)) = [assign (.Name a pa) (compEnvC scope [] C env), assign (.Name b pb) (compEnvC scope [] C env)] := by intro _; rfl)
    (he2 : ∀ C, (assignEach [.Name a pa, .Name b pb] (compEnvC scope [] C env)).length = 2 := by intro _; rfl) (he3 : ∀ C, (assignEach [.Name a pa, .Name b pb] (compEnvC scope [] C env)).findIdx? (·.1) = none := by intro _; rfl) :
    wpAny (model prog w) A (exec (.Assign [.Name y py] (.ListComp elt [⟨.Tuple [.Name a pa, .Name b pb] kk tp, iter, [], 0⟩] scope pos) spos) env) Q E s := by
  rw [exec_Assign_Name_used _ _ _ _ hsw]
  refine wpAny_bind (wpAny_standAt (wpAny_bind ?_))
  show wpAny _ A (do let _ ← comprehension (.ListComp elt [⟨.Tuple [.Name a pa, .Name b pb] kk tp, iter, [], 0⟩] scope pos) scope env _ (newList []) false (eval iter env) (some (assign (.Name y py) env))) _ _ s
  refine wpAny_bind (wpAny_mono (wpAny_comprehension_free (use := some (assign (.Name y py) env)) (Q := fun _ s' => Q .next s') rfl hs hclos hkind hnames (wpAny_mono h (fun xv s₁ h₁ => ?_) fun _ _ e => e))
    (fun _ s' hq => wpAny_pure (wpAny_pure hq)) fun _ _ e => e)
  obtain ⟨led, rfl, H, h0, turn, fin⟩ := h₁
  refine wpAny_pyIter_list (H.isList (.head _)) ?_
  have H₂ := H.push (tk := s₁.toks) (P := itA l 0) (o := { cls := .type "list_iterator", data := .fields #[.ref l, .int 0 0] }) rfl ⟨rfl, rfl⟩
  generalize s₁.heap.objs.size = I at H₂ ⊢
  refine new_list H₂ fun D s₃ H₃ => ?_
  refine env_loc (x := b) hcell hkind _ _ _ _ H₃ fun C vl cenv s₄ hC hmk hv H₄ => ?_
  rw [hmk, hC]
  obtain ⟨m0, rfl, _⟩ := hv
  have W : Iter prog w A base os₀ I vs.length (fun i v => vs[i]? = some v) (itA l) [(l, lstA vs)] := Iter.list hh
  have hka : (compEnvC scope [] C env).kindOf a = some .local := lookup_relabel_local ha
  have hkb : (compEnvC scope [] C env).kindOf b = some .local := lookup_relabel_local hb
  have loop : codeAny (model prog w) A (.compLoop (.ListComp elt [⟨.Tuple [.Name a pa, .Name b pb] kk tp, iter, [], 0⟩] scope pos) 0 (.ref I) (.ref D) (compEnvC scope [] C env)) (compPost (model prog w) A E (some (assign (.Name y py) env)) (fun _ s' => Q .next s') (.ref D) C) s₄ := by
    refine LCp.codeAny_compLoop_pair (fun k s' => ∃ i ys led' m, k = vs.length + 1 - i ∧ i ≤ vs.length ∧ ys.length = i ∧ J i ys led' ∧ St base os₀ ((C, nsA m) :: (D, lstA ys) :: (I, itA l i) :: (l, lstA vs) :: led') s') ?_ (vs.length + 1) ⟨0, [], led, m0, rfl, Nat.zero_le _, rfl, h0, H₄⟩
    rintro k s' ⟨i, ys, led', m, rfl, hi, hlen, hJ, H'⟩
    have Hn : St base os₀ ((I, itA l i) :: ([(l, lstA vs)] ++ ((C, nsA m) :: (D, lstA ys) :: led'))) s' := H'.perm (by
      repeat (first | exact List.Perm.refl _ | refine Pick.perm (by (repeat (first | exact Pick.head | apply Pick.tail))) ?_))
    by_cases hlt : i < vs.length
    · refine W.item i _ s' _ _ hlt Hn fun v s₅ hv H₅ => ?_
      obtain ⟨t, x, z, ht, hmem, he'⟩ := turn i ys led' hlt hJ
      have e : v = .ref t := by rw [ht] at hv; exact (Option.some.inj hv).symm
      subst e
      obtain ⟨oi, hoi, hic, hid⟩ := H₅.get (a := I) (P := itA l (i + 1)) (.head _)
      refine wpAny_letOwnedTupleGo_listiter ⟨oi, hoi, hic, hid⟩ ?_
      have H₆ : St base os₀ ((C, nsA m) :: (D, lstA ys) :: (I, itA l (i + 1)) :: (l, lstA vs) :: led') s₅ := H₅.perm (by
        repeat (first | exact List.Perm.refl _ | refine Pick.perm (by (repeat (first | exact Pick.head | apply Pick.tail))) ?_))
      refine assign_Tuple_tuple (items := #[x, z]) hh (H₆.isTup (vs := [x, z]) (a := t) (.tail _ (.tail _ (.tail _ (.tail _ hmem))))) (he2 C) (he3 C) fun h' hx' => ?_
      have H₇ := H₆.grown (tk := s₅.toks) hx'
      rw [he C]
      refine assignInOrder_cons (wpAny_assign_Name (st_l (env := compEnvC scope [] C env) H₇ .head (fun s₆ H₈ => assignInOrder_cons (wpAny_assign_Name (st_l (env := compEnvC scope [] C env) H₈ .head (fun s₇ H₉ => assignInOrder_nil ?_) hkind hkb))) hkind hka))
      refine wpAny_mono (he' C _ _ s₇ _ (if_pos rfl) H₉) (fun v s₈ h₈ => ?_) fun _ _ x => x
      refine l_append h₈.1 (.tail .head) (fun s₉ H₁₀ => ⟨vs.length + 1 - (i + 1), by omega, i + 1, ys ++ [v], led', _, rfl, hlt, by simp [hlen], h₈.2, H₁₀⟩) (by omega)
    · have hin : i = vs.length := by omega
      subst hin
      refine W.done _ s' _ _ Hn fun s₅ H₅ => ?_
      have H₆ : St base os₀ ([(C, nsA m)] ++ ((D, lstA ys) :: (l, lstA vs) :: led')) s₅ := H₅.perm (by
        repeat (first | exact List.Perm.refl _ | refine Pick.perm (by (repeat (first | exact Pick.head | apply Pick.tail))) ?_))
      refine wpAny_assign_Name (wpAny_mono (fin D ys led' [(C, nsA m)] s₅ hJ ⟨C, m, [], rfl⟩ H₆) (fun _ s₆ h₆ => ?_) fun _ _ x => x)
      obtain ⟨led'', H₇, hQ⟩ := h₆
      exact ⟨m, H₇.ns (.head _), fun h' hs' => hQ _ (H₇.gone (tk := s₆.toks) fun b o hb e => hs'.extBut b o hb e)⟩
  exact codeAny_compStart_list loop (W.self _ _ _ _ (H₄.perm (led' := (I, itA l 0) :: ([(l, lstA vs)] ++ ((C, nsA m0) :: (D, lstA []) :: led))) (by
    repeat (first | exact List.Perm.refl _ | refine Pick.perm (by (repeat (first | exact Pick.head | apply Pick.tail))) ?_))) loop)
end
end Mine

namespace Mine
open PySem PySem.W PyProof.Rows PySem.Calls PySem.Spec
def keyA (d : Addr) (n ep i : Nat) : Asn := fun o => o.cls = .type "dict_keyiterator" ∧ o.data = .fields #[.ref d, .int i 0, .int n 0, .int ep 0]
section
variable {prog : Program} {w : World} {A : Around} {E : Value → Shared → Prop} {s : Shared} {base : Heap} {os₀ : OsState} {led led' : Led} {env : Env} {o₀ : Obj} {d l I : Addr} {kvs : List (Int × Value)} {vs : List Value} {pos : Pos} {ep : Nat}
theorem di_pop {t : Sem Value} {Q : Value → Shared → Prop} (H : St base os₀ led s) (hd : (d, dctA (intKind prog w) kvs) ∈ led) (hsz : kvs.length ≤ sizeLine)
    (h : wpAny (model prog w) A t (fun key s₁ => ∃ k tk v led', key = .int k tk ∧ St base os₀ led s₁ ∧ valueAt kvs k = some v ∧ Up d (dctA (intKind prog w) kvs) (dctA (intKind prog w) (without kvs k)) led led' ∧ ∀ s', St base os₀ led' s' → Q v s') E s) :
    MethodOn prog w A "pop" pos (.ref d) [(false, t)] Q E s :=
  ⟨"dict", "dict.pop", PySem.F.plainAttrs_dict, PySem.F.slot_dict_pop, PySem.F.type_dict_pop, (H.isDict hd).typeIs, (H.isDict hd).mapOf.noDict,
    callWith_builtin rfl (evalArgs_plain (spliced_cons (wpAny_mono h (fun key s₁ ⟨k, tk, v, led', hk, H₁, hv, U, hq⟩ => spliced_nil (by
      subst hk
      exact call_meetsIn PySem.F.slot_dict_pop (H₁.isDict hd).typeIs PySem.F.entry_dict_pop (PySem.F.args_dict_pop_2 _ _) (meets_dict_pop_there (intKind prog w) d (intKind_is prog w k tk) [] (.inl rfl) rfl)
        ⟨kvs, v, H₁.isDict hd, hsz, hv, fun h' hm' hs' => hq _ (H₁.upd U hs'.extBut (dctA_of hm'))⟩)) fun _ _ e => e)))⟩
theorem li_pop {t : Sem Value} {Q : Value → Shared → Prop} (H : St base os₀ led s) (hm : (l, lstA vs) ∈ led)
    (h : wpAny (model prog w) A t (fun key s₁ => ∃ k tk v led', key = .int (k : Nat) tk ∧ St base os₀ led s₁ ∧ vs[k]? = some v ∧ vs.length ≤ 1000 ∧ Up l (lstA vs) (lstA (vs.eraseIdx k)) led led' ∧ ∀ s', St base os₀ led' s' → Q v s') E s) :
    MethodOn prog w A "pop" pos (.ref l) [(false, t)] Q E s := by
  obtain ⟨o, ho, n, rfl⟩ := H.get hm
  refine ⟨"list", "list.pop", PySem.F.plainAttrs_list, PySem.F.slot_list_pop, PySem.F.type_list_pop, ⟨_, ho, rfl⟩, fun a e => by cases e; exact ⟨_, ho, rfl⟩, PySem.P.pop_at_list (wpAny_mono h (fun key s₁ h₁ => ?_) fun _ _ e => e)⟩
  obtain ⟨k, tk, v, led', rfl, H₁, hv, hz, U, hq⟩ := h₁
  obtain ⟨o₁, ho₁, n₁, rfl⟩ := H₁.get U.mem
  have hk : k < vs.length := by
    rcases Nat.lt_or_ge k vs.length with q | q
    · exact q
    · rw [List.getElem?_eq_none q] at hv; cases hv
  refine ⟨vs.toArray, n₁, ((k : Nat) : Int), tk, k, v, by rw [List.size_toArray]; exact Nat.le_trans hz (by decide), rfl, ho₁, ?_, ?_, by simpa using hv, hq _ (H₁.upd (tk := s₁.toks) U (Heap.SameBut.update ..).extBut ?_)⟩
  · simp [Builtin.List.listFitsIndex]; omega
  · rw [List.size_toArray]; unfold seqIndex?; simp; omega
  · have := get?_update_seq (xs := vs.toArray) (n := n₁) ho₁ fun xs => xs.eraseIdxIfInBounds k
    have e : vs.toArray.eraseIdxIfInBounds k = (vs.eraseIdx k).toArray := by
      rw [List.eraseIdxIfInBounds_toArray]
    rw [e] at this
    exact ⟨_, this, _, rfl⟩
theorem di_set {k : Int} {t : Tok} {v : Value} {Q : Unit → Shared → Prop} (H : St base os₀ led s) (U : Up d (dctA (intKind prog w) kvs) (dctA (intKind prog w) (stored kvs k v)) led led')
    (h : ∀ s', St base os₀ led' s' → Q () s') (hsz : kvs.length ≤ sizeLine := by size_fits) : wpAny (model prog w) A (setItem (.ref d) (.int k t) v) Q E s :=
  wpAny_setItem_pairs (knd := intKind prog w) (intKind_is prog w k t) (H.isDict U.mem) (fun h' hm' hs' => h _ (H.upd U hs'.extBut (dctA_of hm'))) hsz
theorem Iter.keys (hh : A.handled = none) : Iter prog w A base os₀ I kvs.length (fun i v => ∃ k x t, kvs[i]? = some (k, x) ∧ v = .int k t) (keyA d kvs.length ep) [(d, dctE (intKind prog w) kvs ep)] where
  item := fun i led s Q E hi H h => by
    obtain ⟨oi, hoi, hic, hid⟩ := H.get (.head _)
    refine wpAny_pyNext_dict_item (knd := intKind prog w) (k := kvs[i].1) (v := kvs[i].2) ⟨oi, hoi, hic, hid⟩ (H.dictAt (.tail _ (.head _))) (List.getElem?_eq_getElem hi) fun key h' hk hit' hs' => ?_
    obtain ⟨t, rfl⟩ := Value.isInt_shape hk
    refine h _ _ ⟨kvs[i].1, kvs[i].2, t, List.getElem?_eq_getElem hi, rfl⟩ ?_
    obtain ⟨oi', hoi', r'⟩ := hit'
    exact H.upd (tk := s.toks) .head hs'.extBut ⟨oi', hoi', r'⟩
  done := fun led s Q E H h => by
    obtain ⟨oi, hoi, hic, hid⟩ := H.get (.head _)
    exact wpAny_pyNext_dict_end (knd := intKind prog w) hh ⟨oi, hoi, hic, hid⟩ (H.dictAt (.tail _ (.head _))) (List.getElem?_eq_none (Nat.le_refl _)) fun h' he' => h _ (H.gone (tk := s.toks) he')
  self := fun led s Q E H h => by
    obtain ⟨oi, hoi, hic, hid⟩ := H.get (.head _)
    exact wpAny_pyIter_keyiter ⟨oi, hoi, hic, hid⟩ h
end
end Mine

namespace Mine
open PySem PySem.W PyProof.Rows PySem.Calls PySem.Spec
def glnStmt : Stmt := nth 2 PySem.Challenge.pw_dm0069_02.main.body
abbrev glnEnv (fname fqual : Str) (fkwd fdoc fmod : Value) (fann : Option Addr) (fcode fct : Value) (L fF : Addr) : Env :=
  callEnv { name := fname, qualname := fqual, params := fnPar glnStmt, body := .stmts (fnBody glnStmt), scope := fnScope glnStmt, globals := mainGlobals, closure := [], defaults := .none, kwdefaults := fkwd, doc := fdoc, pyModule := fmod, annotations := fann, code := fcode, closureTuple := fct, builtins := builtinsNs } L fF
structure GW (base : Heap) (mg mb : Str → Option Value) (fW : Addr) (wd : FuncData) : Prop where
  gr : Gr base mg mb
  dw : IsDef base fW glnStmt wd
  hw : mg (Str.ofString "_get_lineno_width") = some (.ref fW)
  hno : ∃ t, mg (Str.ofString "_NO_LINENO") = some (.str (Str.ofString "  --") t)
  n1 : mg (Str.ofString "max") = none
  n2 : mg (Str.ofString "filter") = none
  n3 : mg (Str.ofString "len") = none
  n4 : mg (Str.ofString "str") = none
  b1 : mb (Str.ofString "max") = some (.builtin "max")
  b2 : mb (Str.ofString "filter") = some (.type "filter")
  b3 : mb (Str.ofString "len") = some (.builtin "len")
  b4 : mb (Str.ofString "str") = some (.type "str")
section
variable {prog : Program} {w : World} {A : Around} {E : Value → Shared → Prop} {s : Shared} {base : Heap} {os₀ : OsState} {led : Led} {mg mb : Str → Option Value} {fW d L v : Addr} {wd : FuncData} {K : Type} [DecidableEq K] {knd : KeyKind prog w K} {kvs : List (K × Value)} {ls : List Ln} {Q : Value → Shared → Prop}
  {fname fqual : Str} {fkwd fdoc fmod : Value} {fann : Option Addr} {fcode fct : Value}
/-- behind the greatest line -/
theorem gln_tail {l : Ln} {mv : Value} {m : Str → Option Value} {Q : Flow → Shared → Prop} (G : GW base mg mb fW wd) (hh : A.handled = none) (hV : VL kvs ls) (hv : LnV l mv) (hl : l ≠ .none) (hf : l.fits)
    (hd : m (Str.ofString "linestarts") = some (.ref d)) (hm : m (Str.ofString "maxlineno") = some mv)
    (H : St base os₀ ((L, nsA m) :: (d, dctA knd kvs) :: led) s)
    (h : ∀ t s', St base os₀ ((d, dctA knd kvs) :: led) s' → Q (.ret (.int (wOf ls l) t)) s') :
    wpAny (model prog w) A (execs ((fnBody glnStmt).drop 2) (glnEnv fname fqual fkwd fdoc fmod fann fcode fct L fW)) Q E s := by
  obtain ⟨o₀, hsys⟩ := G.gr.sys
  obtain ⟨tno, hno⟩ := G.hno
  refine wpAny_execs_cons (wpAny_If (wpAny_isTrue_Compare1 (nm_l H (.head _) hm (c_neg H fun t1 s₁ H₁ => eq_m1 hv hl (wpAny_truthy_bool ?_)))))
  cases hm1 : l.m1 with
  | true =>
    refine ite_pos rfl (wpAny_execs_cons (wpAny_Return_some (c_int H₁ fun t s₂ H₂ => ?_)))
    have := h t s₂ (H₂.sub (.cons _ (.refl _)))
    unfold wOf at this
    rw [if_pos hm1] at this
    exact this
  | false =>
    refine ite_neg (by decide) (wpAny_execs_nil ?_)
    refine wpAny_execs_cons (wpAny_Assign_Name (wpAny_Call_ofName (nm_b H₁ G.gr.g G.gr.b G.n1 G.b1 (callWith_builtin rfl (evalArgs_plain (spliced_cons (c_int (k := 0) (pos := ⟨9, 23, 9, 24⟩) H₁ fun t2 s₂ H₂ => spliced_cons (wpAny_Call_ofName (nm_b H₂ G.gr.g G.gr.b G.n3 G.b3 (callWith_builtin rfl (evalArgs_plain (spliced_cons (wpAny_Call_ofName (nm_b H₂ G.gr.g G.gr.b G.n4 G.b4 (callWith_excType rfl (evalArgs_plain (spliced_cons (nm_l H₂ (.head _) hm (spliced_nil (str_ln hv hl hf H₂ fun x t3 s₃ hx hx' H₃ => spliced_nil (len_s H₃ hx' fun t4 s₄ H₄ => spliced_nil (max2 hh H₄ fun t5 s₅ H₅ => ?_))))))))))))))))))))))
    rw [hx]
    refine st_g H₅ (fun _ => up_head) fun m₁ s₆ e₁ k₁ H₆ => ?_
    have hd₁ := (k₁ _ (by decide)).trans hd
    refine wpAny_execs_cons (wpAny_If (wpAny_isTrue_BoolOp (wpAny_allTrue_And_cons (wpAny_isTrue_Compare1 (nm_l H₆ (.head _) e₁ (wpAny_Call_ofName (nm_b H₆ G.gr.g G.gr.b G.n3 G.b3 (callWith_builtin rfl (evalArgs_plain (spliced_cons (nm_g H₆ G.gr.g hno (spliced_nil (len_s H₆ (by decide) fun t6 s₇ H₇ => PyProof.Rows.lt_int (wpAny_truthy_bool ?_))))))))))))))
    by_cases hlt : (if ((l.len : Nat) : Int) > 3 then ((l.len : Nat) : Int) else 3) < 4
    · refine ite_pos (decide_eq_true hlt) ?_
      refine wpAny_allTrue_And_cons (wpAny_isTrue_Compare1 (wpAny_Constant_none (wpAny_Call_method0_late rfl rfl (nm_l H₇ (.head _) hd₁ (d_values H₇ hsys (.tail _ (.head _)) fun v s₈ H₈ => ?_)))))
      have H₉ : St base os₀ ((d, dctA knd kvs) :: (v, viewA d) :: (L, nsA m₁) :: led) s₈ := H₈.perm (by
        repeat (first | exact List.Perm.refl _ | refine Pick.perm (by (repeat (first | exact Pick.head | apply Pick.tail))) ?_))
      obtain ⟨ep, H₁₀⟩ := H₉.seeEp
      refine in_values hh hV H₁₀ (.head _) fun s₉ H₁₁ => wpAny_truthy_bool ?_
      have H₁₂ : St base os₀ ((L, nsA m₁) :: (d, dctA knd kvs) :: led) s₉ := (((H₁₁.weak dctE_A).perm (led' := (v, viewA d) :: (L, nsA m₁) :: (d, dctA knd kvs) :: led) (by
        repeat (first | exact List.Perm.refl _ | refine Pick.perm (by (repeat (first | exact Pick.head | apply Pick.tail))) ?_))).sub (.cons _ (.refl _)))
      cases hno' : ls.any Ln.isNone with
      | true =>
        refine ite_pos rfl (wpAny_allTrue_And_nil (ite_pos rfl ?_))
        refine wpAny_execs_cons (wpAny_Assign_Name (wpAny_Call_ofName (nm_b H₁₂ G.gr.g G.gr.b G.n3 G.b3 (callWith_builtin rfl (evalArgs_plain (spliced_cons (nm_g H₁₂ G.gr.g hno (spliced_nil (len_s H₁₂ (by decide) fun t7 s₁₀ H₁₃ => st_g H₁₃ (fun _ => up_head) fun m₂ s₁₁ e₂ k₂ H₁₄ => ?_)))))))))
        refine wpAny_execs_nil (wpAny_execs_cons (wpAny_Return_some (nm_l H₁₄ (.head _) e₂ ?_)))
        have := h t7 s₁₁ (H₁₄.sub (.cons _ (.refl _)))
        unfold wOf at this
        rw [if_neg (by rw [hm1]; decide), if_pos ⟨hlt, hno'⟩] at this
        exact this
      | false =>
        refine ite_neg (by decide) (ite_neg (by decide) (wpAny_execs_nil (wpAny_execs_cons (wpAny_Return_some (nm_l H₁₂ (.head _) e₁ ?_)))))
        have := h t5 s₉ (H₁₂.sub (.cons _ (.refl _)))
        unfold wOf at this
        rw [if_neg (by rw [hm1]; decide), if_neg (fun q => by rw [hno'] at q; exact absurd q.2 (by decide))] at this
        exact this
    · refine ite_neg (fun q => hlt (of_decide_eq_true q)) (ite_neg (by decide) (wpAny_execs_nil (wpAny_execs_cons (wpAny_Return_some (nm_l H₇ (.head _) e₁ ?_)))))
      have := h t5 s₇ (H₇.sub (.cons _ (.refl _)))
      unfold wOf at this
      rw [if_neg (by rw [hm1]; decide), if_neg (fun q => hlt q.1)] at this
      exact this

/-- the contract of _get_lineno_width -/
theorem gln_ok (G : GW base mg mb fW wd) (hroom : A.depth < recursionLimit) (hh : A.handled = none) (hV : VL kvs ls) (hf : ∀ l ∈ ls, l.fits) (hcmp : ∀ env, CmpOk prog w (A.deeper env).in1 base os₀ ls)
    (H : St base os₀ ((d, dctA knd kvs) :: led) s)
    (h1 : ∀ l t s', maxL none ls = some (some l) → St base os₀ ((d, dctA knd kvs) :: led) s' → Q (.int (wOf ls l) t) s')
    (h2 : ∀ t s', maxL none ls = some none → St base os₀ ((d, dctA knd kvs) :: led) s' → Q (.int 0 t) s')
    (h3 : ∀ env e L m s', maxL none ls = none → env = callEnv wd L fW → St base os₀ ((e, ex0 "TypeError") :: (L, nsA m) :: (d, dctA knd kvs) :: led) s' →
      wpAny (model prog w) (A.deeper env) (leaving env (.ref e)) (fun _ s'' => E (.ref e) s'') (fun e' s'' => E e' s'') s') :
    wpAny (model prog w) A (call (.ref fW) [.ref d] []) Q E s := by
  obtain ⟨o₀, hsys⟩ := G.gr.sys
  have Gd := G.dw
  obtain ⟨⟨o, ho, hd⟩, hb, hp, hsc, hc, hgl, hbi, hdf, hcd⟩ := Gd
  obtain ⟨fname, fqual, fpar, fbody, fscope, fglob, fclo, fdef, fkwd, fdoc, fmod, fann, fcode, fct, fbui⟩ := wd
  simp only at hb hp hsc hc hgl hbi hdf hcd
  subst hb hp hsc hc hgl hbi hdf
  refine fn_enter (args := ⟨[.ref d], []⟩) H hroom G.gr.lim (H.keep _ _ ho) hd (hcd.keeps H.keep) rfl (by show ∀ x ∈ (fnScope glnStmt).names, x.2 ≠ NameKind.cell; decide) ?_
  refine wpAny_of_eq (a := [(Str.ofString "linestarts", .ref d)]) rfl ?_
  refine ⟨_, H, ?_, fun L s₁ H₁ => ?_⟩
  · intro x hx
    simp only [List.mem_cons, List.not_mem_nil, or_false] at hx
    subst hx; rfl
  refine wpAny_execs_cons (wpAny_If (wpAny_isTrue_Compare1 (nm_l H₁ (.head _) rfl (wpAny_Constant_none (is_none (wpAny_truthy_bool ?_))))))
  refine ite_neg (by simp) (wpAny_execs_nil ?_)
  refine wpAny_execs_cons (wpAny_Assign_Name (wpAny_Call_ofName (nm_b H₁ G.gr.g G.gr.b G.n1 G.b1 (callWith_builtin_kwB rfl rfl (evalArgs_kwB rfl (spliced_cons (wpAny_Call_ofName (nm_b H₁ G.gr.g G.gr.b G.n2 G.b2 (callWith_excType rfl (evalArgs_plain (spliced_cons (wpAny_Constant_none (k := 0) (pos := ⟨6, 27, 6, 31⟩) (spliced_cons (wpAny_Call_method0_late rfl rfl (nm_l H₁ (.head _) rfl (d_values H₁ hsys (.tail _ (.head _)) fun v s₂ H₂ => spliced_nil ?_))))))))))))))))
  obtain ⟨m, hm, H₃⟩ : ∃ m, m (Str.ofString "linestarts") = some (.ref d) ∧ St base os₀ ((d, dctA knd kvs) :: (v, viewA d) :: (L, nsA m) :: led) s₂ := ⟨_, rfl, H₂.perm (by
    repeat (first | exact List.Perm.refl _ | refine Pick.perm (by (repeat (first | exact Pick.head | apply Pick.tail))) ?_))⟩
  clear H₂ H₁
  obtain ⟨ep, H₄⟩ := H₃.seeEp
  refine fil_new H₄ (.head _) fun F I s₃ H₅ => spliced_nil ?_
  refine wpAny_evalAll_cons (wpAny_bind (c_neg H₅ fun t1 s₄ H₆ => wpAny_bind (wpAny_standAt (wpAny_pure (wpAny_evalAll_nil ?_)))))
  have back : ∀ {s'}, St base os₀ ((d, dctE knd kvs ep) :: (v, viewA d) :: (L, nsA m) :: led) s' → St base os₀ ((L, nsA m) :: (d, dctA knd kvs) :: led) s' := fun H' => ((H'.weak dctE_A).perm (led' := (v, viewA d) :: (L, nsA m) :: (d, dctA knd kvs) :: led) (by
    repeat (first | exact List.Perm.refl _ | refine Pick.perm (by (repeat (first | exact Pick.head | apply Pick.tail))) ?_))).sub (.cons _ (.refl _))
  refine max_default (dv := .int (-1) t1) hh hV hf (hcmp _) H₆ (fun l v' s₅ e hl hy hv H₇ => ?_) (fun s₅ e H₇ => ?_) fun e s₅ q H₇ => ?_
  · refine st_g (back H₇) (fun _ => up_head) fun m₁ s₆ e₁ k₁ H₈ => ?_
    exact gln_tail G hh hV hv (fun q => by subst q; cases hy) (hf l hl) ((k₁ _ (by decide)).trans hm) e₁ H₈ fun t s₇ H₉ => h1 l t s₇ e H₉
  · refine st_g (back H₇) (fun _ => up_head) fun m₁ s₆ e₁ k₁ H₈ => ?_
    exact gln_tail (l := .int (-1)) G hh hV ⟨_, rfl⟩ (fun q => by cases q) (by show (1 : Nat) < 10 ^ 100; decide) ((k₁ _ (by decide)).trans hm) e₁ H₈ fun t s₇ H₉ => by
      have := h2 t s₇ e H₉
      have e2 : wOf ls (.int (-1)) = 0 := rfl
      rw [e2]; exact this
  · have H₈ : St base os₀ ((e, ex0 "TypeError") :: (L, nsA m) :: (d, dctE knd kvs ep) :: led) s₅ := (H₇.perm (led' := (v, viewA d) :: (e, ex0 "TypeError") :: (L, nsA m) :: (d, dctE knd kvs ep) :: led) (by
      repeat (first | exact List.Perm.refl _ | refine Pick.perm (by (repeat (first | exact Pick.head | apply Pick.tail))) ?_))).sub (.cons _ (.refl _))
    have H₉ : St base os₀ ((e, ex0 "TypeError") :: (L, nsA m) :: (d, dctA knd kvs) :: led) s₅ := by
      have Ha := H₈.perm (led' := (d, dctE knd kvs ep) :: (e, ex0 "TypeError") :: (L, nsA m) :: led) (by
        repeat (first | exact List.Perm.refl _ | refine Pick.perm (by (repeat (first | exact Pick.head | apply Pick.tail))) ?_))
      exact (Ha.weak dctE_A).perm (by
        repeat (first | exact List.Perm.refl _ | refine Pick.perm (by (repeat (first | exact Pick.head | apply Pick.tail))) ?_))
    exact h3 _ e L m s₅ q rfl H₉
end
end Mine

namespace Mine
open PySem PySem.W PyProof.Rows PySem.Calls PySem.Spec
def greatStmt : Stmt := nth 4 PySem.Challenge.pw_dm0069_02.main.body
def dueStmt : Stmt := nth 5 PySem.Challenge.pw_dm0069_02.main.body
def askStmt : Stmt := nth 6 PySem.Challenge.pw_dm0069_02.main.body
def lawStmt2 : Stmt := nth 7 PySem.Challenge.pw_dm0069_02.main.body
abbrev greatEnv (fname fqual : Str) (fkwd fdoc fmod : Value) (fann : Option Addr) (fcode fct : Value) (L fF : Addr) : Env :=
  callEnv { name := fname, qualname := fqual, params := fnPar greatStmt, body := .stmts (fnBody greatStmt), scope := fnScope greatStmt, globals := mainGlobals, closure := [], defaults := .none, kwdefaults := fkwd, doc := fdoc, pyModule := fmod, annotations := fann, code := fcode, closureTuple := fct, builtins := builtinsNs } L fF
structure G2 (base : Heap) (mg mb : Str → Option Value) (fW fR fU fK : Addr) (wd rd ud kd : FuncData) : Prop where
  gw : GW base mg mb fW wd
  dr : IsDef base fR greatStmt rd
  du : IsDef base fU dueStmt ud
  dk : IsDef base fK askStmt kd
  hr : mg (Str.ofString "_law_greater") = some (.ref fR)
  hu : mg (Str.ofString "_law_due") = some (.ref fU)
  hk : mg (Str.ofString "_law_ask") = some (.ref fK)
  n5 : mg (Str.ofString "abs") = none
  n6 : mg (Str.ofString "range") = none
  n7 : mg (Str.ofString "isinstance") = none
  n8 : mg (Str.ofString "int") = none
  n9 : mg (Str.ofString "min") = none
  n10 : mg (Str.ofString "bool") = none
  n11 : mg (Str.ofString "TypeError") = none
  b5 : mb (Str.ofString "abs") = some (.builtin "abs")
  b6 : mb (Str.ofString "range") = some (.type "range")
  b7 : mb (Str.ofString "isinstance") = some (.builtin "isinstance")
  b8 : mb (Str.ofString "int") = some (.type "int")
  b9 : mb (Str.ofString "min") = some (.builtin "min")
  b10 : mb (Str.ofString "bool") = some (.type "bool")
  b11 : mb (Str.ofString "TypeError") = some (.type "TypeError")
/-! texts -/
def gtL : List Nat → List Nat → Bool
  | c :: r, d :: q => if c = d then gtL r q else decide (d < c)
  | a, b => decide (b.length < a.length)
theorem gtL_lt : ∀ a b : List Nat, gtL a b = decide (b < a)
  | [], [] => rfl
  | [], d :: q => by simp [gtL]
  | c :: r, [] => by simp [gtL]
  | c :: r, d :: q => by
    unfold gtL
    by_cases h : c = d
    · subst h
      rw [if_pos rfl, gtL_lt r q]
      simp
    · rw [if_neg h]
      have : (d :: q < c :: r) ↔ d < c := by
        rw [List.cons_lt_cons_iff]
        constructor
        · rintro (x | ⟨e, _⟩)
          · exact x
          · exact absurd e.symm h
        · exact fun x => .inl x
      rw [decide_eq_decide.mpr this]
def sign (c : Nat) : Prop := c = 32 ∨ c = 53 ∨ c = 109
def idxOf (c : Nat) : Nat := if c = 32 then 0 else if c = 53 then 1 else 2
theorem idx_lt {c d : Nat} (hc : sign c) (hd : sign d) : idxOf d < idxOf c ↔ d < c := by
  rcases hc with rfl | rfl | rfl <;> rcases hd with rfl | rfl | rfl <;> decide
def Ln.isStr : Ln → Bool | .str _ => true | _ => false
/-- a text as the law makes it -/
def Ln.ok : Ln → Prop
  | .str x => x.length ≤ 6 ∧ ∀ c ∈ x.cps.toList, sign c
  | .int n => n.natAbs < 10 ^ 20
  | _ => True
theorem Ln.ok.fits {l : Ln} (h : l.ok) : l.fits := by
  cases l with
  | none => trivial
  | bool b => trivial
  | str x => exact Nat.le_trans h.1 (by decide)
  | int n => exact Nat.lt_trans h (Nat.pow_lt_pow_right (by decide) (by decide))
section
variable {prog : Program} {w : World} {A : Around} {E : Value → Shared → Prop} {s : Shared} {base : Heap} {os₀ : OsState} {led : Led} {mg mb : Str → Option Value} {fW fR fU fK : Addr} {wd rd ud kd : FuncData} {l m : Ln} {v u : Value}
theorem item_s {value slice : Expr} {x : Str} {t tu : Tok} {i c : Nat} {Q : Value → Shared → Prop} (H : St base os₀ led s) (hi : x.cps.toList[i]? = some c) (hz : x.length ≤ 1000) (h : ∀ t' s', St base os₀ led s' → Q (.str ⟨#[c]⟩ t') s')
    (hs : subscripted slice false (.str x t) (.int (i : Nat) tu) = operate [.str x t, .int (i : Nat) tu] (getItem (.str x t) (.int (i : Nat) tu)) := by with_unfolding_all rfl) :
    wpAny (model prog w) A (subscriptTail value slice (.str x t) (.int (i : Nat) tu)) Q E s := by
  have hlt : i < x.length := by
    rcases Nat.lt_or_ge i x.length with q | q
    · exact q
    · rw [List.getElem?_eq_none (by simpa [Str.length] using q)] at hi; cases hi
  refine subscriptTail_builtinR (typeIs_str s x t) PyProof.Rows.slot_str_getitem.lookup (PyProof.Rows.getItem_str (c := c) (by simp; omega) ?_ ⟨rfl, h _ _ H.tok⟩) hs
  have e : seqIndex? ((i : Nat) : Int) x.length = some i := by
    unfold seqIndex?
    simp
    omega
  rw [e]
  simpa using hi
theorem min2 {a b : Nat} {t u : Tok} {Q : Value → Shared → Prop} (hh : A.handled = none) (H : St base os₀ led s) (h : ∀ t' s', St base os₀ led s' → Q (.int (min a b : Nat) t') s') : wpAny (model prog w) A (call (.builtin "min") [.int (a : Nat) t, .int (b : Nat) u]) Q E s := by
  refine min_two_ints hh fun h' tk hk => ?_
  by_cases hab : (b : Int) < a
  · have := h u _ (H.ext (tk := tk) hk)
    rw [if_pos hab]
    rw [show min a b = b by omega] at this; exact this
  · have := h t _ (H.ext (tk := tk) hk)
    rw [if_neg hab]
    rw [show min a b = a by omega] at this; exact this
theorem idx_call {c : Nat} {t tu : Tok} {Q : Value → Shared → Prop} (hc : sign c) (H : St base os₀ led s) (h : ∀ t' s', St base os₀ led s' → Q (.int (idxOf c : Nat) t') s') : wpAny (model prog w) A (call (.builtin "str.index") [.str (Str.ofString " 5m") t, .str ⟨#[c]⟩ tu]) Q E s := by
  refine call_gives PySem.F.slot_str_index (typeIs_str _ _ _) PySem.F.entry_str_index (PySem.F.args_str_index_2 _ _) (gives_str_index _ _ _ _ (idxOf c) [] ?_) (h _ _ H.tok)
  rcases hc with rfl | rfl | rfl <;> decide +kernel
/-- isinstance(v, str) -/
theorem isi_str {Q : Value → Shared → Prop} (hv : LnV l v) (H : St base os₀ led s) (h : ∀ s', St base os₀ led s' → Q (.bool l.isStr) s') : wpAny (model prog w) A (call (.builtin "isinstance") [v, .type "str"]) Q E s := by
  cases l with
  | none => cases hv; exact PySem.IsiPair.NoneType_str (h _ H.tok)
  | bool b => cases hv; exact PySem.IsiPair.bool_str (h _ H.tok)
  | str x => obtain ⟨t, rfl⟩ := hv; exact PySem.IsiPair.str_str (h _ H)
  | int n => obtain ⟨t, rfl⟩ := hv; exact PySem.IsiPair.int_str (h _ H.tok)
theorem isi_int {Q : Value → Shared → Prop} (hv : LnV l v) (H : St base os₀ led s) (h : ∀ s', St base os₀ led s' → Q (.bool l.num.isSome) s') : wpAny (model prog w) A (call (.builtin "isinstance") [v, .type "int"]) Q E s := by
  cases l with
  | none => cases hv; exact PySem.IsiPair.NoneType_int (h _ H.tok)
  | bool b => cases hv; exact PySem.IsiPair.bool_int (h _ H.tok)
  | str x => obtain ⟨t, rfl⟩ := hv; exact PySem.IsiPair.str_int (h _ H.tok)
  | int n => obtain ⟨t, rfl⟩ := hv; exact PySem.IsiPair.int_int (h _ H)
theorem sub_num {a b : Int} {Q : Value → Shared → Prop} (hv : LnV l v) (hu : LnV m u) (ha : l.num = some a) (hb : m.num = some b) (H : St base os₀ led s) (h : ∀ t s', St base os₀ led s' → Q (.int (a - b) t) s') : wpAny (model prog w) A (binaryOp .Sub v u) Q E s := by
  cases l with
  | none => cases ha
  | str x => cases ha
  | bool p =>
    cases hv
    cases ha
    cases m with
    | none => cases hb
    | str y => cases hb
    | bool q => cases hu; cases hb; exact PyProof.Rows.sub_bool (h _ _ H.tok)
    | int n => obtain ⟨t, rfl⟩ := hu; cases hb; exact PySem.IntBool.sub_bool_int (h _ _ H.tok)
  | int k =>
    obtain ⟨t, rfl⟩ := hv
    cases ha
    cases m with
    | none => cases hb
    | str y => cases hb
    | bool q => cases hu; cases hb; exact PySem.IntBool.sub_int_bool (h _ _ H.tok)
    | int n => obtain ⟨t', rfl⟩ := hu; cases hb; exact i_sub H h

theorem great_ok {b : Bool} {Q : Value → Shared → Prop} (G : G2 base mg mb fW fR fU fK wd rd ud kd) (hroom : A.depth < recursionLimit) (hh : A.handled = none) (hv : LnV l v) (hu : LnV m u) (hl : l.ok) (hm : m.ok) (hg : l.gt m = some b) (H : St base os₀ led s)
    (h : ∀ s', St base os₀ led s' → Q (.bool b) s') : wpAny (model prog w) A (call (.ref fR) [v, u] []) Q E s := by
  obtain ⟨⟨o, ho, hd⟩, hb, hp, hsc, hc, hgl, hbi, hdf, hcd⟩ := G.dr
  obtain ⟨fname, fqual, fpar, fbody, fscope, fglob, fclo, fdef, fkwd, fdoc, fmod, fann, fcode, fct, fbui⟩ := rd
  simp only at hb hp hsc hc hgl hbi hdf hcd
  subst hb hp hsc hc hgl hbi hdf
  refine fn_enter (args := ⟨[v, u], []⟩) H hroom G.gw.gr.lim (H.keep _ _ ho) hd (hcd.keeps H.keep) rfl (by show ∀ x ∈ (fnScope greatStmt).names, x.2 ≠ NameKind.cell; decide) ?_
  refine wpAny_of_eq (a := [(Str.ofString "one", v), (Str.ofString "two", u)]) rfl ?_
  refine ⟨_, H, ?_, fun L s₁ H₁ => ?_⟩
  · intro x hx
    simp only [List.mem_cons, List.not_mem_nil, or_false] at hx
    rcases hx with rfl | rfl <;> rfl
  obtain ⟨m0, h1, h2, H₂⟩ : ∃ m0, m0 (Str.ofString "one") = some v ∧ m0 (Str.ofString "two") = some u ∧ St base os₀ ((L, nsA m0) :: led) s₁ := ⟨_, rfl, rfl, H₁⟩
  clear H₁
  refine wpAny_execs_cons (wpAny_If (wpAny_isTrue_value (wpAny_Call_ofName (nm_b H₂ G.gw.gr.g G.gw.gr.b G.n7 G.b7 (callWith_builtin rfl (evalArgs_plain (spliced_cons (nm_l H₂ (.head _) h1 (spliced_cons (nm_b H₂ G.gw.gr.g G.gw.gr.b G.gw.n4 G.gw.b4 (spliced_nil (isi_str hv H₂ fun s₂ H₃ => wpAny_truthy_bool ?_))))))))))))
  have num : ∀ a b', l.num = some a → m.num = some b' → b = decide (a > b') → ∀ E', wpAny (model prog w) (A.deeper (greatEnv fname fqual fkwd fdoc fmod fann fcode fct L fR)) (execs ((fnBody greatStmt).drop 1) (greatEnv fname fqual fkwd fdoc fmod fann fcode fct L fR)) (fun fl s' => Q (match fl with | .ret v => v | _ => .none) s') E' s₂ := fun a b' ha hb' e E' => by
    refine wpAny_execs_cons (wpAny_Return_some (wpAny_Compare1 (wpAny_BinOp (nm_l H₃ (.head _) h1 (nm_l H₃ (.head _) h2 (sub_num hv hu ha hb' H₃ fun t3 s₃ H₄ => c_int H₄ fun t4 s₄ H₅ => PyProof.Rows.gt_int ?_))))))
    have := h s₄ (H₅.sub (.cons _ (.refl _)))
    rw [e] at this
    have ed : decide (a > b') = decide ((0 : Int) < a - b') := decide_eq_decide.mpr (by omega)
    rw [ed] at this; exact this
  cases l with
  | none => simp [Ln.gt, Ln.num] at hg
  | bool p =>
    refine ite_neg (fun q => Bool.noConfusion (show false = true from q)) (wpAny_execs_nil ?_)
    cases m with
    | none => simp [Ln.gt, Ln.num] at hg
    | str y => simp [Ln.gt, Ln.num] at hg
    | bool q => exact num _ _ rfl rfl (by simp only [Ln.gt, Ln.num, Option.some.injEq] at hg; exact hg.symm) _
    | int n => exact num _ _ rfl rfl (by simp only [Ln.gt, Ln.num, Option.some.injEq] at hg; exact hg.symm) _
  | int k =>
    refine ite_neg (fun q => Bool.noConfusion (show false = true from q)) (wpAny_execs_nil ?_)
    cases m with
    | none => simp [Ln.gt, Ln.num] at hg
    | str y => simp [Ln.gt, Ln.num] at hg
    | bool q => exact num _ _ rfl rfl (by simp only [Ln.gt, Ln.num, Option.some.injEq] at hg; exact hg.symm) _
    | int n => exact num _ _ rfl rfl (by simp only [Ln.gt, Ln.num, Option.some.injEq] at hg; exact hg.symm) _
  | str x =>
    obtain ⟨t, rfl⟩ := hv
    cases m with
    | none => simp [Ln.gt, Ln.num] at hg
    | bool q => simp [Ln.gt, Ln.num] at hg
    | int n => simp [Ln.gt, Ln.num] at hg
    | str y =>
      obtain ⟨t', rfl⟩ := hu
      simp only [Ln.gt, Option.some.injEq] at hg
      rw [← gtL_lt] at hg
      have lx : x.cps.toList.length = x.length := by simp [Str.length]
      have ly : y.cps.toList.length = y.length := by simp [Str.length]
      have zx : x.length ≤ 6 := hl.1
      have zy : y.length ≤ 6 := hm.1
      refine ite_pos rfl ?_
      refine wpAny_execs_cons (wpAny_Assign_Name (c_str H₃ fun t3 s₃ H₄ => st_g H₄ (fun _ => up_head) fun m₁ s₄ e₁ k₁ H₅ => ?_))
      have h1₁ := (k₁ (Str.ofString "one") (by decide)).trans h1
      have h2₁ := (k₁ (Str.ofString "two") (by decide)).trans h2
      refine wpAny_execs_cons (for_range (n := min x.length y.length) (base := base) (os₀ := os₀) (t1 := 0) (t := 0) (t2 := 0) (r := 0) (fun i ld => ∃ m₂, m₂ (Str.ofString "one") = some (.str x t) ∧ m₂ (Str.ofString "two") = some (.str y t') ∧ m₂ (Str.ofString "order") = some (.str (Str.ofString " 5m") t3) ∧
        b = gtL (x.cps.toList.drop i) (y.cps.toList.drop i) ∧ ld = (L, nsA m₂) :: led) hh (by omega) ?_ ?_ ?_)
      · refine wpAny_Call_ofName (nm_b H₅ G.gw.gr.g G.gw.gr.b G.n6 G.b6 (callWith_excType rfl (evalArgs_plain (spliced_cons (wpAny_Call_ofName (nm_b H₅ G.gw.gr.g G.gw.gr.b G.n9 G.b9 (callWith_builtin rfl (evalArgs_plain (spliced_cons (wpAny_Call_ofName (nm_b H₅ G.gw.gr.g G.gw.gr.b G.gw.n3 G.gw.b3 (callWith_builtin rfl (evalArgs_plain (spliced_cons (nm_l H₅ (.head _) h1₁ (spliced_nil (len_s H₅ (by omega) fun t4 s₅ H₆ =>
          spliced_cons (wpAny_Call_ofName (nm_b H₆ G.gw.gr.g G.gw.gr.b G.gw.n3 G.gw.b3 (callWith_builtin rfl (evalArgs_plain (spliced_cons (nm_l H₆ (.head _) h2₁ (spliced_nil (len_s H₆ (by omega) fun t5 s₆ H₇ => spliced_nil (min2 hh H₇ fun t6 s₇ H₈ => spliced_nil (r_new (n := min x.length y.length) H₈ fun rr s₈ H₉ => ?_)))))))))))))))))))))))))))
        obtain ⟨v1, v2, H₉⟩ := H₉
        exact ⟨rr, v1, t6, v2, _, rfl, H₉, m₁, h1₁, h2₁, e₁, hg.symm, rfl⟩
      · rintro I i v ld s₅ E' hi ⟨ti, rfl⟩ ⟨m₂, h1₂, h2₂, ho₂, hb₂, rfl⟩ H₆
        refine wpAny_assign_Name (st_g H₆ (fun _ => .tail .head) fun m₃ s₆ e₃ k₃ H₇ => ?_)
        have h1₃ := (k₃ (Str.ofString "one") (by decide)).trans h1₂
        have h2₃ := (k₃ (Str.ofString "two") (by decide)).trans h2₂
        have ho₃ := (k₃ (Str.ofString "order") (by decide)).trans ho₂
        have ix : i < x.cps.toList.length := by omega
        have iy : i < y.cps.toList.length := by omega
        have ex : x.cps.toList[i]? = some x.cps.toList[i] := List.getElem?_eq_getElem ix
        have ey : y.cps.toList[i]? = some y.cps.toList[i] := List.getElem?_eq_getElem iy
        have sx := hl.2 _ (List.getElem_mem ix)
        have sy := hm.2 _ (List.getElem_mem iy)
        rw [List.drop_eq_getElem_cons ix, List.drop_eq_getElem_cons iy] at hb₂
        generalize x.cps.toList[i] = c at ex sx hb₂
        generalize y.cps.toList[i] = d at ey sy hb₂
        refine wpAny_execs_cons (wpAny_If (wpAny_isTrue_Compare1 (Subscript_ (nm_l H₇ (.tail _ (.head _)) h1₃ (nm_l H₇ (.tail _ (.head _)) e₃ (item_s H₇ ex (by omega) fun t4 s₇ H₈ => Subscript_ (nm_l H₈ (.tail _ (.head _)) h2₃ (nm_l H₈ (.tail _ (.head _)) e₃ (item_s H₈ ey (by omega) fun t5 s₈ H₉ => EqBoolInt.of_rcne (SeqAt.RcNeAt.str_str _ _ _ _) (wpAny_truthy_bool ?_))))))))))
        have ecd : ((⟨#[c]⟩ : Str) == ⟨#[d]⟩) = decide (c = d) := by
          by_cases q : c = d
          · subst q; simp
          · rw [decide_eq_false q]
            refine beq_eq_false_iff_ne.mpr fun e => q ?_
            injection e with e
            have := congrArg (fun a : Array Nat => a[0]?) e
            simpa using this
        rw [ecd]
        by_cases q : c = d
        · subst q
          refine ite_neg (by simp) (wpAny_execs_nil (wpAny_execs_nil ?_))
          refine ⟨_, ⟨m₃, h1₃, h2₃, ho₃, ?_, rfl⟩, H₉⟩
          rw [hb₂]; show (if c = c then gtL _ _ else _) = _; rw [if_pos rfl]
        · refine ite_pos (by simp [q]) ?_
          refine wpAny_execs_cons (wpAny_Return_some (wpAny_Compare1 (methodCall_KW (nm_l H₉ (.tail _ (.head _)) ho₃ (PySem.GM.index (callWith_builtin rfl (evalArgs_plain (spliced_cons (Subscript_ (nm_l H₉ (.tail _ (.head _)) h1₃ (nm_l H₉ (.tail _ (.head _)) e₃ (item_s H₉ ex (by omega) fun t6 s₉ H₁₀ => spliced_nil (idx_call sx H₁₀ fun t7 s₁₀ H₁₁ =>
            methodCall_KW (nm_l H₁₁ (.tail _ (.head _)) ho₃ (PySem.GM.index (callWith_builtin rfl (evalArgs_plain (spliced_cons (Subscript_ (nm_l H₁₁ (.tail _ (.head _)) h2₃ (nm_l H₁₁ (.tail _ (.head _)) e₃ (item_s H₁₁ ey (by omega) fun t8 s₁₁ H₁₂ => spliced_nil (idx_call sy H₁₂ fun t9 s₁₂ H₁₃ => PyProof.Rows.gt_int ?_)))))))))))))))))))))))
          have := h s₁₂ (H₁₃.sub (.cons _ (.cons _ (.refl _))))
          rw [hb₂] at this
          unfold gtL at this
          rw [if_neg q] at this
          have ed : decide (d < c) = decide (((idxOf d : Nat) : Int) < ((idxOf c : Nat) : Int)) := decide_eq_decide.mpr (by rw [← idx_lt sx sy]; omega)
          rw [ed] at this; exact this
      · rintro ld s₅ ⟨m₂, h1₂, h2₂, ho₂, hb₂, rfl⟩ H₆
        refine wpAny_execs_cons (wpAny_Return_some (wpAny_Compare1 (wpAny_Call_ofName (nm_b H₆ G.gw.gr.g G.gw.gr.b G.gw.n3 G.gw.b3 (callWith_builtin rfl (evalArgs_plain (spliced_cons (nm_l H₆ (.head _) h1₂ (spliced_nil (len_s H₆ (by omega) fun t4 s₆ H₇ =>
          wpAny_Call_ofName (nm_b H₇ G.gw.gr.g G.gw.gr.b G.gw.n3 G.gw.b3 (callWith_builtin rfl (evalArgs_plain (spliced_cons (nm_l H₇ (.head _) h2₂ (spliced_nil (len_s H₇ (by omega) fun t5 s₇ H₈ => PyProof.Rows.gt_int ?_)))))))))))))))))
        have := h s₇ (H₈.sub (.cons _ (.refl _)))
        rw [hb₂] at this
        have eg : gtL (x.cps.toList.drop (min x.length y.length)) (y.cps.toList.drop (min x.length y.length)) = decide (((y.length : Nat) : Int) < ((x.length : Nat) : Int)) := by
          by_cases q : x.length ≤ y.length
          · rw [show min x.length y.length = x.length by omega, List.drop_eq_nil_of_le (by omega)]
            have : gtL [] (y.cps.toList.drop x.length) = decide ((y.cps.toList.drop x.length).length < ([] : List Nat).length) := by
              cases y.cps.toList.drop x.length <;> rfl
            rw [this]
            exact decide_eq_decide.mpr (by rw [List.length_drop, List.length_nil]; omega)
          · rw [show min x.length y.length = y.length by omega, List.drop_eq_nil_of_le (as := y.cps.toList) (by omega)]
            have : gtL (x.cps.toList.drop y.length) [] = decide (([] : List Nat).length < (x.cps.toList.drop y.length).length) := by
              cases x.cps.toList.drop y.length <;> rfl
            rw [this]
            exact decide_eq_decide.mpr (by rw [List.length_drop, List.length_nil]; omega)
        rw [eg] at this; exact this
end
end Mine

namespace Mine
open PySem PySem.W PyProof.Rows PySem.Calls PySem.Spec
/-- what is due: none is a refusal -/
def dueI (ls : List Ln) : Option Int := match maxL none ls with
  | none => none
  | some none => some 0
  | some (some l) => some (wOf ls l)
def tryBody : Stmt → List Stmt | .Try b _ _ _ _ => b | _ => []
abbrev askEnv (fname fqual : Str) (fkwd fdoc fmod : Value) (fann : Option Addr) (fcode fct : Value) (L fF : Addr) : Env :=
  callEnv { name := fname, qualname := fqual, params := fnPar askStmt, body := .stmts (fnBody askStmt), scope := fnScope askStmt, globals := mainGlobals, closure := [], defaults := .none, kwdefaults := fkwd, doc := fdoc, pyModule := fmod, annotations := fann, code := fcode, closureTuple := fct, builtins := builtinsNs } L fF
section
variable {prog : Program} {w : World} {A : Around} {E : Value → Shared → Prop} {s : Shared} {base : Heap} {os₀ : OsState} {led : Led} {mg mb : Str → Option Value} {fW fR fU fK d : Addr} {wd rd ud kd : FuncData} {K : Type} [DecidableEq K] {knd : KeyKind prog w K} {kvs : List (K × Value)} {ls : List Ln} {fs : List Env}
theorem ask2_ok {Q : Value → Shared → Prop} (G : G2 base mg mb fW fR fU fK wd rd ud kd) (hroom : A.depth + 3 < recursionLimit) (hh : A.handled = none) (hfr : A.frames = some fs) (hF : FramesOk led fs) (hV : VL kvs ls) (hok : ∀ l ∈ ls, l.ok)
    (H : St base os₀ ((d, dctA knd kvs) :: led) s)
    (h1 : ∀ n t s', dueI ls = some n → St base os₀ ((d, dctA knd kvs) :: led) s' → Q (.int n t) s') (h2 : ∀ t s', dueI ls = none → St base os₀ ((d, dctA knd kvs) :: led) s' → Q (.str (Str.ofString "refused") t) s') :
    wpAny (model prog w) A (call (.ref fK) [.ref d] []) Q E s := by
  obtain ⟨oW, hoW, hdW⟩ := G.gw.dw.obj
  have hWs := G.gw.dw.scope
  obtain ⟨⟨o, ho, hd⟩, hb, hp, hsc, hc, hgl, hbi, hdf, hcd⟩ := G.dk
  obtain ⟨fname, fqual, fpar, fbody, fscope, fglob, fclo, fdef, fkwd, fdoc, fmod, fann, fcode, fct, fbui⟩ := kd
  simp only at hb hp hsc hc hgl hbi hdf hcd
  subst hb hp hsc hc hgl hbi hdf
  refine fn_enter (args := ⟨[.ref d], []⟩) H (by omega) G.gw.gr.lim (H.keep _ _ ho) hd (hcd.keeps H.keep) rfl (by show ∀ x ∈ (fnScope askStmt).names, x.2 ≠ NameKind.cell; decide) ?_
  refine wpAny_of_eq (a := [(Str.ofString "table", .ref d)]) rfl ?_
  refine ⟨_, H, ?_, fun L s₁ H₁ => ?_⟩
  · intro x hx
    simp only [List.mem_cons, List.not_mem_nil, or_false] at hx
    subst hx; rfl
  obtain ⟨m, hm, H₂⟩ : ∃ m, m (Str.ofString "table") = some (.ref d) ∧ St base os₀ ((d, dctA knd kvs) :: (L, nsA m) :: led) s₁ := ⟨_, rfl, H₁.perm (.swap ..)⟩
  clear H₁
  have hfr₁ : (A.deeper (askEnv fname fqual fkwd fdoc fmod fann fcode fct L fK)).frames = some (askEnv fname fqual fkwd fdoc fmod fann fcode fct L fK :: fs) := Around.frames_deeper hfr
  have hF₁ : FramesOk ((d, dctA knd kvs) :: (L, nsA m) :: led) (askEnv fname fqual fkwd fdoc fmod fann fcode fct L fK :: fs) := FramesOk.cons (hF.mono fun p hp => .tail _ (.tail _ hp)) (by intro q; cases q) rfl (.tail _ (.head _))
  refine wpAny_execs_cons (wpAny_Try_except (wpAny_execs_cons (wpAny_Assign_Name (wpAny_Call_ofName (nm_g H₂ G.gw.gr.g G.gw.hw (callWith_fn (evalArgs_plain (spliced_cons (nm_l H₂ (.tail _ (.head _)) hm (spliced_nil ⟨⟨oW, wd, H₂.keep _ _ hoW, hdW⟩, ?_⟩))))))))))
  have good : ∀ n t s', dueI ls = some n → St base os₀ ((d, dctA knd kvs) :: (L, nsA m) :: led) s' → ∀ (QQ : Flow → Shared → Prop) E', (∀ s'', Q (.int n t) s'' → QQ (.ret (.int n t)) s'') →
      wpAny (model prog w) (A.deeper (askEnv fname fqual fkwd fdoc fmod fann fcode fct L fK)) (storeName (askEnv fname fqual fkwd fdoc fmod fann fcode fct L fK) (Str.ofString "width") (.int n t)) (fun _ s'' => wpAny (model prog w) (A.deeper (askEnv fname fqual fkwd fdoc fmod fann fcode fct L fK)) (execs ((tryBody (nth 0 (fnBody askStmt))).drop 1) (askEnv fname fqual fkwd fdoc fmod fann fcode fct L fK)) QQ E' s'') E' s' := fun n t s' e H₃ QQ E' hQ => by
    refine st_g H₃ (fun _ => .tail .head) fun m₁ s₃ e₁ k₁ H₄ => ?_
    refine wpAny_execs_cons (wpAny_If (wpAny_isTrue_value (wpAny_Call_ofName (nm_b H₄ G.gw.gr.g G.gw.gr.b G.n7 G.b7 (callWith_builtin rfl (evalArgs_plain (spliced_cons (nm_l H₄ (.tail _ (.head _)) e₁ (spliced_cons (nm_b H₄ G.gw.gr.g G.gw.gr.b G.n10 G.b10 (spliced_nil (PySem.IsiPair.int_bool (wpAny_truthy_bool (ite_neg (by decide) (wpAny_execs_nil ?_)))))))))))))))
    have H₅ : St base os₀ _ { s₃ with toks := s₃.toks + 1 } := H₄.tok
    refine wpAny_execs_cons (wpAny_Return_some (nm_l H₅ (.tail _ (.head _)) e₁ (hQ _ (h1 n t _ e (H₅.sub (.cons_cons _ (.cons _ (.refl _))))))))
  refine gln_ok G.gw (by show A.depth + 1 < _; omega) hh hV (fun l hl => (hok l hl).fits) (fun env => cmp_all hh) H₂ (fun l t s₂ e H₃ => ?_) (fun t s₂ e H₃ => ?_) fun env e L' m' s₂ q he H₃ => ?_
  · exact good (wOf ls l) t s₂ (by unfold dueI; rw [e]) H₃ _ _ fun s'' hq => hq
  · exact good 0 t s₂ (by unfold dueI; rw [e]) H₃ _ _ fun s'' hq => hq
  · subst he
    have hf₂ : FramesOk ((L', nsA m') :: (d, dctA knd kvs) :: (L, nsA m) :: led) (callEnv wd L' fW :: askEnv fname fqual fkwd fdoc fmod fann fcode fct L fK :: fs) :=
      FramesOk.cons (hF₁.mono fun p hp => .tail _ hp) (by show wd.scope.kind ≠ _; rw [hWs]; intro q; cases q) rfl (.head _)
    refine leave0 (L := L') H₃ (Around.frames_deeper hfr₁) hf₂ (.head _) rfl fun s₃ F₁ => ?_
    have F₂ : Fly base os₀ ((d, dctA knd kvs) :: (L, nsA m) :: led) e "TypeError" s₃ := by
      obtain ⟨tb, Hf⟩ := F₁
      exact ⟨tb, Hf.sub (.cons_cons _ (.cons_cons _ (.cons _ (.refl _))))⟩
    refine note1 (L := L) F₂ hfr₁ hF₁ (.head _) rfl fun s₄ F₃ => flight F₃ fun s₅ F₄ => ?_
    obtain ⟨tb, F₅⟩ := F₄
    have ty : s₅.TypeIs (.ref e) "TypeError" := by obtain ⟨o, ho, hc, _⟩ := F₅.get (.head _); exact ⟨o, ho, hc⟩
    refine wpAny_handleBy_builtin (X := "TypeError") (T := "TypeError") (b := true) (by rw [isSubtype_type]; kernel_rfl) (by rw [isSubtype_type]; kernel_rfl) (by rw [isSubtype_type]; kernel_rfl) (nm_b F₅ G.gw.gr.g G.gw.gr.b G.n11 G.b11 ⟨rfl, ty, ite_pos rfl (flight ⟨tb, F₅⟩ fun s₆ F₆ => ?_)⟩)
    obtain ⟨tb', F₇⟩ := F₆
    have H₄ : St base os₀ ((d, dctA knd kvs) :: (L, nsA m) :: led) s₆ := F₇.sub (.cons _ (.cons _ (.refl _)))
    refine wpAny_execs_cons (wpAny_Return_some (c_str H₄ fun t s₇ H₅ => h2 t s₇ (by unfold dueI; rw [q]) (H₅.sub (.cons_cons _ (.cons _ (.refl _))))))
end
end Mine

namespace Mine
open PySem PySem.W PyProof.Rows PySem.Calls PySem.Spec
/-! the plain law -/
def isT (l : Ln) : Bool := l.isStr && l.yes
def isN (l : Ln) : Bool := l.num.isSome && l.yes
def maxF : Option Ln → List Ln → Option (Option Ln)
  | b, [] => some b
  | none, l :: r => maxF (some l) r
  | some m, l :: r => match l.gt m with
    | none => none
    | some true => maxF (some l) r
    | some false => maxF (some m) r
theorem maxL_F : ∀ (ls : List Ln) (b : Option Ln), maxL b ls = maxF b (ls.filter Ln.yes)
  | [], b => by cases b <;> rfl
  | l :: r, b => by
    unfold maxL
    cases hy : l.yes with
    | false => rw [List.filter_cons_of_neg (by rw [hy]; decide)]; simp only [Bool.false_eq_true, if_false]; exact maxL_F r b
    | true =>
      rw [List.filter_cons_of_pos hy]
      simp only [if_true]
      cases b with
      | none => exact maxL_F r (some l)
      | some m =>
        show (match l.gt m with | none => none | some true => maxL (some l) r | some false => maxL (some m) r) = match l.gt m with | none => none | some true => maxF (some l) (r.filter Ln.yes) | some false => maxF (some m) (r.filter Ln.yes)
        cases l.gt m with
        | none => rfl
        | some bb => cases bb <;> exact maxL_F r _
def bestL : Option Ln → List Ln → Option Ln
  | b, [] => b
  | none, l :: r => bestL (some l) r
  | some m, l :: r => match l.gt m with
    | some true => bestL (some l) r
    | _ => bestL (some m) r
theorem yes_kind {l : Ln} (h : l.yes = true) : isT l = true ∧ l.num = none ∨ isN l = true ∧ l.isStr = false := by
  cases l with
  | none => cases h
  | bool b => exact .inr ⟨by unfold isN; rw [h]; rfl, rfl⟩
  | str x => exact .inl ⟨by unfold isT; rw [h]; rfl, rfl⟩
  | int n => exact .inr ⟨by unfold isN; rw [h]; rfl, rfl⟩
theorem gt_same {l m : Ln} (hl : l.yes = true) (hm : m.yes = true) : (l.gt m).isSome = true ↔ l.isStr = m.isStr := by
  cases l <;> cases m <;> first | (cases hl; done) | (cases hm; done) | (simp [Ln.gt, Ln.num, Ln.isStr])
theorem maxF_same : ∀ (L : List Ln) (m : Ln), m.yes = true → (∀ l ∈ L, l.yes = true ∧ l.isStr = m.isStr) → maxF (some m) L = some (bestL (some m) L)
  | [], m, _, _ => rfl
  | l :: r, m, hm, h => by
    obtain ⟨hl, hk⟩ := h l (.head _)
    have hs := (gt_same hl hm).mpr hk
    unfold maxF bestL
    cases hg : l.gt m with
    | none => rw [hg] at hs; cases hs
    | some b =>
      cases b with
      | true => exact maxF_same r l hl fun x hx => ⟨(h x (.tail _ hx)).1, (h x (.tail _ hx)).2.trans hk.symm⟩
      | false => exact maxF_same r m hm fun x hx => h x (.tail _ hx)
theorem maxF_mixed : ∀ (L : List Ln) (m : Ln), m.yes = true → (∀ l ∈ L, l.yes = true) → (∃ l ∈ L, l.isStr ≠ m.isStr) → maxF (some m) L = none
  | [], m, _, _, h => by obtain ⟨_, hx, _⟩ := h; cases hx
  | l :: r, m, hm, hy, h => by
    have hl := hy l (.head _)
    have hr : ∀ x ∈ r, x.yes = true := fun x hx => hy x (.tail _ hx)
    unfold maxF
    cases hg : l.gt m with
    | none => rfl
    | some b =>
      have hk : l.isStr = m.isStr := (gt_same hl hm).mp (by rw [hg]; rfl)
      have hex : ∃ x ∈ r, x.isStr ≠ m.isStr := by
        obtain ⟨x, hx, hn⟩ := h
        rcases List.mem_cons.mp hx with rfl | hx
        · exact absurd hk hn
        · exact ⟨x, hx, hn⟩
      cases b with
      | true => exact maxF_mixed r l hl hr (by obtain ⟨x, hx, hn⟩ := hex; exact ⟨x, hx, fun e => hn (e.trans hk)⟩)
      | false => exact maxF_mixed r m hm hr hex
theorem isT_yes {l : Ln} (h : isT l = true) : l.yes = true ∧ l.isStr = true := by
  unfold isT at h; rw [Bool.and_eq_true] at h; exact ⟨h.2, h.1⟩
theorem isN_yes {l : Ln} (h : isN l = true) : l.yes = true ∧ l.isStr = false := by
  unfold isN at h; rw [Bool.and_eq_true] at h
  refine ⟨h.2, ?_⟩
  cases l <;> first | rfl | (cases h.1)
/-- the two lists, one behind the other -/
theorem split_ok (ls : List Ln) : (ls.filter isT ≠ [] ∧ ls.filter isN ≠ [] ∧ maxL none ls = none) ∨
    ((ls.filter isT = [] ∨ ls.filter isN = []) ∧ maxL none ls = some (bestL none (ls.filter isT ++ ls.filter isN)) ∧ ∀ x ∈ ls.filter isT ++ ls.filter isN, ∀ z ∈ ls.filter isT ++ ls.filter isN, x.isStr = z.isStr) := by
  rw [maxL_F]
  have hall : ∀ l ∈ ls.filter Ln.yes, l.yes = true := fun l hl => (List.mem_filter.mp hl).2
  have onlyT : ls.filter isN = [] → ls.filter isT = ls.filter Ln.yes := fun h => by
    refine List.filter_congr fun l hl => ?_
    rw [List.filter_eq_nil_iff] at h
    cases hy : l.yes with
    | false => unfold isT; rw [hy, Bool.and_false]
    | true =>
      rcases yes_kind hy with ⟨a, _⟩ | ⟨a, _⟩
      · exact a
      · exact absurd a (h l hl)
  have onlyN : ls.filter isT = [] → ls.filter isN = ls.filter Ln.yes := fun h => by
    refine List.filter_congr fun l hl => ?_
    rw [List.filter_eq_nil_iff] at h
    cases hy : l.yes with
    | false => unfold isN; rw [hy, Bool.and_false]
    | true =>
      rcases yes_kind hy with ⟨a, _⟩ | ⟨a, _⟩
      · exact absurd a (h l hl)
      · exact a
  have one : ∀ L : List Ln, (∀ l ∈ L, l.yes = true) → (∀ x ∈ L, ∀ z ∈ L, x.isStr = z.isStr) → maxF none L = some (bestL none L) := fun L h1 h2 => by
    cases L with
    | nil => rfl
    | cons l r => exact maxF_same r l (h1 l (.head _)) fun x hx => ⟨h1 x (.tail _ hx), h2 x (.tail _ hx) l (.head _)⟩
  by_cases hT : ls.filter isT = []
  · right
    have e := onlyN hT
    rw [hT, List.nil_append, e]
    have hk : ∀ x ∈ ls.filter Ln.yes, ∀ z ∈ ls.filter Ln.yes, x.isStr = z.isStr := by
      rw [← e]
      intro x hx z hz
      rw [(isN_yes (List.mem_filter.mp hx).2).2, (isN_yes (List.mem_filter.mp hz).2).2]
    exact ⟨.inl rfl, one _ hall hk, hk⟩
  · by_cases hN : ls.filter isN = []
    · right
      have e := onlyT hN
      rw [hN, List.append_nil, e]
      have hk : ∀ x ∈ ls.filter Ln.yes, ∀ z ∈ ls.filter Ln.yes, x.isStr = z.isStr := by
        rw [← e]
        intro x hx z hz
        rw [(isT_yes (List.mem_filter.mp hx).2).2, (isT_yes (List.mem_filter.mp hz).2).2]
      exact ⟨.inr rfl, one _ hall hk, hk⟩
    · left
      refine ⟨hT, hN, ?_⟩
      obtain ⟨a, ha⟩ := List.exists_mem_of_ne_nil _ hT
      obtain ⟨b, hb⟩ := List.exists_mem_of_ne_nil _ hN
      obtain ⟨ya, sa⟩ := isT_yes (List.mem_filter.mp ha).2
      obtain ⟨yb, sb⟩ := isN_yes (List.mem_filter.mp hb).2
      have ma : a ∈ ls.filter Ln.yes := List.mem_filter.mpr ⟨(List.mem_filter.mp ha).1, ya⟩
      have mb : b ∈ ls.filter Ln.yes := List.mem_filter.mpr ⟨(List.mem_filter.mp hb).1, yb⟩
      cases hL : ls.filter Ln.yes with
      | nil => rw [hL] at ma; cases ma
      | cons l r =>
        rw [hL] at ma mb hall
        refine maxF_mixed r l (hall l (.head _)) (fun x hx => hall x (.tail _ hx)) ?_
        cases hs : l.isStr with
        | true =>
          rcases List.mem_cons.mp mb with rfl | mb
          · rw [hs] at sb; cases sb
          · exact ⟨b, mb, by rw [sb]; decide⟩
        | false =>
          rcases List.mem_cons.mp ma with rfl | ma
          · rw [hs] at sa; cases sa
          · exact ⟨a, ma, by rw [sa]; decide⟩
theorem bestL_snoc : ∀ (L : List Ln) (b : Option Ln) (l : Ln), bestL b (L ++ [l]) = match bestL b L with
    | none => some l
    | some m => match l.gt m with | some true => some l | _ => some m
  | [], none, l => rfl
  | [], some m, l => by
    simp only [List.nil_append, bestL]
  | x :: r, none, l => bestL_snoc r (some x) l
  | x :: r, some m, l => by
    simp only [List.cons_append, bestL]
    split <;> exact bestL_snoc r _ l
theorem bestL_mem : ∀ (L : List Ln) (b : Option Ln) (l : Ln), bestL b L = some l → l ∈ L ∨ b = some l
  | [], b, l, h => .inr h
  | x :: r, none, l, h => by
    rcases bestL_mem r (some x) l h with q | q
    · exact .inl (.tail _ q)
    · cases q; exact .inl (.head _)
  | x :: r, some m, l, h => by
    simp only [bestL] at h
    split at h
    · rcases bestL_mem r _ l h with q | q
      · exact .inl (.tail _ q)
      · cases q; exact .inl (.head _)
    · rcases bestL_mem r _ l h with q | q
      · exact .inl (.tail _ q)
      · exact .inr q
/-! the digits of a number -/
def ndig (k : Nat) : Nat := if h : k = 0 then 0 else 1 + ndig (k / 10)
  termination_by k
  decreasing_by omega
theorem ndig_le : ∀ (j k : Nat), ndig k ≤ j ↔ k < 10 ^ j
  | 0, k => by
    unfold ndig
    split
    · rename_i h; subst h; simp
    · simp; omega
  | j + 1, k => by
    rw [ndig]
    split
    · rename_i h; subst h
      exact ⟨fun _ => Nat.pow_pos (by decide), fun _ => Nat.zero_le _⟩
    · have ih := ndig_le j (k / 10)
      rw [Nat.pow_succ]
      constructor
      · intro h
        have := ih.mp (by omega)
        exact Nat.div_lt_iff_lt_mul (by decide) |>.mp this
      · intro h
        have : k / 10 < 10 ^ j := Nat.div_lt_iff_lt_mul (by decide) |>.mpr h
        have := ih.mpr this
        omega
theorem ndig_repr {k : Nat} (h : k ≠ 0) : ndig k = k.repr.length := by
  have h1 : 0 < ndig k := by unfold ndig; rw [dif_neg h]; omega
  have h2 : 0 < k.repr.length := Nat.length_repr_pos
  apply Nat.le_antisymm
  · exact (ndig_le _ k).mpr ((Nat.length_repr_le_iff h2).mp (Nat.le_refl _))
  · exact (Nat.length_repr_le_iff h1).mpr ((ndig_le _ k).mp (Nat.le_refl _))
theorem dlen_ndig {n : Int} (h : n ≠ 0) : dlen n = (if n < 0 then 1 else 0) + ndig n.natAbs := by
  rw [ndig_repr (by omega)]
  cases n with
  | ofNat m => rw [show dlen (Int.ofNat m) = m.repr.length from dlen_ofNat m, if_neg (by have : (0 : Int) ≤ Int.ofNat m := Int.natCast_nonneg m; omega)]; simp
  | negSucc m => rw [dlen_negSucc, if_pos (Int.negSucc_lt_zero m)]; simp [Int.natAbs]; omega
end Mine

namespace Mine
open PySem PySem.W PyProof.Rows PySem.Calls PySem.Spec
/-- values that are lines -/
def LVs (vs : List Value) (ls : List Ln) : Prop := vs.length = ls.length ∧ ∀ (i : Nat) (l : Ln), ls[i]? = some l → ∃ v, vs[i]? = some v ∧ LnV l v
theorem LVs.snoc {vs : List Value} {ls : List Ln} (h : LVs vs ls) {v : Value} {l : Ln} (hv : LnV l v) : LVs (vs ++ [v]) (ls ++ [l]) := by
  refine ⟨by simp [h.1], fun i l' e => ?_⟩
  by_cases hi : i < ls.length
  · rw [List.getElem?_append_left hi] at e
    rw [List.getElem?_append_left (by rw [h.1]; exact hi)]
    exact h.2 i l' e
  · rw [List.getElem?_append_right (by omega)] at e
    rw [List.getElem?_append_right (by rw [h.1]; omega), h.1]
    have : i - ls.length = 0 := by
      rcases Nat.eq_zero_or_pos (i - ls.length) with q | q
      · exact q
      · rw [List.getElem?_eq_none (by simp; omega)] at e; cases e
    rw [this] at e ⊢
    simp at e; subst e
    exact ⟨v, rfl, hv⟩
theorem LVs.app {vs us : List Value} {ls ms : List Ln} (h : LVs vs ls) (h' : LVs us ms) : LVs (vs ++ us) (ls ++ ms) := by
  refine ⟨by simp [h.1, h'.1], fun i l' e => ?_⟩
  by_cases hi : i < ls.length
  · rw [List.getElem?_append_left hi] at e
    rw [List.getElem?_append_left (by rw [h.1]; exact hi)]
    exact h.2 i l' e
  · rw [List.getElem?_append_right (by omega)] at e
    rw [List.getElem?_append_right (by rw [h.1]; omega), h.1]
    exact h'.2 _ _ e
theorem LVs.nil : LVs [] [] := ⟨rfl, fun i l e => by simp at e⟩
theorem filt_snoc (p : Ln → Bool) (ls : List Ln) {i : Nat} {l : Ln} (h : ls[i]? = some l) : (ls.take (i + 1)).filter p = (ls.take i).filter p ++ (if p l = true then [l] else []) := by
  rw [List.take_add_one, h, List.filter_append]
  congr 1
  cases hp : p l <;> simp [hp]
/-- the pairs, as tuples of the ledger -/
def PT (pv : List Value) (kvs : List (Int × Value)) (led : Led) : Prop := pv.length = kvs.length ∧ ∀ (i : Nat) (p : Int) (v : Value), kvs[i]? = some (p, v) → ∃ a t, pv[i]? = some (.ref a) ∧ (a, tupA [.int p t, v]) ∈ led
theorem PT.mono {pv : List Value} {kvs : List (Int × Value)} {led led' : Led} (h : PT pv kvs led) (hs : ∀ x ∈ led, x ∈ led') : PT pv kvs led' := ⟨h.1, fun i p v e => by obtain ⟨a, t, h1, h2⟩ := h.2 i p v e; exact ⟨a, t, h1, hs _ h2⟩⟩
abbrev dueEnv (fname fqual : Str) (fkwd fdoc fmod : Value) (fann : Option Addr) (fcode fct : Value) (L fF : Addr) : Env :=
  callEnv { name := fname, qualname := fqual, params := fnPar dueStmt, body := .stmts (fnBody dueStmt), scope := fnScope dueStmt, globals := mainGlobals, closure := [], defaults := .none, kwdefaults := fkwd, doc := fdoc, pyModule := fmod, annotations := fann, code := fcode, closureTuple := fct, builtins := builtinsNs } L fF
section
variable {prog : Program} {w : World} {A : Around} {E : Value → Shared → Prop} {s : Shared} {base : Heap} {os₀ : OsState} {led : Led} {mg mb : Str → Option Value} {fW fR fU fK p l L : Addr} {wd rd ud kd : FuncData} {kvs : List (Int × Value)} {pv vs : List Value} {ls : List Ln} {m : Str → Option Value} {env : Env}
  {fname fqual : Str} {fkwd fdoc fmod : Value} {fann : Option Addr} {fcode fct : Value} {Q : Flow → Shared → Prop}
/-- the body of [line for line in lines if cond] -/
theorem filt_body {x : Str} {px px' : Pos} {cond : Expr} {scope : Scope} {pf : Ln → Bool} {F : Addr → List Value → Led → Prop} (hh : A.handled = none) (hV : LVs vs ls) (hlen : vs.length ≤ 100) (hkind : scope.kind = .function) (hx : scope.names.lookup x = some .local) (hd : (x == ("__debug__" : Str)) = false)
    (H : St base os₀ ((l, lstA vs) :: led) s)
    (hcond : ∀ C mC ln v rest s Q' E', ln ∈ ls → LnV ln v → mC x = some v → St base os₀ ((C, nsA mC) :: rest) s → (∀ s', St base os₀ ((C, nsA mC) :: rest) s' → Q' (pf ln) s') → wpAny (model prog w) A (isTrue cond (compEnvC scope [] C env) (eval cond (compEnvC scope [] C env))) Q' E' s)
    (fin : ∀ D ys, LVs ys (ls.filter pf) → F D ys ((l, lstA vs) :: led)) :
    CompBody prog w A base os₀ (.Name x px) (.Name x px') [cond] (fun C => compEnvC scope [] C env) (fun C => varL C x) F (.ref s.heap.objs.size) { s with heap := s.heap.push { cls := .type "list_iterator", data := .fields #[.ref l, .int 0 0] } } := by
  refine ⟨s.heap.objs.size, vs.length, _, itA l, [(l, lstA vs)], led, fun i ys led' => LVs ys ((ls.take i).filter pf) ∧ led' = led, rfl, Iter.list hh, Nat.le_trans hlen (by decide), H.push (tk := s.toks) rfl ⟨rfl, rfl⟩, ⟨LVs.nil, rfl⟩, ?_, ?_⟩
  · rintro C D i v ys vl led' s₁ E' hi hv ⟨hys, rfl⟩ ⟨mC, rfl, hmC⟩ H₁
    have hk := hmC _ rfl
    have hil : i < ls.length := by rw [← hV.1]; exact hi
    obtain ⟨v', hv', hln⟩ := hV.2 i ls[i] (List.getElem?_eq_getElem hil)
    rw [hv] at hv'
    cases hv'
    have hsucc := filt_snoc pf ls (List.getElem?_eq_getElem hil)
    refine wpAny_tests_one (hcond C mC ls[i] v _ s₁ _ _ (List.getElem_mem hil) hln hk H₁ fun s₂ H₂ => ?_)
    cases hp : pf ls[i] with
    | true =>
      refine ite_pos rfl (nm_l (env := compEnvC scope [] C env) H₂ (.head _) hk ⟨_, ⟨?_, rfl⟩, H₂⟩ hkind (lookup_relabel_local hx) hd)
      rw [hsucc, if_pos hp]; exact hys.snoc hln
    | false =>
      refine ite_neg (by decide) ⟨_, ⟨?_, rfl⟩, H₂⟩
      rw [hsucc, if_neg (by rw [hp]; decide), List.append_nil]; exact hys
  · rintro D ys led' ⟨hys, rfl⟩ hl'
    rw [hV.1, List.take_length] at hys
    exact fin D ys hys
/-- lines = [line for place, line in pairs] -/
theorem due_lines (hh : A.handled = none) (hP : PT pv kvs led) (hV : VL kvs ls) (hlen : pv.length ≤ 100) (hm : m (Str.ofString "pairs") = some (.ref p))
    (H : St base os₀ ((p, lstA pv) :: (L, nsA m) :: led) s)
    (h : ∀ ll vl m' s', LVs vl ls → m' (Str.ofString "lines") = some (.ref ll) → (∀ y, y ≠ Str.ofString "lines" → m' y = m y) → St base os₀ ((ll, lstA vl) :: (L, nsA m') :: (p, lstA pv) :: led) s' →
      wpAny (model prog w) A (execs ((fnBody dueStmt).drop 1) (dueEnv fname fqual fkwd fdoc fmod fann fcode fct L fU)) Q E s') :
    wpAny (model prog w) A (execs (fnBody dueStmt) (dueEnv fname fqual fkwd fdoc fmod fann fcode fct L fU)) Q E s := by
  refine wpAny_execs_cons (comp_pairs (base := base) (os₀ := os₀) (l := p) (vs := pv) hh rfl (by decide) rfl (by decide) rfl rfl rfl (Nat.le_trans hlen (by decide)) (fun i ys led' => LVs ys (ls.take i) ∧ led' = (L, nsA m) :: led) ?_)
  refine nm_l H (.tail _ (.head _)) hm ⟨_, rfl, H, ⟨LVs.nil, rfl⟩, ?_, ?_⟩
  · rintro i ys led' hi ⟨hys, rfl⟩
    have hik : i < kvs.length := by rw [← hP.1]; exact hi
    have hil : i < ls.length := by rw [← hV.1]; exact hik
    obtain ⟨k, v, hkv, hln⟩ := hV.2 i ls[i] (List.getElem?_eq_getElem hil)
    obtain ⟨a, t, h1, h2⟩ := hP.2 i k v hkv
    refine ⟨a, .int k t, v, h1, .tail _ h2, fun C mC rest s₁ E' hmC H₁ => nm_l H₁ (.head _) hmC ⟨H₁, ?_, rfl⟩⟩
    rw [List.take_add_one, List.getElem?_eq_getElem hil]
    exact hys.snoc hln
  · rintro D ys led' vl s₁ ⟨hys, rfl⟩ ⟨C, mC, vr, rfl⟩ H₁
    rw [hP.1, hV.1, List.take_length] at hys
    have hup : ∀ (vl : Led) (m' : Str → Option Value), Up L (nsA m) (nsA m') (vl ++ ((D, lstA ys) :: (p, lstA pv) :: (L, nsA m) :: led)) (vl ++ ((D, lstA ys) :: (p, lstA pv) :: (L, nsA m') :: led)) := fun vl m' => by
      induction vl with
      | nil => exact .tail (.tail .head)
      | cons q r ih => exact .tail ih
    refine st_g H₁ (hup _) fun m' s₂ e₁ k₁ H₂ => ⟨_, H₂, fun s₃ H₃ => h D ys m' s₃ hys e₁ k₁ (H₃.perm ?_)⟩
    repeat (first | exact List.Perm.refl _ | refine Pick.perm (by (repeat (first | exact Pick.head | apply Pick.tail))) ?_)
theorem str_eq_nil (x : Str) : (x == Str.ofString "") = decide (x.length = 0) := by
  by_cases h : x.length = 0
  · rw [decide_eq_true h]
    obtain ⟨a⟩ := x
    have : a = #[] := by simpa [Str.length] using h
    subst this; decide
  · rw [decide_eq_false h]
    exact beq_eq_false_iff_ne.mpr fun e => h (by rw [e]; decide)
/-- none, texts, numbers -/
theorem due_filters {ll : Addr} {vl : List Value} (G : G2 base mg mb fW fR fU fK wd rd ud kd) (hh : A.handled = none) (hu : A.units + 64 < cLine) (hV : LVs vl ls) (hlen : vl.length ≤ 100) (hm : m (Str.ofString "lines") = some (.ref ll))
    (H : St base os₀ ((ll, lstA vl) :: (L, nsA m) :: led) s)
    (h : ∀ tx nx vt vn m' s', LVs vt (ls.filter isT) → LVs vn (ls.filter isN) → m' (Str.ofString "none") = some (.bool (ls.any Ln.isNone)) → m' (Str.ofString "texts") = some (.ref tx) → m' (Str.ofString "numbers") = some (.ref nx) →
      St base os₀ ((tx, lstA vt) :: (nx, lstA vn) :: (L, nsA m') :: led) s' → wpAny (model prog w) A (execs ((fnBody dueStmt).drop 4) (dueEnv fname fqual fkwd fdoc fmod fann fcode fct L fU)) Q E s') :
    wpAny (model prog w) A (execs ((fnBody dueStmt).drop 1) (dueEnv fname fqual fkwd fdoc fmod fann fcode fct L fU)) Q E s := by
  refine wpAny_execs_cons (wpAny_Assign_Name (wpAny_Compare1 (comp_expr (base := base) (os₀ := os₀) (cl := []) (V := fun C => varL C (Str.ofString "line")) (mk := fun C => compEnvC _ [] C _) rfl (env_loc (by decide) rfl) (fun C => Var.loc rfl rfl) ?_ rfl (by decide))))
  refine nm_l H (.tail _ (.head _)) hm (wpAny_pyIter_list (H.isList (.head _)) ?_)
  refine filt_body (pf := Ln.isNone) hh hV hlen rfl rfl (by decide) H (fun C mC ln v rest s₁ Q' E' _ hln hk H₁ hq => ?_) fun D ys hys s₁ H₁ => ?_
  · refine wpAny_isTrue_Compare1 (nm_l H₁ (.head _) hk (wpAny_Constant_none (is_none (wpAny_truthy_bool ?_))))
    have := hq s₁ H₁
    cases ln with
    | none => cases hln; exact this
    | bool b => cases hln; exact this
    | str x => obtain ⟨t, rfl⟩ := hln; exact this
    | int n => obtain ⟨t, rfl⟩ := hln; exact this
  refine List_ (wpAny_items_nil (new_list H₁ fun e s₂ H₂ => ?_))
  have cont : wpAny (model prog w) A (storeName (dueEnv fname fqual fkwd fdoc fmod fann fcode fct L fU) (Str.ofString "none") (.bool (ls.any Ln.isNone))) (fun _ s' => wpAny (model prog w) A (execs ((fnBody dueStmt).drop 2) (dueEnv fname fqual fkwd fdoc fmod fann fcode fct L fU)) Q E s') E s₂ := by
    refine st_g H₂ (fun _ => .tail (.tail (.tail .head))) fun m₁ s₃ e₁ k₁ H₃ => ?_
    have H₄ : St base os₀ ((ll, lstA vl) :: (L, nsA m₁) :: led) s₃ := H₃.sub (.cons _ (.cons _ (.refl _)))
    have hm₁ := (k₁ (Str.ofString "lines") (by decide)).trans hm
    clear H₃ H₂ H₁
    refine wpAny_execs_cons (comp_asg (base := base) (os₀ := os₀) (cl := []) (V := fun C => varL C (Str.ofString "line")) (mk := fun C => compEnvC _ [] C _) rfl (env_loc (by decide) rfl) (fun C => Var.loc rfl rfl) rfl ?_ rfl (by decide))
    refine nm_l H₄ (.tail _ (.head _)) hm₁ (wpAny_pyIter_list (H₄.isList (.head _)) ?_)
    refine filt_body (pf := isT) hh hV hlen rfl rfl (by decide) H₄ (fun C mC ln v rest s₄ Q' E' _ hln hk H₅ hq => ?_) fun tx vt hvt vr s₄ hvr H₅ => ?_
    · refine wpAny_isTrue_BoolOp (wpAny_allTrue_And_cons (wpAny_isTrue_value (wpAny_Call_ofName (nm_b H₅ G.gw.gr.g G.gw.gr.b G.n7 G.b7 (callWith_builtin rfl (evalArgs_plain (spliced_cons (nm_l H₅ (.head _) hk (spliced_cons (nm_b H₅ G.gw.gr.g G.gw.gr.b G.gw.n4 G.gw.b4 (spliced_nil (isi_str hln H₅ fun s₅ H₆ => wpAny_truthy_bool ?_))))))))))))
      cases ln with
      | none => exact ite_neg (fun q => Bool.noConfusion (show false = true from q)) (hq s₅ H₆)
      | bool b => exact ite_neg (fun q => Bool.noConfusion (show false = true from q)) (hq s₅ H₆)
      | int n => exact ite_neg (fun q => Bool.noConfusion (show false = true from q)) (hq s₅ H₆)
      | str x =>
        obtain ⟨t, rfl⟩ := hln
        refine ite_pos rfl (wpAny_allTrue_And_cons (wpAny_isTrue_Compare1 (nm_l H₆ (.head _) hk (c_str H₆ fun t' s₆ H₇ => EqBoolInt.of_rcne (SeqAt.RcNeAt.str_str _ _ _ _) (wpAny_truthy_bool ?_)))))
        have e : isT (.str x) = !(x == Str.ofString "") := by
          rw [str_eq_nil]; unfold isT Ln.isStr Ln.yes
          by_cases hz : x.length = 0 <;> simp [hz]
        have := hq s₆ H₇
        rw [e] at this
        cases hb : (x == Str.ofString "") with
        | true => rw [hb] at this; exact ite_neg (by decide) this
        | false => rw [hb] at this; exact ite_pos (by decide) (wpAny_allTrue_And_nil this)
    have hup : ∀ (vr : Led) (m' : Str → Option Value), Up L (nsA m₁) (nsA m') (vr ++ ((tx, lstA vt) :: (ll, lstA vl) :: (L, nsA m₁) :: led)) (vr ++ ((tx, lstA vt) :: (ll, lstA vl) :: (L, nsA m') :: led)) := fun vr m' => by
      induction vr with
      | nil => exact .tail (.tail .head)
      | cons q r ih => exact .tail ih
    obtain ⟨C, mC, vr', rfl⟩ := hvr
    refine st_g H₅ (hup _) fun m₂ s₅ e₂ k₂ H₆ => ⟨_, H₆, fun s₆ H₇ => ?_⟩
    have H₈ : St base os₀ ((ll, lstA vl) :: (L, nsA m₂) :: (tx, lstA vt) :: led) s₆ := H₇.perm (by
      repeat (first | exact List.Perm.refl _ | refine Pick.perm (by (repeat (first | exact Pick.head | apply Pick.tail))) ?_))
    have hm₂ := (k₂ (Str.ofString "lines") (by decide)).trans hm₁
    clear H₇ H₆ H₅ H₄
    refine wpAny_execs_cons (comp_asg (base := base) (os₀ := os₀) (cl := []) (V := fun C => varL C (Str.ofString "line")) (mk := fun C => compEnvC _ [] C _) rfl (env_loc (by decide) rfl) (fun C => Var.loc rfl rfl) rfl ?_ rfl (by decide))
    refine nm_l H₈ (.tail _ (.head _)) hm₂ (wpAny_pyIter_list (H₈.isList (.head _)) ?_)
    refine filt_body (pf := isN) hh hV hlen rfl rfl (by decide) H₈ (fun C mC ln v rest s₄ Q' E' _ hln hk H₅ hq => ?_) fun nx vn hvn vr s₄ hvr H₅ => ?_
    · refine wpAny_isTrue_BoolOp (wpAny_allTrue_And_cons (wpAny_isTrue_value (wpAny_Call_ofName (nm_b H₅ G.gw.gr.g G.gw.gr.b G.n7 G.b7 (callWith_builtin rfl (evalArgs_plain (spliced_cons (nm_l H₅ (.head _) hk (spliced_cons (nm_b H₅ G.gw.gr.g G.gw.gr.b G.n8 G.b8 (spliced_nil (isi_int hln H₅ fun s₅ H₆ => wpAny_truthy_bool ?_))))))))))))
      cases ln with
      | none => exact ite_neg (fun q => Bool.noConfusion (show false = true from q)) (hq s₅ H₆)
      | str x => exact ite_neg (fun q => Bool.noConfusion (show false = true from q)) (hq s₅ H₆)
      | bool b =>
        cases hln
        refine ite_pos rfl (wpAny_allTrue_And_cons (wpAny_isTrue_Compare1 (nm_l H₆ (.head _) hk (c_int H₆ fun t' s₆ H₇ => PySem.EqBoolInt.ne_bool_int (wpAny_truthy_bool ?_)))))
        have := hq s₆ H₇
        cases b with
        | true => exact ite_pos (by decide) (wpAny_allTrue_And_nil this)
        | false => exact ite_neg (by decide) this
      | int n =>
        obtain ⟨t, rfl⟩ := hln
        refine ite_pos rfl (wpAny_allTrue_And_cons (wpAny_isTrue_Compare1 (nm_l H₆ (.head _) hk (c_int H₆ fun t' s₆ H₇ => PyProof.Rows.ne_int (wpAny_truthy_bool ?_)))))
        have e : isN (.int n) = (n != 0) := by unfold isN Ln.num Ln.yes; simp
        have := hq s₆ H₇
        rw [e] at this
        cases hb : (n != 0) with
        | true => rw [hb] at this; exact ite_pos rfl (wpAny_allTrue_And_nil this)
        | false => rw [hb] at this; exact ite_neg (by decide) this
    have hup : ∀ (vr : Led) (m' : Str → Option Value), Up L (nsA m₂) (nsA m') (vr ++ ((nx, lstA vn) :: (ll, lstA vl) :: (L, nsA m₂) :: (tx, lstA vt) :: led)) (vr ++ ((nx, lstA vn) :: (ll, lstA vl) :: (L, nsA m') :: (tx, lstA vt) :: led)) := fun vr m' => by
      induction vr with
      | nil => exact .tail (.tail .head)
      | cons q r ih => exact .tail ih
    obtain ⟨C, mC, vr', rfl⟩ := hvr
    refine st_g H₅ (hup _) fun m₃ s₅ e₃ k₃ H₆ => ⟨_, H₆, fun s₆ H₇ => h tx nx vt vn m₃ s₆ hvt hvn ((k₃ _ (by decide)).trans ((k₂ _ (by decide)).trans e₁)) ((k₃ _ (by decide)).trans e₂) e₃ ?_⟩
    have Ha := H₇.perm (led' := (ll, lstA vl) :: (tx, lstA vt) :: (nx, lstA vn) :: (L, nsA m₃) :: led) (by
      repeat (first | exact List.Perm.refl _ | refine Pick.perm (by (repeat (first | exact Pick.head | apply Pick.tail))) ?_))
    exact Ha.sub (.cons _ (.refl _))
  cases hys' : ys with
  | nil =>
    have he : ls.any Ln.isNone = false := by
      have hz : ls.filter Ln.isNone = [] := by
        have := hys.1; rw [hys'] at this; exact List.eq_nil_of_length_eq_zero this.symm
      rw [List.filter_eq_nil_iff] at hz
      rw [List.any_eq_false]
      exact fun x hx => hz x hx
    rw [he] at cont
    subst hys'
    exact list_ne_same (vs := []) (us := []) (H₂.isList (.tail _ (.head _))) (H₂.isList (.head _)) rfl (by omega) (fun p hp => by simp at hp) cont
  | cons y yr =>
    have he : ls.any Ln.isNone = true := by
      have hz : ls.filter Ln.isNone ≠ [] := fun q => by
        have := hys.1; rw [hys', q] at this; simp at this
      obtain ⟨x, hx⟩ := List.exists_mem_of_ne_nil _ hz
      rw [List.any_eq_true]
      exact ⟨x, (List.mem_filter.mp hx).1, (List.mem_filter.mp hx).2⟩
    rw [he] at cont
    subst hys'
    exact EqBoolInt.of_rcne (SeqAt.RcNeAt.lists_lengths (H₂.isList (vs := y :: yr) (.tail _ (.head _))) (H₂.isList (vs := []) (.head _)) (by simp) (by omega)) cont
end
end Mine

namespace Mine
open PySem PySem.W PyProof.Rows PySem.Calls PySem.Spec
def elseOf : Stmt → List Stmt | .If _ _ e _ => e | _ => []
def row8 : Stmt := nth 8 (fnBody dueStmt)
section
variable {prog : Program} {w : World} {A : Around} {E : Value → Shared → Prop} {s : Shared} {base : Heap} {os₀ : OsState} {led : Led} {mg mb : Str → Option Value} {fW fR fU fK p L : Addr} {wd rd ud kd : FuncData} {ls : List Ln} {m : Str → Option Value}
  {fname fqual : Str} {fkwd fdoc fmod : Value} {fann : Option Addr} {fcode fct : Value} {Q : Flow → Shared → Prop}
/-- the last rows -/
theorem due_end {n : Int} {t : Tok} {b : Bool} (hs : m (Str.ofString "signs") = some (.int n t)) (hn : m (Str.ofString "none") = some (.bool b)) (H : St base os₀ ((L, nsA m) :: led) s)
    (h : ∀ t' s', St base os₀ led s' → Q (.ret (.int (let w : Int := if n > 3 then n else 3; if w < 4 ∧ b = true then 4 else w) t')) s') :
    wpAny (model prog w) A (execs ((fnBody dueStmt).drop 9) (dueEnv fname fqual fkwd fdoc fmod fann fcode fct L fU)) Q E s := by
  have tail : ∀ (k : Int) t' (m' : Str → Option Value) s', 3 ≤ k → m' (Str.ofString "signs") = some (.int k t') → m' (Str.ofString "none") = some (.bool b) → St base os₀ ((L, nsA m') :: led) s' →
      (∀ t' s', St base os₀ led s' → Q (.ret (.int (if k < 4 ∧ b = true then 4 else k) t')) s') → wpAny (model prog w) A (execs ((fnBody dueStmt).drop 10) (dueEnv fname fqual fkwd fdoc fmod fann fcode fct L fU)) Q E s' := fun k t' m' s' hk hs' hn' H' h' => by
    refine wpAny_execs_cons (wpAny_If (wpAny_isTrue_BoolOp (wpAny_allTrue_And_cons (wpAny_isTrue_Compare1 (nm_l H' (.head _) hs' (c_int H' fun t1 s₁ H₁ => PyProof.Rows.eq_int (wpAny_truthy_bool ?_)))))))
    by_cases h3 : k = 3
    · refine ite_pos (by simpa using h3) (wpAny_allTrue_And_cons (wpAny_isTrue_value (nm_l H₁ (.head _) hn' (wpAny_truthy_bool ?_))))
      cases b with
      | true =>
        refine ite_pos rfl (wpAny_allTrue_And_nil (ite_pos rfl ?_))
        refine wpAny_execs_cons (wpAny_Assign_Name (c_int H₁ fun t2 s₂ H₂ => st_g H₂ (fun _ => up_head) fun m₂ s₃ e₂ k₂ H₃ => wpAny_execs_nil ?_))
        refine wpAny_execs_cons (wpAny_Return_some (nm_l H₃ (.head _) e₂ ?_))
        have := h' t2 s₃ (H₃.sub (.cons _ (.refl _)))
        rw [if_pos ⟨by omega, rfl⟩] at this; exact this
      | false =>
        refine ite_neg (by decide) (ite_neg (by decide) (wpAny_execs_nil (wpAny_execs_cons (wpAny_Return_some (nm_l H₁ (.head _) hs' ?_)))))
        have := h' t' s₁ (H₁.sub (.cons _ (.refl _)))
        rw [if_neg (by simp)] at this; exact this
    · refine ite_neg (by simpa using h3) (ite_neg (by decide) (wpAny_execs_nil (wpAny_execs_cons (wpAny_Return_some (nm_l H₁ (.head _) hs' ?_)))))
      have := h' t' s₁ (H₁.sub (.cons _ (.refl _)))
      rw [if_neg (by omega)] at this; exact this
  refine wpAny_execs_cons (wpAny_If (wpAny_isTrue_Compare1 (nm_l H (.head _) hs (c_int H fun t1 s₁ H₁ => PyProof.Rows.lt_int (wpAny_truthy_bool ?_)))))
  by_cases h3 : n < 3
  · refine ite_pos (decide_eq_true h3) (wpAny_execs_cons (wpAny_Assign_Name (c_int H₁ fun t2 s₂ H₂ => st_g H₂ (fun _ => up_head) fun m₂ s₃ e₂ k₂ H₃ => wpAny_execs_nil ?_)))
    refine tail 3 t2 m₂ s₃ (by decide) e₂ ((k₂ _ (by decide)).trans hn) H₃ fun t' s' H' => ?_
    have := h t' s' H'
    have e : (if n > 3 then n else 3) = 3 := if_neg (by omega)
    rw [e] at this; exact this
  · refine ite_neg (fun q => h3 (of_decide_eq_true q)) (wpAny_execs_nil ?_)
    refine tail n t m s₁ (by omega) hs hn H₁ fun t' s' H' => ?_
    have := h t' s' H'
    have e : (if n > 3 then n else 3) = n := by split <;> omega
    rw [e] at this; exact this
/-- the signs of the best line -/
theorem due_signs {l : Ln} {v : Value} (G : G2 base mg mb fW fR fU fK wd rd ud kd) (R : Room prog w A base) (hv : LnV l v) (hy : l.yes = true) (hok : l.ok) (hb : m (Str.ofString "best") = some v) (hn : m (Str.ofString "none") = some (.bool (ls.any Ln.isNone)))
    (H : St base os₀ ((L, nsA m) :: led) s) (h : ∀ t' s', St base os₀ led s' → Q (.ret (.int (wOf ls l) t')) s') :
    wpAny (model prog w) A (execs ((fnBody dueStmt).drop 8) (dueEnv fname fqual fkwd fdoc fmod fann fcode fct L fU)) Q E s := by
  have fin : ∀ t (m' : Str → Option Value) s', l.m1 = false → m' (Str.ofString "signs") = some (.int (l.len : Nat) t) → m' (Str.ofString "none") = some (.bool (ls.any Ln.isNone)) → St base os₀ ((L, nsA m') :: led) s' →
      wpAny (model prog w) A (execs ((fnBody dueStmt).drop 9) (dueEnv fname fqual fkwd fdoc fmod fann fcode fct L fU)) Q E s' := fun t m' s' hm1 hs' hn' H' => due_end hs' hn' H' fun t' s'' H'' => by
    have := h t' s'' H''
    unfold wOf at this
    rw [if_neg (by rw [hm1]; decide)] at this; exact this
  refine wpAny_execs_cons (wpAny_If (wpAny_isTrue_value (wpAny_Call_ofName (nm_b H G.gw.gr.g G.gw.gr.b G.n7 G.b7 (callWith_builtin rfl (evalArgs_plain (spliced_cons (nm_l H (.head _) hb (spliced_cons (nm_b H G.gw.gr.g G.gw.gr.b G.gw.n4 G.gw.b4 (spliced_nil (isi_str hv H fun s₁ H₁ => wpAny_truthy_bool ?_))))))))))))
  cases l with
  | none => cases hy
  | str x =>
    obtain ⟨t, rfl⟩ := hv
    refine ite_pos rfl (wpAny_execs_cons (wpAny_Assign_Name (wpAny_Call_ofName (nm_b H₁ G.gw.gr.g G.gw.gr.b G.gw.n3 G.gw.b3 (callWith_builtin rfl (evalArgs_plain (spliced_cons (nm_l H₁ (.head _) hb (spliced_nil (len_s H₁ (by have := hok.1; omega) fun t1 s₂ H₂ => st_g H₂ (fun _ => up_head) fun m₁ s₃ e₁ k₁ H₃ => wpAny_execs_nil ?_))))))))))
    exact fin t1 m₁ s₃ rfl e₁ ((k₁ _ (by decide)).trans hn) H₃
  | bool q =>
    cases hv
    have hq : q = true := hy
    subst hq
    refine ite_neg (fun q => Bool.noConfusion (show false = true from q)) ?_
    refine wpAny_execs_cons (wpAny_If (wpAny_isTrue_Compare1 (nm_l H₁ (.head _) hb (wpAny_Constant_bool (wpAny_of_eq (a := Value.bool true) rfl (wpAny_truthy_bool (ite_pos rfl ?_)))))))
    refine wpAny_execs_cons (wpAny_Assign_Name (c_int H₁ fun t1 s₂ H₂ => st_g H₂ (fun _ => up_head) fun m₁ s₃ e₁ k₁ H₃ => wpAny_execs_nil (wpAny_execs_nil ?_)))
    exact fin t1 m₁ s₃ rfl e₁ ((k₁ _ (by decide)).trans hn) H₃
  | int k =>
    obtain ⟨t, rfl⟩ := hv
    have hk0 : k ≠ 0 := by simpa [Ln.yes] using hy
    refine ite_neg (fun q => Bool.noConfusion (show false = true from q)) ?_
    refine wpAny_execs_cons (wpAny_If (wpAny_isTrue_Compare1 (nm_l H₁ (.head _) hb (wpAny_Constant_bool (wpAny_of_eq (a := Value.bool false) rfl (wpAny_truthy_bool (ite_neg (by decide) ?_)))))))
    refine wpAny_execs_cons (wpAny_If (wpAny_isTrue_Compare1 (nm_l H₁ (.head _) hb (c_neg H₁ fun t1 s₂ H₂ => PyProof.Rows.eq_int (wpAny_truthy_bool ?_)))))
    by_cases hm1 : k = -1
    · refine ite_pos (by simpa using hm1) (wpAny_execs_cons (wpAny_Return_some (c_int H₂ fun t2 s₃ H₃ => ?_)))
      have := h t2 s₃ (H₃.sub (.cons _ (.refl _)))
      subst hm1; exact this
    refine ite_neg (by simpa using hm1) ?_
    have hm1' : (Ln.int k).m1 = false := by simp [Ln.m1, hm1]
    refine wpAny_execs_cons (wpAny_Assign_Name (c_int H₂ fun t2 s₃ H₃ => st_g H₃ (fun _ => up_head) fun m₁ s₄ e₁ k₁ H₄ => ?_))
    have hb₁ := (k₁ (Str.ofString "best") (by decide)).trans hb
    have hn₁ := (k₁ (Str.ofString "none") (by decide)).trans hn
    have loop : ∀ (sg : Nat) ts (m' : Str → Option Value) s', sg = (if k < 0 then 1 else 0) → m' (Str.ofString "signs") = some (.int (sg : Nat) ts) → m' (Str.ofString "best") = some (.int k t) → m' (Str.ofString "none") = some (.bool (ls.any Ln.isNone)) → St base os₀ ((L, nsA m') :: led) s' →
        ∀ (QQ : Flow → Shared → Prop) E', (∀ ts m'' s'', m'' (Str.ofString "signs") = some (.int (dlen k : Nat) ts) → m'' (Str.ofString "none") = some (.bool (ls.any Ln.isNone)) → St base os₀ ((L, nsA m'') :: led) s'' → QQ .next s'') →
        wpAny (model prog w) A (execs ((elseOf (nth 0 (elseOf (nth 0 (elseOf row8))))).drop 2) (dueEnv fname fqual fkwd fdoc fmod fann fcode fct L fU)) QQ E' s' := fun sg ts m' s' hsg hs' hb' hn' H' QQ E' hQ => by
      refine wpAny_execs_cons (wpAny_Assign_Name (wpAny_Call_ofName (nm_b H' G.gw.gr.g G.gw.gr.b G.n5 G.b5 (callWith_builtin rfl (evalArgs_plain (spliced_cons (nm_l H' (.head _) hb' (spliced_nil (call_abs_int fun t3 tk => ?_)))))))))
      have H₅ : St base os₀ _ { s' with toks := tk } := H'.tok
      refine st_g H₅ (fun _ => up_head) fun m₂ s₅ e₂ k₂ H₆ => ?_
      have ea : (if k < 0 then -k else k) = ((k.natAbs : Nat) : Int) := by split <;> omega
      rw [ea] at e₂
      refine wpAny_execs_cons (while_led (base := base) (os₀ := os₀) (n := ndig k.natAbs) (fun c ld => ∃ m₃ lf sg' t1 t2, m₃ (Str.ofString "signs") = some (.int (sg' : Nat) t1) ∧ m₃ (Str.ofString "left") = some (.int (lf : Nat) t2) ∧ m₃ (Str.ofString "none") = some (.bool (ls.any Ln.isNone)) ∧ c = ndig lf ∧ sg' + ndig lf = dlen k ∧ ld = (L, nsA m₃) :: led) H₆
        ⟨m₂, k.natAbs, sg, ts, t3, (k₂ _ (by decide)).trans hs', e₂, (k₂ _ (by decide)).trans hn', rfl, by rw [dlen_ndig hk0, hsg], rfl⟩ ?_)
      rintro c ld s₆ E'' ⟨m₃, lf, sg', t1, t2, hs₃, hl₃, hn₃, rfl, hsum, rfl⟩ H₇
      refine wpAny_isTrue_value (nm_l H₇ (.head _) hl₃ (PySem.P.truthy_int ?_))
      by_cases hz : lf = 0
      · subst hz
        refine ite_neg (by simp) (wpAny_execs_nil (hQ t1 m₃ s₆ ?_ hn₃ H₇))
        have e0 : ndig 0 = 0 := by unfold ndig; rfl
        rw [e0, Nat.add_zero] at hsum
        rw [← hsum]; exact hs₃
      · refine ite_pos (by simp; omega) ?_
        refine wpAny_execs_cons (wpAny_AugAssign_Name (ld_l H₇ (.head _) hs₃ (c_int H₇ fun t4 s₇ H₈ => PyProof.Rows.iadd_int ?_)))
        have H₉ : St base os₀ _ { s₇ with toks := s₇.toks + 1 } := H₈.tok
        refine st_g H₉ (fun _ => up_head) fun m₄ s₈ e₄ k₄ H₁₀ => ?_
        refine wpAny_execs_cons (wpAny_Assign_Name (wpAny_BinOp (nm_l H₁₀ (.head _) ((k₄ _ (by decide)).trans hl₃) (c_int H₁₀ fun t5 s₉ H₁₁ => i_fdiv R H₁₁ (by decide) fun t6 s₁₀ H₁₂ => st_g H₁₂ (fun _ => up_head) fun m₅ s₁₁ e₅ k₅ H₁₃ => wpAny_execs_nil ?_))))
        have ed : ndig lf = 1 + ndig (lf / 10) := by rw [ndig, dif_neg hz]
        have ef : ((lf : Nat) : Int).fdiv 10 = ((lf / 10 : Nat) : Int) := by
          rw [Int.fdiv_eq_ediv_of_nonneg _ (by decide)]; rfl
        refine ⟨ndig (lf / 10), _, by omega, ⟨m₅, lf / 10, sg' + 1, _, t6, (k₅ _ (by decide)).trans e₄, by rw [e₅, ef], (k₅ _ (by decide)).trans ((k₄ _ (by decide)).trans hn₃), rfl, by omega, rfl⟩, H₁₃⟩
    refine wpAny_execs_cons (wpAny_If (wpAny_isTrue_Compare1 (nm_l H₄ (.head _) hb₁ (c_int H₄ fun t3 s₅ H₅ => PyProof.Rows.lt_int (wpAny_truthy_bool ?_)))))
    by_cases hneg : k < 0
    · refine ite_pos (decide_eq_true hneg) (wpAny_execs_cons (wpAny_Assign_Name (c_int H₅ fun t4 s₆ H₆ => st_g H₆ (fun _ => up_head) fun m₂ s₇ e₂ k₂ H₇ => wpAny_execs_nil ?_)))
      refine loop 1 t4 m₂ s₇ (by rw [if_pos hneg]) e₂ ((k₂ _ (by decide)).trans hb₁) ((k₂ _ (by decide)).trans hn₁) H₇ _ _ fun ts m'' s'' h1 h2 H'' => ?_
      exact wpAny_execs_nil (wpAny_execs_nil (fin ts m'' s'' hm1' h1 h2 H''))
    · refine ite_neg (fun q => hneg (of_decide_eq_true q)) (wpAny_execs_nil ?_)
      refine loop 0 t2 m₁ s₅ (by rw [if_neg hneg]) e₁ hb₁ hn₁ H₅ _ _ fun ts m'' s'' h1 h2 H'' => ?_
      exact wpAny_execs_nil (wpAny_execs_nil (fin ts m'' s'' hm1' h1 h2 H''))
end
end Mine

namespace Mine
open PySem PySem.W PyProof.Rows PySem.Calls PySem.Spec
def thenOf : Stmt → List Stmt | .If _ b _ _ => b | _ => []
def forB2 : Stmt → List Stmt | .For _ _ b _ _ => b | _ => []
/-- what a name tells of the best line -/
def BestIs (o : Option Ln) (v : Value) : Prop := match o with | none => v = .none | some l => LnV l v ∧ l.yes = true
section
variable {prog : Program} {w : World} {A : Around} {E : Value → Shared → Prop} {s : Shared} {base : Heap} {os₀ : OsState} {led : Led} {mg mb : Str → Option Value} {fW fR fU fK p L tx nx : Addr} {wd rd ud kd : FuncData} {ls : List Ln} {m : Str → Option Value} {vt vn pv : List Value} {kvs : List (Int × Value)} {fs : List Env}
  {fname fqual : Str} {fkwd fdoc fmod : Value} {fann : Option Addr} {fcode fct : Value}
theorem due_mid {Q : Flow → Shared → Prop} (G : G2 base mg mb fW fR fU fK wd rd ud kd) (R : Room prog w A base) (hok : ∀ l ∈ ls, l.ok) (hvt : LVs vt (ls.filter isT)) (hvn : LVs vn (ls.filter isN)) (hlen : ls.length ≤ 100)
    (hn : m (Str.ofString "none") = some (.bool (ls.any Ln.isNone))) (ht : m (Str.ofString "texts") = some (.ref tx)) (hnu : m (Str.ofString "numbers") = some (.ref nx))
    (H : St base os₀ ((tx, lstA vt) :: (nx, lstA vn) :: (L, nsA m) :: led) s)
    (h1 : ∀ n t s', dueI ls = some n → St base os₀ led s' → Q (.ret (.int n t)) s') (h2 : ∀ t s', dueI ls = none → St base os₀ led s' → Q (.ret (.str (Str.ofString "refused") t)) s') :
    wpAny (model prog w) A (execs ((fnBody dueStmt).drop 4) (dueEnv fname fqual fkwd fdoc fmod fann fcode fct L fU)) Q E s := by
  have hh := R.handled
  have hdp := R.depth
  have lt1 : vt.length ≤ 100 := by rw [hvt.1]; exact Nat.le_trans (List.length_filter_le ..) hlen
  have lt2 : vn.length ≤ 100 := by rw [hvn.1]; exact Nat.le_trans (List.length_filter_le ..) hlen
  obtain ⟨oR, hoR, hdR⟩ := G.dr.obj
  have rest : ∀ s', (ls.filter isT = [] ∨ ls.filter isN = []) → St base os₀ ((tx, lstA vt) :: (nx, lstA vn) :: (L, nsA m) :: led) s' → wpAny (model prog w) A (execs ((fnBody dueStmt).drop 5) (dueEnv fname fqual fkwd fdoc fmod fann fcode fct L fU)) Q E s' := fun s₁ hor H₁ => by
    obtain ⟨hmax, hsame⟩ : maxL none ls = some (bestL none (ls.filter isT ++ ls.filter isN)) ∧ ∀ x ∈ ls.filter isT ++ ls.filter isN, ∀ z ∈ ls.filter isT ++ ls.filter isN, x.isStr = z.isStr := by
      rcases split_ok ls with ⟨a, b, _⟩ | ⟨_, q⟩
      · rcases hor with q | q
        · exact absurd q a
        · exact absurd q b
      · exact q
    have hyes : ∀ x ∈ ls.filter isT ++ ls.filter isN, x.yes = true := fun x hx => by
      rcases List.mem_append.mp hx with q | q
      · exact (isT_yes (List.mem_filter.mp q).2).1
      · exact (isN_yes (List.mem_filter.mp q).2).1
    have hoks : ∀ x ∈ ls.filter isT ++ ls.filter isN, x.ok := fun x hx => by
      rcases List.mem_append.mp hx with q | q
      · exact hok x (List.mem_filter.mp q).1
      · exact hok x (List.mem_filter.mp q).1
    have hall := hvt.app hvn
    generalize hL : ls.filter isT ++ ls.filter isN = LL at hmax hsame hyes hoks hall
    refine wpAny_execs_cons (wpAny_Assign_Name (wpAny_Constant_none (st_g H₁ (fun _ => .tail (.tail .head)) fun m₁ s₂ e₁ k₁ H₂ => ?_)))
    refine wpAny_execs_cons (for_list (base := base) (os₀ := os₀) (fun i led' => ∃ m₂ v, m₂ (Str.ofString "none") = some (.bool (ls.any Ln.isNone)) ∧ m₂ (Str.ofString "best") = some v ∧ BestIs (bestL none (LL.take i)) v ∧ led' = (tx, lstA vt) :: (nx, lstA vn) :: (L, nsA m₂) :: led) hh ?_)
    refine wpAny_BinOp (nm_l H₂ (.tail _ (.tail _ (.head _))) ((k₁ _ (by decide)).trans ht) (nm_l H₂ (.tail _ (.tail _ (.head _))) ((k₁ _ (by decide)).trans hnu) (l_add H₂ (.head _) (.tail _ (.head _)) (Nat.le_trans (by omega : vt.length + vn.length ≤ 200) (by decide)) fun r s₃ H₃ => ?_)))
    refine ⟨r, vt ++ vn, _, rfl, H₃, ⟨m₁, .none, (k₁ _ (by decide)).trans hn, e₁, rfl, rfl⟩, ?_, ?_⟩
    · rintro I i v led' s₄ E' hv ⟨m₂, bv, hn₂, hb₂, hB, rfl⟩ H₄
      have hil : i < LL.length := by
        rw [← hall.1]
        rcases Nat.lt_or_ge i (vt ++ vn).length with q | q
        · exact q
        · rw [List.getElem?_eq_none q] at hv; cases hv
      obtain ⟨v', hv', hln⟩ := hall.2 i LL[i] (List.getElem?_eq_getElem hil)
      rw [hv] at hv'
      cases hv'
      have hmemi : LL[i] ∈ LL := List.getElem_mem hil
      have hsn : bestL none (LL.take (i + 1)) = match bestL none (LL.take i) with
          | none => some LL[i]
          | some m => match LL[i].gt m with | some true => some LL[i] | _ => some m := by
        rw [List.take_add_one, List.getElem?_eq_getElem hil]; exact bestL_snoc _ _ _
      refine wpAny_assign_Name (st_g H₄ (fun _ => .tail (.tail (.tail (.tail .head)))) fun m₃ s₅ e₃ k₃ H₅ => ?_)
      have hn₃ := (k₃ (Str.ofString "none") (by decide)).trans hn₂
      have hb₃ := (k₃ (Str.ofString "best") (by decide)).trans hb₂
      have memL : ∀ (x y z u : Addr × Asn), (L, nsA m₃) ∈ (x :: y :: z :: u :: (L, nsA m₃) :: led) := fun _ _ _ _ => by k_mem
      have take : ∀ s', bestL none (LL.take (i + 1)) = some LL[i] → St base os₀ ((I, itA r (i + 1)) :: (r, lstA (vt ++ vn)) :: (tx, lstA vt) :: (nx, lstA vn) :: (L, nsA m₃) :: led) s' → ∀ (QQ : Flow → Shared → Prop) E'', (∀ s'', (∃ led', (∃ m₂ v, m₂ (Str.ofString "none") = some (.bool (ls.any Ln.isNone)) ∧ m₂ (Str.ofString "best") = some v ∧ BestIs (bestL none (LL.take (i + 1))) v ∧ led' = (tx, lstA vt) :: (nx, lstA vn) :: (L, nsA m₂) :: led) ∧ St base os₀ ((I, itA r (i + 1)) :: (r, lstA (vt ++ vn)) :: led') s'') → QQ .next s'') →
          wpAny (model prog w) A (execs (thenOf (nth 0 (forB2 (nth 6 (fnBody dueStmt))))) (dueEnv fname fqual fkwd fdoc fmod fann fcode fct L fU)) QQ E'' s' := fun s' eb H' QQ E'' hQ => by
        refine wpAny_execs_cons (wpAny_Assign_Name (nm_l H' (memL _ _ _ _) e₃ (st_g H' (fun _ => .tail (.tail (.tail (.tail .head)))) fun m₄ s₆ e₄ k₄ H₆ => wpAny_execs_nil (hQ _ ⟨_, ⟨m₄, v, (k₄ _ (by decide)).trans hn₃, e₄, ?_, rfl⟩, H₆⟩))))
        rw [eb]; exact ⟨hln, hyes _ hmemi⟩
      refine wpAny_execs_cons (wpAny_If (wpAny_isTrue_BoolOp (wpAny_allTrue_Or_cons (wpAny_isTrue_Compare1 (nm_l H₅ (memL _ _ _ _) hb₃ (wpAny_Constant_none (is_none (wpAny_truthy_bool ?_))))))))
      cases hbst : bestL none (LL.take i) with
      | none =>
        rw [hbst] at hB hsn
        have hB : bv = .none := hB
        subst hB
        refine ite_pos rfl (ite_pos rfl (take s₅ hsn H₅ _ _ fun s'' q => wpAny_execs_nil q))
      | some bm =>
        rw [hbst] at hB hsn
        obtain ⟨hbl, hby⟩ : LnV bm bv ∧ bm.yes = true := hB
        have hbmem : bm ∈ LL := by
          rcases bestL_mem _ _ _ hbst with q | q
          · exact List.mem_of_mem_take q
          · cases q
        have hbne : (bv == Value.none) = false := by
          cases bm with
          | none => cases hby
          | bool b => cases hbl; rfl
          | str x => obtain ⟨t, rfl⟩ := hbl; rfl
          | int n => obtain ⟨t, rfl⟩ := hbl; rfl
        rw [hbne]
        refine ite_neg (by decide) (wpAny_allTrue_Or_cons (wpAny_isTrue_value (wpAny_Call_ofName (nm_g H₅ G.gw.gr.g G.hr (callWith_fn (evalArgs_plain (spliced_cons (nm_l H₅ (memL _ _ _ _) e₃ (spliced_cons (nm_l H₅ (memL _ _ _ _) hb₃ (spliced_nil ⟨⟨oR, rd, H₅.keep _ _ hoR, hdR⟩, ?_⟩)))))))))))
        obtain ⟨gb, hgb⟩ := Option.isSome_iff_exists.mp ((gt_same (hyes _ hmemi) hby).mpr (hsame _ hmemi _ hbmem))
        simp only [hgb] at hsn
        refine great_ok G (by omega) hh hln hbl (hoks _ hmemi) (hoks _ hbmem) hgb H₅ fun s₆ H₆ => wpAny_truthy_bool ?_
        cases gb with
        | true => exact ite_pos rfl (ite_pos rfl (take s₆ hsn H₆ _ _ fun s'' q => wpAny_execs_nil q))
        | false =>
          refine ite_neg (by decide) (wpAny_allTrue_Or_nil (ite_neg (by decide) (wpAny_execs_nil (wpAny_execs_nil ⟨_, ⟨m₃, bv, hn₃, hb₃, ?_, rfl⟩, H₆⟩))))
          rw [hsn]; exact ⟨hbl, hby⟩
    · rintro led' s₄ ⟨m₂, bv, hn₂, hb₂, hB, rfl⟩ H₄
      rw [hall.1, List.take_length] at hB
      have H₅ : St base os₀ ((L, nsA m₂) :: led) s₄ := H₄.sub (.cons _ (.cons _ (.cons _ (.refl _))))
      refine wpAny_execs_cons (wpAny_If (wpAny_isTrue_Compare1 (nm_l H₅ (.head _) hb₂ (wpAny_Constant_none (is_none (wpAny_truthy_bool ?_))))))
      cases hbst : bestL none LL with
      | none =>
        rw [hbst] at hB hmax
        have hB : bv = .none := hB
        subst hB
        refine ite_pos rfl (wpAny_execs_cons (wpAny_Return_some (c_int H₅ fun t s₅ H₆ => h1 0 t s₅ ?_ (H₆.sub (.cons _ (.refl _))))))
        unfold dueI; rw [hmax]
      | some bm =>
        rw [hbst] at hB hmax
        obtain ⟨hbl, hby⟩ : LnV bm bv ∧ bm.yes = true := hB
        have hbmem : bm ∈ LL := by
          rcases bestL_mem _ _ _ hbst with q | q
          · exact q
          · cases q
        have hbne : (bv == Value.none) = false := by
          cases bm with
          | none => cases hby
          | bool b => cases hbl; rfl
          | str x => obtain ⟨t, rfl⟩ := hbl; rfl
          | int n => obtain ⟨t, rfl⟩ := hbl; rfl
        rw [hbne]
        refine ite_neg (by decide) (wpAny_execs_nil ?_)
        exact due_signs G R hbl hby (hoks _ hbmem) hb₂ hn₂ H₅ fun t s₅ H₆ => h1 _ t s₅ (by unfold dueI; rw [hmax]) H₆
  have z1 : ((vt.toArray.size : Nat) : Int) < 2 ^ 63 := by rw [List.size_toArray]; omega
  have z2 : ((vn.toArray.size : Nat) : Int) < 2 ^ 63 := by rw [List.size_toArray]; omega
  refine wpAny_execs_cons (wpAny_If (wpAny_isTrue_BoolOp (wpAny_allTrue_And_cons (wpAny_isTrue_value (nm_l H (.tail _ (.tail _ (.head _))) ht (wpAny_truthy_list (H.isList (.head _)) z1 ?_))))))
  have H₁ : St base os₀ _ { s with toks := s.toks + 1 + 1 } := H.tok
  by_cases e1 : vt = []
  · refine ite_neg (by rw [e1]; decide) (ite_neg (by decide) (wpAny_execs_nil (rest _ (.inl ?_) H₁)))
    have := hvt.1; rw [e1] at this; exact List.eq_nil_of_length_eq_zero this.symm
  refine ite_pos (by cases vt with | nil => exact absurd rfl e1 | cons _ _ => simp) ?_
  refine wpAny_allTrue_And_cons (wpAny_isTrue_value (nm_l H₁ (.tail _ (.tail _ (.head _))) hnu (wpAny_truthy_list (H₁.isList (.tail _ (.head _))) z2 ?_)))
  have H₂ : St base os₀ _ { s with toks := s.toks + 1 + 1 + 1 + 1 } := H₁.tok
  by_cases e2 : vn = []
  · refine ite_neg (by rw [e2]; decide) (ite_neg (by decide) (wpAny_execs_nil (rest _ (.inr ?_) H₂)))
    have := hvn.1; rw [e2] at this; exact List.eq_nil_of_length_eq_zero this.symm
  refine ite_pos (by cases vn with | nil => exact absurd rfl e2 | cons _ _ => simp) (wpAny_allTrue_And_nil (ite_pos rfl ?_))
  refine wpAny_execs_cons (wpAny_Return_some (c_str H₂ fun t s₃ H₃ => h2 t s₃ ?_ (H₃.sub (.cons _ (.cons _ (.cons _ (.refl _)))))))
  have n1 : ls.filter isT ≠ [] := fun q => e1 (List.eq_nil_of_length_eq_zero (by rw [hvt.1, q]; rfl))
  have n2 : ls.filter isN ≠ [] := fun q => e2 (List.eq_nil_of_length_eq_zero (by rw [hvn.1, q]; rfl))
  rcases split_ok ls with ⟨_, _, q⟩ | ⟨q, _⟩
  · unfold dueI; rw [q]
  · rcases q with q | q
    · exact absurd q n1
    · exact absurd q n2
/-- the contract of _law_due -/
theorem due_ok {Q : Value → Shared → Prop} (G : G2 base mg mb fW fR fU fK wd rd ud kd) (hS : base.NoSeer) (htr : prog.given.tree = none) (hfr : A.frames = some fs) (hd : A.depth + 201 < recursionLimit) (hu : A.units + 67 < cLine) (hh : A.handled = none)
    (hP : PT pv kvs led) (hV : VL kvs ls) (hok : ∀ l ∈ ls, l.ok) (hlen : ls.length ≤ 100) (H : St base os₀ ((p, lstA pv) :: led) s)
    (h1 : ∀ n t s', dueI ls = some n → St base os₀ ((p, lstA pv) :: led) s' → Q (.int n t) s') (h2 : ∀ t s', dueI ls = none → St base os₀ ((p, lstA pv) :: led) s' → Q (.str (Str.ofString "refused") t) s') :
    wpAny (model prog w) A (call (.ref fU) [.ref p] []) Q E s := by
  obtain ⟨⟨o, ho, hdd⟩, hb, hp, hsc, hc, hgl, hbi, hdf, hcd⟩ := G.du
  obtain ⟨fname, fqual, fpar, fbody, fscope, fglob, fclo, fdef, fkwd, fdoc, fmod, fann, fcode, fct, fbui⟩ := ud
  simp only at hb hp hsc hc hgl hbi hdf hcd
  subst hb hp hsc hc hgl hbi hdf
  refine fn_enter (args := ⟨[.ref p], []⟩) H (by omega) G.gw.gr.lim (H.keep _ _ ho) hdd (hcd.keeps H.keep) rfl (by show ∀ x ∈ (fnScope dueStmt).names, x.2 ≠ NameKind.cell; decide) ?_
  refine wpAny_of_eq (a := [(Str.ofString "pairs", .ref p)]) rfl ?_
  refine ⟨_, H, ?_, fun L s₁ H₁ => ?_⟩
  · intro x hx
    simp only [List.mem_cons, List.not_mem_nil, or_false] at hx
    subst hx; rfl
  obtain ⟨m, hm, H₂⟩ : ∃ m, m (Str.ofString "pairs") = some (.ref p) ∧ St base os₀ ((p, lstA pv) :: (L, nsA m) :: led) s₁ := ⟨_, rfl, H₁.perm (.swap ..)⟩
  clear H₁
  have R : Room prog w (A.deeper (dueEnv fname fqual fkwd fdoc fmod fann fcode fct L fU)) base := room_deeper hS G.gw.gr.lim htr hfr hh hd hu rfl rfl rfl rfl
  have hlp : pv.length ≤ 100 := by rw [hP.1, hV.1]; exact hlen
  refine due_lines (fU := fU) hh hP hV hlp hm H₂ fun ll vl m' s₂ hvl hl' _ H₃ => ?_
  refine due_filters (fU := fU) G hh (by show A.units + 3 + 64 < _; omega) hvl (by rw [hvl.1]; exact hlen) hl' H₃ fun tx nx vt vn m'' s₃ hvt hvn hno htx hnx H₄ => ?_
  exact due_mid (fU := fU) G R hok hvt hvn hlen hno htx hnx H₄ (fun n t s₄ e H₅ => h1 n t s₄ e H₅) fun t s₄ e H₅ => h2 t s₄ e H₅
end
end Mine

namespace Mine
open PySem PySem.W PyProof.Rows PySem.Calls PySem.Spec
abbrev lawEnv2 (nam : Str) (L fA : Addr) (cd : Value) : Env := envOfC nam (fnScope lawStmt2) L fA cd
def turn2 : List Stmt := forB2 (nth 3 (fnBody lawStmt2))
def plc (n : Int) : Int := 2 * ((n.fdiv 8).fmod 7)
def idxs (kvs : List (Int × Value)) (k : Int) (i : Nat) : List Int := ((List.range i).filter fun j => decide ((kvs.map (·.1))[j]? = some k)).map fun j => ((j : Nat) : Int)
abbrev core2 {prog : Program} {w : World} (L d p : Addr) (o : Option Value) (kvs : List (Int × Value)) (pv : List Value) : Led :=
  [(L + 1, celA (some (.ref d))), (L + 2, celA (some (.ref p))), (L + 3, celA o), (d, dctA (intKind prog w) kvs), (p, lstA pv)]
section
variable {prog : Program} {w : World} {A : Around} {E : Value → Shared → Prop} {s : Shared} {base : Heap} {os₀ : OsState} {led : Led} {mg mb : Str → Option Value} {fW fR fU fK p d L fA : Addr} {wd rd ud kd : FuncData} {m : Str → Option Value} {pv : List Value} {kvs : List (Int × Value)} {nam : Str} {cd : Value} {Q : Flow → Shared → Prop}
theorem i_mul2 {a b : Int} {t u : Tok} {led : Led} {Q : Value → Shared → Prop} (H : St base os₀ led s) (ha : 0 ≤ a ∧ a < 2 ^ 30) (hb : 0 ≤ b ∧ b < 2 ^ 30) (h : ∀ t' s', St base os₀ led s' → Q (.int (a * b) t') s') : wpAny (model prog w) A (binaryOp .Mult (.int a t) (.int b u)) Q E s :=
  PyProof.Rows.mul_int (h _ _ H.tok)
theorem item_t {value slice : Expr} {a : Addr} {vs : List Value} {k : Int} {u : Tok} {j : Nat} {x : Value} {led : Led} {Q : Value → Shared → Prop} (H : St base os₀ led s) (hm : (a, tupA vs) ∈ led) (h0 : -2 ^ 63 ≤ k) (hfit : k < 2 ^ 63) (hj : seqIndex? k vs.toArray.size = some j) (hx : vs.toArray[j]? = some x) (h : Q x s)
    (hs : subscripted slice false (.ref a) (.int k u) = operate [.ref a, .int k u] (getItem (.ref a) (.int k u)) := by with_unfolding_all rfl) :
    wpAny (model prog w) A (subscriptTail value slice (.ref a) (.int k u)) Q E s := by
  have ht := H.isTup hm
  have hT : s.TypeIs (.ref a) "tuple" := let ⟨o, ho, hc, _⟩ := ht; ⟨o, ho, hc⟩
  exact subscriptTail_builtinR hT PyProof.Rows.slot_tuple_getitem.lookup (PyProof.Rows.getItem_tuple ht h0 hfit hj hx ⟨rfl, h⟩) hs
theorem turn_head {n : Int} {t : Tok} {o : Option Value} (G : G2 base mg mb fW fR fU fK wd rd ud kd) (R : Room prog w A base) (hP : PT pv kvs led) (hlen : kvs.length ≤ 100) (hn : m (Str.ofString "n") = some (.int n t))
    (H : St base os₀ ((L, nsA m) :: (core2 (prog := prog) (w := w) L d p o kvs pv ++ led)) s)
    (h : ∀ hl hv m' tp s', IntsAre hv (idxs kvs (plc n) kvs.length) → m' (Str.ofString "here") = some (.ref hl) → m' (Str.ofString "n") = some (.int n t) → (∃ t', m' (Str.ofString "kind") = some (.int (n.fmod 8) t')) → (∃ t', m' (Str.ofString "rest") = some (.int (n.fdiv 8) t')) →
      St base os₀ ((L, nsA m') :: (core2 (prog := prog) (w := w) L d p (some (.int (plc n) tp)) kvs pv ++ ((hl, lstA hv) :: led))) s' →
      wpAny (model prog w) A (execs (turn2.drop 4) (lawEnv2 nam L fA cd)) Q E s') :
    wpAny (model prog w) A (execs turn2 (lawEnv2 nam L fA cd)) Q E s := by
  have hh := R.handled
  refine wpAny_execs_cons (wpAny_Assign_Name (wpAny_BinOp (nm_l H (.head _) hn (c_int H fun t1 s₁ H₁ => i_mod H₁ (by decide) fun t2 s₂ H₂ => st_g H₂ (fun _ => up_head) fun m₁ s₃ e₁ k₁ H₃ => ?_))))
  refine wpAny_execs_cons (wpAny_Assign_Name (wpAny_BinOp (nm_l H₃ (.head _) ((k₁ _ (by decide)).trans hn) (c_int H₃ fun t3 s₄ H₄ => i_fdiv R H₄ (by decide) fun t4 s₅ H₅ => st_g H₅ (fun _ => up_head) fun m₂ s₆ e₂ k₂ H₆ => ?_))))
  have hmul : (0 : Int) ≤ (n.fdiv 8).fmod 7 ∧ (n.fdiv 8).fmod 7 < 7 := ⟨Int.fmod_nonneg_of_pos _ (by decide), Int.fmod_lt_of_pos _ (by decide)⟩
  refine wpAny_execs_cons (wpAny_Assign_Name (wpAny_BinOp (c_int H₆ fun t5 s₇ H₇ => wpAny_BinOp (nm_l H₇ (.head _) e₂ (c_int H₇ fun t6 s₈ H₈ => i_mod H₈ (by decide) fun t7 s₉ H₉ => i_mul2 H₉ (by decide) (by omega) fun tp s₁₀ H₁₀ => st_c H₁₀ rfl (.tail (.tail (.tail .head))) fun s₁₁ H₁₁ => ?_)))))
  have H₁₂ : St base os₀ ((L, nsA m₂) :: (core2 (prog := prog) (w := w) L d p (some (.int (plc n) tp)) kvs pv ++ led)) s₁₁ := H₁₁
  clear H₁₁ H₁₀ H₉ H₈ H₇ H₆ H₅ H₄ H₃ H₂ H₁
  have hn₂ := (k₂ (Str.ofString "n") (by decide)).trans ((k₁ _ (by decide)).trans hn)
  have hk₂ := (k₂ (Str.ofString "kind") (by decide)).trans e₁
  refine wpAny_execs_cons (comp_asg (base := base) (os₀ := os₀) (cl := [(Str.ofString "place", L + 3), (Str.ofString "pairs", L + 2)]) (V := fun C => varL C (Str.ofString "i")) (mk := fun C => compEnvC _ [(Str.ofString "place", L + 3), (Str.ofString "pairs", L + 2)] C _) rfl (env_loc (by decide) rfl) (fun C => Var.loc rfl rfl) rfl ?_ rfl (by decide))
  refine wpAny_Call_ofName (nm_b H₁₂ G.gw.gr.g G.gw.gr.b G.n6 G.b6 (callWith_excType rfl (evalArgs_plain (spliced_cons (wpAny_Call_ofName (nm_b H₁₂ G.gw.gr.g G.gw.gr.b G.gw.n3 G.gw.b3 (callWith_builtin rfl (evalArgs_plain (spliced_cons (nm_c H₁₂ rfl (.tail _ (.tail _ (.head _))) (spliced_nil (len_l H₁₂ (vs := pv) (.tail _ (.tail _ (.tail _ (.tail _ (.tail _ (.head _)))))) (by rw [hP.1]; omega) fun t8 s₁₂ H₁₃ => spliced_nil (r_new (n := pv.length) H₁₃ fun r s₁₃ H₁₄ => ?_)))))))))))))
  obtain ⟨v1, v2, H₁₄⟩ := H₁₄
  refine r_iter (by rw [hP.1]; omega) H₁₄ fun I s₁₄ H₁₅ => ?_
  refine ⟨I, pv.length, _, rngA pv.length, [], _, fun i ys led' => IntsAre ys (idxs kvs (plc n) i) ∧ led' = (L, nsA m₂) :: (core2 (prog := prog) (w := w) L d p (some (.int (plc n) tp)) kvs pv ++ led), rfl, Iter.range hh, by rw [hP.1]; exact Nat.le_trans hlen (by decide), H₁₅, ⟨.nil, rfl⟩, ?_, ?_⟩
  · rintro C D i v ys vl led' s₁₅ E' hi ⟨ti, rfl⟩ ⟨hys, rfl⟩ ⟨mC, rfl, hmC⟩ H₁₆
    have hk := hmC _ rfl
    have hik : i < kvs.length := by rw [← hP.1]; exact hi
    obtain ⟨a, ta, ha1, ha2⟩ := hP.2 i kvs[i].1 kvs[i].2 (List.getElem?_eq_getElem hik)
    have hsucc : idxs kvs (plc n) (i + 1) = idxs kvs (plc n) i ++ (if kvs[i].1 = plc n then [((i : Nat) : Int)] else []) := by
      unfold idxs
      rw [List.range_succ, List.filter_append, List.map_append]
      congr 1
      have e : (kvs.map (·.1))[i]? = some kvs[i].1 := by rw [List.getElem?_map, List.getElem?_eq_getElem hik]; rfl
      by_cases q : kvs[i].1 = plc n
      · rw [if_pos q, List.filter_cons_of_pos (by rw [e, q]; simp)]; rfl
      · rw [if_neg q, List.filter_cons_of_neg (by rw [e]; simpa using q)]; rfl
    have mp : ∀ (x y z u : Addr × Asn), (p, lstA pv) ∈ (x :: y :: z :: u :: (core2 (prog := prog) (w := w) L d p (some (.int (plc n) tp)) kvs pv ++ led)) := fun _ _ _ _ => by k_mem
    have mt : ∀ (x y z u : Addr × Asn), (a, tupA [.int kvs[i].1 ta, kvs[i].2]) ∈ (x :: y :: z :: u :: (core2 (prog := prog) (w := w) L d p (some (.int (plc n) tp)) kvs pv ++ led)) := fun _ _ _ _ => .tail _ (.tail _ (.tail _ (.tail _ (List.mem_append_right _ ha2))))
    refine wpAny_tests_one (wpAny_isTrue_Compare1 (Subscript_ (Subscript_ (nm_c H₁₆ rfl (by k_mem) (nm_l H₁₆ (.head _) hk (item_l H₁₆ (mp _ _ _ _) (by omega) (by omega) (by simpa using ha1) (c_int H₁₆ fun t9 s₁₆ H₁₇ => item_t H₁₇ (mt _ _ _ _) (by decide) (by decide) (j := 0) rfl rfl (nm_c H₁₇ rfl (by k_mem) (PyProof.Rows.eq_int (wpAny_truthy_bool ?_))))))))))
    by_cases q : kvs[i].1 = plc n
    · refine ite_pos (by simpa using q) (nm_l H₁₇ (.head _) hk ⟨_, ⟨?_, rfl⟩, H₁₇⟩)
      rw [hsucc, if_pos q]; exact ints_snoc hys _ _
    · refine ite_neg (by simpa using q) ⟨_, ⟨?_, rfl⟩, H₁₇⟩
      rw [hsucc, if_neg q, List.append_nil]; exact hys
  · rintro D ys led' ⟨hys, rfl⟩ hl' vl s₁₅ ⟨C, mC, vr, rfl⟩ H₁₆
    rw [hP.1] at hys
    have hup : ∀ (vl : Led) (m' : Str → Option Value), Up L (nsA m₂) (nsA m') (vl ++ ((D, lstA ys) :: ([] ++ ((L, nsA m₂) :: (core2 (prog := prog) (w := w) L d p (some (.int (plc n) tp)) kvs pv ++ led))))) (vl ++ ((D, lstA ys) :: (L, nsA m') :: (core2 (prog := prog) (w := w) L d p (some (.int (plc n) tp)) kvs pv ++ led))) := fun vl m' => by
      induction vl with
      | nil => exact .tail .head
      | cons q r ih => exact .tail ih
    refine st_g H₁₆ (hup _) fun m₃ s₁₆ e₃ k₃ H₁₇ => ⟨_, H₁₇, fun s₁₇ H₁₈ => h D ys m₃ tp s₁₇ hys e₃ ((k₃ _ (by decide)).trans hn₂) ⟨_, (k₃ _ (by decide)).trans hk₂⟩ ⟨_, (k₃ _ (by decide)).trans e₂⟩ (H₁₈.perm ?_)⟩
    repeat (first | exact List.Perm.refl _ | refine Pick.perm (by (repeat (first | exact Pick.head | apply Pick.tail))) ?_)
end
end Mine

namespace Mine
open PySem PySem.W PyProof.Rows PySem.Calls PySem.Spec
def lineS : Stmt := nth 0 (elseOf (nth 4 turn2))
theorem fmod_small {a : Int} {k : Nat} (hk : k ≤ 15) : (a.fmod (10 ^ k)).natAbs < 10 ^ 20 := by
  have hp : (0 : Int) < 10 ^ k := Int.pow_pos (by decide)
  have h1 : 0 ≤ a.fmod (10 ^ k) := Int.fmod_nonneg_of_pos _ hp
  have h2 : a.fmod (10 ^ k) < 10 ^ k := Int.fmod_lt_of_pos _ hp
  have h3 : ((10 ^ k : Nat) : Int) = 10 ^ k := by norm_cast
  have h4 : (a.fmod (10 ^ k)).natAbs < 10 ^ k := by
    have : (((a.fmod (10 ^ k)).natAbs : Nat) : Int) < ((10 ^ k : Nat) : Int) := by rw [h3]; omega
    exact_mod_cast this
  exact Nat.lt_of_lt_of_le h4 (Nat.pow_le_pow_right (by decide) (by omega))
theorem sign_m5 {i c : Nat} (h : (Str.ofString "m5 ").cps.toList[i]? = some c) : sign c := by
  have e : (Str.ofString "m5 ").cps.toList = [109, 53, 32] := by decide
  rw [e] at h
  match i, h with
  | 0, h => simp at h; subst h; exact .inr (.inr rfl)
  | 1, h => simp at h; subst h; exact .inr (.inl rfl)
  | 2, h => simp at h; subst h; exact .inl rfl
  | k + 3, h => simp at h
section
variable {prog : Program} {w : World} {A : Around} {E : Value → Shared → Prop} {s : Shared} {base : Heap} {os₀ : OsState} {led : Led} {mg mb : Str → Option Value} {fW fR fU fK L fA : Addr} {wd rd ud kd : FuncData} {m : Str → Option Value} {nam : Str} {cd : Value} {Q : Flow → Shared → Prop}
theorem s_iadd {x y : Str} {t u : Tok} {led : Led} {Q : Value → Shared → Prop} (H : St base os₀ led s) (h : ∀ t' s', St base os₀ led s' → Q (.str (x ++ y) t') s') (hsz : x.length + y.length ≤ sizeLine) :
    wpAny (model prog w) A (inplaceOp .Add (.str x t) (.str y u)) Q E s := PyProof.Rows.iadd_str (fun t' tk => h t' _ H.tok) hsz
set_option maxHeartbeats 1600000 in
theorem line2_ok {n : Int} {t tk tr : Tok} (G : G2 base mg mb fW fR fU fK wd rd ud kd) (R : Room prog w A base) (hn : m (Str.ofString "n") = some (.int n t)) (hk : m (Str.ofString "kind") = some (.int (n.fmod 8) tk)) (hr : m (Str.ofString "rest") = some (.int (n.fdiv 8) tr))
    (H : St base os₀ ((L, nsA m) :: led) s)
    (h : ∀ l v m' s', LnV l v → l.ok → m' (Str.ofString "line") = some v → (∀ y ∈ [Str.ofString "n", Str.ofString "kind", Str.ofString "rest", Str.ofString "here"], m' y = m y) → St base os₀ ((L, nsA m') :: led) s' → Q .next s') :
    wpAny (model prog w) A (exec lineS (lawEnv2 nam L fA cd)) Q E s := by
  have hh := R.handled
  have b8 : (0 : Int) ≤ n.fmod 8 ∧ n.fmod 8 < 8 := ⟨Int.fmod_nonneg_of_pos _ (by decide), Int.fmod_lt_of_pos _ (by decide)⟩
  have keep1 : ∀ {m₁ m₂ : Str → Option Value} {x : Str}, x ∉ [Str.ofString "n", Str.ofString "kind", Str.ofString "rest", Str.ofString "here"] → (∀ y, y ≠ x → m₂ y = m₁ y) → (∀ y ∈ [Str.ofString "n", Str.ofString "kind", Str.ofString "rest", Str.ofString "here"], m₁ y = m y) → ∀ y ∈ [Str.ofString "n", Str.ofString "kind", Str.ofString "rest", Str.ofString "here"], m₂ y = m y :=
    fun hx h1 h2 y hy => (h1 y fun e => hx (e ▸ hy)).trans (h2 y hy)
  have k0 : ∀ y ∈ [Str.ofString "n", Str.ofString "kind", Str.ofString "rest", Str.ofString "here"], m y = m y := fun _ _ => rfl
  refine wpAny_If (wpAny_isTrue_Compare1 (nm_l H (.head _) hk (c_int H fun t1 s₁ H₁ => PyProof.Rows.eq_int (wpAny_truthy_bool ?_))))
  by_cases c0 : n.fmod 8 = 0
  · refine ite_pos (by simpa using c0) ?_
    refine wpAny_execs_cons (wpAny_Assign_Name (wpAny_BinOp (wpAny_Call_ofName (nm_b H₁ G.gw.gr.g G.gw.gr.b G.n5 G.b5 (callWith_builtin rfl (evalArgs_plain (spliced_cons (wpAny_BinOp (nm_l H₁ (.head _) hr (c_int (k := 0) (pos := ⟨78, 35, 78, 36⟩) H₁ fun t2 s₂ H₂ => i_fdiv R H₂ (by decide) fun t3 s₃ H₃ => spliced_nil (call_abs_int fun t4 tk' => ?_)))))))))))
    have H₄ : St base os₀ _ { s₃ with toks := tk' } := H₃.tok
    refine wpAny_BinOp (c_int H₄ fun t5 s₄ H₅ => c_int H₅ fun t6 s₅ H₆ => i_pow H₆ (by decide) (by decide) (by decide) (by decide) fun t7 s₆ H₇ => i_mod H₇ (by decide) fun t8 s₇ H₈ => ?_)
    refine st_g H₈ (fun _ => up_head) fun m₁ s₈ e₁ k₁ H₉ => ?_
    have kk₁ := keep1 (by decide) k₁ k0
    generalize hz : (if (n.fdiv 8).fdiv 7 < 0 then -((n.fdiv 8).fdiv 7) else (n.fdiv 8).fdiv 7).fmod (10 ^ Int.toNat 12) = z at e₁
    have zok : z.natAbs < 10 ^ 20 := by rw [← hz]; exact fmod_small (k := 12) (by decide)
    have last : ∀ (z' : Int) tz (m' : Str → Option Value) s', z'.natAbs < 10 ^ 20 → m' (Str.ofString "line") = some (.int z' tz) → (∀ y ∈ [Str.ofString "n", Str.ofString "kind", Str.ofString "rest", Str.ofString "here"], m' y = m y) → St base os₀ ((L, nsA m') :: led) s' →
        wpAny (model prog w) A (execs ((thenOf lineS).drop 2) (lawEnv2 nam L fA cd)) Q E s' := fun z' tz m' s' hz' hl hkp H' => by
      refine wpAny_execs_cons (wpAny_If (wpAny_isTrue_Compare1 (wpAny_BinOp (nm_l H' (.head _) ((hkp _ (by decide)).trans hr) (c_int H' fun t9 s₉ H₁₀ => i_mod H₁₀ (by decide) fun t10 s₁₀ H₁₁ => c_int H₁₁ fun t11 s₁₁ H₁₂ => PyProof.Rows.eq_int (wpAny_truthy_bool ?_))))))
      by_cases c3 : (n.fdiv 8).fmod 7 = 3
      · refine ite_pos (by simpa using c3) (wpAny_execs_cons (wpAny_Assign_Name (c_int H₁₂ fun t12 s₁₂ H₁₃ => st_g H₁₃ (fun _ => up_head) fun m₂ s₁₃ e₂ k₂ H₁₄ => wpAny_execs_nil (wpAny_execs_nil ?_))))
        exact h (.int 0) _ m₂ s₁₃ ⟨_, rfl⟩ (by show (0 : Nat) < 10 ^ 20; decide) e₂ (keep1 (by decide) k₂ hkp) H₁₄
      · refine ite_neg (by simpa using c3) (wpAny_execs_nil (wpAny_execs_nil ?_))
        exact h (.int z') _ m' s₁₁ ⟨_, rfl⟩ hz' hl hkp H₁₂
    refine wpAny_execs_cons (wpAny_If (wpAny_isTrue_Compare1 (nm_l H₉ (.head _) ((kk₁ _ (by decide)).trans hr) (c_int H₉ fun t9 s₉ H₁₀ => PyProof.Rows.lt_int (wpAny_truthy_bool ?_)))))
    by_cases cn : n.fdiv 8 < 0
    · refine ite_pos (decide_eq_true cn) (wpAny_execs_cons (wpAny_Assign_Name (wpAny_UnaryOp (nm_l H₁₀ (.head _) e₁ (i_neg H₁₀ fun t10 s₁₀ H₁₁ => st_g H₁₁ (fun _ => up_head) fun m₂ s₁₁ e₂ k₂ H₁₂ => wpAny_execs_nil ?_)))))
      exact last (-z) t10 m₂ s₁₁ (by omega) e₂ (keep1 (by decide) k₂ kk₁) H₁₂
    · refine ite_neg (fun q => cn (of_decide_eq_true q)) (wpAny_execs_nil ?_)
      exact last z t8 m₁ s₉ zok e₁ kk₁ H₁₀
  refine ite_neg (by simpa using c0) ?_
  refine wpAny_execs_cons (wpAny_If (wpAny_isTrue_Compare1 (nm_l H₁ (.head _) hk (c_int H₁ fun t2 s₂ H₂ => PyProof.Rows.eq_int (wpAny_truthy_bool ?_)))))
  by_cases c1 : n.fmod 8 = 1
  · refine ite_pos (by simpa using c1) (wpAny_execs_cons (wpAny_Assign_Name (wpAny_Constant_none (st_g H₂ (fun _ => up_head) fun m₁ s₃ e₁ k₁ H₃ => wpAny_execs_nil (wpAny_execs_nil ?_)))))
    exact h .none _ m₁ s₃ rfl trivial e₁ (keep1 (by decide) k₁ k0) H₃
  refine ite_neg (by simpa using c1) ?_
  refine wpAny_execs_cons (wpAny_If (wpAny_isTrue_Compare1 (nm_l H₂ (.head _) hk (c_int H₂ fun t3 s₃ H₃ => PyProof.Rows.eq_int (wpAny_truthy_bool ?_)))))
  by_cases c2 : n.fmod 8 = 2
  · refine ite_pos (by simpa using c2) ?_
    have bm : (0 : Int) ≤ ((n.fdiv 8).fdiv 7).fmod 2 ∧ ((n.fdiv 8).fdiv 7).fmod 2 < 2 := ⟨Int.fmod_nonneg_of_pos _ (by decide), Int.fmod_lt_of_pos _ (by decide)⟩
    refine wpAny_execs_cons (wpAny_Assign_Name (Subscript_ (List_ (wpAny_items_cons (wpAny_Constant_bool (k := 0) (pos := ⟨86, 24, 86, 28⟩) (wpAny_items_cons (wpAny_Constant_bool (k := 0) (pos := ⟨86, 30, 86, 35⟩) (wpAny_items_nil (new_list H₃ fun a s₄ H₄ => wpAny_BinOp (wpAny_BinOp (nm_l H₄ (.tail _ (.head _)) hr (c_int H₄ fun t4 s₅ H₅ => i_fdiv R H₅ (by decide) fun t5 s₆ H₆ => c_int H₆ fun t6 s₇ H₇ => i_mod H₇ (by decide) fun t7 s₈ H₈ => ?_))))))))))))
    have hex : ∃ b : Bool, [Value.bool true, Value.bool false][(((n.fdiv 8).fdiv 7).fmod 2).toNat]? = some (.bool b) := by
      have : (((n.fdiv 8).fdiv 7).fmod 2).toNat = 0 ∨ (((n.fdiv 8).fdiv 7).fmod 2).toNat = 1 := by omega
      rcases this with e | e
      · exact ⟨true, by rw [e]; rfl⟩
      · exact ⟨false, by rw [e]; rfl⟩
    obtain ⟨b, hb⟩ := hex
    refine item_l H₈ (.head _) bm.1 (by omega) hb (st_g H₈ (fun _ => .tail .head) fun m₁ s₉ e₁ k₁ H₉ => wpAny_execs_nil (wpAny_execs_nil (wpAny_execs_nil ?_)))
    exact h (.bool b) _ m₁ s₉ rfl trivial e₁ (keep1 (by decide) k₁ k0) (H₉.sub (.cons _ (.refl _)))
  refine ite_neg (by simpa using c2) ?_
  refine wpAny_execs_cons (wpAny_If (wpAny_isTrue_Compare1 (nm_l H₃ (.head _) hk (c_int H₃ fun t4 s₄ H₄ => PyProof.Rows.eq_int (wpAny_truthy_bool ?_)))))
  by_cases c3 : n.fmod 8 = 3
  · refine ite_pos (by simpa using c3) ?_
    refine wpAny_execs_cons (wpAny_Assign_Name (c_str H₄ fun t5 s₅ H₅ => st_g H₅ (fun _ => up_head) fun m₁ s₆ e₁ k₁ H₆ => ?_))
    have kk₁ := keep1 (by decide) k₁ k0
    refine wpAny_execs_cons (wpAny_Assign_Name (wpAny_Call_ofName (nm_b H₆ G.gw.gr.g G.gw.gr.b G.n5 G.b5 (callWith_builtin rfl (evalArgs_plain (spliced_cons (wpAny_BinOp (nm_l H₆ (.head _) ((kk₁ _ (by decide)).trans hr) (c_int (k := 0) (pos := ⟨89, 35, 89, 36⟩) H₆ fun t6 s₇ H₇ => i_fdiv R H₇ (by decide) fun t7 s₈ H₈ => spliced_nil (call_abs_int fun t8 tk' => ?_))))))))))
    have H₉ : St base os₀ _ { s₈ with toks := tk' } := H₈.tok
    refine st_g H₉ (fun _ => up_head) fun m₂ s₉ e₂ k₂ H₁₀ => ?_
    have kk₂ := keep1 (by decide) k₂ kk₁
    generalize hz : (if (n.fdiv 8).fdiv 7 < 0 then -((n.fdiv 8).fdiv 7) else (n.fdiv 8).fdiv 7) = z at e₂
    have bz : (0 : Int) ≤ z.fmod 7 ∧ z.fmod 7 < 7 := ⟨Int.fmod_nonneg_of_pos _ (by decide), Int.fmod_lt_of_pos _ (by decide)⟩
    obtain ⟨cnt, hcnt⟩ : ∃ cnt : Nat, z.fmod 7 = (cnt : Nat) := ⟨(z.fmod 7).toNat, by omega⟩
    refine wpAny_execs_cons (for_range (n := cnt) (base := base) (os₀ := os₀) (t1 := 0) (t := 0) (t2 := 0) (r := 0) (fun i ld => ∃ m₃ x tx lf tl, m₃ (Str.ofString "line") = some (.str x tx) ∧ x.length = i ∧ (∀ c ∈ x.cps.toList, sign c) ∧ m₃ (Str.ofString "left") = some (.int lf tl) ∧
        (∀ y ∈ [Str.ofString "n", Str.ofString "kind", Str.ofString "rest", Str.ofString "here"], m₃ y = m y) ∧ ld = (L, nsA m₃) :: led) hh (by omega) ?_ ?_ ?_)
    · refine wpAny_Call_ofName (nm_b H₁₀ G.gw.gr.g G.gw.gr.b G.n6 G.b6 (callWith_excType rfl (evalArgs_plain (spliced_cons (wpAny_BinOp (nm_l H₁₀ (.head _) e₂ (c_int (k := 0) (pos := ⟨90, 38, 90, 39⟩) H₁₀ fun t9 s₁₀ H₁₁ => i_mod H₁₁ (by decide) fun t10 s₁₁ H₁₂ => spliced_nil ?_)))))))
      rw [hcnt]
      refine r_new (n := cnt) H₁₂ fun rr s₁₂ H₁₃ => ?_
      obtain ⟨v1, v2, H₁₃⟩ := H₁₃
      exact ⟨rr, v1, t10, v2, _, rfl, H₁₃, m₂, _, _, _, _, (k₂ _ (by decide)).trans e₁, by decide, (fun c hc => by rw [show (Str.ofString "").cps.toList = [] by decide] at hc; cases hc), e₂, kk₂, rfl⟩
    · rintro I i v ld s₁₀ E' hi ⟨ti, rfl⟩ ⟨m₃, x, tx, lf, tl, hl₃, hx₃, hs₃, hlf₃, kk₃, rfl⟩ H₁₁
      refine wpAny_assign_Name (st_g H₁₁ (fun _ => .tail .head) fun m₄ s₁₁ e₄ k₄ H₁₂ => ?_)
      have hl₄ := (k₄ (Str.ofString "line") (by decide)).trans hl₃
      have hlf₄ := (k₄ (Str.ofString "left") (by decide)).trans hlf₃
      have bi : (0 : Int) ≤ (lf.fdiv 7).fmod 3 ∧ (lf.fdiv 7).fmod 3 < 3 := ⟨Int.fmod_nonneg_of_pos _ (by decide), Int.fmod_lt_of_pos _ (by decide)⟩
      obtain ⟨ci, hci⟩ : ∃ ci : Nat, (lf.fdiv 7).fmod 3 = (ci : Nat) := ⟨((lf.fdiv 7).fmod 3).toNat, by omega⟩
      have hlt : ci < (Str.ofString "m5 ").cps.toList.length := by
        have e : (Str.ofString "m5 ").cps.toList.length = 3 := by decide
        omega
      refine wpAny_execs_cons (wpAny_AugAssign_Name (ld_l H₁₂ (.tail _ (.head _)) hl₄ (Subscript_ (c_str H₁₂ fun t9 s₁₂ H₁₃ => wpAny_BinOp (wpAny_BinOp (nm_l H₁₃ (.tail _ (.head _)) hlf₄ (c_int H₁₃ fun t10 s₁₃ H₁₄ => i_fdiv R H₁₄ (by decide) fun t11 s₁₄ H₁₅ => c_int H₁₅ fun t12 s₁₅ H₁₆ => i_mod H₁₆ (by decide) fun t13 s₁₆ H₁₇ => ?_)))))))
      rw [hci]
      refine item_s H₁₇ (List.getElem?_eq_getElem hlt) (by decide) fun t14 s₁₇ H₁₈ => ?_
      have hc := sign_m5 (List.getElem?_eq_getElem hlt)
      generalize (Str.ofString "m5 ").cps.toList[ci] = c at hc ⊢
      refine s_iadd H₁₈ (fun t15 s₁₈ H₁₉ => st_g H₁₉ (fun _ => .tail .head) fun m₅ s₁₉ e₅ k₅ H₂₀ => ?_) (by show x.length + 1 ≤ _; exact Nat.le_trans (by omega : _ ≤ 100) (by decide))
      refine wpAny_execs_cons (wpAny_Assign_Name (wpAny_BinOp (nm_l H₂₀ (.tail _ (.head _)) ((k₅ _ (by decide)).trans hlf₄) (c_int H₂₀ fun t16 s₂₀ H₂₁ => i_fdiv R H₂₁ (by decide) fun t17 s₂₁ H₂₂ => st_g H₂₂ (fun _ => .tail .head) fun m₆ s₂₂ e₆ k₆ H₂₃ => wpAny_execs_nil ?_))))
      refine ⟨_, ⟨m₆, x ++ ⟨#[c]⟩, t15, _, _, (k₆ _ (by decide)).trans e₅, ?_, ?_, e₆, keep1 (by decide) k₆ (keep1 (by decide) k₅ (keep1 (by decide) k₄ kk₃)), rfl⟩, H₂₃⟩
      · rw [strLen_append, hx₃]; rfl
      · intro y hy
        have e : (x ++ (⟨#[c]⟩ : Str)).cps.toList = x.cps.toList ++ [c] := by
          show (x.cps ++ #[c]).toList = _
          simp
        rw [e] at hy
        rcases List.mem_append.mp hy with q | q
        · exact hs₃ y q
        · rw [List.mem_singleton] at q; subst q; exact hc
    · rintro ld s₁₀ ⟨m₃, x, tx, lf, tl, hl₃, hx₃, hs₃, hlf₃, kk₃, rfl⟩ H₁₁
      exact wpAny_execs_nil (wpAny_execs_nil (wpAny_execs_nil (wpAny_execs_nil (h (.str x) _ m₃ s₁₀ ⟨_, rfl⟩ ⟨by omega, hs₃⟩ hl₃ kk₃ H₁₁))))
  refine ite_neg (by simpa using c3) ?_
  refine wpAny_execs_cons (wpAny_Assign_Name (wpAny_BinOp (wpAny_Call_ofName (nm_b H₄ G.gw.gr.g G.gw.gr.b G.n5 G.b5 (callWith_builtin rfl (evalArgs_plain (spliced_cons (nm_l H₄ (.head _) hr (spliced_nil (call_abs_int fun t5 tk' => ?_))))))))))
  have H₅ : St base os₀ _ { s₄ with toks := tk' } := H₄.tok
  refine wpAny_BinOp (c_int H₅ fun t6 s₅ H₆ => wpAny_BinOp (nm_l H₆ (.head _) hk (c_int H₆ fun t7 s₆ H₇ => i_sub H₇ fun t8 s₇ H₈ => i_pow H₈ (by decide) (by decide) (by omega) (by omega) fun t9 s₈ H₉ => i_mod H₉ (Int.ne_of_gt (Int.pow_pos (by decide))) fun t10 s₉ H₁₀ => ?_)))
  refine st_g H₁₀ (fun _ => up_head) fun m₁ s₁₀ e₁ k₁ H₁₁ => ?_
  have kk₁ := keep1 (by decide) k₁ k0
  generalize hz : (if n.fdiv 8 < 0 then -(n.fdiv 8) else n.fdiv 8).fmod (10 ^ (n.fmod 8 - 2).toNat) = z at e₁
  have zok : z.natAbs < 10 ^ 20 := by rw [← hz]; exact fmod_small (by omega)
  refine wpAny_execs_cons (wpAny_If (wpAny_isTrue_Compare1 (wpAny_BinOp (nm_l H₁₁ (.head _) ((kk₁ _ (by decide)).trans hn) (c_int H₁₁ fun t11 s₁₁ H₁₂ => i_mod H₁₂ (by decide) fun t12 s₁₂ H₁₃ => c_int H₁₃ fun t13 s₁₃ H₁₄ => PyProof.Rows.eq_int (wpAny_truthy_bool ?_))))))
  by_cases cm : n.fmod 3 = 0
  · refine ite_pos (by simpa using cm) (wpAny_execs_cons (wpAny_Assign_Name (wpAny_UnaryOp (nm_l H₁₄ (.head _) e₁ (i_neg H₁₄ fun t14 s₁₄ H₁₅ => st_g H₁₅ (fun _ => up_head) fun m₂ s₁₅ e₂ k₂ H₁₆ => wpAny_execs_nil (wpAny_execs_nil (wpAny_execs_nil (wpAny_execs_nil (wpAny_execs_nil ?_)))))))))
    exact h (.int (-z)) _ m₂ s₁₅ ⟨_, rfl⟩ (by show (-z).natAbs < 10 ^ 20; omega) e₂ (keep1 (by decide) k₂ kk₁) H₁₆
  · refine ite_neg (by simpa using cm) (wpAny_execs_nil (wpAny_execs_nil (wpAny_execs_nil (wpAny_execs_nil (wpAny_execs_nil ?_)))))
    exact h (.int z) _ m₁ s₁₃ ⟨_, rfl⟩ zok e₁ kk₁ H₁₄
end
end Mine

namespace Mine
open PySem PySem.W PyProof.Rows PySem.Calls PySem.Spec
/-! the table and the pairs, plainly -/
theorem key_uniq {kvs : List (Int × Value)} (hn : (kvs.map (·.1)).Nodup) {i j : Nat} {k : Int} {v u : Value} (hi : kvs[i]? = some (k, v)) (hj : kvs[j]? = some (k, u)) : i = j := by
  have hli : i < kvs.length := by
    rcases Nat.lt_or_ge i kvs.length with q | q
    · exact q
    · rw [List.getElem?_eq_none q] at hi; cases hi
  have h1 : (kvs.map (·.1))[i]? = some k := by rw [List.getElem?_map, hi]; rfl
  have h2 : (kvs.map (·.1))[j]? = some k := by rw [List.getElem?_map, hj]; rfl
  exact (List.getElem?_inj (by simpa using hli) hn).mp (h1.trans h2.symm)
theorem idxs_nil {kvs : List (Int × Value)} {k : Int} (h : idxs kvs k kvs.length = []) : ∀ (i : Nat) (v : Value), kvs[i]? ≠ some (k, v) := by
  intro i v e
  have hli : i < kvs.length := by
    rcases Nat.lt_or_ge i kvs.length with q | q
    · exact q
    · rw [List.getElem?_eq_none q] at e; cases e
  unfold idxs at h
  rw [List.map_eq_nil_iff, List.filter_eq_nil_iff] at h
  have := h i (List.mem_range.mpr hli)
  rw [List.getElem?_map, e] at this
  simp at this
theorem idxs_cons {kvs : List (Int × Value)} {k j' : Int} {r : List Int} (h : idxs kvs k kvs.length = j' :: r) : ∃ j v, j' = ((j : Nat) : Int) ∧ kvs[j]? = some (k, v) := by
  have hm : j' ∈ idxs kvs k kvs.length := by rw [h]; exact .head _
  unfold idxs at hm
  obtain ⟨j, hj, rfl⟩ := List.mem_map.mp hm
  obtain ⟨hr, hd⟩ := List.mem_filter.mp hj
  have hlt := List.mem_range.mp hr
  have hd := of_decide_eq_true hd
  rw [List.getElem?_map, List.getElem?_eq_getElem hlt] at hd
  simp at hd
  exact ⟨j, kvs[j].2, rfl, by rw [List.getElem?_eq_getElem hlt, ← hd]⟩
theorem stored_new {kvs : List (Int × Value)} {k : Int} (h : ∀ (i : Nat) (v : Value), kvs[i]? ≠ some (k, v)) (v : Value) : stored kvs k v = kvs ++ [(k, v)] := by
  unfold stored
  rw [if_neg]
  simp only [List.any_eq_true, decide_eq_true_eq, not_exists, not_and]
  intro x hx e
  obtain ⟨i, hi⟩ := List.mem_iff_getElem?.mp hx
  exact h i x.2 (by rw [hi, ← e])
theorem stored_old {kvs : List (Int × Value)} (hn : (kvs.map (·.1)).Nodup) {k : Int} {j : Nat} {u : Value} (h : kvs[j]? = some (k, u)) (v : Value) : stored kvs k v = kvs.set j (k, v) := by
  unfold stored
  rw [if_pos]
  · refine List.ext_getElem? fun i => ?_
    rw [List.getElem?_map, List.getElem?_set]
    by_cases e : j = i
    · subst e
      have hlt : j < kvs.length := by
        rcases Nat.lt_or_ge j kvs.length with q | q
        · exact q
        · rw [List.getElem?_eq_none q] at h; cases h
      rw [if_pos rfl, if_pos hlt, h]; simp
    · rw [if_neg e]
      cases hi : kvs[i]? with
      | none => rfl
      | some x =>
        obtain ⟨k', w⟩ := x
        simp only [Option.map_some]
        rw [if_neg]
        intro q
        have q : k' = k := q
        subst q
        exact e (key_uniq hn h hi)
  · rw [List.any_eq_true]
    exact ⟨(k, u), List.mem_of_getElem? h, by simp⟩
theorem without_old : ∀ {kvs : List (Int × Value)} (hn : (kvs.map (·.1)).Nodup) {k : Int} {j : Nat} {u : Value} (h : kvs[j]? = some (k, u)), without kvs k = kvs.eraseIdx j
  | [], _, _, _, _, h => by simp at h
  | (k', w) :: r, hn, k, 0, u, h => by
    simp only [List.getElem?_cons_zero, Option.some.injEq, Prod.mk.injEq] at h
    obtain ⟨rfl, rfl⟩ := h
    simp only [List.map_cons, List.nodup_cons] at hn
    show without ((k', w) :: r) k' = r
    unfold without
    rw [List.filter_cons_of_neg (by simp)]
    exact without_of_not_mem r k' hn.1
  | (k', w) :: r, hn, k, j + 1, u, h => by
    simp only [List.map_cons, List.nodup_cons] at hn
    simp only [List.getElem?_cons_succ] at h
    have hne : k' ≠ k := fun e => hn.1 (e ▸ List.mem_map_of_mem (f := (·.1)) (List.mem_of_getElem? h))
    show without ((k', w) :: r) k = (k', w) :: r.eraseIdx j
    unfold without
    rw [List.filter_cons_of_pos (by simpa using hne)]
    congr 1
    exact without_old hn.2 h
theorem VL.set {kvs : List (Int × Value)} {ls : List Ln} (h : VL kvs ls) {j : Nat} {k : Int} {v : Value} {l : Ln} (hv : LnV l v) : VL (kvs.set j (k, v)) (ls.set j l) := by
  refine ⟨by simp [h.1], fun i l' e => ?_⟩
  rw [List.getElem?_set] at e ⊢
  by_cases q : j = i
  · subst q
    rw [if_pos rfl] at e ⊢
    split at e
    · rename_i hlt
      cases e
      rw [if_pos (by rw [h.1]; exact hlt)]
      exact ⟨k, v, rfl, hv⟩
    · cases e
  · rw [if_neg q] at e ⊢
    exact h.2 i l' e
theorem VL.snoc {kvs : List (Int × Value)} {ls : List Ln} (h : VL kvs ls) {k : Int} {v : Value} {l : Ln} (hv : LnV l v) : VL (kvs ++ [(k, v)]) (ls ++ [l]) := by
  refine ⟨by simp [h.1], fun i l' e => ?_⟩
  by_cases hi : i < ls.length
  · rw [List.getElem?_append_left hi] at e
    rw [List.getElem?_append_left (by rw [h.1]; exact hi)]
    exact h.2 i l' e
  · rw [List.getElem?_append_right (by omega)] at e
    rw [List.getElem?_append_right (by rw [h.1]; omega), h.1]
    have : i - ls.length = 0 := by
      rcases Nat.eq_zero_or_pos (i - ls.length) with q | q
      · exact q
      · rw [List.getElem?_eq_none (by simp; omega)] at e; cases e
    rw [this] at e ⊢
    simp at e; subst e
    exact ⟨k, v, rfl, hv⟩
theorem VL.erase {kvs : List (Int × Value)} {ls : List Ln} (h : VL kvs ls) (j : Nat) : VL (kvs.eraseIdx j) (ls.eraseIdx j) := by
  refine ⟨by rw [List.length_eraseIdx, List.length_eraseIdx, h.1], fun i l' e => ?_⟩
  rw [List.getElem?_eraseIdx] at e ⊢
  split at e
  · rename_i q; rw [if_pos q]; exact h.2 _ _ e
  · rename_i q; rw [if_neg q]; exact h.2 _ _ e
theorem PT.set {pv : List Value} {kvs : List (Int × Value)} {nl : Led} (h : PT pv kvs nl) {j : Nat} {k : Int} {v : Value} {a : Addr} {t : Tok} : PT (pv.set j (.ref a)) (kvs.set j (k, v)) ((a, tupA [.int k t, v]) :: nl) := by
  refine ⟨by simp [h.1], fun i p u e => ?_⟩
  rw [List.getElem?_set] at e ⊢
  by_cases q : j = i
  · subst q
    rw [if_pos rfl] at e ⊢
    split at e
    · rename_i hlt
      cases e
      rw [if_pos (by rw [h.1]; exact hlt)]
      exact ⟨a, t, rfl, .head _⟩
    · cases e
  · rw [if_neg q] at e ⊢
    obtain ⟨b, tb, h1, h2⟩ := h.2 i p u e
    exact ⟨b, tb, h1, .tail _ h2⟩
theorem PT.snoc {pv : List Value} {kvs : List (Int × Value)} {nl : Led} (h : PT pv kvs nl) {k : Int} {v : Value} {a : Addr} {t : Tok} : PT (pv ++ [.ref a]) (kvs ++ [(k, v)]) ((a, tupA [.int k t, v]) :: nl) := by
  refine ⟨by simp [h.1], fun i p u e => ?_⟩
  by_cases hi : i < kvs.length
  · rw [List.getElem?_append_left hi] at e
    rw [List.getElem?_append_left (by rw [h.1]; exact hi)]
    obtain ⟨b, tb, h1, h2⟩ := h.2 i p u e
    exact ⟨b, tb, h1, .tail _ h2⟩
  · rw [List.getElem?_append_right (by omega)] at e
    rw [List.getElem?_append_right (by rw [h.1]; omega), h.1]
    have : i - kvs.length = 0 := by
      rcases Nat.eq_zero_or_pos (i - kvs.length) with q | q
      · exact q
      · rw [List.getElem?_eq_none (by simp; omega)] at e; cases e
    rw [this] at e ⊢
    simp at e; obtain ⟨rfl, rfl⟩ := e
    exact ⟨a, t, rfl, .head _⟩
theorem PT.erase {pv : List Value} {kvs : List (Int × Value)} {nl : Led} (h : PT pv kvs nl) (j : Nat) : PT (pv.eraseIdx j) (kvs.eraseIdx j) nl := by
  refine ⟨by rw [List.length_eraseIdx, List.length_eraseIdx, h.1], fun i p u e => ?_⟩
  rw [List.getElem?_eraseIdx] at e ⊢
  split at e
  · rename_i q; rw [if_pos q]; exact h.2 _ _ _ e
  · rename_i q; rw [if_neg q]; exact h.2 _ _ _ e
section
variable {prog : Program} {w : World} {A : Around} {E : Value → Shared → Prop} {s : Shared} {base : Heap} {os₀ : OsState} {nl tail : Led} {mg mb : Str → Option Value} {fW fR fU fK p d L fA hl : Addr} {wd rd ud kd : FuncData} {m : Str → Option Value} {pv hv : List Value} {kvs : List (Int × Value)} {ls : List Ln} {nam : Str} {cd : Value} {Q : Flow → Shared → Prop}
set_option maxHeartbeats 1600000 in
/-- the deed of a turn -/
theorem deed_ok {n : Int} {t tk tr tp : Tok} (G : G2 base mg mb fW fR fU fK wd rd ud kd) (R : Room prog w A base) (hP : PT pv kvs nl) (hV : VL kvs ls) (hok : ∀ l ∈ ls, l.ok) (hlen : ls.length ≤ 99) (hhv : IntsAre hv (idxs kvs (plc n) kvs.length))
    (hn : m (Str.ofString "n") = some (.int n t)) (hk : m (Str.ofString "kind") = some (.int (n.fmod 8) tk)) (hr : m (Str.ofString "rest") = some (.int (n.fdiv 8) tr)) (hhe : m (Str.ofString "here") = some (.ref hl))
    (H : St base os₀ ((L, nsA m) :: (core2 (prog := prog) (w := w) L d p (some (.int (plc n) tp)) kvs pv ++ ((hl, lstA hv) :: (nl ++ tail)))) s)
    (h : ∀ kvs' pv' ls' nl' m' s', PT pv' kvs' nl' → VL kvs' ls' → (∀ l ∈ ls', l.ok) → ls'.length ≤ ls.length + 1 → St base os₀ ((L, nsA m') :: (core2 (prog := prog) (w := w) L d p (some (.int (plc n) tp)) kvs' pv' ++ (nl' ++ tail))) s' →
      wpAny (model prog w) A (execs (turn2.drop 5) (lawEnv2 nam L fA cd)) Q E s') :
    wpAny (model prog w) A (execs (turn2.drop 4) (lawEnv2 nam L fA cd)) Q E s := by
  have hh := R.handled
  obtain ⟨o₀, hsys⟩ := G.gw.gr.sys
  have hnd : (kvs.map (·.1)).Nodup := by
    obtain ⟨o, es, ep, _, _, _, _, _, hn⟩ := H.isDict (a := d) (kvs := kvs) (knd := intKind prog w) (by k_mem); exact hn
  have lk : kvs.length ≤ 99 := by rw [hV.1]; exact hlen
  have lp : pv.length ≤ 99 := by rw [hP.1]; exact lk
  have lz : kvs.length ≤ sizeLine := Nat.le_trans lk (by decide)
  have lh : hv.length ≤ 99 := by
    rw [(allInt_of hhv).2]; unfold idxs
    rw [List.length_map]
    exact Nat.le_trans (List.length_filter_le ..) (by rw [List.length_range]; exact lk)
  have zh : ((hv.toArray.size : Nat) : Int) < 2 ^ 63 := by rw [List.size_toArray]; omega
  refine wpAny_execs_cons (wpAny_If (wpAny_isTrue_Compare1 (nm_l H (.head _) hk (c_int H fun t1 s₁ H₁ => PyProof.Rows.eq_int (wpAny_truthy_bool ?_)))))
  by_cases c7 : n.fmod 8 = 7
  · refine ite_pos (by simpa using c7) (wpAny_execs_cons (wpAny_If (wpAny_isTrue_value (nm_l H₁ (.head _) hhe (wpAny_truthy_list (H₁.isList (a := hl) (vs := hv) (by k_mem)) zh ?_)))))
    have H₂ : St base os₀ _ { s₁ with toks := s₁.toks + 1 + 1 } := H₁.tok
    cases hi : idxs kvs (plc n) kvs.length with
    | nil =>
      rw [hi] at hhv
      cases hhv
      refine ite_neg (by decide) (wpAny_execs_nil (wpAny_execs_nil ?_))
      refine h kvs pv ls ((hl, lstA []) :: nl) m _ (hP.mono fun x hx => .tail _ hx) hV hok (by omega) H₂
    | cons j' r =>
      obtain ⟨j, v, rfl, hj⟩ := idxs_cons hi
      rw [hi] at hhv
      cases hhv with
      | @cons _ tj hvr _ hr' =>
        refine ite_pos (by simp) ?_
        have hva : valueAt kvs (plc n) = some v := valueAt_get hnd hj
        have hjp : j < pv.length := by
          rw [hP.1]
          rcases Nat.lt_or_ge j kvs.length with q | q
          · exact q
          · rw [List.getElem?_eq_none q] at hj; cases hj
        refine wpAny_execs_cons (wpAny_Expr_any (wpAny_Call_method1_late rfl rfl rfl (nm_c H₂ rfl (.tail _ (.head _)) (di_pop H₂ (by k_mem) lz (nm_c H₂ rfl (.tail _ (.tail _ (.tail _ (.head _)))) ⟨_, _, v, _, rfl, H₂, hva, .tail (.tail (.tail (.tail .head))), fun s₃ H₃ => ?_⟩)))))
        refine wpAny_execs_cons (wpAny_Expr_any (wpAny_Call_method1_late rfl rfl rfl (nm_c H₃ rfl (.tail _ (.tail _ (.head _))) (li_pop (l := p) (vs := pv) H₃ (by k_mem) (Subscript_ (nm_l H₃ (.head _) hhe (c_int H₃ fun t2 s₄ H₄ => item_l (vs := .int ((j : Nat) : Int) tj :: hvr) H₄ (by k_mem) (by decide) (by decide) rfl ⟨j, _, pv[j], _, rfl, H₄, List.getElem?_eq_getElem hjp, by omega, .tail (.tail (.tail (.tail (.tail .head)))), fun s₅ H₅ => wpAny_execs_nil (wpAny_execs_nil ?_)⟩)))))))
        rw [without_old hnd hj] at H₅
        refine h (kvs.eraseIdx j) (pv.eraseIdx j) (ls.eraseIdx j) ((hl, lstA (.int ((j : Nat) : Int) tj :: hvr)) :: nl) m s₅ ((hP.erase j).mono fun x hx => .tail _ hx) (hV.erase j) (fun l hl => hok l (List.mem_of_mem_eraseIdx hl)) ?_ H₅
        have := List.length_eraseIdx_le ls j
        omega
  · refine ite_neg (by simpa using c7) ?_
    refine wpAny_execs_cons (line2_ok G R hn hk hr H₁ fun l v m₁ s₂ hln hlo e₁ k₁ H₂ => ?_)
    have hhe₁ := (k₁ (Str.ofString "here") (by decide)).trans hhe
    refine wpAny_execs_cons (wpAny_Assign_Subscript (nm_l H₂ (.head _) e₁ (nm_c H₂ rfl (.tail _ (.head _)) (nm_c H₂ rfl (.tail _ (.tail _ (.tail _ (.head _)))) (di_set H₂ (.tail (.tail (.tail (.tail .head)))) (fun s₃ H₃ => ?_) lz)))))
    refine wpAny_execs_cons (wpAny_If (wpAny_isTrue_value (nm_l H₃ (.head _) hhe₁ (wpAny_truthy_list (H₃.isList (a := hl) (vs := hv) (by k_mem)) zh ?_))))
    have H₄ : St base os₀ _ { s₃ with toks := s₃.toks + 1 + 1 } := H₃.tok
    cases hi : idxs kvs (plc n) kvs.length with
    | nil =>
      rw [hi] at hhv
      cases hhv
      refine ite_neg (by decide) ?_
      have hno := idxs_nil hi
      rw [stored_new hno] at H₄
      refine wpAny_execs_cons (wpAny_Expr (l_append_stmt (l := p) (nm_c H₄ rfl (.tail _ (.tail _ (.head _))) ⟨rfl, ?_, ?_⟩)))
      · obtain ⟨ol, hol, nn, rfl⟩ := H₄.get (a := p) (P := lstA pv) (by k_mem); exact ⟨_, hol, rfl, rfl⟩
      refine Tuple_ (wpAny_items_cons (nm_c H₄ rfl (.tail _ (.tail _ (.tail _ (.head _)))) (wpAny_items_cons (nm_l H₄ (.head _) e₁ (wpAny_items_nil (new_tuple H₄ fun a s₅ H₅ => ?_))))))
      refine l_append H₅ (.tail (.tail (.tail (.tail (.tail (.tail .head)))))) (fun s₆ H₆ => wpAny_execs_nil (wpAny_execs_nil ?_)) (Nat.le_trans lp (by decide))
      refine h (kvs ++ [(plc n, v)]) (pv ++ [.ref a]) (ls ++ [l]) ((a, tupA [.int (plc n) tp, v]) :: (hl, lstA []) :: nl) m₁ s₆ ((hP.mono fun x hx => .tail _ hx).snoc) (hV.snoc hln) (fun x hx => ?_) (by simp) (H₆.perm ?_)
      · rcases List.mem_append.mp hx with q | q
        · exact hok x q
        · rw [List.mem_singleton] at q; subst q; exact hlo
      · exact (List.perm_middle (l₁ := (L, nsA m₁) :: core2 (prog := prog) (w := w) L d p (some (.int (plc n) tp)) (kvs ++ [(plc n, v)]) (pv ++ [.ref a])))
    | cons j' r =>
      obtain ⟨j, u, rfl, hj⟩ := idxs_cons hi
      rw [hi] at hhv
      cases hhv with
      | @cons _ tj hvr _ hr' =>
        refine ite_pos (by simp) ?_
        rw [stored_old hnd hj] at H₄
        have hjp : j < pv.length := by
          rw [hP.1]
          rcases Nat.lt_or_ge j kvs.length with q | q
          · exact q
          · rw [List.getElem?_eq_none q] at hj; cases hj
        refine wpAny_execs_cons (wpAny_Assign_Subscript (Tuple_ (wpAny_items_cons (nm_c H₄ rfl (.tail _ (.tail _ (.tail _ (.head _)))) (wpAny_items_cons (nm_l H₄ (.head _) e₁ (wpAny_items_nil (new_tuple H₄ fun a s₅ H₅ => nm_c H₅ rfl (.tail _ (.tail _ (.tail _ (.head _)))) (Subscript_ (nm_l H₅ (.tail _ (.head _)) hhe₁ (c_int H₅ fun t2 s₆ H₆ => item_l (vs := .int ((j : Nat) : Int) tj :: hvr) H₆ (by k_mem) (by decide) (by decide) rfl
          (l_set H₆ (.tail (.tail (.tail (.tail (.tail (.tail .head)))))) (by omega) (by omega) (by omega) fun s₇ H₇ => wpAny_execs_nil (wpAny_execs_nil ?_)))))))))))))
        rw [Int.toNat_natCast] at H₇
        refine h (kvs.set j (plc n, v)) (pv.set j (.ref a)) (ls.set j l) ((a, tupA [.int (plc n) tp, v]) :: (hl, lstA (.int ((j : Nat) : Int) tj :: hvr)) :: nl) m₁ s₇ ((hP.mono fun x hx => .tail _ hx).set) (hV.set hln) (fun x hx => ?_) (by simp) (H₇.perm ?_)
        · rcases List.mem_or_eq_of_mem_set hx with q | q
          · exact hok x q
          · subst q; exact hlo
        · exact (List.perm_middle (l₁ := (L, nsA m₁) :: core2 (prog := prog) (w := w) L d p (some (.int (plc n) tp)) (kvs.set j (plc n, v)) (pv.set j (.ref a))))
end
end Mine

namespace Mine
open PySem PySem.W PyProof.Rows PySem.Calls PySem.Spec
section
variable {prog : Program} {w : World} {A : Around} {E : Value → Shared → Prop} {s : Shared} {base : Heap} {os₀ : OsState} {nl tail led : Led} {mg mb : Str → Option Value} {fW fR fU fK p d L fA : Addr} {wd rd ud kd : FuncData} {m : Str → Option Value} {pv : List Value} {kvs : List (Int × Value)} {ls : List Ln} {nam : Str} {cd : Value} {Q : Flow → Shared → Prop} {o : Option Value}
theorem di_itemE {k : Int} {tk : Tok} {v : Value} {ep : Nat} {Q : Value → Shared → Prop} {value slice : Expr} (H : St base os₀ led s) (hd : (d, dctE (intKind prog w) kvs ep) ∈ led) (hv : valueAt kvs k = some v) (h : ∀ s', St base os₀ led s' → Q v s')
    (hsu : subscripted slice false (.ref d) (.int k tk) = operate [.ref d, .int k tk] (getItem (.ref d) (.int k tk)) := by with_unfolding_all rfl) :
    wpAny (model prog w) A (subscriptTail value slice (.ref d) (.int k tk)) Q E s :=
  subscriptTail_builtinR (H.dictAt hd).dictOf.typeIs slot_dict_getitem.lookup (wpAny_getItem_of (intKind_is prog w k tk) (H.dictAt hd).dictOf.mapOf hv ⟨rfl, h _ H.tok⟩) hsu
theorem pairs_eq {ys : List Value} {nl2 : Led} (h1 : PT ys kvs nl2) (h2 : PT pv kvs nl) (H : St base os₀ led s) (m1 : ∀ x ∈ nl2, x ∈ led) (m2 : ∀ x ∈ nl, x ∈ led) (hu : A.units < cLine) : ys.length = pv.length ∧ ∀ x ∈ ys.zip pv, EqW prog w A s x.1 x.2 true := by
  refine ⟨by rw [h1.1, h2.1], fun x hx => ?_⟩
  obtain ⟨i, hi⟩ := List.mem_iff_getElem?.mp hx
  obtain ⟨a1, a2⟩ := List.getElem?_zip_eq_some.mp hi
  have hlt : i < kvs.length := by
    rw [← h1.1]
    rcases Nat.lt_or_ge i ys.length with q | q
    · exact q
    · rw [List.getElem?_eq_none q] at a1; cases a1
  obtain ⟨a, ta, e1, e2⟩ := h1.2 i kvs[i].1 kvs[i].2 (List.getElem?_eq_getElem hlt)
  obtain ⟨b, tb, f1, f2⟩ := h2.2 i kvs[i].1 kvs[i].2 (List.getElem?_eq_getElem hlt)
  rw [e1] at a1
  rw [f1] at a2
  rw [← Option.some.inj a1, ← Option.some.inj a2]
  by_cases hne : a = b
  · subst hne; exact EqW.self _
  · refine EqW.tups (vs := [.int kvs[i].1 ta, kvs[i].2]) (us := [.int kvs[i].1 tb, kvs[i].2]) hne (H.isTup (m1 _ e2)) (H.isTup (m2 _ f2)) rfl hu fun y hy => ?_
    simp only [List.zip_cons_cons, List.zip_nil_right, List.mem_cons, List.not_mem_nil, or_false] at hy
    rcases hy with rfl | rfl
    · have := SeqAt.EqAt.int_int (A := A.in1) (s := s) kvs[i].1 ta kvs[i].1 tb
      rw [beq_self_eq_true] at this
      exact EqW.of this
    · exact EqW.self _
set_option maxHeartbeats 1600000 in
/-- the checks of a turn -/
theorem check_ok (G : G2 base mg mb fW fR fU fK wd rd ud kd) (hS : base.NoSeer) (htr : prog.given.tree = none) (hfr : A.frames = some [lawEnv2 nam L fA cd]) (hd : A.depth + 300 < recursionLimit) (hu : A.units + 100 < cLine) (hh : A.handled = none) (hP : PT pv kvs nl) (hV : VL kvs ls) (hok : ∀ l ∈ ls, l.ok) (hlen : ls.length ≤ 99)
    (H : St base os₀ ((L, nsA m) :: (core2 (prog := prog) (w := w) L d p o kvs pv ++ (nl ++ tail))) s)
    (h : ∀ s', St base os₀ ((L, nsA m) :: (core2 (prog := prog) (w := w) L d p o kvs pv ++ (nl ++ tail))) s' → Q .next s') :
    wpAny (model prog w) A (execs (turn2.drop 5) (lawEnv2 nam L fA cd)) Q E s := by
  obtain ⟨o₀, hsys⟩ := G.gw.gr.sys
  obtain ⟨oK, hoK, hdK⟩ := G.dk.obj
  obtain ⟨oU, hoU, hdU⟩ := G.du.obj
  have hnd : (kvs.map (·.1)).Nodup := by
    obtain ⟨oo, es, ep, _, _, _, _, _, hn⟩ := H.isDict (a := d) (kvs := kvs) (knd := intKind prog w) (by k_mem); exact hn
  have Hd : ∀ {s'}, St base os₀ ((L, nsA m) :: (core2 (prog := prog) (w := w) L d p o kvs pv ++ (nl ++ tail))) s' → St base os₀ ((d, dctA (intKind prog w) kvs) :: (L, nsA m) :: (L + 1, celA (some (.ref d))) :: (L + 2, celA (some (.ref p))) :: (L + 3, celA o) :: (p, lstA pv) :: (nl ++ tail)) s' := fun H' => H'.perm (by
    repeat (first | exact List.Perm.refl _ | refine Pick.perm (by (repeat (first | exact Pick.head | apply Pick.tail))) ?_))
  have Hdb : ∀ {s'}, St base os₀ ((d, dctA (intKind prog w) kvs) :: (L, nsA m) :: (L + 1, celA (some (.ref d))) :: (L + 2, celA (some (.ref p))) :: (L + 3, celA o) :: (p, lstA pv) :: (nl ++ tail)) s' → St base os₀ ((L, nsA m) :: (core2 (prog := prog) (w := w) L d p o kvs pv ++ (nl ++ tail))) s' := fun H' => H'.perm (by
    repeat (first | exact List.Perm.refl _ | refine Pick.perm (by (repeat (first | exact Pick.head | apply Pick.tail))) ?_))
  have Hp : ∀ {s'}, St base os₀ ((L, nsA m) :: (core2 (prog := prog) (w := w) L d p o kvs pv ++ (nl ++ tail))) s' → St base os₀ ((p, lstA pv) :: (L, nsA m) :: (L + 1, celA (some (.ref d))) :: (L + 2, celA (some (.ref p))) :: (L + 3, celA o) :: (d, dctA (intKind prog w) kvs) :: (nl ++ tail)) s' := fun H' => H'.perm (by
    repeat (first | exact List.Perm.refl _ | refine Pick.perm (by (repeat (first | exact Pick.head | apply Pick.tail))) ?_))
  have Hpb : ∀ {s'}, St base os₀ ((p, lstA pv) :: (L, nsA m) :: (L + 1, celA (some (.ref d))) :: (L + 2, celA (some (.ref p))) :: (L + 3, celA o) :: (d, dctA (intKind prog w) kvs) :: (nl ++ tail)) s' → St base os₀ ((L, nsA m) :: (core2 (prog := prog) (w := w) L d p o kvs pv ++ (nl ++ tail))) s' := fun H' => H'.perm (by
    repeat (first | exact List.Perm.refl _ | refine Pick.perm (by (repeat (first | exact Pick.head | apply Pick.tail))) ?_))
  have hF : FramesOk ((L, nsA m) :: (L + 1, celA (some (.ref d))) :: (L + 2, celA (some (.ref p))) :: (L + 3, celA o) :: (p, lstA pv) :: (nl ++ tail)) [lawEnv2 nam L fA cd] := FramesOk.cons (fun env he => by cases he) (by intro q; cases q) rfl (.head _)
  have hPp : PT pv kvs ((L, nsA m) :: (L + 1, celA (some (.ref d))) :: (L + 2, celA (some (.ref p))) :: (L + 3, celA o) :: (d, dctA (intKind prog w) kvs) :: (nl ++ tail)) := hP.mono fun x hx => .tail _ (.tail _ (.tail _ (.tail _ (.tail _ (List.mem_append_left _ hx)))))
  have row6 : ∀ s', St base os₀ ((L, nsA m) :: (core2 (prog := prog) (w := w) L d p o kvs pv ++ (nl ++ tail))) s' → wpAny (model prog w) A (execs (turn2.drop 6) (lawEnv2 nam L fA cd)) Q E s' := fun s₁ H₁ => by
    refine wpAny_execs_cons (wpAny_If (wpAny_isTrue_Compare1 (comp_expr (base := base) (os₀ := os₀) (cl := [(Str.ofString "table", L + 1)]) (V := fun C => varL C (Str.ofString "key")) (mk := fun C => compEnvC _ [(Str.ofString "table", L + 1)] C _) rfl (env_loc (by decide) rfl) (fun C => Var.loc rfl rfl) ?_ rfl (by decide))))
    obtain ⟨ep, H₂⟩ := (Hd H₁).seeEp
    have hns : (d == sysModules) = false := H₂.notSys (a := d) (P := dctE (intKind prog w) kvs ep) (.head _) hsys
    refine nm_c H₂ rfl (.tail _ (.tail _ (.head _))) (wpAny_pyIter_dict (knd := intKind prog w) (kvs := kvs) (ep := ep) hns (H₂.dictAt (.head _)) ?_)
    refine ⟨_, kvs.length, _, keyA d kvs.length ep, [(d, dctE (intKind prog w) kvs ep)], (L, nsA m) :: (L + 1, celA (some (.ref d))) :: (L + 2, celA (some (.ref p))) :: (L + 3, celA o) :: (p, lstA pv) :: (nl ++ tail),
      fun i ys led' => ∃ nl2, PT ys (kvs.take i) nl2 ∧ led' = nl2 ++ ((L, nsA m) :: (L + 1, celA (some (.ref d))) :: (L + 2, celA (some (.ref p))) :: (L + 3, celA o) :: (p, lstA pv) :: (nl ++ tail)), rfl, Iter.keys hh, Nat.le_trans (by rw [hV.1]; exact hlen : kvs.length ≤ 99) (by decide), H₂.push (tk := s₁.toks) rfl ⟨rfl, rfl⟩, ⟨[], ⟨rfl, fun i q v e => by simp at e⟩, rfl⟩, ?_, ?_⟩
    · rintro C D i v ys vl led' s₂ E' hi ⟨k, x, t, hkv, rfl⟩ ⟨nl2, hPT, rfl⟩ ⟨mC, rfl, hmC⟩ H₃
      have hk := hmC _ rfl
      have hva : valueAt kvs k = some x := valueAt_get hnd hkv
      have mc : ∀ (a b c e : Addr × Asn), (L + 1, celA (some (.ref d))) ∈ (a :: b :: c :: e :: (nl2 ++ ((L, nsA m) :: (L + 1, celA (some (.ref d))) :: (L + 2, celA (some (.ref p))) :: (L + 3, celA o) :: (p, lstA pv) :: (nl ++ tail)))) := fun _ _ _ _ => .tail _ (.tail _ (.tail _ (.tail _ (List.mem_append_right _ (.tail _ (.head _))))))
      refine wpAny_tests_nil (ite_pos rfl (Tuple_ (wpAny_items_cons (nm_l H₃ (.head _) hk (wpAny_items_cons (Subscript_ (nm_c H₃ rfl (mc _ _ _ _) (nm_l H₃ (.head _) hk (di_itemE (d := d) H₃ (.tail _ (.tail _ (.tail _ (.head _)))) hva fun s₃ H₄ => wpAny_items_nil (new_tuple H₄ fun a s₄ H₅ => ?_))))))))))
      refine ⟨((a, tupA [.int k t, x]) :: nl2) ++ ((L, nsA m) :: (L + 1, celA (some (.ref d))) :: (L + 2, celA (some (.ref p))) :: (L + 3, celA o) :: (p, lstA pv) :: (nl ++ tail)), ⟨_, ?_, rfl⟩, H₅.perm (List.perm_middle (l₁ := [_, _, _, _]))⟩
      rw [List.take_add_one, hkv]
      exact hPT.snoc
    · rintro D ys led' ⟨nl2, hPT, rfl⟩ hl' s₂ H₃
      rw [List.take_length] at hPT
      have mp : ∀ (a b : Addr × Asn), (p, lstA pv) ∈ (a :: b :: (nl2 ++ ((L, nsA m) :: (L + 1, celA (some (.ref d))) :: (L + 2, celA (some (.ref p))) :: (L + 3, celA o) :: (p, lstA pv) :: (nl ++ tail)))) := fun _ _ => .tail _ (.tail _ (List.mem_append_right _ (.tail _ (.tail _ (.tail _ (.tail _ (.head _)))))))
      have mc2 : ∀ (a b : Addr × Asn), (L + 2, celA (some (.ref p))) ∈ (a :: b :: (nl2 ++ ((L, nsA m) :: (L + 1, celA (some (.ref d))) :: (L + 2, celA (some (.ref p))) :: (L + 3, celA o) :: (p, lstA pv) :: (nl ++ tail)))) := fun _ _ => .tail _ (.tail _ (List.mem_append_right _ (.tail _ (.tail _ (.head _)))))
      have mA : ∀ (a b : Addr × Asn), ∀ x ∈ nl2, x ∈ (a :: b :: (nl2 ++ ((L, nsA m) :: (L + 1, celA (some (.ref d))) :: (L + 2, celA (some (.ref p))) :: (L + 3, celA o) :: (p, lstA pv) :: (nl ++ tail)))) := fun _ _ x hx => .tail _ (.tail _ (List.mem_append_left _ hx))
      have mB : ∀ (a b : Addr × Asn), ∀ x ∈ nl, x ∈ (a :: b :: (nl2 ++ ((L, nsA m) :: (L + 1, celA (some (.ref d))) :: (L + 2, celA (some (.ref p))) :: (L + 3, celA o) :: (p, lstA pv) :: (nl ++ tail)))) := fun _ _ x hx => .tail _ (.tail _ (List.mem_append_right _ (.tail _ (.tail _ (.tail _ (.tail _ (.tail _ (List.mem_append_left _ hx))))))))
      refine nm_c H₃ rfl (mc2 _ _) ?_
      obtain ⟨hle, heq⟩ := pairs_eq (prog := prog) (w := w) (A := A.in1) hPT hP H₃ (mA _ _) (mB _ _) (by show A.units + 1 < _; omega)
      refine list_ne_same (H₃.isList (.head _)) (H₃.isList (a := p) (mp _ _)) hle (by omega) heq (wpAny_truthy_bool (ite_neg (by decide) (wpAny_execs_nil (wpAny_execs_nil ?_))))
      have Ha : St base os₀ ((d, dctE (intKind prog w) kvs ep) :: (L, nsA m) :: (L + 1, celA (some (.ref d))) :: (L + 2, celA (some (.ref p))) :: (L + 3, celA o) :: (p, lstA pv) :: (nl ++ tail)) s₂ := (H₃.sub (.cons _ (.refl _))).sub (.cons_cons _ (List.sublist_append_right _ _))
      exact h s₂ (Hdb (Ha.weak dctE_A))
  refine wpAny_execs_cons (wpAny_If (wpAny_isTrue_Compare1 (wpAny_Call_ofName (nm_g H G.gw.gr.g G.hk (callWith_fn (evalArgs_plain (spliced_cons (nm_c H rfl (.tail _ (.head _)) (spliced_nil ⟨⟨oK, kd, H.keep _ _ hoK, hdK⟩, ?_⟩)))))))))
  refine ask2_ok G (by omega) hh hfr hF hV hok (Hd H) (fun n t s₁ e H₁ => ?_) fun t s₁ e H₁ => ?_
  · have H₂ := Hdb H₁
    refine wpAny_Call_ofName (nm_g H₂ G.gw.gr.g G.hu (callWith_fn (evalArgs_plain (spliced_cons (nm_c H₂ rfl (.tail _ (.tail _ (.head _))) (spliced_nil ⟨⟨oU, ud, H₂.keep _ _ hoU, hdU⟩, ?_⟩))))))
    refine due_ok G hS htr hfr (by omega) (by omega) hh hPp hV hok (by omega) (Hp H₂) (fun n' t' s₂ e' H₃ => ?_) fun t' s₂ e' H₃ => absurd (e.symm.trans e') (by simp)
    have : n' = n := by rw [e] at e'; exact (Option.some.inj e').symm
    subst this
    exact PyProof.Rows.ne_int (wpAny_truthy_bool (ite_neg (by simp) (wpAny_execs_nil (row6 s₂ (Hpb H₃)))))
  · have H₂ := Hdb H₁
    refine wpAny_Call_ofName (nm_g H₂ G.gw.gr.g G.hu (callWith_fn (evalArgs_plain (spliced_cons (nm_c H₂ rfl (.tail _ (.tail _ (.head _))) (spliced_nil ⟨⟨oU, ud, H₂.keep _ _ hoU, hdU⟩, ?_⟩))))))
    refine due_ok G hS htr hfr (by omega) (by omega) hh hPp hV hok (by omega) (Hp H₂) (fun n' t' s₂ e' H₃ => absurd (e.symm.trans e') (by simp)) fun t' s₂ e' H₃ => ?_
    exact EqBoolInt.of_rcne (SeqAt.RcNeAt.str_str _ _ _ _) (wpAny_truthy_bool (ite_neg (by decide) (wpAny_execs_nil (row6 s₂ (Hpb H₃)))))
end
end Mine

namespace Mine
open PySem PySem.W PyProof.Rows PySem.Calls PySem.Spec
section
variable {prog : Program} {w : World} {A : Around} {E : Value → Shared → Prop} {s : Shared} {base : Heap} {os₀ : OsState} {nl tail led : Led} {mg mb : Str → Option Value} {fW fR fU fK p d L fA a : Addr} {wd rd ud kd : FuncData} {m : Str → Option Value} {pv vs : List Value} {kvs : List (Int × Value)} {ls : List Ln} {ns : List Int} {nam : Str} {cd : Value} {Q : Flow → Shared → Prop} {o : Option Value}
theorem new_dictI {env : Env} {pos : Pos} {Q : Value → Shared → Prop} (H : St base os₀ led s) (h : ∀ a s', St base os₀ ((a, dctA (intKind prog w) []) :: led) s' → Q (.ref a) s') :
    wpAny (model prog w) A (eval (.Dict [] [] pos) env) Q E s :=
  wpAny_Dict_empty (h _ _ (H.push (tk := s.toks) rfl ⟨#[], 0, ⟨rfl, rfl, rfl⟩, rfl, fun e he => by simp at he, .nil, .nil⟩))
theorem ne_dicts {K : Type} [DecidableEq K] {knd : KeyKind prog w K} {a b : Addr} {kvs : List (K × Value)} {Q : Value → Shared → Prop} {o₀ : Obj} (H : St base os₀ led s) (hs : base.get? sysModules = some o₀) (da : (a, dctA knd kvs) ∈ led) (db : (b, dctA knd kvs) ∈ led) (hu : A.units < cLine) (h : Q (.bool false) s) :
    wpAny (model prog w) A (compareOp .NotEq (.ref a) (.ref b)) Q E s := by
  have hn : (kvs.map (·.1)).Nodup := by obtain ⟨o, es, ep, _, _, _, _, _, hn⟩ := H.isDict da; exact hn
  have hits : ∀ l : List (K × Value), (∀ p ∈ l, p ∈ kvs) → KeqHits A.in1 s kvs l true := fun l => by
    induction l with
    | nil => intro _; exact .nil
    | cons p r ih =>
      obtain ⟨k, v⟩ := p
      intro hp
      refine KeqHits.hit (e := true) (b := true) (y := v) ?_ (SeqAt.EqAt.same v) (ih fun q hq => hp q (.tail _ hq))
      obtain ⟨j, hj⟩ := List.mem_iff_getElem?.mp (hp _ (.head _))
      exact valueAt_get hn hj
  exact keq_ne (r := true) (H.notSys da hs) (H.notSys db hs) (H.isDict da) (H.isDict db) hu (fun _ => hits kvs fun p hp => hp) (by simpa using h)
/-- one turn of law's loop -/
theorem turn2_ok {n : Int} {t : Tok} (G : G2 base mg mb fW fR fU fK wd rd ud kd) (R : Room prog w A base) (hS : base.NoSeer) (htr : prog.given.tree = none) (hfr : A.frames = some [lawEnv2 nam L fA cd]) (hd : A.depth + 300 < recursionLimit) (hu : A.units + 100 < cLine) (hP : PT pv kvs nl) (hV : VL kvs ls) (hok : ∀ l ∈ ls, l.ok) (hlen : ls.length ≤ 98)
    (hn : m (Str.ofString "n") = some (.int n t))
    (H : St base os₀ ((L, nsA m) :: (core2 (prog := prog) (w := w) L d p o kvs pv ++ (nl ++ tail))) s)
    (h : ∀ kvs' pv' ls' nl' m' o' s', PT pv' kvs' nl' → VL kvs' ls' → (∀ l ∈ ls', l.ok) → ls'.length ≤ ls.length + 1 → St base os₀ ((L, nsA m') :: (core2 (prog := prog) (w := w) L d p o' kvs' pv' ++ (nl' ++ tail))) s' → Q .next s') :
    wpAny (model prog w) A (execs turn2 (lawEnv2 nam L fA cd)) Q E s := by
  refine turn_head G R (hP.mono fun x hx => List.mem_append_left _ hx) (by rw [hV.1]; omega) hn H fun hl hv m' tp s' hi e1 e2 e3 e4 H' => ?_
  obtain ⟨tk, e3⟩ := e3
  obtain ⟨tr, e4⟩ := e4
  refine deed_ok G R hP hV hok (by omega) hi e2 e3 e4 e1 H' fun kvs' pv' ls' nl' m'' s'' hP' hV' hok' hl' H'' => ?_
  exact check_ok G hS htr hfr hd hu R.handled hP' hV' hok' (by omega) H'' fun s3 H3 => h _ _ _ _ _ _ s3 hP' hV' hok' hl' H3
theorem perm_in {α : Type} (a b : α) (X Y : List α) : (a :: b :: (X ++ Y)).Perm (X ++ (a :: b :: Y)) := by
  induction X with
  | nil => exact .refl _
  | cons x r ih => exact ((List.Perm.swap x b _).cons a).trans ((List.Perm.swap x a _).trans (ih.cons x))
theorem law2 (G : G2 base mg mb fW fR fU fK wd rd ud kd) (R : Room prog w A base) (hS : base.NoSeer) (htr : prog.given.tree = none) (hfr : A.frames = some [lawEnv2 nam L fA cd]) (hd : A.depth + 300 < recursionLimit) (hu : A.units + 100 < cLine)
    (hm : m (Str.ofString "script") = some (.ref a)) (hl : base.IsList a vs.toArray) (hi : IntsAre vs ns) (hsz : vs.length ≤ 63)
    (H : St base os₀ ((L, nsA m) :: (L + 1, celA none) :: (L + 2, celA none) :: (L + 3, celA none) :: led) s) (h : ∀ s', St base os₀ [] s' → Q (.ret (.bool true)) s') :
    wpAny (model prog w) A (execs (fnBody lawStmt2) (lawEnv2 nam L fA cd)) Q E s := by
  have hh := R.handled
  obtain ⟨o₀, hsys⟩ := G.gw.gr.sys
  obtain ⟨oK, hoK, hdK⟩ := G.dk.obj
  refine wpAny_execs_cons (wpAny_Assign_Name (new_dictI H fun d s₁ H₁ => st_c H₁ rfl (.tail (.tail .head)) fun s₂ H₂ => ?_))
  refine wpAny_execs_cons (wpAny_Assign_Name (List_ (wpAny_items_nil (new_list (vs := []) H₂ fun p s₃ H₃ => st_c H₃ rfl (.tail (.tail (.tail (.tail .head)))) fun s₄ H₄ => ?_))))
  have H₅ : St base os₀ ((d, dctA (intKind prog w) []) :: (L, nsA m) :: (L + 1, celA (some (.ref d))) :: (L + 2, celA (some (.ref p))) :: (L + 3, celA none) :: (p, lstA []) :: led) s₄ := H₄.perm (by
    repeat (first | exact List.Perm.refl _ | refine Pick.perm (by (repeat (first | exact Pick.head | apply Pick.tail))) ?_))
  clear H₄ H₃ H₂ H₁
  have hF : FramesOk ((L, nsA m) :: (L + 1, celA (some (.ref d))) :: (L + 2, celA (some (.ref p))) :: (L + 3, celA none) :: (p, lstA []) :: led) [lawEnv2 nam L fA cd] := FramesOk.cons (fun env he => by cases he) (by intro q; cases q) rfl (.head _)
  have hV0 : VL ([] : List (Int × Value)) [] := ⟨rfl, fun i l e => by simp at e⟩
  refine wpAny_execs_cons (wpAny_If (wpAny_isTrue_BoolOp (wpAny_allTrue_Or_cons (wpAny_isTrue_Compare1 (wpAny_Call_ofName (nm_g H₅ G.gw.gr.g G.hk (callWith_fn (evalArgs_plain (spliced_cons (nm_c H₅ rfl (.tail _ (.tail _ (.head _))) (spliced_nil ⟨⟨oK, kd, H₅.keep _ _ hoK, hdK⟩, ?_⟩)))))))))))
  refine ask2_ok G (by omega) hh hfr hF (ls := []) hV0 (fun l hl => by cases hl) H₅ (fun n t s₅ e H₆ => ?_) fun t s₅ e H₆ => absurd e (by simp [dueI, maxL])
  have hn0 : n = 0 := by simp [dueI, maxL] at e; exact e.symm
  subst hn0
  refine c_int H₆ fun t1 s₆ H₇ => PyProof.Rows.ne_int (wpAny_truthy_bool (ite_neg (by decide) (wpAny_allTrue_Or_cons (wpAny_isTrue_Compare1 (nm_c H₇ rfl (.tail _ (.tail _ (.head _))) (new_dictI H₇ fun d' s₇ H₈ => ?_))))))
  refine ne_dicts H₈ hsys (a := d) (b := d') (.tail _ (.head _)) (.head _) (by omega) (wpAny_truthy_bool (ite_neg (by decide) (wpAny_allTrue_Or_nil (ite_neg (by decide) (wpAny_execs_nil ?_)))))
  have H₉ : St base os₀ ((L, nsA m) :: (core2 (prog := prog) (w := w) L d p none [] [] ++ ([] ++ []))) s₇ := (H₈.sub (led' := [(d, dctA (intKind prog w) []), (L, nsA m), (L + 1, celA (some (.ref d))), (L + 2, celA (some (.ref p))), (L + 3, celA none), (p, lstA [])]) (.cons _ (.cons_cons _ (.cons_cons _ (.cons_cons _ (.cons_cons _ (.cons_cons _ (.cons_cons _ (List.nil_sublist _))))))))).perm (by
    repeat (first | exact List.Perm.refl _ | refine Pick.perm (by (repeat (first | exact Pick.head | apply Pick.tail))) ?_))
  clear H₈ H₇ H₆ H₅
  refine wpAny_execs_cons (for_list (base := base) (os₀ := os₀) (fun i ld => ∃ kvs pv ls nl m o, PT pv kvs nl ∧ VL kvs ls ∧ (∀ l ∈ ls, l.ok) ∧ ls.length ≤ i ∧ ld = (L, nsA m) :: (core2 (prog := prog) (w := w) L d p o kvs pv ++ (nl ++ []))) hh ?_)
  refine l_upto (b := 63) H₉ (.head _) hm hl (Nat.le_trans hsz (by decide)) fun r s₈ H₁₀ => ⟨r, vs.take 63, _, rfl, H₁₀, ⟨[], [], [], [], m, none, ⟨rfl, fun i q v e => by simp at e⟩, hV0, (fun l hl => by cases hl), Nat.le_refl _, rfl⟩, ?_, ?_⟩
  · rintro I i v ld s₉ E' hv ⟨kvs, pv, ls, nl, m₁, o, hP, hV, hok, hle, rfl⟩ H₁₁
    have hi63 : i < 63 := by
      rcases Nat.lt_or_ge i 63 with q | q
      · exact q
      · rw [List.getElem?_eq_none (by rw [List.length_take]; omega)] at hv; cases hv
    have hit := ints_take hi 63
    have hlx := (allInt_of hit).2
    have hix : i < (ns.take 63).length := by
      rw [← hlx]
      rcases Nat.lt_or_ge i (vs.take 63).length with q | q
      · exact q
      · rw [List.getElem?_eq_none q] at hv; cases hv
    obtain ⟨t, ht⟩ := ints_get hit (List.getElem?_eq_getElem hix)
    rw [hv] at ht
    cases ht
    refine wpAny_assign_Name (st_g H₁₁ (fun _ => .tail (.tail .head)) fun m₂ s₁₀ e₂ k₂ H₁₂ => ?_)
    have H₁₃ : St base os₀ ((L, nsA m₂) :: (core2 (prog := prog) (w := w) L d p o kvs pv ++ (nl ++ [(I, itA r (i + 1)), (r, lstA (vs.take 63))]))) s₁₀ := H₁₂.perm (perm_in _ _ ((L, nsA m₂) :: (core2 (prog := prog) (w := w) L d p o kvs pv ++ nl)) []).symm
    refine turn2_ok G R hS htr hfr hd hu hP hV hok (by omega) e₂ H₁₃ fun kvs' pv' ls' nl' m' o' s' hP' hV' hok' hle' H₁₄ => ⟨_, ⟨kvs', pv', ls', nl', m', o', hP', hV', hok', by omega, rfl⟩, H₁₄.perm ?_⟩
    exact perm_in _ _ ((L, nsA m') :: (core2 (prog := prog) (w := w) L d p o' kvs' pv' ++ nl')) []
  · rintro ld s₉ ⟨kvs, pv, ls, nl, m₁, o, hP, hV, hok, hle, rfl⟩ H₁₁
    exact wpAny_execs_cons (wpAny_Return_some (wpAny_Constant_bool (h s₉ (H₁₁.sub (List.nil_sublist _)))))
end
theorem st_top3 {base : Heap} {s : Shared} {L : Addr} {m : Str → Option Value} {o1 o2 o3 : Obj} (F : Fr base L s.heap m) (N : News base L s.heap [(L + 1 + 1 + 1, o3), (L + 1 + 1, o2), (L + 1, o1)]) (h1 : o1.data = .cell none) (h2 : o2.data = .cell none) (h3 : o3.data = .cell none) (hg : s.gens = #[]) (hL : base.get? L = none) : St base s.os [(L, nsA m), (L + 1, celA none), (L + 2, celA none), (L + 3, celA none)] s where
  keep := F.keep
  nd := by
    have q : ∀ (i j : Nat), i < j → L + i ≠ L + j := fun i j hij => Nat.ne_of_lt (Nat.add_lt_add_left hij L)
    simp only [List.map_cons, List.map_nil, List.nodup_cons, List.mem_cons, List.not_mem_nil, or_false, not_false_eq_true, List.nodup_nil, and_true, not_or]
    exact ⟨⟨q 0 1 (by decide), q 0 2 (by decide), q 0 3 (by decide)⟩, ⟨q 1 2 (by decide), q 1 3 (by decide)⟩, q 2 3 (by decide)⟩
  has := fun p hp => by
    simp only [List.mem_cons, List.not_mem_nil, or_false] at hp
    rcases hp with rfl | rfl | rfl | rfl
    · exact nsA_of F.ns
    · exact ⟨_, (N _ (.tail _ (.tail _ (.head _)))).1, h1⟩
    · exact ⟨_, (N _ (.tail _ (.head _))).1, h2⟩
    · exact ⟨_, (N _ (.head _)).1, h3⟩
  new := fun p hp => by
    simp only [List.mem_cons, List.not_mem_nil, or_false] at hp
    rcases hp with rfl | rfl | rfl | rfl
    · exact hL
    · exact (N _ (.tail _ (.tail _ (.head _)))).2.2
    · exact (N _ (.tail _ (.head _))).2.2
    · exact (N _ (.head _)).2.2
  gens := hg
  os := rfl
theorem top2 {prog : Program} {w : World} {K : Frag} {s s₁ : Shared} {p : Program} {loose : List Str} {mean : ExcName → Option Value} {mg mb : Str → Option Value} {m : Str → Option Value} {nam : Str} {L fA a : Addr} {cd : Value} {vs : List Value} {ns : List Int} {E : Value → Shared → Prop}
    {l : OpenLaw} {cl : Str → Option Addr} {mean' : ExcName → Option Value} {args : List WData} {wd rd ud kd : FuncData} {o1 o2 o3 : Obj}
    (T : Top p loose mean mg mb s₁.heap) (S : s₁.heap.NoSeer) (F : Fr s₁.heap L s.heap m) (N : News s₁.heap L s.heap [(L + 1 + 1 + 1, o3), (L + 1 + 1, o2), (L + 1, o1)]) (h1 : o1.data = .cell none) (h2 : o2.data = .cell none) (h3 : o3.data = .cell none) (hl : s₁.heap.IsList a vs.toArray) (hi : IntsAre vs ns) (hn : ¬ (63 : Int) < (ns.length : Int)) (hm : m (Str.ofString "script") = some (.ref a)) (X : K.In s₁.heap)
    (hL : s₁.heap.get? L = none) (ht : prog.given.tree = none)
    (e1 : nsIn K mainGlobals (Str.ofString "_get_lineno_width") = some (some (.ref 21))) (e2 : nsIn K mainGlobals (Str.ofString "_law_greater") = some (some (.ref 28))) (e3 : nsIn K mainGlobals (Str.ofString "_law_due") = some (some (.ref 33))) (e4 : nsIn K mainGlobals (Str.ofString "_law_ask") = some (some (.ref 40)))
    (e5 : ∃ t, nsIn K mainGlobals (Str.ofString "_NO_LINENO") = some (some (.str (Str.ofString "  --") t)))
    (n1 : nsIn K mainGlobals (Str.ofString "max") = some none) (n2 : nsIn K mainGlobals (Str.ofString "filter") = some none) (n3 : nsIn K mainGlobals (Str.ofString "len") = some none) (n4 : nsIn K mainGlobals (Str.ofString "str") = some none)
    (n5 : nsIn K mainGlobals (Str.ofString "abs") = some none) (n6 : nsIn K mainGlobals (Str.ofString "range") = some none) (n7 : nsIn K mainGlobals (Str.ofString "isinstance") = some none) (n8 : nsIn K mainGlobals (Str.ofString "int") = some none)
    (n9 : nsIn K mainGlobals (Str.ofString "min") = some none) (n10 : nsIn K mainGlobals (Str.ofString "bool") = some none) (n11 : nsIn K mainGlobals (Str.ofString "TypeError") = some none)
    (DW : IsDef s₁.heap 21 glnStmt wd) (DR : IsDef s₁.heap 28 greatStmt rd) (DU : IsDef s₁.heap 33 dueStmt ud) (DK : IsDef s₁.heap 40 askStmt kd)
    (hos : s.os = s₁.os) (hgens : s.gens = #[]) :
    wpAny (model prog w) (callerA.deeper (lawEnv2 nam L fA cd)) (execs (fnBody lawStmt2) (lawEnv2 nam L fA cd))
      (fun f s' => GoodW l.row.claim cl mean' args s₁ (.ok (.ret (match f with | .ret v => v | _ => .none))) s') E s := by
  have bt : ∀ (x : Str) v, x ≠ "__name__" → bootBuiltins x = some v → mb x = some v := fun x v hx hv => (T.builtins x hx).trans hv
  obtain ⟨tno, e5⟩ := e5
  have GWW : GW s₁.heap mg mb 21 wd :=
    ⟨gr_of T S, DW, mg_of X T.g e1, ⟨tno, mg_of X T.g e5⟩, mg_none_of X T.g n1, mg_none_of X T.g n2, mg_none_of X T.g n3, mg_none_of X T.g n4,
      bt _ _ (by decide) (by kernel_rfl), bt _ _ (by decide) (by kernel_rfl), bt _ _ (by decide) (by kernel_rfl), bt _ _ (by decide) (by kernel_rfl)⟩
  have G : G2 s₁.heap mg mb 21 28 33 40 wd rd ud kd :=
    ⟨GWW, DR, DU, DK, mg_of X T.g e2, mg_of X T.g e3, mg_of X T.g e4, mg_none_of X T.g n5, mg_none_of X T.g n6, mg_none_of X T.g n7, mg_none_of X T.g n8, mg_none_of X T.g n9, mg_none_of X T.g n10, mg_none_of X T.g n11,
      bt _ _ (by decide) (by kernel_rfl), bt _ _ (by decide) (by kernel_rfl), bt _ _ (by decide) (by kernel_rfl), bt _ _ (by decide) (by kernel_rfl), bt _ _ (by decide) (by kernel_rfl), bt _ _ (by decide) (by kernel_rfl), bt _ _ (by decide) (by kernel_rfl)⟩
  obtain ⟨hai, hlen⟩ := allInt_of hi
  have R : Room prog w (callerA.deeper (lawEnv2 nam L fA cd)) s₁.heap := room_of T S ht rfl rfl rfl rfl
  refine law2 G R S ht rfl (of_decide_eq_true (by with_unfolding_all rfl)) (of_decide_eq_true (by with_unfolding_all rfl)) hm hl hi (by omega) (st_top3 F N h1 h2 h3 hgens hL) fun s' H' => ?_
  exact good_true (fun b o e => H'.keep b o e) (H'.os.trans hos) H'.gens
end Mine

open PySem PySem.W PyProof.Rows
set_option maxRecDepth 100000 in
set_option maxHeartbeats 8000000 in
theorem PySem.Challenge.cw_dm0069_02_holds : PySem.Challenge.rw_dm0069_02.Holds := by
  (w_on; o_law; k_head; (case hw => w_witness2); w_strict (k_go0; (
    have X := ‹Frag.In _ _›
    have F := ‹Fr _ _ _ _›
    have hL := Heap.get?_none_of_le F.above
    refine Mine.top2 (l := PySem.Challenge.rw_dm0069_02) (K := _) ‹Top _ _ _ _ _ _› (Top.seer ‹Top _ (looseW _ _) _ _ _ _› (by decide +kernel)) F ‹News _ _ _ _› (by assumption) (by assumption) (by assumption) ‹Heap.IsList _ _ _› ‹IntsAre _ _› (by assumption) rfl X hL rfl
      (by k_is) (by k_is) (by k_is) (by k_is) ⟨_, by k_is⟩ (by k_is) (by k_is) (by k_is) (by k_is) (by k_is) (by k_is) (by k_is) (by k_is) (by k_is) (by k_is) (by k_is)
      ⟨⟨_, X 21 _ rfl, rfl⟩, rfl, rfl, rfl, rfl, rfl, rfl, rfl, ⟨20, _, _, _, rfl, X 20 _ rfl, rfl, rfl⟩⟩
      ⟨⟨_, X 28 _ rfl, rfl⟩, rfl, rfl, rfl, rfl, rfl, rfl, rfl, ⟨27, _, _, _, rfl, X 27 _ rfl, rfl, rfl⟩⟩
      ⟨⟨_, X 33 _ rfl, rfl⟩, rfl, rfl, rfl, rfl, rfl, rfl, rfl, ⟨32, _, _, _, rfl, X 32 _ rfl, rfl, rfl⟩⟩
      ⟨⟨_, X 40 _ rfl, rfl⟩, rfl, rfl, rfl, rfl, rfl, rfl, rfl, ⟨39, _, _, _, rfl, X 39 _ rfl, rfl, rfl⟩⟩ rfl ‹_ = #[]›)))
