import PyProof.Rows.All
import Wide.All
import OpenK.AllK
import Wide.FinOn
import PySem.Challenge.RW_dm0069_01
set_option Elab.async false
set_option maxRecDepth 100000
set_option linter.unusedVariables false
namespace Mine
open PySem PySem.W PyProof.Rows PySem.Calls PySem.Spec

/-- what is said of an object -/
abbrev Asn := Obj → Prop
abbrev Led := List (Addr × Asn)

structure St (base : Heap) (os₀ : OsState) (led : Led) (s : Shared) : Prop where
  keep : ∀ b o, base.get? b = some o → s.heap.get? b = some o
  nd : (led.map (·.1)).Nodup
  has : ∀ p ∈ led, ∃ o, s.heap.get? p.1 = some o ∧ p.2 o
  new : ∀ p ∈ led, base.get? p.1 = none
  gens : s.gens = #[]
  os : s.os = os₀

/-- one entry of the ledger changes what is said of it -/
inductive Up (a : Addr) (P P' : Asn) : Led → Led → Prop
  | head {l} : Up a P P' ((a, P) :: l) ((a, P') :: l)
  | tail {q l l'} : Up a P P' l l' → Up a P P' (q :: l) (q :: l')

namespace Up
variable {a : Addr} {P P' : Asn} {l l' : Led}
theorem keys (u : Up a P P' l l') : l'.map (·.1) = l.map (·.1) := by
  induction u with
  | head => rfl
  | tail _ ih => simp [ih]
theorem mem (u : Up a P P' l l') : (a, P) ∈ l := by
  induction u with
  | head => exact .head _
  | tail _ ih => exact .tail _ ih
theorem split (u : Up a P P' l l') (nd : (l.map (·.1)).Nodup) : ∀ p ∈ l', (p.1 = a ∧ p = (a, P')) ∨ (p.1 ≠ a ∧ p ∈ l) := by
  induction u with
  | head =>
    intro p hp
    simp only [List.map_cons, List.nodup_cons] at nd
    rcases List.mem_cons.mp hp with rfl | hp
    · exact .inl ⟨rfl, rfl⟩
    · exact .inr ⟨fun e => nd.1 (e ▸ List.mem_map_of_mem hp), .tail _ hp⟩
  | @tail q l l' u ih =>
    intro p hp
    simp only [List.map_cons, List.nodup_cons] at nd
    rcases List.mem_cons.mp hp with rfl | hp
    · refine .inr ⟨fun e => nd.1 ?_, .head _⟩
      rw [e]; exact List.mem_map_of_mem (f := (·.1)) u.mem
    · rcases ih nd.2 p hp with h | h
      · exact .inl h
      · exact .inr ⟨h.1, .tail _ h.2⟩
end Up

section
variable {base : Heap} {os₀ : OsState} {led led' : Led} {s : Shared} {a : Addr} {P P' : Asn}

theorem St.ext (H : St base os₀ led s) {h' : Heap} {tk : Nat} (hk : ∀ b o, s.heap.get? b = some o → h'.get? b = some o) : St base os₀ led { s with heap := h', toks := tk } where
  keep := fun b o e => hk b o (H.keep b o e)
  nd := H.nd
  has := fun p hp => let ⟨o, ho, hP⟩ := H.has p hp; ⟨o, hk _ _ ho, hP⟩
  new := H.new
  gens := H.gens
  os := H.os
theorem St.tok (H : St base os₀ led s) {tk : Nat} : St base os₀ led { s with toks := tk } := H.ext fun _ _ e => e
theorem St.newAt (H : St base os₀ led s) {n : Nat} (hn : s.heap.objs.size ≤ n) : base.get? n = none := by
  cases e : base.get? n with
  | none => rfl
  | some o => exact absurd (Heap.lt_size (H.keep _ _ e)) (Nat.not_lt.mpr hn)
/-- a new object behind a heap that has grown -/
theorem St.more (H : St base os₀ led s) {h' : Heap} {tk n : Nat} {o : Obj} (hk : ∀ b o, s.heap.get? b = some o → h'.get? b = some o) (hn : s.heap.objs.size ≤ n) (ho : h'.get? n = some o) (hp : P o) :
    St base os₀ ((n, P) :: led) { s with heap := h', toks := tk } where
  keep := fun b o e => hk b o (H.keep b o e)
  nd := by
    simp only [List.map_cons, List.nodup_cons]
    refine ⟨fun h => ?_, H.nd⟩
    obtain ⟨p, hp', e⟩ := List.mem_map.mp h
    obtain ⟨o', ho', _⟩ := H.has p hp'
    have := Heap.lt_size ho'
    rw [e] at this
    exact absurd this (Nat.not_lt.mpr hn)
  has := fun p hp' => by
    rcases List.mem_cons.mp hp' with rfl | hp'
    · exact ⟨o, ho, hp⟩
    · obtain ⟨o', ho', hP⟩ := H.has p hp'; exact ⟨o', hk _ _ ho', hP⟩
  new := fun p hp' => by
    rcases List.mem_cons.mp hp' with rfl | hp'
    · exact H.newAt hn
    · exact H.new p hp'
  gens := H.gens
  os := H.os
theorem St.push (H : St base os₀ led s) {tk : Nat} {o : Obj} (hf : o.isFreed = false) (hp : P o) : St base os₀ ((s.heap.objs.size, P) :: led) { s with heap := s.heap.push o, toks := tk } :=
  H.more (fun _ _ e => Heap.get?_push_of_some _ e) (Nat.le_refl _) (Heap.get?_push_size _ hf) hp
/-- an entry changed, the heap grown perhaps -/
theorem St.upd (H : St base os₀ led s) (U : Up a P P' led led') {h' : Heap} {tk : Nat} (hx : Heap.ExtBut a s.heap h') (hp : ∃ o, h'.get? a = some o ∧ P' o) : St base os₀ led' { s with heap := h', toks := tk } where
  keep := fun b o e => hx b o (fun q => by have := H.new _ U.mem; rw [← q, e] at this; cases this) (H.keep b o e)
  nd := U.keys ▸ H.nd
  has := fun p hp' => by
    rcases U.split H.nd p hp' with ⟨_, rfl⟩ | ⟨hne, hm⟩
    · exact hp
    · obtain ⟨o, ho, hP⟩ := H.has p hm; exact ⟨o, hx _ _ hne ho, hP⟩
  new := fun p hp' => by
    rcases U.split H.nd p hp' with ⟨_, rfl⟩ | ⟨_, hm⟩
    · exact H.new (a, P) U.mem
    · exact H.new p hm
  gens := H.gens
  os := H.os
theorem St.sub (H : St base os₀ led s) (h : led'.Sublist led) : St base os₀ led' s where
  keep := H.keep
  nd := H.nd.sublist (h.map _)
  has := fun p hp => H.has p (h.subset hp)
  new := fun p hp => H.new p (h.subset hp)
  gens := H.gens
  os := H.os
theorem St.perm (H : St base os₀ led s) (h : led'.Perm led) : St base os₀ led' s where
  keep := H.keep
  nd := (h.map _).nodup_iff.mpr H.nd
  has := fun p hp => H.has p (h.mem_iff.mp hp)
  new := fun p hp => H.new p (h.mem_iff.mp hp)
  gens := H.gens
  os := H.os
theorem St.get (H : St base os₀ led s) (hm : (a, P) ∈ led) : ∃ o, s.heap.get? a = some o ∧ P o := H.has _ hm
theorem St.ne {b : Addr} {R : Asn} (H : St base os₀ ((a, P) :: led) s) (hm : (b, R) ∈ led) : b ≠ a := fun e => by
  have := H.nd
  simp only [List.map_cons, List.nodup_cons] at this
  exact this.1 (e ▸ List.mem_map_of_mem (f := (·.1)) hm)
/-- what is said may be weakened -/
theorem St.weak (H : St base os₀ ((a, P) :: led) s) (h : ∀ o, P o → P' o) : St base os₀ ((a, P') :: led) s where
  keep := H.keep
  nd := H.nd
  has := fun p hp => by
    rcases List.mem_cons.mp hp with rfl | hp
    · obtain ⟨o, ho, hP⟩ := H.has _ (.head _); exact ⟨o, ho, h o hP⟩
    · exact H.has p (.tail _ hp)
  new := fun p hp => by
    rcases List.mem_cons.mp hp with rfl | hp
    · exact H.new (a, P) (.head _)
    · exact H.new p (.tail _ hp)
  gens := H.gens
  os := H.os
end

/-! the kinds of objects -/
def nsA (m : Str → Option Value) : Asn := fun o => ∃ es ep, o.data = .dict es ep ∧ StrKeys es ∧ ∀ n, nsFind es n = m n
def lstA (vs : List Value) : Asn := fun o => ∃ n, o = { cls := .type "list", data := .seq vs.toArray n }
def celA (v : Option Value) : Asn := fun o => o.data = .cell v
def objA (o₀ : Obj) : Asn := fun o => o = o₀
section
variable {prog : Program} {w : World} {K : Type} [DecidableEq K]
def dctA (knd : KeyKind prog w K) (kvs : List (K × Value)) : Asn := fun o => ∃ es ep, o.ExactDict ∧ o.data = .dict es ep ∧ KeysOf knd es ∧ Pairs knd es.toList kvs ∧ (kvs.map (·.1)).Nodup
end

section
variable {base : Heap} {os₀ : OsState} {led led' : Led} {s : Shared} {a : Addr}
theorem St.ns (H : St base os₀ led s) {m : Str → Option Value} (hm : (a, nsA m) ∈ led) : s.heap.Ns a m := by
  obtain ⟨o, ho, es, ep, r⟩ := H.get hm; exact ⟨o, es, ep, ho, r⟩
theorem nsA_of {h : Heap} {m : Str → Option Value} (x : h.Ns a m) : ∃ o, h.get? a = some o ∧ nsA m o := by
  obtain ⟨o, es, ep, ho, r⟩ := x; exact ⟨o, ho, es, ep, r⟩
theorem St.isList (H : St base os₀ led s) {vs : List Value} (hm : (a, lstA vs) ∈ led) : s.heap.IsList a vs.toArray := by
  obtain ⟨o, ho, n, rfl⟩ := H.get hm; exact ⟨_, ho, rfl, n, rfl⟩
theorem St.isDict {prog : Program} {w : World} {K : Type} [DecidableEq K] {knd : KeyKind prog w K} {kvs : List (K × Value)} (H : St base os₀ led s) (hm : (a, dctA knd kvs) ∈ led) : s.heap.DictOf knd a kvs := by
  obtain ⟨o, ho, es, ep, r⟩ := H.get hm; exact ⟨o, es, ep, ho, r⟩
theorem dctA_of {prog : Program} {w : World} {K : Type} [DecidableEq K] {knd : KeyKind prog w K} {kvs : List (K × Value)} {h : Heap} (x : h.DictOf knd a kvs) : ∃ o, h.get? a = some o ∧ dctA knd kvs o := by
  obtain ⟨o, es, ep, ho, r⟩ := x; exact ⟨o, ho, es, ep, r⟩
theorem St.isCell (H : St base os₀ led s) {v : Option Value} (hm : (a, celA v) ∈ led) : s.heap.IsCell a v := by
  obtain ⟨o, ho, r⟩ := H.get hm; exact ⟨o, ho, r⟩
end

section
variable {M : Model} {A : Around} {E : Value → Shared → Prop} {s : Shared} {env : Env} {base : Heap} {os₀ : OsState} {led led' : Led} {x : Str} {v : Value} {pos : Pos} {k : Nat}

theorem nm_l {Q : Value → Shared → Prop} {m : Str → Option Value} (H : St base os₀ led s) (hm : (env.locals, nsA m) ∈ led) (hv : m x = some v) (h : Q v s)
    (hk : env.scope.kind = .function := by rfl) (hx : env.kindOf x = some .local := by rfl) (hd : (x == ("__debug__" : Str)) = false := by decide) :
    wpAny M A (eval (.Name x pos) env) Q E s := wpAny_Name (wpAny_loadName_local hk hx (H.ns hm) hv h) hd
theorem nm_c {Q : Value → Shared → Prop} {c : Addr} (H : St base os₀ led s) (hc : env.cells.lookup x = some c) (hm : (c, celA (some v)) ∈ led) (h : Q v s)
    (hk : env.scope.kind = .function := by rfl) (hx : env.kindOf x = some .cell := by rfl) (hd : (x == ("__debug__" : Str)) = false := by decide) :
    wpAny M A (eval (.Name x pos) env) Q E s := wpAny_Name (wpAny_loadName_cell hk hx hc (H.isCell hm) h) hd
theorem nm_g {Q : Value → Shared → Prop} {mg : Str → Option Value} (H : St base os₀ led s) (hg : base.Ns env.globals mg) (hv : mg x = some v) (h : Q v s)
    (hk : env.scope.kind = .function := by rfl) (hx : env.kindOf x = some .globalImplicit := by rfl) (hd : (x == ("__debug__" : Str)) = false := by decide) :
    wpAny M A (eval (.Name x pos) env) Q E s := Name_function_global hk hx (loadGlobal_global (hg.keeps H.keep) hv h) hd
theorem nm_b {Q : Value → Shared → Prop} {mg mb : Str → Option Value} (H : St base os₀ led s) (hg : base.Ns env.globals mg) (hb : base.Ns env.builtins mb) (hv : mg x = none) (hvb : mb x = some v) (h : Q v s)
    (hk : env.scope.kind = .function := by rfl) (hx : env.kindOf x = some .globalImplicit := by rfl) (hd : (x == ("__debug__" : Str)) = false := by decide) :
    wpAny M A (eval (.Name x pos) env) Q E s := Name_function_global hk hx (loadGlobal_builtin (hg.keeps H.keep) hv (hb.keeps H.keep) hvb h) hd

theorem st_l {Q : Unit → Shared → Prop} {m : Str → Option Value} (H : St base os₀ led s) (U : Up env.locals (nsA m) (nsA fun y => if y = x then some v else m y) led led')
    (h : ∀ s', St base os₀ led' s' → Q () s')
    (hk : env.scope.kind = .function := by rfl) (hx : env.kindOf x = some .local := by rfl) :
    wpAny M A (storeName env x v) Q E s :=
  wpAny_storeName_local hx (H.ns U.mem) (fun h' hn hs => h _ (H.upd U hs.extBut (nsA_of hn))) (by rw [hk]; rfl)
theorem st_c {Q : Unit → Shared → Prop} {c : Addr} {v₀ : Option Value} (H : St base os₀ led s) (hc : env.cells.lookup x = some c) (U : Up c (celA v₀) (celA (some v)) led led')
    (h : ∀ s', St base os₀ led' s' → Q () s')
    (hk : env.scope.kind = .function := by rfl) (hx : env.kindOf x = some .cell := by rfl) :
    wpAny M A (storeName env x v) Q E s :=
  wpAny_storeName_cell hk hx hc (H.isCell U.mem) fun h' hv hs => h _ (H.upd (tk := s.toks) U hs.extBut (let ⟨o, ho, hd⟩ := hv; ⟨o, ho, hd⟩))

theorem c_int {Q : Value → Shared → Prop} {i : Int} (H : St base os₀ led s) (h : ∀ t s', St base os₀ led s' → Q (.int i t) s') : wpAny M A (eval (.Constant (.int i) k pos) env) Q E s :=
  wpAny_Constant_int (h _ _ H.tok)
theorem new_list {Q : Value → Shared → Prop} {vs : List Value} (H : St base os₀ led s) (h : ∀ a s', St base os₀ ((a, lstA vs) :: led) s' → Q (.ref a) s') (hsz : vs.length ≤ sizeLine := by size_fits) :
    wpAny M A (newList vs) Q E s := wpAny_newObj_type (h _ _ (H.push rfl ⟨_, rfl⟩)) (by show vs.toArray.size ≤ sizeLine; rw [List.size_toArray]; exact hsz)
end
end Mine

namespace Mine
open PySem PySem.W PyProof.Rows PySem.Calls PySem.Spec
section
variable {prog : Program} {w : World} {A : Around} {E : Value → Shared → Prop} {s : Shared}
theorem callWith_fn {f : Addr} {first : List Value} {pos : Pos} {Q : Value → Shared → Prop} {args : List (Bool × Sem Value)} {kws : List (Option Str × Sem Value)}
    (h : wpAny (model prog w) A (evalArgs (.ref f) true args kws) (fun a s₁ => (∃ o fd, s₁.heap.get? f = some o ∧ o.data = .func fd) ∧ wpAny (model prog w) A (call (.ref f) (first ++ a.pos) a.kw) Q E s₁) E s) :
    wpAny (model prog w) A (callWith pos (.ref f) first args kws) Q E s := by
  unfold callWith
  refine wpAny_bind (wpAny_holding (wpAny_mono h (fun a s₁ h₁ => wpAny_bind (wpAny_standAt ?_)) fun _ _ x => x))
  obtain ⟨⟨o, fd, ho, hd⟩, h₁⟩ := h₁
  have hk : ∀ {Q' : Keeper → Shared → Prop}, Q' .frame s₁ → wpAny (model prog w) A (keeperOf (.ref f)) Q' E s₁ := fun q => by
    unfold keeperOf
    refine wpAny_bind (wpAny_load ho ?_)
    rw [hd]
    exact wpAny_pure q
  refine wpAny_bind (hk ?_)
  have tail : ∀ {t : Sem Value}, wpAny (model prog w) A t Q E s₁ → wpAny (model prog w) A (t >>= fun r => holding [r] point >>= fun _ => pure r) Q E s₁ :=
    fun ht => wpAny_bind (wpAny_mono ht (fun r s₂ hr => wpAny_bind (wpAny_holding (wpAny_point (wpAny_pure hr)))) fun _ _ x => x)
  have marked (mk : Value) : wpAny (model prog w) A (callMarked mk (.ref f) (first ++ a.pos) a.kw) Q E s₁ := by unfold callMarked; exact Calls.wpAny_keep h₁
  cases hst : (args.any (·.1) || kws.any (·.1.isNone)) with
  | true => exact tail (marked _)
  | false =>
    dsimp only
    split
    · exact tail h₁
    · exact tail (marked _)

variable {base : Heap} {os₀ : OsState} {led led' : Led}
theorem St.notSys (H : St base os₀ led s) {a : Addr} {P : Asn} (hm : (a, P) ∈ led) {o : Obj} (hs : base.get? sysModules = some o) : (a == sysModules) = false := by
  cases q : a == sysModules with
  | false => rfl
  | true =>
    have e := eq_of_beq q
    have := H.new _ hm
    rw [show ((a, P) : Addr × Asn).1 = sysModules from e, hs] at this
    cases this

end
end Mine

namespace Mine
open PySem PySem.W PyProof.Rows PySem.Calls PySem.Spec
section
variable {prog : Program} {w : World} {A : Around} {E : Value → Shared → Prop} {s : Shared} {base : Heap} {os₀ : OsState} {led led' : Led}
/-- a call of a def without cells of its own -/
theorem fn_enter {f : Addr} {o : Obj} {fd : FuncData} {body : List Stmt} {args : Args} {Q : Value → Shared → Prop} (H : St base os₀ led s) (hroom : A.depth < recursionLimit) (hlim : base.NoLimit)
    (ho : s.heap.get? f = some o) (hdata : o.data = .func fd) (hcd : s.heap.CodeRec fd.code fd.qualname) (hbody : fd.body = .stmts body)
    (hcell : ∀ x ∈ fd.scope.names, x.2 ≠ .cell)
    (h : wpAny (model prog w) A.in1 (bindArgs fd args) (fun binds s₁ => ∃ led₁, St base os₀ led₁ s₁ ∧ (∀ x ∈ binds, fd.scope.names.lookup x.1 = some .local) ∧
      ∀ L s₂, St base os₀ ((L, nsA fun x => binds.reverse.lookup x) :: led₁) s₂ →
        wpAny (model prog w) (A.deeper (callEnv fd L f)) (execs body (callEnv fd L f)) (fun fl s' => Q (match fl with | .ret v => v | _ => .none) s')
          (fun e s' => wpAny (model prog w) (A.deeper (callEnv fd L f)) (leaving (callEnv fd L f) e) (fun _ s'' => E e s'') (fun e' s'' => E e' s'') s') s₂) E s)
    (hco : fd.scope.isCoroutine = false := by rfl) (hgen : fd.scope.isGenerator = false := by rfl) (hk : fd.scope.kind = .function := by rfl) :
    wpAny (model prog w) A (call (.ref f) args.pos args.kw) Q E s := by
  refine wpAny_call (codeAny_call_function hroom ho hdata hco hgen hbody hcd (wpAny_mono h (fun binds s₁ h₁ => ?_) fun _ _ x => x))
  obtain ⟨led₁, H₁, hl, h₁⟩ := h₁
  refine wpAny_newFunctionEnv hcell hl (fun h' hns hsb => ?_) hk
  have H₂ : St base os₀ ((s₁.heap.objs.size, nsA fun x => binds.reverse.lookup x) :: led₁) { s₁ with heap := h', toks := s₁.toks + binds.length } := by
    obtain ⟨o', ho', hp'⟩ := nsA_of hns
    exact H₁.more (fun b o e => hsb.extBut b o (Nat.ne_of_lt (Heap.lt_size e)) (Heap.get?_push_of_some _ e)) (Nat.le_refl _) ho' hp'
  exact ⟨hlim.keeps H₂.keep, codeAny_func (h₁ _ _ H₂)⟩

/-- the cells of a frame, as entries -/
def cellLed (kindOf : Str → Option NameKind) (binds : List (Str × Value)) (cs : List (Str × Addr)) : Led := cs.map fun p => (p.2, celA (bindC kindOf binds (fun _ => none) p.1))

theorem lookup_of_mem {cs : List (Str × Addr)} (hn : (cs.map (·.1)).Nodup) {n : Str} {c : Addr} (h : (n, c) ∈ cs) : cs.lookup n = some c := by
  induction cs with
  | nil => cases h
  | cons p r ih =>
    obtain ⟨m, d⟩ := p
    simp only [List.map_cons, List.nodup_cons] at hn
    rw [List.lookup_cons]
    rcases List.mem_cons.mp h with e | h
    · cases e; simp
    · have : (n == m) = false := by
        cases q : n == m with
        | false => rfl
        | true => exact absurd (eq_of_beq q ▸ List.mem_map_of_mem (f := (·.1)) h) hn.1
      simp only [this]
      exact ih hn.2 h

/-- a call of a def that has cells and closes over nothing -/
theorem fn_enterC {f : Addr} {o : Obj} {fd : FuncData} {body : List Stmt} {args : Args} {Q : Value → Shared → Prop} (H : St base os₀ led s) (hroom : A.depth < recursionLimit) (hlim : base.NoLimit)
    (ho : s.heap.get? f = some o) (hdata : o.data = .func fd) (hcd : s.heap.CodeRec fd.code fd.qualname) (hbody : fd.body = .stmts body) (hclo : fd.closure = [])
    (hnd : ∀ n, ((cellsFrom n fd.scope.names []).map (·.1)).Nodup)
    (h : wpAny (model prog w) A.in1 (bindArgs fd args) (fun binds s₁ => ∃ led₁, St base os₀ led₁ s₁ ∧
      (∀ n, ∀ x ∈ binds, fd.scope.names.lookup x.1 = some .local ∨ (fd.scope.names.lookup x.1 = some .cell ∧ ((cellsFrom n fd.scope.names []).lookup x.1).isSome = true)) ∧
      ∀ L s₂, St base os₀ (cellLed (callEnvC fd L f).kindOf binds (cellsFrom (L + 1) fd.scope.names []) ++ (L, nsA (bindL (callEnvC fd L f).kindOf binds fun _ => none)) :: led₁) s₂ →
        wpAny (model prog w) (A.deeper (callEnvC fd L f)) (execs body (callEnvC fd L f)) (fun fl s' => Q (match fl with | .ret v => v | _ => .none) s')
          (fun e s' => wpAny (model prog w) (A.deeper (callEnvC fd L f)) (leaving (callEnvC fd L f) e) (fun _ s'' => E e s'') (fun e' s'' => E e' s'') s') s₂) E s)
    (hco : fd.scope.isCoroutine = false := by rfl) (hgen : fd.scope.isGenerator = false := by rfl) (hk : fd.scope.kind = .function := by rfl) :
    wpAny (model prog w) A (call (.ref f) args.pos args.kw) Q E s := by
  refine wpAny_call (codeAny_call_function hroom ho hdata hco hgen hbody hcd (wpAny_mono h (fun binds s₁ h₁ => ?_) fun _ _ x => x))
  obtain ⟨led₁, H₁, hkind, h₁⟩ := h₁
  rw [hclo]
  refine wpAny_newFunctionEnv_cells hk (hkind _) fun env he s₂ x => ?_
  subst he
  obtain ⟨h', tk, rfl⟩ := x.toInCall.same
  have hns := x.toInCall.ns
  have hkeep := x.toInCall.keep
  have hcell := x.cell
  have happ := x.apart
  have habv := x.above
  have H₂ : St base os₀ ((s₁.heap.objs.size, nsA (bindL (callEnvC fd s₁.heap.objs.size f).kindOf binds fun _ => none)) :: led₁) { s₁ with heap := h', toks := tk } := by
    obtain ⟨o', ho', hp'⟩ := nsA_of hns
    exact H₁.more hkeep (Nat.le_refl _) ho' hp'
  have H₃ : St base os₀ (cellLed (callEnvC fd s₁.heap.objs.size f).kindOf binds (cellsFrom (s₁.heap.objs.size + 1) fd.scope.names []) ++ (s₁.heap.objs.size, nsA (bindL (callEnvC fd s₁.heap.objs.size f).kindOf binds fun _ => none)) :: led₁) { s₁ with heap := h', toks := tk } := by
    have hbig : ∀ p ∈ cellsFrom (s₁.heap.objs.size + 1) fd.scope.names [], s₁.heap.objs.size < p.2 := fun p hp => habv p.1 p.2 hp
    refine ⟨H₂.keep, ?_, fun p hp => ?_, fun p hp => ?_, H₂.gens, H₂.os⟩
    · rw [List.map_append, List.nodup_append]
      refine ⟨?_, H₂.nd, ?_⟩
      · unfold cellLed
        rw [List.map_map]
        exact List.pairwise_map.mpr (happ.imp fun h => h)
      · intro a ha b hb e
        subst e
        obtain ⟨p, hp, rfl⟩ := List.mem_map.mp ha
        obtain ⟨q, hq, rfl⟩ := List.mem_map.mp hp
        have hlt := hbig q hq
        obtain ⟨r, hr, er⟩ := List.mem_map.mp hb
        rcases List.mem_cons.mp hr with rfl | hr
        · exact absurd hlt (by simp only at er; rw [← er]; exact Nat.lt_irrefl _)
        · obtain ⟨o', ho', _⟩ := H₁.has r hr
          have := Heap.lt_size ho'
          rw [er] at this
          exact absurd this (Nat.not_lt.mpr (Nat.le_of_lt hlt))
    · rcases List.mem_append.mp hp with hp | hp
      · obtain ⟨q, hq, rfl⟩ := List.mem_map.mp hp
        exact hcell q.1 q.2 (lookup_of_mem (hnd _) hq)
      · exact H₂.has p hp
    · rcases List.mem_append.mp hp with hp | hp
      · obtain ⟨q, hq, rfl⟩ := List.mem_map.mp hp
        exact H₁.newAt (Nat.le_of_lt (hbig q hq))
      · exact H₂.new p hp
  exact ⟨hlim.keeps H₃.keep, codeAny_func (h₁ _ _ H₃)⟩
end
end Mine

namespace Mine
open PySem PySem.W PyProof.Rows PySem.Calls PySem.Spec
def ex0 (cls : String) : Asn := fun o => o.cls = .type cls ∧ ∃ vs, o.data = .fields vs ∧ 4 < vs.size ∧ vs[1]? = some .none
section
variable {prog : Program} {w : World} {A : Around} {E : Value → Shared → Prop} {s : Shared} {base : Heap} {os₀ : OsState} {led led' : Led} {e : Addr} {cls : String} {env : Env}

end
end Mine

namespace Mine
open PySem PySem.W PyProof.Rows PySem.Calls PySem.Spec
/-- what the top gives -/
structure Gr (base : Heap) (mg mb : Str → Option Value) : Prop where
  g : base.Ns mainGlobals mg
  b : base.Ns builtinsNs mb
  lim : base.NoLimit
  sys : ∃ o, base.get? sysModules = some o
  bmain : ∃ bm ob, mg "__builtins__" = some (.ref bm) ∧ bm ≠ builtinsNs ∧ base.get? bm = some ob ∧ ob.cls = .type "module" ∧ ob.dict = some builtinsNs ∧ ob.data = .plain
section
variable {M : Model} {A : Around} {E : Value → Shared → Prop} {s : Shared} {base : Heap} {os₀ : OsState} {led : Led} {env : Env} {mg mb : Str → Option Value} {c P : Addr} {ps : Array Value} {pos : Pos} {firstLine : Nat} {name qual : Str} {params : Arguments} {scope : Scope}
  {clos : List (Str × Addr)} {Q : Value → Shared → Prop}

end
end Mine

namespace Mine
open PySem PySem.W PyProof.Rows PySem.Calls PySem.Spec
section
variable {prog : Program} {w : World} {A : Around} {E : Value → Shared → Prop} {s : Shared} {base : Heap} {os₀ : OsState} {led led' : Led} {env : Env} {e : Addr} {cls : String}

theorem l_append {l : Addr} {vs : List Value} {x : Value} {Q : Value → Shared → Prop} (H : St base os₀ led s) (U : Up l (lstA vs) (lstA (vs ++ [x])) led led') (h : ∀ s', St base os₀ led' s' → Q .none s') (hsz : vs.length ≤ sizeLine := by size_fits) :
    wpAny (model prog w) A (call (.builtin "list.append") [.ref l, x]) Q E s := by
  obtain ⟨o, ho, n, rfl⟩ := H.get U.mem
  exact append_at ho (fun h' hs ho' => h _ (H.upd (tk := s.toks) U hs.extBut ⟨_, ho', n + 1, by rw [List.push_toArray]⟩)) (by rw [List.size_toArray]; exact hsz)

end
end Mine

namespace Mine
open PySem PySem.W PyProof.Rows PySem.Calls PySem.Spec
/-- one entry is taken out of a ledger -/
inductive Pick (a : Addr × Asn) : Led → Led → Prop
  | head {l} : Pick a (a :: l) l
  | tail {b l l'} : Pick a l l' → Pick a (b :: l) (b :: l')
theorem Pick.perm {a : Addr × Asn} {l l' l'' : Led} (h : Pick a l l') (hp : l''.Perm l') : (a :: l'').Perm l := by
  have : (a :: l').Perm l := by
    clear hp
    induction h with
    | head => exact .refl _
    | tail _ ih => exact (List.Perm.swap ..).trans (ih.cons _)
  exact (hp.cons a).trans this
def itA (l : Addr) (i : Nat) : Asn := fun o => o.cls = .type "list_iterator" ∧ o.data = .fields #[.ref l, .int i 0]
section
variable {prog : Program} {w : World} {A : Around} {E : Value → Shared → Prop} {s : Shared} {base : Heap} {os₀ : OsState} {led led' : Led} {env : Env}

theorem item_l {value slice : Expr} {a : Addr} {vs : List Value} {k : Int} {u : Tok} {x : Value} {Q : Value → Shared → Prop} (H : St base os₀ led s) (hm : (a, lstA vs) ∈ led)
    (h0 : 0 ≤ k) (hfit : k < 2 ^ 63) (hx : vs[k.toNat]? = some x) (h : Q x s)
    (hs : subscripted slice false (.ref a) (.int k u) = operate [.ref a, .int k u] (getItem (.ref a) (.int k u)) := by with_unfolding_all rfl) :
    wpAny (model prog w) A (subscriptTail value slice (.ref a) (.int k u)) Q E s :=
  item_listR (H.isList hm) h0 hfit (by simpa using hx) h hs

/-- room for all that the laws do -/
structure Room (prog : Program) (w : World) (A : Around) (base : Heap) : Prop where
  depth : A.depth + 200 < recursionLimit
  units : A.units + 64 < cLine
  handled : A.handled = none
  pylong : ∀ s : Shared, (∀ b o, base.get? b = some o → s.heap.get? b = some o) → PylongRoom (model prog w) A s

theorem i_fdiv {a b : Int} {t u : Tok} {Q : Value → Shared → Prop} (R : Room prog w A base) (H : St base os₀ led s) (hb : b ≠ 0) (h : ∀ t' s', St base os₀ led s' → Q (.int (a.fdiv b) t') s') :
    wpAny (model prog w) A (binaryOp .FloorDiv (.int a t) (.int b u)) Q E s :=
  PyProof.Rows.floordiv_int hb (h _ _ H.tok) (.inr (R.pylong s H.keep))
theorem i_mod {a b : Int} {t u : Tok} {Q : Value → Shared → Prop} (H : St base os₀ led s) (hb : b ≠ 0) (h : ∀ t' s', St base os₀ led s' → Q (.int (a.fmod b) t') s') :
    wpAny (model prog w) A (binaryOp .Mod (.int a t) (.int b u)) Q E s :=
  PyProof.Rows.mod_int hb (h _ _ H.tok)

/-! equality in one world -/
end
end Mine

namespace Mine
open PySem PySem.W PyProof.Rows PySem.Calls PySem.Spec
open AutoSeq1 (wpAny_loadPart')
section
variable {prog : Program} {w : World} {A : Around} {E : Value → Shared → Prop} {s : Shared} {base : Heap} {os₀ : OsState} {led led' : Led} {env : Env}

end
end Mine

namespace Mine
open PySem PySem.W PyProof.Rows PySem.Calls PySem.Spec
/-- an iterator in the ledger -/
structure Iter (prog : Program) (w : World) (A : Around) (base : Heap) (os₀ : OsState) (I : Addr) (n : Nat) (P : Nat → Value → Prop) (itP : Nat → Asn) (side : Led) : Prop where
  item : ∀ i led s (Q : Option Value → Shared → Prop) (E : Value → Shared → Prop), i < n → St base os₀ ((I, itP i) :: (side ++ led)) s → (∀ v s', P i v → St base os₀ ((I, itP (i + 1)) :: (side ++ led)) s' → Q (some v) s') → wpAny (model prog w) A (pyNext (.ref I)) Q E s
  done : ∀ led s (Q : Option Value → Shared → Prop) (E : Value → Shared → Prop), St base os₀ ((I, itP n) :: (side ++ led)) s → (∀ s', St base os₀ (side ++ led) s' → Q none s') → wpAny (model prog w) A (pyNext (.ref I)) Q E s
  self : ∀ led s (Q : Value → Shared → Prop) (E : Value → Shared → Prop), St base os₀ ((I, itP 0) :: (side ++ led)) s → Q (.ref I) s → wpAny (model prog w) A (pyIter (.ref I)) Q E s
section
variable {prog : Program} {w : World} {A : Around} {E : Value → Shared → Prop} {s : Shared} {base : Heap} {os₀ : OsState} {led led' : Led} {env : Env} {I l : Addr} {vs : List Value}

theorem St.gone {P : Asn} (H : St base os₀ ((I, P) :: led) s) {h' : Heap} {tk : Nat} (he : ∀ b o, b ≠ I → s.heap.get? b = some o → h'.get? b = some o) : St base os₀ led { s with heap := h', toks := tk } where
  keep := fun b o e => he b o (fun q => by have := H.new _ (.head _); simp only at this; rw [← q, e] at this; cases this) (H.keep b o e)
  nd := (H.sub (.cons _ (.refl _))).nd
  has := fun p hp => by obtain ⟨o, ho, hP⟩ := H.has p (.tail _ hp); exact ⟨o, he _ _ (H.ne hp) ho, hP⟩
  new := fun p hp => H.new p (.tail _ hp)
  gens := H.gens
  os := H.os

theorem Iter.list (hh : A.handled = none) : Iter prog w A base os₀ I vs.length (fun i v => vs[i]? = some v) (itA l) [(l, lstA vs)] where
  item := fun i led s Q E hi H h => by
    obtain ⟨oi, hoi, hic, hid⟩ := H.get (.head _)
    refine wpAny_pyNext_list_item ⟨oi, hoi, hic, hid⟩ (H.isList (.tail _ (.head _))) (x := vs[i]) (by simp [hi]) fun h' hit' hs' => h _ _ (by simp [hi]) ?_
    obtain ⟨oi', hoi', hic', hid'⟩ := hit'
    exact H.upd (tk := s.toks) .head hs'.extBut ⟨oi', hoi', hic', hid'⟩
  done := fun led s Q E H h => by
    obtain ⟨oi, hoi, hic, hid⟩ := H.get (.head _)
    exact wpAny_pyNext_list_end hh ⟨oi, hoi, hic, hid⟩ (H.isList (.tail _ (.head _))) (by simp) fun h' he' => h _ (H.gone (tk := s.toks) he')
  self := fun led s Q E H h => by
    obtain ⟨oi, hoi, hic, hid⟩ := H.get (.head _)
    exact wpAny_pyIter_listiter ⟨oi, hoi, hic, hid⟩ h

def rngA (n i : Nat) : Asn := fun o => o = { cls := .type "range_iterator", dict := none, data := .fields #[rawInt (0 + (i : Nat) * 1), rawInt ((n : Int) - (i : Nat)), rawInt 1], slots := #[] }
theorem Iter.range {n : Nat} (hh : A.handled = none) : Iter prog w A base os₀ I n (fun i v => ∃ t, v = .int i t) (rngA n) [] where
  item := fun i led s Q E hi H h => by
    obtain ⟨oi, hoi, rfl⟩ := H.get (.head _)
    refine (Walks.range (prog := prog) (w := w) hh I 0 1 n).item i s Q E hi hoi fun v h' tk hv hit hk => h v _ ?_ ?_
    · obtain ⟨t, rfl⟩ := hv; exact ⟨t, by congr 1; omega⟩
    · exact H.upd .head (fun b o hb e => hk b o (by simpa using hb) e) ⟨_, hit, rfl⟩
  done := fun led s Q E H h => by
    obtain ⟨oi, hoi, rfl⟩ := H.get (.head _)
    exact (Walks.range (prog := prog) (w := w) hh I 0 1 n).done s Q E hoi fun h' tk hk => h _ (H.gone (fun b o hb e => hk b o (by simpa using hb) e))
  self := fun led s Q E H h => by
    obtain ⟨oi, hoi, rfl⟩ := H.get (.head _)
    exact (Walks.range (prog := prog) (w := w) hh I 0 1 n).self 0 s Q E hoi h

theorem for_iter {R : Result → Shared → Prop} {target : Expr} {body : List Stmt} {n : Nat} {P : Nat → Value → Prop} {itP : Nat → Asn} {side : Led} (W : Iter prog w A base os₀ I n P itP side) (J : Nat → Led → Prop)
    (turn : ∀ i v led s E', i < n → P i v → J i led → St base os₀ ((I, itP (i + 1)) :: (side ++ led)) s →
      wpAny (model prog w) A (assign target env v) (fun _ s₂ => wpAny (model prog w) A (execs body env) (fun f s₃ => match f with
        | .next | .cont => ∃ led', J (i + 1) led' ∧ St base os₀ ((I, itP (i + 1)) :: (side ++ led')) s₃
        | .brk => R (.ok .next) s₃
        | .ret v => R (.ok (.ret v)) s₃) E' s₂) E' s)
    (fin : ∀ led s, J n led → St base os₀ (side ++ led) s → R (.ok .next) s)
    (H : St base os₀ ((I, itP 0) :: (side ++ led)) s) (h0 : J 0 led)
    (ht : ∀ v, letOwnedTupleGo target (.ref I) v = pure () := by intro _; rfl) :
    codeAny (model prog w) A (.forLoop target (.ref I) body [] env) R s := by
  refine codeAny_forLoop (fun k s' => ∃ i led', k = n + 1 - i ∧ i ≤ n ∧ J i led' ∧ St base os₀ ((I, itP i) :: (side ++ led')) s') ?_ (n + 1) ⟨0, led, rfl, Nat.zero_le _, h0, H⟩ ht
  rintro k s' ⟨i, led', rfl, hi, hJ, H'⟩
  by_cases hlt : i < n
  · refine W.item i led' s' _ _ hlt H' fun v s₁ hv H₁ => ?_
    refine wpAny_mono (turn i v led' _ _ hlt hv hJ H₁) (fun _ s₂ h₂ => wpAny_mono h₂ (fun f s₃ h₃ => ?_) fun _ _ x => x) fun _ _ x => x
    cases f with
    | next => obtain ⟨led'', hJ', H''⟩ := h₃; exact ⟨n + 1 - (i + 1), by omega, i + 1, led'', rfl, hlt, hJ', H''⟩
    | cont => obtain ⟨led'', hJ', H''⟩ := h₃; exact ⟨n + 1 - (i + 1), by omega, i + 1, led'', rfl, hlt, hJ', H''⟩
    | brk => exact h₃
    | ret v => exact h₃
  · have hin : i = n := by omega
    subst hin
    exact W.done led' s' _ _ H' fun s₁ H₁ => wpAny_execs_nil (fin led' _ hJ H₁)

theorem r_new {n : Nat} {t : Tok} {Q : Value → Shared → Prop} (H : St base os₀ led s) (h : ∀ r s', (∃ t1 t2, St base os₀ ((r, objA { cls := .type "range", data := .fields #[.int 0 t1, .int n t, .int 1 t2] }) :: led) s') → Q (.ref r) s') :
    wpAny (model prog w) A (call (.type "range") [.int n t]) Q E s := call_range_1 (h _ _ ⟨_, _, H.push (tk := s.toks + 1 + 1) rfl rfl⟩)
theorem r_iter {r : Addr} {n : Nat} {t1 t t2 : Tok} {Q : Value → Shared → Prop} (hn : (n : Int) < 2 ^ 62) (H : St base os₀ ((r, objA { cls := .type "range", data := .fields #[.int 0 t1, .int n t, .int 1 t2] }) :: led) s)
    (h : ∀ I s', St base os₀ ((I, rngA n 0) :: led) s' → Q (.ref I) s') : wpAny (model prog w) A (pyIter (.ref r)) Q E s := by
  obtain ⟨o, ho, rfl⟩ := H.get (.head _)
  refine wpAny_pyIter_range ho (small_one (by decide) (by decide) (by omega) hn) (h _ _ ?_)
  have e : Builtin.Range.rangeSize 0 n 1 = (n : Int) := by rw [rangeSize_one]; split <;> omega
  rw [e]
  refine (H.push (tk := s.toks) (P := rngA n 0) rfl ?_).sub (.cons_cons _ (.cons _ (.refl _)))
  show _ = _
  simp
theorem for_range {n : Nat} {t1 t t2 : Tok} {r : Addr} {x : Str} {px pos : Pos} {iter : Expr} {body : List Stmt} {Q : Flow → Shared → Prop} (J : Nat → Led → Prop) (hh : A.handled = none) (hn : (n : Int) < 2 ^ 62)
    (h : wpAny (model prog w) A (eval iter env) (fun v s₁ => ∃ r t1 t t2 led, v = .ref r ∧ St base os₀ ((r, objA { cls := .type "range", data := .fields #[.int 0 t1, .int n t, .int 1 t2] }) :: led) s₁ ∧ J 0 led) E s)
    (turn : ∀ I i v led s E', i < n → (∃ t, v = .int i t) → J i led → St base os₀ ((I, rngA n (i + 1)) :: led) s →
      wpAny (model prog w) A (assign (.Name x px) env v) (fun _ s₂ => wpAny (model prog w) A (execs body env) (fun f s₃ => match f with
        | .next | .cont => ∃ led', J (i + 1) led' ∧ St base os₀ ((I, rngA n (i + 1)) :: led') s₃
        | .brk => Q .next s₃
        | .ret v => Q (.ret v) s₃) E' s₂) E' s)
    (fin : ∀ led s, J n led → St base os₀ led s → Q .next s)
    (hs : ∀ x, foldedSetIterable iter env x = pure x := by intro _; rfl) :
    wpAny (model prog w) A (exec (.For (.Name x px) iter body [] pos) env) Q E s := by
  refine wpAny_For (wpAny_mono h (fun v s₁ h₁ => ?_) fun _ _ x => x) hs
  obtain ⟨r, t1, t, t2, led, rfl, H, h0⟩ := h₁
  refine r_iter hn H fun I s₂ H₂ => ?_
  exact for_iter (Iter.range hh) J (fun i v led s E' hi hv hJ H' => turn I i v led s E' hi hv hJ H') (fun led s hJ H' => fin led s hJ H') H₂ h0

end
end Mine

namespace Mine
open PySem PySem.W PyProof.Rows PySem.Calls PySem.Spec
section
variable {prog : Program} {w : World} {A : Around} {E : Value → Shared → Prop} {s : Shared} {base : Heap} {os₀ : OsState} {led tl : Led} {m : Str → Option Value} {a : Addr} {vs : List Value}
theorem St.push2 (H : St base os₀ led s) {tk : Nat} {o₁ o : Obj} {P : Asn} (hf₁ : o₁.isFreed = false) (hf : o.isFreed = false) (hp : P o) : St base os₀ ((s.heap.objs.size + 1, P) :: led) { s with heap := (s.heap.push o₁).push o, toks := tk } := by
  have H₁ := H.push (tk := tk) (P := fun _ => True) hf₁ trivial
  have H₂ := H₁.push (tk := tk) (P := P) hf hp
  have e : (s.heap.push o₁).objs.size = s.heap.objs.size + 1 := Heap.size_push ..
  simp only [e] at H₂
  exact H₂.sub (.cons_cons _ (.cons _ (.refl _)))
def AllInt (vs : List Value) : Prop := ∀ v ∈ vs, ∃ n t, v = Value.int n t
theorem l_add {l b : Addr} {vs us : List Value} {Q : Value → Shared → Prop} (H : St base os₀ led s) (h1 : (l, lstA vs) ∈ led) (h2 : (b, lstA us) ∈ led) (hsz : vs.length + us.length ≤ sizeLine)
    (h : ∀ r s', St base os₀ ((r, lstA (vs ++ us)) :: led) s' → Q (.ref r) s') : wpAny (model prog w) A (binaryOp .Add (.ref l) (.ref b)) Q E s := by
  obtain ⟨o, ho, n, rfl⟩ := H.get h1
  obtain ⟨o', ho', n', rfl⟩ := H.get h2
  exact PySem.P.add_list ho ho' (h _ _ (H.push (tk := s.toks) rfl ⟨0, by simp⟩)) (by simpa using hsz)
end
theorem allInt_of {vs : List Value} {ns : List Int} (h : IntsAre vs ns) : AllInt vs ∧ vs.length = ns.length := by
  induction h with
  | nil => exact ⟨fun v hv => (by cases hv), rfl⟩
  | cons n t _ ih =>
    refine ⟨fun v hv => ?_, by simp [ih.2]⟩
    rcases List.mem_cons.mp hv with rfl | hv
    · exact ⟨n, t, rfl⟩
    · exact ih.1 v hv
theorem good_true {l : OpenLaw} {cl : Str → Option Addr} {mean : ExcName → Option Value} {args : List WData} {s₁ s' : Shared} (hk : ∀ b o, s₁.heap.get? b = some o → s'.heap.get? b = some o) (ho : s'.os = s₁.os) (hg : s'.gens = #[]) :
    GoodW l.row.claim cl mean args s₁ (.ok (.ret (.bool true))) s' :=
  ⟨.inl ⟨.bool true, .bool true, [], rfl, fun _ => rfl, .bool true, by with_unfolding_all rfl, fun _ => ⟨.nil, fun a h => by cases h⟩⟩, hk, ho, hg⟩
theorem gr_of {p : Program} {loose : List Str} {mean : ExcName → Option Value} {mg mb : Str → Option Value} {h : Heap} (T : Top p loose mean mg mb h) (S : h.NoSeer) : Gr h mg mb := by
  obtain ⟨mm, ⟨o, es, ep, ho, _⟩, _⟩ := S.mods
  exact ⟨T.g, T.b, T.nolimit, ⟨o, ho⟩, T.bmain⟩
theorem room_of {prog : Program} {w : World} {base : Heap} {env : Env} {p : Program} {loose : List Str} {mean : ExcName → Option Value} {mg mb : Str → Option Value} (T : Top p loose mean mg mb base) (S : base.NoSeer) (ht : prog.given.tree = none) (h1 : env.scope.isGenerator = false) (h2 : env.scope.isCoroutine = false) (h3 : env.builtins = builtinsNs) (h4 : env.globals = mainGlobals) : Room prog w (callerA.deeper env) base where
  depth := of_decide_eq_true (by with_unfolding_all rfl)
  units := of_decide_eq_true (by with_unfolding_all rfl)
  handled := rfl
  pylong := fun s hk => PylongRoom.of (T.nolimit.keeps hk) (of_decide_eq_true (by with_unfolding_all rfl)) (PySem.SeerAt.of (S.keeps hk) ht rfl h1 h2 h3 h4)
end Mine

namespace Mine
open PySem PySem.W PyProof.Rows PySem.Calls PySem.Spec
section
variable {prog : Program} {w : World} {A : Around} {E : Value → Shared → Prop} {s : Shared} {base : Heap} {os₀ : OsState} {led led' : Led} {env : Env} {I l : Addr} {vs : List Value}
end
end Mine

namespace Mine
open PySem PySem.W PyProof.Rows PySem.Calls PySem.Spec
/-! sorting a few pairs by their first text -/
section
variable {prog : Program} {w : World} {A : Around} {E : Value → Shared → Prop} {s : Shared} {base : Heap} {os₀ : OsState} {led : Led}

end
end Mine

namespace Mine
open PySem PySem.W PyProof.Rows PySem.Calls PySem.Spec
theorem valueAt_get {K : Type} [DecidableEq K] : ∀ {kvs : List (K × Value)} {j : Nat} {k : K} {v : Value}, (kvs.map (·.1)).Nodup → kvs[j]? = some (k, v) → valueAt kvs k = some v
  | [], _, _, _, _, h => by simp at h
  | (k', v') :: r, 0, k, v, _, h => by
    simp only [List.getElem?_cons_zero, Option.some.injEq, Prod.mk.injEq] at h
    obtain ⟨rfl, rfl⟩ := h
    simp [valueAt]
  | (k', v') :: r, j + 1, k, v, hn, h => by
    simp only [List.map_cons, List.nodup_cons] at hn
    simp only [List.getElem?_cons_succ] at h
    have hm : k ∈ r.map (·.1) := List.mem_map_of_mem (f := (·.1)) (List.mem_of_getElem? h)
    have : k' ≠ k := fun e => hn.1 (e ▸ hm)
    have ih := valueAt_get hn.2 h
    simp only [valueAt] at ih ⊢
    rw [List.find?_cons_of_neg (by simpa using this)]
    exact ih
section
variable {prog : Program} {w : World} {A : Around} {E : Value → Shared → Prop} {s : Shared} {base : Heap} {os₀ : OsState} {led : Led}

end
end Mine

namespace Mine
open PySem PySem.W PyProof.Rows PySem.Calls PySem.Spec
section
variable {prog : Program} {w : World} {A : Around} {E : Value → Shared → Prop} {s : Shared} {base : Heap} {os₀ : OsState} {led led' : Led} {env : Env} {o₀ : Obj} {d : Addr} {kvs : List (Str × Value)} {pos : Pos}

/-- while, with a measure -/
theorem while_led {test : Expr} {body : List Stmt} {Q : Flow → Shared → Prop} (J : Nat → Led → Prop) {n : Nat} (H : St base os₀ led s) (h0 : J n led)
    (turn : ∀ n led s E', J n led → St base os₀ led s → wpAny (model prog w) A (isTrue test env (eval test env)) (fun b s₂ =>
      if b then wpAny (model prog w) A (execs body env) (fun f s₃ => match f with
          | .next | .cont => ∃ m led', m < n ∧ J m led' ∧ St base os₀ led' s₃
          | .brk => Q .next s₃
          | .ret v => Q (.ret v) s₃) E' s₂
      else Q .next s₂) E' s) :
    wpAny (model prog w) A (exec (.While test body [] pos) env) Q E s := by
  refine wpAny_While (codeAny_whileLoop (fun n s' => ∃ led', J n led' ∧ St base os₀ led' s') ?_ n ⟨led, h0, H⟩)
  rintro n s' ⟨led', hJ, H'⟩
  refine wpAny_mono (turn n led' s' _ hJ H') (fun b s₂ h₂ => ?_) fun _ _ x => x
  cases b with
  | true =>
    simp only [if_true] at h₂ ⊢
    refine wpAny_mono h₂ (fun f s₃ h₃ => ?_) fun _ _ x => x
    cases f with
    | next => obtain ⟨m, led'', h1, h2, h3⟩ := h₃; exact ⟨m, h1, led'', h2, h3⟩
    | cont => obtain ⟨m, led'', h1, h2, h3⟩ := h₃; exact ⟨m, h1, led'', h2, h3⟩
    | brk => exact h₃
    | ret v => exact h₃
  | false =>
    simp only [Bool.false_eq_true, if_false] at h₂ ⊢
    exact wpAny_execs_nil h₂
theorem s_int {a : Int} {t : Tok} {Q : Value → Shared → Prop} (H : St base os₀ led s) (ha : a.natAbs.log2 < 1920) (h : ∀ t' s', St base os₀ led s' → Q (.str (toString a) t') s') :
    wpAny (model prog w) A (call (.type "str") [.int a t]) Q E s := PySem.P.str_of_int ha (h _ _ H.tok)
end
end Mine

namespace Mine
open PySem PySem.W PyProof.Rows PySem.Calls PySem.Spec
section
variable {prog : Program} {w : World} {A : Around} {E : Value → Shared → Prop} {s : Shared} {base : Heap} {os₀ : OsState} {led : Led} {env : Env}

end
end Mine

namespace Mine
open PySem PySem.W PyProof.Rows PySem.Calls PySem.Spec
section
variable {prog : Program} {w : World} {A : Around} {E : Value → Shared → Prop} {s : Shared} {base : Heap} {os₀ : OsState} {led : Led}
end
end Mine

namespace Mine
open PySem PySem.W PyProof.Rows PySem.Calls PySem.Spec
/-! filter: what the tables say -/
theorem owner_fil : Manifest.owners.lookup (String.ofList ['r', 'e', 't', 'l', 'i', 'f'].reverse) = some Manifest.sig_filter := by kernel_rfl
theorem slot_fil_next : Slot "filter" "__next__" "filter.__next__" :=
  .of (owner := "filter") (n := "__next__") (by rw [typeLookup_type, builtinLookup_eq_fast]; kernel_rfl) (by decide +kernel) (by decide +kernel) (by decide +kernel)
    (by first | exact .inl (by decide +kernel) | exact .inr (by decide +kernel)) (by rw [isSubtype_type]; kernel_rfl)
theorem slot_fil_iter : Slot "filter" "__iter__" "filter.__iter__" :=
  .of (owner := "filter") (n := "__iter__") (by rw [typeLookup_type, builtinLookup_eq_fast]; kernel_rfl) (by decide +kernel) (by decide +kernel) (by decide +kernel)
    (by first | exact .inl (by decide +kernel) | exact .inr (by decide +kernel)) (by rw [isSubtype_type]; kernel_rfl)
theorem slot_fil_init : Slot "filter" "__init__" "object.__init__" :=
  .of (owner := "object") (n := "__init__") (by rw [typeLookup_type, builtinLookup_eq_fast]; kernel_rfl) (by decide +kernel) (by decide +kernel) (by decide +kernel)
    (by first | exact .inl (by decide +kernel) | exact .inr (by decide +kernel)) (by rw [isSubtype_type]; kernel_rfl)
theorem args_fil_next (a : Value) : argsOk "filter.__next__" ⟨[a], []⟩ := by
  unfold argsOk; rw [signature?_of (id := "filter.__next__") (n := ['_', '_', 't', 'x', 'e', 'n', '_', '_']) (o := ['r', 'e', 't', 'l', 'i', 'f']) (by kernel_rfl) owner_fil]; kernel_rfl
theorem args_fil_iter (a : Value) : argsOk "filter.__iter__" ⟨[a], []⟩ := by
  unfold argsOk; rw [signature?_of (id := "filter.__iter__") (n := ['_', '_', 'r', 'e', 't', 'i', '_', '_']) (o := ['r', 'e', 't', 'l', 'i', 'f']) (by kernel_rfl) owner_fil]; kernel_rfl
theorem entry_fil_next : entryFor table "filter.__next__" = some Builtin.«filter.__next__» := entryFor_of_tree (by kernel_rfl)
theorem entry_fil_new : entryFor table "filter.__new__" = some Builtin.«filter.__new__» := entryFor_of_tree (by kernel_rfl)
theorem entry_fil_iter : entryFor table "filter.__iter__" = some Builtin.«dict_keyiterator.__iter__» :=
  entryFor_alias (id' := "dict_keyiterator.__iter__") (by kernel_rfl) (by first | rfl | decide +kernel) (by decide +kernel) (by kernel_rfl)
theorem mro_fil : mroOf (.type "filter") = pure [.type "filter", .type "object"] := by rw [mroOf_type]; kernel_rfl
theorem lookup_fil_new : typeLookup (.type "filter") "__new__" = pure (some (.builtin "filter.__new__")) := by rw [typeLookup_type, builtinLookup_eq_fast]; kernel_rfl
theorem called_fil : TypeCalled "filter" "filter.__new__" "object.__init__" :=
  ⟨by decide +kernel, by decide +kernel, ⟨_, _, mro_fil⟩, madeBy_type mro_fil lookup_fil_new (by decide +kernel), by decide +kernel, by rw [isSubtype_type]; kernel_rfl, slot_fil_init⟩
theorem typeCall_fil (a b : Value) : checkTypeCall "filter" ⟨[a, b], []⟩ = pure () := by kernel_rfl
theorem newCall_fil (a b : Value) : checkBuiltinCall "filter.__new__" ⟨[.type "filter", a, b], []⟩ = pure () := by kernel_rfl
theorem sub_fil : isSubtype (.type "filter") (.type "filter") = pure true := by rw [isSubtype_type]; kernel_rfl
theorem plain_fil_next : plainId "filter.__next__" = true := by decide +kernel
theorem args_max_d (a v : Value) : argsOk "max" ⟨[a], [(Str.ofString "default", v)]⟩ := by unfold argsOk; kernel_rfl
end Mine

namespace Mine
open PySem PySem.W PyProof.Rows PySem.Calls PySem.Spec
section
variable {prog : Program} {w : World} {K : Type} [DecidableEq K]
def dctE (knd : KeyKind prog w K) (kvs : List (K × Value)) (ep : Nat) : Asn := fun o => ∃ es, o.ExactDict ∧ o.data = .dict es ep ∧ KeysOf knd es ∧ Pairs knd es.toList kvs ∧ (kvs.map (·.1)).Nodup
theorem dctE_A {knd : KeyKind prog w K} {kvs : List (K × Value)} {ep : Nat} (o : Obj) (h : dctE knd kvs ep o) : dctA knd kvs o := by
  obtain ⟨es, r⟩ := h; exact ⟨es, ep, r⟩
def valA (d : Addr) (n ep i : Nat) : Asn := fun o => o.cls = .type "dict_valueiterator" ∧ o.data = .fields #[.ref d, .int i 0, .int n 0, .int ep 0]
def stopA : Asn := fun o => o.cls = .type "StopIteration"
def filA (I : Addr) : Asn := fun o => o = { cls := .type "filter", data := .fields #[.none, .ref I] }
variable {knd : KeyKind prog w K} {A : Around} {E : Value → Shared → Prop} {s : Shared} {base : Heap} {os₀ : OsState} {led : Led} {I d F : Addr} {kvs : List (K × Value)} {i ep : Nat}
theorem St.seeEp (H : St base os₀ ((d, dctA knd kvs) :: led) s) : ∃ ep, St base os₀ ((d, dctE knd kvs ep) :: led) s := by
  obtain ⟨o, ho, es, ep, r⟩ := H.get (.head _)
  exact ⟨ep, H.upd (tk := s.toks) .head (fun _ _ _ e => e) ⟨o, ho, es, r⟩⟩
theorem St.dictAt (H : St base os₀ led s) (hm : (d, dctE knd kvs ep) ∈ led) : s.heap.DictAt knd d kvs ep := by
  obtain ⟨o, ho, es, h1, h2, r⟩ := H.get hm; exact ⟨o, es, ho, h1, h2, r⟩
theorem St.valIter {n : Nat} (H : St base os₀ led s) (hm : (I, valA d n ep i) ∈ led) : s.heap.IsValIter I d i n ep := by
  obtain ⟨o, ho, r⟩ := H.get hm; exact ⟨o, ho, r⟩

theorem nv_item {k : K} {v : Value} {Q : Option Value → Shared → Prop} (H : St base os₀ ((I, valA d kvs.length ep i) :: (d, dctE knd kvs ep) :: led) s) (hx : kvs[i]? = some (k, v))
    (h : ∀ s', St base os₀ ((I, valA d kvs.length ep (i + 1)) :: (d, dctE knd kvs ep) :: led) s' → Q (some v) s') : wpAny (model prog w) A (callSpecial? (.ref I) "__next__") Q E s := by
  have hit := H.valIter (.head _)
  have hm := H.dictAt (knd := knd) (kvs := kvs) (.tail _ (.head _))
  obtain ⟨o, ho, hc, hd⟩ := id hit
  obtain ⟨od, es, hod, hcd, hdd, hk, hp, hn⟩ := id hm
  have hsz : es.size = kvs.length := by rw [← hp.length]; simp
  have hlt : i < kvs.length := by
    rcases Nat.lt_or_ge i kvs.length with h | h
    · exact h
    · simp [List.getElem?_eq_none h] at hx
  have hlt' : i < es.size := by rw [hsz]; exact hlt
  have hval : es[i].val = v := (hp.get? (e := es[i]) (by simp [hlt']) hx).2
  have hown : Builtin.Dict_items.ownsTuple "dict_valueiterator" = false := by decide
  refine wpAny_callSpecial?_slot (name := Str.ofString "__next__") hit.typeIs PySem.F.slot_dict_valueiterator_next (wpAny_call_entry PySem.F.slot_dict_valueiterator_next hit.typeIs PySem.F.entry_dict_valueiterator_next ?_ (PySem.F.args_dict_valueiterator_next_1 _))
  refine wpAny_bind (wpAny_pure (wpAny_bind (wpAny_bind ?_)))
  refine wpAny_bind (wpAny_typeNameOfWhole_valiter hit.typeIs (wpAny_pure ?_))
  refine wpAny_bind (wpAny_fieldsOf ho hd ?_)
  simp only [hown, Bool.false_eq_true, if_false]
  refine wpAny_ite_split (fun q => Bool.noConfusion (show false = true from q)) fun _ => ?_
  refine wpAny_bind (wpAny_pure (wpAny_bind (wpAny_dictEntries hod hdd ?_)))
  rw [if_neg (by rw [hsz]; simp)]
  refine wpAny_bind (wpAny_pure (wpAny_bind (wpAny_dictEpoch hod hdd ?_)))
  rw [if_neg (by simp)]
  refine wpAny_pure ?_
  simp only [show ¬ ((i : Int) < 0) from by omega, if_false, Int.toNat_natCast, Array.getElem?_eq_getElem hlt']
  refine wpAny_bind (wpAny_bind (wpAny_typeNameOfWhole_valiter hit.typeIs (wpAny_pure (wpAny_bind (wpAny_isOneOf_valiter hit.typeIs ?_)))))
  refine wpAny_bind (wpAny_setField ho hd (by simp [hown]) ?_)
  have hit' : (s.heap.update I (Obj.mapFields (·.setIfInBounds 1 (rawInt ((i : Int) + 1))))).IsValIter I d (i + 1) kvs.length ep :=
    ⟨_, Heap.get?_update_self _ ho (Obj.isFreed_of_fields (Obj.data_mapFields hd _)), (Obj.cls_mapFields ..).trans hc, by rw [Obj.data_mapFields hd]; simp [rawInt]⟩
  refine wpAny_bind (wpAny_holding (wpAny_bind (wpAny_isOneOf_valiter (s := { s with heap := s.heap.update I (Obj.mapFields (·.setIfInBounds 1 (rawInt ((i : Int) + 1)))) }) hit'.typeIs ?_)))
  refine wpAny_bind (wpAny_isOneOf_valiter (s := { s with heap := s.heap.update I (Obj.mapFields (·.setIfInBounds 1 (rawInt ((i : Int) + 1)))) }) hit'.typeIs ?_)
  refine wpAny_pure (wpAny_pure ⟨_, rfl, ?_⟩)
  rw [hval]
  obtain ⟨o', ho', r'⟩ := hit'
  exact h _ (H.upd (tk := s.toks) .head (Heap.SameBut.update ..).extBut ⟨o', ho', r'⟩)
theorem nv_end {Q : Option Value → Shared → Prop} (hh : A.handled = none) (H : St base os₀ ((I, valA d kvs.length ep i) :: (d, dctE knd kvs ep) :: led) s) (hx : kvs[i]? = none)
    (h : ∀ e s', St base os₀ ((e, stopA) :: (d, dctE knd kvs ep) :: led) s' → E (.ref e) s') : wpAny (model prog w) A (callSpecial? (.ref I) "__next__") Q E s := by
  have hit := H.valIter (.head _)
  have hm := H.dictAt (knd := knd) (kvs := kvs) (.tail _ (.head _))
  obtain ⟨o, ho, hc, hd⟩ := id hit
  obtain ⟨od, es, hod, hcd, hdd, hk, hp, hn⟩ := id hm
  have hsz : es.size = kvs.length := by rw [← hp.length]; simp
  have hge : es.size ≤ i := by rw [hsz]; simpa using hx
  have hown : Builtin.Dict_items.ownsTuple "dict_valueiterator" = false := by decide
  refine wpAny_callSpecial?_slot (name := Str.ofString "__next__") hit.typeIs PySem.F.slot_dict_valueiterator_next (wpAny_call_entry PySem.F.slot_dict_valueiterator_next hit.typeIs PySem.F.entry_dict_valueiterator_next ?_ (PySem.F.args_dict_valueiterator_next_1 _))
  refine wpAny_bind (wpAny_pure (wpAny_bind (wpAny_bind ?_)))
  refine wpAny_bind (wpAny_typeNameOfWhole_valiter hit.typeIs (wpAny_pure ?_))
  refine wpAny_bind (wpAny_fieldsOf ho hd ?_)
  simp only [hown, Bool.false_eq_true, if_false]
  refine wpAny_ite_split (fun q => Bool.noConfusion (show false = true from q)) fun _ => ?_
  refine wpAny_bind (wpAny_pure (wpAny_bind (wpAny_dictEntries hod hdd ?_)))
  rw [if_neg (by rw [hsz]; simp)]
  refine wpAny_bind (wpAny_pure (wpAny_bind (wpAny_dictEpoch hod hdd ?_)))
  rw [if_neg (by simp)]
  refine wpAny_pure ?_
  simp only [show ¬ ((i : Int) < 0) from by omega, if_false, Int.toNat_natCast, Array.getElem?_eq_none hge]
  refine wpAny_bind (wpAny_bind (wpAny_typeNameOfWhole_valiter hit.typeIs (wpAny_pure ?_)))
  refine wpAny_bind (wpAny_setField ho hd (by simp [hown]) ?_)
  refine wpAny_bind ?_
  simp only [newExc, newTuple]
  refine wpAny_bind (wpAny_newObj_type ?_ (by size_fits))
  refine wpAny_bind (m := firstArgMember _ _) (wpAny_of_eq (a := Value.none) (by first | rfl | (simp only [firstArgMember]; rfl)) ?_)
  refine wpAny_newObj_type ?_ (by size_fits)
  simp only [raiseNew]
  refine wpAny_bind (wpAny_handled ?_)
  rw [show A.in1.handled = none from hh]
  refine wpAny_bind (wpAny_pure (wpAny_throw ?_))
  have H₁ : St base os₀ ((d, dctE knd kvs ep) :: led) { s with heap := s.heap.update I (Obj.mapFields (·.setIfInBounds 0 .none)) } := H.gone (tk := s.toks) (Heap.SameBut.update ..).extBut
  rw [Heap.size_push]
  exact h _ _ (H₁.push2 (s := { s with heap := s.heap.update I (Obj.mapFields (·.setIfInBounds 0 .none)) }) (tk := s.toks) (P := stopA) rfl rfl (show _ = _ from rfl))
end
end Mine

namespace Mine
open PySem PySem.W PyProof.Rows PySem.Calls PySem.Spec
/-- a line: None, a bool, a text, a number -/
inductive Ln | none | bool (b : Bool) | str (x : Str) | int (n : Int)
def LnV : Ln → Value → Prop
  | .none, v => v = .none
  | .bool b, v => v = .bool b
  | .str x, v => ∃ t, v = .str x t
  | .int n, v => ∃ t, v = .int n t
def Ln.yes : Ln → Bool
  | .none => false
  | .bool b => b
  | .str x => (x.length : Int) != 0
  | .int n => n != 0
def Ln.fits : Ln → Prop
  | .str x => x.length ≤ 1000
  | .int n => n.natAbs < 10 ^ 100
  | _ => True
def Ln.num : Ln → Option Int
  | .bool b => some (if b then 1 else 0)
  | .int n => some n
  | _ => Option.none
def Ln.gt : Ln → Ln → Option Bool
  | .str x, .str y => some (decide (y.cps.toList < x.cps.toList))
  | a, b => match a.num, b.num with | some m, some n => some (decide (m > n)) | _, _ => Option.none
/-- the greatest of the lines that count -/
def maxL : Option Ln → List Ln → Option (Option Ln)
  | b, [] => some b
  | b, l :: r => if l.yes then (match b with
      | Option.none => maxL (some l) r
      | some m => match l.gt m with
        | Option.none => Option.none
        | some true => maxL (some l) r
        | some false => maxL (some m) r) else maxL b r
theorem maxL_skip {b : Option Ln} : ∀ {pre post : List Ln}, (∀ l ∈ pre, l.yes = false) → maxL b (pre ++ post) = maxL b post
  | [], _, _ => rfl
  | l :: pre, post, h => by
    have h1 := h l (.head _)
    simp only [List.cons_append, maxL, h1, Bool.false_eq_true, if_false]
    exact maxL_skip fun x hx => h x (.tail _ hx)
section
variable {prog : Program} {w : World} {K : Type} [DecidableEq K] {knd : KeyKind prog w K} {A : Around} {E : Value → Shared → Prop} {s : Shared} {base : Heap} {os₀ : OsState} {led : Led} {I d F S : Addr} {kvs : List (K × Value)} {i ep : Nat}
def VL (kvs : List (K × Value)) (ls : List Ln) : Prop := kvs.length = ls.length ∧ ∀ (i : Nat) (l : Ln), ls[i]? = some l → ∃ k v, kvs[i]? = some (k, v) ∧ LnV l v
theorem truthy_ln {l : Ln} {v : Value} {Q : Bool → Shared → Prop} (hv : LnV l v) (hf : l.fits) (H : St base os₀ led s) (h : ∀ s', St base os₀ led s' → Q l.yes s') : wpAny (model prog w) A (truthy v) Q E s := by
  cases l with
  | none => cases hv; exact PyProof.Rows.truthy_none (h _ H)
  | bool b => cases hv; exact wpAny_truthy_bool (h _ H)
  | str x =>
    obtain ⟨t, rfl⟩ := hv
    have hf : x.length ≤ 1000 := hf
    exact PySem.P.truthy_str (by omega) (h _ H.tok)
  | int n => obtain ⟨t, rfl⟩ := hv; exact PySem.P.truthy_int (h _ H)

/-- the next line that counts -/
theorem fil_next {R : Result → Shared → Prop} {ls : List Ln} (hh : A.handled = none) (hV : VL kvs ls) (hf : ∀ l ∈ ls, l.fits) : ∀ (m i : Nat) (s : Shared), ls.length - i = m →
    St base os₀ ((I, valA d kvs.length ep i) :: (d, dctE knd kvs ep) :: (F, filA I) :: led) s →
    (∀ pre l post v s', ls.drop i = pre ++ l :: post → (∀ x ∈ pre, x.yes = false) → l.yes = true → LnV l v → St base os₀ ((I, valA d kvs.length ep (i + pre.length + 1)) :: (d, dctE knd kvs ep) :: (F, filA I) :: led) s' → R (.ok (.ret v)) s') →
    (∀ e s', (∀ x ∈ ls.drop i, x.yes = false) → St base os₀ ((e, stopA) :: (d, dctE knd kvs ep) :: (F, filA I) :: led) s' → R (.error (.ref e)) s') →
    codeAny (model prog w) A (.builtin "filter.__next__" ⟨[.ref F], []⟩) R s := by
  intro m
  induction m with
  | zero =>
    intro i s hm H hi he
    obtain ⟨oF, hoF, rfl⟩ := H.get (a := F) (P := filA I) (.tail _ (.tail _ (.head _)))
    have hge : ls.length ≤ i := by omega
    refine codeAny_builtin entry_fil_next ?_
    rw [Around.under_plainId plain_fil_next _]
    refine wpAny_bind (wpAny_pure ?_)
    refine wpAny_bind (wpAny_field hoF rfl rfl (wpAny_bind (wpAny_field hoF rfl rfl ?_)))
    refine wpAny_bind (nv_end hh H (List.getElem?_eq_none (by rw [hV.1]; exact hge)) fun e s' H' => he e s' (by rw [List.drop_eq_nil_of_le hge]; intro x hx; cases hx) H')
  | succ m ih =>
    intro i s hm H hi he
    obtain ⟨oF, hoF, rfl⟩ := H.get (a := F) (P := filA I) (.tail _ (.tail _ (.head _)))
    have hlt : i < ls.length := by omega
    have hdr : ls.drop i = ls[i] :: ls.drop (i + 1) := List.drop_eq_getElem_cons hlt
    obtain ⟨k, v, hkv, hv⟩ := hV.2 i ls[i] (List.getElem?_eq_getElem hlt)
    refine codeAny_builtin entry_fil_next ?_
    rw [Around.under_plainId plain_fil_next _]
    refine wpAny_bind (wpAny_pure ?_)
    refine wpAny_bind (wpAny_field hoF rfl rfl (wpAny_bind (wpAny_field hoF rfl rfl ?_)))
    refine wpAny_bind (nv_item H hkv fun s₁ H₁ => ?_)
    refine wpAny_bind (wpAny_holding ?_)
    refine wpAny_ite_split (fun _ => ?_) fun q => absurd (show (true || _) = true from rfl) q
    refine wpAny_bind (wpAny_rule (truthy_ln hv (hf _ (List.getElem_mem hlt)) H₁ fun s₂ H₂ => ?_))
    cases hy : ls[i].yes with
    | true =>
      simp only [if_true]
      exact wpAny_pure (hi [] ls[i] (ls.drop (i + 1)) v s₂ (by rw [hdr]; rfl) (fun x hx => by cases hx) hy hv H₂)
    | false =>
      simp only [Bool.false_eq_true, if_false]
      refine wpAny_pure ⟨plainId_quiet plain_fil_next _, ih (i + 1) s₂ (by omega) H₂ (fun pre l post v' s' e1 e2 e3 e4 H' => ?_) fun e s' e1 H' => ?_⟩
      · have en : i + (ls[i] :: pre).length + 1 = i + 1 + pre.length + 1 := by simp; omega
        refine hi (ls[i] :: pre) l post v' s' (by rw [hdr, e1]; rfl) (fun x hx => ?_) e3 e4 (by rw [en]; exact H')
        rcases List.mem_cons.mp hx with rfl | hx
        · exact hy
        · exact e2 x hx
      · refine he e s' (fun x hx => ?_) H'
        rw [hdr] at hx
        rcases List.mem_cons.mp hx with rfl | hx
        · exact hy
        · exact e1 x hx
end
end Mine

namespace Mine
open PySem PySem.W PyProof.Rows PySem.Calls PySem.Spec
section
variable {prog : Program} {w : World} {K : Type} [DecidableEq K] {knd : KeyKind prog w K} {A : Around} {E : Value → Shared → Prop} {s : Shared} {base : Heap} {os₀ : OsState} {led : Led} {I d F S v : Addr} {kvs : List (K × Value)} {i ep : Nat} {ls : List Ln}
theorem fil_iter {Q : Value → Shared → Prop} (H : St base os₀ led s) (hm : (F, filA I) ∈ led) (h : Q (.ref F) s) : wpAny (model prog w) A (pyIter (.ref F)) Q E s := by
  obtain ⟨o, ho, rfl⟩ := H.get hm
  have hT : s.TypeIs (.ref F) "filter" := ⟨_, ho, rfl⟩
  refine wpAny_pyIter_slot hT slot_fil_iter (wpAny_call_entry slot_fil_iter hT entry_fil_iter ?_ (args_fil_iter _))
  show wpAny _ _ (ret (.ref F)) _ _ s
  exact wpAny_pure ⟨_, rfl, "filter", _, hT, slot_fil_next.lookup, h⟩
theorem fil_pyNext {Q : Option Value → Shared → Prop} (hh : A.handled = none) (hV : VL kvs ls) (hf : ∀ l ∈ ls, l.fits) (H : St base os₀ ((I, valA d kvs.length ep i) :: (d, dctE knd kvs ep) :: (F, filA I) :: led) s)
    (hi : ∀ pre l post v s', ls.drop i = pre ++ l :: post → (∀ x ∈ pre, x.yes = false) → l.yes = true → LnV l v → St base os₀ ((I, valA d kvs.length ep (i + pre.length + 1)) :: (d, dctE knd kvs ep) :: (F, filA I) :: led) s' → Q (some v) s')
    (he : ∀ s', (∀ x ∈ ls.drop i, x.yes = false) → St base os₀ ((d, dctE knd kvs ep) :: (F, filA I) :: led) s' → Q none s') : wpAny (model prog w) A (pyNext (.ref F)) Q E s := by
  obtain ⟨o, ho, rfl⟩ := H.get (a := F) (P := filA I) (.tail _ (.tail _ (.head _)))
  have hT : s.TypeIs (.ref F) "filter" := ⟨_, ho, rfl⟩
  unfold pyNext
  refine wpAny_bind (wpAny_attempt (wpAny_callSpecial?_slot (name := Str.ofString "__next__") hT slot_fil_next (wpAny_call (codeAny_call_builtin_code (plainId_quiet plain_fil_next _) (slot_fil_next.check _ _ _ _ _ _ _ _ hT (args_fil_next _) ?_)))))
  refine fil_next hh hV hf _ i s rfl H (fun pre l post v s' e1 e2 e3 e4 H' => wpAny_pure (hi pre l post v s' e1 e2 e3 e4 H')) fun e s' e1 H' => ?_
  obtain ⟨oe, hoe, hce⟩ := H'.get (a := e) (P := stopA) (.head _)
  refine wpAny_bind (wpAny_isInstance (T := "StopIteration") (b := true) ⟨oe, hoe, hce⟩ isSubtype_stop ?_)
  exact wpAny_pure (he s' e1 (H'.sub (.cons _ (.refl _))))

/-- how the lines are compared -/
def CmpOk (prog : Program) (w : World) (A : Around) (base : Heap) (os₀ : OsState) (ls : List Ln) : Prop :=
  ∀ (l m : Ln) (v u : Value) (led : Led) (s : Shared) (Q : Value → Shared → Prop) (E : Value → Shared → Prop), l ∈ ls → m ∈ ls → l.yes = true → m.yes = true → LnV l v → LnV m u → St base os₀ led s →
    (∀ b s', l.gt m = some b → St base os₀ led s' → Q (.bool b) s') → (∀ e s', l.gt m = none → St base os₀ ((e, ex0 "TypeError") :: led) s' → E (.ref e) s') → wpAny (model prog w) A (richCompare .Gt v u) Q E s
def bestA (b : Option (Ln × Value)) : Asn := lstA (match b with | none => [] | some (_, v) => [v, v])

theorem max_loop {R : Result → Shared → Prop} {dv : Value} (hh : A.handled = none) (hV : VL kvs ls) (hf : ∀ l ∈ ls, l.fits) (hcmp : CmpOk prog w A.in1 base os₀ ls) : ∀ (n i : Nat) (b : Option (Ln × Value)) (s : Shared), ls.length - i ≤ n →
    (∀ l v, b = some (l, v) → l ∈ ls ∧ l.yes = true ∧ LnV l v) →
    St base os₀ ((S, bestA b) :: (I, valA d kvs.length ep i) :: (d, dctE knd kvs ep) :: (F, filA I) :: led) s →
    (∀ l v s', maxL (b.map (·.1)) (ls.drop i) = some (some l) → l ∈ ls → l.yes = true → LnV l v → St base os₀ ((d, dctE knd kvs ep) :: led) s' → R (.ok (.ret v)) s') →
    (∀ s', maxL (b.map (·.1)) (ls.drop i) = some none → St base os₀ ((d, dctE knd kvs ep) :: led) s' → R (.ok (.ret dv)) s') →
    (∀ e s', maxL (b.map (·.1)) (ls.drop i) = none → St base os₀ ((e, ex0 "TypeError") :: (d, dctE knd kvs ep) :: led) s' → R (.error (.ref e)) s') →
    codeAny (model prog w) A (.builtin "max.loop" ⟨[.ref F, .none, .ref S], [(Str.ofString "default", dv)]⟩) R s := by
  have hname : (toString "max" ++ toString ".loop" : String) = "max.loop" := by decide
  intro n
  induction n with
  | zero =>
    intro i b s hn hb H h1 h2 h3
    have hdr : ls.drop i = [] := List.drop_eq_nil_of_le (by omega)
    rw [hdr] at h1 h2 h3
    obtain ⟨oS, hoS, nS, rfl⟩ := H.get (a := S) (P := bestA b) (.head _)
    have Hn : St base os₀ ((I, valA d kvs.length ep i) :: (d, dctE knd kvs ep) :: (F, filA I) :: (S, bestA b) :: led) s := H.perm (List.perm_middle (l₁ := [(I, valA d kvs.length ep i), (d, dctE knd kvs ep), (F, filA I)]))
    refine codeAny_builtin PySem.F.entry_max_loop ?_
    rw [Around.under_plainId PySem.F.plain_max_loop _]
    refine wpAny_bind (wpAny_seqItems hoS rfl ?_)
    refine wpAny_bind (wpAny_tryCatch (fil_pyNext hh hV hf Hn (fun pre l post v s' e1 => ?_) fun s' e1 H' => ?_))
    · rw [hdr] at e1; cases pre <;> cases e1
    · have H'' : St base os₀ ((S, bestA b) :: (d, dctE knd kvs ep) :: led) s' := (H'.perm (led' := (F, filA I) :: (S, bestA b) :: (d, dctE knd kvs ep) :: led) (by
        repeat (first | exact List.Perm.refl _ | refine Pick.perm (by (repeat (first | exact Pick.head | apply Pick.tail))) ?_))).sub (.cons _ (.refl _))
      cases b with
      | none => exact wpAny_bind (wpAny_rule (wpAny_pure (h2 s' rfl (H''.sub (.cons _ (.refl _))))))
      | some lv =>
        obtain ⟨l, vb⟩ := lv
        obtain ⟨b1, b2, b3⟩ := hb l vb rfl
        obtain ⟨oS', hoS', nS', rfl⟩ := H''.get (a := S) (P := bestA (some (l, vb))) (.head _)
        refine wpAny_bind (wpAny_updateSeq hoS' rfl (wpAny_bind (wpAny_letGo (wpAny_pure ?_))))
        exact h1 l vb _ rfl b1 b2 b3 (H''.gone (tk := s'.toks) (Heap.SameBut.update ..).extBut)
  | succ n ih =>
    intro i b s hn hb H h1 h2 h3
    obtain ⟨oS, hoS, nS, rfl⟩ := H.get (a := S) (P := bestA b) (.head _)
    have Hn : St base os₀ ((I, valA d kvs.length ep i) :: (d, dctE knd kvs ep) :: (F, filA I) :: (S, bestA b) :: led) s := H.perm (List.perm_middle (l₁ := [(I, valA d kvs.length ep i), (d, dctE knd kvs ep), (F, filA I)]))
    refine codeAny_builtin PySem.F.entry_max_loop ?_
    rw [Around.under_plainId PySem.F.plain_max_loop _]
    refine wpAny_bind (wpAny_seqItems hoS rfl ?_)
    refine wpAny_bind (wpAny_tryCatch (fil_pyNext hh hV hf Hn (fun pre l post v s' e1 e2 e3 e4 H' => ?_) fun s' e1 H' => ?_))
    · have hpost : ls.drop (i + pre.length + 1) = post := by
        have : ls.drop (i + pre.length + 1) = (ls.drop i).drop (pre.length + 1) := by rw [List.drop_drop]; congr 1
        rw [this, e1]
        simp
      have hl : l ∈ ls := List.mem_of_mem_drop (i := i) (by rw [e1]; simp)
      have hlen : pre.length + 1 + post.length = ls.length - i := by have := congrArg List.length e1; simp at this; omega
      rw [e1, maxL_skip e2] at h1 h2 h3
      have H₁ : St base os₀ ((S, bestA b) :: (I, valA d kvs.length ep (i + pre.length + 1)) :: (d, dctE knd kvs ep) :: (F, filA I) :: led) s' := H'.perm (by
        repeat (first | exact List.Perm.refl _ | refine Pick.perm (by (repeat (first | exact Pick.head | apply Pick.tail))) ?_))
      refine wpAny_bind (wpAny_pure ?_)
      cases b with
      | none =>
        obtain ⟨oS', hoS', nS', rfl⟩ := H₁.get (a := S) (P := bestA none) (.head _)
        refine wpAny_bind (wpAny_updateSeq hoS' rfl ?_)
        rw [hname]
        have H₂ : St base os₀ ((S, bestA (some (l, v))) :: (I, valA d kvs.length ep (i + pre.length + 1)) :: (d, dctE knd kvs ep) :: (F, filA I) :: led) _ := H₁.upd (tk := s'.toks) .head (Heap.SameBut.update ..).extBut ⟨_, get?_update_seq hoS' fun _ => #[v, v], _, rfl⟩
        have em : maxL ((none : Option (Ln × Value)).map (·.1)) (l :: post) = maxL ((some (l, v)).map (·.1)) (ls.drop (i + pre.length + 1)) := by rw [hpost]; simp [maxL, e3]
        rw [em] at h1 h2 h3
        refine wpAny_pure ⟨plainId_quiet PySem.F.plain_max_loop _, ih (i + pre.length + 1) (some (l, v)) _ (by omega) (fun l' v' e => by cases e; exact ⟨hl, e3, e4⟩) H₂ h1 h2 h3⟩
      | some lv =>
        obtain ⟨m, vb⟩ := lv
        obtain ⟨b1, b2, b3⟩ := hb m vb rfl
        refine wpAny_bind (wpAny_tryCatch (wpAny_holding (wpAny_bind (hcmp l m v vb _ s' _ _ hl b1 e3 b2 e4 b3 H₁ (fun bb s₂ eg H₂ => ?_) fun e s₂ eg H₂ => ?_))))
        · refine wpAny_bind (wpAny_holding (wpAny_truthy_bool (wpAny_bind (wpAny_letGo (wpAny_pure ?_)))))
          cases bb with
          | true =>
            simp only [if_true]
            obtain ⟨oS', hoS', nS', rfl⟩ := H₂.get (a := S) (P := bestA (some (m, vb))) (.head _)
            refine wpAny_bind (wpAny_updateSeq hoS' rfl (wpAny_bind (wpAny_letGo ?_)))
            rw [hname]
            have H₃ : St base os₀ ((S, bestA (some (l, v))) :: (I, valA d kvs.length ep (i + pre.length + 1)) :: (d, dctE knd kvs ep) :: (F, filA I) :: led) _ := H₂.upd (tk := s₂.toks) .head (Heap.SameBut.update ..).extBut ⟨_, get?_update_seq hoS' fun _ => #[v, v], _, rfl⟩
            have em : maxL ((some (m, vb)).map (·.1)) (l :: post) = maxL ((some (l, v)).map (·.1)) (ls.drop (i + pre.length + 1)) := by rw [hpost]; simp [maxL, e3, eg]
            rw [em] at h1 h2 h3
            exact wpAny_pure ⟨plainId_quiet PySem.F.plain_max_loop _, ih (i + pre.length + 1) (some (l, v)) _ (by omega) (fun l' v' e => by cases e; exact ⟨hl, e3, e4⟩) H₃ h1 h2 h3⟩
          | false =>
            simp only [Bool.false_eq_true, if_false]
            refine wpAny_bind (wpAny_letGo ?_)
            rw [hname]
            have em : maxL ((some (m, vb)).map (·.1)) (l :: post) = maxL ((some (m, vb)).map (·.1)) (ls.drop (i + pre.length + 1)) := by rw [hpost]; simp [maxL, e3, eg]
            rw [em] at h1 h2 h3
            exact wpAny_pure ⟨plainId_quiet PySem.F.plain_max_loop _, ih (i + pre.length + 1) (some (m, vb)) _ (by omega) hb H₂ h1 h2 h3⟩
        · have H₃ : St base os₀ ((S, bestA (some (m, vb))) :: (e, ex0 "TypeError") :: (d, dctE knd kvs ep) :: led) s₂ := (H₂.perm (led' := (F, filA I) :: (I, valA d kvs.length ep (i + pre.length + 1)) :: (S, bestA (some (m, vb))) :: (e, ex0 "TypeError") :: (d, dctE knd kvs ep) :: led) (by
            repeat (first | exact List.Perm.refl _ | refine Pick.perm (by (repeat (first | exact Pick.head | apply Pick.tail))) ?_))).sub (.cons _ (.cons _ (.refl _)))
          obtain ⟨oS', hoS', nS', rfl⟩ := H₃.get (a := S) (P := bestA (some (m, vb))) (.head _)
          refine wpAny_bind (wpAny_updateSeq hoS' rfl (wpAny_bind (wpAny_letGo (wpAny_throw ?_))))
          exact h3 e _ (by simp [maxL, e3, eg]) (H₃.gone (tk := s₂.toks) (Heap.SameBut.update ..).extBut)
    · have hz : maxL (b.map (·.1)) (ls.drop i) = some (b.map (·.1)) := by
        have := maxL_skip (b := b.map (·.1)) (pre := ls.drop i) (post := []) e1
        rw [List.append_nil] at this
        rw [this]; rfl
      have H'' : St base os₀ ((S, bestA b) :: (d, dctE knd kvs ep) :: led) s' := (H'.perm (led' := (F, filA I) :: (S, bestA b) :: (d, dctE knd kvs ep) :: led) (by
        repeat (first | exact List.Perm.refl _ | refine Pick.perm (by (repeat (first | exact Pick.head | apply Pick.tail))) ?_))).sub (.cons _ (.refl _))
      cases b with
      | none => exact wpAny_bind (wpAny_rule (wpAny_pure (h2 s' hz (H''.sub (.cons _ (.refl _))))))
      | some lv =>
        obtain ⟨l, vb⟩ := lv
        obtain ⟨b1, b2, b3⟩ := hb l vb rfl
        obtain ⟨oS', hoS', nS', rfl⟩ := H''.get (a := S) (P := bestA (some (l, vb))) (.head _)
        refine wpAny_bind (wpAny_updateSeq hoS' rfl (wpAny_bind (wpAny_letGo (wpAny_pure ?_))))
        exact h1 l vb _ hz b1 b2 b3 (H''.gone (tk := s'.toks) (Heap.SameBut.update ..).extBut)
end
end Mine

namespace Mine
open PySem PySem.W PyProof.Rows PySem.Calls PySem.Spec
section
variable {prog : Program} {w : World} {K : Type} [DecidableEq K] {knd : KeyKind prog w K} {A : Around} {E : Value → Shared → Prop} {s : Shared} {base : Heap} {os₀ : OsState} {led : Led} {I d F S v : Addr} {kvs : List (K × Value)} {i ep : Nat} {ls : List Ln} {o₀ : Obj}
def viewA (d : Addr) : Asn := objA { cls := .type "dict_values", data := .fields #[.ref d] }
theorem meets_fil (knd : KeyKind prog w K) (v d : Addr) (kvs : List (K × Value)) (ep : Nat) :
    MeetsIn prog w (Builtin.«filter.__new__» ⟨[.type "filter", .none, .ref v], []⟩) (fun _ R s => s.heap.IsValuesView v d ∧ s.heap.DictAt knd d kvs ep ∧
      R (.ok (.ret (.ref (s.heap.objs.size + 1)))) { s with heap := (s.heap.push { cls := .type "dict_valueiterator", data := .fields #[.ref d, .int 0 0, .int kvs.length 0, .int ep 0] }).push { cls := .type "filter", data := .fields #[.none, .ref s.heap.objs.size] } }) :=
  .of_wp fun A R s h => by
    obtain ⟨hv, hm, h⟩ := h
    obtain ⟨hp, g, d', tk, os⟩ := s
    have hsub := sub_fil
    wp_walk using wpAny_pyIter_values hv hm
    refine ⟨_, rfl, ?_⟩
    rw [Heap.size_push]
    exact h
theorem fil_new {Q : Value → Shared → Prop} (H : St base os₀ ((d, dctE knd kvs ep) :: led) s) (hv : (v, viewA d) ∈ led)
    (h : ∀ F I s', St base os₀ ((F, filA I) :: (I, valA d kvs.length ep 0) :: (d, dctE knd kvs ep) :: led) s' → Q (.ref F) s') : wpAny (model prog w) A (call (.type "filter") [.none, .ref v]) Q E s := by
  obtain ⟨ov, hov, rfl⟩ := H.get (a := v) (P := viewA d) (.tail _ hv)
  refine callType_newIn called_fil (by decide) (typeCall_fil _ _) (newCall_fil _ _) (fun obj => PySem.F.args_object_init_3 obj _ _) entry_fil_new (meets_fil knd v d kvs ep) ⟨⟨_, hov, rfl, rfl⟩, H.dictAt (.head _), ?_⟩
  have H₁ := H.push (tk := s.toks) (P := valA d kvs.length ep 0) (o := { cls := .type "dict_valueiterator", data := .fields #[.ref d, .int 0 0, .int kvs.length 0, .int ep 0] }) rfl ⟨rfl, rfl⟩
  have H₂ := H₁.push (tk := s.toks) (P := filA s.heap.objs.size) (o := { cls := .type "filter", data := .fields #[.none, .ref s.heap.objs.size] }) rfl rfl
  have e : (s.heap.push { cls := .type "dict_valueiterator", data := .fields #[.ref d, .int 0 0, .int kvs.length 0, .int ep 0] }).objs.size = s.heap.objs.size + 1 := Heap.size_push ..
  simp only [e] at H₂
  obtain ⟨o, ho, hf⟩ := H₂.get (.head _)
  exact ⟨⟨o, ho, by rw [hf]⟩, h _ _ _ H₂⟩
theorem max_default {Q : Value → Shared → Prop} {dv : Value} (hh : A.handled = none) (hV : VL kvs ls) (hf : ∀ l ∈ ls, l.fits) (hcmp : CmpOk prog w A.in1 base os₀ ls)
    (H : St base os₀ ((F, filA I) :: (I, valA d kvs.length ep 0) :: (d, dctE knd kvs ep) :: led) s)
    (h1 : ∀ l v s', maxL none ls = some (some l) → l ∈ ls → l.yes = true → LnV l v → St base os₀ ((d, dctE knd kvs ep) :: led) s' → Q v s')
    (h2 : ∀ s', maxL none ls = some none → St base os₀ ((d, dctE knd kvs ep) :: led) s' → Q dv s')
    (h3 : ∀ e s', maxL none ls = none → St base os₀ ((e, ex0 "TypeError") :: (d, dctE knd kvs ep) :: led) s' → E (.ref e) s') :
    wpAny (model prog w) A (call (.builtin "max") [.ref F] [(Str.ofString "default", dv)]) Q E s := by
  have hname : (toString "max" ++ toString ".loop" : String) = "max.loop" := by decide
  refine kmk_tree PySem.F.kind_max PySem.F.plain_max PySem.F.entry_max (args_max_d _ _) ?_
  refine wpAny_bind (m := Builtin.Builtins.bindParams "max" ["key", "default"] 0 ⟨[], [(Str.ofString "default", dv)]⟩) (wpAny_of_eq (show Builtin.Builtins.bindParams "max" ["key", "default"] 0 ⟨[], [(Str.ofString "default", dv)]⟩ = pure [none, some dv] from rfl) ?_)
  refine wpAny_bind (wpAny_pure (wpAny_bind (fil_iter H (.head _) (wpAny_bind (new_list H fun S s₁ H₁ => ?_)))))
  rw [hname]
  refine wpAny_pure ⟨plainId_quiet PySem.F.plain_max_loop _, max_loop (I := I) (b := none) hh hV hf hcmp ls.length 0 s₁ (Nat.le_refl _) (fun l v e => by cases e) (H₁.perm ?_) (fun l v s' e => h1 l v s' e) (fun s' e => h2 s' e) fun e s' q => h3 e s' q⟩
  repeat (first | exact List.Perm.refl _ | refine Pick.perm (by (repeat (first | exact Pick.head | apply Pick.tail))) ?_)
end
end Mine

namespace Mine
open PySem PySem.W PyProof.Rows PySem.Calls PySem.Spec
theorem entry_ci : entryFor table "proto.contains_iter" = some Builtin.«proto.contains_iter» := entryFor_of_tree (by kernel_rfl)
theorem plain_ci : plainId "proto.contains_iter" = true := by decide +kernel
theorem no_contains_values : typeLookup (.type "dict_values") "__contains__" = pure none := by rw [typeLookup_type, builtinLookup_eq_fast]; kernel_rfl
def Ln.isNone : Ln → Bool | .none => true | _ => false
section
variable {prog : Program} {w : World} {K : Type} [DecidableEq K] {knd : KeyKind prog w K} {A : Around} {E : Value → Shared → Prop} {s : Shared} {base : Heap} {os₀ : OsState} {led led' : Led} {I d F S v : Addr} {kvs : List (K × Value)} {i ep : Nat} {ls : List Ln} {o₀ : Obj} {pos : Pos}
theorem eq_none {l : Ln} {v : Value} (hv : LnV l v) : SeqAt.EqAt A s v .none l.isNone := by
  cases l with
  | none => cases hv; exact SeqAt.EqAt.same _
  | bool b => cases hv; exact SeqAt.EqAt.bool_none b
  | str x => obtain ⟨t, rfl⟩ := hv; exact SeqAt.EqAt.str_none x t
  | int n => obtain ⟨t, rfl⟩ := hv; exact SeqAt.EqAt.int_none n t
theorem contains_loop {R : Result → Shared → Prop} (hh : A.handled = none) (hV : VL kvs ls) : ∀ (m i : Nat) (s : Shared), ls.length - i = m →
    St base os₀ ((I, valA d kvs.length ep i) :: (d, dctE knd kvs ep) :: led) s → (∀ s', St base os₀ ((d, dctE knd kvs ep) :: led) s' → R (.ok (.ret (.bool ((ls.drop i).any Ln.isNone)))) s') →
    codeAny (model prog w) A (.builtin "proto.contains_iter" ⟨[.ref I, .none], []⟩) R s := by
  intro m
  induction m with
  | zero =>
    intro i s hm H h
    have hge : ls.length ≤ i := by omega
    refine codeAny_builtin entry_ci ?_
    rw [Around.under_plainId plain_ci _]
    refine wpAny_bind (wpAny_pyNext_values_end (knd := knd) hh (H.valIter (.head _)) (H.dictAt (.tail _ (.head _))) (List.getElem?_eq_none (by rw [hV.1]; exact hge)) fun h' hx => wpAny_bind (wpAny_rule (wpAny_pure ?_)))
    have := h _ (H.gone (tk := s.toks) fun b o hb e => hx b o hb e)
    rw [List.drop_eq_nil_of_le hge] at this
    exact this
  | succ m ih =>
    intro i s hm H h
    have hlt : i < ls.length := by omega
    have hdr : ls.drop i = ls[i] :: ls.drop (i + 1) := List.drop_eq_getElem_cons hlt
    obtain ⟨k, v, hkv, hv⟩ := hV.2 i ls[i] (List.getElem?_eq_getElem hlt)
    refine codeAny_builtin entry_ci ?_
    rw [Around.under_plainId plain_ci _]
    refine wpAny_bind (wpAny_pyNext_values_item (knd := knd) (H.valIter (.head _)) (H.dictAt (.tail _ (.head _))) hkv fun h' hit hs => ?_)
    have H₁ : St base os₀ ((I, valA d kvs.length ep (i + 1)) :: (d, dctE knd kvs ep) :: led) { s with heap := h' } := by
      obtain ⟨o', ho', r'⟩ := hit
      exact H.upd (tk := s.toks) .head hs.extBut ⟨o', ho', r'⟩
    refine wpAny_bind (eq_none hv prog w _ _ ?_)
    rw [hdr, List.any_cons] at h
    cases hn : ls[i].isNone with
    | true =>
      simp only [if_true]
      rw [hn, Bool.true_or] at h
      exact wpAny_bind (wpAny_rule (wpAny_pure (h _ (H₁.sub (.cons _ (.refl _))))))
    | false =>
      simp only [Bool.false_eq_true, if_false]
      rw [hn, Bool.false_or] at h
      exact wpAny_pure ⟨plainId_quiet plain_ci _, ih (i + 1) _ (by omega) H₁ h⟩
/-- None in d.values() -/
theorem in_values {Q : Value → Shared → Prop} (hh : A.handled = none) (hV : VL kvs ls) (H : St base os₀ ((d, dctE knd kvs ep) :: led) s) (hv : (v, viewA d) ∈ led)
    (h : ∀ s', St base os₀ ((d, dctE knd kvs ep) :: led) s' → Q (.bool (ls.any Ln.isNone)) s') : wpAny (model prog w) A (compareOp .In .none (.ref v)) Q E s := by
  obtain ⟨ov, hov, rfl⟩ := H.get (a := v) (P := viewA d) (.tail _ hv)
  have hT : s.TypeIs (.ref v) "dict_values" := ⟨_, hov, rfl⟩
  show wpAny _ A (do return .bool (← contains (.ref v) .none)) Q E s
  refine wpAny_bind ?_
  unfold contains
  refine wpAny_holding ?_
  refine wpAny_bind (wpAny_specialOf (name := Str.ofString "__contains__") hT no_contains_values ?_)
  refine wpAny_ite_split (fun q => Bool.noConfusion (show false = true from q)) fun _ => ?_
  refine wpAny_bind (wpAny_callSpecialUnlessNone?_none hT no_contains_values ?_)
  refine wpAny_bind (wpAny_rule (wpAny_bind (wpAny_tryCatch (wpAny_pyIter_values (knd := knd) (kvs := kvs) (ep := ep) ⟨_, hov, rfl, rfl⟩ (H.dictAt (.head _)) (wpAny_bind ?_)))))
  have H₁ := H.push (tk := s.toks) (P := valA d kvs.length ep 0) (o := { cls := .type "dict_valueiterator", data := .fields #[.ref d, .int 0 0, .int kvs.length 0, .int ep 0] }) rfl ⟨rfl, rfl⟩
  exact wpAny_runValue (contains_loop hh hV _ 0 _ rfl H₁ fun s' H' => wpAny_pure (wpAny_pure (h s' H')))
theorem d_values {Q : Value → Shared → Prop} (H : St base os₀ led s) (hs : base.get? sysModules = some o₀) (hd : (d, dctA knd kvs) ∈ led)
    (h : ∀ v s', St base os₀ ((v, viewA d) :: led) s' → Q (.ref v) s') :
    MethodOn prog w A "values" pos (.ref d) [] Q E s :=
  ⟨"dict", "dict.values", PySem.F.plainAttrs_dict, PySem.F.slot_dict_values, PySem.F.type_dict_values, (H.isDict hd).typeIs, (H.isDict hd).mapOf.noDict,
    callWith_builtin rfl (PySem.evalArgs_none (call_meetsIn PySem.F.slot_dict_values (H.isDict hd).typeIs PySem.F.entry_dict_values (PySem.F.args_dict_values_1 _) (meets_dict_values knd d (H.notSys hd hs)) ⟨⟨kvs, H.isDict hd⟩, h _ _ (H.push (tk := s.toks) rfl rfl)⟩))⟩
end
end Mine

namespace Mine
open PySem PySem.W PyProof.Rows PySem.Calls PySem.Spec
/-- where the name of a comprehension stands -/
structure Var (prog : Program) (w : World) (A : Around) (base : Heap) (os₀ : OsState) (ce : Env) (target : Expr) (C : Addr) (V : Option Value → Led → Prop) : Prop where
  store : ∀ o vl v rest s (Q : Unit → Shared → Prop) (E : Value → Shared → Prop), V o vl → St base os₀ (vl ++ rest) s → (∀ vl' s', V (some v) vl' → St base os₀ (vl' ++ rest) s' → Q () s') → wpAny (model prog w) A (assign target ce v) Q E s
  ns : ∀ o vl, V o vl → ∃ m vr, vl = (C, nsA m) :: vr
def varL (C : Addr) (x : Str) (o : Option Value) (vl : Led) : Prop := ∃ m : Str → Option Value, vl = [(C, nsA m)] ∧ ∀ v, o = some v → m x = some v
def varC (C cx : Addr) (o : Option Value) (vl : Led) : Prop := ∃ m : Str → Option Value, vl = [(C, nsA m), (cx, celA o)]
section
variable {prog : Program} {w : World} {A : Around} {E : Value → Shared → Prop} {s : Shared} {base : Heap} {os₀ : OsState} {led : Led} {env : Env}
theorem Var.loc {ce : Env} {x : Str} {px : Pos} (hkind : ce.scope.kind = .function) (hx : ce.kindOf x = some .local) : Var prog w A base os₀ ce (.Name x px) ce.locals (varL ce.locals x) where
  store := fun o vl v rest s Q E ⟨m, e, hm⟩ H h => by
    subst e
    exact wpAny_assign_Name (st_l H .head (fun s' H' => h _ s' ⟨_, rfl, fun v' q => by cases q; exact if_pos rfl⟩ H') hkind hx)
  ns := fun o vl ⟨m, e, _⟩ => ⟨m, [], e⟩
theorem Var.cel {ce : Env} {x : Str} {px : Pos} {cx : Addr} (hkind : ce.scope.kind = .function) (hx : ce.kindOf x = some .cell) (hc : ce.cells.lookup x = some cx) : Var prog w A base os₀ ce (.Name x px) ce.locals (varC ce.locals cx) where
  store := fun o vl v rest s Q E ⟨m, e⟩ H h => by
    subst e
    exact wpAny_assign_Name (st_c H hc (.tail .head) (fun s' H' => h _ s' ⟨m, rfl⟩ H') hkind hx)
  ns := fun o vl ⟨m, e⟩ => ⟨m, _, e⟩

theorem comp_loopG {R : Result → Shared → Prop} {elt iter target : Expr} {ifs : List Expr} {scope : Scope} {pos : Pos} {ce : Env} {I C D : Addr} {n : Nat} {P : Nat → Value → Prop} {itP : Nat → Asn} {side : Led} {V : Option Value → Led → Prop} {vl₀ : Led}
    (W : Iter prog w A base os₀ I n P itP side) (hsz : n ≤ sizeLine) (hV : Var prog w A base os₀ ce target C V) (J : Nat → List Value → Led → Prop)
    (turn : ∀ i v ys vl led s E', i < n → P i v → J i ys led → V (some v) vl → St base os₀ (vl ++ ((D, lstA ys) :: (I, itP (i + 1)) :: (side ++ led))) s →
      wpAny (model prog w) A (forIn ifs true fun c r => if r = true then do let ok ← isTrue c ce (eval c ce); pure (ForInStep.yield ok) else pure (ForInStep.yield r)) (fun ok s₂ =>
        if ok = true then wpAny (model prog w) A (eval elt ce) (fun y s₃ => ∃ led', J (i + 1) (ys ++ [y]) led' ∧ St base os₀ (vl ++ ((D, lstA ys) :: (I, itP (i + 1)) :: (side ++ led'))) s₃) E' s₂
        else ∃ led', J (i + 1) ys led' ∧ St base os₀ (vl ++ ((D, lstA ys) :: (I, itP (i + 1)) :: (side ++ led'))) s₂) E' s)
    (fin : ∀ o vl ys led s, V o vl → J n ys led → ys.length ≤ n → St base os₀ (vl ++ ((D, lstA ys) :: (side ++ led))) s → R (.ok .next) s)
    (hv0 : V none vl₀) (H : St base os₀ (vl₀ ++ ((D, lstA []) :: (I, itP 0) :: (side ++ led))) s) (h0 : J 0 [] led)
    (ht : ∀ v, letOwnedTupleGo target (.ref I) v = pure () := by intro _; rfl) :
    codeAny (model prog w) A (.compLoop (.ListComp elt [⟨target, iter, ifs, 0⟩] scope pos) 0 (.ref I) (.ref D) ce) R s := by
  refine codeAny_compLoop_tests (fun k s' => ∃ i ys led' o vl, k = n + 1 - i ∧ i ≤ n ∧ ys.length ≤ i ∧ J i ys led' ∧ V o vl ∧ St base os₀ (vl ++ ((D, lstA ys) :: (I, itP i) :: (side ++ led'))) s') ?_ (n + 1) ⟨0, [], led, none, vl₀, rfl, Nat.zero_le _, Nat.le_refl _, h0, hv0, H⟩ ht
  rintro k s' ⟨i, ys, led', o, vl, rfl, hi, hlen, hJ, hvl, H'⟩
  have p1 : ∀ (j : Nat) (vl : Led), ((I, itP j) :: (side ++ (vl ++ ((D, lstA ys) :: led')))).Perm (vl ++ ((D, lstA ys) :: (I, itP j) :: (side ++ led'))) := fun j vl => by
    exact (List.Perm.cons _ (List.perm_append_comm_assoc side vl _)).trans ((List.perm_middle (l₁ := vl)).symm.trans (List.Perm.append_left vl ((List.Perm.cons _ (List.perm_middle (l₁ := side))).trans (List.Perm.swap ..))))
  by_cases hlt : i < n
  · refine W.item i _ s' _ _ hlt (H'.perm (p1 i vl)) fun v s₁ hv H₁ => ?_
    have H₂ : St base os₀ (vl ++ ((D, lstA ys) :: (I, itP (i + 1)) :: (side ++ led'))) s₁ := H₁.perm (p1 (i + 1) vl).symm
    refine hV.store o vl v _ _ _ _ hvl H₂ fun vl' s₂ hvl' H₃ => ?_
    refine wpAny_mono (turn i v ys vl' led' s₂ _ hlt hv hJ hvl' H₃) (fun ok s₃ h₃ => ?_) fun _ _ x => x
    cases ok with
    | true =>
      simp only [if_true] at h₃ ⊢
      refine wpAny_mono h₃ (fun y s₄ h₄ => ?_) fun _ _ x => x
      obtain ⟨led'', hJ', H₄⟩ := h₄
      have hup : ∀ vl : Led, Up D (lstA ys) (lstA (ys ++ [y])) (vl ++ ((D, lstA ys) :: (I, itP (i + 1)) :: (side ++ led''))) (vl ++ ((D, lstA (ys ++ [y])) :: (I, itP (i + 1)) :: (side ++ led''))) := fun vl => by
        induction vl with
        | nil => exact .head
        | cons q r ih => exact .tail ih
      refine l_append H₄ (hup vl') (fun s₅ H₅ => ⟨n + 1 - (i + 1), by omega, i + 1, ys ++ [y], led'', some v, vl', rfl, hlt, by simp; omega, hJ', hvl', H₅⟩) (by omega)
    | false =>
      simp only [Bool.false_eq_true, if_false] at h₃ ⊢
      obtain ⟨led'', hJ', H₄⟩ := h₃
      exact ⟨n + 1 - (i + 1), by omega, i + 1, ys, led'', some v, vl', rfl, hlt, by omega, hJ', hvl', H₄⟩
  · have hin : i = n := by omega
    subst hin
    refine W.done _ s' _ _ (H'.perm (p1 i vl)) fun s₁ H₁ => ?_
    refine fin o vl ys led' s₁ hvl hJ hlen (H₁.perm ?_)
    exact (List.Perm.append_left vl (List.perm_middle (l₁ := side)).symm).trans (List.perm_append_comm_assoc vl side _)

/-- the environment of a comprehension -/
def EnvMade (prog : Program) (w : World) (A : Around) (base : Heap) (os₀ : OsState) (scope : Scope) (env : Env) (cl : List (Str × Addr)) (mk : Addr → Env) (V : Addr → Option Value → Led → Prop) : Prop :=
  ∀ led s (Q : Env → Shared → Prop) (E : Value → Shared → Prop), St base os₀ led s → (∀ C vl cenv s', cenv.locals = C → ({ cenv with scope := relabel scope env } : Env) = mk C → V C none vl → St base os₀ (vl ++ led) s' → Q cenv s') →
    wpAny (model prog w) A (newFunctionEnv scope env.globals cl [] env.qual none .none (some env)) Q E s
theorem env_loc {scope : Scope} {cl : List (Str × Addr)} {x : Str} (hcell : ∀ y ∈ scope.names, y.2 ≠ .cell) (hkind : scope.kind = .function) : EnvMade prog w A base os₀ scope env cl (fun C => compEnvC scope cl C env) (fun C => varL C x) := fun led s Q E H h => by
  refine wpAny_newFunctionEnv hcell (by intro y hy; simp at hy) (fun h₁ hns₁ hsb₁ => ?_) hkind
  obtain ⟨o', ho', hp'⟩ := nsA_of hns₁
  refine h s.heap.objs.size [(s.heap.objs.size, nsA fun x => ([] : List (Str × Value)).reverse.lookup x)] _ _ rfl rfl ⟨_, rfl, fun v q => by cases q⟩ ?_
  exact H.more (tk := s.toks + ([] : List (Str × Value)).length) (fun b o e => hsb₁.extBut b o (Nat.ne_of_lt (Heap.lt_size e)) (Heap.get?_push_of_some _ e)) (Nat.le_refl _) ho' hp'
/-- with one cell -/
theorem env_cel {scope : Scope} {cl : List (Str × Addr)} {n0 x y : Str} (hn : scope.names = [(n0, .local), (x, .cell), (y, .free)]) :
    EnvMade prog w A base os₀ scope env cl (fun C => { compEnvC scope cl C env with cells := (x, C + 1) :: cl }) (fun C => varC C (C + 1)) := fun led s Q E H h => by
  unfold newFunctionEnv
  refine wpAny_bind (wpAny_alloc ?_)
  rw [hn]
  show wpAny _ _ (forIn [(n0, NameKind.local), (x, NameKind.cell), (y, NameKind.free)] cl _ >>= _) _ _ _
  have H₁ := H.push (tk := s.toks) (P := nsA fun _ => none) (o := { cls := .type "dict", data := .dict #[] }) rfl ⟨#[], 0, rfl, fun e he => by simp at he, fun n => rfl⟩
  have H₂ := H₁.push (tk := s.toks) (P := celA none) (o := { cls := .type "cell", data := .cell none }) rfl rfl
  have e : (s.heap.push { cls := .type "dict", data := .dict #[] }).objs.size = s.heap.objs.size + 1 := Heap.size_push ..
  simp only [e] at H₂
  refine wpAny_bind ?_
  rw [List.forIn_cons]
  refine wpAny_bind (wpAny_pure ?_)
  show wpAny _ _ (forIn [(x, NameKind.cell), (y, NameKind.free)] cl _) _ _ _
  rw [List.forIn_cons]
  refine wpAny_bind ?_
  show wpAny _ _ (alloc _ >>= _) _ _ _
  refine wpAny_bind (wpAny_alloc (wpAny_pure ?_))
  show wpAny _ _ (forIn [(y, NameKind.free)] _ _) _ _ _
  rw [List.forIn_cons]
  refine wpAny_bind (wpAny_pure ?_)
  show wpAny _ _ (forIn [] _ _) _ _ _
  rw [List.forIn_nil]
  refine wpAny_pure ?_
  refine wpAny_bind (m := forIn ([] : List (Str × Value)) PUnit.unit _) ?_
  rw [List.forIn_nil]
  refine wpAny_pure (wpAny_pure ?_)
  refine h s.heap.objs.size [(s.heap.objs.size, nsA fun _ => none), (s.heap.objs.size + 1, celA none)] _ _ rfl ?_ ⟨_, rfl⟩ (H₂.perm (.swap ..))
  simp only [Heap.size_push]
  rfl

def CompBody (prog : Program) (w : World) (A : Around) (base : Heap) (os₀ : OsState) (elt target : Expr) (ifs : List Expr) (mk : Addr → Env) (V : Addr → Option Value → Led → Prop) (fin : Addr → List Value → Led → Prop) (it : Value) (s₂ : Shared) : Prop :=
  ∃ I n P itP side led, ∃ J : Nat → List Value → Led → Prop, it = .ref I ∧ Iter prog w A base os₀ I n P itP side ∧ n ≤ sizeLine ∧ St base os₀ ((I, itP 0) :: (side ++ led)) s₂ ∧ J 0 [] led ∧
      (∀ C D i v ys vl led s E', i < n → P i v → J i ys led → V C (some v) vl → St base os₀ (vl ++ ((D, lstA ys) :: (I, itP (i + 1)) :: (side ++ led))) s →
        wpAny (model prog w) A (forIn ifs true fun c r => if r = true then do let ok ← isTrue c (mk C) (eval c (mk C)); pure (ForInStep.yield ok) else pure (ForInStep.yield r)) (fun ok s₂ =>
          if ok = true then wpAny (model prog w) A (eval elt (mk C)) (fun y s₃ => ∃ led', J (i + 1) (ys ++ [y]) led' ∧ St base os₀ (vl ++ ((D, lstA ys) :: (I, itP (i + 1)) :: (side ++ led'))) s₃) E' s₂
          else ∃ led', J (i + 1) ys led' ∧ St base os₀ (vl ++ ((D, lstA ys) :: (I, itP (i + 1)) :: (side ++ led'))) s₂) E' s) ∧
      (∀ D ys led, J n ys led → ys.length ≤ n → fin D ys (side ++ led))

/-- a list comprehension as an expression -/
theorem comp_expr {elt iter target : Expr} {ifs : List Expr} {scope : Scope} {cl : List (Str × Addr)} {pos : Pos} {Q : Value → Shared → Prop} {mk : Addr → Env} {V : Addr → Option Value → Led → Prop} (hclos : closureFor scope env = pure cl)
    (hM : EnvMade prog w A base os₀ scope env cl mk V) (hV : ∀ C, Var prog w A base os₀ (mk C) target C (V C))
    (h : wpAny (model prog w) A (eval iter env) (fun xv s₁ => wpAny (model prog w) A (pyIter xv) (fun it s₂ => CompBody prog w A base os₀ elt target ifs mk V (fun D ys led => ∀ s, St base os₀ ((D, lstA ys) :: led) s → Q (.ref D) s) it s₂) E s₁) E s)
    (hkind : scope.kind = .function) (hnames : ∀ y ∈ scope.names, y.2 = .local → scope.names.lookup y.1 = some .local)
    (hs : ∀ x, foldedSetIterable iter env x = pure x := by intro _; rfl) (ht : ∀ I v, letOwnedTupleGo target (.ref I) v = pure () := by intro _ _; rfl) :
    wpAny (model prog w) A (eval (.ListComp elt [⟨target, iter, ifs, 0⟩] scope pos) env) Q E s := by
  rw [eval_ListComp]
  refine wpAny_comprehension_free (use := none) rfl hs hclos hkind hnames (wpAny_mono h (fun xv s₁ h₁ => wpAny_mono h₁ (fun it s₂ h₂ => ?_) fun _ _ e => e) fun _ _ e => e)
  obtain ⟨I, n, P, itP, side, led, J, rfl, W, hsz, H, h0, turn, fin⟩ := h₂
  refine new_list H fun D s₃ H₃ => ?_
  refine hM _ _ _ _ H₃ fun C vl cenv s₄ hC hmk hv H₄ => ?_
  rw [hmk, hC]
  have loop : codeAny (model prog w) A (.compLoop (.ListComp elt [⟨target, iter, ifs, 0⟩] scope pos) 0 (.ref I) (.ref D) (mk C)) (compPost (model prog w) A E none Q (.ref D) C) s₄ :=
    comp_loopG W hsz (hV C) J (fun i v ys vl led s E' hi hp hJ hvl H' => turn C D i v ys vl led s E' hi hp hJ hvl H')
      (fun o vl ys led s hvl hJ hl H' => by
        obtain ⟨m, vr, e⟩ := (hV C).ns o vl hvl
        subst e
        exact ⟨m, H'.ns (.head _), fun h' hs' => fin D ys led hJ hl _ ((H'.gone (tk := s.toks) fun b o hb e => hs'.extBut b o hb e).sub (List.sublist_append_right _ _))⟩) hv H₄ h0 (ht I)
  exact codeAny_compStart_list loop (W.self _ _ _ _ (H₄.perm (led' := (I, itP 0) :: (side ++ (vl ++ ((D, lstA []) :: led)))) (by
    exact (List.Perm.cons _ (List.perm_append_comm_assoc side vl _)).trans ((List.perm_middle (l₁ := vl)).symm.trans (List.Perm.append_left vl ((List.Perm.cons _ (List.perm_middle (l₁ := side))).trans (List.Perm.swap ..)))))) loop)

/-- y = [.. for ..] -/
theorem comp_asg {elt iter target : Expr} {ifs : List Expr} {y : Str} {py : Pos} {scope : Scope} {cl : List (Str × Addr)} {pos spos : Pos} {Q : Flow → Shared → Prop} {mk : Addr → Env} {V : Addr → Option Value → Led → Prop} (hclos : closureFor scope env = pure cl)
    (hM : EnvMade prog w A base os₀ scope env cl mk V) (hV : ∀ C, Var prog w A base os₀ (mk C) target C (V C))
    (hsw : swapsWith (.ListComp elt [⟨target, iter, ifs, 0⟩] scope pos) (some (.Name y py)) spos.line env = pure true)
    (h : wpAny (model prog w) A (eval iter env) (fun xv s₁ => wpAny (model prog w) A (pyIter xv) (fun it s₂ => CompBody prog w A base os₀ elt target ifs mk V (fun D ys led => ∀ vl s, (∃ C m vr, vl = (C, nsA m) :: vr) → St base os₀ (vl ++ ((D, lstA ys) :: led)) s →
      wpAny (model prog w) A (storeName env y (.ref D)) (fun _ s' => ∃ led', St base os₀ (vl ++ led') s' ∧ ∀ s'', St base os₀ led' s'' → Q .next s'') E s) it s₂) E s₁) E s)
    (hkind : scope.kind = .function) (hnames : ∀ y ∈ scope.names, y.2 = .local → scope.names.lookup y.1 = some .local)
    (hs : ∀ x, foldedSetIterable iter env x = pure x := by intro _; rfl) (ht : ∀ I v, letOwnedTupleGo target (.ref I) v = pure () := by intro _ _; rfl) :
    wpAny (model prog w) A (exec (.Assign [.Name y py] (.ListComp elt [⟨target, iter, ifs, 0⟩] scope pos) spos) env) Q E s := by
  rw [exec_Assign_Name_used _ _ _ _ hsw]
  refine wpAny_bind (wpAny_standAt (wpAny_bind ?_))
  show wpAny _ A (do let _ ← comprehension (.ListComp elt [⟨target, iter, ifs, 0⟩] scope pos) scope env _ (newList []) false (eval iter env) (some (assign (.Name y py) env))) _ _ s
  refine wpAny_bind (wpAny_mono (wpAny_comprehension_free (use := some (assign (.Name y py) env)) (Q := fun _ s' => Q .next s') rfl hs hclos hkind hnames (wpAny_mono h (fun xv s₁ h₁ => wpAny_mono h₁ (fun it s₂ h₂ => ?_) fun _ _ e => e) fun _ _ e => e))
    (fun _ s' hq => wpAny_pure (wpAny_pure hq)) fun _ _ e => e)
  obtain ⟨I, n, P, itP, side, led, J, rfl, W, hsz, H, h0, turn, fin⟩ := h₂
  refine new_list H fun D s₃ H₃ => ?_
  refine hM _ _ _ _ H₃ fun C vl cenv s₄ hC hmk hv H₄ => ?_
  rw [hmk, hC]
  have loop : codeAny (model prog w) A (.compLoop (.ListComp elt [⟨target, iter, ifs, 0⟩] scope pos) 0 (.ref I) (.ref D) (mk C)) (compPost (model prog w) A E (some (assign (.Name y py) env)) (fun _ s' => Q .next s') (.ref D) C) s₄ :=
    comp_loopG W hsz (hV C) J (fun i v ys vl led s E' hi hp hJ hvl H' => turn C D i v ys vl led s E' hi hp hJ hvl H')
      (fun o vl ys led s hvl hJ hl H' => by
        obtain ⟨m, vr, e⟩ := (hV C).ns o vl hvl
        subst e
        refine wpAny_assign_Name (wpAny_mono (fin D ys led hJ hl _ s ⟨C, m, vr, rfl⟩ H') (fun _ s₂ h₂ => ?_) fun _ _ x => x)
        obtain ⟨led', H₅, hQ⟩ := h₂
        exact ⟨m, H₅.ns (.head _), fun h' hs' => hQ _ ((H₅.gone (tk := s₂.toks) fun b o hb e => hs'.extBut b o hb e).sub (List.sublist_append_right _ _))⟩) hv H₄ h0 (ht I)
  exact codeAny_compStart_list loop (W.self _ _ _ _ (H₄.perm (led' := (I, itP 0) :: (side ++ (vl ++ ((D, lstA []) :: led)))) (by
    exact (List.Perm.cons _ (List.perm_append_comm_assoc side vl _)).trans ((List.perm_middle (l₁ := vl)).symm.trans (List.Perm.append_left vl ((List.Perm.cons _ (List.perm_middle (l₁ := side))).trans (List.Perm.swap ..)))))) loop)
end
end Mine

namespace Mine
open PySem PySem.W PyProof.Rows PySem.Calls PySem.Spec
section
variable {prog : Program} {w : World} {A : Around} {E : Value → Shared → Prop} {s : Shared} {base : Heap} {os₀ : OsState} {led : Led} {env : Env} {K : Type} [DecidableEq K] {knd : KeyKind prog w K}
theorem comp_loopD {R : Result → Shared → Prop} {kx vx iter target : Expr} {scope : Scope} {pos : Pos} {ce : Env} {I C D : Addr} {n : Nat} {P : Nat → Value → Prop} {itP : Nat → Asn} {side : Led} {V : Option Value → Led → Prop} {vl₀ : Led}
    (W : Iter prog w A base os₀ I n P itP side) (hsz : n ≤ sizeLine) (hV : Var prog w A base os₀ ce target C V) (J : Nat → List (K × Value) → Led → Prop)
    (turn : ∀ i v kvs vl led s E', i < n → P i v → J i kvs led → V (some v) vl → St base os₀ (vl ++ ((D, dctA knd kvs) :: (I, itP (i + 1)) :: (side ++ led))) s →
      wpAny (model prog w) A (eval kx ce) (fun kv s₃ => wpAny (model prog w) A (eval vx ce) (fun vv s₄ => ∃ k led', knd.is k kv = true ∧ J (i + 1) (stored kvs k vv) led' ∧ St base os₀ (vl ++ ((D, dctA knd kvs) :: (I, itP (i + 1)) :: (side ++ led'))) s₄) E' s₃) E' s)
    (fin : ∀ o vl kvs led s, V o vl → J n kvs led → St base os₀ (vl ++ ((D, dctA knd kvs) :: (side ++ led))) s → R (.ok .next) s)
    (hv0 : V none vl₀) (H : St base os₀ (vl₀ ++ ((D, dctA knd []) :: (I, itP 0) :: (side ++ led))) s) (h0 : J 0 [] led)
    (ht : ∀ v, letOwnedTupleGo target (.ref I) v = pure () := by intro _; rfl) :
    codeAny (model prog w) A (.compLoop (.DictComp kx vx [⟨target, iter, [], 0⟩] scope pos) 0 (.ref I) (.ref D) ce) R s := by
  refine codeAny_compLoop_testsD (fun k s' => ∃ i kvs led' o vl, k = n + 1 - i ∧ i ≤ n ∧ kvs.length ≤ i ∧ J i kvs led' ∧ V o vl ∧ St base os₀ (vl ++ ((D, dctA knd kvs) :: (I, itP i) :: (side ++ led'))) s') ?_ (n + 1) ⟨0, [], led, none, vl₀, rfl, Nat.zero_le _, Nat.le_refl _, h0, hv0, H⟩ ht
  rintro k s' ⟨i, kvs, led', o, vl, rfl, hi, hlen, hJ, hvl, H'⟩
  have p1 : ∀ (j : Nat) (vl : Led), ((I, itP j) :: (side ++ (vl ++ ((D, dctA knd kvs) :: led')))).Perm (vl ++ ((D, dctA knd kvs) :: (I, itP j) :: (side ++ led'))) := fun j vl =>
    (List.Perm.cons _ (List.perm_append_comm_assoc side vl _)).trans ((List.perm_middle (l₁ := vl)).symm.trans (List.Perm.append_left vl ((List.Perm.cons _ (List.perm_middle (l₁ := side))).trans (List.Perm.swap ..))))
  by_cases hlt : i < n
  · refine W.item i _ s' _ _ hlt (H'.perm (p1 i vl)) fun v s₁ hv H₁ => ?_
    have H₂ : St base os₀ (vl ++ ((D, dctA knd kvs) :: (I, itP (i + 1)) :: (side ++ led'))) s₁ := H₁.perm (p1 (i + 1) vl).symm
    refine hV.store o vl v _ _ _ _ hvl H₂ fun vl' s₂ hvl' H₃ => ?_
    rw [List.forIn_nil]
    refine wpAny_pure (ite_pos rfl ?_)
    refine wpAny_mono (turn i v kvs vl' led' s₂ _ hlt hv hJ hvl' H₃) (fun kv s₃ h₃ => wpAny_mono h₃ (fun vv s₄ h₄ => ?_) fun _ _ x => x) fun _ _ x => x
    obtain ⟨k, led'', hk, hJ', H₄⟩ := h₄
    have hup : ∀ vl : Led, Up D (dctA knd kvs) (dctA knd (stored kvs k vv)) (vl ++ ((D, dctA knd kvs) :: (I, itP (i + 1)) :: (side ++ led''))) (vl ++ ((D, dctA knd (stored kvs k vv)) :: (I, itP (i + 1)) :: (side ++ led''))) := fun vl => by
      induction vl with
      | nil => exact .head
      | cons q r ih => exact .tail ih
    have hl := stored_length_le kvs k vv
    exact wpAny_dictSet_pairs hk (H₄.isDict (hup vl').mem) (fun h' hm' hs' => ⟨n + 1 - (i + 1), by omega, i + 1, stored kvs k vv, led'', some v, vl', rfl, hlt, by omega, hJ', hvl', H₄.upd (hup vl') hs'.extBut (dctA_of hm')⟩) (by omega)
  · have hin : i = n := by omega
    subst hin
    refine W.done _ s' _ _ (H'.perm (p1 i vl)) fun s₁ H₁ => ?_
    refine fin o vl kvs led' s₁ hvl hJ (H₁.perm ?_)
    exact (List.Perm.append_left vl (List.perm_middle (l₁ := side)).symm).trans (List.perm_append_comm_assoc vl side _)

theorem comp_dict {kx vx iter target : Expr} {scope : Scope} {cl : List (Str × Addr)} {pos : Pos} {Q : Value → Shared → Prop} {mk : Addr → Env} {V : Addr → Option Value → Led → Prop} (hclos : closureFor scope env = pure cl)
    (hM : EnvMade prog w A base os₀ scope env cl mk V) (hV : ∀ C, Var prog w A base os₀ (mk C) target C (V C))
    (h : wpAny (model prog w) A (eval iter env) (fun xv s₁ => wpAny (model prog w) A (pyIter xv) (fun it s₂ => ∃ I n P itP side led, ∃ J : Nat → List (K × Value) → Led → Prop, it = .ref I ∧ Iter prog w A base os₀ I n P itP side ∧ n ≤ sizeLine ∧ St base os₀ ((I, itP 0) :: (side ++ led)) s₂ ∧ J 0 [] led ∧
      (∀ C D i v kvs vl led s E', i < n → P i v → J i kvs led → V C (some v) vl → St base os₀ (vl ++ ((D, dctA knd kvs) :: (I, itP (i + 1)) :: (side ++ led))) s →
        wpAny (model prog w) A (eval kx (mk C)) (fun kv s₃ => wpAny (model prog w) A (eval vx (mk C)) (fun vv s₄ => ∃ k led', knd.is k kv = true ∧ J (i + 1) (stored kvs k vv) led' ∧ St base os₀ (vl ++ ((D, dctA knd kvs) :: (I, itP (i + 1)) :: (side ++ led'))) s₄) E' s₃) E' s) ∧
      (∀ D kvs led, J n kvs led → ∀ s, St base os₀ ((D, dctA knd kvs) :: (side ++ led)) s → Q (.ref D) s)) E s₁) E s)
    (hkind : scope.kind = .function) (hnames : ∀ y ∈ scope.names, y.2 = .local → scope.names.lookup y.1 = some .local)
    (hs : ∀ x, foldedSetIterable iter env x = pure x := by intro _; rfl) (ht : ∀ I v, letOwnedTupleGo target (.ref I) v = pure () := by intro _ _; rfl) :
    wpAny (model prog w) A (eval (.DictComp kx vx [⟨target, iter, [], 0⟩] scope pos) env) Q E s := by
  rw [arm_eval_DictComp]
  refine wpAny_comprehension_free (use := none) rfl hs hclos hkind hnames (wpAny_mono h (fun xv s₁ h₁ => wpAny_mono h₁ (fun it s₂ h₂ => ?_) fun _ _ e => e) fun _ _ e => e)
  obtain ⟨I, n, P, itP, side, led, J, rfl, W, hsz, H, h0, turn, fin⟩ := h₂
  refine wpAny_bind (wpAny_alloc (wpAny_pure ?_))
  have H₃ := H.push (tk := s₂.toks) (P := dctA knd []) (o := { cls := .type "dict", data := .dict #[] }) rfl ⟨#[], 0, ⟨rfl, rfl, rfl⟩, rfl, fun e he => by simp at he, .nil, .nil⟩
  generalize s₂.heap.objs.size = D at H₃ ⊢
  refine hM _ _ _ _ H₃ fun C vl cenv s₄ hC hmk hv H₄ => ?_
  rw [hmk, hC]
  have loop : codeAny (model prog w) A (.compLoop (.DictComp kx vx [⟨target, iter, [], 0⟩] scope pos) 0 (.ref I) (.ref D) (mk C)) (compPost (model prog w) A E none Q (.ref D) C) s₄ :=
    comp_loopD W hsz (hV C) J (fun i v kvs vl led s E' hi hp hJ hvl H' => turn C D i v kvs vl led s E' hi hp hJ hvl H')
      (fun o vl kvs led s hvl hJ H' => by
        obtain ⟨m, vr, e⟩ := (hV C).ns o vl hvl
        subst e
        exact ⟨m, H'.ns (.head _), fun h' hs' => fin D kvs led hJ _ ((H'.gone (tk := s.toks) fun b o hb e => hs'.extBut b o hb e).sub (List.sublist_append_right _ _))⟩) hv H₄ h0 (ht I)
  exact codeAny_compStart_dict loop (W.self _ _ _ _ (H₄.perm (led' := (I, itP 0) :: (side ++ (vl ++ ((D, dctA knd []) :: led)))) (by
    exact (List.Perm.cons _ (List.perm_append_comm_assoc side vl _)).trans ((List.perm_middle (l₁ := vl)).symm.trans (List.Perm.append_left vl ((List.Perm.cons _ (List.perm_middle (l₁ := side))).trans (List.Perm.swap ..)))))) loop)
end
end Mine

namespace Mine
open PySem PySem.W PyProof.Rows PySem.Calls PySem.Spec
def nth (n : Nat) (l : List Stmt) : Stmt := match n, l with
  | 0, s :: _ => s
  | n + 1, _ :: r => nth n r
  | _, [] => .Pass default
def fnBody : Stmt → List Stmt | .FunctionDef _ _ b _ _ _ _ _ _ _ => b | _ => []
def fnPar : Stmt → Arguments | .FunctionDef _ a _ _ _ _ _ _ _ _ => a | _ => default
def fnScope : Stmt → Scope | .FunctionDef _ _ _ _ _ _ s _ _ _ => s | _ => default
/-- what is known of a def of the top -/
structure IsDef (base : Heap) (f : Addr) (st : Stmt) (fd : FuncData) : Prop where
  obj : ∃ o, base.get? f = some o ∧ o.data = .func fd
  body : fd.body = .stmts (fnBody st)
  par : fd.params = fnPar st
  scope : fd.scope = fnScope st
  clo : fd.closure = []
  glob : fd.globals = mainGlobals
  bi : fd.builtins = builtinsNs
  dflt : fd.defaults = .none
  code : base.CodeRec fd.code fd.qualname

section
variable {prog : Program} {w : World} {A : Around} {E : Value → Shared → Prop} {s : Shared} {base : Heap} {os₀ : OsState} {led : Led} {env : Env}
/-- a store of a local name; what else the names are stays -/
theorem st_g {x : Str} {v : Value} {m : Str → Option Value} {led' : (Str → Option Value) → Led} {Q : Unit → Shared → Prop} (H : St base os₀ led s) (U : ∀ m', Up env.locals (nsA m) (nsA m') led (led' m'))
    (h : ∀ m' s', m' x = some v → (∀ y, y ≠ x → m' y = m y) → St base os₀ (led' m') s' → Q () s') (hk : env.scope.kind = .function := by rfl) (hx : env.kindOf x = some .local := by rfl) :
    wpAny (model prog w) A (storeName env x v) Q E s :=
  st_l H (U _) (fun s' H' => h _ s' (if_pos rfl) (fun y hy => if_neg hy) H') hk hx
theorem ld_l {x : Str} {v : Value} {m : Str → Option Value} {Q : Value → Shared → Prop} (H : St base os₀ led s) (hm : (env.locals, nsA m) ∈ led) (hv : m x = some v) (h : Q v s)
    (hk : env.scope.kind = .function := by rfl) (hx : env.kindOf x = some .local := by rfl) : wpAny (model prog w) A (loadName env x) Q E s := wpAny_loadName_local hk hx (H.ns hm) hv h
end
theorem up_head {a : Addr} {P : Asn} {P' : Asn} {l : Led} : Up a P P' ((a, P) :: l) ((a, P') :: l) := .head
theorem room_deeper {prog : Program} {w : World} {base : Heap} {A : Around} {env : Env} {fs : List Env} (S : base.NoSeer) (lim : base.NoLimit) (ht : prog.given.tree = none) (hfr : A.frames = some fs) (hh : A.handled = none) (hd : A.depth + 201 < recursionLimit) (hu : A.units + 67 < cLine)
    (h1 : env.scope.isGenerator = false) (h2 : env.scope.isCoroutine = false) (h3 : env.builtins = builtinsNs) (h4 : env.globals = mainGlobals) : Room prog w (A.deeper env) base where
  depth := by show A.depth + 1 + 200 < _; omega
  units := by show A.units + 3 + 64 < _; omega
  handled := hh
  pylong := fun s hk => PylongRoom.of (lim.keeps hk) (by show A.depth + 1 + Builtin.pylongFrames < _; unfold Builtin.pylongFrames; omega) (PySem.SeerAt.of (S.keeps hk) ht (Around.frames_deeper hfr) h1 h2 h3 h4)
theorem ints_get {pv : List Value} {ns : List Int} (h : IntsAre pv ns) : ∀ {p : Nat} {n : Int}, ns[p]? = some n → ∃ t, pv[p]? = some (.int n t) := by
  induction h with
  | nil => intro p n e; simp at e
  | cons k t _ ih =>
    intro p n e
    cases p with
    | zero => simp at e; subst e; exact ⟨t, rfl⟩
    | succ p => simpa using ih (by simpa using e)
theorem ints_snoc {vs : List Value} {ns : List Int} (h : IntsAre vs ns) (n : Int) (t : Tok) : IntsAre (vs ++ [.int n t]) (ns ++ [n]) := by
  induction h with
  | nil => exact .cons n t .nil
  | cons k t' _ ih => exact .cons k t' ih
theorem ints_take {vs : List Value} {ns : List Int} (h : IntsAre vs ns) : ∀ k, IntsAre (vs.take k) (ns.take k) := by
  induction h with
  | nil => intro k; simp; exact .nil
  | cons n t _ ih =>
    intro k
    cases k with
    | zero => exact .nil
    | succ k => exact .cons n t (ih k)
section
variable {prog : Program} {w : World} {A : Around} {E : Value → Shared → Prop} {s : Shared} {base : Heap} {os₀ : OsState} {led : Led} {m : Str → Option Value} {a : Addr} {vs : List Value}
/-- a slice up to a number -/
theorem l_upto {env : Env} {x : Str} {k : Nat} {i : Int} {b : Nat} {p1 p2 p3 p4 : Pos} {Q : Value → Shared → Prop} (H : St base os₀ led s) (hm : (env.locals, nsA m) ∈ led) (hv : m x = some (.ref a)) (hl : base.IsList a vs.toArray) (hsz : vs.length ≤ sizeLine)
    (h : ∀ r s', St base os₀ ((r, lstA (vs.take b)) :: led) s' → Q (.ref r) s') (hib : i = (b : Nat) := by rfl)
    (hk : env.scope.kind = .function := by rfl) (hx : env.kindOf x = some .local := by rfl) (hd : (x == ("__debug__" : Str)) = false := by decide) :
    wpAny (model prog w) A (eval (.Subscript (.Name x p1) (.Slice none (some (.Constant (.int i) k p2)) none p3) p4) env) Q E s := by
  subst hib
  refine wpAny_Subscript_list_slice (nm_l H hm hv (evalPart_none_step (evalPart_some_step (c_int H fun t s₁ H₁ => ⟨a, vs.toArray, none, some (b : Nat), rfl, ?_, by simpa using hsz, .none, .int (b : Nat) t, ?_⟩))) hk hx hd)
  · obtain ⟨o, ho, r⟩ := hl; exact ⟨o, H₁.keep _ _ ho, r⟩
  · exact h _ _ (H₁.push2 (tk := s₁.toks) rfl rfl ⟨0, by rw [slicePick_upto']⟩)
theorem i_add {a b : Int} {t u : Tok} {Q : Value → Shared → Prop} (H : St base os₀ led s) (h : ∀ t' s', St base os₀ led s' → Q (.int (a + b) t') s') : wpAny (model prog w) A (binaryOp .Add (.int a t) (.int b u)) Q E s :=
  PyProof.Rows.add_int (h _ _ H.tok)
theorem i_sub {a b : Int} {t u : Tok} {Q : Value → Shared → Prop} (H : St base os₀ led s) (h : ∀ t' s', St base os₀ led s' → Q (.int (a - b) t') s') : wpAny (model prog w) A (binaryOp .Sub (.int a t) (.int b u)) Q E s :=
  PyProof.Rows.sub_int (h _ _ H.tok)
theorem i_neg {a : Int} {t : Tok} {Q : Value → Shared → Prop} (H : St base os₀ led s) (h : ∀ t' s', St base os₀ led s' → Q (.int (-a) t') s') : wpAny (model prog w) A (unaryOp .USub (.int a t)) Q E s :=
  PySem.P.neg_int (h _ _ H.tok)
theorem i_pow {a b : Int} {t u : Tok} {Q : Value → Shared → Prop} (H : St base os₀ led s) (ha : 1 < a) (ha' : a < 16) (h0 : 0 ≤ b) (hb : b ≤ 200) (h : ∀ t' s', St base os₀ led s' → Q (.int (a ^ b.toNat) t') s') : wpAny (model prog w) A (binaryOp .Pow (.int a t) (.int b u)) Q E s := by
  by_cases hz : b = 0
  · subst hz
    refine PySem.AutoIntOps.pow_0 (by decide) (by decide) ?_
    have := h s.toks _ (H.tok (tk := s.toks + 1))
    simp only [Int.toNat_zero, Int.pow_zero] at this
    exact this
  · refine PySem.AutoIntOps.pow_4 h0 (by simpa using hz) (by simp; omega) (by simp; omega) ?_ (h _ _ H.tok)
    have hbits : Builtin.Int.intBits a ≤ 64 := by
      unfold Builtin.Int.intBits
      split
      · omega
      · have : a.natAbs.log2 < 4 := by rw [Nat.log2_lt (by omega)]; omega
        omega
    have h2 : ((Builtin.Int.intBits a : Nat) : Int) * b ≤ 64 * 200 := Int.mul_le_mul (by omega) hb h0 (by decide)
    have h3 : (12800 : Int) ≤ bitsLine := by decide
    simp only [Builtin.Int.intTooBig, decide_eq_true_eq]
    omega
theorem c_neg {n : Int} {k : Nat} {p1 p2 : Pos} {env : Env} {Q : Value → Shared → Prop} (H : St base os₀ led s) (h : ∀ t' s', St base os₀ led s' → Q (.int (-n) t') s') : wpAny (model prog w) A (eval (.UnaryOp .USub (.Constant (.int n) k p1) p2) env) Q E s :=
  wpAny_UnaryOp (c_int H fun t s₁ H₁ => i_neg H₁ h)
theorem len_l {l : Addr} {vs : List Value} {Q : Value → Shared → Prop} (H : St base os₀ led s) (hm : (l, lstA vs) ∈ led) (hz : vs.length ≤ 1000) (h : ∀ t' s', St base os₀ led s' → Q (.int (vs.length : Nat) t') s') : wpAny (model prog w) A (call (.builtin "len") [.ref l]) Q E s :=
  PyProof.Rows.len_list (H.isList hm) (by rw [List.size_toArray]; omega) (by rw [List.size_toArray]; exact h _ _ H.tok)
theorem len_s {x : Str} {t : Tok} {Q : Value → Shared → Prop} (H : St base os₀ led s) (hz : x.length ≤ 1000) (h : ∀ t' s', St base os₀ led s' → Q (.int (x.length : Nat) t') s') : wpAny (model prog w) A (call (.builtin "len") [.str x t]) Q E s :=
  PyProof.Rows.len_str (by omega) (h _ _ H.tok)
theorem max2 {a b : Int} {t u : Tok} {Q : Value → Shared → Prop} (hh : A.handled = none) (H : St base os₀ led s) (h : ∀ t' s', St base os₀ led s' → Q (.int (if b > a then b else a) t') s') : wpAny (model prog w) A (call (.builtin "max") [.int a t, .int b u]) Q E s := by
  refine max_two_ints hh fun h' tk hk => ?_
  by_cases hab : b > a
  · have := h u _ (H.ext (tk := tk) hk)
    rw [if_pos hab] at this ⊢; exact this
  · have := h t _ (H.ext (tk := tk) hk)
    rw [if_neg hab] at this ⊢; exact this
end
end Mine

namespace Mine
open PySem PySem.W PyProof.Rows PySem.Calls PySem.Spec
/-! how long a number's text is -/
def dlen (n : Int) : Nat := (Str.ofString (toString n)).length
theorem dlen_ofNat (m : Nat) : dlen (m : Int) = m.repr.length := by
  unfold dlen; rw [PySem.ofString_length]; rfl
theorem dlen_negSucc (m : Nat) : dlen (Int.negSucc m) = (m + 1).repr.length + 1 := by
  unfold dlen; rw [PySem.ofString_length]
  show ("-" ++ (m + 1).repr).length = _
  rw [String.length_append]
  have : "-".length = 1 := by decide
  omega
theorem dlen_le_pos {n : Int} (hn : 0 ≤ n) {k : Nat} (hk : 0 < k) : dlen n ≤ k ↔ n < 10 ^ k := by
  obtain ⟨m, rfl⟩ := Int.eq_ofNat_of_zero_le hn
  rw [dlen_ofNat, Nat.length_repr_le_iff hk]
  constructor
  · intro h; exact_mod_cast h
  · intro h; exact_mod_cast h
theorem dlen_le_neg {n : Int} (hn : n < 0) {k : Nat} (hk : 0 < k) : dlen n ≤ k + 1 ↔ -(10 ^ k : Int) < n := by
  obtain ⟨m, rfl⟩ := Int.eq_negSucc_of_lt_zero hn
  rw [dlen_negSucc, Nat.add_le_add_iff_right, Nat.length_repr_le_iff hk]
  rw [Int.negSucc_eq]
  constructor
  · intro h
    have : ((m + 1 : Nat) : Int) < 10 ^ k := by exact_mod_cast h
    omega
  · intro h
    have : ((m + 1 : Nat) : Int) < 10 ^ k := by omega
    exact_mod_cast this
theorem dlen_fits {n : Int} (h : n.natAbs < 10 ^ 100) : dlen n ≤ 101 := by
  by_cases hn : 0 ≤ n
  · have : dlen n ≤ 100 := (dlen_le_pos hn (by decide)).mpr (by
      have : ((n.natAbs : Nat) : Int) < ((10 ^ 100 : Nat) : Int) := by exact_mod_cast h
      have e : ((n.natAbs : Nat) : Int) = n := Int.natAbs_of_nonneg hn
      rw [e] at this; exact_mod_cast this)
    omega
  · refine (dlen_le_neg (by omega) (k := 100) (by decide)).mpr ?_
    have h1 : ((n.natAbs : Nat) : Int) < ((10 ^ 100 : Nat) : Int) := by exact_mod_cast h
    have e : ((n.natAbs : Nat) : Int) = -n := by omega
    rw [e] at h1
    have : -n < 10 ^ 100 := by exact_mod_cast h1
    omega
theorem log2_fits {n : Int} (h : n.natAbs < 10 ^ 100) : n.natAbs.log2 < 1920 := by
  by_cases hz : n.natAbs = 0
  · rw [hz]; decide
  · rw [Nat.log2_lt hz]
    exact Nat.lt_trans h (by decide +kernel)
/-- the length of a line's text -/
def Ln.len : Ln → Nat
  | .str x => x.length
  | .bool b => if b then 4 else 5
  | .int n => dlen n
  | .none => 4
def Ln.m1 : Ln → Bool
  | .int n => n == -1
  | _ => false
/-- the width that is told of the greatest line -/
def wOf (ls : List Ln) (l : Ln) : Int := if l.m1 then 0 else
  let w : Int := if (l.len : Int) > 3 then l.len else 3
  if w < 4 ∧ ls.any Ln.isNone = true then 4 else w
section
variable {prog : Program} {w : World} {A : Around} {E : Value → Shared → Prop} {s : Shared} {base : Heap} {os₀ : OsState} {led : Led} {l : Ln} {v : Value} {u : Tok}
theorem eq_m1 {Q : Value → Shared → Prop} (hv : LnV l v) (hl : l ≠ .none) (h : Q (.bool l.m1) s) : wpAny (model prog w) A (compareOp .Eq v (.int (-1) u)) Q E s := by
  cases l with
  | none => exact absurd rfl hl
  | bool b => cases hv; refine EqBoolInt.of_rc (SeqAt.RcAt.bool_int b (-1) u) ?_; cases b <;> exact h
  | str x => obtain ⟨t, rfl⟩ := hv; exact EqBoolInt.of_rc (SeqAt.RcAt.str_int x t (-1) u) h
  | int n => obtain ⟨t, rfl⟩ := hv; exact EqBoolInt.of_rc (SeqAt.RcAt.int_int n t (-1) u) h
theorem str_ln {Q : Value → Shared → Prop} (hv : LnV l v) (hl : l ≠ .none) (hf : l.fits) (H : St base os₀ led s) (h : ∀ x t s', x.length = l.len → x.length ≤ 1000 → St base os₀ led s' → Q (.str x t) s') : wpAny (model prog w) A (call (.type "str") [v]) Q E s := by
  cases l with
  | none => exact absurd rfl hl
  | bool b => cases hv; exact PySem.P.str_of_bool (h _ _ _ (by cases b <;> decide) (by cases b <;> decide) H.tok)
  | str x => obtain ⟨t, rfl⟩ := hv; exact PySem.P.str_of_str (h x t _ rfl hf H)
  | int n =>
    obtain ⟨t, rfl⟩ := hv
    have hf : n.natAbs < 10 ^ 100 := hf
    exact s_int H (log2_fits hf) fun t' s' H' => h _ _ _ rfl (by have := dlen_fits hf; show dlen n ≤ 1000; omega) H'
end
end Mine

namespace Mine
open PySem PySem.W PyProof.Rows PySem.Calls PySem.Spec
def glnStmt : Stmt := nth 2 PySem.Challenge.pw_dm0069_01.main.body
abbrev glnEnv (fname fqual : Str) (fkwd fdoc fmod : Value) (fann : Option Addr) (fcode fct : Value) (L fF : Addr) : Env :=
  callEnv { name := fname, qualname := fqual, params := fnPar glnStmt, body := .stmts (fnBody glnStmt), scope := fnScope glnStmt, globals := mainGlobals, closure := [], defaults := .none, kwdefaults := fkwd, doc := fdoc, pyModule := fmod, annotations := fann, code := fcode, closureTuple := fct, builtins := builtinsNs } L fF
structure GW (base : Heap) (mg mb : Str → Option Value) (fW : Addr) (wd : FuncData) : Prop where
  gr : Gr base mg mb
  dw : IsDef base fW glnStmt wd
  hw : mg (Str.ofString "_get_lineno_width") = some (.ref fW)
  hno : ∃ t, mg (Str.ofString "_NO_LINENO") = some (.str (Str.ofString "  --") t)
  n1 : mg (Str.ofString "max") = none
  n2 : mg (Str.ofString "filter") = none
  n3 : mg (Str.ofString "len") = none
  n4 : mg (Str.ofString "str") = none
  b1 : mb (Str.ofString "max") = some (.builtin "max")
  b2 : mb (Str.ofString "filter") = some (.type "filter")
  b3 : mb (Str.ofString "len") = some (.builtin "len")
  b4 : mb (Str.ofString "str") = some (.type "str")
section
variable {prog : Program} {w : World} {A : Around} {E : Value → Shared → Prop} {s : Shared} {base : Heap} {os₀ : OsState} {led : Led} {mg mb : Str → Option Value} {fW d L v : Addr} {wd : FuncData} {K : Type} [DecidableEq K] {knd : KeyKind prog w K} {kvs : List (K × Value)} {ls : List Ln} {Q : Value → Shared → Prop}
  {fname fqual : Str} {fkwd fdoc fmod : Value} {fann : Option Addr} {fcode fct : Value}
theorem gln_none (G : GW base mg mb fW wd) (hroom : A.depth < recursionLimit) (H : St base os₀ led s) (h : ∀ t s', St base os₀ led s' → Q (.int 0 t) s') : wpAny (model prog w) A (call (.ref fW) [.none] []) Q E s := by
  obtain ⟨⟨o, ho, hd⟩, hb, hp, hsc, hc, hgl, hbi, hdf, hcd⟩ := G.dw
  obtain ⟨fname, fqual, fpar, fbody, fscope, fglob, fclo, fdef, fkwd, fdoc, fmod, fann, fcode, fct, fbui⟩ := wd
  simp only at hb hp hsc hc hgl hbi hdf hcd
  subst hb hp hsc hc hgl hbi hdf
  refine fn_enter (args := ⟨[.none], []⟩) H hroom G.gr.lim (H.keep _ _ ho) hd (hcd.keeps H.keep) rfl (by show ∀ x ∈ (fnScope glnStmt).names, x.2 ≠ NameKind.cell; decide) ?_
  refine wpAny_of_eq (a := [(Str.ofString "linestarts", .none)]) rfl ?_
  refine ⟨_, H, ?_, fun L s₁ H₁ => ?_⟩
  · intro x hx
    simp only [List.mem_cons, List.not_mem_nil, or_false] at hx
    subst hx; rfl
  refine wpAny_execs_cons (wpAny_If (wpAny_isTrue_Compare1 (nm_l H₁ (.head _) rfl (wpAny_Constant_none (is_none (wpAny_truthy_bool ?_))))))
  refine ite_pos rfl (wpAny_execs_cons (wpAny_Return_some (c_int H₁ fun t s₂ H₂ => h t s₂ (H₂.sub (.cons _ (.refl _))))))

/-- behind the greatest line -/
theorem gln_tail {l : Ln} {mv : Value} {m : Str → Option Value} {Q : Flow → Shared → Prop} (G : GW base mg mb fW wd) (hh : A.handled = none) (hV : VL kvs ls) (hv : LnV l mv) (hl : l ≠ .none) (hf : l.fits)
    (hd : m (Str.ofString "linestarts") = some (.ref d)) (hm : m (Str.ofString "maxlineno") = some mv)
    (H : St base os₀ ((L, nsA m) :: (d, dctA knd kvs) :: led) s)
    (h : ∀ t s', St base os₀ ((d, dctA knd kvs) :: led) s' → Q (.ret (.int (wOf ls l) t)) s') :
    wpAny (model prog w) A (execs ((fnBody glnStmt).drop 2) (glnEnv fname fqual fkwd fdoc fmod fann fcode fct L fW)) Q E s := by
  obtain ⟨o₀, hsys⟩ := G.gr.sys
  obtain ⟨tno, hno⟩ := G.hno
  refine wpAny_execs_cons (wpAny_If (wpAny_isTrue_Compare1 (nm_l H (.head _) hm (c_neg H fun t1 s₁ H₁ => eq_m1 hv hl (wpAny_truthy_bool ?_)))))
  cases hm1 : l.m1 with
  | true =>
    refine ite_pos rfl (wpAny_execs_cons (wpAny_Return_some (c_int H₁ fun t s₂ H₂ => ?_)))
    have := h t s₂ (H₂.sub (.cons _ (.refl _)))
    unfold wOf at this
    rw [if_pos hm1] at this
    exact this
  | false =>
    refine ite_neg (by decide) (wpAny_execs_nil ?_)
    refine wpAny_execs_cons (wpAny_Assign_Name (wpAny_Call_ofName (nm_b H₁ G.gr.g G.gr.b G.n1 G.b1 (callWith_builtin rfl (evalArgs_plain (spliced_cons (c_int (k := 0) (pos := ⟨9, 23, 9, 24⟩) H₁ fun t2 s₂ H₂ => spliced_cons (wpAny_Call_ofName (nm_b H₂ G.gr.g G.gr.b G.n3 G.b3 (callWith_builtin rfl (evalArgs_plain (spliced_cons (wpAny_Call_ofName (nm_b H₂ G.gr.g G.gr.b G.n4 G.b4 (callWith_excType rfl (evalArgs_plain (spliced_cons (nm_l H₂ (.head _) hm (spliced_nil (str_ln hv hl hf H₂ fun x t3 s₃ hx hx' H₃ => spliced_nil (len_s H₃ hx' fun t4 s₄ H₄ => spliced_nil (max2 hh H₄ fun t5 s₅ H₅ => ?_))))))))))))))))))))))
    rw [hx]
    refine st_g H₅ (fun _ => up_head) fun m₁ s₆ e₁ k₁ H₆ => ?_
    have hd₁ := (k₁ _ (by decide)).trans hd
    refine wpAny_execs_cons (wpAny_If (wpAny_isTrue_BoolOp (wpAny_allTrue_And_cons (wpAny_isTrue_Compare1 (nm_l H₆ (.head _) e₁ (wpAny_Call_ofName (nm_b H₆ G.gr.g G.gr.b G.n3 G.b3 (callWith_builtin rfl (evalArgs_plain (spliced_cons (nm_g H₆ G.gr.g hno (spliced_nil (len_s H₆ (by decide) fun t6 s₇ H₇ => PyProof.Rows.lt_int (wpAny_truthy_bool ?_))))))))))))))
    by_cases hlt : (if ((l.len : Nat) : Int) > 3 then ((l.len : Nat) : Int) else 3) < 4
    · refine ite_pos (decide_eq_true hlt) ?_
      refine wpAny_allTrue_And_cons (wpAny_isTrue_Compare1 (wpAny_Constant_none (wpAny_Call_method0_late rfl rfl (nm_l H₇ (.head _) hd₁ (d_values H₇ hsys (.tail _ (.head _)) fun v s₈ H₈ => ?_)))))
      have H₉ : St base os₀ ((d, dctA knd kvs) :: (v, viewA d) :: (L, nsA m₁) :: led) s₈ := H₈.perm (by
        repeat (first | exact List.Perm.refl _ | refine Pick.perm (by (repeat (first | exact Pick.head | apply Pick.tail))) ?_))
      obtain ⟨ep, H₁₀⟩ := H₉.seeEp
      refine in_values hh hV H₁₀ (.head _) fun s₉ H₁₁ => wpAny_truthy_bool ?_
      have H₁₂ : St base os₀ ((L, nsA m₁) :: (d, dctA knd kvs) :: led) s₉ := (((H₁₁.weak dctE_A).perm (led' := (v, viewA d) :: (L, nsA m₁) :: (d, dctA knd kvs) :: led) (by
        repeat (first | exact List.Perm.refl _ | refine Pick.perm (by (repeat (first | exact Pick.head | apply Pick.tail))) ?_))).sub (.cons _ (.refl _)))
      cases hno' : ls.any Ln.isNone with
      | true =>
        refine ite_pos rfl (wpAny_allTrue_And_nil (ite_pos rfl ?_))
        refine wpAny_execs_cons (wpAny_Assign_Name (wpAny_Call_ofName (nm_b H₁₂ G.gr.g G.gr.b G.n3 G.b3 (callWith_builtin rfl (evalArgs_plain (spliced_cons (nm_g H₁₂ G.gr.g hno (spliced_nil (len_s H₁₂ (by decide) fun t7 s₁₀ H₁₃ => st_g H₁₃ (fun _ => up_head) fun m₂ s₁₁ e₂ k₂ H₁₄ => ?_)))))))))
        refine wpAny_execs_nil (wpAny_execs_cons (wpAny_Return_some (nm_l H₁₄ (.head _) e₂ ?_)))
        have := h t7 s₁₁ (H₁₄.sub (.cons _ (.refl _)))
        unfold wOf at this
        rw [if_neg (by rw [hm1]; decide), if_pos ⟨hlt, hno'⟩] at this
        exact this
      | false =>
        refine ite_neg (by decide) (ite_neg (by decide) (wpAny_execs_nil (wpAny_execs_cons (wpAny_Return_some (nm_l H₁₂ (.head _) e₁ ?_)))))
        have := h t5 s₉ (H₁₂.sub (.cons _ (.refl _)))
        unfold wOf at this
        rw [if_neg (by rw [hm1]; decide), if_neg (fun q => by rw [hno'] at q; exact absurd q.2 (by decide))] at this
        exact this
    · refine ite_neg (fun q => hlt (of_decide_eq_true q)) (ite_neg (by decide) (wpAny_execs_nil (wpAny_execs_cons (wpAny_Return_some (nm_l H₇ (.head _) e₁ ?_)))))
      have := h t5 s₇ (H₇.sub (.cons _ (.refl _)))
      unfold wOf at this
      rw [if_neg (by rw [hm1]; decide), if_neg (fun q => hlt q.1)] at this
      exact this

/-- the contract of _get_lineno_width -/
theorem gln_ok (G : GW base mg mb fW wd) (hroom : A.depth < recursionLimit) (hh : A.handled = none) (hV : VL kvs ls) (hf : ∀ l ∈ ls, l.fits) (hcmp : ∀ env, CmpOk prog w (A.deeper env).in1 base os₀ ls)
    (H : St base os₀ ((d, dctA knd kvs) :: led) s)
    (h1 : ∀ l t s', maxL none ls = some (some l) → St base os₀ ((d, dctA knd kvs) :: led) s' → Q (.int (wOf ls l) t) s')
    (h2 : ∀ t s', maxL none ls = some none → St base os₀ ((d, dctA knd kvs) :: led) s' → Q (.int 0 t) s')
    (h3 : ∀ env e L m s', maxL none ls = none → env = callEnv wd L fW → St base os₀ ((e, ex0 "TypeError") :: (L, nsA m) :: (d, dctA knd kvs) :: led) s' →
      wpAny (model prog w) (A.deeper env) (leaving env (.ref e)) (fun _ s'' => E (.ref e) s'') (fun e' s'' => E e' s'') s') :
    wpAny (model prog w) A (call (.ref fW) [.ref d] []) Q E s := by
  obtain ⟨o₀, hsys⟩ := G.gr.sys
  have Gd := G.dw
  obtain ⟨⟨o, ho, hd⟩, hb, hp, hsc, hc, hgl, hbi, hdf, hcd⟩ := Gd
  obtain ⟨fname, fqual, fpar, fbody, fscope, fglob, fclo, fdef, fkwd, fdoc, fmod, fann, fcode, fct, fbui⟩ := wd
  simp only at hb hp hsc hc hgl hbi hdf hcd
  subst hb hp hsc hc hgl hbi hdf
  refine fn_enter (args := ⟨[.ref d], []⟩) H hroom G.gr.lim (H.keep _ _ ho) hd (hcd.keeps H.keep) rfl (by show ∀ x ∈ (fnScope glnStmt).names, x.2 ≠ NameKind.cell; decide) ?_
  refine wpAny_of_eq (a := [(Str.ofString "linestarts", .ref d)]) rfl ?_
  refine ⟨_, H, ?_, fun L s₁ H₁ => ?_⟩
  · intro x hx
    simp only [List.mem_cons, List.not_mem_nil, or_false] at hx
    subst hx; rfl
  refine wpAny_execs_cons (wpAny_If (wpAny_isTrue_Compare1 (nm_l H₁ (.head _) rfl (wpAny_Constant_none (is_none (wpAny_truthy_bool ?_))))))
  refine ite_neg (by simp) (wpAny_execs_nil ?_)
  refine wpAny_execs_cons (wpAny_Assign_Name (wpAny_Call_ofName (nm_b H₁ G.gr.g G.gr.b G.n1 G.b1 (callWith_builtin_kwB rfl rfl (evalArgs_kwB rfl (spliced_cons (wpAny_Call_ofName (nm_b H₁ G.gr.g G.gr.b G.n2 G.b2 (callWith_excType rfl (evalArgs_plain (spliced_cons (wpAny_Constant_none (k := 0) (pos := ⟨6, 27, 6, 31⟩) (spliced_cons (wpAny_Call_method0_late rfl rfl (nm_l H₁ (.head _) rfl (d_values H₁ hsys (.tail _ (.head _)) fun v s₂ H₂ => spliced_nil ?_))))))))))))))))
  obtain ⟨m, hm, H₃⟩ : ∃ m, m (Str.ofString "linestarts") = some (.ref d) ∧ St base os₀ ((d, dctA knd kvs) :: (v, viewA d) :: (L, nsA m) :: led) s₂ := ⟨_, rfl, H₂.perm (by
    repeat (first | exact List.Perm.refl _ | refine Pick.perm (by (repeat (first | exact Pick.head | apply Pick.tail))) ?_))⟩
  clear H₂ H₁
  obtain ⟨ep, H₄⟩ := H₃.seeEp
  refine fil_new H₄ (.head _) fun F I s₃ H₅ => spliced_nil ?_
  refine wpAny_evalAll_cons (wpAny_bind (c_neg H₅ fun t1 s₄ H₆ => wpAny_bind (wpAny_standAt (wpAny_pure (wpAny_evalAll_nil ?_)))))
  have back : ∀ {s'}, St base os₀ ((d, dctE knd kvs ep) :: (v, viewA d) :: (L, nsA m) :: led) s' → St base os₀ ((L, nsA m) :: (d, dctA knd kvs) :: led) s' := fun H' => ((H'.weak dctE_A).perm (led' := (v, viewA d) :: (L, nsA m) :: (d, dctA knd kvs) :: led) (by
    repeat (first | exact List.Perm.refl _ | refine Pick.perm (by (repeat (first | exact Pick.head | apply Pick.tail))) ?_))).sub (.cons _ (.refl _))
  refine max_default (dv := .int (-1) t1) hh hV hf (hcmp _) H₆ (fun l v' s₅ e hl hy hv H₇ => ?_) (fun s₅ e H₇ => ?_) fun e s₅ q H₇ => ?_
  · refine st_g (back H₇) (fun _ => up_head) fun m₁ s₆ e₁ k₁ H₈ => ?_
    exact gln_tail G hh hV hv (fun q => by subst q; cases hy) (hf l hl) ((k₁ _ (by decide)).trans hm) e₁ H₈ fun t s₇ H₉ => h1 l t s₇ e H₉
  · refine st_g (back H₇) (fun _ => up_head) fun m₁ s₆ e₁ k₁ H₈ => ?_
    exact gln_tail (l := .int (-1)) G hh hV ⟨_, rfl⟩ (fun q => by cases q) (by show (1 : Nat) < 10 ^ 100; decide) ((k₁ _ (by decide)).trans hm) e₁ H₈ fun t s₇ H₉ => by
      have := h2 t s₇ e H₉
      have e2 : wOf ls (.int (-1)) = 0 := rfl
      rw [e2]; exact this
  · have H₈ : St base os₀ ((e, ex0 "TypeError") :: (L, nsA m) :: (d, dctE knd kvs ep) :: led) s₅ := (H₇.perm (led' := (v, viewA d) :: (e, ex0 "TypeError") :: (L, nsA m) :: (d, dctE knd kvs ep) :: led) (by
      repeat (first | exact List.Perm.refl _ | refine Pick.perm (by (repeat (first | exact Pick.head | apply Pick.tail))) ?_))).sub (.cons _ (.refl _))
    have H₉ : St base os₀ ((e, ex0 "TypeError") :: (L, nsA m) :: (d, dctA knd kvs) :: led) s₅ := by
      have Ha := H₈.perm (led' := (d, dctE knd kvs ep) :: (e, ex0 "TypeError") :: (L, nsA m) :: led) (by
        repeat (first | exact List.Perm.refl _ | refine Pick.perm (by (repeat (first | exact Pick.head | apply Pick.tail))) ?_))
      exact (Ha.weak dctE_A).perm (by
        repeat (first | exact List.Perm.refl _ | refine Pick.perm (by (repeat (first | exact Pick.head | apply Pick.tail))) ?_))
    exact h3 _ e L m s₅ q rfl H₉
end
end Mine

namespace Mine
open PySem PySem.W PyProof.Rows PySem.Calls PySem.Spec
def lineStmt : Stmt := nth 4 PySem.Challenge.pw_dm0069_01.main.body
def widthStmt : Stmt := nth 5 PySem.Challenge.pw_dm0069_01.main.body
def tableStmt : Stmt := nth 6 PySem.Challenge.pw_dm0069_01.main.body
def lawStmt1 : Stmt := nth 7 PySem.Challenge.pw_dm0069_01.main.body
structure G1 (base : Heap) (mg mb : Str → Option Value) (fW fL fD fT : Addr) (wd ld dd td : FuncData) : Prop where
  gw : GW base mg mb fW wd
  dl : IsDef base fL lineStmt ld
  dd : IsDef base fD widthStmt dd
  dt : IsDef base fT tableStmt td
  hl : mg (Str.ofString "_law_line") = some (.ref fL)
  hd : mg (Str.ofString "_law_width") = some (.ref fD)
  ht : mg (Str.ofString "_law_table") = some (.ref fT)
  n5 : mg (Str.ofString "abs") = none
  n6 : mg (Str.ofString "range") = none
  n7 : mg (Str.ofString "isinstance") = none
  n8 : mg (Str.ofString "int") = none
  b5 : mb (Str.ofString "abs") = some (.builtin "abs")
  b6 : mb (Str.ofString "range") = some (.type "range")
  b7 : mb (Str.ofString "isinstance") = some (.builtin "isinstance")
  b8 : mb (Str.ofString "int") = some (.type "int")
def sizeOf1 (x : Int) : Int := (if x.fdiv 5 < 0 then -(x.fdiv 5) else x.fdiv 5).fmod (10 ^ 60)
def line1 (x : Int) : Ln := if x.fmod 5 < 2 then (if x.fmod 5 = 0 then .none else .int 0) else .int (if x < 0 then -(sizeOf1 x) else sizeOf1 x)
theorem size1_lt (x : Int) : 0 ≤ sizeOf1 x ∧ sizeOf1 x < 10 ^ 60 := by
  unfold sizeOf1
  exact ⟨Int.fmod_nonneg_of_pos _ (by decide), Int.fmod_lt_of_pos _ (by decide)⟩
/-- None or a number -/
def NI (l : Ln) : Prop := l = .none ∨ ∃ n, l = .int n
theorem line1_NI (x : Int) : NI (line1 x) := by
  unfold line1
  split
  · split
    · exact .inl rfl
    · exact .inr ⟨0, rfl⟩
  · exact .inr ⟨_, rfl⟩
theorem line1_fits (x : Int) : (line1 x).fits ∧ ∀ n, line1 x = .int n → n.natAbs < 10 ^ 60 := by
  obtain ⟨h1, h2⟩ := size1_lt x
  have key : ∀ n : Int, (n = 0 ∨ n = -(sizeOf1 x) ∨ n = sizeOf1 x) → n.natAbs < 10 ^ 60 := fun n hn => by
    have e : ((10 ^ 60 : Nat) : Int) = 10 ^ 60 := by norm_cast
    have : (n.natAbs : Int) < ((10 ^ 60 : Nat) : Int) := by
      rw [e]
      rcases hn with rfl | rfl | rfl <;> omega
    exact_mod_cast this
  have k2 : ∀ n, line1 x = .int n → n.natAbs < 10 ^ 60 := fun n e => by
    unfold line1 at e
    split at e
    · split at e
      · cases e
      · cases e; exact key 0 (.inl rfl)
    · injection e with e
      subst e
      split
      · exact key _ (.inr (.inl rfl))
      · exact key _ (.inr (.inr rfl))
  refine ⟨?_, k2⟩
  rcases line1_NI x with e | ⟨n, e⟩
  · rw [e]; trivial
  · rw [e]; exact Nat.lt_trans (k2 n e) (Nat.pow_lt_pow_right (by decide) (by decide))
section
variable {prog : Program} {w : World} {A : Around} {E : Value → Shared → Prop} {s : Shared} {base : Heap} {os₀ : OsState} {led : Led} {mg mb : Str → Option Value} {fW fL fD fT : Addr} {wd ld dd td : FuncData} {Q : Value → Shared → Prop} {fs : List Env}
theorem line_ok {x : Int} {t : Tok} (G : G1 base mg mb fW fL fD fT wd ld dd td) (hS : base.NoSeer) (htr : prog.given.tree = none) (hfr : A.frames = some fs) (hd : A.depth + 201 < recursionLimit) (hu : A.units + 67 < cLine) (hh : A.handled = none) (H : St base os₀ led s)
    (h : ∀ v s', LnV (line1 x) v → St base os₀ led s' → Q v s') : wpAny (model prog w) A (call (.ref fL) [.int x t] []) Q E s := by
  obtain ⟨⟨o, ho, hdd⟩, hb, hp, hsc, hc, hgl, hbi, hdf, hcd⟩ := G.dl
  obtain ⟨fname, fqual, fpar, fbody, fscope, fglob, fclo, fdef, fkwd, fdoc, fmod, fann, fcode, fct, fbui⟩ := ld
  simp only at hb hp hsc hc hgl hbi hdf hcd
  subst hb hp hsc hc hgl hbi hdf
  refine fn_enter (args := ⟨[.int x t], []⟩) H (by omega) G.gw.gr.lim (H.keep _ _ ho) hdd (hcd.keeps H.keep) rfl (by show ∀ x ∈ (fnScope lineStmt).names, x.2 ≠ NameKind.cell; decide) ?_
  refine wpAny_of_eq (a := [(Str.ofString "x", .int x t)]) rfl ?_
  refine ⟨_, H, ?_, fun L s₁ H₁ => ?_⟩
  · intro x hx
    simp only [List.mem_cons, List.not_mem_nil, or_false] at hx
    subst hx; rfl
  have R : ∀ env : Env, env.scope.isGenerator = false → env.scope.isCoroutine = false → env.builtins = builtinsNs → env.globals = mainGlobals → Room prog w (A.deeper env) base := fun env a b c d => room_deeper hS G.gw.gr.lim htr hfr hh hd hu a b c d
  refine wpAny_execs_cons (wpAny_If (wpAny_isTrue_Compare1 (wpAny_BinOp (nm_l H₁ (.head _) rfl (c_int H₁ fun t1 s₂ H₂ => i_mod H₂ (by decide) fun t2 s₃ H₃ => c_int H₃ fun t3 s₄ H₄ => PyProof.Rows.lt_int (wpAny_truthy_bool ?_))))))
  by_cases h2 : x.fmod 5 < 2
  · refine ite_pos (decide_eq_true h2) ?_
    refine wpAny_execs_cons (wpAny_Return_some (IfExp_ (wpAny_isTrue_Compare1 (wpAny_BinOp (nm_l H₄ (.head _) rfl (c_int H₄ fun t4 s₅ H₅ => i_mod H₅ (by decide) fun t5 s₆ H₆ => c_int H₆ fun t6 s₇ H₇ => PyProof.Rows.eq_int (wpAny_truthy_bool ?_)))))))
    by_cases h0 : x.fmod 5 = 0
    · refine ite_pos (by simpa using h0) (wpAny_Constant_none (h _ _ ?_ (H₇.sub (.cons _ (.refl _)))))
      unfold line1; rw [if_pos h2, if_pos h0]; rfl
    · refine ite_neg (by simpa using h0) (c_int H₇ fun t7 s₈ H₈ => h _ _ ?_ (H₈.sub (.cons _ (.refl _))))
      unfold line1; rw [if_pos h2, if_neg h0]; exact ⟨_, rfl⟩
  · refine ite_neg (fun q => h2 (of_decide_eq_true q)) (wpAny_execs_nil ?_)
    refine wpAny_execs_cons (wpAny_Assign_Name (wpAny_BinOp (wpAny_Call_ofName (nm_b H₄ G.gw.gr.g G.gw.gr.b G.n5 G.b5 (callWith_builtin rfl (evalArgs_plain (spliced_cons (wpAny_BinOp (nm_l H₄ (.head _) rfl (c_int (k := 0) (pos := ⟨17, 20, 17, 21⟩) H₄ fun t4 s₅ H₅ => i_fdiv (R _ rfl rfl rfl rfl) H₅ (by decide) fun t5 s₆ H₆ => spliced_nil (call_abs_int fun t6 tk => ?_)))))))))))
    have H₇ : St base os₀ _ { s₆ with toks := tk } := H₆.tok
    refine wpAny_BinOp (c_int H₇ fun t7 s₈ H₈ => c_int H₈ fun t8 s₉ H₉ => i_pow H₉ (by decide) (by decide) (by decide) (by decide) fun t9 s₁₀ H₁₀ => i_mod H₁₀ (by decide) fun t10 s₁₁ H₁₁ => ?_)
    refine st_g H₁₁ (fun _ => up_head) fun m₁ s₁₂ e₁ k₁ H₁₂ => ?_
    have hx₁ : m₁ (Str.ofString "x") = some (.int x t) := (k₁ _ (by decide)).trans rfl
    refine wpAny_execs_cons (wpAny_Return_some (IfExp_ (wpAny_isTrue_Compare1 (nm_l H₁₂ (.head _) hx₁ (c_int H₁₂ fun t11 s₁₃ H₁₃ => PyProof.Rows.lt_int (wpAny_truthy_bool ?_))))))
    have hs : m₁ (Str.ofString "size") = some (.int (sizeOf1 x) t10) := e₁
    by_cases hx : x < 0
    · refine ite_pos (decide_eq_true hx) (wpAny_UnaryOp (nm_l H₁₃ (.head _) hs (i_neg H₁₃ fun t12 s₁₄ H₁₄ => h _ _ ?_ (H₁₄.sub (.cons _ (.refl _))))))
      unfold line1; rw [if_neg h2, if_pos hx]; exact ⟨_, rfl⟩
    · refine ite_neg (fun q => hx (of_decide_eq_true q)) (nm_l H₁₃ (.head _) hs (h _ _ ?_ (H₁₃.sub (.cons _ (.refl _)))))
      unfold line1; rw [if_neg h2, if_neg hx]; exact ⟨_, rfl⟩
end
end Mine

namespace Mine
open PySem PySem.W PyProof.Rows PySem.Calls PySem.Spec
def keyOf (k : Nat) : Int := 2 * (k : Int) * k + 6 * k
def tabKV (vs : List Value) (i : Nat) : List (Int × Value) := (List.range i).map fun k => (keyOf k, vs.getD k .none)
theorem keyOf_lt {a b : Nat} (h : a < b) : keyOf a < keyOf b := by
  unfold keyOf
  have h1 : (a : Int) < b := by omega
  have h2 : (a : Int) * a ≤ (b : Int) * b := Int.mul_le_mul (by omega) (by omega) (by omega) (by omega)
  rw [Int.mul_assoc, Int.mul_assoc]
  omega
theorem tabKV_succ (vs : List Value) (i : Nat) : stored (tabKV vs i) (keyOf i) (vs.getD i .none) = tabKV vs (i + 1) := by
  unfold stored
  rw [if_neg]
  · unfold tabKV; rw [List.range_succ, List.map_append]; rfl
  · simp only [List.any_eq_true, decide_eq_true_eq, not_exists, not_and]
    intro x hx e
    obtain ⟨k, hk, rfl⟩ := List.mem_map.mp hx
    exact absurd e (Int.ne_of_lt (keyOf_lt (List.mem_range.mp hk)))
section
variable {prog : Program} {w : World} {A : Around} {E : Value → Shared → Prop} {s : Shared} {base : Heap} {os₀ : OsState} {led : Led} {mg mb : Str → Option Value} {fW fL fD fT l : Addr} {wd ld dd td : FuncData} {Q : Value → Shared → Prop} {vs : List Value}
theorem i_mul {a b : Int} {t u : Tok} {Q : Value → Shared → Prop} (H : St base os₀ led s) (ha : 0 ≤ a ∧ a < 2 ^ 30) (hb : 0 ≤ b ∧ b < 2 ^ 30) (h : ∀ t' s', St base os₀ led s' → Q (.int (a * b) t') s') : wpAny (model prog w) A (binaryOp .Mult (.int a t) (.int b u)) Q E s :=
  PyProof.Rows.mul_int (h _ _ H.tok)
theorem table_ok (G : G1 base mg mb fW fL fD fT wd ld dd td) (hroom : A.depth < recursionLimit) (hh : A.handled = none) (H : St base os₀ led s) (hm : (l, lstA vs) ∈ led) (hlen : vs.length ≤ 100)
    (h : ∀ D s', St base os₀ ((D, dctA (intKind prog w) (tabKV vs vs.length)) :: led) s' → Q (.ref D) s') : wpAny (model prog w) A (call (.ref fT) [.ref l] []) Q E s := by
  obtain ⟨⟨o, ho, hdd⟩, hb, hp, hsc, hc, hgl, hbi, hdf, hcd⟩ := G.dt
  obtain ⟨fname, fqual, fpar, fbody, fscope, fglob, fclo, fdef, fkwd, fdoc, fmod, fann, fcode, fct, fbui⟩ := td
  simp only at hb hp hsc hc hgl hbi hdf hcd
  subst hb hp hsc hc hgl hbi hdf
  refine fn_enterC (args := ⟨[.ref l], []⟩) H (by omega) G.gw.gr.lim (H.keep _ _ ho) hdd (hcd.keeps H.keep) rfl rfl (by intro n; show ([Str.ofString "lines"] : List Str).Nodup; decide) ?_
  refine wpAny_of_eq (a := [(Str.ofString "lines", .ref l)]) rfl ?_
  refine ⟨_, H, ?_, fun L s₁ H₁ => ?_⟩
  · intro n x hx
    simp only [List.mem_cons, List.not_mem_nil, or_false] at hx
    subst hx
    exact .inr ⟨rfl, rfl⟩
  obtain ⟨m, H₂⟩ : ∃ m, St base os₀ ((L + 1, celA (some (.ref l))) :: (L, nsA m) :: led) s₁ := ⟨_, H₁⟩
  clear H₁
  refine wpAny_execs_cons (wpAny_Return_some (comp_dict (base := base) (os₀ := os₀) (knd := intKind prog w) (cl := [(Str.ofString "lines", L + 1)]) (V := fun C => varL C (Str.ofString "k")) (mk := fun C => compEnvC _ [(Str.ofString "lines", L + 1)] C _) rfl (env_loc (by decide) rfl) (fun C => Var.loc rfl rfl) ?_ rfl (by decide)))
  refine wpAny_Call_ofName (nm_b H₂ G.gw.gr.g G.gw.gr.b G.n6 G.b6 (callWith_excType rfl (evalArgs_plain (spliced_cons (wpAny_Call_ofName (nm_b H₂ G.gw.gr.g G.gw.gr.b G.gw.n3 G.gw.b3 (callWith_builtin rfl (evalArgs_plain (spliced_cons (nm_c H₂ rfl (.head _) (spliced_nil (len_l H₂ (.tail _ (.tail _ hm)) (by omega) fun t1 s₂ H₃ => spliced_nil (r_new H₃ fun r s₃ H₄ => ?_)))))))))))))
  obtain ⟨v1, v2, H₄⟩ := H₄
  refine r_iter (by omega) H₄ fun I s₄ H₅ => ?_
  refine ⟨I, vs.length, _, rngA vs.length, [], _, fun i kvs led' => kvs = tabKV vs i ∧ led' = (L + 1, celA (some (.ref l))) :: (L, nsA m) :: led, rfl, Iter.range hh, Nat.le_trans hlen (by decide), H₅, ⟨rfl, rfl⟩, ?_, ?_⟩
  · rintro C D i v kvs vl led' s₅ E' hi ⟨ti, rfl⟩ ⟨rfl, rfl⟩ ⟨mC, rfl, hmC⟩ H₆
    have hk := hmC _ rfl
    have b1 : 0 ≤ ((i : Nat) : Int) ∧ ((i : Nat) : Int) < 100 := by omega
    refine wpAny_BinOp (wpAny_BinOp (wpAny_BinOp (c_int H₆ fun t2 s₆ H₇ => nm_l H₇ (.head _) hk (i_mul H₇ (by decide) (by omega) fun t3 s₇ H₈ => nm_l H₈ (.head _) hk (i_mul H₈ (by omega) (by omega) fun t4 s₈ H₉ => wpAny_BinOp (c_int H₉ fun t5 s₉ H₁₀ => nm_l H₁₀ (.head _) hk (i_mul H₁₀ (by decide) (by omega) fun t6 s₁₀ H₁₁ => i_add H₁₁ fun t7 s₁₁ H₁₂ => ?_)))))))
    have hx : vs[((i : Nat) : Int).toNat]? = some (vs.getD i .none) := by
      rw [Int.toNat_natCast, List.getD_eq_getElem?_getD, List.getElem?_eq_getElem hi]; rfl
    refine Subscript_ (nm_c H₁₂ rfl (by k_mem) (nm_l H₁₂ (.head _) hk (item_l H₁₂ (a := l) (vs := vs) (.tail _ (.tail _ (.tail _ (.tail _ (.tail _ hm))))) (by omega) (by omega) hx ?_)))
    exact ⟨keyOf i, _, intKind_is prog w _ _, ⟨tabKV_succ vs i, rfl⟩, H₁₂⟩
  · rintro D kvs led' ⟨rfl, rfl⟩ s₅ H₆
    exact h D s₅ (H₆.sub (.cons_cons _ (.cons _ (.cons _ (.refl _)))))
end
end Mine

namespace Mine
open PySem PySem.W PyProof.Rows PySem.Calls PySem.Spec
/-- values that are lines -/
def LVs (vs : List Value) (ls : List Ln) : Prop := vs.length = ls.length ∧ ∀ (i : Nat) (l : Ln), ls[i]? = some l → ∃ v, vs[i]? = some v ∧ LnV l v
/-- the numbers that count -/
def nz1 : Ln → List Int | .int n => if n = 0 then [] else [n] | _ => []
def nz (ls : List Ln) : List Int := ls.flatMap nz1
theorem nz_succ (ls : List Ln) {i : Nat} {l : Ln} (h : ls[i]? = some l) : nz (ls.take (i + 1)) = nz (ls.take i) ++ nz1 l := by
  unfold nz
  rw [List.take_add_one, h, List.flatMap_append]
  simp
def grt (ns : List Int) : List Int := ns.filter fun n => decide ((ns.filter fun k => decide (n < k)) = [])
def plainW (ls : List Ln) : Int := match grt (nz ls) with
  | [] => 0
  | g :: _ => if g = -1 then 0 else
    let w : Int := if (dlen g : Int) > 3 then dlen g else 3
    if w = 3 ∧ ls.any Ln.isNone = true then 4 else w
abbrev widthEnv (fname fqual : Str) (fkwd fdoc fmod : Value) (fann : Option Addr) (fcode fct : Value) (L fF : Addr) : Env :=
  callEnvC { name := fname, qualname := fqual, params := fnPar widthStmt, body := .stmts (fnBody widthStmt), scope := fnScope widthStmt, globals := mainGlobals, closure := [], defaults := .none, kwdefaults := fkwd, doc := fdoc, pyModule := fmod, annotations := fann, code := fcode, closureTuple := fct, builtins := builtinsNs } L fF
section
variable {prog : Program} {w : World} {A : Around} {E : Value → Shared → Prop} {s : Shared} {base : Heap} {os₀ : OsState} {led : Led} {mg mb : Str → Option Value} {fW fL fD fT l tl gl L : Addr} {wd ld dd td : FuncData} {vs vt vg : List Value} {ls : List Ln} {nt ng : List Int} {m : Str → Option Value}
  {fname fqual : Str} {fkwd fdoc fmod : Value} {fann : Option Addr} {fcode fct : Value} {Q : Flow → Shared → Prop}

/-- there = [line for line in lines if ..] -/
theorem width_there (hh : A.handled = none) (hV : LVs vs ls) (hN : ∀ x ∈ ls, NI x) (hlen : vs.length ≤ 100) (hl : m (Str.ofString "lines") = some (.ref l))
    (H : St base os₀ ((l, lstA vs) :: (L + 1, celA none) :: (L, nsA m) :: led) s)
    (h : ∀ tl vt s', IntsAre vt (nz ls) → St base os₀ ((tl, lstA vt) :: (l, lstA vs) :: (L + 1, celA (some (.ref tl))) :: (L, nsA m) :: led) s' → wpAny (model prog w) A (execs ((fnBody widthStmt).drop 1) (widthEnv fname fqual fkwd fdoc fmod fann fcode fct L fD)) Q E s') :
    wpAny (model prog w) A (execs (fnBody widthStmt) (widthEnv fname fqual fkwd fdoc fmod fann fcode fct L fD)) Q E s := by
  refine wpAny_execs_cons (wpAny_Assign_Name (comp_expr (base := base) (os₀ := os₀) (cl := []) (V := fun C => varL C (Str.ofString "line")) (mk := fun C => compEnvC _ [] C _) rfl (env_loc (by decide) rfl) (fun C => Var.loc rfl rfl) ?_ rfl (by decide)))
  refine nm_l H (.tail _ (.tail _ (.head _))) hl (wpAny_pyIter_list (H.isList (.head _)) ?_)
  refine ⟨_, vs.length, _, itA l, [(l, lstA vs)], (L + 1, celA none) :: (L, nsA m) :: led, fun i ys led' => IntsAre ys (nz (ls.take i)) ∧ led' = (L + 1, celA none) :: (L, nsA m) :: led, rfl, Iter.list hh, Nat.le_trans hlen (by decide), H.push (tk := s.toks) rfl ⟨rfl, rfl⟩, ⟨.nil, rfl⟩, ?_, ?_⟩
  · rintro C D i v ys vl led' s₁ E' hi hv ⟨hys, rfl⟩ ⟨mC, rfl, hmC⟩ H₁
    have hk := hmC _ rfl
    have hil : i < ls.length := by rw [← hV.1]; exact hi
    obtain ⟨v', hv', hln⟩ := hV.2 i ls[i] (List.getElem?_eq_getElem hil)
    rw [hv] at hv'
    cases hv'
    have hsucc := nz_succ ls (List.getElem?_eq_getElem hil)
    refine wpAny_tests_one (wpAny_isTrue_BoolOp (wpAny_allTrue_And_cons (wpAny_isTrue_Compare1 (nm_l H₁ (.head _) hk (wpAny_Constant_none (isNot_none (wpAny_truthy_bool ?_)))))))
    rcases hN ls[i] (List.getElem_mem hil) with e | ⟨n, e⟩
    · rw [e] at hln hsucc
      cases hln
      refine ite_neg (by simp) (ite_neg (by decide) ⟨_, ⟨?_, rfl⟩, H₁⟩)
      rw [hsucc]; simpa [nz1] using hys
    · rw [e] at hln hsucc
      obtain ⟨t, rfl⟩ := hln
      refine ite_pos (by simp) ?_
      refine wpAny_allTrue_And_cons (wpAny_isTrue_Compare1 (nm_l H₁ (.head _) hk (c_int H₁ fun t1 s₂ H₂ => PyProof.Rows.ne_int (wpAny_truthy_bool ?_))))
      by_cases hz : n = 0
      · refine ite_neg (by simpa using hz) (ite_neg (by decide) ⟨_, ⟨?_, rfl⟩, H₂⟩)
        rw [hsucc]; simpa [nz1, hz] using hys
      · refine ite_pos (by simpa using hz) (wpAny_allTrue_And_nil (ite_pos rfl (nm_l H₂ (.head _) hk ⟨_, ⟨?_, rfl⟩, H₂⟩)))
        rw [hsucc]; simp only [nz1, if_neg hz]; exact ints_snoc hys n t
  · rintro D ys led' ⟨hys, rfl⟩ hl' s₁ H₁
    refine st_c H₁ rfl (.tail (.tail .head)) fun s₂ H₂ => h D ys s₂ ?_ H₂
    rw [hV.1, List.take_length] at hys
    exact hys
end
end Mine

namespace Mine
open PySem PySem.W PyProof.Rows PySem.Calls PySem.Spec
theorem filt_succ (p : Int → Bool) (ns : List Int) {i : Nat} (h : i < ns.length) : (ns.take (i + 1)).filter p = (ns.take i).filter p ++ (if p ns[i] = true then [ns[i]] else []) := by
  rw [List.take_add_one, List.getElem?_eq_getElem h, List.filter_append]
  congr 1
  cases hp : p ns[i] <;> simp [hp]
section
variable {prog : Program} {w : World} {A : Around} {E : Value → Shared → Prop} {s : Shared} {base : Heap} {os₀ : OsState} {led : Led} {mg mb : Str → Option Value} {fW fL fD fT l tl gl L : Addr} {wd ld dd td : FuncData} {vs vt vg : List Value} {ls : List Ln} {nt ng : List Int} {m : Str → Option Value}
  {fname fqual : Str} {fkwd fdoc fmod : Value} {fann : Option Addr} {fcode fct : Value} {Q : Flow → Shared → Prop}
theorem width_grt (hh : A.handled = none) (hu : A.units + 64 < cLine) (hnt : IntsAre vt nt) (hlen : vt.length ≤ 100)
    (H : St base os₀ ((tl, lstA vt) :: (l, lstA vs) :: (L + 1, celA (some (.ref tl))) :: (L, nsA m) :: led) s)
    (h : ∀ gl vg m' s', IntsAre vg (grt nt) → m' (Str.ofString "greatest") = some (.ref gl) → (∀ y, y ≠ Str.ofString "greatest" → m' y = m y) → St base os₀ ((L, nsA m') :: (gl, lstA vg) :: (l, lstA vs) :: led) s' →
      wpAny (model prog w) A (execs ((fnBody widthStmt).drop 2) (widthEnv fname fqual fkwd fdoc fmod fann fcode fct L fD)) Q E s') :
    wpAny (model prog w) A (execs ((fnBody widthStmt).drop 1) (widthEnv fname fqual fkwd fdoc fmod fann fcode fct L fD)) Q E s := by
  have hn : vt.length = nt.length := (allInt_of hnt).2
  refine wpAny_execs_cons (comp_asg (base := base) (os₀ := os₀) (cl := [(Str.ofString "there", L + 1)]) (V := fun C => varC C (C + 1)) (mk := fun C => { compEnvC _ [(Str.ofString "there", L + 1)] C _ with cells := (Str.ofString "line", C + 1) :: [(Str.ofString "there", L + 1)] }) rfl (env_cel rfl) (fun C => Var.cel rfl rfl rfl) rfl ?_ rfl (by decide))
  refine nm_c H rfl (.tail _ (.tail _ (.head _))) (wpAny_pyIter_list (H.isList (.head _)) ?_)
  refine ⟨_, vt.length, _, itA tl, [(tl, lstA vt)], (l, lstA vs) :: (L + 1, celA (some (.ref tl))) :: (L, nsA m) :: led, fun i ys led' => IntsAre ys ((nt.take i).filter fun n => decide ((nt.filter fun k => decide (n < k)) = [])) ∧ led' = (l, lstA vs) :: (L + 1, celA (some (.ref tl))) :: (L, nsA m) :: led, rfl, Iter.list hh, Nat.le_trans hlen (by decide), H.push (tk := s.toks) rfl ⟨rfl, rfl⟩, ⟨.nil, rfl⟩, ?_, ?_⟩
  · rintro C D i v ys vl led' s₁ E' hi hv ⟨hys, rfl⟩ ⟨mC, rfl⟩ H₁
    have hin : i < nt.length := by omega
    obtain ⟨t, ht⟩ := ints_get hnt (List.getElem?_eq_getElem hin)
    rw [hv] at ht
    cases ht
    have hsucc := filt_succ (fun n => decide ((nt.filter fun k => decide (n < k)) = [])) nt hin
    generalize s.heap.objs.size = I at H₁ ⊢
    refine wpAny_tests_one (wpAny_isTrue_Compare1 (comp_expr (base := base) (os₀ := os₀) (cl := [(Str.ofString "line", C + 1)]) (V := fun C' => varL C' (Str.ofString "other")) (mk := fun C' => compEnvC _ [(Str.ofString "line", C + 1)] C' _) rfl (env_loc (by decide) rfl) (fun C' => Var.loc rfl rfl) ?_ rfl (by decide)))
    refine nm_c H₁ rfl (by k_mem) (wpAny_pyIter_list (H₁.isList (a := tl) (vs := vt) (by k_mem)) ?_)
    have H₂ := H₁.push (tk := s₁.toks) (P := itA tl 0) (o := { cls := .type "list_iterator", data := .fields #[.ref tl, .int 0 0] }) rfl ⟨rfl, rfl⟩
    generalize s₁.heap.objs.size = I' at H₂ ⊢
    refine ⟨I', vt.length, _, itA tl, [(tl, lstA vt)], (C, nsA mC) :: (C + 1, celA (some (.int nt[i] t))) :: (D, lstA ys) :: (I, itA tl (i + 1)) :: (l, lstA vs) :: (L + 1, celA (some (.ref tl))) :: (L, nsA m) :: led,
      fun j zs led'' => IntsAre zs ((nt.take j).filter fun k => decide (nt[i] < k)) ∧ led'' = (C, nsA mC) :: (C + 1, celA (some (.int nt[i] t))) :: (D, lstA ys) :: (I, itA tl (i + 1)) :: (l, lstA vs) :: (L + 1, celA (some (.ref tl))) :: (L, nsA m) :: led, rfl, Iter.list hh, Nat.le_trans hlen (by decide), H₂.perm ?_, ⟨.nil, rfl⟩, ?_, ?_⟩
    · repeat (first | exact List.Perm.refl _ | refine Pick.perm (by (repeat (first | exact Pick.head | apply Pick.tail))) ?_)
    · rintro C' D' j v' zs vl led'' s₂ E'' hj hv' ⟨hzs, rfl⟩ ⟨mC', rfl, hmC'⟩ H₃
      have hk := hmC' _ rfl
      have hjn : j < nt.length := by omega
      obtain ⟨t', ht'⟩ := ints_get hnt (List.getElem?_eq_getElem hjn)
      rw [hv'] at ht'
      cases ht'
      have hs2 := filt_succ (fun k => decide (nt[i] < k)) nt hjn
      refine wpAny_tests_one (wpAny_isTrue_Compare1 (nm_l H₃ (.head _) hk (nm_c H₃ rfl (by k_mem) (PyProof.Rows.gt_int (wpAny_truthy_bool ?_)))))
      by_cases hg : nt[i] < nt[j]
      · refine ite_pos (decide_eq_true hg) (nm_l H₃ (.head _) hk ⟨_, ⟨?_, rfl⟩, H₃⟩)
        rw [hs2, if_pos (decide_eq_true hg)]; exact ints_snoc hzs _ _
      · refine ite_neg (fun q => hg (of_decide_eq_true q)) ⟨_, ⟨?_, rfl⟩, H₃⟩
        rw [hs2, if_neg (fun q => hg (of_decide_eq_true q)), List.append_nil]; exact hzs
    · rintro D' zs led'' ⟨hzs, rfl⟩ hl' s₂ H₃
      rw [hn, List.take_length] at hzs
      refine List_ (wpAny_items_nil (new_list H₃ fun e s₃ H₄ => ?_))
      refine eq_intsK (H₄.isList (a := D') (vs := zs) (.tail _ (.head _))) hzs (H₄.isList (a := e) (vs := []) (.head _)) .nil hu (wpAny_truthy_bool ?_)
      have H₅ : St base os₀ ([(C, nsA mC), (C + 1, celA (some (.int nt[i] t)))] ++ ((D, lstA ys) :: (I, itA tl (i + 1)) :: ([(tl, lstA vt)] ++ ((l, lstA vs) :: (L + 1, celA (some (.ref tl))) :: (L, nsA m) :: led)))) s₃ := by
        have Ha := H₄.sub (led' := (tl, lstA vt) :: (C, nsA mC) :: (C + 1, celA (some (.int nt[i] t))) :: (D, lstA ys) :: (I, itA tl (i + 1)) :: (l, lstA vs) :: (L + 1, celA (some (.ref tl))) :: (L, nsA m) :: led) (.cons _ (.cons _ (.refl _)))
        exact Ha.perm (by repeat (first | exact List.Perm.refl _ | refine Pick.perm (by (repeat (first | exact Pick.head | apply Pick.tail))) ?_))
      by_cases hg : (nt.filter fun k => decide (nt[i] < k)) = []
      · refine ite_pos (decide_eq_true hg) (nm_c H₅ rfl (by k_mem) ⟨_, ⟨?_, rfl⟩, H₅⟩)
        rw [hsucc, if_pos (decide_eq_true hg)]; exact ints_snoc hys _ _
      · refine ite_neg (fun q => hg (of_decide_eq_true q)) ⟨_, ⟨?_, rfl⟩, H₅⟩
        rw [hsucc, if_neg (fun q => hg (of_decide_eq_true q)), List.append_nil]; exact hys
  · rintro D ys led' ⟨hys, rfl⟩ hl' vl s₁ ⟨C, mC, vr, rfl⟩ H₁
    rw [hn, List.take_length] at hys
    have hup : ∀ (vl : Led) (m' : Str → Option Value), Up L (nsA m) (nsA m') (vl ++ ((D, lstA ys) :: (tl, lstA vt) :: (l, lstA vs) :: (L + 1, celA (some (.ref tl))) :: (L, nsA m) :: led)) (vl ++ ((D, lstA ys) :: (tl, lstA vt) :: (l, lstA vs) :: (L + 1, celA (some (.ref tl))) :: (L, nsA m') :: led)) := fun vl m' => by
      induction vl with
      | nil => exact .tail (.tail (.tail (.tail .head)))
      | cons q r ih => exact .tail ih
    refine st_g H₁ (hup _) fun m' s₂ e₁ k₁ H₂ => ⟨_, H₂, fun s₃ H₃ => h D ys m' s₃ hys e₁ k₁ ?_⟩
    have Ha := H₃.perm (led' := (tl, lstA vt) :: (L + 1, celA (some (.ref tl))) :: (L, nsA m') :: (D, lstA ys) :: (l, lstA vs) :: led) (by
      repeat (first | exact List.Perm.refl _ | refine Pick.perm (by (repeat (first | exact Pick.head | apply Pick.tail))) ?_))
    exact Ha.sub (.cons _ (.cons _ (.refl _)))
end
end Mine

namespace Mine
open PySem PySem.W PyProof.Rows PySem.Calls PySem.Spec
/-- the loop's test is: the number fits -/
theorem fits_iff {g : Int} {k : Nat} (hk : 3 ≤ k) : (-(10 ^ (k - 1) : Int) < g ∧ g < 10 ^ k) ↔ dlen g ≤ k := by
  have hp : (0 : Int) < 10 ^ (k - 1) := Int.pow_pos (by decide)
  have hp2 : (0 : Int) < 10 ^ k := Int.pow_pos (by decide)
  by_cases hg : 0 ≤ g
  · rw [dlen_le_pos hg (by omega)]
    constructor
    · exact fun h => h.2
    · exact fun h => ⟨by omega, h⟩
  · have := dlen_le_neg (n := g) (by omega) (k := k - 1) (by omega)
    rw [show k - 1 + 1 = k by omega] at this
    rw [this]
    constructor
    · exact fun h => h.1
    · exact fun h => ⟨h, by omega⟩
def whileB : Stmt → List Stmt | .While _ b _ _ => b | _ => []
def e1 (v : Value) : Bool := match v with | .none => true | _ => false
theorem any_none {vs : List Value} {ls : List Ln} (hV : LVs vs ls) : vs.toArray.any e1 = ls.any Ln.isNone := by
  have key : ∀ (vs : List Value) (ls : List Ln), vs.length = ls.length → (∀ (i : Nat) (l : Ln), ls[i]? = some l → ∃ v, vs[i]? = some v ∧ LnV l v) → vs.any e1 = ls.any Ln.isNone := fun vs => by
    induction vs with
    | nil => intro ls hl _; cases ls with | nil => rfl | cons _ _ => simp at hl
    | cons v r ih =>
      intro ls hl hv
      cases ls with
      | nil => simp at hl
      | cons l lr =>
        obtain ⟨v', e, hln⟩ := hv 0 l rfl
        cases e
        rw [List.any_cons, List.any_cons, ih lr (by simpa using hl) fun i l' h' => by simpa using hv (i + 1) l' (by simpa using h')]
        congr 1
        cases l with
        | none => cases hln; rfl
        | bool b => cases hln; rfl
        | str x => obtain ⟨t, rfl⟩ := hln; rfl
        | int n => obtain ⟨t, rfl⟩ := hln; rfl
  rw [List.any_toArray]
  exact key vs ls hV.1 hV.2
section
variable {prog : Program} {w : World} {A : Around} {E : Value → Shared → Prop} {s : Shared} {base : Heap} {os₀ : OsState} {led : Led} {mg mb : Str → Option Value} {fW fL fD fT l tl gl L : Addr} {wd ld dd td : FuncData} {vs vt vg : List Value} {ls : List Ln} {nt ng : List Int} {m : Str → Option Value}
  {fname fqual : Str} {fkwd fdoc fmod : Value} {fann : Option Addr} {fcode fct : Value} {Q : Flow → Shared → Prop}
theorem in_none {Q : Value → Shared → Prop} (hV : LVs vs ls) (H : St base os₀ led s) (hm : (l, lstA vs) ∈ led) (h : ∀ s', St base os₀ led s' → Q (.bool (ls.any Ln.isNone)) s') : wpAny (model prog w) A (compareOp .In .none (.ref l)) Q E s := by
  refine SeqAt.in_listAt e1 (H.isList hm) (fun y hy => ?_) ?_
  · obtain ⟨i, hi⟩ := List.mem_iff_getElem?.mp (by simpa using hy)
    have hil : i < ls.length := by
      rw [← hV.1]
      rcases Nat.lt_or_ge i vs.length with q | q
      · exact q
      · rw [List.getElem?_eq_none q] at hi; cases hi
    obtain ⟨v, hv, hln⟩ := hV.2 i ls[i] (List.getElem?_eq_getElem hil)
    rw [hi] at hv
    cases hv
    have e := eq_none (A := A.in1) (s := s) hln
    have : e1 y = ls[i].isNone := by
      generalize ls[i] = l' at hln
      cases l' with
      | none => cases hln; rfl
      | bool b => cases hln; rfl
      | str x => obtain ⟨t, rfl⟩ := hln; rfl
      | int n => obtain ⟨t, rfl⟩ := hln; rfl
    rw [this]; exact e
  · rw [any_none hV]; exact h _ H
theorem width_end (hu : A.units + 64 < cLine) (hg : IntsAre vg ng) (hV : LVs vs ls) (hdl : ∀ g ∈ ng, dlen g ≤ 150) (hlen : vg.length ≤ 100) (hgl : m (Str.ofString "greatest") = some (.ref gl)) (hl : m (Str.ofString "lines") = some (.ref l))
    (H : St base os₀ ((L, nsA m) :: (gl, lstA vg) :: (l, lstA vs) :: led) s)
    (h : ∀ t s', St base os₀ ((l, lstA vs) :: led) s' → Q (.ret (.int (match ng with
      | [] => 0
      | g :: _ => if g = -1 then 0 else
        let w : Int := if (dlen g : Int) > 3 then dlen g else 3
        if w = 3 ∧ ls.any Ln.isNone = true then 4 else w) t)) s') :
    wpAny (model prog w) A (execs ((fnBody widthStmt).drop 2) (widthEnv fname fqual fkwd fdoc fmod fann fcode fct L fD)) Q E s := by
  refine wpAny_execs_cons (wpAny_If (wpAny_isTrue_BoolOp (wpAny_allTrue_Or_cons (wpAny_isTrue_Compare1 (nm_l H (.head _) hgl (List_ (wpAny_items_nil (new_list H fun e s₁ H₁ => eq_intsK (H₁.isList (a := gl) (vs := vg) (by k_mem)) hg (H₁.isList (a := e) (vs := []) (.head _)) .nil hu (wpAny_truthy_bool ?_)))))))))
  have H₂ : St base os₀ ((L, nsA m) :: (gl, lstA vg) :: (l, lstA vs) :: led) s₁ := H₁.sub (.cons _ (.refl _))
  cases hg with
  | nil =>
    refine ite_pos (by decide) (ite_pos rfl (wpAny_execs_cons (wpAny_Return_some (c_int H₂ fun t s₂ H₃ => h t s₂ (H₃.sub (.cons _ (.cons _ (.refl _))))))))
  | @cons g tg vr nr hr =>
    refine ite_neg (by simp) ?_
    refine wpAny_allTrue_Or_cons (wpAny_isTrue_Compare1 (Subscript_ (nm_l H₂ (.head _) hgl (c_int H₂ fun t1 s₂ H₃ => item_l (vs := .int g tg :: vr) H₃ (.tail _ (.head _)) (by decide) (by decide) rfl (c_neg H₃ fun t2 s₃ H₄ => PyProof.Rows.eq_int (wpAny_truthy_bool ?_))))))
    by_cases hm1 : g = -1
    · refine ite_pos (by simpa using hm1) (ite_pos rfl (wpAny_execs_cons (wpAny_Return_some (c_int H₄ fun t s₄ H₅ => ?_))))
      have := h t s₄ (H₅.sub (.cons _ (.cons _ (.refl _))))
      simp only [if_pos hm1] at this
      exact this
    refine ite_neg (by simpa using hm1) (wpAny_allTrue_Or_nil (ite_neg (by decide) (wpAny_execs_nil ?_)))
    simp only [if_neg hm1] at h
    refine wpAny_execs_cons (wpAny_Assign_Name (c_int H₄ fun t3 s₄ H₅ => st_g H₅ (fun _ => up_head) fun m₁ s₅ e₁ k₁ H₆ => ?_))
    have hd1 : dlen g ≤ 150 := hdl g (.head _)
    refine wpAny_execs_cons (while_led (base := base) (os₀ := os₀) (n := max 3 (dlen g) - 3) (fun k ld => ∃ m₂ wd t, m₂ (Str.ofString "greatest") = some (.ref gl) ∧ m₂ (Str.ofString "lines") = some (.ref l) ∧ m₂ (Str.ofString "width") = some (.int (wd : Nat) t) ∧ 3 ≤ wd ∧ wd ≤ max 3 (dlen g) ∧ k = max 3 (dlen g) - wd ∧
        ld = (L, nsA m₂) :: (gl, lstA (.int g tg :: vr)) :: (l, lstA vs) :: led) H₆ ⟨m₁, 3, t3, (k₁ _ (by decide)).trans hgl, (k₁ _ (by decide)).trans hl, e₁, Nat.le_refl _, by omega, rfl, rfl⟩ ?_)
    rintro k ld s₆ E' ⟨m₂, wd, t, hgl₂, hl₂, hw₂, h3, hmx, rfl, rfl⟩ H₇
    refine wpAny_isTrue_Not (isTrue_chain (wpAny_UnaryOp (wpAny_BinOp (c_int H₇ fun t4 s₇ H₈ => wpAny_BinOp (nm_l H₈ (.head _) hw₂ (c_int H₈ fun t5 s₈ H₉ => i_sub H₉ fun t6 s₉ H₁₀ => i_pow H₁₀ (by decide) (by decide) (by omega) (by omega) fun t7 s₁₀ H₁₁ => i_neg H₁₁ fun t8 s₁₁ H₁₂ => ?_))))))
    have et : (((wd : Nat) : Int) - 1).toNat = wd - 1 := by omega
    rw [et]
    refine test_link (Subscript_ (nm_l H₁₂ (.head _) hgl₂ (c_int H₁₂ fun t9 s₁₂ H₁₃ => item_l (vs := .int g tg :: vr) H₁₃ (.tail _ (.head _)) (by decide) (by decide) rfl (PyProof.Rows.lt_int (wpAny_truthy_bool ?_)))))
    have hfit := fits_iff (g := g) (k := wd) h3
    have more : ∀ s', ¬ dlen g ≤ wd → St base os₀ ((L, nsA m₂) :: (gl, lstA (.int g tg :: vr)) :: (l, lstA vs) :: led) s' →
        wpAny (model prog w) A (execs (whileB (nth 4 (fnBody widthStmt))) (widthEnv fname fqual fkwd fdoc fmod fann fcode fct L fD)) (fun f s₃ => match f with
          | .next | .cont => ∃ m' led', m' < max 3 (dlen g) - wd ∧ (∃ m₂ wd t, m₂ (Str.ofString "greatest") = some (.ref gl) ∧ m₂ (Str.ofString "lines") = some (.ref l) ∧ m₂ (Str.ofString "width") = some (.int (wd : Nat) t) ∧ 3 ≤ wd ∧ wd ≤ max 3 (dlen g) ∧ m' = max 3 (dlen g) - wd ∧
        led' = (L, nsA m₂) :: (gl, lstA (.int g tg :: vr)) :: (l, lstA vs) :: led) ∧ St base os₀ led' s₃
          | .brk => wpAny (model prog w) A (execs ((fnBody widthStmt).drop 5) (widthEnv fname fqual fkwd fdoc fmod fann fcode fct L fD)) Q E s₃
          | .ret v => Q (.ret v) s₃) E' s' := fun s' hn H' => by
      refine wpAny_execs_cons (wpAny_AugAssign_Name (ld_l H' (.head _) hw₂ (c_int H' fun t10 s₁₃ H₁₄ => PyProof.Rows.iadd_int ?_)))
      have H₁₅ : St base os₀ _ { s₁₃ with toks := s₁₃.toks + 1 } := H₁₄.tok
      refine st_g H₁₅ (fun _ => up_head) fun m₃ s₁₄ e₃ k₃ H₁₆ => wpAny_execs_nil ?_
      exact ⟨max 3 (dlen g) - (wd + 1), _, by omega, ⟨m₃, wd + 1, _, (k₃ _ (by decide)).trans hgl₂, (k₃ _ (by decide)).trans hl₂, by rw [e₃]; rfl, by omega, by omega, rfl, rfl⟩, H₁₆⟩
    have done : ∀ s', dlen g ≤ wd → St base os₀ ((L, nsA m₂) :: (gl, lstA (.int g tg :: vr)) :: (l, lstA vs) :: led) s' →
        wpAny (model prog w) A (execs ((fnBody widthStmt).drop 5) (widthEnv fname fqual fkwd fdoc fmod fann fcode fct L fD)) Q E s' := fun s' hn H' => by
      have hwd : wd = max 3 (dlen g) := by omega
      have ew : ((wd : Nat) : Int) = if ((dlen g : Nat) : Int) > 3 then ((dlen g : Nat) : Int) else 3 := by split <;> omega
      refine wpAny_execs_cons (wpAny_Return_some (IfExp_ (wpAny_isTrue_BoolOp (wpAny_allTrue_And_cons (wpAny_isTrue_Compare1 (nm_l H' (.head _) hw₂ (c_int H' fun t10 s₁₃ H₁₄ => PyProof.Rows.eq_int (wpAny_truthy_bool ?_))))))))
      by_cases hw3 : ((wd : Nat) : Int) = 3
      · refine ite_pos (by simpa using hw3) (wpAny_allTrue_And_cons (wpAny_isTrue_Compare1 (wpAny_Constant_none (nm_l H₁₄ (.head _) hl₂ (in_none hV H₁₄ (.tail _ (.tail _ (.head _))) fun s₁₄ H₁₅ => wpAny_truthy_bool ?_)))))
        cases hn' : ls.any Ln.isNone with
        | true =>
          refine ite_pos rfl (wpAny_allTrue_And_nil (ite_pos rfl (c_int H₁₅ fun t11 s₁₅ H₁₆ => ?_)))
          have := h t11 s₁₅ (H₁₆.sub (.cons _ (.cons _ (.refl _))))
          rw [if_pos ⟨ew ▸ hw3, hn'⟩] at this
          exact this
        | false =>
          refine ite_neg (by decide) (ite_neg (by decide) (nm_l H₁₅ (.head _) hw₂ ?_))
          have := h t s₁₄ (H₁₅.sub (.cons _ (.cons _ (.refl _))))
          rw [if_neg (fun q => by rw [hn'] at q; exact absurd q.2 (by decide)), ← ew] at this
          exact this
      · refine ite_neg (by simpa using hw3) (ite_neg (by decide) (nm_l H₁₄ (.head _) hw₂ ?_))
        have := h t s₁₃ (H₁₄.sub (.cons _ (.cons _ (.refl _))))
        rw [if_neg (fun q => hw3 (ew.trans q.1)), ← ew] at this
        exact this
    by_cases c1 : -(10 ^ (wd - 1) : Int) < g
    · refine ite_pos (decide_eq_true c1) (test_last (wpAny_BinOp (c_int H₁₃ fun t10 s₁₃ H₁₄ => nm_l H₁₄ (.head _) hw₂ (i_pow H₁₄ (by decide) (by decide) (by omega) (by omega) fun t11 s₁₄ H₁₅ => PyProof.Rows.lt_int (wpAny_truthy_bool ?_)))))
      rw [Int.toNat_natCast]
      by_cases c2 : g < 10 ^ wd
      · rw [decide_eq_true c2]
        exact done s₁₄ (hfit.mp ⟨c1, c2⟩) H₁₅
      · rw [decide_eq_false c2]
        exact more s₁₄ (fun q => c2 (hfit.mpr q).2) H₁₅
    · refine ite_neg (fun q => c1 (of_decide_eq_true q)) ?_
      exact more s₁₂ (fun q => c1 (hfit.mpr q).1) H₁₃
end
end Mine

namespace Mine
open PySem PySem.W PyProof.Rows PySem.Calls PySem.Spec
/-! the plain law -/
def mx : Option Int → List Int → Option Int
  | b, [] => b
  | none, n :: r => mx (some n) r
  | some m, n :: r => if n > m then mx (some n) r else mx (some m) r
theorem maxL_mx : ∀ (ls : List Ln) (b : Option Int), (∀ l ∈ ls, NI l) → maxL (b.map .int) ls = some ((mx b (nz ls)).map .int)
  | [], b, _ => by cases b <;> rfl
  | l :: r, b, h => by
    have hr : ∀ x ∈ r, NI x := fun x hx => h x (.tail _ hx)
    have enz : nz (l :: r) = nz1 l ++ nz r := by simp [nz]
    rw [enz]
    rcases h l (.head _) with rfl | ⟨n, rfl⟩
    · simp only [maxL, Ln.yes, Bool.false_eq_true, if_false, nz1, List.nil_append]
      exact maxL_mx r b hr
    · by_cases hz : n = 0
      · subst hz
        have hy : (Ln.int 0).yes = false := by decide
        simp only [maxL, hy, nz1, if_true, List.nil_append, Bool.false_eq_true, if_false]
        exact maxL_mx r b hr
      · simp only [nz1, if_neg hz, List.cons_append, List.nil_append]
        have hy : (Ln.int n).yes = true := by simp [Ln.yes, hz]
        cases b with
        | none =>
          have := maxL_mx r (some n) hr
          simp only [Option.map_none, maxL, hy, if_true]
          exact this
        | some m =>
          simp only [Option.map_some, maxL, hy, if_true, Ln.gt, Ln.num]
          by_cases hg : n > m
          · rw [decide_eq_true hg]
            have := maxL_mx r (some n) hr
            simp only [mx, if_pos hg]; exact this
          · rw [decide_eq_false hg]
            have := maxL_mx r (some m) hr
            simp only [mx, if_neg hg]; exact this
theorem mx_spec : ∀ (ns : List Int) (b : Option Int), match mx b ns with
    | none => b = none ∧ ns = []
    | some g => g ∈ b.toList ++ ns ∧ ∀ k ∈ b.toList ++ ns, k ≤ g
  | [], none => ⟨rfl, rfl⟩
  | [], some m => by simp [mx]
  | n :: r, none => by
    have := mx_spec r (some n)
    simp only [mx]
    cases e : mx (some n) r with
    | none => rw [e] at this; exact absurd this.1 (by simp)
    | some g => rw [e] at this; simpa using this
  | n :: r, some m => by
    simp only [mx]
    by_cases hg : n > m
    · rw [if_pos hg]
      have := mx_spec r (some n)
      cases e : mx (some n) r with
      | none => rw [e] at this; exact absurd this.1 (by simp)
      | some g =>
        rw [e] at this
        simp only [Option.toList_some, List.cons_append, List.nil_append] at this ⊢
        refine ⟨.tail _ this.1, fun k hk => ?_⟩
        rcases List.mem_cons.mp hk with rfl | hk
        · have := this.2 n (.head _); omega
        · exact this.2 k hk
    · rw [if_neg hg]
      have := mx_spec r (some m)
      cases e : mx (some m) r with
      | none => rw [e] at this; exact absurd this.1 (by simp)
      | some g =>
        rw [e] at this
        simp only [Option.toList_some, List.cons_append, List.nil_append] at this ⊢
        refine ⟨?_, fun k hk => ?_⟩
        · rcases List.mem_cons.mp this.1 with rfl | q
          · exact .head _
          · exact .tail _ (.tail _ q)
        · rcases List.mem_cons.mp hk with rfl | hk
          · exact this.2 k (.head _)
          · rcases List.mem_cons.mp hk with rfl | hk
            · have := this.2 m (.head _); omega
            · exact this.2 k (.tail _ hk)
theorem grt_head {ns : List Int} {g : Int} (h : mx none ns = some g) : ∃ r, grt ns = g :: r := by
  have hs := mx_spec ns none
  rw [h] at hs
  simp only [Option.toList_none, List.nil_append] at hs
  have hin : g ∈ grt ns := by
    unfold grt
    rw [List.mem_filter]
    refine ⟨hs.1, decide_eq_true ?_⟩
    rw [List.filter_eq_nil_iff]
    intro k hk
    have := hs.2 k hk
    simp; omega
  cases e : grt ns with
  | nil => rw [e] at hin; cases hin
  | cons g' r =>
    refine ⟨r, ?_⟩
    have hg' : g' ∈ grt ns := by rw [e]; exact .head _
    unfold grt at hg'
    rw [List.mem_filter] at hg'
    have h1 := hs.2 g' hg'.1
    have h2 := of_decide_eq_true hg'.2
    rw [List.filter_eq_nil_iff] at h2
    have h3 := h2 g hs.1
    simp at h3
    have : g' = g := by omega
    rw [this]
theorem plain_some {ls : List Ln} (hN : ∀ l ∈ ls, NI l) {l : Ln} (h : maxL none ls = some (some l)) : plainW ls = wOf ls l := by
  have e := maxL_mx ls none hN
  rw [show ((none : Option Int).map Ln.int) = none from rfl, h] at e
  cases em : mx none (nz ls) with
  | none => rw [em] at e; cases e
  | some g =>
    rw [em] at e
    simp only [Option.map_some, Option.some.injEq] at e
    subst e
    obtain ⟨r, hr⟩ := grt_head em
    unfold plainW wOf
    rw [hr]
    by_cases hm : g = -1
    · subst hm; rfl
    · have : (Ln.int g).m1 = false := by simp [Ln.m1, hm]
      have key : ∀ ww : Int, 3 ≤ ww → (if ww = 3 ∧ ls.any Ln.isNone = true then (4 : Int) else ww) = (if ww < 4 ∧ ls.any Ln.isNone = true then 4 else ww) := fun ww hw3 => by
        by_cases hc : ww = 3
        · subst hc; simp
        · rw [if_neg (fun q => hc q.1), if_neg (fun q => hc (by omega))]
      simp only [if_neg hm, this, Bool.false_eq_true, if_false]
      exact key (if ((dlen g : Nat) : Int) > 3 then ((dlen g : Nat) : Int) else 3) (by split <;> omega)
theorem plain_none {ls : List Ln} (hN : ∀ l ∈ ls, NI l) (h : maxL none ls = some none) : plainW ls = 0 := by
  have e := maxL_mx ls none hN
  rw [show ((none : Option Int).map Ln.int) = none from rfl, h] at e
  cases em : mx none (nz ls) with
  | some g => rw [em] at e; cases e
  | none =>
    have := mx_spec (nz ls) none
    rw [em] at this
    unfold plainW
    rw [this.2]; rfl
theorem plain_never {ls : List Ln} (hN : ∀ l ∈ ls, NI l) (h : maxL none ls = none) : False := by
  have e := maxL_mx ls none hN
  rw [show ((none : Option Int).map Ln.int) = none from rfl, h] at e
  cases e
section
variable {prog : Program} {w : World} {A : Around} {E : Value → Shared → Prop} {s : Shared} {base : Heap} {os₀ : OsState} {led : Led} {mg mb : Str → Option Value} {fW fL fD fT l : Addr} {wd ld dd td : FuncData} {vs : List Value} {ls : List Ln} {Q : Value → Shared → Prop}
theorem cmp_NI (hN : ∀ l ∈ ls, NI l) : CmpOk prog w A base os₀ ls := fun l m v u led s Q E hl hm yl ym hv hu H h1 h2 => by
  rcases hN l hl with rfl | ⟨a, rfl⟩
  · cases yl
  rcases hN m hm with rfl | ⟨b, rfl⟩
  · cases ym
  obtain ⟨t, rfl⟩ := hv
  obtain ⟨t', rfl⟩ := hu
  have : wpAny (model prog w) A (compareOp .Gt (.int a t) (.int b t')) Q E s := PyProof.Rows.gt_int (h1 _ s rfl H)
  exact this
theorem nz_mem {ls : List Ln} {n : Int} (h : n ∈ nz ls) : Ln.int n ∈ ls := by
  unfold nz at h
  obtain ⟨l, hl, hn⟩ := List.mem_flatMap.mp h
  cases l with
  | int k =>
    simp only [nz1] at hn
    split at hn
    · cases hn
    · rw [List.mem_singleton] at hn; subst hn; exact hl
  | none => cases hn
  | bool b => cases hn
  | str x => cases hn
theorem nz_len (ls : List Ln) : (nz ls).length ≤ ls.length := by
  induction ls with
  | nil => exact Nat.le_refl _
  | cons l r ih =>
    have e : nz (l :: r) = nz1 l ++ nz r := by simp [nz]
    rw [e, List.length_append]
    have : (nz1 l).length ≤ 1 := by
      cases l <;> simp only [nz1, List.length_nil] <;> first | omega | (split <;> simp)
    simp; omega
/-- the contract of _law_width -/
theorem width_ok (G : G1 base mg mb fW fL fD fT wd ld dd td) (hroom : A.depth < recursionLimit) (hh : A.handled = none) (hu : A.units + 67 < cLine) (hV : LVs vs ls) (hN : ∀ x ∈ ls, NI x) (hf : ∀ x ∈ ls, x.fits) (hlen : vs.length ≤ 100) (H : St base os₀ ((l, lstA vs) :: led) s)
    (h : ∀ t s', St base os₀ ((l, lstA vs) :: led) s' → Q (.int (plainW ls) t) s') : wpAny (model prog w) A (call (.ref fD) [.ref l] []) Q E s := by
  obtain ⟨⟨o, ho, hdd⟩, hb, hp, hsc, hc, hgl, hbi, hdf, hcd⟩ := G.dd
  obtain ⟨fname, fqual, fpar, fbody, fscope, fglob, fclo, fdef, fkwd, fdoc, fmod, fann, fcode, fct, fbui⟩ := dd
  simp only at hb hp hsc hc hgl hbi hdf hcd
  subst hb hp hsc hc hgl hbi hdf
  refine fn_enterC (args := ⟨[.ref l], []⟩) H (by omega) G.gw.gr.lim (H.keep _ _ ho) hdd (hcd.keeps H.keep) rfl rfl (by intro n; show ([Str.ofString "there"] : List Str).Nodup; decide) ?_
  refine wpAny_of_eq (a := [(Str.ofString "lines", .ref l)]) rfl ?_
  refine ⟨_, H, kindsX rfl, fun L s₁ H₁ => ?_⟩
  obtain ⟨m, hm, H₂⟩ : ∃ m, m (Str.ofString "lines") = some (.ref l) ∧ St base os₀ ((l, lstA vs) :: (L + 1, celA none) :: (L, nsA m) :: led) s₁ := ⟨_, rfl, H₁.perm (by
    repeat (first | exact List.Perm.refl _ | refine Pick.perm (by (repeat (first | exact Pick.head | apply Pick.tail))) ?_))⟩
  clear H₁
  refine width_there (fD := fD) hh hV hN hlen hm H₂ fun tl vt s₂ hvt H₃ => ?_
  have hlt : vt.length ≤ 100 := by
    rw [(allInt_of hvt).2]; have := nz_len ls; have := hV.1; omega
  refine width_grt (fD := fD) hh (by show A.units + 3 + 64 < _; omega) hvt hlt H₃ fun gl vg m' s₃ hvg hgl hm' H₄ => ?_
  have hgl' : vg.length ≤ 100 := by
    rw [(allInt_of hvg).2]
    have h1 : (grt (nz ls)).length ≤ (nz ls).length := List.length_filter_le ..
    have := (allInt_of hvt).2
    omega
  refine width_end (fD := fD) (by show A.units + 3 + 64 < _; omega) hvg hV (fun g hg => ?_) hgl' hgl ((hm' _ (by decide)).trans hm) H₄ fun t s₄ H₅ => ?_
  · have := nz_mem (List.mem_filter.mp (show g ∈ (nz ls).filter _ from hg)).1
    have := dlen_fits (hf _ this)
    omega
  · have := h t s₄ H₅
    unfold plainW at this
    exact this
end
end Mine

namespace Mine
open PySem PySem.W PyProof.Rows PySem.Calls PySem.Spec
abbrev lawEnv1 (nm : Str) (L fa : Addr) (cd : Value) : Env := envOf nm (fnScope lawStmt1) L fa cd
def forB : Stmt → List Stmt | .For _ _ b _ _ => b | _ => []
def turn1 : List Stmt := forB (nth 1 (fnBody lawStmt1))
theorem LVs.take {vs : List Value} {ls : List Ln} (h : LVs vs ls) (k : Nat) : LVs (vs.take k) (ls.take k) := by
  refine ⟨by simp [h.1], fun i l e => ?_⟩
  have hik : i < k := by
    rcases Nat.lt_or_ge i k with q | q
    · exact q
    · rw [List.getElem?_eq_none (by rw [List.length_take]; omega)] at e; cases e
  rw [List.getElem?_take_of_lt hik] at e ⊢
  exact h.2 i l e
theorem LVs.snoc {vs : List Value} {ls : List Ln} (h : LVs vs ls) {v : Value} {l : Ln} (hv : LnV l v) : LVs (vs ++ [v]) (ls ++ [l]) := by
  refine ⟨by simp [h.1], fun i l' e => ?_⟩
  by_cases hi : i < ls.length
  · rw [List.getElem?_append_left hi] at e
    rw [List.getElem?_append_left (by rw [h.1]; exact hi)]
    exact h.2 i l' e
  · rw [List.getElem?_append_right (by omega)] at e
    rw [List.getElem?_append_right (by rw [h.1]; omega), h.1]
    have : i - ls.length = 0 := by
      rcases Nat.eq_zero_or_pos (i - ls.length) with q | q
      · exact q
      · rw [List.getElem?_eq_none (by simp; omega)] at e; cases e
    rw [this] at e ⊢
    simp at e; subst e
    exact ⟨v, rfl, hv⟩
theorem VL_tab {vs : List Value} {ls : List Ln} (h : LVs vs ls) : VL (tabKV vs vs.length) ls := by
  refine ⟨by simp [tabKV, h.1], fun i l e => ?_⟩
  obtain ⟨v, hv, hl⟩ := h.2 i l e
  have hi : i < vs.length := by
    rcases Nat.lt_or_ge i vs.length with q | q
    · exact q
    · rw [List.getElem?_eq_none q] at hv; cases hv
  refine ⟨keyOf i, v, ?_, hl⟩
  unfold tabKV
  rw [List.getElem?_map, List.getElem?_range hi]
  simp only [Option.map_some]
  rw [List.getD_eq_getElem?_getD, hv]; rfl
section
variable {prog : Program} {w : World} {A : Around} {E : Value → Shared → Prop} {s : Shared} {base : Heap} {os₀ : OsState} {led : Led} {mg mb : Str → Option Value} {fW fL fD fT l L fa a : Addr} {wd ld dd td : FuncData} {vs us : List Value} {ls : List Ln} {ns : List Int} {Q : Flow → Shared → Prop} {m : Str → Option Value} {nm : Str} {cd : Value} {fs : List Env}
/-- a slice of a list of the ledger, up to what a name tells -/
theorem l_uptoN {env : Env} {x y : Str} {b : Nat} {t : Tok} {p1 p2 p3 p4 : Pos} {Q : Value → Shared → Prop} (H : St base os₀ led s) (hm : (env.locals, nsA m) ∈ led) (hv : m x = some (.ref a)) (hy : m y = some (.int (b : Nat) t)) (hl : (a, lstA vs) ∈ led) (hsz : vs.length ≤ sizeLine)
    (h : ∀ r s', St base os₀ ((r, lstA (vs.take b)) :: led) s' → Q (.ref r) s')
    (hk : env.scope.kind = .function := by rfl) (hx : env.kindOf x = some .local := by rfl) (hx' : env.kindOf y = some .local := by rfl) (hd : (x == ("__debug__" : Str)) = false := by decide) (hd' : (y == ("__debug__" : Str)) = false := by decide) :
    wpAny (model prog w) A (eval (.Subscript (.Name x p1) (.Slice none (some (.Name y p2)) none p3) p4) env) Q E s := by
  refine wpAny_Subscript_list_slice (nm_l H hm hv (evalPart_none_step (evalPart_some_step (nm_l H hm hy ⟨a, vs.toArray, none, some (b : Nat), rfl, H.isList hl, by simpa using hsz, .none, .int (b : Nat) t, ?_⟩ hk hx' hd'))) hk hx hd)
  exact h _ _ (H.push2 (tk := s.toks) rfl rfl ⟨0, by rw [slicePick_upto']⟩)
theorem ne_dicts {K : Type} [DecidableEq K] {knd : KeyKind prog w K} {a b : Addr} {kvs : List (K × Value)} {Q : Value → Shared → Prop} {o₀ : Obj} (H : St base os₀ led s) (hs : base.get? sysModules = some o₀) (da : (a, dctA knd kvs) ∈ led) (db : (b, dctA knd kvs) ∈ led) (hu : A.units < cLine) (h : Q (.bool false) s) :
    wpAny (model prog w) A (compareOp .NotEq (.ref a) (.ref b)) Q E s := by
  have hn : (kvs.map (·.1)).Nodup := by obtain ⟨o, es, ep, _, _, _, _, _, hn⟩ := H.isDict da; exact hn
  have hits : ∀ l : List (K × Value), (∀ p ∈ l, p ∈ kvs) → KeqHits A.in1 s kvs l true := fun l => by
    induction l with
    | nil => intro _; exact .nil
    | cons p r ih =>
      obtain ⟨k, v⟩ := p
      intro hp
      refine KeqHits.hit (e := true) (b := true) (y := v) ?_ (SeqAt.EqAt.same v) (ih fun q hq => hp q (.tail _ hq))
      obtain ⟨j, hj⟩ := List.mem_iff_getElem?.mp (hp _ (.head _))
      exact valueAt_get hn hj
  exact keq_ne (r := true) (H.notSys da hs) (H.notSys db hs) (H.isDict da) (H.isDict db) hu (fun _ => hits kvs fun p hp => hp) (by simpa using h)

/-- one turn of law's loop -/
theorem turn1_ok {k : Nat} {t : Tok} (G : G1 base mg mb fW fL fD fT wd ld dd td) (hroom : A.depth + 10 < recursionLimit) (hh : A.handled = none) (hu : A.units + 100 < cLine) (hV : LVs vs ls) (hN : ∀ x ∈ ls, NI x) (hf : ∀ x ∈ ls, x.fits) (hlen : vs.length ≤ 100)
    (hl : m (Str.ofString "lines") = some (.ref l)) (hk : m (Str.ofString "size") = some (.int (k : Nat) t))
    (H : St base os₀ ((L, nsA m) :: (l, lstA vs) :: led) s)
    (h : ∀ m' s', m' (Str.ofString "lines") = some (.ref l) → St base os₀ ((L, nsA m') :: (l, lstA vs) :: led) s' → Q .next s') :
    wpAny (model prog w) A (execs turn1 (lawEnv1 nm L fa cd)) Q E s := by
  obtain ⟨o₀, hsys⟩ := G.gw.gr.sys
  obtain ⟨oT, hoT, hdT⟩ := G.dt.obj
  obtain ⟨oW, hoW, hdW⟩ := G.gw.dw.obj
  obtain ⟨oD, hoD, hdD⟩ := G.dd.obj
  have hV' := hV.take k
  have hN' : ∀ x ∈ ls.take k, NI x := fun x hx => hN x (List.mem_of_mem_take hx)
  have hf' : ∀ x ∈ ls.take k, x.fits := fun x hx => hf x (List.mem_of_mem_take hx)
  have hz : vs.length ≤ sizeLine := Nat.le_trans hlen (by decide)
  have hz' : (vs.take k).length ≤ 100 := by rw [List.length_take]; omega
  refine wpAny_execs_cons (wpAny_Assign_Name (wpAny_Call_ofName (nm_g H G.gw.gr.g G.ht (callWith_fn (evalArgs_plain (spliced_cons (l_uptoN H (.head _) hl hk (.tail _ (.head _)) hz fun r s₁ H₁ => spliced_nil ⟨⟨oT, td, H₁.keep _ _ hoT, hdT⟩, ?_⟩)))))))
  refine table_ok G (by omega) hh H₁ (.head _) hz' fun d s₂ H₂ => st_g H₂ (fun _ => .tail (.tail .head)) fun m₁ s₃ e₁ k₁ H₃ => ?_
  have H₄ : St base os₀ ((d, dctA (intKind prog w) (tabKV (vs.take k) (vs.take k).length)) :: (L, nsA m₁) :: (l, lstA vs) :: led) s₃ := H₃.sub (.cons_cons _ (.cons _ (.refl _)))
  clear H₃ H₂ H₁
  have hl₁ := (k₁ (Str.ofString "lines") (by decide)).trans hl
  have hk₁ := (k₁ (Str.ofString "size") (by decide)).trans hk
  refine wpAny_execs_cons (wpAny_Assign_Name (wpAny_Call_ofName (nm_g H₄ G.gw.gr.g G.gw.hw (callWith_fn (evalArgs_plain (spliced_cons (nm_l H₄ (.tail _ (.head _)) e₁ (spliced_nil ⟨⟨oW, wd, H₄.keep _ _ hoW, hdW⟩, ?_⟩))))))))
  have fin : ∀ t s', St base os₀ ((d, dctA (intKind prog w) (tabKV (vs.take k) (vs.take k).length)) :: (L, nsA m₁) :: (l, lstA vs) :: led) s' →
      wpAny (model prog w) A (storeName (lawEnv1 nm L fa cd) (Str.ofString "width") (.int (plainW (ls.take k)) t)) (fun _ s'' => wpAny (model prog w) A (execs (turn1.drop 2) (lawEnv1 nm L fa cd)) Q E s'') E s' := fun t s' H₅ => by
    refine st_g H₅ (fun _ => .tail .head) fun m₂ s₄ e₂ k₂ H₆ => ?_
    have hl₂ := (k₂ (Str.ofString "lines") (by decide)).trans hl₁
    have hk₂ := (k₂ (Str.ofString "size") (by decide)).trans hk₁
    have ht₂ := (k₂ (Str.ofString "table") (by decide)).trans e₁
    refine wpAny_execs_cons (wpAny_If (wpAny_isTrue_BoolOp (wpAny_allTrue_Or_cons (wpAny_isTrue_Not (wpAny_isTrue_value (wpAny_Call_ofName (nm_b H₆ G.gw.gr.g G.gw.gr.b G.n7 G.b7 (callWith_builtin rfl (evalArgs_plain (spliced_cons (nm_l H₆ (.tail _ (.head _)) e₂ (spliced_cons (nm_b H₆ G.gw.gr.g G.gw.gr.b G.n8 G.b8 (spliced_nil (PySem.IsiPair.int_int (wpAny_truthy_bool (ite_neg (by decide) ?_)))))))))))))))))
    refine wpAny_allTrue_Or_cons (wpAny_isTrue_Compare1 (nm_l H₆ (.tail _ (.head _)) e₂ (wpAny_Call_ofName (nm_g H₆ G.gw.gr.g G.hd (callWith_fn (evalArgs_plain (spliced_cons (l_uptoN H₆ (.tail _ (.head _)) hl₂ hk₂ (.tail _ (.tail _ (.head _))) hz fun r s₅ H₇ => spliced_nil ⟨⟨oD, dd, H₇.keep _ _ hoD, hdD⟩, ?_⟩))))))))
    refine width_ok G (by omega) hh (by omega) hV' hN' hf' hz' H₇ fun t2 s₆ H₈ => PyProof.Rows.ne_int (wpAny_truthy_bool (ite_neg (by simp) (wpAny_allTrue_Or_nil (ite_neg (by decide) (wpAny_execs_nil ?_)))))
    refine wpAny_execs_cons (wpAny_If (wpAny_isTrue_Compare1 (nm_l H₈ (.tail _ (.tail _ (.head _))) ht₂ (wpAny_Call_ofName (nm_g H₈ G.gw.gr.g G.ht (callWith_fn (evalArgs_plain (spliced_cons (l_uptoN H₈ (.tail _ (.tail _ (.head _))) hl₂ hk₂ (.tail _ (.tail _ (.tail _ (.head _)))) hz fun r' s₇ H₉ => spliced_nil ⟨⟨oT, td, H₉.keep _ _ hoT, hdT⟩, ?_⟩)))))))))
    refine table_ok G (by omega) hh H₉ (.head _) hz' fun d' s₈ H₁₀ => ?_
    refine ne_dicts H₁₀ hsys (a := d) (b := d') (by k_mem) (.head _) (by omega) (wpAny_truthy_bool (ite_neg (by decide) (wpAny_execs_nil (wpAny_execs_nil ?_))))
    exact h m₂ s₈ hl₂ (H₁₀.sub (.cons _ (.cons _ (.cons _ (.cons _ (.refl _))))))
  refine gln_ok G.gw (by omega) hh (VL_tab hV') hf' (fun env => cmp_NI hN') H₄ (fun ln t2 s₄ e H₅ => ?_) (fun t2 s₄ e H₅ => ?_) (fun env e L' m' s' e' => absurd e' fun q => plain_never hN' q)
  · rw [← plain_some hN' e]; exact fin t2 s₄ H₅
  · have := fin t2 s₄ H₅
    rw [plain_none hN' e] at this; exact this
end
end Mine

namespace Mine
open PySem PySem.W PyProof.Rows PySem.Calls PySem.Spec
section
variable {prog : Program} {w : World} {A : Around} {E : Value → Shared → Prop} {s : Shared} {base : Heap} {os₀ : OsState} {led : Led} {mg mb : Str → Option Value} {fW fL fD fT L fa a : Addr} {wd ld dd td : FuncData} {vs : List Value} {ns : List Int} {Q : Flow → Shared → Prop} {m : Str → Option Value} {nm : Str} {cd : Value} {fs : List Env}
theorem ints_app {vs us : List Value} {ns ms : List Int} (h : IntsAre vs ns) (h' : IntsAre us ms) : IntsAre (vs ++ us) (ns ++ ms) := by
  induction h with
  | nil => exact h'
  | cons n t _ ih => exact .cons n t ih
theorem law1 (G : G1 base mg mb fW fL fD fT wd ld dd td) (R : Room prog w A base) (hS : base.NoSeer) (htr : prog.given.tree = none) (hfr : A.frames = some fs) (hd : A.depth + 300 < recursionLimit) (hu : A.units + 400 < cLine)
    (hm : m (Str.ofString "script") = some (.ref a)) (hl : base.IsList a vs.toArray) (hi : IntsAre vs ns) (hsz : vs.length ≤ 63)
    (H : St base os₀ ((L, nsA m) :: led) s) (h : ∀ s', St base os₀ led s' → Q (.ret (.bool true)) s') :
    wpAny (model prog w) A (execs (fnBody lawStmt1) (lawEnv1 nm L fa cd)) Q E s := by
  have hh := R.handled
  obtain ⟨oL, hoL, hdL⟩ := G.dl.obj
  obtain ⟨oW, hoW, hdW⟩ := G.gw.dw.obj
  refine wpAny_execs_cons (comp_asg (base := base) (os₀ := os₀) (cl := []) (V := fun C => varL C (Str.ofString "x")) (mk := fun C => compEnvC _ [] C _) rfl (env_loc (by decide) rfl) (fun C => Var.loc rfl rfl) rfl ?_ rfl (by decide))
  refine wpAny_BinOp (l_upto (b := 24) H (.head _) hm hl (Nat.le_trans hsz (by decide)) fun r0 s₁ H₁ => List_ (wpAny_items_cons (c_int (k := 0) (pos := ⟨31, 50, 31, 52⟩) H₁ fun t1 s₂ H₂ => wpAny_items_cons (c_int (k := 0) (pos := ⟨31, 54, 31, 55⟩) H₂ fun t2 s₃ H₃ => wpAny_items_nil (new_list H₃ fun l0 s₄ H₄ => l_add H₄ (.tail _ (.head _)) (.head _) (by simp only [List.length_take, List.length_cons, List.length_nil]; exact Nat.le_trans (by omega : _ ≤ 26) (by decide)) fun r s₅ H₅ => ?_)))))
  have hxs : IntsAre (vs.take 24 ++ [.int 52 t1, .int 0 t2]) (ns.take 24 ++ [52, 0]) := ints_app (ints_take hi 24) (.cons _ _ (.cons _ _ .nil))
  generalize hus : vs.take 24 ++ [.int 52 t1, .int 0 t2] = us at H₅ hxs
  generalize ns.take 24 ++ [52, 0] = xs at hxs
  have hlu : us.length ≤ 26 := by rw [← hus]; simp; omega
  have hlx : us.length = xs.length := (allInt_of hxs).2
  have H₆ : St base os₀ ((r, lstA us) :: (L, nsA m) :: led) s₅ := H₅.sub (.cons_cons _ (.cons _ (.cons _ (.refl _))))
  clear H₅ H₄ H₃ H₂ H₁
  refine wpAny_pyIter_list (H₆.isList (.head _)) ?_
  refine ⟨_, us.length, _, itA r, [(r, lstA us)], (L, nsA m) :: led, fun i ys led' => LVs ys ((xs.take i).map line1) ∧ led' = (L, nsA m) :: led, rfl, Iter.list hh, Nat.le_trans hlu (by decide), H₆.push (tk := s₅.toks) rfl ⟨rfl, rfl⟩, ⟨⟨rfl, fun i l e => by simp at e⟩, rfl⟩, ?_, ?_⟩
  · rintro C D i v ys vl led' s₆ E' hi' hv ⟨hys, rfl⟩ ⟨mC, rfl, hmC⟩ H₇
    have hk := hmC _ rfl
    have hix : i < xs.length := by omega
    obtain ⟨t, ht⟩ := ints_get hxs (List.getElem?_eq_getElem hix)
    rw [hv] at ht
    cases ht
    refine wpAny_tests_nil (ite_pos rfl ?_)
    refine wpAny_Call_ofName (nm_g H₇ G.gw.gr.g G.hl (callWith_fn (evalArgs_plain (spliced_cons (nm_l H₇ (.head _) hk (spliced_nil ⟨⟨oL, ld, H₇.keep _ _ hoL, hdL⟩, ?_⟩))))))
    refine line_ok G hS htr hfr (by omega) (by omega) hh H₇ fun v s₇ hv' H₈ => ⟨_, ⟨?_, rfl⟩, H₈⟩
    rw [List.take_add_one, List.getElem?_eq_getElem hix, List.map_append]
    exact hys.snoc hv'
  · rintro l ys led' ⟨hys, rfl⟩ hl' vl s₆ ⟨C, mC, vr, rfl⟩ H₇
    rw [hlx, List.take_length] at hys
    have hup : ∀ (vl : Led) (m' : Str → Option Value), Up L (nsA m) (nsA m') (vl ++ ((l, lstA ys) :: (r, lstA us) :: (L, nsA m) :: led)) (vl ++ ((l, lstA ys) :: (r, lstA us) :: (L, nsA m') :: led)) := fun vl m' => by
      induction vl with
      | nil => exact .tail (.tail .head)
      | cons q r ih => exact .tail ih
    refine st_g H₇ (hup _) fun m' s₇ e₁ k₁ H₈ => ⟨_, H₈, fun s₈ H₉ => ?_⟩
    have H₁₀ : St base os₀ ((L, nsA m') :: (l, lstA ys) :: led) s₈ := (H₉.perm (led' := (r, lstA us) :: (L, nsA m') :: (l, lstA ys) :: led) (by
      repeat (first | exact List.Perm.refl _ | refine Pick.perm (by (repeat (first | exact Pick.head | apply Pick.tail))) ?_))).sub (.cons _ (.refl _))
    clear H₉ H₈ H₇
    have hN : ∀ x ∈ xs.map line1, NI x := fun x hx => by obtain ⟨y, _, rfl⟩ := List.mem_map.mp hx; exact line1_NI y
    have hf : ∀ x ∈ xs.map line1, x.fits := fun x hx => by obtain ⟨y, _, rfl⟩ := List.mem_map.mp hx; exact (line1_fits y).1
    have hly : ys.length ≤ 26 := by rw [hys.1, List.length_map]; omega
    refine wpAny_execs_cons (for_range (n := ys.length + 1) (base := base) (os₀ := os₀) (t1 := 0) (t := 0) (t2 := 0) (r := 0) (fun i ld => ∃ m₁, m₁ (Str.ofString "lines") = some (.ref l) ∧ ld = (L, nsA m₁) :: (l, lstA ys) :: led) hh (by omega) ?_ ?_ ?_)
    · refine wpAny_Call_ofName (nm_b H₁₀ G.gw.gr.g G.gw.gr.b G.n6 G.b6 (callWith_excType rfl (evalArgs_plain (spliced_cons (wpAny_BinOp (wpAny_Call_ofName (nm_b H₁₀ G.gw.gr.g G.gw.gr.b G.gw.n3 G.gw.b3 (callWith_builtin rfl (evalArgs_plain (spliced_cons (nm_l H₁₀ (.head _) e₁ (spliced_nil (len_l H₁₀ (.tail _ (.head _)) (by omega) fun t3 s₉ H₁₁ => c_int (k := 0) (pos := ⟨32, 35, 32, 36⟩) H₁₁ fun t4 s₁₀ H₁₂ => i_add H₁₂ fun t5 s₁₁ H₁₃ => spliced_nil (r_new (n := ys.length + 1) H₁₃ fun rr s₁₂ H₁₄ => ?_))))))))))))))
      obtain ⟨v1, v2, H₁₄⟩ := H₁₄
      exact ⟨rr, v1, t5, v2, _, rfl, H₁₄, m', e₁, rfl⟩
    · rintro I i v ld s₉ E' hi' ⟨ti, rfl⟩ ⟨m₁, hl₁, rfl⟩ H₁₁
      refine wpAny_assign_Name (st_g H₁₁ (fun _ => .tail .head) fun m₂ s₁₀ e₂ k₂ H₁₂ => ?_)
      have H₁₃ : St base os₀ ((L, nsA m₂) :: (l, lstA ys) :: (I, rngA (ys.length + 1) (i + 1)) :: led) s₁₀ := H₁₂.perm (by
        repeat (first | exact List.Perm.refl _ | refine Pick.perm (by (repeat (first | exact Pick.head | apply Pick.tail))) ?_))
      refine turn1_ok G (by omega) hh (by omega) hys hN hf (by omega) ((k₂ _ (by decide)).trans hl₁) e₂ H₁₃ fun m₃ s₁₁ hl₃ H₁₄ => ⟨_, ⟨m₃, hl₃, rfl⟩, H₁₄.perm ?_⟩
      repeat (first | exact List.Perm.refl _ | refine Pick.perm (by (repeat (first | exact Pick.head | apply Pick.tail))) ?_)
    · rintro ld s₉ ⟨m₁, hl₁, rfl⟩ H₁₁
      refine wpAny_execs_cons (wpAny_Return_some (wpAny_Compare1 (wpAny_Call_ofName (nm_g H₁₁ G.gw.gr.g G.gw.hw (callWith_fn (evalArgs_plain (spliced_cons (wpAny_Constant_none (k := 0) (pos := ⟨39, 29, 39, 33⟩) (spliced_nil ⟨⟨oW, wd, H₁₁.keep _ _ hoW, hdW⟩, ?_⟩)))))))))
      refine gln_none G.gw (by omega) H₁₁ fun t6 s₁₀ H₁₂ => c_int H₁₂ fun t7 s₁₁ H₁₃ => PyProof.Rows.eq_int ?_
      exact h s₁₁ (H₁₃.sub (.cons _ (.cons _ (.refl _))))
end
theorem top1 {prog : Program} {w : World} {K : Frag} {s s₁ : Shared} {p : Program} {loose : List Str} {mean : ExcName → Option Value} {mg mb : Str → Option Value} {m : Str → Option Value} {nam : Str} {L fA a : Addr} {cd : Value} {vs : List Value} {ns : List Int} {E : Value → Shared → Prop}
    {l : OpenLaw} {cl : Str → Option Addr} {mean' : ExcName → Option Value} {args : List WData} {wd ld dd td : FuncData}
    (T : Top p loose mean mg mb s₁.heap) (S : s₁.heap.NoSeer) (F : Fr s₁.heap L s.heap m) (hl : s₁.heap.IsList a vs.toArray) (hi : IntsAre vs ns) (hn : ¬ (63 : Int) < (ns.length : Int)) (hm : m (Str.ofString "script") = some (.ref a)) (X : K.In s₁.heap)
    (hL : s₁.heap.get? L = none) (ht : prog.given.tree = none)
    (e1 : nsIn K mainGlobals (Str.ofString "_get_lineno_width") = some (some (.ref 21))) (e2 : nsIn K mainGlobals (Str.ofString "_law_line") = some (some (.ref 28))) (e3 : nsIn K mainGlobals (Str.ofString "_law_width") = some (some (.ref 33))) (e4 : nsIn K mainGlobals (Str.ofString "_law_table") = some (some (.ref 38)))
    (e5 : ∃ t, nsIn K mainGlobals (Str.ofString "_NO_LINENO") = some (some (.str (Str.ofString "  --") t)))
    (n1 : nsIn K mainGlobals (Str.ofString "max") = some none) (n2 : nsIn K mainGlobals (Str.ofString "filter") = some none) (n3 : nsIn K mainGlobals (Str.ofString "len") = some none) (n4 : nsIn K mainGlobals (Str.ofString "str") = some none)
    (n5 : nsIn K mainGlobals (Str.ofString "abs") = some none) (n6 : nsIn K mainGlobals (Str.ofString "range") = some none) (n7 : nsIn K mainGlobals (Str.ofString "isinstance") = some none) (n8 : nsIn K mainGlobals (Str.ofString "int") = some none)
    (DW : IsDef s₁.heap 21 glnStmt wd) (DL : IsDef s₁.heap 28 lineStmt ld) (DD : IsDef s₁.heap 33 widthStmt dd) (DT : IsDef s₁.heap 38 tableStmt td)
    (hos : s.os = s₁.os) (hgens : s.gens = #[]) :
    wpAny (model prog w) (callerA.deeper (lawEnv1 nam L fA cd)) (execs (fnBody lawStmt1) (lawEnv1 nam L fA cd))
      (fun f s' => GoodW l.row.claim cl mean' args s₁ (.ok (.ret (match f with | .ret v => v | _ => .none))) s') E s := by
  have bt : ∀ (x : Str) v, x ≠ "__name__" → bootBuiltins x = some v → mb x = some v := fun x v hx hv => (T.builtins x hx).trans hv
  obtain ⟨tno, e5⟩ := e5
  have GWW : GW s₁.heap mg mb 21 wd :=
    ⟨gr_of T S, DW, mg_of X T.g e1, ⟨tno, mg_of X T.g e5⟩, mg_none_of X T.g n1, mg_none_of X T.g n2, mg_none_of X T.g n3, mg_none_of X T.g n4,
      bt _ _ (by decide) (by kernel_rfl), bt _ _ (by decide) (by kernel_rfl), bt _ _ (by decide) (by kernel_rfl), bt _ _ (by decide) (by kernel_rfl)⟩
  have G : G1 s₁.heap mg mb 21 28 33 38 wd ld dd td :=
    ⟨GWW, DL, DD, DT, mg_of X T.g e2, mg_of X T.g e3, mg_of X T.g e4, mg_none_of X T.g n5, mg_none_of X T.g n6, mg_none_of X T.g n7, mg_none_of X T.g n8,
      bt _ _ (by decide) (by kernel_rfl), bt _ _ (by decide) (by kernel_rfl), bt _ _ (by decide) (by kernel_rfl), bt _ _ (by decide) (by kernel_rfl)⟩
  obtain ⟨hai, hlen⟩ := allInt_of hi
  have R : Room prog w (callerA.deeper (lawEnv1 nam L fA cd)) s₁.heap := room_of T S ht rfl rfl rfl rfl
  have H : St s₁.heap s.os [(L, nsA m)] s := by
    refine ⟨F.keep, by simp, fun p hp => ?_, fun p hp => ?_, hgens, rfl⟩
    · rw [List.mem_singleton] at hp; subst hp; exact nsA_of F.ns
    · rw [List.mem_singleton] at hp; subst hp; exact hL
  refine law1 G R S ht rfl (of_decide_eq_true (by with_unfolding_all rfl)) (of_decide_eq_true (by with_unfolding_all rfl)) hm hl hi (by omega) H fun s' H' => ?_
  exact good_true (fun b o e => H'.keep b o e) (H'.os.trans hos) H'.gens
end Mine

open PySem PySem.W PyProof.Rows
set_option maxRecDepth 100000 in
set_option maxHeartbeats 8000000 in
theorem PySem.Challenge.cw_dm0069_01_holds : PySem.Challenge.rw_dm0069_01.Holds := by
  (w_on; o_law; k_head; (case hw => w_witness2); w_strict (k_go0; (
    have X := ‹Frag.In _ _›
    have F := ‹Fr _ _ _ _›
    have hL := Heap.get?_none_of_le F.above
    refine Mine.top1 (l := PySem.Challenge.rw_dm0069_01) (K := _) ‹Top _ _ _ _ _ _› (Top.seer ‹Top _ (looseW _ _) _ _ _ _› (by decide +kernel)) F ‹Heap.IsList _ _ _› ‹IntsAre _ _› (by assumption) rfl X hL rfl
      (by k_is) (by k_is) (by k_is) (by k_is) ⟨_, by k_is⟩ (by k_is) (by k_is) (by k_is) (by k_is) (by k_is) (by k_is) (by k_is) (by k_is)
      ⟨⟨_, X 21 _ rfl, rfl⟩, rfl, rfl, rfl, rfl, rfl, rfl, rfl, ⟨20, _, _, _, rfl, X 20 _ rfl, rfl, rfl⟩⟩
      ⟨⟨_, X 28 _ rfl, rfl⟩, rfl, rfl, rfl, rfl, rfl, rfl, rfl, ⟨27, _, _, _, rfl, X 27 _ rfl, rfl, rfl⟩⟩
      ⟨⟨_, X 33 _ rfl, rfl⟩, rfl, rfl, rfl, rfl, rfl, rfl, rfl, ⟨32, _, _, _, rfl, X 32 _ rfl, rfl, rfl⟩⟩
      ⟨⟨_, X 38 _ rfl, rfl⟩, rfl, rfl, rfl, rfl, rfl, rfl, rfl, ⟨37, _, _, _, rfl, X 37 _ rfl, rfl, rfl⟩⟩ rfl ‹_ = #[]›)))
