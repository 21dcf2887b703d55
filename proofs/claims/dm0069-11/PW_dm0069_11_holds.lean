import PyProof.Rows.All
import Wide.All
import OpenK.AllK
import Wide.FinOn
import PySem.Challenge.RW_dm0069_11
set_option Elab.async false
set_option maxRecDepth 100000
set_option linter.unusedVariables false
namespace Mine
open PySem PySem.W PyProof.Rows PySem.Calls PySem.Spec

/-- what is said of an object -/
abbrev Asn := Obj → Prop
abbrev Led := List (Addr × Asn)

structure St (base : Heap) (os₀ : OsState) (led : Led) (s : Shared) : Prop where
  keep : ∀ b o, base.get? b = some o → s.heap.get? b = some o
  nd : (led.map (·.1)).Nodup
  has : ∀ p ∈ led, ∃ o, s.heap.get? p.1 = some o ∧ p.2 o
  new : ∀ p ∈ led, base.get? p.1 = none
  gens : s.gens = #[]
  os : s.os = os₀

/-- one entry of the ledger changes what is said of it -/
inductive Up (a : Addr) (P P' : Asn) : Led → Led → Prop
  | head {l} : Up a P P' ((a, P) :: l) ((a, P') :: l)
  | tail {q l l'} : Up a P P' l l' → Up a P P' (q :: l) (q :: l')

namespace Up
variable {a : Addr} {P P' : Asn} {l l' : Led}
theorem keys (u : Up a P P' l l') : l'.map (·.1) = l.map (·.1) := by
  induction u with
  | head => rfl
  | tail _ ih => simp [ih]
theorem mem (u : Up a P P' l l') : (a, P) ∈ l := by
  induction u with
  | head => exact .head _
  | tail _ ih => exact .tail _ ih
theorem split (u : Up a P P' l l') (nd : (l.map (·.1)).Nodup) : ∀ p ∈ l', (p.1 = a ∧ p = (a, P')) ∨ (p.1 ≠ a ∧ p ∈ l) := by
  induction u with
  | head =>
    intro p hp
    simp only [List.map_cons, List.nodup_cons] at nd
    rcases List.mem_cons.mp hp with rfl | hp
    · exact .inl ⟨rfl, rfl⟩
    · exact .inr ⟨fun e => nd.1 (e ▸ List.mem_map_of_mem hp), .tail _ hp⟩
  | @tail q l l' u ih =>
    intro p hp
    simp only [List.map_cons, List.nodup_cons] at nd
    rcases List.mem_cons.mp hp with rfl | hp
    · refine .inr ⟨fun e => nd.1 ?_, .head _⟩
      rw [e]; exact List.mem_map_of_mem (f := (·.1)) u.mem
    · rcases ih nd.2 p hp with h | h
      · exact .inl h
      · exact .inr ⟨h.1, .tail _ h.2⟩
end Up

section
variable {base : Heap} {os₀ : OsState} {led led' : Led} {s : Shared} {a : Addr} {P P' : Asn}

theorem St.ext (H : St base os₀ led s) {h' : Heap} {tk : Nat} (hk : ∀ b o, s.heap.get? b = some o → h'.get? b = some o) : St base os₀ led { s with heap := h', toks := tk } where
  keep := fun b o e => hk b o (H.keep b o e)
  nd := H.nd
  has := fun p hp => let ⟨o, ho, hP⟩ := H.has p hp; ⟨o, hk _ _ ho, hP⟩
  new := H.new
  gens := H.gens
  os := H.os
theorem St.tok (H : St base os₀ led s) {tk : Nat} : St base os₀ led { s with toks := tk } := H.ext fun _ _ e => e
theorem St.newAt (H : St base os₀ led s) {n : Nat} (hn : s.heap.objs.size ≤ n) : base.get? n = none := by
  cases e : base.get? n with
  | none => rfl
  | some o => exact absurd (Heap.lt_size (H.keep _ _ e)) (Nat.not_lt.mpr hn)
/-- a new object behind a heap that has grown -/
theorem St.more (H : St base os₀ led s) {h' : Heap} {tk n : Nat} {o : Obj} (hk : ∀ b o, s.heap.get? b = some o → h'.get? b = some o) (hn : s.heap.objs.size ≤ n) (ho : h'.get? n = some o) (hp : P o) :
    St base os₀ ((n, P) :: led) { s with heap := h', toks := tk } where
  keep := fun b o e => hk b o (H.keep b o e)
  nd := by
    simp only [List.map_cons, List.nodup_cons]
    refine ⟨fun h => ?_, H.nd⟩
    obtain ⟨p, hp', e⟩ := List.mem_map.mp h
    obtain ⟨o', ho', _⟩ := H.has p hp'
    have := Heap.lt_size ho'
    rw [e] at this
    exact absurd this (Nat.not_lt.mpr hn)
  has := fun p hp' => by
    rcases List.mem_cons.mp hp' with rfl | hp'
    · exact ⟨o, ho, hp⟩
    · obtain ⟨o', ho', hP⟩ := H.has p hp'; exact ⟨o', hk _ _ ho', hP⟩
  new := fun p hp' => by
    rcases List.mem_cons.mp hp' with rfl | hp'
    · exact H.newAt hn
    · exact H.new p hp'
  gens := H.gens
  os := H.os
theorem St.push (H : St base os₀ led s) {tk : Nat} {o : Obj} (hf : o.isFreed = false) (hp : P o) : St base os₀ ((s.heap.objs.size, P) :: led) { s with heap := s.heap.push o, toks := tk } :=
  H.more (fun _ _ e => Heap.get?_push_of_some _ e) (Nat.le_refl _) (Heap.get?_push_size _ hf) hp
/-- an entry changed, the heap grown perhaps -/
theorem St.upd (H : St base os₀ led s) (U : Up a P P' led led') {h' : Heap} {tk : Nat} (hx : Heap.ExtBut a s.heap h') (hp : ∃ o, h'.get? a = some o ∧ P' o) : St base os₀ led' { s with heap := h', toks := tk } where
  keep := fun b o e => hx b o (fun q => by have := H.new _ U.mem; rw [← q, e] at this; cases this) (H.keep b o e)
  nd := U.keys ▸ H.nd
  has := fun p hp' => by
    rcases U.split H.nd p hp' with ⟨_, rfl⟩ | ⟨hne, hm⟩
    · exact hp
    · obtain ⟨o, ho, hP⟩ := H.has p hm; exact ⟨o, hx _ _ hne ho, hP⟩
  new := fun p hp' => by
    rcases U.split H.nd p hp' with ⟨_, rfl⟩ | ⟨_, hm⟩
    · exact H.new (a, P) U.mem
    · exact H.new p hm
  gens := H.gens
  os := H.os
theorem St.sub (H : St base os₀ led s) (h : led'.Sublist led) : St base os₀ led' s where
  keep := H.keep
  nd := H.nd.sublist (h.map _)
  has := fun p hp => H.has p (h.subset hp)
  new := fun p hp => H.new p (h.subset hp)
  gens := H.gens
  os := H.os
theorem St.perm (H : St base os₀ led s) (h : led'.Perm led) : St base os₀ led' s where
  keep := H.keep
  nd := (h.map _).nodup_iff.mpr H.nd
  has := fun p hp => H.has p (h.mem_iff.mp hp)
  new := fun p hp => H.new p (h.mem_iff.mp hp)
  gens := H.gens
  os := H.os
theorem St.get (H : St base os₀ led s) (hm : (a, P) ∈ led) : ∃ o, s.heap.get? a = some o ∧ P o := H.has _ hm
theorem St.ne {b : Addr} {R : Asn} (H : St base os₀ ((a, P) :: led) s) (hm : (b, R) ∈ led) : b ≠ a := fun e => by
  have := H.nd
  simp only [List.map_cons, List.nodup_cons] at this
  exact this.1 (e ▸ List.mem_map_of_mem (f := (·.1)) hm)
/-- what is said may be weakened -/
theorem St.weak (H : St base os₀ ((a, P) :: led) s) (h : ∀ o, P o → P' o) : St base os₀ ((a, P') :: led) s where
  keep := H.keep
  nd := H.nd
  has := fun p hp => by
    rcases List.mem_cons.mp hp with rfl | hp
    · obtain ⟨o, ho, hP⟩ := H.has _ (.head _); exact ⟨o, ho, h o hP⟩
    · exact H.has p (.tail _ hp)
  new := fun p hp => by
    rcases List.mem_cons.mp hp with rfl | hp
    · exact H.new (a, P) (.head _)
    · exact H.new p (.tail _ hp)
  gens := H.gens
  os := H.os
end

/-! the kinds of objects -/
def nsA (m : Str → Option Value) : Asn := fun o => ∃ es ep, o.data = .dict es ep ∧ StrKeys es ∧ ∀ n, nsFind es n = m n
def lstA (vs : List Value) : Asn := fun o => ∃ n, o = { cls := .type "list", data := .seq vs.toArray n }
def tupA (vs : List Value) : Asn := fun o => ∃ n, o = { cls := .type "tuple", data := .seq vs.toArray n }
def celA (v : Option Value) : Asn := fun o => o.data = .cell v
def objA (o₀ : Obj) : Asn := fun o => o = o₀
section
variable {prog : Program} {w : World} {K : Type} [DecidableEq K]
def dctA (knd : KeyKind prog w K) (kvs : List (K × Value)) : Asn := fun o => ∃ es ep, o.ExactDict ∧ o.data = .dict es ep ∧ KeysOf knd es ∧ Pairs knd es.toList kvs ∧ (kvs.map (·.1)).Nodup
end

section
variable {base : Heap} {os₀ : OsState} {led led' : Led} {s : Shared} {a : Addr}
theorem St.ns (H : St base os₀ led s) {m : Str → Option Value} (hm : (a, nsA m) ∈ led) : s.heap.Ns a m := by
  obtain ⟨o, ho, es, ep, r⟩ := H.get hm; exact ⟨o, es, ep, ho, r⟩
theorem nsA_of {h : Heap} {m : Str → Option Value} (x : h.Ns a m) : ∃ o, h.get? a = some o ∧ nsA m o := by
  obtain ⟨o, es, ep, ho, r⟩ := x; exact ⟨o, ho, es, ep, r⟩
theorem St.isList (H : St base os₀ led s) {vs : List Value} (hm : (a, lstA vs) ∈ led) : s.heap.IsList a vs.toArray := by
  obtain ⟨o, ho, n, rfl⟩ := H.get hm; exact ⟨_, ho, rfl, n, rfl⟩
theorem St.isTup (H : St base os₀ led s) {vs : List Value} (hm : (a, tupA vs) ∈ led) : IsTup s.heap a vs.toArray := by
  obtain ⟨o, ho, n, rfl⟩ := H.get hm; exact ⟨_, ho, rfl, n, rfl⟩
theorem St.isDict {prog : Program} {w : World} {K : Type} [DecidableEq K] {knd : KeyKind prog w K} {kvs : List (K × Value)} (H : St base os₀ led s) (hm : (a, dctA knd kvs) ∈ led) : s.heap.DictOf knd a kvs := by
  obtain ⟨o, ho, es, ep, r⟩ := H.get hm; exact ⟨o, es, ep, ho, r⟩
theorem dctA_of {prog : Program} {w : World} {K : Type} [DecidableEq K] {knd : KeyKind prog w K} {kvs : List (K × Value)} {h : Heap} (x : h.DictOf knd a kvs) : ∃ o, h.get? a = some o ∧ dctA knd kvs o := by
  obtain ⟨o, es, ep, ho, r⟩ := x; exact ⟨o, ho, es, ep, r⟩
theorem St.isCell (H : St base os₀ led s) {v : Option Value} (hm : (a, celA v) ∈ led) : s.heap.IsCell a v := by
  obtain ⟨o, ho, r⟩ := H.get hm; exact ⟨o, ho, r⟩
end

section
variable {M : Model} {A : Around} {E : Value → Shared → Prop} {s : Shared} {env : Env} {base : Heap} {os₀ : OsState} {led led' : Led} {x : Str} {v : Value} {pos : Pos} {k : Nat}

theorem nm_l {Q : Value → Shared → Prop} {m : Str → Option Value} (H : St base os₀ led s) (hm : (env.locals, nsA m) ∈ led) (hv : m x = some v) (h : Q v s)
    (hk : env.scope.kind = .function := by rfl) (hx : env.kindOf x = some .local := by rfl) (hd : (x == ("__debug__" : Str)) = false := by decide) :
    wpAny M A (eval (.Name x pos) env) Q E s := wpAny_Name (wpAny_loadName_local hk hx (H.ns hm) hv h) hd
theorem nm_c {Q : Value → Shared → Prop} {c : Addr} (H : St base os₀ led s) (hc : env.cells.lookup x = some c) (hm : (c, celA (some v)) ∈ led) (h : Q v s)
    (hk : env.scope.kind = .function := by rfl) (hx : env.kindOf x = some .cell := by rfl) (hd : (x == ("__debug__" : Str)) = false := by decide) :
    wpAny M A (eval (.Name x pos) env) Q E s := wpAny_Name (wpAny_loadName_cell hk hx hc (H.isCell hm) h) hd
theorem nm_f {Q : Value → Shared → Prop} {c : Addr} (H : St base os₀ led s) (hc : env.cells.lookup x = some c) (hm : (c, celA (some v)) ∈ led) (h : Q v s)
    (hk : env.scope.kind = .function := by rfl) (hx : env.kindOf x = some .free := by rfl) (hd : (x == ("__debug__" : Str)) = false := by decide) (hn : (x == ("__classdict__" : Str)) = false := by decide) :
    wpAny M A (eval (.Name x pos) env) Q E s := wpAny_Name (wpAny_loadName_free hk hx hc (H.isCell hm) h hn) hd
theorem nm_g {Q : Value → Shared → Prop} {mg : Str → Option Value} (H : St base os₀ led s) (hg : base.Ns env.globals mg) (hv : mg x = some v) (h : Q v s)
    (hk : env.scope.kind = .function := by rfl) (hx : env.kindOf x = some .globalImplicit := by rfl) (hd : (x == ("__debug__" : Str)) = false := by decide) :
    wpAny M A (eval (.Name x pos) env) Q E s := Name_function_global hk hx (loadGlobal_global (hg.keeps H.keep) hv h) hd
theorem nm_b {Q : Value → Shared → Prop} {mg mb : Str → Option Value} (H : St base os₀ led s) (hg : base.Ns env.globals mg) (hb : base.Ns env.builtins mb) (hv : mg x = none) (hvb : mb x = some v) (h : Q v s)
    (hk : env.scope.kind = .function := by rfl) (hx : env.kindOf x = some .globalImplicit := by rfl) (hd : (x == ("__debug__" : Str)) = false := by decide) :
    wpAny M A (eval (.Name x pos) env) Q E s := Name_function_global hk hx (loadGlobal_builtin (hg.keeps H.keep) hv (hb.keeps H.keep) hvb h) hd

theorem st_l {Q : Unit → Shared → Prop} {m : Str → Option Value} (H : St base os₀ led s) (U : Up env.locals (nsA m) (nsA fun y => if y = x then some v else m y) led led')
    (h : ∀ s', St base os₀ led' s' → Q () s')
    (hk : env.scope.kind = .function := by rfl) (hx : env.kindOf x = some .local := by rfl) :
    wpAny M A (storeName env x v) Q E s :=
  wpAny_storeName_local hx (H.ns U.mem) (fun h' hn hs => h _ (H.upd U hs.extBut (nsA_of hn))) (by rw [hk]; rfl)
theorem st_c {Q : Unit → Shared → Prop} {c : Addr} {v₀ : Option Value} (H : St base os₀ led s) (hc : env.cells.lookup x = some c) (U : Up c (celA v₀) (celA (some v)) led led')
    (h : ∀ s', St base os₀ led' s' → Q () s')
    (hk : env.scope.kind = .function := by rfl) (hx : env.kindOf x = some .cell := by rfl) :
    wpAny M A (storeName env x v) Q E s :=
  wpAny_storeName_cell hk hx hc (H.isCell U.mem) fun h' hv hs => h _ (H.upd (tk := s.toks) U hs.extBut (let ⟨o, ho, hd⟩ := hv; ⟨o, ho, hd⟩))

theorem c_int {Q : Value → Shared → Prop} {i : Int} (H : St base os₀ led s) (h : ∀ t s', St base os₀ led s' → Q (.int i t) s') : wpAny M A (eval (.Constant (.int i) k pos) env) Q E s :=
  wpAny_Constant_int (h _ _ H.tok)
theorem c_str {Q : Value → Shared → Prop} (H : St base os₀ led s) (h : ∀ t s', St base os₀ led s' → Q (.str x t) s') : wpAny M A (eval (.Constant (.str x) k pos) env) Q E s :=
  wpAny_Constant_str (h _ _ H.tok)

theorem new_list {Q : Value → Shared → Prop} {vs : List Value} (H : St base os₀ led s) (h : ∀ a s', St base os₀ ((a, lstA vs) :: led) s' → Q (.ref a) s') (hsz : vs.length ≤ sizeLine := by size_fits) :
    wpAny M A (newList vs) Q E s := wpAny_newObj_type (h _ _ (H.push rfl ⟨_, rfl⟩)) (by show vs.toArray.size ≤ sizeLine; rw [List.size_toArray]; exact hsz)
theorem new_tuple {Q : Value → Shared → Prop} {vs : List Value} (H : St base os₀ led s) (h : ∀ a s', St base os₀ ((a, tupA vs) :: led) s' → Q (.ref a) s') (hsz : vs.length ≤ sizeLine := by size_fits) :
    wpAny M A (newTuple vs) Q E s := wpAny_newObj_type (h _ _ (H.push rfl ⟨_, rfl⟩)) (by show vs.toArray.size ≤ sizeLine; rw [List.size_toArray]; exact hsz)
end
end Mine

namespace Mine
open PySem PySem.W PyProof.Rows PySem.Calls PySem.Spec
section
variable {prog : Program} {w : World} {A : Around} {E : Value → Shared → Prop} {s : Shared}
theorem dictPut_new {d : Addr} {od : Obj} {es : Array DictEntry} {ed : Nat} {k : Str} {e : DictEntry} {Q : Unit → Shared → Prop}
    (hd : s.heap.get? d = some od) (hdd : od.data = .dict es ed) (hcd : od.ExactDict) (hk : KeysOf (strKind prog w) es) (he : (strKind prog w).is k e.key = true) (hh : e.hash = (strKind prog w).hash k)
    (hn : es.findIdx? (fun e => (strKind prog w).is k e.key) = none) (hz : es.size ≤ sizeLine)
    (h : ∀ h', Heap.SameBut d s.heap h' → (∃ o ep', h'.get? d = some o ∧ o.ExactDict ∧ o.data = .dict (es.push e) ep') → Q () { s with heap := h' }) :
    wpAny (model prog w) A (dictPut d e.hash e.key e.val) Q E s := by
  unfold dictPut
  rw [hh]
  refine wpAny_bind (wpAny_dictFind_of he hd hdd hk ?_)
  rw [hn]
  refine wpAny_updateDictKeys hd hdd (h _ (Heap.SameBut.update ..) ⟨_, ed + 1, Heap.get?_update_self _ hd (Obj.isFreed_of_dict (Obj.data_mapDictKeys hdd _)), hcd.mapDictKeys _, ?_⟩) hz
  rw [Obj.data_mapDictKeys hdd, ← hh]
theorem merge_raw {a d : Addr} {oa od : Obj} {es : Array DictEntry} {ep ed : Nat} {kvs : List (Str × Value)} {Q : Unit → Shared → Prop} (ha : s.heap.get? a = some oa) (hda : oa.data = .dict es ep) (hca : oa.ExactDict)
    (hd : s.heap.get? d = some od) (hdd : od.data = .dict #[] ed) (hcd : od.ExactDict) (hne : a ≠ d) (hk : KeysOf (strKind prog w) es) (hp : Pairs (strKind prog w) es.toList kvs) (hnd : (kvs.map (·.1)).Nodup) (hsys : (a == sysModules) = false)
    (hz : kvs.length ≤ sizeLine)
    (h : ∀ h', Heap.SameBut d s.heap h' → (∃ o ep', h'.get? d = some o ∧ o.ExactDict ∧ o.data = .dict es ep') → Q () { s with heap := h' }) :
    wpAny (model prog w) A (mergeMapping d (.ref a) true) Q E s := by
  have hT : s.TypeIs (.ref a) "dict" := ⟨oa, ha, hca.1⟩
  unfold mergeMapping
  refine wpAny_bind (wpAny_isInstance hT (b := true) (by kernel_rfl) ?_)
  simp only [if_true]
  refine wpAny_bind (wpAny_specialOf hT PySem.F.slot_dict_iter.lookup (wpAny_bind (wpAny_pure ?_)))
  simp only [beq_self_eq_true, hsys, Bool.false_eq_true, if_false]
  refine wpAny_bind (wpAny_dictEntries hd hdd ?_)
  simp only [Array.isEmpty_empty, if_true]
  refine wpAny_bind (wpAny_dictEntries ha hda ?_)
  have hloop : (forIn es PUnit.unit fun (e : DictEntry) (__s : PUnit) =>
      (match e.key with
      | Value.ref _ => do
        let __do_lift ← specialOf e.key (Str.ofString "__eq__")
        if (__do_lift != some (Value.builtin "object.__eq__")) = true then
            if (Array.filter (fun x => x.hash == e.hash) es).size > 1 then do
              unsupported "dict.merge-into-an-empty-dict:keys-of-equal-hash"
              pure (ForInStep.yield PUnit.unit)
            else pure (ForInStep.yield PUnit.unit)
          else pure (ForInStep.yield PUnit.unit)
      | _ => pure (ForInStep.yield PUnit.unit) : Sem (ForInStep PUnit))) = pure PUnit.unit := by
    rw [← Array.forIn_toList]
    refine forIn_yield_id _ fun e he c => ?_
    obtain ⟨k, h1, _⟩ := hk e (by simpa using he)
    obtain ⟨t, ht⟩ := Value.isStrOf_shape h1
    rw [ht]
  refine wpAny_bind (wpAny_of_eq hloop ?_)
  refine wpAny_bind (wpAny_dictEntries ha hda ?_)
  refine wpAny_bind (wpAny_dictEpoch ha hda ?_)
  have hlen : es.size = kvs.length := by have := hp.length; simpa using this
  refine wpAny_bind (wpAny_forIn_list _ (fun rest _ s' => ∃ i h', rest = List.range' i (es.size - i) ∧ i ≤ es.size ∧ s' = { s with heap := h' } ∧ Heap.SameBut d s.heap h' ∧
    ∃ o ep', h'.get? d = some o ∧ o.ExactDict ∧ o.data = .dict (es.extract 0 i) ep') _ ?_ ?_ _ _ ⟨0, s.heap, by rw [List.range_eq_range', Nat.sub_zero], Nat.zero_le _, rfl, Heap.SameBut.refl .., od, ed, hd, hcd, by rw [hdd]; simp⟩)
  · rintro x rest _ s' ⟨i, h', hr, hi, rfl, hs, o, ep', ho, hoc, hod⟩
    have hlt : i < es.size := by
      rcases Nat.lt_or_ge i es.size with q | q
      · exact q
      · rw [Nat.sub_eq_zero_of_le q] at hr; cases hr
    obtain ⟨m, hm⟩ : ∃ m, es.size - i = m + 1 := ⟨es.size - i - 1, by omega⟩
    rw [hm, List.range'_succ] at hr
    injection hr with hx hr
    subst hx
    have ha' : h'.get? a = some oa := (hs.2 a hne).trans ha
    refine wpAny_bind (wpAny_dictEntries (s := { s with heap := h' }) ha' hda ?_)
    rw [Array.getElem?_eq_getElem hlt]
    refine wpAny_bind (wpAny_holding ?_)
    obtain ⟨k, hk1, hk2⟩ := hk es[x] (Array.getElem_mem hlt)
    have hkx : KeysOf (strKind prog w) (es.extract 0 x) := fun e he => hk e (by
      obtain ⟨j, hj, rfl⟩ := Array.mem_iff_getElem.mp he
      rw [Array.getElem_extract]; exact Array.getElem_mem _)
    have hnone : (es.extract 0 x).findIdx? (fun e => (strKind prog w).is k e.key) = none := by
      rw [Array.findIdx?_eq_none_iff]
      intro e he
      obtain ⟨j, hj, rfl⟩ := Array.mem_iff_getElem.mp he
      rw [Array.getElem_extract]
      have hj' : j < x := by simp at hj; omega
      have hjl : j < es.size := by omega
      cases q : (strKind prog w).is k (es[0 + j]'(by omega)).key with
      | false => rfl
      | true =>
        exfalso
        have h1 := (hp.get? (i := x) (e := es[x]) (by simp [hlt]) (k := (kvs[x]'(by omega)).1) (v := (kvs[x]'(by omega)).2) (by simp [hlen ▸ hlt])).1
        have h2 := (hp.get? (i := j) (e := es[j]) (by simp [hjl]) (k := (kvs[j]'(by omega)).1) (v := (kvs[j]'(by omega)).2) (by simp [hlen ▸ hjl])).1
        have q' : (strKind prog w).is k es[j].key = true := by simpa using q
        have e1 := (strKind prog w).inj _ _ _ h1 hk1
        have e2 := (strKind prog w).inj _ _ _ h2 q'
        refine List.pairwise_iff_getElem.mp hnd j x (by simp; omega) (by simp; omega) hj' ?_
        simp [e1, e2]
    have hzx : (es.extract 0 x).size ≤ sizeLine := by simp; omega
    show wpAny _ _ (dictFind d es[x].key es[x].hash >>= _) _ _ _
    rw [hk2]
    refine wpAny_bind (wpAny_dictFind_of (s := { s with heap := h' }) hk1 ho hod hkx ?_)
    rw [hnone]
    simp only [Option.isSome_none, Bool.false_eq_true, if_false]
    rw [← hk2]
    refine dictPut_new (s := { s with heap := h' }) ho hod hoc hkx hk1 hk2 hnone hzx fun h'' hs'' ho'' => ?_
    refine wpAny_bind (wpAny_dictEpoch (s := { s with heap := h'' }) ((hs''.2 a hne).trans ha') hda ?_)
    simp only [bne_self_eq_false, Bool.false_eq_true, if_false]
    refine wpAny_pure ⟨x + 1, h'', ?_, hlt, rfl, hs.trans hs'', ?_⟩
    · rw [hr]; congr 1; omega
    · obtain ⟨o', ep'', h1, h2, h3⟩ := ho''
      refine ⟨o', ep'', h1, h2, ?_⟩
      rw [h3]
      congr 1
      apply Array.ext'
      simp [List.take_add_one, hlt]
  · rintro _ s' ⟨i, h', hr, hi, rfl, hs, o, ep', ho, hoc, hod⟩
    have : i = es.size := by
      rcases Nat.lt_or_ge i es.size with q | q
      · obtain ⟨m, hm⟩ : ∃ m, es.size - i = m + 1 := ⟨es.size - i - 1, by omega⟩
        rw [hm, List.range'_succ] at hr; cases hr
      · omega
    subst this
    exact wpAny_pure (h h' hs ⟨o, ep', ho, hoc, by rw [hod]; simp⟩)

theorem callWith_fn {f : Addr} {first : List Value} {pos : Pos} {Q : Value → Shared → Prop} {args : List (Bool × Sem Value)} {kws : List (Option Str × Sem Value)}
    (h : wpAny (model prog w) A (evalArgs (.ref f) true args kws) (fun a s₁ => (∃ o fd, s₁.heap.get? f = some o ∧ o.data = .func fd) ∧ wpAny (model prog w) A (call (.ref f) (first ++ a.pos) a.kw) Q E s₁) E s) :
    wpAny (model prog w) A (callWith pos (.ref f) first args kws) Q E s := by
  unfold callWith
  refine wpAny_bind (wpAny_holding (wpAny_mono h (fun a s₁ h₁ => wpAny_bind (wpAny_standAt ?_)) fun _ _ x => x))
  obtain ⟨⟨o, fd, ho, hd⟩, h₁⟩ := h₁
  have hk : ∀ {Q' : Keeper → Shared → Prop}, Q' .frame s₁ → wpAny (model prog w) A (keeperOf (.ref f)) Q' E s₁ := fun q => by
    unfold keeperOf
    refine wpAny_bind (wpAny_load ho ?_)
    rw [hd]
    exact wpAny_pure q
  refine wpAny_bind (hk ?_)
  have tail : ∀ {t : Sem Value}, wpAny (model prog w) A t Q E s₁ → wpAny (model prog w) A (t >>= fun r => holding [r] point >>= fun _ => pure r) Q E s₁ :=
    fun ht => wpAny_bind (wpAny_mono ht (fun r s₂ hr => wpAny_bind (wpAny_holding (wpAny_point (wpAny_pure hr)))) fun _ _ x => x)
  have marked (mk : Value) : wpAny (model prog w) A (callMarked mk (.ref f) (first ++ a.pos) a.kw) Q E s₁ := by unfold callMarked; exact Calls.wpAny_keep h₁
  cases hst : (args.any (·.1) || kws.any (·.1.isNone)) with
  | true => exact tail (marked _)
  | false =>
    dsimp only
    split
    · exact tail h₁
    · exact tail (marked _)

theorem evalArgs_star {f : Value} {x : Sem Value} {rest : List (Bool × Sem Value)} {kws : List (Option Str × Sem Value)} {Q : Args → Shared → Prop} (hk : kws.all (·.1.isSome) = false)
    (h : wpAny (model prog w) A (spliced ((false, x) :: rest)) (fun vs s₁ => wpAny (model prog w) A (mergedKeywords f kws) (fun d s₂ => wpAny (model prog w) A (keywordsIn f d) (fun kw s₃ => Q ⟨vs, kw⟩ s₃) E s₂) E s₁) E s) :
    wpAny (model prog w) A (evalArgs f true ((false, x) :: rest) kws) Q E s := by
  unfold evalArgs
  show wpAny (model prog w) A (spliced ((false, x) :: rest) >>= _) Q E s
  refine wpAny_bind (wpAny_mono h (fun vs s₁ h₁ => ?_) fun _ _ x => x)
  refine wpAny_bind (wpAny_pure ?_)
  refine wpAny_holding ?_
  simp only [hk, Bool.false_eq_true, if_false]
  refine wpAny_bind (wpAny_mono h₁ (fun d s₂ h₂ => ?_) fun _ _ x => x)
  refine wpAny_bind (wpAny_pure ?_)
  exact wpAny_bind (wpAny_holding (wpAny_mono h₂ (fun kw s₃ h₃ => wpAny_pure h₃) fun _ _ x => x))

variable {base : Heap} {os₀ : OsState} {led led' : Led}
theorem St.notSys (H : St base os₀ led s) {a : Addr} {P : Asn} (hm : (a, P) ∈ led) {o : Obj} (hs : base.get? sysModules = some o) : (a == sysModules) = false := by
  cases q : a == sysModules with
  | false => rfl
  | true =>
    have e := eq_of_beq q
    have := H.new _ hm
    rw [show ((a, P) : Addr × Asn).1 = sysModules from e, hs] at this
    cases this

theorem merged1 {f : Value} {x : Sem Value} {a : Addr} {kvs : List (Str × Value)} {o₀ : Obj} {Q : Addr → Shared → Prop} (H : St base os₀ led s) (hs : base.get? sysModules = some o₀)
    (hx : ∀ d s₁, St base os₀ ((d, dctA (strKind prog w) []) :: led) s₁ → wpAny (model prog w) A x (fun v s₂ => s₂ = s₁ ∧ v = .ref a) E s₁) (hm : (a, dctA (strKind prog w) kvs) ∈ led) (hz : kvs.length ≤ sizeLine)
    (h : ∀ d s', St base os₀ ((d, dctA (strKind prog w) kvs) :: led) s' → Q d s') : wpAny (model prog w) A (mergedKeywords f [(none, x)]) Q E s := by
  delta mergedKeywords
  refine wpAny_bind (wpAny_alloc ?_)
  have H₁ : St base os₀ ((s.heap.objs.size, dctA (strKind prog w) []) :: led) { s with heap := s.heap.push { cls := .type "dict", data := .dict #[] } } :=
    H.push (tk := s.toks) rfl ⟨#[], 0, ⟨rfl, rfl, rfl⟩, rfl, fun e he => by simp at he, .nil, .nil⟩
  refine wpAny_bind (wpAny_holding ?_)
  refine wpAny_bind ?_
  show wpAny (model prog w) A (Sem.bind (Sem.bind x _) _) _ _ _
  refine wpAny_bind (wpAny_bind (wpAny_mono (hx _ _ H₁) (fun v s₂ h₂ => ?_) fun _ _ q => q))
  obtain ⟨rfl, rfl⟩ := h₂
  obtain ⟨oa, hoa, es, ep, hex, hda, hka, hpa, hna⟩ := H.get hm
  have hoa' := Heap.get?_push_of_some { cls := Value.type "dict", data := Data.dict #[] } hoa
  have hne : a ≠ s.heap.objs.size := H₁.ne hm
  refine wpAny_bind (wpAny_onRaise (wpAny_holding (wpAny_tryCatch (wpAny_onRaise (merge_raw (kvs := kvs) hoa' hda hex (Heap.get?_push_size _ rfl) rfl ⟨rfl, rfl, rfl⟩ hne hka hpa hna (H.notSys hm hs) hz fun h' hsb hd' => ?_)))))
  refine wpAny_pure ?_
  show wpAny _ _ (pure []) _ _ _
  refine wpAny_pure ?_
  show wpAny _ _ (pure ()) _ _ _
  refine wpAny_pure (wpAny_pure ?_)
  obtain ⟨o', ep', h1, h2, h3⟩ := hd'
  exact h _ _ (H₁.upd (tk := s.toks) Up.head hsb.extBut ⟨o', h1, es, ep', h2, h3, hka, hpa, hna⟩)

theorem kwIn {f : Value} {d : Addr} {kvs : List (Str × Value)} {Q : List (Str × Value) → Shared → Prop} (H : St base os₀ led s) (hm : (d, dctA (strKind prog w) kvs) ∈ led) (h : Q kvs s) :
    wpAny (model prog w) A (keywordsIn f d) Q E s := by
  obtain ⟨o, ho, es, ep, hex, hd, hk, hp, hn⟩ := H.get hm
  delta keywordsIn
  refine wpAny_bind (wpAny_dictEntries ho hd ?_)
  refine wpAny_bind ?_
  rw [← Array.forIn_toList]
  refine wpAny_forIn_list _ (fun rest b s' => s' = s ∧ ∃ done kr, kvs = done ++ kr ∧ b = done ∧ Pairs (strKind prog w) rest kr) _ ?_ ?_ _ _ ⟨rfl, [], kvs, rfl, rfl, hp⟩
  · rintro e rest b s' ⟨rfl, done, kr, rfl, rfl, hpr⟩
    cases hpr with
    | @cons _ kv _ kvs' h1 h2 h3 =>
      obtain ⟨t, ht⟩ := Value.isStrOf_shape h1
      obtain ⟨eh, ek, ev⟩ := e
      dsimp only at ht h2
      subst ht h2
      exact wpAny_pure ⟨rfl, b ++ [kv], kvs', by simp, rfl, h3⟩
  · rintro b s' ⟨rfl, done, kr, rfl, rfl, hpr⟩
    cases hpr
    rw [List.append_nil] at h
    exact wpAny_pure h

/-- a str key put by nsSet behind the others -/
theorem nsSet_push {d : Addr} {kvs : List (Str × Value)} {k : Str} {v : Value} {Q : Unit → Shared → Prop} (hm : s.heap.DictOf (strKind prog w) d kvs) (hk : k ∉ kvs.map (·.1))
    (h : ∀ h', h'.DictOf (strKind prog w) d (kvs ++ [(k, v)]) → Heap.SameBut d s.heap h' → Q () { s with heap := h', toks := s.toks + 1 }) :
    wpAny (model prog w) A (nsSet d k v) Q E s := by
  obtain ⟨o, es, ep, ho, hex, hd, hko, hp, hn⟩ := hm
  have hany : es.any (·.refKey) = false := by
    rw [Array.any_eq_false']; intro e he; obtain ⟨n, h1, _⟩ := hko e he; obtain ⟨t, ht⟩ := Value.isStrOf_shape h1; simp [DictEntry.refKey, ht]
  have hstr : ∀ e ∈ es, e.key.isStr k = (strKind prog w).is k e.key := fun e he => by
    obtain ⟨n, h1, _⟩ := hko e he
    obtain ⟨t, ht⟩ := Value.isStrOf_shape h1
    have := (strKind prog w).strs k k 0 e.key (by show Value.isStrOf k (.str k 0) = true; simp [Value.isStrOf])
    exact this.symm
  have hnone : es.findIdx? (fun e => e.key.isStr k) = none := by
    rw [Array.findIdx?_eq_none_iff]
    intro e he
    rw [hstr e he]
    cases q : (strKind prog w).is k e.key with
    | false => rfl
    | true =>
      exfalso
      have := hp.findIdx k
      obtain ⟨j, hj, rfl⟩ := Array.mem_iff_getElem.mp he
      have h2 : (es.toList.findIdx? fun e => (strKind prog w).is k e.key) ≠ none := by
        rw [Ne, List.findIdx?_eq_none_iff]
        intro hh
        have := hh es[j] (by simp)
        rw [q] at this; cases this
      rw [this, Ne, List.findIdx?_eq_none_iff] at h2
      apply h2
      intro kv hkv
      exact decide_eq_false fun e => hk (e ▸ List.mem_map_of_mem hkv)
  intro Γ p hΓ
  simp only [nsSet, strHash, Sem.wp_bind', Sem.wp_cmd_ask, Sem.wp_pure', Sem.wp_cmd_mkText]
  rw [Sem.wp_loadPart_of _ Γ _ p { s with toks := s.toks + 1 } (o := o) _ ho]
  simp only [hd, aRefKeyMayBeTheName_eq, aRefKeyMayBeTheNameByArray, hany, Bool.and_false, Bool.false_eq_true, if_false, Sem.wp_cmd_updatePart]
  obtain ⟨oc, odd, odt, osl⟩ := o
  dsimp only at hd
  subst hd
  have hput : ∀ hsh key, Obj.putName k hsh key v ⟨oc, odd, .dict es ep, osl⟩ = ⟨oc, odd, .dict (es.push ⟨hsh, key, v⟩) (ep + 1), osl⟩ := fun hsh key => by
    simp only [Obj.putName_eq, Obj.putNameByArray, hnone]
  have hsn : ∀ {l : List DictEntry} {kv : List (Str × Value)} {e : DictEntry}, Pairs (strKind prog w) l kv → (strKind prog w).is k e.key = true → e.val = v → Pairs (strKind prog w) (l ++ [e]) (kv ++ [(k, v)]) := fun hl h1 h2 => by
    induction hl with
    | nil => exact .cons h1 h2 .nil
    | cons q1 q2 _ ih => exact .cons q1 q2 ih
  have hkk : (strKind prog w).is k (.str k s.toks) = true := by show Value.isStrOf k (.str k s.toks) = true; simp [Value.isStrOf]
  refine ⟨by rw [ho]; rfl, h _ ⟨⟨oc, odd, .dict (es.push ⟨hashStr w k, .str k s.toks, v⟩) (ep + 1), osl⟩, es.push ⟨hashStr w k, .str k s.toks, v⟩, ep + 1, (Heap.get?_update_self _ ho (by rw [hput]; rfl)).trans (by rw [hput]; rfl), hex, rfl, hko.push hkk v, ?_, ?_⟩ (Heap.SameBut.update ..)⟩
  · rw [Array.toList_push]; exact hsn hp hkk rfl
  · rw [List.map_append, List.nodup_append]
    refine ⟨hn, by simp, ?_⟩
    intro y hy z hz
    simp only [List.map_cons, List.map_nil, List.mem_singleton] at hz
    subst hz
    exact fun e => hk (e ▸ hy)

theorem nsSets {d : Addr} {f : Str × Value → PUnit → Sem (ForInStep PUnit)} (hf : ∀ n v u, f (n, v) u = (do nsSet d n v; pure (.yield ⟨⟩))) :
    ∀ (kws kvs : List (Str × Value)) (s : Shared) (Q : PUnit → Shared → Prop), s.heap.DictOf (strKind prog w) d kvs → (∀ k ∈ kws.map (·.1), k ∉ kvs.map (·.1)) → (kws.map (·.1)).Nodup →
      (∀ h' tk, h'.DictOf (strKind prog w) d (kvs ++ kws) → Heap.SameBut d s.heap h' → Q ⟨⟩ { s with heap := h', toks := tk }) → wpAny (model prog w) A (forIn kws ⟨⟩ f) Q E s
  | [], kvs, s, Q, hm, _, _, h => by rw [List.forIn_nil]; exact wpAny_pure (h s.heap s.toks (by rwa [List.append_nil]) (Heap.SameBut.refl ..))
  | (n, v) :: r, kvs, s, Q, hm, hk, hn, h => by
    rw [List.forIn_cons, hf]
    refine wpAny_bind (wpAny_bind (nsSet_push hm (hk n (.head _)) fun h' hm' hs' => wpAny_pure ?_))
    simp only [List.map_cons, List.nodup_cons] at hn
    refine nsSets hf r (kvs ++ [(n, v)]) _ Q hm' (fun k hkr => ?_) hn.2 fun h'' tk hm'' hs'' => h h'' tk (by rwa [List.append_assoc] at hm'') (hs'.trans hs'')
    rw [List.map_append, List.mem_append]
    rintro (q | q)
    · exact hk k (.tail _ hkr) q
    · simp only [List.map_cons, List.map_nil, List.mem_singleton] at q
      subst q; exact hn.1 hkr
end
end Mine

namespace Mine
open PySem PySem.W PyProof.Rows PySem.Calls PySem.Spec
section
variable {prog : Program} {w : World} {A : Around} {E : Value → Shared → Prop} {s : Shared} {base : Heap} {os₀ : OsState} {led led' : Led}
theorem lookup_zip_some : ∀ (names : List Str) (vs : List Value), vs.length = names.length → ∀ n ∈ names, ((names.zip vs).lookup n).isSome = true
  | [], _, _, _, h => nomatch h
  | a :: r, v :: vs, hl, n, h => by
    rw [List.zip_cons_cons, List.lookup_cons]
    cases q : n == a with
    | true => rfl
    | false =>
      refine lookup_zip_some r vs (by simpa using hl) n ?_
      rcases List.mem_cons.mp h with rfl | h
      · simp at q
      · exact h
theorem filterMap_zip : ∀ (names : List Str) (vs : List Value), vs.length = names.length → names.Nodup → (names.filterMap fun n => ((names.zip vs).lookup n).map (n, ·)) = names.zip vs
  | [], _, _, _ => by simp
  | a :: r, v :: vs, hl, hn => by
    rw [List.nodup_cons] at hn
    have ih := filterMap_zip r vs (by simpa using hl) hn.2
    rw [List.zip_cons_cons, List.filterMap_cons]
    simp only [List.lookup_cons, beq_self_eq_true, Option.map_some]
    congr 1
    have cong : ∀ (l : List Str) (f g : Str → Option (Str × Value)), (∀ x ∈ l, f x = g x) → l.filterMap f = l.filterMap g := fun l f g hfg => by
      induction l with
      | nil => rfl
      | cons x l ih' => rw [List.filterMap_cons, List.filterMap_cons, hfg x (.head _), ih' fun y hy => hfg y (.tail _ hy)]
    refine (cong r _ _ fun n hnr => ?_).trans ih
    have : (n == a) = false := by
      cases q : n == a with
      | false => rfl
      | true => exact absurd (eq_of_beq q ▸ hnr) hn.1
    simp only [this]
theorem bind_kw {fd : FuncData} {normal : List Str} {kwa : Arg} {vs : List Value} {kws : List (Str × Value)} {Q : List (Str × Value) → Shared → Prop}
    (hpo : fd.params.posonlyargs = []) (hn : fd.params.args.map (·.arg) = normal) (hko : fd.params.kwonlyargs = []) (hva : fd.params.vararg = none) (hkw : fd.params.kwarg = some kwa) (hdf : fd.defaults = .none)
    (hlen : vs.length = normal.length) (hnd : normal.Nodup) (hdis : ∀ k ∈ kws.map (·.1), k ∉ normal) (hkn : (kws.map (·.1)).Nodup) (hz : kws.length ≤ sizeLine + 1) (H : St base os₀ led s)
    (h : ∀ d s', St base os₀ ((d, dctA (strKind prog w) kws) :: led) s' → Q (normal.zip vs ++ [(kwa.arg, .ref d)]) s') :
    wpAny (model prog w) A (bindArgs fd ⟨vs, kws⟩) Q E s := by
  unfold bindArgs
  simp only [hpo, hn, hko, hva, hkw, hdf, List.map_nil, List.nil_append, List.append_nil]
  refine wpAny_bind ?_
  refine wpAny_forIn_list _ (fun rest b s' => s' = s ∧ ∃ done, kws = done ++ rest ∧ b = (normal.zip vs, done)) _ ?_ ?_ _ _ ⟨rfl, [], rfl, rfl⟩
  · rintro ⟨k, v⟩ rest b s' ⟨rfl, done, rfl, rfl⟩
    have hc : normal.contains k = false := by
      cases q : normal.contains k with
      | false => rfl
      | true => exact absurd (List.contains_iff_mem.mp q) (hdis k (by simp))
    simp only [hc, List.contains_nil, Bool.or_self, Bool.false_eq_true, if_false, Option.isSome_some, if_true]
    exact wpAny_pure ⟨rfl, done ++ [(k, v)], by simp, rfl⟩
  · rintro b s' ⟨rfl, done, hd, rfl⟩
    rw [List.append_nil] at hd
    subst hd
    show wpAny _ _ (pure none >>= _) _ _ _
    refine wpAny_bind (wpAny_pure ?_)
    have hgt : decide (vs.length > normal.length) = false := decide_eq_false (by omega)
    have hmiss : (normal.filter fun n => ((normal.zip vs).lookup n).isNone) = [] := by
      rw [List.filter_eq_nil_iff]
      intro n hnn
      have := lookup_zip_some normal vs hlen n hnn
      cases q : (normal.zip vs).lookup n with
      | none => rw [q] at this; cases this
      | some _ => simp
    simp only [Option.getD_none, List.drop_nil, List.length_nil, Nat.sub_zero, List.take_length, hmiss, hgt, Bool.false_and, Bool.false_eq_true, if_false, List.isEmpty_nil, Bool.not_true, List.zip_nil_right, List.forIn_nil]
    refine wpAny_bind (wpAny_pure (wpAny_bind (wpAny_pure ?_)))
    simp only [List.isEmpty_nil, Bool.not_true, Bool.false_eq_true, if_false, if_neg (Nat.not_lt.mpr hz), filterMap_zip normal vs hlen hnd]
    refine wpAny_bind (wpAny_alloc ?_)
    refine wpAny_bind (nsSets (fun n v u => rfl) kws [] _ _ ⟨_, #[], 0, Heap.get?_push_size _ rfl, ⟨rfl, rfl, rfl⟩, rfl, fun e he => by simp at he, .nil, .nil⟩ (fun _ _ => by simp) hkn fun h' tk hm' hs' => wpAny_pure ?_)
    rw [List.nil_append] at hm'
    refine h _ _ (H.more (fun b o e => ?_) (Nat.le_refl _) (dctA_of hm').choose_spec.1 (dctA_of hm').choose_spec.2)
    exact (hs'.2 b (Nat.ne_of_lt (Heap.lt_size e))).trans (Heap.get?_push_of_some _ e)

/-- a call of a def without cells of its own -/
theorem fn_enter {f : Addr} {o : Obj} {fd : FuncData} {body : List Stmt} {args : Args} {Q : Value → Shared → Prop} (H : St base os₀ led s) (hroom : A.depth < recursionLimit) (hlim : base.NoLimit)
    (ho : s.heap.get? f = some o) (hdata : o.data = .func fd) (hcd : s.heap.CodeRec fd.code fd.qualname) (hbody : fd.body = .stmts body)
    (hcell : ∀ x ∈ fd.scope.names, x.2 ≠ .cell)
    (h : wpAny (model prog w) A.in1 (bindArgs fd args) (fun binds s₁ => ∃ led₁, St base os₀ led₁ s₁ ∧ (∀ x ∈ binds, fd.scope.names.lookup x.1 = some .local) ∧
      ∀ L s₂, St base os₀ ((L, nsA fun x => binds.reverse.lookup x) :: led₁) s₂ →
        wpAny (model prog w) (A.deeper (callEnv fd L f)) (execs body (callEnv fd L f)) (fun fl s' => Q (match fl with | .ret v => v | _ => .none) s')
          (fun e s' => wpAny (model prog w) (A.deeper (callEnv fd L f)) (leaving (callEnv fd L f) e) (fun _ s'' => E e s'') (fun e' s'' => E e' s'') s') s₂) E s)
    (hco : fd.scope.isCoroutine = false := by rfl) (hgen : fd.scope.isGenerator = false := by rfl) (hk : fd.scope.kind = .function := by rfl) :
    wpAny (model prog w) A (call (.ref f) args.pos args.kw) Q E s := by
  refine wpAny_call (codeAny_call_function hroom ho hdata hco hgen hbody hcd (wpAny_mono h (fun binds s₁ h₁ => ?_) fun _ _ x => x))
  obtain ⟨led₁, H₁, hl, h₁⟩ := h₁
  refine wpAny_newFunctionEnv hcell hl (fun h' hns hsb => ?_) hk
  have H₂ : St base os₀ ((s₁.heap.objs.size, nsA fun x => binds.reverse.lookup x) :: led₁) { s₁ with heap := h', toks := s₁.toks + binds.length } := by
    obtain ⟨o', ho', hp'⟩ := nsA_of hns
    exact H₁.more (fun b o e => hsb.extBut b o (Nat.ne_of_lt (Heap.lt_size e)) (Heap.get?_push_of_some _ e)) (Nat.le_refl _) ho' hp'
  exact ⟨hlim.keeps H₂.keep, codeAny_func (h₁ _ _ H₂)⟩

/-- a call of a lambda -/
theorem lam_enter {f : Addr} {o : Obj} {fd : FuncData} {body : Expr} {args : Args} {Q : Value → Shared → Prop} (H : St base os₀ led s) (hroom : A.depth < recursionLimit) (hlim : base.NoLimit)
    (ho : s.heap.get? f = some o) (hdata : o.data = .func fd) (hcd : s.heap.CodeRec fd.code fd.qualname) (hbody : fd.body = .expr body)
    (hcell : ∀ x ∈ fd.scope.names, x.2 ≠ .cell)
    (h : wpAny (model prog w) A.in1 (bindArgs fd args) (fun binds s₁ => ∃ led₁, St base os₀ led₁ s₁ ∧ (∀ x ∈ binds, fd.scope.names.lookup x.1 = some .local) ∧
      ∀ L s₂, St base os₀ ((L, nsA fun x => binds.reverse.lookup x) :: led₁) s₂ →
        wpAny (model prog w) (A.deeper (callEnv fd L f)) (eval body (callEnv fd L f)) Q
          (fun e s' => wpAny (model prog w) (A.deeper (callEnv fd L f)) (leaving (callEnv fd L f) e) (fun _ s'' => E e s'') (fun e' s'' => E e' s'') s') s₂) E s)
    (hco : fd.scope.isCoroutine = false := by rfl) (hgen : fd.scope.isGenerator = false := by rfl) (hk : fd.scope.kind = .function := by rfl) :
    wpAny (model prog w) A (call (.ref f) args.pos args.kw) Q E s := by
  refine wpAny_call (kla_callFunE hroom ho hdata hco hgen hbody hcd (wpAny_mono h (fun binds s₁ h₁ => ?_) fun _ _ x => x))
  obtain ⟨led₁, H₁, hl, h₁⟩ := h₁
  refine wpAny_newFunctionEnv hcell hl (fun h' hns hsb => ?_) hk
  have H₂ : St base os₀ ((s₁.heap.objs.size, nsA fun x => binds.reverse.lookup x) :: led₁) { s₁ with heap := h', toks := s₁.toks + binds.length } := by
    obtain ⟨o', ho', hp'⟩ := nsA_of hns
    exact H₁.more (fun b o e => hsb.extBut b o (Nat.ne_of_lt (Heap.lt_size e)) (Heap.get?_push_of_some _ e)) (Nat.le_refl _) ho' hp'
  exact ⟨hlim.keeps H₂.keep, kla_codeExpr (h₁ _ _ H₂)⟩

end
end Mine

namespace Mine
open PySem PySem.W PyProof.Rows PySem.Calls PySem.Spec
theorem Up.of_mem {a : Addr} {P : Asn} : ∀ {l : Led}, (a, P) ∈ l → Up a P P l l
  | _ :: _, .head _ => .head
  | _ :: _, .tail _ h => .tail (Up.of_mem h)

def ex0 (cls : String) : Asn := fun o => o.cls = .type cls ∧ ∃ vs, o.data = .fields vs ∧ 4 < vs.size ∧ vs[1]? = some .none
def ex1 (cls : String) (t : Addr) : Asn := fun o => o.cls = .type cls ∧ ∃ vs, o.data = .fields vs ∧ 4 < vs.size ∧ vs[1]? = some (.ref t)
def tbA : Asn := fun o => ∃ vs, o.data = .fields vs ∧ 3 < vs.size
/-- an exception that has a traceback -/
def Fly (base : Heap) (os₀ : OsState) (led : Led) (e : Addr) (cls : String) (s : Shared) : Prop := ∃ t, St base os₀ ((e, ex1 cls t) :: (t, tbA) :: led) s
def FramesOk (led : Led) (fs : List Env) : Prop := ∀ env ∈ fs, env.scope.kind ≠ .module ∧ ∃ L m, env.frame = some L ∧ (L, nsA m) ∈ led
theorem FramesOk.mono {led led' : Led} {fs : List Env} (h : FramesOk led fs) (hs : ∀ p ∈ led, p ∈ led') : FramesOk led' fs := fun env he => by
  obtain ⟨h1, L, m, h2, h3⟩ := h env he
  exact ⟨h1, L, m, h2, hs _ h3⟩
theorem FramesOk.cons {led : Led} {fs : List Env} {env : Env} {L : Addr} {m : Str → Option Value} (h : FramesOk led fs) (hk : env.scope.kind ≠ .module) (hf : env.frame = some L) (hm : (L, nsA m) ∈ led) : FramesOk led (env :: fs) := fun env' he => by
  rcases List.mem_cons.mp he with rfl | he
  · exact ⟨hk, L, m, hf, hm⟩
  · exact h env' he
theorem FramesOk.tail {led : Led} {fs : List Env} {env : Env} (h : FramesOk led (env :: fs)) : FramesOk led fs := fun env' he => h env' (.tail _ he)

section
variable {prog : Program} {w : World} {A : Around} {E : Value → Shared → Prop} {s : Shared} {base : Heap} {os₀ : OsState} {led led' : Led} {e : Addr} {cls : String} {env : Env}

theorem ready {M : Model} : ∀ (fs : List Env) {s : Shared} {Q : Unit → Shared → Prop}, St base os₀ led s → FramesOk led fs → (∀ s', St base os₀ led s' → Q () s') → wpAny M A (readyFrames fs) Q E s
  | [], s, Q, H, _, h => by simp only [readyFrames]; exact wpAny_pure (h s H)
  | env :: outer, s, Q, H, hF, h => by
    obtain ⟨hk, L, m, hf, hm⟩ := hF env (.head _)
    obtain ⟨o, ho, hn⟩ := H.get hm
    simp only [readyFrames, hf]
    refine wpAny_bind (wpAny_load ho ?_)
    by_cases hr : ((o.slots.getD 3 none).isSome) = true
    · rw [if_pos hr]; exact wpAny_pure (h _ H)
    · rw [if_neg hr]
      refine wpAny_bind (wpAny_of_eq (a := false) (by simp [behindIsImport, hk]) ?_)
      have rest : ∀ back, wpAny M A (do
          update L fun o => { o with slots := #[some env.code, some (.ref env.globals), o.slots.getD 2 none, some back, o.slots.getD 4 none, env.func.map Value.ref, some (.ref env.builtins)] ++ (env.cells.map fun c => some (.ref c.2)).toArray }
          readyFrames outer) Q E s := fun back => by
        refine wpAny_bind (wpAny_update ho ?_)
        obtain ⟨es, ep, hd, hrest⟩ := hn
        have hnf : o.isFreed = false := Obj.isFreed_of_dict hd
        refine ready outer (H.upd (tk := s.toks) (Up.of_mem hm) (Heap.SameBut.update ..).extBut ⟨_, Heap.get?_update_self _ ho ?_, es, ep, hd, hrest⟩) hF.tail h
        obtain ⟨c, d, dt, sl⟩ := o
        cases dt <;> first | rfl | exact hnf
      cases outer with
      | nil => exact wpAny_bind (wpAny_keptBack_nil fun v => rest v)
      | cons c r => exact wpAny_bind (wpAny_pure (rest _))

theorem frameOf_ok {M : Model} {fs : List Env} {L : Addr} {Q : Value → Shared → Prop} (H : St base os₀ led s) (hfr : A.frames = some fs) (hF : FramesOk led fs) (hin : env ∈ fs) (hf : env.frame = some L)
    (h : ∀ v s', St base os₀ led s' → Q v s') : wpAny M A (PySem.frameOf env) Q E s := by
  unfold PySem.frameOf
  refine wpAny_bind (wpAny_frameEnvs hfr ?_)
  have hsub : ∀ x ∈ fs.dropWhile (fun x => x.frame != env.frame), x ∈ fs := fun x hx => (List.dropWhile_sublist _).subset hx
  have hne : fs.dropWhile (fun x => x.frame != env.frame) ≠ [] := fun q => by
    have hall : ∀ (l : List Env), l.dropWhile (fun x => x.frame != env.frame) = [] → ∀ x ∈ l, (x.frame != env.frame) = true := fun l => by
      induction l with
      | nil => intro _ x hx; cases hx
      | cons y r ih =>
        intro hl x hx
        rw [List.dropWhile_cons] at hl
        split at hl
        · rename_i hy
          rcases List.mem_cons.mp hx with rfl | hx
          · exact hy
          · exact ih hl x hx
        · cases hl
    have := hall fs q env hin
    simp at this
  cases hq : fs.dropWhile (fun x => x.frame != env.frame) with
  | nil => exact absurd hq hne
  | cons y r =>
    rw [hq] at hsub
    have hF' : FramesOk led (y :: r) := fun x hx => hF x (hsub x hx)
    unfold frameObject
    refine wpAny_bind (wpAny_bind (ready _ H hF' fun s' H' => wpAny_pure ?_))
    obtain ⟨_, Ly, _, hfy, _⟩ := hF' y (.head _)
    rw [hfy]
    exact wpAny_pure (h _ s' H')

theorem setF {M : Model} {a : Addr} {P P' : Asn} {i : Nat} {x : Value} {Q : Unit → Shared → Prop} (H : St base os₀ led s) (U : Up a P P' led led') (hP : ∀ o, P o → ∃ vs, o.data = .fields vs ∧ i < vs.size ∧ ∀ o', o'.cls = o.cls → o'.data = .fields (vs.setIfInBounds i x) → P' o')
    (h : ∀ s', St base os₀ led' s' → Q () s') : wpAny M A (setField (.ref a) i x) Q E s := by
  obtain ⟨o, ho, hp⟩ := H.get U.mem
  obtain ⟨vs, hd, hi, hP'⟩ := hP o hp
  refine wpAny_setField ho hd hi (h _ (H.upd (tk := s.toks) U (Heap.SameBut.update ..).extBut ⟨_, Heap.get?_update_self _ ho (Obj.isFreed_of_fields (Obj.data_mapFields hd _)), hP' _ (Obj.cls_mapFields ..) (Obj.data_mapFields hd _)⟩))

theorem note_tail {M : Model} {fs : List Env} {L : Addr} {P : Asn} {head : Value} {b : Bool} {Q : Unit → Shared → Prop} (H : St base os₀ ((e, P) :: led) s) (hP : ∀ o, P o → o.cls = .type cls ∧ ∃ vs, o.data = .fields vs ∧ 4 < vs.size)
    (hfr : A.frames = some fs) (hF : FramesOk led fs) (hin : env ∈ fs) (hf : env.frame = some L) (h : ∀ s', Fly base os₀ led e cls s' → Q () s') :
    wpAny M A (do let fr ← PySem.frameOf env; let pl ← entryPlaceOf L b; let t ← EntryCells.newEntry head fr .none (rawInt L) .none pl; setField (.ref e) 1 t) Q E s := by
  refine wpAny_bind (frameOf_ok H hfr (hF.mono fun p hp => .tail _ hp) hin hf fun v s' H' => ?_)
  refine wpAny_bind (wpAny_entryPlaceOf fun pl hpl => ?_)
  unfold EntryCells.newEntry newFields
  refine wpAny_bind (wpAny_newObj_type ?_ (hpl.sizeOk5 _ _ _ _ _))
  have H₂ := H'.push (tk := s'.toks) (P := tbA) (o := { cls := .type "traceback", dict := none, data := .fields ([head, v, .none, rawInt L, .none] ++ (if pl.isEmpty then List.replicate 6 Value.none else pl)).toArray }) rfl ⟨_, rfl, by simp⟩
  refine setF (P' := ex1 cls s'.heap.objs.size) H₂ (.tail .head) (fun o hp => ?_) fun s'' H'' => h s'' ⟨_, H''.perm (.swap ..)⟩
  obtain ⟨hc, vs, hd, hsz⟩ := hP o hp
  refine ⟨vs, hd, by omega, fun o' hc' hd' => ⟨hc'.trans hc, _, hd', by simpa using hsz, ?_⟩⟩
  rw [Array.getElem?_setIfInBounds_self_of_lt (by omega)]

theorem note0 {M : Model} {fs : List Env} {L : Addr} {Q : Unit → Shared → Prop} (H : St base os₀ ((e, ex0 cls) :: led) s) (hfr : A.frames = some fs) (hF : FramesOk led fs) (hin : env ∈ fs) (hf : env.frame = some L)
    (h : ∀ s', Fly base os₀ led e cls s' → Q () s') : wpAny M A (noteFrame (.ref e) env) Q E s := by
  obtain ⟨o, ho, hc, vs, hd, hsz, h1⟩ := H.get (.head _)
  unfold noteFrame
  simp only [hf]
  refine wpAny_bind (wpAny_field ho hd h1 ?_)
  rw [if_neg (by decide)]
  exact note_tail H (fun o hp => ⟨hp.1, let ⟨vs, a, b, _⟩ := hp.2; ⟨vs, a, b⟩⟩) hfr hF hin hf h

theorem note1 {M : Model} {fs : List Env} {L : Addr} {Q : Unit → Shared → Prop} (H : Fly base os₀ led e cls s) (hfr : A.frames = some fs) (hF : FramesOk led fs) (hin : env ∈ fs) (hf : env.frame = some L)
    (h : ∀ s', Fly base os₀ led e cls s' → Q () s') : wpAny M A (noteFrame (.ref e) env) Q E s := by
  obtain ⟨t, H⟩ := H
  obtain ⟨o, ho, hc, vs, hd, hsz, h1⟩ := H.get (.head _)
  obtain ⟨ot, hot, tvs, htd, htz⟩ := H.get (.tail _ (.head _))
  unfold noteFrame
  simp only [hf]
  refine wpAny_bind (wpAny_field ho hd h1 ?_)
  rw [if_pos (show (Value.ref t != Value.none) = true from by simp)]
  refine wpAny_bind (wpAny_field hot htd (Array.getElem?_eq_getElem htz) ?_)
  by_cases hq : (tvs[3] == rawInt L) = true
  · rw [if_pos hq]; exact wpAny_pure (h s ⟨t, H⟩)
  · rw [if_neg hq]
    refine wpAny_bind (setF (P' := tbA) H (.tail .head) (fun o hp => ?_) fun s' H' => ?_)
    · obtain ⟨vs', hd', hz'⟩ := hp
      exact ⟨vs', hd', hz', fun o' _ hd'' => ⟨_, hd'', by simpa using hz'⟩⟩
    · exact note_tail H' (fun o hp => ⟨hp.1, let ⟨vs, a, b, _⟩ := hp.2; ⟨vs, a, b⟩⟩) hfr (hF.mono fun p hp => .tail _ hp) hin hf fun s'' ⟨t', H''⟩ => h s'' ⟨t', H''.sub (.cons_cons _ (.cons_cons _ (.cons _ (.refl _))))⟩

theorem flight {M : Model} {x : Option Addr} {Q : Unit → Shared → Prop} (H : Fly base os₀ led e cls s) (h : ∀ s', Fly base os₀ led e cls s' → Q () s') : wpAny M A (setFlight (.ref e) x) Q E s := by
  obtain ⟨t, H⟩ := H
  obtain ⟨o, ho, hc, vs, hd, hsz, h1⟩ := H.get (.head _)
  unfold setFlight
  refine wpAny_bind (wpAny_field ho hd h1 ?_)
  rw [if_pos (show (Value.ref t != Value.none) = true from by simp)]
  refine setF (P' := tbA) H (.tail .head) (fun o hp => ?_) fun s' H' => h s' ⟨t, H'⟩
  obtain ⟨vs', hd', hz'⟩ := hp
  exact ⟨vs', hd', hz', fun o' _ hd'' => ⟨_, hd'', by simpa using hz'⟩⟩

theorem leave0 {M : Model} {fs : List Env} {L : Addr} {Q : Unit → Shared → Prop} (H : St base os₀ ((e, ex0 cls) :: led) s) (hfr : A.frames = some fs) (hF : FramesOk led fs) (hin : env ∈ fs) (hf : env.frame = some L)
    (h : ∀ s', Fly base os₀ led e cls s' → Q () s') : wpAny M A (leaving env (.ref e)) Q E s := by
  unfold leaving
  exact wpAny_bind (note0 H hfr hF hin hf fun s' H' => flight H' h)
theorem of_newExc {h' : Heap} {tk : Nat} (H : St base os₀ led s) (x : Heap.NewExc s.heap h' e cls) : St base os₀ ((e, ex0 cls) :: led) { s with heap := h', toks := tk } := by
  obtain ⟨ob, t, h1, h2, h3⟩ := x.there
  have hne : ∀ p ∈ led, p.1 ≠ e := fun p hp q => by
    obtain ⟨o, ho, _⟩ := H.has p hp
    rw [q, x.new] at ho; cases ho
  refine ⟨fun b o e => x.keeps b o (H.keep b o e), ?_, fun p hp => ?_, fun p hp => ?_, H.gens, H.os⟩
  · simp only [List.map_cons, List.nodup_cons]
    exact ⟨fun h => by obtain ⟨p, hp, q⟩ := List.mem_map.mp h; exact hne p hp q, H.nd⟩
  · rcases List.mem_cons.mp hp with rfl | hp
    · exact ⟨ob, h1, h2, _, h3, by simp, rfl⟩
    · obtain ⟨o, ho, q⟩ := H.has p hp; exact ⟨o, x.keeps _ _ ho, q⟩
  · rcases List.mem_cons.mp hp with rfl | hp
    · cases q : base.get? e with
      | none => rfl
      | some o => have := H.keep _ _ q; rw [x.new] at this; cases this
    · exact H.new p hp
end
end Mine

namespace Mine
open PySem PySem.W PyProof.Rows PySem.Calls PySem.Spec
def tabA (ps : Array Value) : Asn := fun o => o = tabObj ps
def codeA (qual : Str) : Asn := fun o => ∃ vs t, o.data = .fields vs ∧ vs[1]? = some (.str qual t)
/-- what the top gives -/
structure Gr (base : Heap) (mg mb : Str → Option Value) : Prop where
  g : base.Ns mainGlobals mg
  b : base.Ns builtinsNs mb
  lim : base.NoLimit
  sys : ∃ o, base.get? sysModules = some o
  bmain : ∃ bm ob, mg "__builtins__" = some (.ref bm) ∧ bm ≠ builtinsNs ∧ base.get? bm = some ob ∧ ob.cls = .type "module" ∧ ob.dict = some builtinsNs ∧ ob.data = .plain
section
variable {M : Model} {A : Around} {E : Value → Shared → Prop} {s : Shared} {base : Heap} {os₀ : OsState} {led : Led} {env : Env} {mg mb : Str → Option Value} {c P : Addr} {ps : Array Value} {pos : Pos} {firstLine : Nat} {name qual : Str} {params : Arguments} {scope : Scope}
  {clos : List (Str × Addr)} {Q : Value → Shared → Prop}

theorem Gr.builtinsAt (G : Gr base mg mb) (H : St base os₀ led s) (hm : (P, tabA ps) ∈ led) : mainGlobals ≠ P ∧ s.heap.BuiltinsAt mg P := by
  obtain ⟨o, ho, rfl⟩ := H.get hm
  obtain ⟨bm, ob, b1, b2, b3, b4, b5, b6⟩ := G.bmain
  have hgP : mainGlobals ≠ P := fun q => by
    obtain ⟨o, es, ep, e, hd, _⟩ := G.g
    have := H.keep _ _ e
    rw [q, ho] at this; cases this; cases hd
  have hbP : bm ≠ P := fun q => by
    have e := H.keep _ _ b3
    rw [q, ho] at e; cases e; cases b4
  have hbG : bm ≠ mainGlobals := fun q => by
    obtain ⟨o, es, ep, e, hd, _⟩ := G.g
    rw [q, e] at b3; cases b3; rw [hd] at b6; cases b6
  exact ⟨hgP, bm, ob, b1, b2, hbG, hbP, H.keep _ _ b3, b4, b5, b6⟩

theorem St.made {h' : Heap} {tk c' : Nat} {o : Obj} {led' : Led} {ps' : Array Value} (H : St base os₀ led s) (U : Up P (tabA ps) (tabA ps') led led') (hx : Heap.ExtBut P s.heap h') (hge : s.heap.objs.size ≤ c') (hlt : c' < h'.objs.size) (hrec : h'.CodeRec (.ref c') qual)
    (hP : h'.get? P = some (tabObj ps')) (hf : o.isFreed = false) : St base os₀ ((h'.objs.size, objA o) :: (c', codeA qual) :: led') { s with heap := h'.push o, toks := tk } := by
  obtain ⟨c₂, oc, vs, t, e2, hoc, hd, hv⟩ := hrec
  cases e2
  have H₁ : St base os₀ led' { s with heap := h', toks := tk } := H.upd U hx ⟨_, hP, rfl⟩
  have hc' : c' ∉ led'.map (·.1) := fun q => by
    rw [U.keys] at q
    obtain ⟨p, hp, e⟩ := List.mem_map.mp q
    obtain ⟨o', ho', _⟩ := H.has p hp
    have := Heap.lt_size ho'
    rw [e] at this
    exact absurd this (Nat.not_lt.mpr hge)
  have H₂ : St base os₀ ((c', codeA qual) :: led') { s with heap := h', toks := tk } := by
    refine ⟨H₁.keep, by simp only [List.map_cons, List.nodup_cons]; exact ⟨hc', H₁.nd⟩, fun p hp => ?_, fun p hp => ?_, H₁.gens, H₁.os⟩
    · rcases List.mem_cons.mp hp with rfl | hp
      · exact ⟨oc, hoc, vs, t, hd, hv⟩
      · exact H₁.has p hp
    · rcases List.mem_cons.mp hp with rfl | hp
      · exact H.newAt hge
      · exact H₁.new p hp
  exact H₂.push (tk := tk) hf rfl

theorem mk_lam_new {body : Expr} {led' : Addr → Led} (H : St base os₀ led s) (G : Gr base mg mb) (C : CodeHd base c P) (hcode : env.code = .ref c) (hge0 : env.globals = mainGlobals) (hcl : closureFor scope env = pure clos)
    (ht : TriplesOk ps.toList) (hnf : codeAmong pos ps.toList = none) (U : ∀ c', Up P (tabA ps) (tabA (ps ++ #[rawInt pos.line, rawInt pos.col, .ref c'])) led (led' c'))
    (h : ∀ f c' ctv s', St base os₀ ((f, objA (kla_obj name qual params body scope clos ((mg "__name__").getD .none) c' ctv)) :: (c', codeA qual) :: led' c') s' → Q (.ref f) s') :
    wpAny M A (makeFunction name qual params (.expr body) scope env [] [] [] pos firstLine) Q E s := by
  have hm := (U 0).mem
  obtain ⟨hgP, hb⟩ := G.builtinsAt H hm
  obtain ⟨o, ho, rfl⟩ := H.get hm
  refine kla_makeFunction (mg := mg) hcl hge0 (G.g.keeps H.keep) hcode (C.keeps H.keep) ho ht hnf hgP hb fun c' ctv h' tk hx hge hlt hrec htb => ?_
  exact h _ c' ctv _ (H.made (U c') hx hge hlt hrec htb rfl)

end
end Mine

namespace Mine
open PySem PySem.W PyProof.Rows PySem.Calls PySem.Spec
section
variable {prog : Program} {w : World} {A : Around} {E : Value → Shared → Prop} {s : Shared} {base : Heap} {os₀ : OsState} {led led' : Led} {env : Env} {e : Addr} {cls : String}

theorem l_append {l : Addr} {vs : List Value} {x : Value} {Q : Value → Shared → Prop} (H : St base os₀ led s) (U : Up l (lstA vs) (lstA (vs ++ [x])) led led') (h : ∀ s', St base os₀ led' s' → Q .none s') (hsz : vs.length ≤ sizeLine := by size_fits) :
    wpAny (model prog w) A (call (.builtin "list.append") [.ref l, x]) Q E s := by
  obtain ⟨o, ho, n, rfl⟩ := H.get U.mem
  exact append_at ho (fun h' hs ho' => h _ (H.upd (tk := s.toks) U hs.extBut ⟨_, ho', n + 1, by rw [List.push_toArray]⟩)) (by rw [List.size_toArray]; exact hsz)

/-- a method of a list, called with one argument -/
theorem l_append_stmt {o a : Expr} {apos pos : Pos} {l : Addr} {pl : Sem Bool} {Q : Value → Shared → Prop}
    (h : wpAny (model prog w) A (eval o env) (fun ov s₁ => ov = .ref l ∧ (∃ ob, s₁.heap.get? l = some ob ∧ ob.cls = .type "list" ∧ ob.dict = none) ∧ wpAny (model prog w) A (eval a env) (fun v s₂ => wpAny (model prog w) A (call (.builtin "list.append") [.ref l, v]) Q E s₂) E s₁) E s)
    (he : eval (.Call (.Attribute o (Str.ofString "append") apos) [a] [] pos) env = (do
      let ov ← eval o env
      standAt apos.atName
      let (f, first) ← holding [ov] (getMethod ov (Str.ofString "append") pl)
      callWith pos f first (backTo pos (starEach [a] env)) (backToKw pos (keywordEach [] env))) := by rfl)
    (ha : starEach [a] env = [(false, eval a env)] := by rfl) :
    wpAny (model prog w) A (eval (.Call (.Attribute o (Str.ofString "append") apos) [a] [] pos) env) Q E s := by
  refine methodCall_KW (pl := pl) (wpAny_mono h (fun ov s₁ h₁ => ?_) fun _ _ x => x) he
  obtain ⟨rfl, ⟨ob, ho, hc, hd⟩, h₁⟩ := h₁
  refine getMethod_list_append ho hc hd ?_
  rw [ha]
  exact callWith_builtin rfl (evalArgs_plain (spliced_cons (wpAny_mono h₁ (fun v s₂ h₂ => spliced_nil h₂) fun _ _ x => x)))
end
end Mine

namespace Mine
open PySem PySem.W PyProof.Rows PySem.Calls PySem.Spec
/-- one entry is taken out of a ledger -/
inductive Pick (a : Addr × Asn) : Led → Led → Prop
  | head {l} : Pick a (a :: l) l
  | tail {b l l'} : Pick a l l' → Pick a (b :: l) (b :: l')
theorem Pick.perm {a : Addr × Asn} {l l' l'' : Led} (h : Pick a l l') (hp : l''.Perm l') : (a :: l'').Perm l := by
  have : (a :: l').Perm l := by
    clear hp
    induction h with
    | head => exact .refl _
    | tail _ ih => exact (List.Perm.swap ..).trans (ih.cons _)
  exact (hp.cons a).trans this
def itA (l : Addr) (i : Nat) : Asn := fun o => o.cls = .type "list_iterator" ∧ o.data = .fields #[.ref l, .int i 0]
section
variable {prog : Program} {w : World} {A : Around} {E : Value → Shared → Prop} {s : Shared} {base : Heap} {os₀ : OsState} {led led' : Led} {env : Env}

theorem item_l {value slice : Expr} {a : Addr} {vs : List Value} {k : Int} {u : Tok} {x : Value} {Q : Value → Shared → Prop} (H : St base os₀ led s) (hm : (a, lstA vs) ∈ led)
    (h0 : 0 ≤ k) (hfit : k < 2 ^ 63) (hx : vs[k.toNat]? = some x) (h : Q x s)
    (hs : subscripted slice false (.ref a) (.int k u) = operate [.ref a, .int k u] (getItem (.ref a) (.int k u)) := by with_unfolding_all rfl) :
    wpAny (model prog w) A (subscriptTail value slice (.ref a) (.int k u)) Q E s :=
  item_listR (H.isList hm) h0 hfit (by simpa using hx) h hs

theorem new_dict {pos : Pos} {Q : Value → Shared → Prop} (H : St base os₀ led s) (h : ∀ a s', St base os₀ ((a, dctA (strKind prog w) []) :: led) s' → Q (.ref a) s') :
    wpAny (model prog w) A (eval (.Dict [] [] pos) env) Q E s :=
  wpAny_Dict_empty (h _ _ (H.push (tk := s.toks) rfl ⟨#[], 0, ⟨rfl, rfl, rfl⟩, rfl, fun e he => by simp at he, .nil, .nil⟩))
theorem set_item {d : Addr} {kvs : List (Str × Value)} {k : Str} {t : Tok} {v : Value} {Q : Unit → Shared → Prop} (H : St base os₀ led s) (U : Up d (dctA (strKind prog w) kvs) (dctA (strKind prog w) (stored kvs k v)) led led')
    (h : ∀ s', St base os₀ led' s' → Q () s') (hsz : kvs.length ≤ sizeLine := by size_fits) : wpAny (model prog w) A (setItem (.ref d) (.str k t) v) Q E s :=
  wpAny_setItem_pairs (knd := strKind prog w) (strKind_is prog w k t) (H.isDict U.mem) (fun h' hm' hs' => h _ (H.upd U hs'.extBut (dctA_of hm'))) hsz

/-- room for all that the laws do -/
structure Room (prog : Program) (w : World) (A : Around) (base : Heap) : Prop where
  depth : A.depth + 200 < recursionLimit
  units : A.units + 64 < cLine
  handled : A.handled = none
  pylong : ∀ s : Shared, (∀ b o, base.get? b = some o → s.heap.get? b = some o) → PylongRoom (model prog w) A s

theorem i_fdiv {a b : Int} {t u : Tok} {Q : Value → Shared → Prop} (R : Room prog w A base) (H : St base os₀ led s) (hb : b ≠ 0) (h : ∀ t' s', St base os₀ led s' → Q (.int (a.fdiv b) t') s') :
    wpAny (model prog w) A (binaryOp .FloorDiv (.int a t) (.int b u)) Q E s :=
  PyProof.Rows.floordiv_int hb (h _ _ H.tok) (.inr (R.pylong s H.keep))
theorem i_mod {a b : Int} {t u : Tok} {Q : Value → Shared → Prop} (H : St base os₀ led s) (hb : b ≠ 0) (h : ∀ t' s', St base os₀ led s' → Q (.int (a.fmod b) t') s') :
    wpAny (model prog w) A (binaryOp .Mod (.int a t) (.int b u)) Q E s :=
  PyProof.Rows.mod_int hb (h _ _ H.tok)

/-! equality in one world -/
def EqW (prog : Program) (w : World) (A : Around) (s : Shared) (x y : Value) (b : Bool) : Prop :=
  ∀ (E : Value → Shared → Prop) (Q : Bool → Shared → Prop), Q b s → wpAny (model prog w) A (eqBool x y) Q E s
theorem EqW.self (v : Value) : EqW prog w A s v v true := fun E Q h => SeqAt.EqAt.same v prog w E Q h
theorem EqW.of {x y : Value} {b : Bool} (h : SeqAt.EqAt A s x y b) : EqW prog w A s x y b := fun E Q hq => h prog w E Q hq
theorem EqW.refs {l b : Addr} {k : Bool} (hne : l ≠ b) (h : ∀ (E : Value → Shared → Prop) (Q : Value → Shared → Prop), Q (.bool k) s → wpAny (model prog w) A (richCompare .Eq (.ref l) (.ref b)) Q E s) : EqW prog w A s (.ref l) (.ref b) k := fun E Q hq => by
  unfold eqBool
  refine wpAny_holding ?_
  refine wpAny_ite_split (fun hab => absurd (by have := eq_of_beq hab; injection this) hne) (fun _ => ?_)
  exact wpAny_bind (h E _ (wpAny_truthy_bool hq))
end
end Mine

namespace Mine
open PySem PySem.W PyProof.Rows PySem.Calls PySem.Spec
open AutoSeq1 (wpAny_loadPart')
section
variable {prog : Program} {w : World} {A : Around} {E : Value → Shared → Prop} {s : Shared} {base : Heap} {os₀ : OsState} {led led' : Led} {env : Env}

theorem tup_eq_same {t u : Addr} {vs us : List Value} {Q : Value → Shared → Prop} (ht : IsTup s.heap t vs.toArray) (hu : IsTup s.heap u us.toArray) (hlen : vs.length = us.length) (hur : A.units < cLine)
    (he : ∀ p ∈ vs.zip us, EqW prog w A.in1 s p.1 p.2 true) (h : Q (.bool true) s) : wpAny (model prog w) A (richCompare .Eq (.ref t) (.ref u)) Q E s := by
  obtain ⟨⟨cls, dd, data, sl⟩, ho, hc, n, hd⟩ := ht
  obtain ⟨⟨cls2, dd2, data2, sl2⟩, ho2, hc2, n2, hd2⟩ := hu
  simp only at hc hd hc2 hd2
  subst hc hd hc2 hd2
  have hT : s.TypeIs (.ref t) "tuple" := ⟨_, ho, rfl⟩
  refine wpAny_richCompare_same_room (op := .Eq) hT ⟨_, ho2, rfl⟩ PySem.F.slot_tuple_eq (wpAny_call_entry PySem.F.slot_tuple_eq hT PySem.F.entry_tuple_eq ?_ (PySem.F.args_tuple_eq_2 _ _)) hur
  obtain ⟨hp, g, d, tk, os⟩ := s
  have f2 := AutoSeq1.sub_tuple_tuple
  wp_walk using wpAny_loadPart' ho, wpAny_loadPart' ho2, wpAny_forIn_list _ (fun rest b s' => b.1 = none ∧ s' = ⟨hp, g, d, tk, os⟩ ∧ ∀ p ∈ rest, EqW prog w A.in1 ⟨hp, g, d, tk, os⟩ p.1 p.2 true) _
  case turn =>
    rintro ⟨y, x⟩ rest b s' ⟨hb', rfl, hz⟩
    refine wpAny_bind (hz (y, x) (.head _) _ _ ?_)
    wp_walk
    exact ⟨rfl, rfl, fun p hp => hz p (.tail _ hp)⟩
  case fin =>
    rintro ⟨b1, b2⟩ s' ⟨hb', rfl, hz⟩
    simp only at hb'
    subst hb'
    wp_walk
    exact ⟨_, rfl, (fun x => nomatch x), by simpa [Builtin.Tuple.tupleCompareSizes, hlen] using h⟩
  case h =>
    exact ⟨rfl, rfl, he⟩
theorem EqW.tups {t u : Addr} {vs us : List Value} (hne : t ≠ u) (ht : IsTup s.heap t vs.toArray) (hu : IsTup s.heap u us.toArray) (hlen : vs.length = us.length) (hur : A.units < cLine)
    (he : ∀ p ∈ vs.zip us, EqW prog w A.in1 s p.1 p.2 true) : EqW prog w A s (.ref t) (.ref u) true := EqW.refs hne fun E Q hq => tup_eq_same ht hu hlen hur he hq

/-- the loop of the comparison of two lists of one length -/
theorem list_loop_same {l b : Addr} {vs us : List Value} {n n2 : Nat} {dd dd2 : Option Addr} {sl sl2 : Array (Option Value)} {R : Result → Shared → Prop} {op : Int} {r : Bool} (hop : op = 2 ∧ r = true ∨ op = 3 ∧ r = false) (hlen : vs.length = us.length)
    (ho : s.heap.get? l = some { cls := .type "list", dict := dd, data := .seq vs.toArray n, slots := sl }) (ho2 : s.heap.get? b = some { cls := .type "list", dict := dd2, data := .seq us.toArray n2, slots := sl2 })
    (he : ∀ p ∈ vs.zip us, EqW prog w A.in1 s p.1 p.2 true) (h : R (.ok (.ret (.bool r))) s) :
    ∀ k i : Nat, vs.length - i = k → codeAny (model prog w) A (.builtin "list.__eq__.loop" ⟨[.ref l, .ref b, rawInt i, rawInt op], []⟩) R s := by
  intro k
  induction k with
  | zero =>
    intro i hk
    refine codeAny_builtin MeetsSeq3.entry_eq_loop ?_
    rw [Around.under_plainId MeetsSeq3.plain_eq_loop _]
    obtain ⟨hp, g, d, tk, os⟩ := s
    have hi1 : vs.toArray[((i : Nat) : Int).toNat]? = none := by simp; omega
    have hi2 : us.toArray[((i : Nat) : Int).toNat]? = none := by simp; omega
    rcases hop with ⟨rfl, rfl⟩ | ⟨rfl, rfl⟩
    · wp_walk using wpAny_loadPart' ho, wpAny_loadPart' ho2
      rw [hi1, hi2]
      wp_walk using wpAny_loadPart' ho, wpAny_loadPart' ho2
      show R (.ok (.ret (.bool (vs.toArray.size == us.toArray.size)))) _
      simpa [hlen] using h
    · wp_walk using wpAny_loadPart' ho, wpAny_loadPart' ho2
      rw [hi1, hi2]
      wp_walk using wpAny_loadPart' ho, wpAny_loadPart' ho2
      show R (.ok (.ret (.bool (vs.toArray.size != us.toArray.size)))) _
      simpa [hlen] using h
  | succ k ih =>
    intro i hk
    refine codeAny_builtin MeetsSeq3.entry_eq_loop ?_
    rw [Around.under_plainId MeetsSeq3.plain_eq_loop _]
    have hlt : i < vs.length := by omega
    have hlt2 : i < us.length := by omega
    have hi1 : vs.toArray[((i : Nat) : Int).toNat]? = some vs[i] := by simp [hlt]
    have hi2 : us.toArray[((i : Nat) : Int).toNat]? = some us[i] := by simp [hlt2]
    have hc : ((i : Int) + 1) = ((i + 1 : Nat) : Int) := by push_cast; rfl
    have hz : EqW prog w A.in1 s vs[i] us[i] true := he (vs[i], us[i]) (List.mem_of_getElem? (i := i) (by simp [List.getElem?_zip_eq_some, hlt, hlt2]))
    have hn := ih (i + 1) (by omega)
    obtain ⟨hp, g, d, tk, os⟩ := s
    rcases hop with ⟨rfl, rfl⟩ | ⟨rfl, rfl⟩
    · wp_walk using wpAny_loadPart' ho, wpAny_loadPart' ho2
      rw [hi1, hi2]
      refine wpAny_bind (hz _ _ ?_)
      wp_walk
      rw [hc]
      exact ⟨plainId_quiet MeetsSeq3.plain_eq_loop _, hn⟩
    · wp_walk using wpAny_loadPart' ho, wpAny_loadPart' ho2
      rw [hi1, hi2]
      refine wpAny_bind (hz _ _ ?_)
      wp_walk
      rw [hc]
      exact ⟨plainId_quiet MeetsSeq3.plain_eq_loop _, hn⟩
theorem list_ne_same {l b : Addr} {vs us : List Value} {Q : Value → Shared → Prop} (hl : s.heap.IsList l vs.toArray) (hb : s.heap.IsList b us.toArray) (hlen : vs.length = us.length) (hur : A.units < cLine)
    (he : ∀ p ∈ vs.zip us, EqW prog w A.in1 s p.1 p.2 true) (h : Q (.bool false) s) : wpAny (model prog w) A (richCompare .NotEq (.ref l) (.ref b)) Q E s := by
  obtain ⟨⟨cls, dd, data, sl⟩, ho, hc, n, hd⟩ := hl
  obtain ⟨⟨cls2, dd2, data2, sl2⟩, ho2, hc2, n2, hd2⟩ := hb
  simp only at hc hd hc2 hd2
  subst hc hd hc2 hd2
  have hT : s.TypeIs (.ref l) "list" := ⟨_, ho, rfl⟩
  refine wpAny_richCompare_same_room (op := .NotEq) hT ⟨_, ho2, rfl⟩ PySem.F.slot_list_ne ?_ hur
  refine wpAny_call (codeAny_call_builtin PySem.F.slot_list_ne.plain PySem.F.entry_list_ne (PySem.F.slot_list_ne.check _ _ _ _ _ _ _ _ hT (PySem.F.args_list_ne_2 _ _) ?_))
  have f3 := AutoSeq1.sub_list_list
  have hne : ¬ (vs.toArray.size != us.toArray.size) = true := by simp [hlen]
  have hloop := list_loop_same (prog := prog) (w := w) (A := A) (R := fun r s' => match r with | .ok (.ret v) => v ≠ .notImplemented ∧ Q v s' | .ok _ => False | .error e => E e s') (.inr ⟨rfl, rfl⟩) hlen ho ho2 he ⟨(fun x => nomatch x), h⟩ _ 0 rfl
  obtain ⟨hp, g, d, tk, os⟩ := s
  wp_walk using wpAny_loadPart' ho, wpAny_loadPart' ho2
  exact ⟨plainId_quiet MeetsSeq3.plain_eq_loop _, hloop⟩
end
end Mine

namespace Mine
open PySem PySem.W PyProof.Rows PySem.Calls PySem.Spec
/-- an iterator in the ledger -/
structure Iter (prog : Program) (w : World) (A : Around) (base : Heap) (os₀ : OsState) (I : Addr) (n : Nat) (P : Nat → Value → Prop) (itP : Nat → Asn) (side : Led) : Prop where
  item : ∀ i led s (Q : Option Value → Shared → Prop) (E : Value → Shared → Prop), i < n → St base os₀ ((I, itP i) :: (side ++ led)) s → (∀ v s', P i v → St base os₀ ((I, itP (i + 1)) :: (side ++ led)) s' → Q (some v) s') → wpAny (model prog w) A (pyNext (.ref I)) Q E s
  done : ∀ led s (Q : Option Value → Shared → Prop) (E : Value → Shared → Prop), St base os₀ ((I, itP n) :: (side ++ led)) s → (∀ s', St base os₀ (side ++ led) s' → Q none s') → wpAny (model prog w) A (pyNext (.ref I)) Q E s
  self : ∀ led s (Q : Value → Shared → Prop) (E : Value → Shared → Prop), St base os₀ ((I, itP 0) :: (side ++ led)) s → Q (.ref I) s → wpAny (model prog w) A (pyIter (.ref I)) Q E s
section
variable {prog : Program} {w : World} {A : Around} {E : Value → Shared → Prop} {s : Shared} {base : Heap} {os₀ : OsState} {led led' : Led} {env : Env} {I l : Addr} {vs : List Value}

theorem St.gone {P : Asn} (H : St base os₀ ((I, P) :: led) s) {h' : Heap} {tk : Nat} (he : ∀ b o, b ≠ I → s.heap.get? b = some o → h'.get? b = some o) : St base os₀ led { s with heap := h', toks := tk } where
  keep := fun b o e => he b o (fun q => by have := H.new _ (.head _); simp only at this; rw [← q, e] at this; cases this) (H.keep b o e)
  nd := (H.sub (.cons _ (.refl _))).nd
  has := fun p hp => by obtain ⟨o, ho, hP⟩ := H.has p (.tail _ hp); exact ⟨o, he _ _ (H.ne hp) ho, hP⟩
  new := fun p hp => H.new p (.tail _ hp)
  gens := H.gens
  os := H.os

def rngA (n i : Nat) : Asn := fun o => o = { cls := .type "range_iterator", dict := none, data := .fields #[rawInt (0 + (i : Nat) * 1), rawInt ((n : Int) - (i : Nat)), rawInt 1], slots := #[] }
theorem Iter.range {n : Nat} (hh : A.handled = none) : Iter prog w A base os₀ I n (fun i v => ∃ t, v = .int i t) (rngA n) [] where
  item := fun i led s Q E hi H h => by
    obtain ⟨oi, hoi, rfl⟩ := H.get (.head _)
    refine (Walks.range (prog := prog) (w := w) hh I 0 1 n).item i s Q E hi hoi fun v h' tk hv hit hk => h v _ ?_ ?_
    · obtain ⟨t, rfl⟩ := hv; exact ⟨t, by congr 1; omega⟩
    · exact H.upd .head (fun b o hb e => hk b o (by simpa using hb) e) ⟨_, hit, rfl⟩
  done := fun led s Q E H h => by
    obtain ⟨oi, hoi, rfl⟩ := H.get (.head _)
    exact (Walks.range (prog := prog) (w := w) hh I 0 1 n).done s Q E hoi fun h' tk hk => h _ (H.gone (fun b o hb e => hk b o (by simpa using hb) e))
  self := fun led s Q E H h => by
    obtain ⟨oi, hoi, rfl⟩ := H.get (.head _)
    exact (Walks.range (prog := prog) (w := w) hh I 0 1 n).self 0 s Q E hoi h

theorem for_iter {R : Result → Shared → Prop} {target : Expr} {body : List Stmt} {n : Nat} {P : Nat → Value → Prop} {itP : Nat → Asn} {side : Led} (W : Iter prog w A base os₀ I n P itP side) (J : Nat → Led → Prop)
    (turn : ∀ i v led s E', i < n → P i v → J i led → St base os₀ ((I, itP (i + 1)) :: (side ++ led)) s →
      wpAny (model prog w) A (assign target env v) (fun _ s₂ => wpAny (model prog w) A (execs body env) (fun f s₃ => match f with
        | .next | .cont => ∃ led', J (i + 1) led' ∧ St base os₀ ((I, itP (i + 1)) :: (side ++ led')) s₃
        | .brk => R (.ok .next) s₃
        | .ret v => R (.ok (.ret v)) s₃) E' s₂) E' s)
    (fin : ∀ led s, J n led → St base os₀ (side ++ led) s → R (.ok .next) s)
    (H : St base os₀ ((I, itP 0) :: (side ++ led)) s) (h0 : J 0 led)
    (ht : ∀ v, letOwnedTupleGo target (.ref I) v = pure () := by intro _; rfl) :
    codeAny (model prog w) A (.forLoop target (.ref I) body [] env) R s := by
  refine codeAny_forLoop (fun k s' => ∃ i led', k = n + 1 - i ∧ i ≤ n ∧ J i led' ∧ St base os₀ ((I, itP i) :: (side ++ led')) s') ?_ (n + 1) ⟨0, led, rfl, Nat.zero_le _, h0, H⟩ ht
  rintro k s' ⟨i, led', rfl, hi, hJ, H'⟩
  by_cases hlt : i < n
  · refine W.item i led' s' _ _ hlt H' fun v s₁ hv H₁ => ?_
    refine wpAny_mono (turn i v led' _ _ hlt hv hJ H₁) (fun _ s₂ h₂ => wpAny_mono h₂ (fun f s₃ h₃ => ?_) fun _ _ x => x) fun _ _ x => x
    cases f with
    | next => obtain ⟨led'', hJ', H''⟩ := h₃; exact ⟨n + 1 - (i + 1), by omega, i + 1, led'', rfl, hlt, hJ', H''⟩
    | cont => obtain ⟨led'', hJ', H''⟩ := h₃; exact ⟨n + 1 - (i + 1), by omega, i + 1, led'', rfl, hlt, hJ', H''⟩
    | brk => exact h₃
    | ret v => exact h₃
  · have hin : i = n := by omega
    subst hin
    exact W.done led' s' _ _ H' fun s₁ H₁ => wpAny_execs_nil (fin led' _ hJ H₁)

theorem r_new {n : Nat} {t : Tok} {Q : Value → Shared → Prop} (H : St base os₀ led s) (h : ∀ r s', (∃ t1 t2, St base os₀ ((r, objA { cls := .type "range", data := .fields #[.int 0 t1, .int n t, .int 1 t2] }) :: led) s') → Q (.ref r) s') :
    wpAny (model prog w) A (call (.type "range") [.int n t]) Q E s := call_range_1 (h _ _ ⟨_, _, H.push (tk := s.toks + 1 + 1) rfl rfl⟩)
theorem r_iter {r : Addr} {n : Nat} {t1 t t2 : Tok} {Q : Value → Shared → Prop} (hn : (n : Int) < 2 ^ 62) (H : St base os₀ ((r, objA { cls := .type "range", data := .fields #[.int 0 t1, .int n t, .int 1 t2] }) :: led) s)
    (h : ∀ I s', St base os₀ ((I, rngA n 0) :: led) s' → Q (.ref I) s') : wpAny (model prog w) A (pyIter (.ref r)) Q E s := by
  obtain ⟨o, ho, rfl⟩ := H.get (.head _)
  refine wpAny_pyIter_range ho (small_one (by decide) (by decide) (by omega) hn) (h _ _ ?_)
  have e : Builtin.Range.rangeSize 0 n 1 = (n : Int) := by rw [rangeSize_one]; split <;> omega
  rw [e]
  refine (H.push (tk := s.toks) (P := rngA n 0) rfl ?_).sub (.cons_cons _ (.cons _ (.refl _)))
  show _ = _
  simp
theorem for_range {n : Nat} {t1 t t2 : Tok} {r : Addr} {x : Str} {px pos : Pos} {iter : Expr} {body : List Stmt} {Q : Flow → Shared → Prop} (J : Nat → Led → Prop) (hh : A.handled = none) (hn : (n : Int) < 2 ^ 62)
    (h : wpAny (model prog w) A (eval iter env) (fun v s₁ => ∃ r t1 t t2 led, v = .ref r ∧ St base os₀ ((r, objA { cls := .type "range", data := .fields #[.int 0 t1, .int n t, .int 1 t2] }) :: led) s₁ ∧ J 0 led) E s)
    (turn : ∀ I i v led s E', i < n → (∃ t, v = .int i t) → J i led → St base os₀ ((I, rngA n (i + 1)) :: led) s →
      wpAny (model prog w) A (assign (.Name x px) env v) (fun _ s₂ => wpAny (model prog w) A (execs body env) (fun f s₃ => match f with
        | .next | .cont => ∃ led', J (i + 1) led' ∧ St base os₀ ((I, rngA n (i + 1)) :: led') s₃
        | .brk => Q .next s₃
        | .ret v => Q (.ret v) s₃) E' s₂) E' s)
    (fin : ∀ led s, J n led → St base os₀ led s → Q .next s)
    (hs : ∀ x, foldedSetIterable iter env x = pure x := by intro _; rfl) :
    wpAny (model prog w) A (exec (.For (.Name x px) iter body [] pos) env) Q E s := by
  refine wpAny_For (wpAny_mono h (fun v s₁ h₁ => ?_) fun _ _ x => x) hs
  obtain ⟨r, t1, t, t2, led, rfl, H, h0⟩ := h₁
  refine r_iter hn H fun I s₂ H₂ => ?_
  exact for_iter (Iter.range hh) J (fun i v led s E' hi hv hJ H' => turn I i v led s E' hi hv hJ H') (fun led s hJ H' => fin led s hJ H') H₂ h0

end
end Mine

namespace Mine
open PySem PySem.W PyProof.Rows PySem.Calls PySem.Spec
section
variable {prog : Program} {w : World} {A : Around} {E : Value → Shared → Prop} {s : Shared} {base : Heap} {os₀ : OsState} {led tl : Led} {m : Str → Option Value} {a : Addr} {vs : List Value}
theorem St.push2 (H : St base os₀ led s) {tk : Nat} {o₁ o : Obj} {P : Asn} (hf₁ : o₁.isFreed = false) (hf : o.isFreed = false) (hp : P o) : St base os₀ ((s.heap.objs.size + 1, P) :: led) { s with heap := (s.heap.push o₁).push o, toks := tk } := by
  have H₁ := H.push (tk := tk) (P := fun _ => True) hf₁ trivial
  have H₂ := H₁.push (tk := tk) (P := P) hf hp
  have e : (s.heap.push o₁).objs.size = s.heap.objs.size + 1 := Heap.size_push ..
  simp only [e] at H₂
  exact H₂.sub (.cons_cons _ (.cons _ (.refl _)))
def AllInt (vs : List Value) : Prop := ∀ v ∈ vs, ∃ n t, v = Value.int n t
theorem l_add {l b : Addr} {vs us : List Value} {Q : Value → Shared → Prop} (H : St base os₀ led s) (h1 : (l, lstA vs) ∈ led) (h2 : (b, lstA us) ∈ led) (hsz : vs.length + us.length ≤ sizeLine)
    (h : ∀ r s', St base os₀ ((r, lstA (vs ++ us)) :: led) s' → Q (.ref r) s') : wpAny (model prog w) A (binaryOp .Add (.ref l) (.ref b)) Q E s := by
  obtain ⟨o, ho, n, rfl⟩ := H.get h1
  obtain ⟨o', ho', n', rfl⟩ := H.get h2
  exact PySem.P.add_list ho ho' (h _ _ (H.push (tk := s.toks) rfl ⟨0, by simp⟩)) (by simpa using hsz)
end
theorem allInt_of {vs : List Value} {ns : List Int} (h : IntsAre vs ns) : AllInt vs ∧ vs.length = ns.length := by
  induction h with
  | nil => exact ⟨fun v hv => (by cases hv), rfl⟩
  | cons n t _ ih =>
    refine ⟨fun v hv => ?_, by simp [ih.2]⟩
    rcases List.mem_cons.mp hv with rfl | hv
    · exact ⟨n, t, rfl⟩
    · exact ih.1 v hv
theorem good_true {l : OpenLaw} {cl : Str → Option Addr} {mean : ExcName → Option Value} {args : List WData} {s₁ s' : Shared} (hk : ∀ b o, s₁.heap.get? b = some o → s'.heap.get? b = some o) (ho : s'.os = s₁.os) (hg : s'.gens = #[]) :
    GoodW l.row.claim cl mean args s₁ (.ok (.ret (.bool true))) s' :=
  ⟨.inl ⟨.bool true, .bool true, [], rfl, fun _ => rfl, .bool true, by with_unfolding_all rfl, fun _ => ⟨.nil, fun a h => by cases h⟩⟩, hk, ho, hg⟩
theorem ghost_seer {h₁ : Heap} {tabs : List (Addr × Addr)} (hT : TabsAt tabs h₁) (S : h₁.NoSeer) : (ghostOf h₁ tabs).NoSeer := by
  obtain ⟨⟨mc, x1, r1⟩, ⟨mm, x2, r2⟩, ⟨mb, x3, r3⟩, ⟨mg, bm, ob, x4, r4, x5, r5, r6⟩⟩ := S
  exact ⟨⟨mc, ghost_ns hT x1, r1⟩, ⟨mm, ghost_ns hT x2, r2⟩, ⟨mb, ghost_ns hT x3, r3⟩, ⟨mg, bm, ob, ghost_ns hT x4, r4, ghost_get hT x5 (fun e => by rw [e] at r5; cases r5), r5, r6⟩⟩
theorem gr_of {p : Program} {loose : List Str} {mean : ExcName → Option Value} {mg mb : Str → Option Value} {h : Heap} (T : Top p loose mean mg mb h) (S : h.NoSeer) : Gr h mg mb := by
  obtain ⟨mm, ⟨o, es, ep, ho, _⟩, _⟩ := S.mods
  exact ⟨T.g, T.b, T.nolimit, ⟨o, ho⟩, T.bmain⟩
theorem room_of {prog : Program} {w : World} {base : Heap} {env : Env} {p : Program} {loose : List Str} {mean : ExcName → Option Value} {mg mb : Str → Option Value} (T : Top p loose mean mg mb base) (S : base.NoSeer) (ht : prog.given.tree = none) (h1 : env.scope.isGenerator = false) (h2 : env.scope.isCoroutine = false) (h3 : env.builtins = builtinsNs) (h4 : env.globals = mainGlobals) : Room prog w (callerA.deeper env) base where
  depth := of_decide_eq_true (by with_unfolding_all rfl)
  units := of_decide_eq_true (by with_unfolding_all rfl)
  handled := rfl
  pylong := fun s hk => PylongRoom.of (T.nolimit.keeps hk) (of_decide_eq_true (by with_unfolding_all rfl)) (PySem.SeerAt.of (S.keeps hk) ht rfl h1 h2 h3 h4)
end Mine

namespace Mine
open PySem PySem.W PyProof.Rows PySem.Calls PySem.Spec
section
variable {prog : Program} {w : World} {A : Around} {E : Value → Shared → Prop} {s : Shared} {base : Heap} {os₀ : OsState} {led led' : Led} {env : Env} {I l : Addr} {vs : List Value}
end
end Mine

namespace Mine
open PySem PySem.W PyProof.Rows PySem.Calls PySem.Spec
/-! sorting a few pairs by their first text -/
def kev {α : Type} : KasT α → (Nat → Nat → Bool) → α
  | .ret a, _ => a
  | .ask i j k, lt => kev (k (lt i j)) lt
def kok {α : Type} (n : Nat) : KasT α → (Nat → Nat → Bool) → Bool
  | .ret _, _ => true
  | .ask i j k, lt => decide (i < n) && decide (j < n) && kok n (k (lt i j)) lt
theorem kev_wp {α : Type} {cmp : Nat → Nat → (Bool → Shared → Prop) → Shared → Prop} {n : Nat} {lt : Nat → Nat → Bool} {s : Shared} (hc : ∀ i j C, i < n → j < n → C (lt i j) s → cmp i j C s) {G : α → Shared → Prop} :
    ∀ t : KasT α, kok n t lt = true → G (kev t lt) s → t.kasWp cmp G s
  | .ret _, _, h => h
  | .ask i j k, hk, h => by
    simp only [kok, Bool.and_eq_true, decide_eq_true_eq] at hk
    exact hc i j _ hk.1.1 hk.1.2 (kev_wp hc (k (lt i j)) hk.2 h)
def rankLt (rs : List Nat) (i j : Nat) : Bool := decide (rs.getD i 9 < rs.getD j 9)
def rankings : List (List Nat) :=
  let two := (List.range 4).flatMap fun a => (List.range 4).filterMap fun b => if a = b then none else some [a, b]
  let three := two.flatMap fun l => (List.range 4).filterMap fun c => if l.contains c then none else some (l ++ [c])
  let four := three.flatMap fun l => (List.range 4).filterMap fun c => if l.contains c then none else some (l ++ [c])
  two ++ three ++ four
/-- the orders in which some of four may stand -/
def allRanks : List (List Nat) := [] :: (List.range 4).map (fun a => [a]) ++ rankings
theorem ranks_sorts : ∀ rs ∈ allRanks, (2 ≤ rs.length → kok rs.length (kas_sort rs.length) (rankLt rs) = true) ∧ ((if rs.length < 2 then List.range rs.length else (kev (kas_sort rs.length) (rankLt rs)).toList).map fun i => rs.getD i 9) = (List.range 4).filter rs.contains := by decide +kernel
theorem ranks_lt : ∀ rs ∈ allRanks, (∀ r ∈ rs, r < 4) ∧ rs.Nodup ∧ rs.length ≤ 4 := by decide +kernel
section
variable {prog : Program} {w : World} {A : Around} {E : Value → Shared → Prop} {s : Shared} {base : Heap} {os₀ : OsState} {led : Led}

def sortOut (vs : List Value) (lt : Nat → Nat → Bool) : List Value := if vs.length < 2 then vs else (kev (kas_sort vs.length) lt).toList.map fun i => vs.getD i Value.none
theorem sort_body {a : Addr} {vs fs : List Value} {n : Nat} {lt : Nat → Nat → Bool} {P : PySem.Fin → Shared → Prop} (ho : s.heap.get? a = some (seqObj "list" vs.toArray n)) (h64 : vs.length < 64) (hfl : fs.length = vs.length) (hfs : ∀ v ∈ fs, ∃ x t, v = Value.str x t)
    (hk : ∀ h', (∀ b o, b ≠ a → s.heap.get? b = some o → h'.get? b = some o) → KatTups h' vs fs ∧ ∀ i j C, i < vs.length → j < vs.length → C (lt i j) { s with heap := h' } → wpAny (model prog w) A (keyLt' (tuples' true) (vs.getD i Value.none) (vs.getD j Value.none)) C (fun _ _ => False) { s with heap := h' })
    (hok : 2 ≤ vs.length → kok vs.length (kas_sort vs.length) lt = true)
    (hP : ∀ h' c, (∀ b o, b ≠ a → s.heap.get? b = some o → h'.get? b = some o) → h'.get? a = some (seqObj "list" (sortOut vs lt).toArray c) → P (.done (.ret .none)) { s with heap := h' }) :
    wpAny (model prog w) A (Builtin.«list.sort» ⟨[.ref a], []⟩) P E s := by
  have ha : a < s.heap.objs.size := Heap.lt_size ho
  have s1 := Heap.SameBut.update s.heap a (Obj.mapSeq fun _ => (#[] : Array Value))
  obtain ⟨e1, ho1⟩ : ∃ e1, (s.heap.update a (Obj.mapSeq fun _ => (#[] : Array Value))).get? a = some (seqObj "list" #[] e1) := ⟨_, get?_update_seq ho fun _ => #[]⟩
  rw [list_sort_plain]
  refine wpAny_bind (listItems_at ho rfl ?_)
  refine wpAny_bind (listUpdate_at ho rfl ?_ (by rw [List.size_toArray, sizeLine_eq]; omega) (Nat.zero_le _))
  refine wpAny_bind (seqEpoch_at ho1 rfl ?_)
  refine wpAny_bind (wpAny_newTuple ?_ (by show vs.length ≤ _; rw [sizeLine_eq]; omega))
  refine wpAny_bind (wpAny_newList ?_ (Nat.zero_le _))
  refine wpAny_holding ?_
  show wpAny (model prog w) A _ P E { s with heap := ((s.heap.update a (Obj.mapSeq fun _ => (#[] : Array Value))).push (seqObj "tuple" vs.toArray 0)).push (seqObj "list" #[] 0) }
  dsimp only
  have keep : ∀ b o, b ≠ a → s.heap.get? b = some o → (((s.heap.update a (Obj.mapSeq fun _ => (#[] : Array Value))).push (seqObj "tuple" vs.toArray 0)).push (seqObj "list" #[] 0)).get? b = some o := fun b o hb e =>
    Heap.get?_push_of_some _ (Heap.get?_push_of_some _ (s1.extBut b o hb e))
  have hoA : (((s.heap.update a (Obj.mapSeq fun _ => (#[] : Array Value))).push (seqObj "tuple" vs.toArray 0)).push (seqObj "list" #[] 0)).get? a = some (seqObj "list" #[] e1) := Heap.get?_push_of_some _ (Heap.get?_push_of_some _ ho1)
  generalize ((s.heap.update a (Obj.mapSeq fun _ => (#[] : Array Value))).push (seqObj "tuple" vs.toArray 0)).push (seqObj "list" #[] 0) = H at keep hoA ⊢
  have fin : ∀ (out : List Value) (st : SortSt), out.length ≤ 64 → (arrOf st).map (·.2) = out.toArray → failedOf st = none → out = sortOut vs lt → wpAny (model prog w) A (do
      let touched := (← seqEpoch a) != e1
      Builtin.List.listUpdate (.ref a) fun _ => (arrOf st).map (·.2)
      if let some e := failedOf st then rule "list.sort.comparison-raised"; throw e
      if touched then rule "list.sort.modified"; raiseError "ValueError" "list modified during sort"
      ret .none) P E { s with heap := H } := fun out st hlen hout hf he => by
    subst he
    rw [hout]
    refine wpAny_bind (seqEpoch_at hoA rfl ?_)
    refine wpAny_bind (listUpdate_at hoA rfl ?_ (Nat.zero_le _) (by rw [List.size_toArray, sizeLine_eq]; omega))
    rw [hf]
    simp only [bne_self_eq_false, Bool.false_eq_true, if_false]
    have s2 := Heap.SameBut.update H a (Obj.mapSeq fun _ => (sortOut vs lt).toArray)
    exact wpAny_pure (hP _ _ (fun b o hb e => s2.extBut b o hb (keep b o hb e)) (get?_update_seq hoA fun _ => (sortOut vs lt).toArray))
  by_cases h2 : 2 ≤ vs.length
  · have hn2 : ¬ vs.toArray.size < 2 := by rw [List.size_toArray]; omega
    rw [if_neg hn2, if_neg hn2]
    obtain ⟨t, hcmp⟩ := hk H keep
    refine wpAny_bind (kat_kind (T := .type "str") t (by omega) (fun v hv => ?_) (by decide) ?_)
    · obtain ⟨x, t, rfl⟩ := hfs v hv
      exact Looks.of_pure rfl
    refine wpAny_bind (wpAny_mono (kat_run (Q := fun st' s' => s' = { s with heap := H } ∧ ∃ p : Array Nat, p = kev (kas_sort vs.length) lt ∧ p.size = vs.length ∧ arrOf st' = p.map (kas_item (vs.toArray.zip vs.toArray)) ∧ failedOf st' = none) (G := fun p s' => s' = { s with heap := H } ∧ p = kev (kas_sort vs.length) lt)
      rfl h2 h64 (fun p' st' s' a1 a2 a3 a4 => ⟨a4.1, p', a4.2, a1, a2, a3⟩) (kev_wp (n := vs.length) (lt := lt) (fun i j C hi hj hC => hcmp i j C hi hj hC) _ (hok h2) ⟨rfl, rfl⟩)) ?_ fun _ _ e => e)
    rintro ⟨⟨⟩, st'⟩ s' ⟨rfl, p, hp, hsz, har, hf⟩
    dsimp only
    refine fin (p.toList.map fun i => vs.getD i Value.none) st' (by rw [List.length_map, Array.length_toList, hsz]; omega) (kat_snds rfl har) hf ?_
    unfold sortOut
    rw [if_neg (by omega), hp]
  · have hn2 : vs.toArray.size < 2 := by rw [List.size_toArray]; omega
    rw [if_pos hn2, if_pos hn2]
    refine wpAny_bind (wpAny_pure (wpAny_bind (wpAny_pure ?_)))
    dsimp only
    refine fin vs _ (by omega) ?_ rfl (by unfold sortOut; rw [if_pos (by omega)])
    show (vs.toArray.zip vs.toArray).map (·.2) = vs.toArray
    apply Array.toList_inj.mp
    simp [List.map_snd_zip]
end
end Mine

namespace Mine
open PySem PySem.W PyProof.Rows PySem.Calls PySem.Spec
/-- a pair that a dict's items gave: where it stands, the key, its token, the value -/
abbrev Tup2 := Addr × Str × Tok × Value
abbrev tupLed (tl : List Tup2) : Led := tl.map fun x => (x.1, tupA [.str x.2.1 x.2.2.1, x.2.2.2])
theorem valueAt_get {K : Type} [DecidableEq K] : ∀ {kvs : List (K × Value)} {j : Nat} {k : K} {v : Value}, (kvs.map (·.1)).Nodup → kvs[j]? = some (k, v) → valueAt kvs k = some v
  | [], _, _, _, _, h => by simp at h
  | (k', v') :: r, 0, k, v, _, h => by
    simp only [List.getElem?_cons_zero, Option.some.injEq, Prod.mk.injEq] at h
    obtain ⟨rfl, rfl⟩ := h
    simp [valueAt]
  | (k', v') :: r, j + 1, k, v, hn, h => by
    simp only [List.map_cons, List.nodup_cons] at hn
    simp only [List.getElem?_cons_succ] at h
    have hm : k ∈ r.map (·.1) := List.mem_map_of_mem (f := (·.1)) (List.mem_of_getElem? h)
    have : k' ≠ k := fun e => hn.1 (e ▸ hm)
    have ih := valueAt_get hn.2 h
    simp only [valueAt] at ih ⊢
    rw [List.find?_cons_of_neg (by simpa using this)]
    exact ih
section
variable {prog : Program} {w : World} {A : Around} {E : Value → Shared → Prop} {s : Shared} {base : Heap} {os₀ : OsState} {led : Led}

theorem St.tups : ∀ (tl : List Tup2) {h' : Heap} {tk : Nat}, St base os₀ led s → (∀ b o, s.heap.get? b = some o → h'.get? b = some o) → (tl.map (·.1)).Pairwise (· < ·) → (∀ x ∈ tl, s.heap.objs.size ≤ x.1 ∧ h'.get? x.1 = some { cls := .type "tuple", data := .seq #[.str x.2.1 x.2.2.1, x.2.2.2] }) →
    St base os₀ (tupLed tl ++ led) { s with heap := h', toks := tk } := by
  intro tl h' tk H hk hr hx
  refine ⟨fun b o e => hk b o (H.keep b o e), ?_, fun p hp => ?_, fun p hp => ?_, H.gens, H.os⟩
  · rw [List.map_append, List.nodup_append]
    refine ⟨?_, H.nd, ?_⟩
    · rw [List.map_map]
      exact (List.pairwise_map.mp hr).imp (fun h => Nat.ne_of_lt h) |> List.pairwise_map.mpr
    · intro a ha b hb e
      subst e
      rw [List.map_map] at ha
      obtain ⟨x, hx', rfl⟩ := List.mem_map.mp ha
      obtain ⟨q, hq, e⟩ := List.mem_map.mp hb
      obtain ⟨o, ho, _⟩ := H.has q hq
      have h1 := Heap.lt_size ho
      have h2 := (hx x hx').1
      rw [e] at h1
      exact absurd h1 (Nat.not_lt.mpr h2)
  · rcases List.mem_append.mp hp with hp | hp
    · obtain ⟨x, hx', rfl⟩ := List.mem_map.mp hp
      exact ⟨_, (hx x hx').2, 0, rfl⟩
    · obtain ⟨o, ho, q⟩ := H.has p hp; exact ⟨o, hk _ _ ho, q⟩
  · rcases List.mem_append.mp hp with hp | hp
    · obtain ⟨x, hx', rfl⟩ := List.mem_map.mp hp
      exact H.newAt (hx x hx').1
    · exact H.new p hp

/-- what the collecting gave, as rows -/
theorem rows_of {kvs : List (Str × Value)} {lo : Addr} {h : Heap} {as : List Addr} (g : KdxG (strKind prog w) kvs lo h as) (hl : as.length = kvs.length) :
    ∃ tl : List Tup2, tl.map (·.1) = as ∧ tl.map (fun x => (x.2.1, x.2.2.2)) = kvs ∧ ∀ x ∈ tl, h.get? x.1 = some { cls := .type "tuple", data := .seq #[.str x.2.1 x.2.2.1, x.2.2.2] } := by
  have key : ∀ (as : List Addr) (kvs : List (Str × Value)), as.length = kvs.length → (∀ (j : Nat) (a : Addr), as[j]? = some a → ∃ key k x, kvs[j]? = some (k, x) ∧ (strKind prog w).is k key = true ∧ h.get? a = some { cls := .type "tuple", data := .seq #[key, x] }) →
      ∃ tl : List Tup2, tl.map (·.1) = as ∧ tl.map (fun x => (x.2.1, x.2.2.2)) = kvs ∧ ∀ x ∈ tl, h.get? x.1 = some { cls := .type "tuple", data := .seq #[.str x.2.1 x.2.2.1, x.2.2.2] } := by
    intro as
    induction as with
    | nil =>
      intro kvs hl _
      cases kvs with
      | nil => exact ⟨[], rfl, rfl, fun x hx => by cases hx⟩
      | cons _ _ => simp at hl
    | cons a r ih =>
      intro kvs hl hp
      cases kvs with
      | nil => simp at hl
      | cons kv kr =>
        obtain ⟨key, k, x, e1, e2, e3⟩ := hp 0 a rfl
        simp only [List.getElem?_cons_zero, Option.some.injEq] at e1
        subst e1
        obtain ⟨t, rfl⟩ := Value.isStrOf_shape e2
        obtain ⟨tl, h1, h2, h3⟩ := ih kr (by simpa using hl) fun j b hb => hp (j + 1) b (by simpa using hb)
        exact ⟨(a, k, t, x) :: tl, by simp [h1], by simp [h2], fun y hy => by
          rcases List.mem_cons.mp hy with rfl | hy
          · exact e3
          · exact h3 y hy⟩
  exact key as kvs hl g.pairs

theorem katTups_of {h : Heap} : ∀ (tl : List Tup2), (∀ x ∈ tl, ∃ n, h.get? x.1 = some { cls := .type "tuple", data := .seq #[.str x.2.1 x.2.2.1, x.2.2.2] n }) → KatTups h (tl.map fun x => Value.ref x.1) (tl.map fun x => Value.str x.2.1 x.2.2.1)
  | [], _ => KatTups.nil
  | x :: r, hx => let ⟨_, e⟩ := hx x (.head _); KatTups.cons e rfl rfl rfl (katTups_of r fun y hy => hx y (.tail _ hy))
theorem pair_lt {x y : Tup2} {lt : Bool} {C : Bool → Shared → Prop} {n k : Nat} (hx : s.heap.get? x.1 = some { cls := .type "tuple", data := .seq #[.str x.2.1 x.2.2.1, x.2.2.2] n }) (hy : s.heap.get? y.1 = some { cls := .type "tuple", data := .seq #[.str y.2.1 y.2.2.1, y.2.2.2] k })
    (he : x = y ∧ lt = false ∨ (x.2.1 == y.2.1) = false ∧ lt = decide (x.2.1.cps.toList < y.2.1.cps.toList)) (hC : C lt s) : wpAny (model prog w) A (keyLt' (tuples' true) (.ref x.1) (.ref y.1)) C (fun _ _ => False) s := by
  refine kat_lt hx rfl hy rfl ?_
  rcases he with ⟨rfl, rfl⟩ | ⟨hne, rfl⟩
  · exact kat_cons (SeqAt.EqAt.same _ prog w _ _ (kat_yes (kat_cons (SeqAt.EqAt.same _ prog w _ _ (kat_yes (kat_nil hC))))))
  · refine kat_cons (SeqAt.EqAt.str_str _ _ _ _ prog w _ _ ?_)
    rw [hne]
    refine kat_no ?_
    show wpAny (model prog w) A (oneLt' true _ _) C _ s
    exact oneLt_str hC

theorem sorted_items {v d : Addr} {kvs : List (Str × Value)} {key : Nat → Str} {rs : List Nat} {Q : Value → Shared → Prop} (hrs : rs ∈ allRanks) (hkey : kvs.map (·.1) = rs.map key)
    (hord : ∀ a ∈ List.range 4, ∀ b ∈ List.range 4, (key a == key b) = (a == b) ∧ (a ≠ b → decide ((key a).cps.toList < (key b).cps.toList) = decide (a < b)))
    (H : St base os₀ led s) (hv : (v, objA { cls := .type "dict_items", data := .fields #[.ref d] }) ∈ led) (hd : (d, dctA (strKind prog w) kvs) ∈ led) (hh : A.handled = none)
    (h : ∀ D (tl tl' : List Tup2) s', (∀ x ∈ tl', x ∈ tl) → tl'.map (fun x => (x.2.1, x.2.2.2)) = ((List.range 4).filter rs.contains).map (fun r => (key r, (valueAt kvs (key r)).getD .none)) → St base os₀ ((D, lstA (tl'.map fun x => .ref x.1)) :: (tupLed tl ++ led)) s' → Q (.ref D) s') :
    wpAny (model prog w) A (call (.builtin "sorted") [.ref v]) Q E s := by
  obtain ⟨hlt4, hnd, hl4⟩ := ranks_lt rs hrs
  obtain ⟨hok, hsort⟩ := ranks_sorts rs hrs
  have hlen : kvs.length = rs.length := by have := congrArg List.length hkey; simpa using this
  have hnk : (kvs.map (·.1)).Nodup := by obtain ⟨_, _, _, _, _, _, _, _, hn⟩ := H.isDict hd; exact hn
  obtain ⟨ov, hov, rfl⟩ := H.get hv
  obtain ⟨od, es, ep, hod, hex, hdd, hke, hpe, hne⟩ := H.isDict hd
  refine call_function_entry kind_sorted plain_sorted entry_sorted (args_sorted1 _) ?_
  unfold Builtin.«sorted»
  refine wpAny_bind (m := checkCount "sorted" 1 1 _) (wpAny_pure ?_)
  refine wpAny_bind (kdx_collect (A := A.in1) (knd := strKind prog w) (kvs := kvs) (ep := ep) hh ⟨_, hov, rfl, rfl⟩ ⟨od, es, hod, hex, hdd, hke, hpe, hne⟩ (by rw [hlen]; exact Nat.le_trans hl4 (by decide)) fun h' tk as hk hl hG => ?_)
  obtain ⟨tl, ha, hkv, htl⟩ := rows_of hG hl
  have H₁ : St base os₀ (tupLed tl ++ led) { s with heap := h', toks := tk } := by
    refine St.tups tl H hk (by rw [ha]; exact hG.rise) fun x hx => ⟨Nat.le_of_lt (hG.above x.1 ?_), htl x hx⟩
    rw [← ha]; exact List.mem_map_of_mem hx
  have hlt : tl.length = rs.length := by have := congrArg List.length hkv; simp only [List.length_map] at this; omega
  have eas : as.map Value.ref = tl.map fun x => Value.ref x.1 := by rw [← ha, List.map_map]; rfl
  rw [eas]
  refine wpAny_bind (new_list H₁ (fun D s₂ H₂ => ?_) (by rw [List.length_map, hlt]; exact Nat.le_trans hl4 (by decide)))
  obtain ⟨oD, hoD, nD, rfl⟩ := H₂.get (.head _)
  have hne' : ∀ x ∈ tl, x.1 ≠ D := fun x hx => H₂.ne (R := tupA [.str x.2.1 x.2.2.1, x.2.2.2]) (List.mem_append_left _ (List.mem_map_of_mem hx))
  have htl₂ : ∀ x ∈ tl, ∃ n, s₂.heap.get? x.1 = some { cls := .type "tuple", data := .seq #[.str x.2.1 x.2.2.1, x.2.2.2] n } := fun x hx => by
    obtain ⟨o, ho, n, rfl⟩ := H₂.get (a := x.1) (P := tupA [.str x.2.1 x.2.2.1, x.2.2.2]) (.tail _ (List.mem_append_left _ (List.mem_map_of_mem (f := fun x : Tup2 => (x.1, tupA [.str x.2.1 x.2.2.1, x.2.2.2])) hx)))
    exact ⟨n, ho⟩
  have hvl : (tl.map fun x => Value.ref x.1).length = rs.length := by rw [List.length_map, hlt]
  have hkeyat : ∀ (i : Nat) (x : Tup2), tl[i]? = some x → ∃ r, rs[i]? = some r ∧ x.2.1 = key r := fun i x hx => by
    have e1 : (tl.map fun x : Tup2 => (x.2.1, x.2.2.2))[i]? = some (x.2.1, x.2.2.2) := by rw [List.getElem?_map, hx]; rfl
    rw [hkv] at e1
    have e2 : (kvs.map (·.1))[i]? = some x.2.1 := by rw [List.getElem?_map, e1]; rfl
    rw [hkey, List.getElem?_map] at e2
    cases e : rs[i]? with
    | none => rw [e] at e2; cases e2
    | some r => rw [e] at e2; exact ⟨r, rfl, (Option.some.inj e2).symm⟩
  refine wpAny_bind (wpAny_holding (wpAny_call_entry slot_list_sort ⟨_, hoD, rfl⟩ entry_list_sort (sort_body (fs := tl.map fun x => Value.str x.2.1 x.2.2.1) (lt := rankLt rs) hoD (by rw [hvl]; omega) (by simp) (fun v hv => ?_) (fun h₃ hk₃ => ⟨?_, fun i j C hi hj hC => ?_⟩) (fun h2 => by rw [hvl] at h2 ⊢; exact hok h2) fun h₃ c₃ hk₃ ho₃ => ?_) (args_list_sort _)))
  · obtain ⟨x, _, rfl⟩ := List.mem_map.mp hv
    exact ⟨_, _, rfl⟩
  · exact katTups_of tl fun x hx => let ⟨n, e⟩ := htl₂ x hx; ⟨n, hk₃ _ _ (hne' x hx) e⟩
  · rw [hvl] at hi hj
    obtain ⟨x, hx⟩ : ∃ x, tl[i]? = some x := ⟨_, List.getElem?_eq_getElem (by omega)⟩
    obtain ⟨y, hy⟩ : ∃ y, tl[j]? = some y := ⟨_, List.getElem?_eq_getElem (by omega)⟩
    have ex : (tl.map fun x => Value.ref x.1).getD i Value.none = .ref x.1 := by rw [List.getD_eq_getElem?_getD, List.getElem?_map, hx]; rfl
    have ey : (tl.map fun x => Value.ref x.1).getD j Value.none = .ref y.1 := by rw [List.getD_eq_getElem?_getD, List.getElem?_map, hy]; rfl
    rw [ex, ey]
    have mx := List.mem_of_getElem? hx
    have my := List.mem_of_getElem? hy
    obtain ⟨n1, g1⟩ := htl₂ x mx
    obtain ⟨n2, g2⟩ := htl₂ y my
    obtain ⟨r1, q1, k1⟩ := hkeyat i x hx
    obtain ⟨r2, q2, k2⟩ := hkeyat j y hy
    have b1 := hlt4 r1 (List.mem_of_getElem? q1)
    have b2 := hlt4 r2 (List.mem_of_getElem? q2)
    have er : rankLt rs i j = decide (r1 < r2) := by unfold rankLt; rw [List.getD_eq_getElem?_getD, List.getD_eq_getElem?_getD, q1, q2]; rfl
    refine pair_lt (s := { s₂ with heap := h₃ }) (hk₃ _ _ (hne' x mx) g1) (hk₃ _ _ (hne' y my) g2) (lt := rankLt rs i j) ?_ hC
    obtain ⟨o1, o2⟩ := hord r1 (List.mem_range.mpr b1) r2 (List.mem_range.mpr b2)
    by_cases hr : r1 = r2
    · refine .inl ⟨?_, by rw [er, hr]; simp⟩
      have hij : i = j := by
        have h1 : rs[i]? = rs[j]? := by rw [q1, q2, hr]
        exact (List.getElem?_inj (by omega) hnd).mp h1
      subst hij
      rw [hx] at hy; exact Option.some.inj hy
    · refine .inr ⟨by rw [k1, k2, o1]; simpa using hr, ?_⟩
      rw [er, k1, k2]; exact (o2 hr).symm
  · refine ⟨_, rfl, wpAny_pure ⟨_, rfl, ?_⟩⟩
    obtain ⟨idx, hidx⟩ : ∃ idx, idx = (if rs.length < 2 then List.range rs.length else (kev (kas_sort rs.length) (rankLt rs)).toList) := ⟨_, rfl⟩
    rw [← hidx] at hsort
    have hin : ∀ i ∈ idx, i < rs.length := fun i hi => by
      have hm : rs.getD i 9 ∈ (List.range 4).filter rs.contains := by rw [← hsort]; exact List.mem_map_of_mem (f := fun i => rs.getD i 9) hi
      have h4 := List.mem_range.mp (List.mem_filter.mp hm).1
      rcases Nat.lt_or_ge i rs.length with q | q
      · exact q
      · rw [List.getD_eq_getElem?_getD, List.getElem?_eq_none q] at h4; exact absurd h4 (by decide)
    have hget : ∀ i ∈ idx, ∃ x, tl[i]? = some x ∧ tl.getD i ((0, Str.ofString "", 0, .none) : Tup2) = x := fun i hi => by
      have := hin i hi
      have e : tl[i]? = some tl[i] := List.getElem?_eq_getElem (by omega)
      exact ⟨_, e, by rw [List.getD_eq_getElem?_getD, e]; rfl⟩
    have hout : sortOut (tl.map fun x => Value.ref x.1) (rankLt rs) = (idx.map fun i => tl.getD i ((0, Str.ofString "", 0, .none) : Tup2)).map fun x => Value.ref x.1 := by
      unfold sortOut
      rw [hvl, List.map_map]
      have e1 : (if rs.length < 2 then (tl.map fun x => Value.ref x.1) else (kev (kas_sort rs.length) (rankLt rs)).toList.map fun i => (tl.map fun x => Value.ref x.1).getD i Value.none) = idx.map fun i => (tl.map fun x => Value.ref x.1).getD i Value.none := by
        rw [hidx]
        split
        · refine List.ext_getElem? fun i => ?_
          rw [List.getElem?_map, List.getElem?_map]
          by_cases hi : i < rs.length
          · rw [List.getElem?_range hi, List.getElem?_eq_getElem (by omega : i < tl.length)]
            simp only [Option.map_some, List.getD_eq_getElem?_getD, List.getElem?_map]
            rw [List.getElem?_eq_getElem (by omega : i < tl.length)]
            rfl
          · rw [List.getElem?_eq_none (by omega : tl.length ≤ i), List.getElem?_eq_none (by simp; omega)]
            rfl
        · rfl
      rw [e1]
      refine List.map_congr_left fun i hi => ?_
      obtain ⟨x, hx, hg⟩ := hget i hi
      show _ = Value.ref (tl.getD i ((0, Str.ofString "", 0, .none) : Tup2)).1
      rw [hg, List.getD_eq_getElem?_getD, List.getElem?_map, hx]
      rfl
    rw [hout] at ho₃
    refine h D tl (idx.map fun i => tl.getD i ((0, Str.ofString "", 0, .none) : Tup2)) _ (fun x hx => ?_) ?_ (H₂.upd (tk := s₂.toks) .head (fun b o hb e => hk₃ b o hb e) ⟨_, ho₃, c₃, rfl⟩)
    · obtain ⟨i, hi, rfl⟩ := List.mem_map.mp hx
      obtain ⟨x, hx, hg⟩ := hget i hi
      rw [hg]; exact List.mem_of_getElem? hx
    · rw [← hsort, List.map_map, List.map_map]
      refine List.map_congr_left fun i hi => ?_
      obtain ⟨x, hx, hg⟩ := hget i hi
      obtain ⟨r, hr, hkr⟩ := hkeyat i x hx
      have e1 : kvs[i]? = some (x.2.1, x.2.2.2) := by rw [← hkv, List.getElem?_map, hx]; rfl
      have e2 := valueAt_get hnk e1
      show ((tl.getD i ((0, Str.ofString "", 0, .none) : Tup2)).2.1, (tl.getD i ((0, Str.ofString "", 0, .none) : Tup2)).2.2.2) = (key (rs.getD i 9), (valueAt kvs (key (rs.getD i 9))).getD .none)
      rw [hg, List.getD_eq_getElem?_getD, hr]
      show (x.2.1, x.2.2.2) = (key r, (valueAt kvs (key r)).getD .none)
      rw [← hkr, e2]
      rfl
end
end Mine

namespace Mine
open PySem PySem.W PyProof.Rows PySem.Calls PySem.Spec
section
variable {prog : Program} {w : World} {A : Around} {E : Value → Shared → Prop} {s : Shared} {base : Heap} {os₀ : OsState} {led led' : Led} {env : Env} {o₀ : Obj} {d : Addr} {kvs : List (Str × Value)} {pos : Pos}

theorem d_get {t u : Sem Value} {Q : Value → Shared → Prop} (H : St base os₀ led s) (hs : base.get? sysModules = some o₀) (hd : (d, dctA (strKind prog w) kvs) ∈ led)
    (h : wpAny (model prog w) A t (fun key s₁ => wpAny (model prog w) A u (fun dflt s₂ => ∃ k tk, key = .str k tk ∧ St base os₀ led s₂ ∧ ∀ s', St base os₀ led s' → Q ((valueAt kvs k).getD dflt) s') E s₁) E s) :
    MethodOn prog w A "get" pos (.ref d) [(false, t), (false, u)] Q E s :=
  ⟨"dict", "dict.get", PySem.F.plainAttrs_dict, PySem.F.slot_dict_get, PySem.F.type_dict_get, (H.isDict hd).typeIs, (H.isDict hd).mapOf.noDict,
    wpAny_dict_get2 (knd := strKind prog w) (H.notSys hd hs) (wpAny_mono h (fun key s₁ h₁ => wpAny_mono h₁ (fun dflt s₂ ⟨k, tk, hk, H₂, hq⟩ => ⟨k, _, by rw [hk]; exact strKind_is prog w k tk, (H₂.isDict hd).mapOf, hq _ H₂.tok⟩) fun _ _ e => e) fun _ _ e => e)⟩
theorem d_items {Q : Value → Shared → Prop} (H : St base os₀ led s) (hs : base.get? sysModules = some o₀) (hd : (d, dctA (strKind prog w) kvs) ∈ led)
    (h : ∀ v s', St base os₀ ((v, objA { cls := .type "dict_items", data := .fields #[.ref d] }) :: led) s' → Q (.ref v) s') :
    MethodOn prog w A "items" pos (.ref d) [] Q E s :=
  ⟨"dict", "dict.items", PySem.F.plainAttrs_dict, PySem.F.slot_dict_items, PySem.F.type_dict_items, (H.isDict hd).typeIs, (H.isDict hd).mapOf.noDict,
    callWith_builtin rfl (PySem.evalArgs_none (call_meetsIn PySem.F.slot_dict_items (H.isDict hd).typeIs PySem.F.entry_dict_items (PySem.F.args_dict_items_1 _) (meets_dict_items (strKind prog w) d (H.notSys hd hs)) ⟨⟨kvs, H.isDict hd⟩, h _ _ (H.push (tk := s.toks) rfl rfl)⟩))⟩
theorem d_in {k : Str} {tk : Tok} {Q : Value → Shared → Prop} (H : St base os₀ led s) (hs : base.get? sysModules = some o₀) (hd : (d, dctA (strKind prog w) kvs) ∈ led) (h : ∀ s', St base os₀ led s' → Q (.bool (valueAt kvs k).isSome) s') :
    wpAny (model prog w) A (compareOp .In (.str k tk) (.ref d)) Q E s := wpAny_in_of (strKind_is prog w k tk) (H.notSys hd hs) (H.isDict hd).mapOf (h _ H.tok)
theorem d_item {k : Str} {tk : Tok} {v : Value} {Q : Value → Shared → Prop} {value slice : Expr} (H : St base os₀ led s) (hd : (d, dctA (strKind prog w) kvs) ∈ led) (hv : valueAt kvs k = some v) (h : ∀ s', St base os₀ led s' → Q v s')
    (hsu : subscripted slice false (.ref d) (.str k tk) = operate [.ref d, .str k tk] (getItem (.ref d) (.str k tk)) := by with_unfolding_all rfl) :
    wpAny (model prog w) A (subscriptTail value slice (.ref d) (.str k tk)) Q E s :=
  subscriptTail_builtinR (H.isDict hd).typeIs slot_dict_getitem.lookup (wpAny_getItem_of (strKind_is prog w k tk) (H.isDict hd).mapOf hv ⟨rfl, h _ H.tok⟩) hsu

end
end Mine

namespace Mine
open PySem PySem.W PyProof.Rows PySem.Calls PySem.Spec
section
variable {prog : Program} {w : World} {A : Around} {E : Value → Shared → Prop} {s : Shared} {base : Heap} {os₀ : OsState} {led : Led} {env : Env}

end
end Mine

namespace Mine
open PySem PySem.W PyProof.Rows PySem.Calls PySem.Spec
section
variable {prog : Program} {w : World} {A : Around} {E : Value → Shared → Prop} {s : Shared} {base : Heap} {os₀ : OsState} {led : Led}
/-- two lists of one length whose items are equal are equal -/
theorem list_eq_same {l b : Addr} {vs us : List Value} {Q : Value → Shared → Prop} (hl : s.heap.IsList l vs.toArray) (hb : s.heap.IsList b us.toArray) (hlen : vs.length = us.length) (hur : A.units < cLine)
    (he : ∀ p ∈ vs.zip us, EqW prog w A.in1 s p.1 p.2 true) (h : Q (.bool true) s) : wpAny (model prog w) A (richCompare .Eq (.ref l) (.ref b)) Q E s := by
  obtain ⟨⟨cls, dd, data, sl⟩, ho, hc, n, hd⟩ := hl
  obtain ⟨⟨cls2, dd2, data2, sl2⟩, ho2, hc2, n2, hd2⟩ := hb
  simp only at hc hd hc2 hd2
  subst hc hd hc2 hd2
  have hT : s.TypeIs (.ref l) "list" := ⟨_, ho, rfl⟩
  refine wpAny_richCompare_same_room (op := .Eq) hT ⟨_, ho2, rfl⟩ PySem.F.slot_list_eq ?_ hur
  refine wpAny_call (codeAny_call_builtin PySem.F.slot_list_eq.plain PySem.F.entry_list_eq (PySem.F.slot_list_eq.check _ _ _ _ _ _ _ _ hT (PySem.F.args_list_eq_2 _ _) ?_))
  have f3 := AutoSeq1.sub_list_list
  have hne : ¬ (vs.toArray.size != us.toArray.size) = true := by simp [hlen]
  have hloop := list_loop_same (prog := prog) (w := w) (A := A) (R := fun r s' => match r with | .ok (.ret v) => v ≠ .notImplemented ∧ Q v s' | .ok _ => False | .error e => E e s') (.inl ⟨rfl, rfl⟩) hlen ho ho2 he ⟨(fun x => nomatch x), h⟩ _ 0 rfl
  obtain ⟨hp, g, d, tk, os⟩ := s
  wp_walk using AutoSeq1.wpAny_loadPart' ho, AutoSeq1.wpAny_loadPart' ho2
  exact ⟨plainId_quiet MeetsSeq3.plain_eq_loop _, hloop⟩
end
end Mine

namespace Mine
open PySem PySem.W PyProof.Rows PySem.Calls PySem.Spec
/-! filter: what the tables say -/
end Mine

namespace Mine
open PySem PySem.W PyProof.Rows PySem.Calls PySem.Spec
section
variable {prog : Program} {w : World} {K : Type} [DecidableEq K]
def dctE (knd : KeyKind prog w K) (kvs : List (K × Value)) (ep : Nat) : Asn := fun o => ∃ es, o.ExactDict ∧ o.data = .dict es ep ∧ KeysOf knd es ∧ Pairs knd es.toList kvs ∧ (kvs.map (·.1)).Nodup
theorem dctE_A {knd : KeyKind prog w K} {kvs : List (K × Value)} {ep : Nat} (o : Obj) (h : dctE knd kvs ep o) : dctA knd kvs o := by
  obtain ⟨es, r⟩ := h; exact ⟨es, ep, r⟩
variable {knd : KeyKind prog w K} {A : Around} {E : Value → Shared → Prop} {s : Shared} {base : Heap} {os₀ : OsState} {led : Led} {I d F : Addr} {kvs : List (K × Value)} {i ep : Nat}
theorem St.seeEp (H : St base os₀ ((d, dctA knd kvs) :: led) s) : ∃ ep, St base os₀ ((d, dctE knd kvs ep) :: led) s := by
  obtain ⟨o, ho, es, ep, r⟩ := H.get (.head _)
  exact ⟨ep, H.upd (tk := s.toks) .head (fun _ _ _ e => e) ⟨o, ho, es, r⟩⟩
theorem St.dictAt (H : St base os₀ led s) (hm : (d, dctE knd kvs ep) ∈ led) : s.heap.DictAt knd d kvs ep := by
  obtain ⟨o, ho, es, h1, h2, r⟩ := H.get hm; exact ⟨o, es, ho, h1, h2, r⟩
end
end Mine

namespace Mine
open PySem PySem.W PyProof.Rows PySem.Calls PySem.Spec
/-- a line: None, a bool, a text, a number -/
inductive Ln | none | bool (b : Bool) | str (x : Str) | int (n : Int)
section
variable {prog : Program} {w : World} {K : Type} [DecidableEq K] {knd : KeyKind prog w K} {A : Around} {E : Value → Shared → Prop} {s : Shared} {base : Heap} {os₀ : OsState} {led : Led} {I d F S : Addr} {kvs : List (K × Value)} {i ep : Nat}
end
end Mine

namespace Mine
open PySem PySem.W PyProof.Rows PySem.Calls PySem.Spec
section
variable {prog : Program} {w : World} {K : Type} [DecidableEq K] {knd : KeyKind prog w K} {A : Around} {E : Value → Shared → Prop} {s : Shared} {base : Heap} {os₀ : OsState} {led : Led} {I d F S v : Addr} {kvs : List (K × Value)} {i ep : Nat} {ls : List Ln}
end
end Mine

namespace Mine
open PySem PySem.W PyProof.Rows PySem.Calls PySem.Spec
section
variable {prog : Program} {w : World} {K : Type} [DecidableEq K] {knd : KeyKind prog w K} {A : Around} {E : Value → Shared → Prop} {s : Shared} {base : Heap} {os₀ : OsState} {led : Led} {I d F S v : Addr} {kvs : List (K × Value)} {i ep : Nat} {ls : List Ln} {o₀ : Obj}
end
end Mine

namespace Mine
open PySem PySem.W PyProof.Rows PySem.Calls PySem.Spec
section
variable {prog : Program} {w : World} {K : Type} [DecidableEq K] {knd : KeyKind prog w K} {A : Around} {E : Value → Shared → Prop} {s : Shared} {base : Heap} {os₀ : OsState} {led led' : Led} {I d F S v : Addr} {kvs : List (K × Value)} {i ep : Nat} {ls : List Ln} {o₀ : Obj} {pos : Pos}
end
end Mine

namespace Mine
open PySem PySem.W PyProof.Rows PySem.Calls PySem.Spec
/-- where the name of a comprehension stands -/
structure Var (prog : Program) (w : World) (A : Around) (base : Heap) (os₀ : OsState) (ce : Env) (target : Expr) (C : Addr) (V : Option Value → Led → Prop) : Prop where
  store : ∀ o vl v rest s (Q : Unit → Shared → Prop) (E : Value → Shared → Prop), V o vl → St base os₀ (vl ++ rest) s → (∀ vl' s', V (some v) vl' → St base os₀ (vl' ++ rest) s' → Q () s') → wpAny (model prog w) A (assign target ce v) Q E s
  ns : ∀ o vl, V o vl → ∃ m vr, vl = (C, nsA m) :: vr
def varL (C : Addr) (x : Str) (o : Option Value) (vl : Led) : Prop := ∃ m : Str → Option Value, vl = [(C, nsA m)] ∧ ∀ v, o = some v → m x = some v
section
variable {prog : Program} {w : World} {A : Around} {E : Value → Shared → Prop} {s : Shared} {base : Heap} {os₀ : OsState} {led : Led} {env : Env}
theorem Var.loc {ce : Env} {x : Str} {px : Pos} (hkind : ce.scope.kind = .function) (hx : ce.kindOf x = some .local) : Var prog w A base os₀ ce (.Name x px) ce.locals (varL ce.locals x) where
  store := fun o vl v rest s Q E ⟨m, e, hm⟩ H h => by
    subst e
    exact wpAny_assign_Name (st_l H .head (fun s' H' => h _ s' ⟨_, rfl, fun v' q => by cases q; exact if_pos rfl⟩ H') hkind hx)
  ns := fun o vl ⟨m, e, _⟩ => ⟨m, [], e⟩
theorem comp_loopG {R : Result → Shared → Prop} {elt iter target : Expr} {ifs : List Expr} {scope : Scope} {pos : Pos} {ce : Env} {I C D : Addr} {n : Nat} {P : Nat → Value → Prop} {itP : Nat → Asn} {side : Led} {V : Option Value → Led → Prop} {vl₀ : Led}
    (W : Iter prog w A base os₀ I n P itP side) (hsz : n ≤ sizeLine) (hV : Var prog w A base os₀ ce target C V) (J : Nat → List Value → Led → Prop)
    (turn : ∀ i v ys vl led s E', i < n → P i v → J i ys led → V (some v) vl → St base os₀ (vl ++ ((D, lstA ys) :: (I, itP (i + 1)) :: (side ++ led))) s →
      wpAny (model prog w) A (forIn ifs true fun c r => if r = true then do let ok ← isTrue c ce (eval c ce); pure (ForInStep.yield ok) else pure (ForInStep.yield r)) (fun ok s₂ =>
        if ok = true then wpAny (model prog w) A (eval elt ce) (fun y s₃ => ∃ led', J (i + 1) (ys ++ [y]) led' ∧ St base os₀ (vl ++ ((D, lstA ys) :: (I, itP (i + 1)) :: (side ++ led'))) s₃) E' s₂
        else ∃ led', J (i + 1) ys led' ∧ St base os₀ (vl ++ ((D, lstA ys) :: (I, itP (i + 1)) :: (side ++ led'))) s₂) E' s)
    (fin : ∀ o vl ys led s, V o vl → J n ys led → ys.length ≤ n → St base os₀ (vl ++ ((D, lstA ys) :: (side ++ led))) s → R (.ok .next) s)
    (hv0 : V none vl₀) (H : St base os₀ (vl₀ ++ ((D, lstA []) :: (I, itP 0) :: (side ++ led))) s) (h0 : J 0 [] led)
    (ht : ∀ v, letOwnedTupleGo target (.ref I) v = pure () := by intro _; rfl) :
    codeAny (model prog w) A (.compLoop (.ListComp elt [⟨target, iter, ifs, 0⟩] scope pos) 0 (.ref I) (.ref D) ce) R s := by
  refine codeAny_compLoop_tests (fun k s' => ∃ i ys led' o vl, k = n + 1 - i ∧ i ≤ n ∧ ys.length ≤ i ∧ J i ys led' ∧ V o vl ∧ St base os₀ (vl ++ ((D, lstA ys) :: (I, itP i) :: (side ++ led'))) s') ?_ (n + 1) ⟨0, [], led, none, vl₀, rfl, Nat.zero_le _, Nat.le_refl _, h0, hv0, H⟩ ht
  rintro k s' ⟨i, ys, led', o, vl, rfl, hi, hlen, hJ, hvl, H'⟩
  have p1 : ∀ (j : Nat) (vl : Led), ((I, itP j) :: (side ++ (vl ++ ((D, lstA ys) :: led')))).Perm (vl ++ ((D, lstA ys) :: (I, itP j) :: (side ++ led'))) := fun j vl => by
    exact (List.Perm.cons _ (List.perm_append_comm_assoc side vl _)).trans ((List.perm_middle (l₁ := vl)).symm.trans (List.Perm.append_left vl ((List.Perm.cons _ (List.perm_middle (l₁ := side))).trans (List.Perm.swap ..))))
  by_cases hlt : i < n
  · refine W.item i _ s' _ _ hlt (H'.perm (p1 i vl)) fun v s₁ hv H₁ => ?_
    have H₂ : St base os₀ (vl ++ ((D, lstA ys) :: (I, itP (i + 1)) :: (side ++ led'))) s₁ := H₁.perm (p1 (i + 1) vl).symm
    refine hV.store o vl v _ _ _ _ hvl H₂ fun vl' s₂ hvl' H₃ => ?_
    refine wpAny_mono (turn i v ys vl' led' s₂ _ hlt hv hJ hvl' H₃) (fun ok s₃ h₃ => ?_) fun _ _ x => x
    cases ok with
    | true =>
      simp only [if_true] at h₃ ⊢
      refine wpAny_mono h₃ (fun y s₄ h₄ => ?_) fun _ _ x => x
      obtain ⟨led'', hJ', H₄⟩ := h₄
      have hup : ∀ vl : Led, Up D (lstA ys) (lstA (ys ++ [y])) (vl ++ ((D, lstA ys) :: (I, itP (i + 1)) :: (side ++ led''))) (vl ++ ((D, lstA (ys ++ [y])) :: (I, itP (i + 1)) :: (side ++ led''))) := fun vl => by
        induction vl with
        | nil => exact .head
        | cons q r ih => exact .tail ih
      refine l_append H₄ (hup vl') (fun s₅ H₅ => ⟨n + 1 - (i + 1), by omega, i + 1, ys ++ [y], led'', some v, vl', rfl, hlt, by simp; omega, hJ', hvl', H₅⟩) (by omega)
    | false =>
      simp only [Bool.false_eq_true, if_false] at h₃ ⊢
      obtain ⟨led'', hJ', H₄⟩ := h₃
      exact ⟨n + 1 - (i + 1), by omega, i + 1, ys, led'', some v, vl', rfl, hlt, by omega, hJ', hvl', H₄⟩
  · have hin : i = n := by omega
    subst hin
    refine W.done _ s' _ _ (H'.perm (p1 i vl)) fun s₁ H₁ => ?_
    refine fin o vl ys led' s₁ hvl hJ hlen (H₁.perm ?_)
    exact (List.Perm.append_left vl (List.perm_middle (l₁ := side)).symm).trans (List.perm_append_comm_assoc vl side _)

/-- the environment of a comprehension -/
def EnvMade (prog : Program) (w : World) (A : Around) (base : Heap) (os₀ : OsState) (scope : Scope) (env : Env) (cl : List (Str × Addr)) (mk : Addr → Env) (V : Addr → Option Value → Led → Prop) : Prop :=
  ∀ led s (Q : Env → Shared → Prop) (E : Value → Shared → Prop), St base os₀ led s → (∀ C vl cenv s', cenv.locals = C → ({ cenv with scope := relabel scope env } : Env) = mk C → V C none vl → St base os₀ (vl ++ led) s' → Q cenv s') →
    wpAny (model prog w) A (newFunctionEnv scope env.globals cl [] env.qual none .none (some env)) Q E s
theorem env_loc {scope : Scope} {cl : List (Str × Addr)} {x : Str} (hcell : ∀ y ∈ scope.names, y.2 ≠ .cell) (hkind : scope.kind = .function) : EnvMade prog w A base os₀ scope env cl (fun C => compEnvC scope cl C env) (fun C => varL C x) := fun led s Q E H h => by
  refine wpAny_newFunctionEnv hcell (by intro y hy; simp at hy) (fun h₁ hns₁ hsb₁ => ?_) hkind
  obtain ⟨o', ho', hp'⟩ := nsA_of hns₁
  refine h s.heap.objs.size [(s.heap.objs.size, nsA fun x => ([] : List (Str × Value)).reverse.lookup x)] _ _ rfl rfl ⟨_, rfl, fun v q => by cases q⟩ ?_
  exact H.more (tk := s.toks + ([] : List (Str × Value)).length) (fun b o e => hsb₁.extBut b o (Nat.ne_of_lt (Heap.lt_size e)) (Heap.get?_push_of_some _ e)) (Nat.le_refl _) ho' hp'
def CompBody (prog : Program) (w : World) (A : Around) (base : Heap) (os₀ : OsState) (elt target : Expr) (ifs : List Expr) (mk : Addr → Env) (V : Addr → Option Value → Led → Prop) (fin : Addr → List Value → Led → Prop) (it : Value) (s₂ : Shared) : Prop :=
  ∃ I n P itP side led, ∃ J : Nat → List Value → Led → Prop, it = .ref I ∧ Iter prog w A base os₀ I n P itP side ∧ n ≤ sizeLine ∧ St base os₀ ((I, itP 0) :: (side ++ led)) s₂ ∧ J 0 [] led ∧
      (∀ C D i v ys vl led s E', i < n → P i v → J i ys led → V C (some v) vl → St base os₀ (vl ++ ((D, lstA ys) :: (I, itP (i + 1)) :: (side ++ led))) s →
        wpAny (model prog w) A (forIn ifs true fun c r => if r = true then do let ok ← isTrue c (mk C) (eval c (mk C)); pure (ForInStep.yield ok) else pure (ForInStep.yield r)) (fun ok s₂ =>
          if ok = true then wpAny (model prog w) A (eval elt (mk C)) (fun y s₃ => ∃ led', J (i + 1) (ys ++ [y]) led' ∧ St base os₀ (vl ++ ((D, lstA ys) :: (I, itP (i + 1)) :: (side ++ led'))) s₃) E' s₂
          else ∃ led', J (i + 1) ys led' ∧ St base os₀ (vl ++ ((D, lstA ys) :: (I, itP (i + 1)) :: (side ++ led'))) s₂) E' s) ∧
      (∀ D ys led, J n ys led → ys.length ≤ n → fin D ys (side ++ led))

/-- a list comprehension as an expression -/
theorem comp_expr {elt iter target : Expr} {ifs : List Expr} {scope : Scope} {cl : List (Str × Addr)} {pos : Pos} {Q : Value → Shared → Prop} {mk : Addr → Env} {V : Addr → Option Value → Led → Prop} (hclos : closureFor scope env = pure cl)
    (hM : EnvMade prog w A base os₀ scope env cl mk V) (hV : ∀ C, Var prog w A base os₀ (mk C) target C (V C))
    (h : wpAny (model prog w) A (eval iter env) (fun xv s₁ => wpAny (model prog w) A (pyIter xv) (fun it s₂ => CompBody prog w A base os₀ elt target ifs mk V (fun D ys led => ∀ s, St base os₀ ((D, lstA ys) :: led) s → Q (.ref D) s) it s₂) E s₁) E s)
    (hkind : scope.kind = .function) (hnames : ∀ y ∈ scope.names, y.2 = .local → scope.names.lookup y.1 = some .local)
    (hs : ∀ x, foldedSetIterable iter env x = pure x := by intro _; rfl) (ht : ∀ I v, letOwnedTupleGo target (.ref I) v = pure () := by intro _ _; rfl) :
    wpAny (model prog w) A (eval (.ListComp elt [⟨target, iter, ifs, 0⟩] scope pos) env) Q E s := by
  rw [eval_ListComp]
  refine wpAny_comprehension_free (use := none) rfl hs hclos hkind hnames (wpAny_mono h (fun xv s₁ h₁ => wpAny_mono h₁ (fun it s₂ h₂ => ?_) fun _ _ e => e) fun _ _ e => e)
  obtain ⟨I, n, P, itP, side, led, J, rfl, W, hsz, H, h0, turn, fin⟩ := h₂
  refine new_list H fun D s₃ H₃ => ?_
  refine hM _ _ _ _ H₃ fun C vl cenv s₄ hC hmk hv H₄ => ?_
  rw [hmk, hC]
  have loop : codeAny (model prog w) A (.compLoop (.ListComp elt [⟨target, iter, ifs, 0⟩] scope pos) 0 (.ref I) (.ref D) (mk C)) (compPost (model prog w) A E none Q (.ref D) C) s₄ :=
    comp_loopG W hsz (hV C) J (fun i v ys vl led s E' hi hp hJ hvl H' => turn C D i v ys vl led s E' hi hp hJ hvl H')
      (fun o vl ys led s hvl hJ hl H' => by
        obtain ⟨m, vr, e⟩ := (hV C).ns o vl hvl
        subst e
        exact ⟨m, H'.ns (.head _), fun h' hs' => fin D ys led hJ hl _ ((H'.gone (tk := s.toks) fun b o hb e => hs'.extBut b o hb e).sub (List.sublist_append_right _ _))⟩) hv H₄ h0 (ht I)
  exact codeAny_compStart_list loop (W.self _ _ _ _ (H₄.perm (led' := (I, itP 0) :: (side ++ (vl ++ ((D, lstA []) :: led)))) (by
    exact (List.Perm.cons _ (List.perm_append_comm_assoc side vl _)).trans ((List.perm_middle (l₁ := vl)).symm.trans (List.Perm.append_left vl ((List.Perm.cons _ (List.perm_middle (l₁ := side))).trans (List.Perm.swap ..)))))) loop)

end
end Mine

namespace Mine
open PySem PySem.W PyProof.Rows PySem.Calls PySem.Spec
section
variable {prog : Program} {w : World} {A : Around} {E : Value → Shared → Prop} {s : Shared} {base : Heap} {os₀ : OsState} {led : Led} {env : Env} {K : Type} [DecidableEq K] {knd : KeyKind prog w K}
end
end Mine

namespace Mine
open PySem PySem.W PyProof.Rows PySem.Calls PySem.Spec
def nth (n : Nat) (l : List Stmt) : Stmt := match n, l with
  | 0, s :: _ => s
  | n + 1, _ :: r => nth n r
  | _, [] => .Pass default
def fnBody : Stmt → List Stmt | .FunctionDef _ _ b _ _ _ _ _ _ _ => b | _ => []
def fnPar : Stmt → Arguments | .FunctionDef _ a _ _ _ _ _ _ _ _ => a | _ => default
def fnScope : Stmt → Scope | .FunctionDef _ _ _ _ _ _ s _ _ _ => s | _ => default
/-- what is known of a def of the top -/
structure IsDef (base : Heap) (f : Addr) (st : Stmt) (fd : FuncData) : Prop where
  obj : ∃ o, base.get? f = some o ∧ o.data = .func fd
  body : fd.body = .stmts (fnBody st)
  par : fd.params = fnPar st
  scope : fd.scope = fnScope st
  clo : fd.closure = []
  glob : fd.globals = mainGlobals
  bi : fd.builtins = builtinsNs
  dflt : fd.defaults = .none
  code : base.CodeRec fd.code fd.qualname

section
variable {prog : Program} {w : World} {A : Around} {E : Value → Shared → Prop} {s : Shared} {base : Heap} {os₀ : OsState} {led : Led} {env : Env}
/-- a store of a local name; what else the names are stays -/
theorem st_g {x : Str} {v : Value} {m : Str → Option Value} {led' : (Str → Option Value) → Led} {Q : Unit → Shared → Prop} (H : St base os₀ led s) (U : ∀ m', Up env.locals (nsA m) (nsA m') led (led' m'))
    (h : ∀ m' s', m' x = some v → (∀ y, y ≠ x → m' y = m y) → St base os₀ (led' m') s' → Q () s') (hk : env.scope.kind = .function := by rfl) (hx : env.kindOf x = some .local := by rfl) :
    wpAny (model prog w) A (storeName env x v) Q E s :=
  st_l H (U _) (fun s' H' => h _ s' (if_pos rfl) (fun y hy => if_neg hy) H') hk hx
end
theorem up_head {a : Addr} {P : Asn} {P' : Asn} {l : Led} : Up a P P' ((a, P) :: l) ((a, P') :: l) := .head
theorem ints_get {pv : List Value} {ns : List Int} (h : IntsAre pv ns) : ∀ {p : Nat} {n : Int}, ns[p]? = some n → ∃ t, pv[p]? = some (.int n t) := by
  induction h with
  | nil => intro p n e; simp at e
  | cons k t _ ih =>
    intro p n e
    cases p with
    | zero => simp at e; subst e; exact ⟨t, rfl⟩
    | succ p => simpa using ih (by simpa using e)
theorem ints_take {vs : List Value} {ns : List Int} (h : IntsAre vs ns) : ∀ k, IntsAre (vs.take k) (ns.take k) := by
  induction h with
  | nil => intro k; simp; exact .nil
  | cons n t _ ih =>
    intro k
    cases k with
    | zero => exact .nil
    | succ k => exact .cons n t (ih k)
theorem st_top1 {base : Heap} {s : Shared} {L P : Addr} {m : Str → Option Value} {ob : Obj} (F : Fr base L s.heap m) (N : News base L s.heap [(L + 1, ob), (P, tabObj #[])]) (hob : ob.data = .cell none) (hg : s.gens = #[]) (hL : base.get? L = none) (hP : P < L) : St base s.os [(L, nsA m), (L + 1, celA none), (P, tabA #[])] s where
  keep := F.keep
  nd := by
    simp only [List.map_cons, List.map_nil, List.nodup_cons, List.mem_cons, List.not_mem_nil, or_false, not_false_eq_true, List.nodup_nil, and_true]
    refine ⟨?_, ?_⟩
    · rintro (e | e)
      · exact absurd e (Nat.ne_of_lt (Nat.lt_succ_self _))
      · exact absurd e (Nat.ne_of_gt hP)
    · exact fun e => absurd e (Nat.ne_of_gt (Nat.lt_succ_of_lt hP))
  has := fun p hp => by
    rcases List.mem_cons.mp hp with rfl | hp
    · exact nsA_of F.ns
    · rcases List.mem_cons.mp hp with rfl | hp
      · exact ⟨_, (N _ (.head _)).1, hob⟩
      · rcases List.mem_cons.mp hp with rfl | hp
        · exact ⟨_, (N _ (.tail _ (.head _))).1, rfl⟩
        · cases hp
  new := fun p hp => by
    rcases List.mem_cons.mp hp with rfl | hp
    · exact hL
    · rcases List.mem_cons.mp hp with rfl | hp
      · exact (N _ (.head _)).2.2
      · rcases List.mem_cons.mp hp with rfl | hp
        · exact (N _ (.tail _ (.head _))).2.2
        · cases hp
  gens := hg
  os := rfl
section
variable {prog : Program} {w : World} {A : Around} {E : Value → Shared → Prop} {s : Shared} {base : Heap} {os₀ : OsState} {led : Led} {m : Str → Option Value} {a : Addr} {vs : List Value}
/-- a slice up to a number -/
theorem l_upto {env : Env} {x : Str} {k : Nat} {i : Int} {b : Nat} {p1 p2 p3 p4 : Pos} {Q : Value → Shared → Prop} (H : St base os₀ led s) (hm : (env.locals, nsA m) ∈ led) (hv : m x = some (.ref a)) (hl : base.IsList a vs.toArray) (hsz : vs.length ≤ sizeLine)
    (h : ∀ r s', St base os₀ ((r, lstA (vs.take b)) :: led) s' → Q (.ref r) s') (hib : i = (b : Nat) := by rfl)
    (hk : env.scope.kind = .function := by rfl) (hx : env.kindOf x = some .local := by rfl) (hd : (x == ("__debug__" : Str)) = false := by decide) :
    wpAny (model prog w) A (eval (.Subscript (.Name x p1) (.Slice none (some (.Constant (.int i) k p2)) none p3) p4) env) Q E s := by
  subst hib
  refine wpAny_Subscript_list_slice (nm_l H hm hv (evalPart_none_step (evalPart_some_step (c_int H fun t s₁ H₁ => ⟨a, vs.toArray, none, some (b : Nat), rfl, ?_, by simpa using hsz, .none, .int (b : Nat) t, ?_⟩))) hk hx hd)
  · obtain ⟨o, ho, r⟩ := hl; exact ⟨o, H₁.keep _ _ ho, r⟩
  · exact h _ _ (H₁.push2 (tk := s₁.toks) rfl rfl ⟨0, by rw [slicePick_upto']⟩)
theorem i_add {a b : Int} {t u : Tok} {Q : Value → Shared → Prop} (H : St base os₀ led s) (h : ∀ t' s', St base os₀ led s' → Q (.int (a + b) t') s') : wpAny (model prog w) A (binaryOp .Add (.int a t) (.int b u)) Q E s :=
  PyProof.Rows.add_int (h _ _ H.tok)
theorem i_neg {a : Int} {t : Tok} {Q : Value → Shared → Prop} (H : St base os₀ led s) (h : ∀ t' s', St base os₀ led s' → Q (.int (-a) t') s') : wpAny (model prog w) A (unaryOp .USub (.int a t)) Q E s :=
  PySem.P.neg_int (h _ _ H.tok)
theorem i_pow {a b : Int} {t u : Tok} {Q : Value → Shared → Prop} (H : St base os₀ led s) (ha : 1 < a) (ha' : a < 16) (h0 : 0 ≤ b) (hb : b ≤ 200) (h : ∀ t' s', St base os₀ led s' → Q (.int (a ^ b.toNat) t') s') : wpAny (model prog w) A (binaryOp .Pow (.int a t) (.int b u)) Q E s := by
  by_cases hz : b = 0
  · subst hz
    refine PySem.AutoIntOps.pow_0 (by decide) (by decide) ?_
    have := h s.toks _ (H.tok (tk := s.toks + 1))
    simp only [Int.toNat_zero, Int.pow_zero] at this
    exact this
  · refine PySem.AutoIntOps.pow_4 h0 (by simpa using hz) (by simp; omega) (by simp; omega) ?_ (h _ _ H.tok)
    have hbits : Builtin.Int.intBits a ≤ 64 := by
      unfold Builtin.Int.intBits
      split
      · omega
      · have : a.natAbs.log2 < 4 := by rw [Nat.log2_lt (by omega)]; omega
        omega
    have h2 : ((Builtin.Int.intBits a : Nat) : Int) * b ≤ 64 * 200 := Int.mul_le_mul (by omega) hb h0 (by decide)
    have h3 : (12800 : Int) ≤ bitsLine := by decide
    simp only [Builtin.Int.intTooBig, decide_eq_true_eq]
    omega
theorem len_l {l : Addr} {vs : List Value} {Q : Value → Shared → Prop} (H : St base os₀ led s) (hm : (l, lstA vs) ∈ led) (hz : vs.length ≤ 1000) (h : ∀ t' s', St base os₀ led s' → Q (.int (vs.length : Nat) t') s') : wpAny (model prog w) A (call (.builtin "len") [.ref l]) Q E s :=
  PyProof.Rows.len_list (H.isList hm) (by rw [List.size_toArray]; omega) (by rw [List.size_toArray]; exact h _ _ H.tok)
end
end Mine

namespace Mine
open PySem PySem.W PyProof.Rows PySem.Calls PySem.Spec
/-! how long a number's text is -/
section
variable {prog : Program} {w : World} {A : Around} {E : Value → Shared → Prop} {s : Shared} {base : Heap} {os₀ : OsState} {led : Led} {l : Ln} {v : Value} {u : Tok}
end
end Mine

namespace Mine
open PySem PySem.W PyProof.Rows PySem.Calls PySem.Spec
section
variable {prog : Program} {w : World} {A : Around} {E : Value → Shared → Prop} {s : Shared} {base : Heap} {os₀ : OsState} {led : Led} {l m : Ln} {v u : Value}
end
end Mine

namespace Mine
open PySem PySem.W PyProof.Rows PySem.Calls PySem.Spec
section
variable {prog : Program} {w : World} {A : Around} {E : Value → Shared → Prop} {s : Shared} {base : Heap} {os₀ : OsState} {led : Led} {env : Env}
end
end Mine

namespace Mine
open PySem PySem.W PyProof.Rows PySem.Calls PySem.Spec
def keyA (d : Addr) (n ep i : Nat) : Asn := fun o => o.cls = .type "dict_keyiterator" ∧ o.data = .fields #[.ref d, .int i 0, .int n 0, .int ep 0]
section
variable {prog : Program} {w : World} {A : Around} {E : Value → Shared → Prop} {s : Shared} {base : Heap} {os₀ : OsState} {led led' : Led} {env : Env} {o₀ : Obj} {d l I : Addr} {kvs : List (Int × Value)} {vs : List Value} {pos : Pos} {ep : Nat}
end
end Mine

namespace Mine
open PySem PySem.W PyProof.Rows PySem.Calls PySem.Spec
/-! a logic for runs below the caller: as wpAny, over the contexts alone that have the claim's caller on the stack -/
def Cal (l : List (Code × Pos)) : Prop := (l.map (·.1)).any Code.isCaller = true
theorem Cal.cons {x : Code × Pos} {l : List (Code × Pos)} (h : Cal l) : Cal (x :: l) := by
  unfold Cal at h ⊢
  rw [List.map_cons, List.any_cons, h, Bool.or_true]
def wpC {α : Type} (M : Model) (A : Around) (t : Sem α) (Q : α → Shared → Prop) (E : Value → Shared → Prop) (s : Shared) : Prop :=
  ∀ Γ p, Γ.In A → Cal ((Γ.code, default) :: Γ.below) → Sem.wp M Γ t (fun a _ s' => Q a s') (fun e _ s' => E e s') p s
def codeC (M : Model) (A : Around) (c : Code) (R : Result → Shared → Prop) (s : Shared) : Prop :=
  ∀ Γ p, Γ.code = c → Γ.Below A → Cal Γ.below → wpCode M Γ R p s
section
variable {α β : Type} {M : Model} {A : Around} {E : Value → Shared → Prop} {s : Shared} {env : Env}
theorem wpC_any {t : Sem α} {Q : α → Shared → Prop} (h : wpAny M A t Q E s) : wpC M A t Q E s := fun Γ p hΓ _ => h Γ p hΓ
theorem wpC_pure {a : α} {Q : α → Shared → Prop} (h : Q a s) : wpC M A (pure a) Q E s := wpC_any (wpAny_pure h)
theorem wpC_mono {t : Sem α} {Q Q' : α → Shared → Prop} {E' : Value → Shared → Prop} (h : wpC M A t Q E s) (hQ : ∀ a s, Q a s → Q' a s) (hE : ∀ e s, E e s → E' e s) : wpC M A t Q' E' s :=
  fun Γ p hΓ hc => Sem.wp_mono M Γ t (fun a _ s => hQ a s) (fun e _ s => hE e s) p s (h Γ p hΓ hc)
theorem codeC_mono {c : Code} {R R' : Result → Shared → Prop} (h : codeC M A c R s) (hR : ∀ r s, R r s → R' r s) : codeC M A c R' s :=
  fun Γ p hc hΓ hl => wpCode_mono hR (h Γ p hc hΓ hl)
theorem wpC_bind {m : Sem α} {f : α → Sem β} {Q : β → Shared → Prop} (h : wpC M A m (fun a s' => wpC M A (f a) Q E s') E s) : wpC M A (m >>= f) Q E s := fun Γ p hΓ hc => by
  rw [Sem.wp_bind']
  exact Sem.wp_mono M Γ m (fun a p' s' h' => h' Γ p' hΓ hc) (fun _ _ _ h' => h') p s (h Γ p hΓ hc)
/-- the first part by the wide logic -/
theorem wpC_first {m : Sem α} {f : α → Sem β} {Q : β → Shared → Prop} (h : wpAny M A m (fun a s' => wpC M A (f a) Q E s') E s) : wpC M A (m >>= f) Q E s := wpC_bind (wpC_any h)
theorem wpC_onRaise {m : Sem α} {k : Value → Sem Unit} {Q : α → Shared → Prop} (h : wpC M A m Q (fun e s' => wpC M A (k e) (fun _ s'' => E e s'') E s') s) : wpC M A (m.onRaise k) Q E s := fun Γ p hΓ hc => by
  rw [Sem.wp_onRaise]
  exact Sem.wp_mono M Γ m (fun _ _ _ h' => h') (fun e p' s' h' => h' Γ p' hΓ hc) p s (h Γ p hΓ hc)
theorem wpC_attempt {m : Sem α} {Q : Except Value α → Shared → Prop} (h : wpC M A m (fun a => Q (.ok a)) (fun e => Q (.error e)) s) : wpC M A m.attempt Q E s := fun Γ p hΓ hc => by
  rw [Sem.wp_attempt]; exact h Γ p hΓ hc
theorem wpC_run {c : Code} {h : Option Value} {Q : Flow → Shared → Prop} (hc : codeC M (A.mark h) c (fun r s' => match r with | .ok f => Q f s' | .error e => E e s') s) (hnb : h ≠ some byPass := by intro x; cases x) :
    wpC M A (run c h) Q E s := fun Γ p hΓ hl => by
  rw [Sem.wp_run]; exact hc _ p rfl (hΓ.enter c h p hnb) hl
theorem wpC_runValue {c : Code} {Q : Value → Shared → Prop} (hc : codeC M A c (fun r s' => match r with | .ok (.ret v) => Q v s' | .ok _ => False | .error e => E e s') s) : wpC M A (runValue c) Q E s := fun Γ p hΓ hl => by
  rw [Sem.wp_runValue]; exact hc _ p rfl (hΓ.enter c none p (by intro x; cases x)) hl
theorem wpC_call {f : Value} {pos : List Value} {kw : List (Str × Value)} {Q : Value → Shared → Prop}
    (hc : codeC M A (.call f ⟨pos, kw⟩) (fun r s' => match r with | .ok (.ret v) => Q v s' | .ok _ => False | .error e => E e s') s) : wpC M A (call f pos kw) Q E s := wpC_runValue hc
theorem codeC_of_tree {c : Code} {R : Result → Shared → Prop}
    (h : wpC M (A.under c) (M.den c) (fun fin s' => match fin with | .done f => R (.ok f) s' | .again c' => c'.quiet = true ∧ codeC M A c' R s') (fun e s' => R (.error e) s') s) : codeC M A c R s := fun Γ p hc hΓ hl => by
  rw [wpCode_iff_wp, hc]
  refine Sem.wp_mono M Γ _ (fun fin p' s' h' => ?_) (fun _ _ _ h' => h') p s (h Γ p (hc ▸ hΓ.in) hl.cons)
  cases fin with
  | done f => exact h'
  | again c' => exact ⟨h'.1, h'.2 (Γ.goto c') p' rfl (hΓ.goto c') hl⟩
theorem codeC_loop {c : Code} {R : Result → Shared → Prop} (hq : c.quiet = true) (I : Nat → Shared → Prop)
    (turn : ∀ n s, I n s → wpC M (A.under c) (M.den c)
      (fun fin s' => match fin with
        | .done f => R (.ok f) s'
        | .again c' => (c' = c ∧ ∃ m, m < n ∧ I m s') ∨ (c'.quiet = true ∧ codeC M A c' R s')) (fun e s' => R (.error e) s') s)
    (n : Nat) (h : I n s) : codeC M A c R s := by
  induction n using Nat.strongRecOn generalizing s with
  | ind n ih =>
    refine codeC_of_tree (wpC_mono (turn n s h) (fun fin s' hf => ?_) fun _ _ h' => h')
    cases fin with
    | done f => exact hf
    | again c' =>
      rcases hf with ⟨rfl, m, hm, hI⟩ | hf
      · exact ⟨hq, ih m hm hI⟩
      · exact hf
theorem wpC_runOwn {c : Code} {h : Option Value} {Q : Flow → Shared → Prop}
    (hc : codeC M (A.mark h) c (fun r s' => match r with | .ok f => Q f s' | .error e => cameBackBy M A env E e s') s) (hnb : h ≠ some byPass := by intro x; cases x) : wpC M A (runOwn c env h) Q E s := by
  unfold runOwn
  exact wpC_onRaise (wpC_mono (wpC_run hc hnb) (fun _ _ q => q) fun _ _ q => wpC_any q)
theorem wpC_noted {m : Sem α} {Q : α → Shared → Prop} (h : wpC M A m Q (notedBy M A env E) s) : wpC M A (m.onRaise fun x => do noteFrame x env; theTreesLotGoes x) Q E s :=
  wpC_onRaise (wpC_mono h (fun _ _ q => q) fun _ _ hx => wpC_any (wpAny_bind (wpAny_mono hx (fun _ _ e => wpAny_theTreesLotGoes e) fun _ _ e => e)))
theorem wpC_of_eq {a : α} {t : Sem α} {Q : α → Shared → Prop} (e : t = pure a) (h : Q a s) : wpC M A t Q E s := e ▸ wpC_pure h
/-! statements -/
theorem execsC_cons {st : Stmt} {rest : List Stmt} {Q : Flow → Shared → Prop} (h : wpC M A (exec st env) (fun f s' => match f with | .next => wpC M A (execs rest env) Q E s' | f => Q f s') E s) : wpC M A (execs (st :: rest) env) Q E s := by
  rw [execs_cons]
  refine wpC_bind (wpC_mono h (fun f s' h' => ?_) fun _ _ x => x)
  cases f <;> first | exact h' | exact wpC_pure h'
/-- a statement without refusals, the rest below the caller -/
theorem execsC_step {st : Stmt} {rest : List Stmt} {Q : Flow → Shared → Prop} (h : wpAny M A (exec st env) (fun f s' => match f with | .next => wpC M A (execs rest env) Q E s' | f => Q f s') E s) : wpC M A (execs (st :: rest) env) Q E s := execsC_cons (wpC_any h)
theorem If_C {test : Expr} {body orelse : List Stmt} {pos : Pos} {Q : Flow → Shared → Prop}
    (h : wpAny M A (isTrue test env (eval test env)) (fun b s₂ => if b then wpC M A (execs body env) Q E s₂ else wpC M A (execs orelse env) Q E s₂) E s) : wpC M A (exec (.If test body orelse pos) env) Q E s := by
  rw [exec_If]
  refine wpC_first (wpAny_standAt (wpC_first (wpAny_mono h (fun b s₂ h₂ => ?_) fun _ _ x => x)))
  cases b <;> exact h₂
theorem Assign_C {x : Str} {pos' pos : Pos} {value : Expr} {Q : Flow → Shared → Prop} (h : wpC M A (eval value env) (fun v s₁ => wpAny M A (storeName env x v) (fun _ => Q .next) E s₁) E s)
    (hs : swapsWith value (some (.Name x pos')) pos.line env = pure false := by rfl) : wpC M A (exec (.Assign [.Name x pos'] value pos) env) Q E s := by
  rw [exec_Assign_Name env x pos' value pos hs]
  refine wpC_first (wpAny_standAt (wpC_bind (wpC_mono h (fun v s₁ h₁ => wpC_any ?_) fun _ _ x => x)))
  exact wpAny_bind (wpAny_standAt (wpAny_bind (wpAny_bindName (wpAny_mono h₁ (fun _ s₂ q => wpAny_pure q) fun _ _ x => x))))
theorem For_C {target iter : Expr} {body orelse : List Stmt} {pos : Pos} {Q : Flow → Shared → Prop}
    (h : wpAny M A (eval iter env) (fun x s₁ => wpAny M A (pyIter x) (fun it s₂ =>
      codeC M A (.forLoop target it body orelse env) (fun r s' => match r with | .ok f => Q f s' | .error e => cameBackBy M A env E e s') s₂) E s₁) E s)
    (hs : ∀ x, foldedSetIterable iter env x = pure x := by intro _; rfl) : wpC M A (exec (.For target iter body orelse pos) env) Q E s := by
  rw [exec_For]
  exact wpC_first (wpAny_standAt (wpC_first (wpAny_mono h (fun x s₁ h₁ => wpC_bind (wpC_of_eq (hs x) (wpC_first (wpAny_standAt (wpC_first (wpAny_holding (wpAny_mono h₁ (fun it s₂ h₂ => wpC_runOwn h₂) fun _ _ q => q))))))) fun _ _ q => q)))
theorem Try_C {body orelse : List Stmt} {h₀ : ExceptHandler} {hs : List ExceptHandler} {pos : Pos} {Q : Flow → Shared → Prop}
    (h : wpC M A (execs body env) (fun f s₁ => match f with | .next => wpC M A (execs orelse env) Q E s₁ | f => Q f s₁)
      (fun e s₁ => wpAny M A (noteFrame e env) (fun _ s₂ => wpAny M A (setFlight e none) (fun _ s₃ => wpAny M A (handleBy e env (h₀ :: hs)) Q E s₃) E s₂) E s₁) s) :
    wpC M A (exec (.Try body (h₀ :: hs) orelse [] pos) env) Q E s := by
  rw [arm_exec_Try]
  refine wpC_first (wpAny_standAt ?_)
  unfold tryStmt
  simp only [List.isEmpty_nil, if_true, List.isEmpty_cons, Bool.false_and, Bool.false_eq_true, if_false]
  refine wpC_bind (wpC_attempt (wpC_mono h (fun f s₁ h₁ => ?_) fun e s₁ h₁ => ?_))
  · cases f <;> first | exact h₁ | exact wpC_pure h₁
  · exact wpC_any (wpAny_bind (wpAny_mono h₁ (fun _ _ h₂ => wpAny_bind h₂) fun _ _ x => x))
theorem Call_C {x : Str} {np pos : Pos} {args : List Expr} {keywords : List Keyword} {Q : Value → Shared → Prop}
    (h : wpAny M A (eval (.Name x np) env) (fun f s₁ => wpC M A (callWith pos f [] (backTo pos (starEach args env)) (backToKw pos (keywordEach keywords env))) Q E s₁) E s) : wpC M A (eval (.Call (.Name x np) args keywords pos) env) Q E s := by
  show wpC M A (do callWith pos (← eval (.Name x np) env) [] (backTo pos (starEach args env)) (backToKw pos (keywordEach keywords env))) Q E s
  exact wpC_first h
end
section
variable {prog : Program} {w : World} {A : Around} {E : Value → Shared → Prop} {s : Shared} {env : Env} {base : Heap} {os₀ : OsState} {led led' : Led} {R : Result → Shared → Prop}
theorem forLoop_C {target : Expr} {it : Value} {body orelse : List Stmt} (I : Nat → Shared → Prop)
    (turn : ∀ n s, I n s → wpAny (model prog w) A (pyNext it) (fun r s₁ => match r with
      | none => wpC (model prog w) A (execs orelse env) (fun f s₃ => R (.ok f) s₃) (notedBy (model prog w) A env fun e s' => R (.error e) s') s₁
      | some v => wpAny (model prog w) A (assign target env v) (fun _ s₂ => wpC (model prog w) A (execs body env) (fun f s₃ => match f with
          | .next | .cont => ∃ m, m < n ∧ I m s₃
          | .brk => R (.ok .next) s₃
          | .ret v => R (.ok (.ret v)) s₃) (notedBy (model prog w) A env fun e s' => R (.error e) s') s₂) (notedBy (model prog w) A env fun e s' => R (.error e) s') s₁) (notedBy (model prog w) A env fun e s' => R (.error e) s') s)
    (n : Nat) (h : I n s) (ht : ∀ v, letOwnedTupleGo target it v = pure () := by intro _; rfl) : codeC (model prog w) A (.forLoop target it body orelse env) R s := by
  refine codeC_loop rfl I (fun n s hI => ?_) n h
  show wpC _ _ ((forTurn target it body orelse env).onRaise (fun x => do noteFrame x env; theTreesLotGoes x)) _ _ s
  refine wpC_noted ?_
  simp only [forTurn]
  refine wpC_first (wpAny_standAt (wpC_first (wpAny_onRaise (wpAny_mono (turn n s hI) (fun r s₁ h₁ => ?_) fun _ _ h' => wpAny_standAt h'))))
  cases r with
  | none =>
    refine wpC_pure (.inr ⟨rfl, codeC_of_tree ?_⟩)
    show wpC _ _ (do return Fin.done (← (execs orelse env).onRaise (fun x => do noteFrame x env; theTreesLotGoes x))) _ _ s₁
    exact wpC_bind (wpC_noted (wpC_mono h₁ (fun f s' h' => wpC_pure h') fun _ _ h' => h'))
  | some v =>
    refine wpC_bind (wpC_of_eq (ht v) ?_)
    refine wpC_first (wpAny_mono h₁ (fun _ s₂ h₂ => wpC_bind (wpC_mono h₂ (fun f s₃ h₃ => ?_) fun _ _ h' => h')) fun _ _ h' => h')
    cases f with
    | next => exact wpC_pure (.inl ⟨rfl, h₃⟩)
    | cont => exact wpC_pure (.inl ⟨rfl, h₃⟩)
    | brk => exact wpC_pure h₃
    | ret v => exact wpC_pure h₃
theorem func_C {body : List Stmt} (h : wpC (model prog w) (A.deeper env) (execs body env) (fun f s' => R (.ok (.ret (match f with | .ret v => v | _ => .none))) s')
      (fun e s' => wpAny (model prog w) (A.deeper env) (leaving env e) (fun _ s'' => R (.error e) s'') (fun e' s'' => R (.error e') s'') s') s) : codeC (model prog w) A (.func body env) R s := by
  refine codeC_of_tree ?_
  show wpC _ (A.deeper env) (do point; match ← (execs body env).onRaise (leaving env) with | .ret v => ret v | _ => ret .none) _ _ s
  refine wpC_first (wpAny_point (wpC_bind (wpC_onRaise (wpC_mono h (fun f s' h' => ?_) fun _ _ h' => wpC_any h'))))
  cases f <;> exact wpC_pure h'
/-- the binding of a call's arguments below the caller -/
theorem callFn_C {a : Addr} {args : Args} {o : Obj} {fd : FuncData} {body : List Stmt} (hroom : A.depth < recursionLimit) (ho : s.heap.get? a = some o)
    (hd' : o.data = .func fd) (hco : fd.scope.isCoroutine = false) (hgen : fd.scope.isGenerator = false) (hbody : fd.body = .stmts body) (hcd : s.heap.CodeRec fd.code fd.qualname)
    (h : wpC (model prog w) A.in1 (bindArgs fd args) (fun binds s₁ =>
      wpAny (model prog w) A.in1 (newFunctionEnv fd.scope fd.globals fd.closure binds (fd.qualname ++ ".<locals>.") (some a) fd.code none fd.builtins)
        (fun env s₂ => s₂.heap.NoLimit ∧ codeC (model prog w) A (.func body env) R s₂) (fun e s' => R (.error e) s') s₁) (fun e s' => R (.error e) s') s) :
    codeC (model prog w) A (.call (.ref a) args) R s := by
  refine codeC_of_tree ?_
  show wpC _ A.in1 (callAny (.ref a) args) _ _ s
  simp only [callAny]
  refine wpC_first (wpAny_load ho ?_)
  obtain ⟨c, oc, vs, tq, hc, hoc, hdc, hq⟩ := hcd
  simp only [hd', callFunction, hco, hgen, hbody, hc]
  rw [hc] at h
  refine wpC_first (m := field (.ref c) 1) (wpAny_field hoc hdc hq (wpC_first (wpAny_pure ?_)))
  exact wpC_bind (wpC_mono h (fun binds s₁ h₁ => wpC_first (wpAny_mono h₁ (fun env s₂ h₂ => wpC_first (wpAny_enterFrame h₂.1 hroom (wpC_pure (And.intro rfl h₂.2)))) fun _ _ h' => h')) fun _ _ h' => h')
end
end Mine

namespace Mine
open PySem PySem.W PyProof.Rows PySem.Calls PySem.Spec
/-! from runs below the caller to a row -/
theorem caller_cal : Cal [(.builtin "claim.caller" {}, default)] := by unfold Cal; rfl
theorem thread_endsC {prog : Program} {w : World} {t : Sem Fin} {s : Shared} {R : Result → Shared → Prop} (hreg : s.asleep)
    (h : wpC (model prog w) callerA t (fun fin s' => ∃ f, fin = .done f ∧ (R (.ok f) s' ∧ leftWithCleanup s'.gens = false)) (fun e s' => R (.error e) s' ∧ leftWithCleanup s'.gens = false) s) :
    ∃ n r s' s'', runN (denote table) prog w n s ⟨t, .builtin "claim.caller" {}, default, []⟩ = .halted (outcomeOf r) s' ∧
      schedN (denote table) prog w n (.single s ⟨t, .builtin "claim.caller" {}, default, []⟩) = .halted (outcomeOf r) s' ∧ s'.forget = s''.forget ∧ R r s'' := by
  have go : Sem.wp (model prog w) ⟨.builtin "claim.caller" {}, none, none, [], none⟩ t (Sem.finPost (model prog w) ⟨.builtin "claim.caller" {}, none, none, [], none⟩ fun r s' => R r s' ∧ leftWithCleanup s'.gens = false)
      (fun e _ s' => R (.error e) s' ∧ leftWithCleanup s'.gens = false) default s := by
    refine Sem.wp_mono _ _ t (fun fin p' s' h' => ?_) (fun _ _ _ h' => h') default s (h _ default caller_in caller_cal)
    obtain ⟨f, rfl, hf⟩ := h'
    exact hf
  obtain ⟨n, r, s₁, s₂, hs, hn, hfo, hR⟩ := wp_halts_full (M := model prog w) (R := R) hreg go
  exact ⟨n, r, s₂, s₁, hn, hs, hfo, hR⟩
theorem callFromC {c : ClaimW} {tree : List Value → Sem Fin} {w : World} {s : Shared} {free : Addr → Prop} {gens : Prop} {kept : Heap → Prop} (hz : s.asleep) (hgens : s.gens = #[])
    (spec : ∀ args, c.pre args = true → WData.layableAll args = true → ∀ ord : List DictEntry → List DictEntry, (∀ l, (ord l).Perm l) →
      ∃ vs s₁, layAllW c.records (classAt s.heap) w.params ord args s = some (vs, s₁) ∧
        wpC (model c.prog w) callerA (tree vs) (fun fin s' => ∃ f, fin = .done f ∧ (c.Ends s args vs s₁ (.ok f) s' ∧ s'.os = s.os ∧ AllBare s'.gens ∧ kept s'.heap))
          (fun e s' => c.Ends s args vs s₁ (.error e) s' ∧ s'.os = s.os ∧ AllBare s'.gens ∧ kept s'.heap) s₁) :
    c.CallFrom (fun vs => ⟨tree vs, .builtin "claim.caller" {}, default, []⟩) w free gens kept s := by
  intro args hpre hlay ord hord
  obtain ⟨vs, s₁, hlaid, hcode⟩ := spec args hpre hlay ord hord
  have hal := layAllW_rest _ _ _ hlaid
  have hcode' : wpC (model c.prog w) callerA (tree vs) (fun fin s' => ∃ f, fin = .done f ∧ ((c.Ends s args vs s₁ (.ok f) s' ∧ s'.os = s.os ∧ kept s'.heap) ∧ leftWithCleanup s'.gens = false))
      (fun e s' => (c.Ends s args vs s₁ (.error e) s' ∧ s'.os = s.os ∧ kept s'.heap) ∧ leftWithCleanup s'.gens = false) s₁ :=
    wpC_mono hcode (fun fin s' ⟨f, e, h1, h2, h3, h4⟩ => ⟨f, e, ⟨h1, h2, h4⟩, leftWithCleanup_false_of_bare h3⟩) fun e s' ⟨h1, h2, h3, h4⟩ => ⟨⟨h1, h2, h4⟩, leftWithCleanup_false_of_bare h3⟩
  obtain ⟨k, r, s', s'', hrun, hsched, hfo, hcase, hos, hkp⟩ := thread_endsC (R := fun r s' => c.Ends s args vs s₁ r s' ∧ s'.os = s.os ∧ kept s'.heap) (Shared.asleep_of_life hal.2.2.2 hz) hcode'
  obtain ⟨eh, _, _, eo, _⟩ := Shared.forget_eq hfo
  have hc2 : c.Ends s args vs s₁ r s' := hcase.congr eh
  have hk2 : kept s'.heap := by rw [eh]; exact hkp
  have ho2 : s'.os = s.os := eo.trans hos
  have hlife : s'.heap.life = s.heap.life := (runN_life _ _ _ hrun).trans hal.2.2.2
  refine ⟨vs, s₁, hlaid, k, _, s', hsched, ?_, (fun _ i x hx => by rw [hgens] at hx; simp at hx), hk2, by rw [hlife], Shared.rest_eq ho2⟩
  rcases hc2 with ⟨v, rfl, d1, d2, d3, d4, d5⟩ | ⟨e, ob, cls, rfl, d1, d2, d3, d4, d5⟩
  · exact .inl ⟨v, rfl, d1, d2, d3, fun b o y _ => d4 b o y, d5⟩
  · exact .inr ⟨e, ob, cls, rfl, d1, d2, d3, d4, fun b o y _ => d5 b o y⟩
abbrev WalkC (q : Program) (loose : List Str) (XP : (Str → Option Value) → Heap → Prop) (YP : World → Heap → Prop) (r : RowW) (d : DefRec) (kwd : List (Str × Expr)) : Prop :=
  ∀ (w : World) (s₀ s₁ : Shared) (mg mb : Str → Option Value), Ground q loose r.records XP w s₀ mg mb s₁.heap → YP w s₁.heap → ∀ (a : Addr) (o : Obj) (pm cd doc dV kV : Value), s₁.heap.get? a = some o →
    o.data = .func { docDef d.name d.params d.body d.scope pm cd doc with defaults := dV, kwdefaults := kV } → s₁.heap.CodeRec cd d.name → Dflts mg s₁.heap d.params kwd dV kV → mg d.name = some (.ref a) → s₁.gens = #[] →
    ∀ (args : List WData) (vals : List Value) (as : List Addr), r.claim.pre args = true → WData.layableAll args = true → ReadsAllW r.records (classAt s₀.heap) s₁.heap vals args as → WellAll w.params s₁.heap vals args → (∀ a ∈ as, (a == sysModules) = false) →
      wpC (model r.prog w) callerA (PySem.call (.ref a) vals) (fun v s' => GoodWG r.claim (classAt s₀.heap) (ExcName.means s₀.heap) args s₁ (.ok (.ret v)) s')
        (fun e s' => GoodWG r.claim (classAt s₀.heap) (ExcName.means s₀.heap) args s₁ (.error e) s') s₁
end Mine
namespace MineH.PySem.W
open _root_.PySem _root_.PySem.W PyProof.Rows _root_.PySem.Calls _root_.PySem.Spec Mine
/-- a row by a walk below the caller: the twin of the library's holds_open, over wpC. Its name is chosen so that the library's tactic o_head, which asks for its head by name, finds this theorem inside «namespace MineH»; nothing of the library is changed -/
theorem holds_open {r : OpenRow} {q : Program} {loose : List Str} {Xt : Shared → Bool} {XP : (Str → Option Value) → Heap → Prop} {α : Type} {Yf : Shared → α} {Ya : World → α} {YP : World → Heap → Prop} {d : DefRec} {kwd : List (Str × Expr)} {N : Nat}
    (left : LeftO r.prog q loose Xt Yf Ya N) (hY : ∀ w s, Yf s = Ya w → YP w s.heap) (hYk : ∀ w h h', YP w h → (∀ b o, h.get? b = some o → h'.get? b = some o) → YP w h')
    (hX : ∀ s, Xt s = true → XP (s.heap.nsMap mainGlobals) s.heap) (hXk : ∀ mg h h', XP mg h → (∀ b o, h.get? b = some o → h'.get? b = some o) → XP mg h')
    (hdef : defOf q r.name = some (d, kwd)) (hp : r.prog.theDef r.name = some (d.params, d.body, d.scope)) (hk : kwWritten? d.params.kwonlyargs d.params.kw_defaults = some kwd) (hRf : ∀ s, Xt s = true → RecFacts r.records s.heap) (hwr : (!r.writes || r.records.isEmpty) = true)
    (k1 : r.wellSaid = true) (ok : (chainsOk q && opensWell r.prog && (frees r.toRowW && r.within.isEmpty)) = true) (hb : r.prog.bare) (hw : r.toRowW.promised)
    (call : WalkC q loose XP YP r.toRowW d kwd) : r.Holds := by
  refine ⟨k1, hw, ?_⟩
  obtain ⟨ok, k5⟩ := Bool.and_eq_true_iff.mp ok
  obtain ⟨hch, o1⟩ := Bool.and_eq_true_iff.mp ok
  obtain ⟨k5, k6⟩ := Bool.and_eq_true_iff.mp k5
  obtain ⟨hsame, hu, ha, hap, hm⟩ := frees_parts k5
  refine ⟨⟨hb, o1, by show r.makers.map _ = []; rw [hm]; rfl⟩, hw.witness, fun w => ⟨(left.behind hX hch w).1, fun s' hs' => ?_⟩⟩
  obtain ⟨s₀, hf, hg0, s, hT, hz, hgens, hg, G00, y⟩ := (left.behind (XP := fun mg h => XP mg h ∧ RecFacts r.records h) (fun s hs => ⟨hX s hs, hRf s hs⟩) hch w).2 s' hs'
  have G0 : Ground q loose [] XP w s (s.heap.nsMap mainGlobals) (s.heap.nsMap builtinsNs) s.heap := ⟨G00.T, G00.B, G00.D, G00.TE, G00.TD, G00.W, G00.X.1, G00.cls, G00.has, G00.apart, G00.once, G00.K⟩
  have RF := G00.X.2
  have hgens : s.gens = #[] := Array.eq_empty_of_size_eq_zero (beq_iff_eq.mp hgens)
  have G : Ground q loose r.records XP w s _ _ s.heap := RF.ground G0
  refine ⟨s₀, hf, hg0, s, hT, fun n hn => ?_, RF.1, RF.2.1, ?_⟩
  · obtain rfl : n = r.name := by split at hn <;> simp_all
    exact pinned_of_view hg G0 hdef hp hk
  refine callFromC (c := r.toRowW.claim) hz hgens fun args hpre hlay ord hord => ?_
  obtain ⟨⟨vs, s₁⟩, hlaid⟩ := Option.isSome_iff_exists.mp (layAllW_isSome (P := w.params) (ord := ord) G.has args r.args s (pre_splitW hpre).1)
  have keeps := layAllW_keeps _ _ _ hlaid
  have hal := layAllW_rest _ _ _ hlaid
  obtain ⟨as, hrd, hin, hold⟩ := reads_layAllW hord _ _ _ hlaid hlay s₁.heap (fun _ _ e => e)
  have L : Laid r.records w s s₁ args vs as := ⟨⟨ord, hord, hlaid⟩, hrd, hin, hold, keeps, hal.1.trans hgens, hal.2.2.1⟩
  have G₁ := G.keeps hXk keeps
  obtain ⟨a, o, pm, cd, doc, dV, kV, h1, h2, h3, h4, h5⟩ := G₁.fn hdef
  have walk := call w s s₁ _ _ G₁ (hYk _ _ _ (hY w s y) keeps) a o pm cd doc dV kV h2 h3 h4 h5 (defOf_name hdef ▸ h1) L.gens args vs as hpre hlay L.reads L.well (L.low G.low)
  have hi := ident_freeW hu ha hap
  have hwi : r.toRowW.claim.within = [] := List.isEmpty_iff.mp k6
  refine ⟨vs, s₁, hlaid, ?_⟩
  refine wpC_first (wpAny_nsGet G₁.T.g ?_)
  rw [h1]
  refine wpC_bind (wpC_mono walk (fun v s' g => wpC_pure ⟨_, rfl, ?_⟩) fun e s' g => ?_)
  · have z := g.laid (c := r.toRowW.claim) hsame hwi hi L
    exact ⟨z.1, z.2.1, z.2.2, fun q => ⟨namesKept_of hT hg r.keeps keeps g.2.1.old, noTable hwr q⟩⟩
  · have z := g.laid (c := r.toRowW.claim) hsame hwi hi L
    exact ⟨z.1, z.2.1, z.2.2, fun q => ⟨namesKept_of hT hg r.keeps keeps g.2.1.old, noTable hwr q⟩⟩
end MineH.PySem.W

namespace Mine
open PySem PySem.W PyProof.Rows PySem.Calls PySem.Spec
theorem enterC {M : Model} {A : Around} {s : Shared} {f : Value} {pos : List Value} {kw : List (Str × Value)} {c : ClaimW} {cl : Str → Option Addr} {mean : ExcName → Option Value} {args : List WData} {s₁ : Shared}
    (h : codeC M A (.call f ⟨pos, kw⟩) (GoodWG c cl mean args s₁) s) : wpC M A (PySem.call f pos kw) (fun v s' => GoodWG c cl mean args s₁ (.ok (.ret v)) s') (fun e s' => GoodWG c cl mean args s₁ (.error e) s') s :=
  wpC_call (codeC_mono h fun res s' g => by rcases g.1 with ⟨v, _, _, rfl, _⟩ | ⟨e, _, _, rfl, _⟩ <;> exact g)
/-- the library's kn_post, said of one ending: got from it by a model of one code that ends so at once -/
theorem good_ghost {s₁ s' : Shared} {cw : ClaimW} {cl : Str → Option Addr} {mean : ExcName → Option Value} {args : List WData} {tabs : List (Addr × Addr)} (hT : TabsAt tabs s₁.heap) (hr : ∀ a x, cw.raises a x = false) {r : Result}
    (g : GoodW cw cl mean args { s₁ with heap := ghostOf s₁.heap tabs } r s' ∧ GrownAll tabs s'.heap) (prog : Program) (w : World) : GoodWG cw cl mean args s₁ r s' := by
  have h := kn_post (M := { model prog w with den := fun _ => match r with | .ok f => pure (.done f) | .error e => throw e }) (A := callerA) (cd := .builtin "claim.caller" {}) (s := s') hT hr (codeAny_of_tree (by
    cases r with
    | ok f => exact wpAny_pure g
    | error e => exact wpAny_throw g))
  have h2 := h ⟨.builtin "claim.caller" {}, none, none, [], none⟩ default rfl ⟨rfl, Nat.zero_le _, fun l hl => by cases hl; rfl, fun l hl => by cases hl; rfl, Nat.zero_le _⟩
  rw [wpCode_iff_wp] at h2
  cases r with
  | ok f => exact h2
  | error e => exact h2
theorem postC {prog : Program} {w : World} {A : Around} {cd : Code} {s s₁ : Shared} {cw : ClaimW} {cl : Str → Option Addr} {mean : ExcName → Option Value} {args : List WData} {tabs : List (Addr × Addr)} (hT : TabsAt tabs s₁.heap) (hr : ∀ a x, cw.raises a x = false)
    (h : codeC (model prog w) A cd (fun r s' => GoodW cw cl mean args { s₁ with heap := ghostOf s₁.heap tabs } r s' ∧ GrownAll tabs s'.heap) s) : codeC (model prog w) A cd (GoodWG cw cl mean args s₁) s :=
  codeC_mono h fun r s' g => good_ghost hT hr g prog w
theorem call_cellsC {prog : Program} {w : World} {A : Around} {R : Result → Shared → Prop} {s : Shared} {name : Str} {params : Arguments} {body : List Stmt} {scope : Scope}
    {pm cd doc : Value} {a : Addr} {o : Obj} {args : List Value} {binds : List (Str × Value)}
    (hroom : A.depth < recursionLimit) (ho : s.heap.get? a = some o) (hdata : o.data = .func (Calls.docDef name params body scope pm cd doc)) (hlim : s.heap.NoLimit) (hcd : s.heap.CodeRec cd name)
    (hbind : bindArgs (Calls.docDef name params body scope pm cd doc) ⟨args, []⟩ = pure binds)
    (hkind : ∀ x ∈ binds, scope.names.lookup x.1 = some .local ∨ (scope.names.lookup x.1 = some .cell ∧ ((cellsFrom (s.heap.objs.size + 1) scope.names []).lookup x.1).isSome = true))
    (hnd : ((cellsFrom 0 scope.names []).map (·.1)).Nodup)
    (h : ∀ h₁ tk cells, Fr s.heap s.heap.objs.size h₁ (bindL (envOfC name scope s.heap.objs.size a cd).kindOf binds fun _ => none) → News s.heap s.heap.objs.size h₁ cells →
      CellsAre (bindC (envOfC name scope s.heap.objs.size a cd).kindOf binds fun _ => none) (cellsFrom (s.heap.objs.size + 1) scope.names []) cells →
      wpC (model prog w) (A.deeper (envOfC name scope s.heap.objs.size a cd)) (execs body (envOfC name scope s.heap.objs.size a cd))
        (fun f s' => R (.ok (.ret (match f with | .ret v => v | _ => .none))) s')
        (fun e s' => wpAny (model prog w) (A.deeper (envOfC name scope s.heap.objs.size a cd)) (leaving (envOfC name scope s.heap.objs.size a cd) e)
          (fun _ s'' => R (.error e) s'') (fun e' s'' => R (.error e') s'') s')
        { s with heap := h₁, toks := tk })
    (hco : scope.isCoroutine = false := by rfl) (hgen : scope.isGenerator = false := by rfl) (hk : scope.kind = .function := by rfl) :
    codeC (model prog w) A (.call (.ref a) ⟨args, []⟩) R s := by
  refine callFn_C (fd := Calls.docDef name params body scope pm cd doc) hroom ho hdata hco hgen rfl hcd ?_
  rw [hbind]
  refine wpC_pure (wpAny_newFunctionEnv_cells hk hkind fun env he s' x => ?_)
  subst he
  refine ⟨hlim.keeps x.toInCall.keep, func_C ?_⟩
  obtain ⟨h₁, tk, rfl, _⟩ := x.done
  have X : Cl s.heap.objs.size (cellsFrom (s.heap.objs.size + 1) scope.names []) h₁ (bindC (envOfC name scope s.heap.objs.size a cd).kindOf binds fun _ => none) := ⟨x.cell, x.apart, x.above⟩
  obtain ⟨cells, N, Y⟩ := Cl.news (h₀ := s.heap) (Nat.le_refl _) fun n c hm => ⟨X.cell n c (lookup_of_mem_nodup (cellsFrom_names scope.names 0 (s.heap.objs.size + 1) [] [] rfl ▸ hnd) hm), X.above n c hm⟩
  exact h h₁ tk cells ⟨x.toInCall.ns, x.toInCall.keep, x.toInCall.fresh⟩ N Y
end Mine

namespace Mine
open PySem PySem.W PyProof.Rows PySem.Calls PySem.Spec
section
variable {α β : Type} {M : Model} {A : Around} {E : Value → Shared → Prop} {s : Shared} {env : Env}
theorem forIn_C (f : α → β → Sem (ForInStep β)) (I : List α → β → Shared → Prop) (Q : β → Shared → Prop)
    (turn : ∀ x rest b s, I (x :: rest) b s → wpC M A (f x b) (fun r s' => match r with | .yield b' => I rest b' s' | .done b' => Q b' s') E s)
    (fin : ∀ b s, I [] b s → Q b s) (l : List α) (b : β) (h : I l b s) : wpC M A (forIn l b f) Q E s := by
  induction l generalizing b s with
  | nil => rw [List.forIn_nil]; exact wpC_pure (fin _ _ h)
  | cons x l ih =>
    rw [List.forIn_cons]
    refine wpC_bind (wpC_mono (turn x l b s h) (fun r s' hr => ?_) fun _ _ h' => h')
    cases r with
    | done b' => exact wpC_pure hr
    | yield b' => exact ih _ hr
theorem mark_C {own : List String} {e : Value} {Q : Unit → Shared → Prop} (h : Q () s) : wpC M A (markTheRefusal own e) Q E s := fun Γ p hΓ hc => by
  unfold markTheRefusal
  rw [Sem.wp_bind']
  show Sem.wp M Γ (if pythonCodeMadeTheCall own (((Γ.code, p) :: Γ.below).map (·.1)) = true then _ else _) _ _ p s
  have hn : pythonCodeMadeTheCall own (((Γ.code, p) :: Γ.below).map (·.1)) = false := by
    have hc' : (((Γ.code, p) :: Γ.below).map (·.1)).any Code.isCaller = true := hc
    unfold pythonCodeMadeTheCall
    show (!((((Γ.code, p) :: Γ.below).map (·.1)).any Code.isCaller) && _ && _) = false
    rw [hc']; rfl
  rw [if_neg (by rw [hn]; exact Bool.false_ne_true)]
  exact h
end
section
variable {prog : Program} {w : World} {A : Around} {E : Value → Shared → Prop} {s : Shared} {env : Env} {base : Heap} {os₀ : OsState} {led led' : Led} {α : Type}
theorem refuses_C {msg : String} {Q : α → Shared → Prop} (hh : A.handled = none) (H : St base os₀ led s) (hm : msg.length ≤ 10000) (h : ∀ e s', St base os₀ ((e, ex0 "TypeError") :: led) s' → E (.ref e) s') :
    wpC (model prog w) A (theBinderRefuses msg : Sem α) Q E s := by
  unfold theBinderRefuses
  have hx : (Str.ofString msg).length ≤ sizeLine := by rw [PySem.ofString_length, sizeLine_eq]; omega
  refine wpC_first (wpAny_mkStr (wpC_first (wpAny_newExc_plain plainExc_TypeError fun h' e hmade => wpC_bind (mark_C (wpC_any (wpAny_raiseNew_none hh ?_))))) hx)
  exact h e _ (of_newExc (s := s) (tk := s.toks + 1) H hmade.newExc)
/-- the binder's walk over the keywords, said plainly: none where it refuses -/
def kwSim (normal : List Str) (hasKw : Bool) : List (Str × Value) → List (Str × Value) → List (Str × Value) → Option (List (Str × Value) × List (Str × Value))
  | slots, extra, [] => some (slots, extra)
  | slots, extra, (k, v) :: r =>
    if normal.contains k then (if (slots.lookup k).isSome then none else kwSim normal hasKw (slots ++ [(k, v)]) extra r)
    else if hasKw then kwSim normal hasKw slots (extra ++ [(k, v)]) r else none
theorem near_mem {name near : Str} {cands : List Str} (h : Suggest.didYouMean name cands = some near) : near ∈ cands := by
  unfold Suggest.didYouMean at h
  split at h
  · cases h
  · obtain ⟨x, hx, rfl⟩ := Option.map_eq_some_iff.mp h
    have go : ∀ (f : Option (Str × Nat) → Str → Option (Str × Nat)), (∀ b c x, f b c = some x → b = some x ∨ x.1 = c) → ∀ (l : List Str) (b : Option (Str × Nat)) (x : Str × Nat), l.foldl f b = some x → b = some x ∨ x.1 ∈ l := by
      intro f hf l
      induction l with
      | nil => intro b x e; exact .inl e
      | cons c r ih =>
        intro b x e
        rw [List.foldl_cons] at e
        rcases ih _ _ e with q | q
        · rcases hf _ _ _ q with q | q
          · exact .inl q
          · exact .inr (q ▸ .head _)
        · exact .inr (.tail _ q)
    rcases go _ (fun b c y e => by
      simp only at e
      split at e
      · exact .inl e
      · split at e
        · cases e; exact .inr rfl
        · exact .inl e) cands none x hx with q | q
    · cases q
    · exact q
/-- a call whose keywords the binder refuses -/
theorem bind_refused {fd : FuncData} {normal : List Str} {vs : List Value} {kws : List (Str × Value)} {Q : List (Str × Value) → Shared → Prop} (hh : A.handled = none)
    (hpo : fd.params.posonlyargs = []) (hn : fd.params.args.map (·.arg) = normal) (hko : fd.params.kwonlyargs = [])
    (hsim : kwSim normal fd.params.kwarg.isSome (normal.zip vs) [] kws = none) (hq : fd.qualname.toString.length ≤ 1000) (hkl : ∀ k ∈ kws.map (·.1), k.toString.length ≤ 100 ∧ k.cps.any (fun c => 0xD800 ≤ c && c ≤ 0xDFFF) = false)
    (hnl : ∀ k ∈ normal, k.toString.length ≤ 100 ∧ k.cps.any (fun c => 0xD800 ≤ c && c ≤ 0xDFFF) = false)
    (H : St base os₀ led s) (h : ∀ e s', St base os₀ ((e, ex0 "TypeError") :: led) s' → E (.ref e) s') :
    wpC (model prog w) A (bindArgs fd ⟨vs, kws⟩) Q E s := by
  unfold bindArgs
  simp only [hpo, hn, hko, List.map_nil, List.nil_append, List.append_nil]
  refine wpC_bind (forIn_C _ (fun rest b s' => s' = s ∧ (∀ x ∈ rest, x ∈ kws) ∧ kwSim normal fd.params.kwarg.isSome b.1 b.2 rest = none) _ ?_ ?_ _ _ ⟨rfl, fun _ x => x, hsim⟩)
  · rintro ⟨k, v⟩ rest ⟨slots, extra⟩ s' ⟨rfl, hin, hs⟩
    obtain ⟨hk1, hk2⟩ := hkl k (List.mem_map.mpr ⟨(k, v), hin _ (.head _), rfl⟩)
    simp only [kwSim] at hs
    by_cases hc : normal.contains k = true
    · simp only [hc, if_true, Bool.true_or] at hs ⊢
      by_cases hl : (slots.lookup k).isSome = true
      · simp only [hl, if_true]
        refine wpC_first (wpAny_rule (wpC_bind (refuses_C hh H ?_ h)))
        simp only [String.length_append, toString]
        have e1 : "() got multiple values for argument '".length ≤ 100 := by decide
        have e2 : "'".length ≤ 100 := by decide
        omega
      · simp only [hl, if_false, Bool.false_eq_true] at hs ⊢
        exact wpC_pure ⟨rfl, fun x hx => hin x (.tail _ hx), hs⟩
    · simp only [Bool.not_eq_true] at hc
      simp only [hc, Bool.false_eq_true, if_false, List.contains_nil, Bool.or_self] at hs ⊢
      by_cases hkw : fd.params.kwarg.isSome = true
      · simp only [hkw, if_true] at hs ⊢
        exact wpC_pure ⟨rfl, fun x hx => hin x (.tail _ hx), hs⟩
      · simp only [hkw, if_false, Bool.false_eq_true, List.filter_nil, List.isEmpty_nil, Bool.not_true]
        refine wpC_first (wpAny_rule ?_)
        have hsur : ((k :: normal).any fun x => x.cps.any fun c => decide (0xD800 ≤ c) && decide (c ≤ 0xDFFF)) = false := by
          rw [List.any_cons, hk2, Bool.false_or, List.any_eq_false]
          intro x hx q
          rw [(hnl x hx).2] at q; cases q
        simp only [hsur, Bool.false_eq_true, if_false]
        have e1 : "() got an unexpected keyword argument '".length ≤ 100 := by decide
        have e2 : "'".length ≤ 100 := by decide
        have e3 : "'. Did you mean '".length ≤ 100 := by decide
        have e4 : "'?".length ≤ 100 := by decide
        cases hd : Suggest.didYouMean k normal with
        | none =>
          refine wpC_bind (refuses_C hh H ?_ h)
          simp only [String.length_append, toString]
          omega
        | some near =>
          have := (hnl near (near_mem hd)).1
          refine wpC_bind (refuses_C hh H ?_ h)
          simp only [String.length_append, toString]
          omega
  · rintro b s' ⟨rfl, _, hs⟩
    simp [kwSim] at hs
end
end Mine

namespace Mine
open PySem PySem.W PyProof.Rows PySem.Calls PySem.Spec
section
variable {prog : Program} {w : World} {A : Around} {E : Value → Shared → Prop} {s : Shared} {env : Env} {base : Heap} {os₀ : OsState} {led led' : Led} {R : Result → Shared → Prop}
theorem keep_C {α : Type} {M : Model} {vs : List Value} {m : Sem α} {Q : α → Shared → Prop} (h : wpC M A m Q E s) : wpC M A (m.keep vs) Q E s := fun Γ p hΓ hc => by
  rw [Sem.wp_keep]; exact h Γ p hΓ hc
theorem callWith_C {f : Addr} {first : List Value} {pos : Pos} {Q : Value → Shared → Prop} {args : List (Bool × Sem Value)} {kws : List (Option Str × Sem Value)}
    (h : wpAny (model prog w) A (evalArgs (.ref f) true args kws) (fun a s₁ => (∃ o fd, s₁.heap.get? f = some o ∧ o.data = .func fd) ∧ wpC (model prog w) A (call (.ref f) (first ++ a.pos) a.kw) Q E s₁) E s) :
    wpC (model prog w) A (callWith pos (.ref f) first args kws) Q E s := by
  unfold callWith
  refine wpC_first (wpAny_holding (wpAny_mono h (fun a s₁ h₁ => wpC_first (wpAny_standAt ?_)) fun _ _ x => x))
  obtain ⟨⟨o, fd, ho, hd⟩, h₁⟩ := h₁
  have hk : ∀ {Q' : Keeper → Shared → Prop}, Q' .frame s₁ → wpAny (model prog w) A (keeperOf (.ref f)) Q' E s₁ := fun q => by
    unfold keeperOf
    refine wpAny_bind (wpAny_load ho ?_)
    rw [hd]
    exact wpAny_pure q
  refine wpC_first (hk ?_)
  have tail : ∀ {t : Sem Value}, wpC (model prog w) A t Q E s₁ → wpC (model prog w) A (t >>= fun r => holding [r] point >>= fun _ => pure r) Q E s₁ :=
    fun ht => wpC_bind (wpC_mono ht (fun r s₂ hr => wpC_any (wpAny_bind (wpAny_holding (wpAny_point (wpAny_pure hr))))) fun _ _ x => x)
  have marked (mk : Value) : wpC (model prog w) A (callMarked mk (.ref f) (first ++ a.pos) a.kw) Q E s₁ := by unfold callMarked; exact keep_C h₁
  cases hst : (args.any (·.1) || kws.any (·.1.isNone)) with
  | true => exact tail (marked _)
  | false =>
    dsimp only
    split
    · exact tail h₁
    · exact tail (marked _)
/-- a call that the binder refuses -/
theorem call_refused {a : Addr} {args : Args} {o : Obj} {fd : FuncData} {Q : Value → Shared → Prop} (ho : s.heap.get? a = some o) (hd' : o.data = .func fd) (hcd : s.heap.CodeRec fd.code fd.qualname)
    (h : wpC (model prog w) A.in1 (bindArgs fd args) (fun _ _ => False) E s) : wpC (model prog w) A (call (.ref a) args.pos args.kw) Q E s := by
  refine wpC_call (codeC_of_tree ?_)
  show wpC _ A.in1 (callAny (.ref a) args) _ _ s
  simp only [callAny]
  refine wpC_first (wpAny_load ho ?_)
  obtain ⟨c, oc, vs, tq, hc, hoc, hdc, hq⟩ := hcd
  simp only [hd', callFunction, hc]
  refine wpC_first (m := field (.ref c) 1) (wpAny_field hoc hdc hq (wpC_first (wpAny_pure ?_)))
  exact wpC_bind (wpC_mono h (fun _ _ x => x.elim) fun _ _ x => x)
/-- a def's body below the caller -/
theorem fn_below {f : Addr} {o : Obj} {fd : FuncData} {body : List Stmt} {args : Args} {Q : Value → Shared → Prop} (H : St base os₀ led s) (hroom : A.depth < recursionLimit) (hlim : base.NoLimit)
    (ho : s.heap.get? f = some o) (hdata : o.data = .func fd) (hcd : s.heap.CodeRec fd.code fd.qualname) (hbody : fd.body = .stmts body)
    (hcell : ∀ x ∈ fd.scope.names, x.2 ≠ .cell)
    (h : wpC (model prog w) A.in1 (bindArgs fd args) (fun binds s₁ => ∃ led₁, St base os₀ led₁ s₁ ∧ (∀ x ∈ binds, fd.scope.names.lookup x.1 = some .local) ∧
      ∀ L s₂, St base os₀ ((L, nsA fun x => binds.reverse.lookup x) :: led₁) s₂ →
        wpC (model prog w) (A.deeper (callEnv fd L f)) (execs body (callEnv fd L f)) (fun fl s' => Q (match fl with | .ret v => v | _ => .none) s')
          (fun e s' => wpAny (model prog w) (A.deeper (callEnv fd L f)) (leaving (callEnv fd L f) e) (fun _ s'' => E e s'') (fun e' s'' => E e' s'') s') s₂) E s)
    (hco : fd.scope.isCoroutine = false := by rfl) (hgen : fd.scope.isGenerator = false := by rfl) (hk : fd.scope.kind = .function := by rfl) :
    wpC (model prog w) A (call (.ref f) args.pos args.kw) Q E s := by
  refine wpC_call (callFn_C hroom ho hdata hco hgen hbody hcd (wpC_mono h (fun binds s₁ h₁ => ?_) fun _ _ x => x))
  obtain ⟨led₁, H₁, hl, h₁⟩ := h₁
  refine wpAny_newFunctionEnv hcell hl (fun h' hns hsb => ?_) hk
  have H₂ : St base os₀ ((s₁.heap.objs.size, nsA fun x => binds.reverse.lookup x) :: led₁) { s₁ with heap := h', toks := s₁.toks + binds.length } := by
    obtain ⟨o', ho', hp'⟩ := nsA_of hns
    exact H₁.more (fun b o e => hsb.extBut b o (Nat.ne_of_lt (Heap.lt_size e)) (Heap.get?_push_of_some _ e)) (Nat.le_refl _) ho' hp'
  exact ⟨hlim.keeps H₂.keep, func_C (h₁ _ _ H₂)⟩
/-- the loop over a list of the ledger, below the caller -/
theorem for_turnsC {target : Expr} {body : List Stmt} {I l : Addr} {vs : List Value} (J : Nat → Led → Prop) (hh : A.handled = none)
    (turn : ∀ i v led s E', vs[i]? = some v → J i led → St base os₀ ((I, itA l (i + 1)) :: (l, lstA vs) :: led) s →
      wpAny (model prog w) A (assign target env v) (fun _ s₂ => wpC (model prog w) A (execs body env) (fun f s₃ => match f with
        | .next | .cont => ∃ led', J (i + 1) led' ∧ St base os₀ ((I, itA l (i + 1)) :: (l, lstA vs) :: led') s₃
        | .brk => R (.ok .next) s₃
        | .ret v => R (.ok (.ret v)) s₃) E' s₂) E' s)
    (fin : ∀ led s, J vs.length led → St base os₀ ((l, lstA vs) :: led) s → R (.ok .next) s)
    (H : St base os₀ ((I, itA l 0) :: (l, lstA vs) :: led) s) (h0 : J 0 led)
    (ht : ∀ v, letOwnedTupleGo target (.ref I) v = pure () := by intro _; rfl) :
    codeC (model prog w) A (.forLoop target (.ref I) body [] env) R s := by
  refine forLoop_C (fun k s' => ∃ i led', k = vs.length + 1 - i ∧ i ≤ vs.length ∧ J i led' ∧ St base os₀ ((I, itA l i) :: (l, lstA vs) :: led') s') ?_ (vs.length + 1) ⟨0, led, rfl, Nat.zero_le _, h0, H⟩ ht
  rintro k s' ⟨i, led', rfl, hi, hJ, H'⟩
  have hl := H'.isList (vs := vs) (a := l) (.tail _ (.head _))
  obtain ⟨oi, hoi, hic, hid⟩ := H'.get (.head _)
  have hit : s'.heap.IsListIter I l i := ⟨oi, hoi, hic, hid⟩
  by_cases hlt : i < vs.length
  · refine wpAny_pyNext_list_item hit hl (x := vs[i]) (by simp [hlt]) fun h' hit' hs' => ?_
    obtain ⟨oi', hoi', hic', hid'⟩ := hit'
    have H₁ : St base os₀ ((I, itA l (i + 1)) :: (l, lstA vs) :: led') { s' with heap := h' } := H'.upd (tk := s'.toks) .head hs'.extBut ⟨oi', hoi', hic', hid'⟩
    refine wpAny_mono (turn i vs[i] led' _ _ (by simp [hlt]) hJ H₁) (fun _ s₂ h₂ => wpC_mono h₂ (fun f s₃ h₃ => ?_) fun _ _ x => x) fun _ _ x => x
    cases f with
    | next => obtain ⟨led'', hJ', H''⟩ := h₃; exact ⟨vs.length + 1 - (i + 1), by omega, i + 1, led'', rfl, hlt, hJ', H''⟩
    | cont => obtain ⟨led'', hJ', H''⟩ := h₃; exact ⟨vs.length + 1 - (i + 1), by omega, i + 1, led'', rfl, hlt, hJ', H''⟩
    | brk => exact h₃
    | ret v => exact h₃
  · have hin : i = vs.length := by omega
    subst hin
    refine wpAny_pyNext_list_end hh hit hl (by simp) fun h' he' => wpC_any (wpAny_execs_nil (fin led' _ hJ ?_))
    have H₁ : St base os₀ ((l, lstA vs) :: led') s' := H'.sub (.cons _ (.refl _))
    refine ⟨fun b o e => he' b o (fun q => ?_) (H'.keep b o e), H₁.nd, fun p hp => ?_, H₁.new, H₁.gens, H₁.os⟩
    · have := H'.new _ (.head _)
      simp only at this
      rw [← q, e] at this; cases this
    · obtain ⟨o, ho, hP⟩ := H₁.has p hp
      exact ⟨o, he' _ _ (H'.ne hp) ho, hP⟩
theorem for_listC {target iter : Expr} {body : List Stmt} {pos : Pos} {Q : Flow → Shared → Prop} (J : Nat → Led → Prop) (hh : A.handled = none)
    (h : wpAny (model prog w) A (eval iter env) (fun x s₁ => ∃ l vs led, x = .ref l ∧ St base os₀ ((l, lstA vs) :: led) s₁ ∧ J 0 led ∧
      (∀ I i v led s E', vs[i]? = some v → J i led → St base os₀ ((I, itA l (i + 1)) :: (l, lstA vs) :: led) s →
        wpAny (model prog w) A (assign target env v) (fun _ s₂ => wpC (model prog w) A (execs body env) (fun f s₃ => match f with
          | .next | .cont => ∃ led', J (i + 1) led' ∧ St base os₀ ((I, itA l (i + 1)) :: (l, lstA vs) :: led') s₃
          | .brk => Q .next s₃
          | .ret v => Q (.ret v) s₃) E' s₂) E' s) ∧
      (∀ led s, J vs.length led → St base os₀ ((l, lstA vs) :: led) s → Q .next s)) E s)
    (hs : ∀ x, foldedSetIterable iter env x = pure x := by intro _; rfl)
    (ht : ∀ I v, letOwnedTupleGo target (.ref I) v = pure () := by intro _ _; rfl) :
    wpC (model prog w) A (exec (.For target iter body [] pos) env) Q E s := by
  refine For_C (wpAny_mono h (fun x s₁ h₁ => ?_) fun _ _ x => x) hs
  obtain ⟨l, vs, led, rfl, H, h0, turn, fin⟩ := h₁
  refine wpAny_pyIter_list (H.isList (.head _)) ?_
  exact for_turnsC J hh (fun i v led s E' hv hJ H' => turn _ i v led s E' hv hJ H') fin (H.push (tk := s₁.toks) rfl ⟨rfl, rfl⟩) h0 (ht _)
end
end Mine

namespace Mine
open PySem PySem.W PyProof.Rows PySem.Calls PySem.Spec
theorem slot_fn_ga : Slot "function" "__getattribute__" "object.__getattribute__" :=
  .of (owner := "object") (n := "__getattribute__") (by rw [typeLookup_type, builtinLookup_eq_fast]; kernel_rfl) (by decide +kernel) (by decide +kernel) (by decide +kernel)
    (by first | exact .inl (by decide +kernel) | exact .inr (by decide +kernel)) (by rw [isSubtype_type]; kernel_rfl)
theorem entry_ga : entryFor table "object.__getattribute__" = some Builtin.«object.__getattribute__» := entryFor_of_tree (by kernel_rfl)
theorem args_ga (a b : Value) : argsOk "object.__getattribute__" ⟨[a, b], []⟩ := by unfold argsOk; kernel_rfl
theorem fq_lk : typeLookup (.type "function") "__qualname__" = pure (some (.builtin "function.__qualname__")) := by rw [typeLookup_type, builtinLookup_eq_fast]; kernel_rfl
theorem fm_lk : typeLookup (.type "function") "__module__" = pure (some (.builtin "function.__module__")) := by rw [typeLookup_type, builtinLookup_eq_fast]; kernel_rfl
theorem fq_ty : typeOf (.builtin "function.__qualname__") = pure (.type "getset_descriptor") := by kernel_rfl
theorem fm_ty : typeOf (.builtin "function.__module__") = pure (.type "member_descriptor") := by kernel_rfl
theorem fq_entry : entryFor table "function.__qualname__" = some Builtin.«function.__qualname__» := entryFor_of_tree (by kernel_rfl)
theorem fm_entry : entryFor table "function.__module__" = some Builtin.«function.__module__» := entryFor_of_tree (by kernel_rfl)
theorem fq_owner : (".".intercalate ("function.__qualname__".cutAt '.').dropLast) = "function" := by
  have e0 : "function.__qualname__".cutAt '.' = ["function", "__qualname__"] := by first | rfl | decide +kernel
  rw [e0]; decide +kernel
theorem fm_owner : (".".intercalate ("function.__module__".cutAt '.').dropLast) = "function" := by
  have e0 : "function.__module__".cutAt '.' = ["function", "__module__"] := by first | rfl | decide +kernel
  rw [e0]; decide +kernel
theorem fq_sub : isSubtype (.type "function") (.type (".".intercalate ("function.__qualname__".cutAt '.').dropLast)) = pure true := by rw [fq_owner, isSubtype_type]; kernel_rfl
theorem fm_sub : isSubtype (.type "function") (.type (".".intercalate ("function.__module__".cutAt '.').dropLast)) = pure true := by rw [fm_owner, isSubtype_type]; kernel_rfl
theorem slot_md_get : Slot "member_descriptor" "__get__" "member_descriptor.__get__" :=
  .of (owner := "member_descriptor") (n := "__get__") (by rw [typeLookup_type, builtinLookup_eq_fast]; kernel_rfl) (by decide +kernel) (by decide +kernel) (by decide +kernel)
    (by first | exact .inl (by decide +kernel) | exact .inr (by decide +kernel)) (by rw [isSubtype_type]; kernel_rfl)
theorem slot_md_set : Slot "member_descriptor" "__set__" "member_descriptor.__set__" :=
  .of (owner := "member_descriptor") (n := "__set__") (by rw [typeLookup_type, builtinLookup_eq_fast]; kernel_rfl) (by decide +kernel) (by decide +kernel) (by decide +kernel)
    (by first | exact .inl (by decide +kernel) | exact .inr (by decide +kernel)) (by rw [isSubtype_type]; kernel_rfl)
theorem entry_md_get : entryFor table "member_descriptor.__get__" = some Builtin.«member_descriptor.__get__» := entryFor_of_tree (by kernel_rfl)
theorem args_md_get (a b c : Value) : argsOk "member_descriptor.__get__" ⟨[a, b, c], []⟩ := by unfold argsOk; kernel_rfl
section
variable {prog : Program} {w : World} {A : Around} {E : Value → Shared → Prop} {h : Heap} {g : Array GenState} {d : Drawn} {t : Nat} {os : OsState} {a : Addr} {dc : Option Addr} {sl : Array (Option Value)} {fd : FuncData}
theorem fq_get {R : Result → Shared → Prop} (hx : h.get? a = some { cls := .type "function", dict := dc, data := .func fd, slots := sl }) (hz : fd.qualname.length ≤ sizeLine) (hq : R (.ok (.ret (.str fd.qualname t))) ⟨h, g, d, t + 1, os⟩) :
    codeAny (model prog w) A (.call (.builtin "getset_descriptor.__get__") ⟨[.builtin "function.__qualname__", .ref a, .type "function"], []⟩) R ⟨h, g, d, t, os⟩ := by
  have hT : (⟨h, g, d, t, os⟩ : Shared).TypeIs (.ref a) "function" := ⟨_, hx, rfl⟩
  have hT5 : (⟨h, g, d, t, os⟩ : Shared).TypeIs (.builtin "function.__qualname__") "getset_descriptor" := fq_ty
  have f8 := fq_sub
  refine codeAny_call_builtin F.slot_gs_get.plain F.entry_gs_get (F.slot_gs_get.check _ _ _ _ _ _ _ _ hT5 (F.args_gs_get _ _ _) ?_)
  repeat (any_goals (first | assumption | wp_step))
  refine ⟨Code.quiet_builtin _ (by decide +kernel), codeAny_builtin fq_entry ?_⟩
  repeat (any_goals (first | assumption | wp_step))
theorem fm_get {R : Result → Shared → Prop} (hx : h.get? a = some { cls := .type "function", dict := dc, data := .func fd, slots := sl }) (hq : R (.ok (.ret fd.pyModule)) ⟨h, g, d, t, os⟩) :
    codeAny (model prog w) A (.call (.builtin "member_descriptor.__get__") ⟨[.builtin "function.__module__", .ref a, .type "function"], []⟩) R ⟨h, g, d, t, os⟩ := by
  have hT : (⟨h, g, d, t, os⟩ : Shared).TypeIs (.ref a) "function" := ⟨_, hx, rfl⟩
  have hT5 : (⟨h, g, d, t, os⟩ : Shared).TypeIs (.builtin "function.__module__") "member_descriptor" := fm_ty
  have f8 := fm_sub
  refine codeAny_call_builtin slot_md_get.plain entry_md_get (slot_md_get.check _ _ _ _ _ _ _ _ hT5 (args_md_get _ _ _) ?_)
  repeat (any_goals (first | assumption | wp_step))
  refine ⟨Code.quiet_builtin _ (by decide +kernel), codeAny_builtin fm_entry ?_⟩
  repeat (any_goals (first | assumption | wp_step))
theorem fq_by {tk : Tok} {Q : Value → Shared → Prop} (hx : h.get? a = some { cls := .type "function", dict := dc, data := .func fd, slots := sl }) (hz : fd.qualname.length ≤ sizeLine) (hq : Q (.str fd.qualname t) ⟨h, g, d, t + 1, os⟩) :
    wpAny (model prog w) A (getAttrBy (.ref a) (.str "__qualname__" tk) false) Q E ⟨h, g, d, t, os⟩ := by
  have hT : (⟨h, g, d, t, os⟩ : Shared).TypeIs (.ref a) "function" := ⟨_, hx, rfl⟩
  have hT5 : (⟨h, g, d, t, os⟩ : Shared).TypeIs (.builtin "function.__qualname__") "getset_descriptor" := fq_ty
  have f2 := slot_fn_ga.lookup
  have f3 := slot_fn_ga.bind (.ref a)
  have f4 := fq_lk
  have f5 := fq_ty
  have f6 := F.slot_gs_get.lookup
  have f7 := F.slot_gs_set.lookup
  repeat (any_goals (first | assumption | wp_step))
  refine codeAny_call_builtin slot_fn_ga.plain entry_ga (slot_fn_ga.check _ _ _ _ _ _ _ _ hT (args_ga _ _) ?_)
  repeat (any_goals (first | assumption | wp_step))
  refine fq_get hx hz ?_
  repeat (any_goals (first | assumption | wp_step))
theorem fm_by {tk : Tok} {Q : Value → Shared → Prop} (hx : h.get? a = some { cls := .type "function", dict := dc, data := .func fd, slots := sl }) {mo : Str} {u : Tok} (hm : fd.pyModule = .str mo u) (hq : Q (.str mo u) ⟨h, g, d, t, os⟩) :
    wpAny (model prog w) A (getAttrBy (.ref a) (.str "__module__" tk) false) Q E ⟨h, g, d, t, os⟩ := by
  have hT : (⟨h, g, d, t, os⟩ : Shared).TypeIs (.ref a) "function" := ⟨_, hx, rfl⟩
  have hT5 : (⟨h, g, d, t, os⟩ : Shared).TypeIs (.builtin "function.__module__") "member_descriptor" := fm_ty
  have f2 := slot_fn_ga.lookup
  have f3 := slot_fn_ga.bind (.ref a)
  have f4 := fm_lk
  have f5 := fm_ty
  have f6 := slot_md_get.lookup
  have f7 := slot_md_set.lookup
  repeat (any_goals (first | assumption | wp_step))
  refine codeAny_call_builtin slot_fn_ga.plain entry_ga (slot_fn_ga.check _ _ _ _ _ _ _ _ hT (args_ga _ _) ?_)
  repeat (any_goals (first | assumption | wp_step))
  refine fm_get hx ?_
  rw [hm]
  repeat (any_goals (first | assumption | wp_step))
end
end Mine

namespace Mine
open PySem PySem.W PyProof.Rows PySem.Calls PySem.Spec
section
variable {prog : Program} {w : World} {A : Around} {E : Value → Shared → Prop} {h : Heap} {g : Array GenState} {d : Drawn} {t : Nat} {os : OsState} {a : Addr} {dc : Option Addr} {sl : Array (Option Value)} {fd : FuncData}
theorem fq_attr {Q : Option Value → Shared → Prop} (hx : h.get? a = some { cls := .type "function", dict := dc, data := .func fd, slots := sl }) (hz : fd.qualname.length ≤ sizeLine) (hq : Q (some (.str fd.qualname (t + 1))) ⟨h, g, d, t + 2, os⟩) :
    wpAny (model prog w) A (getAttr? (.ref a) "__qualname__") Q E ⟨h, g, d, t, os⟩ := by
  unfold getAttr? getAttrBy?
  exact wpAny_bind (wpAny_mkText (wpAny_bind (wpAny_attempt (fq_by hx hz (wpAny_pure hq)))))
theorem fm_attr {Q : Option Value → Shared → Prop} (hx : h.get? a = some { cls := .type "function", dict := dc, data := .func fd, slots := sl }) {mo : Str} {u : Tok} (hm : fd.pyModule = .str mo u) (hq : Q (some (.str mo u)) ⟨h, g, d, t + 1, os⟩) :
    wpAny (model prog w) A (getAttr? (.ref a) "__module__") Q E ⟨h, g, d, t, os⟩ := by
  unfold getAttr? getAttrBy?
  exact wpAny_bind (wpAny_mkText (wpAny_bind (wpAny_attempt (fm_by hx hm (wpAny_pure hq)))))
theorem fstr {Q : String → Shared → Prop} (hx : h.get? a = some { cls := .type "function", dict := dc, data := .func fd, slots := sl }) {mo : Str} {u : Tok} (hm : fd.pyModule = .str mo u) (hz : fd.qualname.length ≤ sizeLine)
    (hb : (mo == ("builtins" : Str)) = false) (s1 : mo.cps.any Str.isSurrogate = false) (s2 : fd.qualname.cps.any Str.isSurrogate = false)
    (hq : ∀ tk, Q s!"{mo.toString}.{fd.qualname.toString}()" ⟨h, g, d, tk, os⟩) : wpAny (model prog w) A (functionStr (.ref a)) Q E ⟨h, g, d, t, os⟩ := by
  unfold functionStr
  refine wpAny_bind (fq_attr hx hz ?_)
  refine wpAny_bind (fm_attr hx hm ?_)
  refine wpAny_bind (wpAny_mkText ?_)
  have hne : ∀ {Q' : Value → Shared → Prop} {s : Shared}, Q' (.bool true) s → wpAny (model prog w) A (richCompare .NotEq (.str mo u) (.str ("builtins" : Str) (t + 2 + 1))) Q' E s := fun q => by
    exact SeqAt.RcNeAt.str_str mo u ("builtins" : Str) (t + 2 + 1) prog w E _ (by rw [hb]; exact q)
  refine wpAny_bind (hne (wpAny_bind (wpAny_truthy_bool ?_)))
  rw [if_pos rfl]
  have ps : ∀ {x : Str} {v : Tok} {Q' : Str → Shared → Prop} {s : Shared}, Q' x s → wpAny (model prog w) A (pyStr (.str x v)) Q' E s := fun q => by
    unfold pyStr
    exact wpAny_bind (wpAny_of_eq rfl (wpAny_pure q))
  refine wpAny_bind (wpAny_bind (ps ?_))
  try dsimp only
  rw [if_neg (by rw [s1]; exact Bool.false_ne_true)]
  refine wpAny_pure (wpAny_bind (wpAny_bind (ps ?_)))
  try dsimp only
  rw [if_neg (by rw [s2]; exact Bool.false_ne_true)]
  exact wpAny_pure (wpAny_pure (hq _))
end
end Mine

namespace Mine
open PySem PySem.W PyProof.Rows PySem.Calls PySem.Spec
theorem let_go {prog : Program} {w : World} {A : Around} {E : Value → Shared → Prop} {s : Shared} {Q : Value → Shared → Prop} (h : Q .none s) : wpAny (model prog w) A (runValue (.builtin "proto.let_go" {})) Q E s := by
  refine wpAny_runValue (codeAny_builtin entry_let_go ?_)
  exact wpAny_pure h
section
variable {K : Type} [DecidableEq K] {prog : Program} {w : World} {knd : KeyKind prog w K}
theorem Pairs_get {es : List DictEntry} {kvs : List (K × Value)} (h : Pairs knd es kvs) : ∀ {i : Nat} {k : K} {v : Value}, kvs[i]? = some (k, v) → ∃ e, es[i]? = some e ∧ knd.is k e.key = true ∧ e.val = v := by
  induction h with
  | nil => intro i k v e; simp at e
  | @cons e kv es kvs h1 h2 _ ih =>
    intro i k v q
    cases i with
    | zero => simp at q; subst q; exact ⟨e, rfl, h1, h2⟩
    | succ i => simpa using ih (by simpa using q)
theorem Pairs_snoc {k : K} {v : Value} {l : List DictEntry} {kv : List (K × Value)} {e : DictEntry} (hl : Pairs knd l kv) (h1 : knd.is k e.key = true) (h2 : e.val = v) : Pairs knd (l ++ [e]) (kv ++ [(k, v)]) := by
  induction hl with
  | nil => exact .cons h1 h2 .nil
  | cons q1 q2 _ ih => exact .cons q1 q2 ih
end
section
variable {prog : Program} {w : World} {A : Around} {E : Value → Shared → Prop} {s : Shared} {base : Heap} {os₀ : OsState} {led led' : Led} {a d : Addr} {kvs kvs₀ : List (Str × Value)} {o₀ : Obj}
/-- what a merge does at one place: the keyword is there already, or it is put behind the others -/
theorem merge_turn {k : Str} {v : Value} {i : Nat} {cur : List (Str × Value)} {R : Unit → Shared → Prop} (hh : A.handled = none) (H : St base os₀ ((d, dctA (strKind prog w) cur) :: led) s) (ha : (a, dctA (strKind prog w) kvs) ∈ led) (hi : kvs[i]? = some (k, v)) (hz : cur.length ≤ sizeLine)
    (h1 : k ∉ cur.map (·.1) → ∀ s', St base os₀ ((d, dctA (strKind prog w) (cur ++ [(k, v)])) :: led) s' → (∀ b, b ≠ d → s'.heap.get? b = s.heap.get? b) → R () s')
    (h2 : k ∈ cur.map (·.1) → ∀ h' e key t, Heap.MadeExc s.heap h' e "KeyError" [key] → key = .str k t → E (.ref e) { s with heap := h' }) :
    ∃ es ep e, (∃ oa, s.heap.get? a = some oa ∧ oa.data = .dict es ep) ∧ es[i]? = some e ∧
      wpAny (model prog w) A (do
        if (← dictFind d e.key e.hash).isSome then rule "dict.merge.duplicate-key"; raiseNew (← newExc (.type "KeyError") [e.key])
        dictPut d e.hash e.key e.val) R E s := by
  obtain ⟨oa, hoa, es, ep, hex, hda, hka, hpa, hna⟩ := H.get (List.mem_cons_of_mem _ ha)
  obtain ⟨od, hod, ds, dp, hdx, hdd, hkd, hpd, hnd⟩ := H.get (a := d) (.head _)
  obtain ⟨e, he, hk, hv⟩ := Pairs_get hpa hi
  have he' : es[i]? = some e := by simpa using he
  refine ⟨es, ep, e, ⟨oa, hoa, hda⟩, he', ?_⟩
  obtain ⟨t, ht⟩ := Value.isStrOf_shape hk
  have hhash : e.hash = (strKind prog w).hash k := by
    obtain ⟨k', hk1, hk2⟩ := hka e (Array.mem_of_getElem? he')
    obtain ⟨t', ht'⟩ := Value.isStrOf_shape hk1
    rw [ht] at ht'
    cases ht'
    exact hk2
  have hf : (ds.findIdx? fun e => (strKind prog w).is k e.key) = cur.findIdx? fun kv => decide (kv.1 = k) := by
    have := hpd.findIdx k
    rw [← this]
    cases ds; exact List.findIdx?_toArray _ _
  have hfind : wpAny (model prog w) A (dictFind d e.key e.hash) (fun r s' => r = (cur.findIdx? fun kv => decide (kv.1 = k)) ∧ s' = s) E s := by
    rw [hhash]
    exact wpAny_dictFind_of hk hod hdd hkd ⟨hf, rfl⟩
  refine wpAny_bind (wpAny_mono hfind (fun r s' hr => ?_) fun _ _ x => x)
  obtain ⟨rfl, rfl⟩ := hr
  by_cases hin : k ∈ cur.map (·.1)
  · have hs : (cur.findIdx? fun kv => decide (kv.1 = k)).isSome = true := by
      rw [List.findIdx?_isSome, List.any_eq_true]
      obtain ⟨x, hx, e⟩ := List.mem_map.mp hin
      exact ⟨x, hx, by simpa using e⟩
    rw [if_pos hs]
    refine wpAny_bind (wpAny_rule (wpAny_bind (wpAny_newExc_plain plainExc_KeyError fun h' e hmade => wpAny_bind (wpAny_raiseNew_none hh ?_))))
    exact h2 hin h' e _ t hmade ht
  · have hs : (cur.findIdx? fun kv => decide (kv.1 = k)) = none := by
      rw [List.findIdx?_eq_none_iff]
      intro x hx
      exact decide_eq_false fun q => hin (q ▸ List.mem_map_of_mem hx)
    rw [hs, if_neg (by simp)]
    have hz' : ds.size ≤ sizeLine := by
      have := hpd.length
      rw [← Array.length_toList, this]; exact hz
    refine dictPut_new hod hdd hdx hkd hk hhash (hf.trans hs) hz' fun h' hsb hd' => ?_
    obtain ⟨o', ep', g1, g2, g3⟩ := hd'
    refine h1 hin _ (H.upd (tk := s'.toks) .head hsb.extBut ⟨o', g1, _, ep', g2, g3, ?_, ?_, ?_⟩) fun b hb => hsb.2 b hb
    · have := hkd.push hk e.val
      have ee : e = ⟨(strKind prog w).hash k, e.key, e.val⟩ := by rw [← hhash]
      rw [ee]; exact this
    · rw [Array.toList_push]; exact Pairs_snoc hpd hk hv
    · rw [List.map_append, List.nodup_append]
      refine ⟨hnd, by simp, ?_⟩
      intro y hy z hz
      simp only [List.map_cons, List.map_nil, List.mem_singleton] at hz
      subst hz
      exact fun e => hin (e ▸ hy)
end
end Mine

namespace Mine
open PySem PySem.W PyProof.Rows PySem.Calls PySem.Spec
section
variable {prog : Program} {w : World} {A : Around} {E : Value → Shared → Prop} {s : Shared} {base : Heap} {os₀ : OsState} {led led' : Led} {a d : Addr} {kvs kvs₀ : List (Str × Value)} {o₀ : Obj}
/-- a merge of a dict into one that is not empty -/
theorem merge_more {Q : Unit → Shared → Prop} (hh : A.handled = none) (hs : base.get? sysModules = some o₀) (hne : kvs₀ ≠ []) (hz : kvs₀.length + kvs.length ≤ sizeLine) (H : St base os₀ ((d, dctA (strKind prog w) kvs₀) :: led) s) (ha : (a, dctA (strKind prog w) kvs) ∈ led)
    (h1 : (∀ k ∈ kvs.map (·.1), k ∉ kvs₀.map (·.1)) → ∀ s', St base os₀ ((d, dctA (strKind prog w) (kvs₀ ++ kvs)) :: led) s' → Q () s')
    (h2 : (∃ k ∈ kvs.map (·.1), k ∈ kvs₀.map (·.1)) → ∀ k t cur h' e s', k ∈ kvs.map (·.1) → St base os₀ ((d, dctA (strKind prog w) cur) :: led) s' → Heap.MadeExc s'.heap h' e "KeyError" [.str k t] → E (.ref e) { s' with heap := h' }) :
    wpAny (model prog w) A (mergeMapping d (.ref a) true) Q E s := by
  obtain ⟨oa, hoa, es, ep, hex, hda, hka, hpa, hna⟩ := H.get (List.mem_cons_of_mem _ ha)
  obtain ⟨od, hod, ds, dp, hdx, hdd, hkd, hpd, hnd⟩ := H.get (a := d) (.head _)
  have hT : s.TypeIs (.ref a) "dict" := ⟨oa, hoa, hex.1⟩
  have hse : ds.isEmpty = false := by
    cases q : ds.isEmpty with
    | false => rfl
    | true =>
      have : ds = #[] := by simpa using q
      subst this
      cases hpd
      exact absurd rfl hne
  have hsz : es.size = kvs.length := by have := hpa.length; simpa using this
  unfold mergeMapping
  refine wpAny_bind (wpAny_isInstance hT (b := true) (by kernel_rfl) ?_)
  simp only [if_true]
  refine wpAny_bind (wpAny_specialOf hT PySem.F.slot_dict_iter.lookup (wpAny_bind (wpAny_pure ?_)))
  simp only [beq_self_eq_true, H.notSys (List.mem_cons_of_mem _ ha) hs, Bool.false_eq_true, if_false]
  refine wpAny_bind (wpAny_dictEntries hod hdd ?_)
  simp only [hse, Bool.false_eq_true, if_false]
  refine wpAny_bind (wpAny_dictEntries hoa hda ?_)
  refine wpAny_bind (wpAny_dictEpoch hoa hda ?_)
  have hnad : a ≠ d := H.ne ha
  refine wpAny_bind (wpAny_forIn_list _ (fun rest _ s' => ∃ i, rest = List.range' i (es.size - i) ∧ i ≤ es.size ∧ (∀ k ∈ (kvs.take i).map (·.1), k ∉ kvs₀.map (·.1)) ∧ St base os₀ ((d, dctA (strKind prog w) (kvs₀ ++ kvs.take i)) :: led) s' ∧ s'.heap.get? a = some oa) _ ?_ ?_ _ _
    ⟨0, by rw [List.range_eq_range', Nat.sub_zero], Nat.zero_le _, by simp, by simpa using H, hoa⟩)
  · rintro x rest _ s' ⟨i, hr, hi, hdis, H', hoa'⟩
    have hlt : i < es.size := by
      rcases Nat.lt_or_ge i es.size with q | q
      · exact q
      · rw [Nat.sub_eq_zero_of_le q] at hr; cases hr
    obtain ⟨m, hm⟩ : ∃ m, es.size - i = m + 1 := ⟨es.size - i - 1, by omega⟩
    rw [hm, List.range'_succ] at hr
    injection hr with hx hr
    subst hx
    have hik : x < kvs.length := by omega
    have hget : kvs[x]? = some (kvs[x].1, kvs[x].2) := List.getElem?_eq_getElem hik
    refine wpAny_bind (wpAny_dictEntries (s := s') hoa' hda ?_)
    have hin : kvs[x].1 ∈ kvs.map (·.1) := List.mem_map_of_mem (List.getElem_mem hik)
    have hnew : (kvs₀ ++ kvs.take x).map (·.1) = kvs₀.map (·.1) ++ (kvs.take x).map (·.1) := List.map_append
    have hnot : kvs[x].1 ∉ (kvs.take x).map (·.1) := fun q => by
      obtain ⟨y, hy, e⟩ := List.mem_map.mp q
      obtain ⟨j, hj⟩ := List.mem_iff_getElem?.mp hy
      have hjx : j < x := by
        rcases Nat.lt_or_ge j x with q | q
        · exact q
        · rw [List.getElem?_eq_none (by rw [List.length_take]; omega)] at hj; cases hj
      rw [List.getElem?_take_of_lt hjx] at hj
      have hjl : j < kvs.length := by omega
      rw [List.getElem?_eq_getElem hjl] at hj
      cases hj
      have h1 : (kvs.map (·.1))[j]? = some kvs[x].1 := by rw [List.getElem?_map, List.getElem?_eq_getElem hjl]; exact congrArg some e
      have h2 : (kvs.map (·.1))[x]? = some kvs[x].1 := by rw [List.getElem?_map, List.getElem?_eq_getElem hik]; rfl
      have := (List.getElem?_inj (by rw [List.length_map]; exact hjl) hna).mp (h1.trans h2.symm)
      omega
    obtain ⟨es', ep', e, ⟨oa', ho', hd'⟩, he', hturn⟩ := merge_turn (a := a) (d := d) (A := A) (E := E) (R := fun _ s'' => St base os₀ ((d, dctA (strKind prog w) (kvs₀ ++ kvs.take (x + 1))) :: led) s'' ∧ (∀ k ∈ (kvs.take (x + 1)).map (·.1), k ∉ kvs₀.map (·.1)) ∧ s''.heap.get? a = some oa) hh H' ha hget
      (by rw [List.length_append, List.length_take]; omega)
      (fun hk s'' H'' hsame => by
        have e1 : kvs.take (x + 1) = kvs.take x ++ [kvs[x]] := by rw [List.take_add_one, List.getElem?_eq_getElem hik]; rfl
        have hk0 : kvs[x].1 ∉ kvs₀.map (·.1) := fun q => hk (by rw [hnew]; exact List.mem_append_left _ q)
        refine ⟨by rw [e1, ← List.append_assoc]; exact H'', ?_, ?_⟩
        · intro k hk'
          rw [e1, List.map_append] at hk'
          rcases List.mem_append.mp hk' with q | q
          · exact hdis k q
          · simp at q; subst q; exact hk0
        · rw [hsame a hnad]; exact hoa')
      (fun hk h' e key t hmade hkey => by
        subst hkey
        rw [hnew] at hk
        rcases List.mem_append.mp hk with q | q
        · exact h2 ⟨_, hin, q⟩ _ t _ h' e s' hin H' hmade
        · exact absurd q hnot)
    rw [hoa'] at ho'
    cases ho'
    rw [hda] at hd'
    cases hd'
    rw [he']
    refine wpAny_bind (wpAny_holding (wpAny_mono hturn (fun _ s'' hr' => ?_) fun _ _ x => x))
    obtain ⟨H'', hdis', ho''⟩ := hr'
    refine wpAny_bind (wpAny_dictEpoch ho'' hda ?_)
    rw [if_neg (by simp)]
    exact wpAny_pure ⟨x + 1, by rw [hr]; congr 1; omega, hlt, hdis', H'', ho''⟩
  · rintro _ s' ⟨i, hr, hi, hdis, H', _⟩
    have : i = es.size := by
      rcases Nat.lt_or_ge i es.size with q | q
      · obtain ⟨m, hm⟩ : ∃ m, es.size - i = m + 1 := ⟨es.size - i - 1, by omega⟩
        rw [hm, List.range'_succ] at hr; cases hr
      · omega
    subst this
    rw [hsz, List.take_length] at hdis H'
    exact wpAny_pure (h1 hdis s' H')
end
end Mine

namespace Mine
open PySem PySem.W PyProof.Rows PySem.Calls PySem.Spec
section
variable {prog : Program} {w : World} {A : Around} {E : Value → Shared → Prop} {s : Shared} {base : Heap} {os₀ : OsState} {led led' : Led} {a : Addr} {kvs : List (Str × Value)} {o₀ : Obj} {n1 n2 : Str} {v1 v2 : Value} {x1 x2 x3 : Sem Value} {f : Addr} {dc : Option Addr} {sl : Array (Option Value)} {fd : FuncData} {mo : Str} {u : Tok}
/-- two keywords by their names and a dict of others -/
theorem merged3 {Q : Addr → Shared → Prop} (hh : A.handled = none) (hs : base.get? sysModules = some o₀) (hf : base.get? f = some { cls := .type "function", dict := dc, data := .func fd, slots := sl }) (hm : fd.pyModule = .str mo u) (hqz : fd.qualname.toString.length ≤ 1000 ∧ fd.qualname.length ≤ sizeLine) (hmz : mo.toString.length ≤ 1000)
    (hb : (mo == ("builtins" : Str)) = false) (s1 : mo.cps.any Str.isSurrogate = false) (s2 : fd.qualname.cps.any Str.isSurrogate = false) (hkl : ∀ k ∈ kvs.map (·.1), k.toString.length ≤ 100 ∧ k.cps.any Str.isSurrogate = false)
    (hn : n1 ≠ n2) (hz : kvs.length ≤ 1000) (H : St base os₀ led s) (ha : (a, dctA (strKind prog w) kvs) ∈ led)
    (hx : ∀ d s₁ Q', St base os₀ ((d, dctA (strKind prog w) []) :: led) s₁ → (∀ s₂, St base os₀ ((d, dctA (strKind prog w) []) :: led) s₂ → Q' [v1, v2] s₂) → wpAny (model prog w) A (evalAll [x1, x2]) Q' E s₁)
    (hx3 : ∀ led₁ s₁ Q', (∀ p ∈ led, p ∈ led₁) → St base os₀ led₁ s₁ → Q' (.ref a) s₁ → wpAny (model prog w) A x3 Q' E s₁)
    (h1 : (∀ k ∈ kvs.map (·.1), k ∉ [n1, n2]) → ∀ d s', St base os₀ ((d, dctA (strKind prog w) ((n1, v1) :: (n2, v2) :: kvs)) :: led) s' → Q d s') 
    (h2 : (∃ k ∈ kvs.map (·.1), k ∈ [n1, n2]) → ∀ e s', St base os₀ ((e, ex0 "TypeError") :: led) s' → E (.ref e) s') : wpAny (model prog w) A (mergedKeywords (.ref f) [(some n1, x1), (some n2, x2), (none, x3)]) Q E s := by
  delta mergedKeywords
  refine wpAny_bind (wpAny_alloc ?_)
  have H₁ : St base os₀ ((s.heap.objs.size, dctA (strKind prog w) []) :: led) { s with heap := s.heap.push { cls := .type "dict", data := .dict #[] } } :=
    H.push (tk := s.toks) rfl ⟨#[], 0, ⟨rfl, rfl, rfl⟩, rfl, fun e he => by simp at he, .nil, .nil⟩
  refine wpAny_bind (wpAny_holding ?_)
  refine wpAny_bind ?_
  rw [List.forIn_cons]
  refine wpAny_bind (wpAny_pure ?_)
  dsimp only
  rw [List.forIn_cons]
  refine wpAny_bind (wpAny_pure ?_)
  dsimp only
  rw [List.forIn_cons]
  dsimp only
  refine wpAny_bind (wpAny_bind ?_)
  rw [if_neg (by simp)]
  refine wpAny_bind (hx _ _ _ H₁ fun s₂ H₂ => ?_)
  refine wpAny_bind (wpAny_alloc ?_)
  have H₃ : St base os₀ ((s₂.heap.objs.size, dctA (strKind prog w) []) :: (s.heap.objs.size, dctA (strKind prog w) []) :: led) { s₂ with heap := s₂.heap.push { cls := .type "dict", data := .dict #[] } } :=
    H₂.push (tk := s₂.toks) rfl ⟨#[], 0, ⟨rfl, rfl, rfl⟩, rfl, fun e he => by simp at he, .nil, .nil⟩
  generalize s₂.heap.objs.size = sub at H₃
  generalize s.heap.objs.size = d at *
  refine wpAny_bind ?_
  show wpAny _ _ (forIn [((n1, x1), v1), ((n2, x2), v2)] PUnit.unit _) _ _ _
  rw [List.forIn_cons]
  refine wpAny_bind (wpAny_bind (nsSet_push (H₃.isDict (.head _)) (by simp) fun h' hm' hs' => ?_))
  have H₄ := H₃.upd (tk := s₂.toks + 1) .head hs'.extBut (dctA_of hm')
  refine wpAny_pure ?_
  dsimp only
  rw [List.forIn_cons]
  refine wpAny_bind (wpAny_bind (nsSet_push (H₄.isDict (.head _)) (by simpa using hn.symm) fun h'' hm'' hs'' => ?_))
  have H₅ := H₄.upd (tk := s₂.toks + 2) .head hs''.extBut (dctA_of hm'')
  refine wpAny_pure ?_
  dsimp only
  rw [List.forIn_nil]
  refine wpAny_pure ?_
  generalize (Shared.mk h'' _ _ _ _) = s₅ at H₅ ⊢
  have H₆ : St base os₀ ((sub, dctA (strKind prog w) [(n1, v1), (n2, v2)]) :: (d, dctA (strKind prog w) []) :: led) s₅ := H₅
  clear H₅ H₄ H₃ hm'' hs'' hm' hs'
  obtain ⟨oa, hoa, es, ep, hex, hda, hka, hpa, hna⟩ := H₆.get (.head _)
  obtain ⟨od, hod, ds, dp, hdx, hdd, hkd, hpd, hnd⟩ := H₆.get (a := d) (.tail _ (.head _))
  have hd0 : ds = #[] := by
    cases ds with | mk l => cases hpd; rfl
  subst hd0
  have hne : sub ≠ d := fun q => by
    have := H₆.nd
    simp only [List.map_cons, List.nodup_cons, List.mem_cons, not_or] at this
    exact this.1.1 q
  refine wpAny_onRaise (wpAny_holding (wpAny_tryCatch (wpAny_onRaise (merge_raw (kvs := [(n1, v1), (n2, v2)]) hoa hda hex hod hdd hdx hne hka hpa hna (H₆.notSys (.head _) hs) (by show 2 ≤ sizeLine; decide) fun h₃ hsb hd' => ?_))))
  obtain ⟨o', ep', g1, g2, g3⟩ := hd'
  have H₇ : St base os₀ ((d, dctA (strKind prog w) [(n1, v1), (n2, v2)]) :: led) { s₅ with heap := h₃ } :=
    (H₆.upd (tk := s₅.toks) (.tail .head) hsb.extBut ⟨o', g1, es, ep', g2, g3, hka, hpa, hna⟩).sub (.cons _ (.refl _))
  generalize (Shared.mk h₃ _ _ _ _) = s₆ at H₇ ⊢
  refine wpAny_bind (hx3 _ _ _ (fun p hp => .tail _ hp) H₇ ?_)
  refine wpAny_bind (wpAny_onRaise (wpAny_holding (wpAny_tryCatch (wpAny_onRaise (merge_more (kvs := kvs) hh hs (by simp) (Nat.le_trans (Nat.add_le_add_left hz _) (by show 2 + 1000 ≤ sizeLine; decide)) H₇ ha (fun hdis s₇ H₈ => ?_) fun hdup k t cur h₄ e s₇ hk H₈ hmade => ?_)))))
  · refine wpAny_pure ?_
    dsimp only
    rw [List.forIn_nil]
    refine wpAny_pure ?_
    rw [if_pos List.isEmpty_nil]
    exact wpAny_pure (wpAny_pure (h1 (by simpa using hdis) d s₇ H₈))
  · refine wpAny_bind (wpAny_holding (let_go (wpAny_pure ?_)))
    obtain ⟨hk1, hk2⟩ := hkl k hk
    obtain ⟨tt, he, _, htt⟩ := hmade.there
    have hT : ({ s₇ with heap := h₄ } : Shared).TypeIs (.ref e) "KeyError" := ⟨_, he, rfl⟩
    refine wpAny_holding (wpAny_bind (wpAny_isInstance hT (b := false) (by rw [isSubtype_type]; kernel_rfl) ?_))
    rw [if_neg (by simp)]
    refine wpAny_bind (wpAny_isInstance hT (b := true) (by rw [isSubtype_type]; kernel_rfl) ?_)
    rw [if_pos rfl]
    refine wpAny_bind (wpAny_field he rfl rfl ?_)
    refine wpAny_bind (wpAny_seqItems htt rfl ?_)
    refine wpAny_bind (wpAny_rule (wpAny_bind ?_))
    unfold pyStr
    refine wpAny_bind (wpAny_of_eq rfl (wpAny_pure ?_))
    rw [if_neg (by rw [hk2]; simp)]
    have H₉ : St base os₀ led { s₇ with heap := h₄ } := (of_newExc (s := s₇) (tk := s₇.toks) (H₈.sub (.cons _ (.refl _))) hmade.newExc).sub (.cons _ (.refl _))
    refine wpAny_bind (fstr (H₉.keep _ _ hf) hm hqz.2 hb s1 s2 fun tk => ?_)
    refine wpAny_bind (wpAny_raiseErrorMade plainExc_TypeError hh (fun h₅ tk' e' hnew => ?_) ?_)
    · refine wpAny_bind (wpAny_holding (let_go (wpAny_pure (h2 ?_ e' _ ?_))))
      · simpa using hdup
      · exact of_newExc (s := { s₇ with heap := h₄, toks := tk }) (tk := tk') (H₉.ext (tk := tk) fun _ _ q => q) hnew
    · show (Str.ofString _).length ≤ sizeLine
      rw [PySem.ofString_length, sizeLine_eq]
      simp only [String.length_append, toString]
      have e1 : " got multiple values for keyword argument '".length ≤ 100 := by decide
      have e2 : "'".length ≤ 100 := by decide
      have e3 : ".".length ≤ 100 := by decide
      have e4 : "()".length ≤ 100 := by decide
      omega
end
end Mine

namespace Mine
open PySem PySem.W PyProof.Rows PySem.Calls PySem.Spec
section
variable {prog : Program} {w : World} {A : Around} {E : Value → Shared → Prop} {s : Shared} {base : Heap} {os₀ : OsState} {led led' : Led}
/-- a call of what is no callable -/
theorem call_none {v : Value} {T : String} {args : Args} {Q : Value → Shared → Prop} (hh : A.handled = none) (hv : v = .int n t ∨ v = .str x t) (hT : ∀ s' : Shared, s'.TypeIs v T) (hl : typeLookup (.type T) "__call__" = pure none)
    (hn : (Value.type T == Value.type "builtin_function_or_method") = false) (hz : (shownName T).length ≤ 1000) (H : St base os₀ led s) (h : ∀ e s', St base os₀ ((e, ex0 "TypeError") :: led) s' → E (.ref e) s') :
    wpAny (model prog w) A (call v args.pos args.kw) Q E s := by
  refine wpAny_call (codeAny_of_tree ?_)
  show wpAny _ A.in1 (callAny v args) _ _ s
  have tail : wpAny (model prog w) A.in1 (do raiseErrorMade "TypeError" s!"'{← PySem.typeNameOf v}' object is not callable" : Sem PySem.Fin) (fun fin s' => match fin with | .done f => (match (Except.ok f : Result) with | .ok (.ret v) => Q v s' | .ok _ => False | .error e => E e s') | .again c' => c'.quiet = true ∧ codeAny (model prog w) A c' (fun r s' => match r with | .ok (.ret v) => Q v s' | .ok _ => False | .error e => E e s') s') (fun e s' => E e s') s := by
    refine wpAny_bind (wpAny_typeNameOf' (hT s) hn (wpAny_raiseErrorMade plainExc_TypeError hh (fun h' tk e hnew => h e _ (of_newExc H hnew)) ?_))
    show (Str.ofString _).length ≤ sizeLine
    rw [PySem.ofString_length, sizeLine_eq]
    simp only [String.length_append, toString]
    have e1 : "'".length ≤ 100 := by decide
    have e2 : "' object is not callable".length ≤ 100 := by decide
    omega
  rcases hv with rfl | rfl
  · show wpAny _ A.in1 (callAny.viaDunder _ args) _ _ s
    unfold callAny.viaDunder
    refine wpAny_bind (wpAny_specialOf (hT s) hl ?_)
    unfold callAny.notCallable
    exact wpAny_bind (wpAny_rule tail)
  · show wpAny _ A.in1 (callAny.viaDunder _ args) _ _ s
    unfold callAny.viaDunder
    refine wpAny_bind (wpAny_specialOf (hT s) hl ?_)
    unfold callAny.notCallable
    exact wpAny_bind (wpAny_rule tail)
/-- a call, with ** of a dict, of what is no callable -/
theorem callWith_none {v : Value} {T : String} {n : Int} {x : Str} {t : Tok} {pos : Pos} {args : List (Bool × Sem Value)} {kws : List (Option Str × Sem Value)} {Q : Value → Shared → Prop} (hh : A.handled = none) (hv : v = .int n t ∨ v = .str x t) (hT : ∀ s' : Shared, s'.TypeIs v T) (hl : typeLookup (.type T) "__call__" = pure none)
    (hn : (Value.type T == Value.type "builtin_function_or_method") = false) (hz : (shownName T).length ≤ 1000) (hst : kws.any (·.1.isNone) = true)
    (h : wpAny (model prog w) A (evalArgs v true args kws) (fun a s₁ => ∃ led₁, St base os₀ led₁ s₁ ∧ ∀ e s', St base os₀ ((e, ex0 "TypeError") :: led₁) s' → E (.ref e) s') E s) :
    wpAny (model prog w) A (callWith pos v [] args kws) Q E s := by
  unfold callWith
  refine wpAny_bind (wpAny_holding (wpAny_mono h (fun a s₁ h₁ => wpAny_bind (wpAny_standAt ?_)) fun _ _ x => x))
  obtain ⟨led₁, H₁, h₁⟩ := h₁
  have hk : keeperOf v = pure .machine := by rcases hv with rfl | rfl <;> rfl
  refine wpAny_bind (wpAny_of_eq hk ?_)
  have hst' : (args.any (·.1) || kws.any (·.1.isNone)) = true := by rw [hst, Bool.or_true]
  simp only [hst']
  refine wpAny_bind (wpAny_operate' ?_)
  exact call_none (args := ⟨[] ++ a.pos, a.kw⟩) hh hv hT hl hn hz H₁ h₁
end
end Mine

namespace Mine
open PySem PySem.W PyProof.Rows PySem.Calls PySem.Spec
def gniStmt : Stmt := nth 3 PySem.Challenge.pw_dm0069_11.main.body
def takesStmt : Stmt := nth 5 PySem.Challenge.pw_dm0069_11.main.body
def notedStmt : Stmt := nth 6 PySem.Challenge.pw_dm0069_11.main.body
def lawStmt11 : Stmt := nth 7 PySem.Challenge.pw_dm0069_11.main.body
def kNI : Str := Str.ofString "name_index"
def kGN : Str := Str.ofString "get_name"
section
variable {prog : Program} {w : World} {A : Around} {E : Value → Shared → Prop} {s : Shared} {base : Heap} {os₀ : OsState} {led : Led}
abbrev gniM (v g : Value) (d : Addr) : Str → Option Value := fun x => ([kNI, kGN].zip [v, g] ++ [(Str.ofString "extrainfo", Value.ref d)]).reverse.lookup x
/-- the def's body with a lookup that is a function -/
theorem gni_body {f g L d : Addr} {fd : FuncData} {o₀ : Obj} {v : Value} {kws : List (Str × Value)} {Q : Flow → Shared → Prop} (hsc : fd.scope = fnScope gniStmt) (hsys : base.get? sysModules = some o₀) (hk3 : kws.length ≤ sizeLine)
    (H : St base os₀ ((L, nsA (gniM v (.ref g) d)) :: (d, dctA (strKind prog w) kws) :: led) s)
    (h : ∀ d₂ s₁, St base os₀ ((d₂, dctA (strKind prog w) kws) :: (L, nsA (gniM v (.ref g) d)) :: (d, dctA (strKind prog w) kws) :: led) s₁ →
      (∃ o gd, s₁.heap.get? g = some o ∧ o.data = .func gd) ∧
      wpC (model prog w) A (call (.ref g) [v] kws) (fun r s₂ => ∃ front led₂, St base os₀ (front ++ (L, nsA (gniM v (.ref g) d)) :: led₂) s₂ ∧ ∀ a s₃, St base os₀ ((a, tupA [r, r]) :: led₂) s₃ → Q (.ret (.ref a)) s₃) E s₁) :
    wpC (model prog w) A (execs (fnBody gniStmt) (callEnv fd L f)) Q E s := by
  obtain ⟨fname, fqual, fpar, fbody, fscope, fglob, fclo, fdef, fkwd, fdoc, fmod, fann, fcode, fct, fbui⟩ := fd
  simp only at hsc
  subst hsc
  refine execsC_cons (If_C (wpAny_isTrue_Compare1 (nm_l H (.head _) rfl (wpAny_Constant_none (isNot_none (wpAny_truthy_bool (ite_pos (by simp) ?_)))))))
  refine execsC_cons (Assign_C (Call_C (nm_l H (.head _) rfl (callWith_C (evalArgs_star rfl (spliced_cons (nm_l H (.head _) rfl (spliced_nil (merged1 H hsys ?_ (.tail _ (.head _)) hk3 fun d₂ s₃ H₃ => kwIn H₃ (.head _) ?_)))))))))
  · exact fun d' s' H' => wpAny_bind (nm_l H' (.tail _ (.head _)) rfl (wpAny_bind (wpAny_standAt (wpAny_pure ⟨rfl, rfl⟩))))
  obtain ⟨hgo, hcall⟩ := h _ s₃ H₃
  refine ⟨hgo, wpC_mono hcall (fun r s₄ h₄ => ?_) fun _ _ x => x⟩
  obtain ⟨front, led₂, H₄, h₄⟩ := h₄
  have H₅ := H₄.sub (List.sublist_append_right _ _)
  refine st_l H₅ .head fun s₆ H₆ => ?_
  refine wpC_any (wpAny_execs_cons (wpAny_Return_some (Tuple_ (wpAny_items_cons (nm_l H₆ (.head _) rfl (wpAny_items_cons (nm_l H₆ (.head _) rfl (wpAny_items_nil (new_tuple H₆ fun a s₇ H₇ => ?_)))))))))
  exact h₄ a s₇ (H₇.sub (.cons_cons _ (.cons _ (.refl _))))
/-- without a lookup -/
theorem gni_blank {f u L d : Addr} {fd : FuncData} {mg : Str → Option Value} {v : Value} {kws : List (Str × Value)} {Q : Flow → Shared → Prop} (hsc : fd.scope = fnScope gniStmt) (hgl : fd.globals = mainGlobals) (hbi : fd.builtins = builtinsNs) (hg : base.Ns mainGlobals mg) (hu : mg (Str.ofString "UNKNOWN") = some (.ref u))
    (H : St base os₀ ((L, nsA (gniM v .none d)) :: (d, dctA (strKind prog w) kws) :: led) s) (h : ∀ a t s', St base os₀ ((a, tupA [.ref u, .str (Str.ofString "") t]) :: led) s' → Q (.ret (.ref a)) s') :
    wpAny (model prog w) A (execs (fnBody gniStmt) (callEnv fd L f)) Q E s := by
  obtain ⟨fname, fqual, fpar, fbody, fscope, fglob, fclo, fdef, fkwd, fdoc, fmod, fann, fcode, fct, fbui⟩ := fd
  simp only at hsc hgl hbi
  subst hsc hgl hbi
  refine wpAny_execs_cons (wpAny_If (wpAny_isTrue_Compare1 (nm_l H (.head _) rfl (wpAny_Constant_none (isNot_none (wpAny_truthy_bool ?_))))))
  refine ite_neg (by decide) ?_
  refine wpAny_execs_cons (wpAny_Return_some (Tuple_ (wpAny_items_cons (nm_g H hg hu (wpAny_items_cons (c_str H fun t s₃ H₃ => wpAny_items_nil (new_tuple H₃ fun a s₄ H₄ => ?_)))))))
  exact h a t s₄ (H₄.sub (.cons_cons _ (.cons _ (.cons _ (.refl _)))))
/-- the two ways in which law calls the def -/
inductive Way | places | names
def wayPos (y : Way) (v g : Value) : List Value := match y with | .places => [v, g] | .names => []
def wayKw (y : Way) (v g : Value) (kws : List (Str × Value)) : List (Str × Value) := match y with | .places => kws | .names => (kGN, g) :: (kNI, v) :: kws
theorem bind_names {fd : FuncData} {v g : Value} {kws : List (Str × Value)} {Q : List (Str × Value) → Shared → Prop} (hp : fd.params = fnPar gniStmt) (hdf : fd.defaults = .none)
    (hdis : ∀ k ∈ kws.map (·.1), k ∉ [kNI, kGN]) (hkn : (kws.map (·.1)).Nodup) (hz : kws.length ≤ sizeLine + 1) (H : St base os₀ led s)
    (h : ∀ d s', St base os₀ ((d, dctA (strKind prog w) kws) :: led) s' → Q ([kNI, kGN].zip [v, g] ++ [(Str.ofString "extrainfo", .ref d)]) s') :
    wpAny (model prog w) A (bindArgs fd ⟨[], (kGN, g) :: (kNI, v) :: kws⟩) Q E s := by
  unfold bindArgs
  have e1 : (fnPar gniStmt).posonlyargs = [] := rfl
  have e2 : (fnPar gniStmt).args.map (·.arg) = [kNI, kGN] := rfl
  have e3 : (fnPar gniStmt).kwonlyargs = [] := rfl
  have e4 : (fnPar gniStmt).vararg = none := rfl
  have e5 : ∃ kwa, (fnPar gniStmt).kwarg = some kwa ∧ kwa.arg = Str.ofString "extrainfo" := ⟨_, rfl, rfl⟩
  obtain ⟨kwa, e5, e6⟩ := e5
  simp only [hp, e1, e2, e3, e4, e5, hdf, List.map_nil, List.nil_append, List.append_nil, List.zip_nil_right]
  refine wpAny_bind ?_
  refine wpAny_forIn_list _ (fun rest b s' => s' = s ∧ ((rest = (kGN, g) :: (kNI, v) :: kws ∧ b = ([], [])) ∨ (rest = (kNI, v) :: kws ∧ b = ([(kGN, g)], [])) ∨ ∃ done, kws = done ++ rest ∧ b = ([(kGN, g), (kNI, v)], done))) _ ?_ ?_ _ _ ⟨rfl, .inl ⟨rfl, rfl⟩⟩
  · rintro ⟨k, x⟩ rest b s' ⟨rfl, ⟨e, rfl⟩ | ⟨e, rfl⟩ | ⟨done, rfl, rfl⟩⟩
    · injection e with e e'
      cases e; subst e'
      simp only [show ([kNI, kGN].contains kGN || ([] : List Str).contains kGN) = true from by decide, if_true, show ((([] : List (Str × Value)).lookup kGN).isSome) = false from rfl, Bool.false_eq_true, if_false]
      exact wpAny_pure ⟨by trivial, .inr (.inl ⟨by trivial, by trivial⟩)⟩
    · injection e with e e'
      cases e; subst e'
      have hl : (([(kGN, g)] : List (Str × Value)).lookup kNI).isSome = false := by rw [List.lookup_cons, show (kNI == kGN) = false from by decide]; rfl
      simp only [show ([kNI, kGN].contains kNI || ([] : List Str).contains kNI) = true from by decide, if_true, hl, Bool.false_eq_true, if_false]
      exact wpAny_pure ⟨rfl, .inr (.inr ⟨[], rfl, rfl⟩)⟩
    · have hc : [kNI, kGN].contains k = false := by
        cases q : [kNI, kGN].contains k with
        | false => rfl
        | true => exact absurd (List.contains_iff_mem.mp q) (hdis k (by simp))
      simp only [hc, List.contains_nil, Bool.or_self, Bool.false_eq_true, if_false, Option.isSome_some, if_true]
      exact wpAny_pure ⟨rfl, .inr (.inr ⟨done ++ [(k, x)], by simp, rfl⟩)⟩
  · rintro b s' ⟨rfl, ⟨e, rfl⟩ | ⟨e, rfl⟩ | ⟨done, hd, rfl⟩⟩
    · cases e
    · cases e
    rw [List.append_nil] at hd
    subst hd
    show wpAny _ _ (pure none >>= _) _ _ _
    refine wpAny_bind (wpAny_pure ?_)
    have hmiss : ([kNI, kGN].filter fun n => (([(kGN, g), (kNI, v)] : List (Str × Value)).lookup n).isNone) = [] := by
      have l1 : ([(kGN, g), (kNI, v)] : List (Str × Value)).lookup kNI = some v := by rw [List.lookup_cons, show (kNI == kGN) = false from by decide]; simp
      have l2 : ([(kGN, g), (kNI, v)] : List (Str × Value)).lookup kGN = some g := by simp
      simp [l1, l2]
    have hfm : ([kNI, kGN].filterMap fun n => (([(kGN, g), (kNI, v)] : List (Str × Value)).lookup n).map (n, ·)) = [(kNI, v), (kGN, g)] := by
      have l1 : ([(kGN, g), (kNI, v)] : List (Str × Value)).lookup kNI = some v := by rw [List.lookup_cons, show (kNI == kGN) = false from by decide]; simp
      have l2 : ([(kGN, g), (kNI, v)] : List (Str × Value)).lookup kGN = some g := by simp
      simp [l1, l2]
    simp only [Option.getD_none, List.drop_nil, List.length_nil, List.length_cons, Nat.sub_zero, List.take_succ_cons, List.take_nil, hmiss, Bool.false_and, Bool.false_eq_true, if_false, List.isEmpty_nil, Bool.not_true, List.zip_nil_right, List.forIn_nil, show decide (0 > 0 + 1 + 1) = false from rfl]
    refine wpAny_bind (wpAny_pure (wpAny_bind (wpAny_pure ?_)))
    simp only [List.isEmpty_nil, Bool.not_true, Bool.false_eq_true, if_false, if_neg (Nat.not_lt.mpr hz), hfm]
    refine wpAny_bind (wpAny_alloc ?_)
    refine wpAny_bind (nsSets (fun n v u => rfl) kws [] _ _ ⟨_, #[], 0, Heap.get?_push_size _ rfl, ⟨rfl, rfl, rfl⟩, rfl, fun e he => by simp at he, .nil, .nil⟩ (fun _ _ => by simp) hkn fun h' tk hm' hs' => wpAny_pure ?_)
    rw [List.nil_append] at hm'
    rw [e6]
    refine h _ _ (H.more (fun b o e => ?_) (Nat.le_refl _) (dctA_of hm').choose_spec.1 (dctA_of hm').choose_spec.2)
    exact (hs'.2 b (Nat.ne_of_lt (Heap.lt_size e))).trans (Heap.get?_push_of_some _ e)
end
end Mine

namespace Mine
open PySem PySem.W PyProof.Rows PySem.Calls PySem.Spec
/-- what the top gives to law 11 -/
structure G11 (base : Heap) (mg mb : Str → Option Value) (fG fT fN u : Addr) (gd td nd : FuncData) : Prop where
  gr : Gr base mg mb
  dg : IsDef base fG gniStmt gd
  dt : IsDef base fT takesStmt td
  dn : IsDef base fN notedStmt nd
  hg : mg (Str.ofString "_get_name_info") = some (.ref fG)
  ht : mg (Str.ofString "_law_takes") = some (.ref fT)
  hn : mg (Str.ofString "_law_noted") = some (.ref fN)
  hu : mg (Str.ofString "UNKNOWN") = some (.ref u)
  n1 : mg (Str.ofString "range") = none
  n2 : mg (Str.ofString "len") = none
  n3 : mg (Str.ofString "sorted") = none
  n4 : mg (Str.ofString "TypeError") = none
  b1 : mb (Str.ofString "range") = some (.type "range")
  b2 : mb (Str.ofString "len") = some (.builtin "len")
  b3 : mb (Str.ofString "sorted") = some (.builtin "sorted")
  b4 : mb (Str.ofString "TypeError") = some (.type "TypeError")
  gobj : ∃ dc sl, base.get? fG = some { cls := .type "function", dict := dc, data := .func gd, slots := sl }
  gqual : gd.qualname = Str.ofString "_get_name_info"
  gmod : ∃ t, gd.pyModule = .str (Str.ofString "cpy313.dis") t
section
variable {prog : Program} {w : World} {A : Around} {E : Value → Shared → Prop} {s : Shared} {base : Heap} {os₀ : OsState} {led : Led} {mg mb : Str → Option Value} {fG fT fN u : Addr} {gd td nd : FuncData} {v g : Value} {kws : List (Str × Value)} {y : Way}
/-- the def is entered, in either way -/
theorem gni_enter {Q : Value → Shared → Prop} (G : G11 base mg mb fG fT fN u gd td nd) (H : St base os₀ led s) (hroom : A.depth < recursionLimit) (hk1 : ∀ k ∈ kws.map (·.1), k ∉ [kNI, kGN]) (hk2 : (kws.map (·.1)).Nodup) (hk3 : kws.length ≤ sizeLine)
    (h : ∀ env L d s₂, env = callEnv gd L fG → St base os₀ ((L, nsA (gniM v g d)) :: (d, dctA (strKind prog w) kws) :: led) s₂ →
      wpC (model prog w) (A.deeper env) (execs (fnBody gniStmt) env) (fun fl s' => Q (match fl with | .ret v => v | _ => .none) s')
        (fun e s' => wpAny (model prog w) (A.deeper env) (leaving env e) (fun _ s'' => E e s'') (fun e' s'' => E e' s'') s') s₂) :
    wpC (model prog w) A (call (.ref fG) (wayPos y v g) (wayKw y v g kws)) Q E s := by
  obtain ⟨⟨o, ho, hd⟩, hb, hp, hsc, hc, hgl, hbi, hdf, hcd⟩ := G.dg
  refine fn_below (args := ⟨wayPos y v g, wayKw y v g kws⟩) H hroom G.gr.lim (H.keep _ _ ho) hd (hcd.keeps H.keep) hb (by rw [hsc]; decide) ?_ (by rw [hsc]; rfl) (by rw [hsc]; rfl) (by rw [hsc]; rfl)
  have go : ∀ d s₁, St base os₀ ((d, dctA (strKind prog w) kws) :: led) s₁ → ∃ led₁, St base os₀ led₁ s₁ ∧ (∀ x ∈ [kNI, kGN].zip [v, g] ++ [(Str.ofString "extrainfo", Value.ref d)], gd.scope.names.lookup x.1 = some .local) ∧
      ∀ L s₂, St base os₀ ((L, nsA fun x => ([kNI, kGN].zip [v, g] ++ [(Str.ofString "extrainfo", Value.ref d)]).reverse.lookup x) :: led₁) s₂ →
        wpC (model prog w) (A.deeper (callEnv gd L fG)) (execs (fnBody gniStmt) (callEnv gd L fG)) (fun fl s' => Q (match fl with | .ret v => v | _ => .none) s')
          (fun e s' => wpAny (model prog w) (A.deeper (callEnv gd L fG)) (leaving (callEnv gd L fG) e) (fun _ s'' => E e s'') (fun e' s'' => E e' s'') s') s₂ := fun d s₁ H₁ => by
    refine ⟨_, H₁, ?_, fun L s₂ H₂ => h _ L d s₂ rfl H₂⟩
    intro x hx
    rw [hsc]
    simp only [List.zip_cons_cons, List.zip_nil_right, List.cons_append, List.nil_append, List.mem_cons, List.not_mem_nil, or_false] at hx
    rcases hx with rfl | rfl | rfl <;> rfl
  cases y with
  | places =>
    have e5 : ∃ kwa, (fnPar gniStmt).kwarg = some kwa ∧ kwa.arg = Str.ofString "extrainfo" := ⟨_, rfl, rfl⟩
    obtain ⟨kwa, e5, e6⟩ := e5
    exact wpC_any (bind_kw (normal := [kNI, kGN]) (kwa := kwa) (by rw [hp]; rfl) (by rw [hp]; rfl) (by rw [hp]; rfl) (by rw [hp]; rfl) (by rw [hp]; exact e5) hdf rfl (by decide) hk1 hk2 (Nat.le_succ_of_le hk3) H fun d s₁ H₁ => by rw [e6]; exact go d s₁ H₁)
  | names => exact wpC_any (bind_names hp hdf hk1 hk2 (Nat.le_succ_of_le hk3) H fun d s₁ H₁ => go d s₁ H₁)
/-- the def refuses a further word that is one of its own names -/
theorem gni_refuses {Q : Value → Shared → Prop} (G : G11 base mg mb fG fT fN u gd td nd) (hh : A.handled = none) (H : St base os₀ led s) (hk1 : ∃ k ∈ kws.map (·.1), k ∈ [kNI, kGN]) (hkl : ∀ k ∈ kws.map (·.1), k.toString.length ≤ 100 ∧ k.cps.any (fun c => 0xD800 ≤ c && c ≤ 0xDFFF) = false)
    (h : ∀ e s', St base os₀ ((e, ex0 "TypeError") :: led) s' → E (.ref e) s') : wpC (model prog w) A (call (.ref fG) [v, g] kws) Q E s := by
  obtain ⟨⟨o, ho, hd⟩, hb, hp, hsc, hc, hgl, hbi, hdf, hcd⟩ := G.dg
  refine call_refused (args := ⟨[v, g], kws⟩) (H.keep _ _ ho) hd (hcd.keeps H.keep) (bind_refused (A := A.in1) (normal := [kNI, kGN]) hh (by rw [hp]; rfl) (by rw [hp]; rfl) (by rw [hp]; rfl) ?_ (by rw [G.gqual]; decide +kernel) hkl (by decide +kernel) H h)
  have hw : gd.params.kwarg.isSome = true := by rw [hp]; rfl
  rw [hw]
  have gen : ∀ (kws extra : List (Str × Value)), (∃ k ∈ kws.map (·.1), k ∈ [kNI, kGN]) → kwSim [kNI, kGN] true ([kNI, kGN].zip [v, g]) extra kws = none := fun kws => by
    induction kws with
    | nil => rintro extra ⟨k, hk, _⟩; cases hk
    | cons q r ih =>
      obtain ⟨k, x⟩ := q
      rintro extra ⟨k', hk', hin⟩
      unfold kwSim
      by_cases hc : [kNI, kGN].contains k = true
      · have hl : (([kNI, kGN].zip [v, g]).lookup k).isSome = true := lookup_zip_some _ _ rfl _ (List.contains_iff_mem.mp hc)
        rw [if_pos hc, if_pos hl]
      · rw [if_neg hc, if_pos rfl]
        refine ih _ ⟨k', ?_, hin⟩
        rcases List.mem_cons.mp hk' with e | e
        · exact absurd (List.contains_iff_mem.mpr ((show k' = k from e) ▸ hin)) hc
        · exact e
  exact gen kws [] hk1
end
end Mine

namespace Mine
open PySem PySem.W PyProof.Rows PySem.Calls PySem.Spec
def lamPar : Expr → Arguments | .Lambda a _ _ _ => a | _ => default
def lamBody : Expr → Expr | .Lambda _ b _ _ => b | _ => default
def lamScope : Expr → Scope | .Lambda _ _ s _ => s | _ => default
def asgE : Stmt → Expr | .Assign _ e _ => e | _ => default
def listE : Expr → List Expr | .List es _ => es | _ => []
def lamEs : List Expr := listE (asgE (nth 1 (fnBody lawStmt11)))
def lamE (k : Nat) : Expr := lamEs.getD k default
abbrev lamFd (k : Nat) (qual : Str) (cS : Addr) (pm : Value) (c' : Addr) (ctv : Value × Value) (dV : Value) : FuncData :=
  { kla_fn (Str.ofString "<lambda>") qual (lamPar (lamE k)) (lamBody (lamE k)) (lamScope (lamE k)) [(Str.ofString "calls", cS)] pm (.ref c') ctv.1 with defaults := dV, doc := ctv.2 }
abbrev lamOb (k : Nat) (qual : Str) (cS : Addr) (pm : Value) (c' : Addr) (ctv : Value × Value) (dV : Value) : Obj := { cls := .type "function", data := .func (lamFd k qual cS pm c' ctv dV) }
def kA : Str := Str.ofString "a"
def kB : Str := Str.ofString "b"
def kI : Str := Str.ofString "index"
section
variable {prog : Program} {w : World} {A : Around} {E : Value → Shared → Prop} {s : Shared} {base : Heap} {os₀ : OsState} {led : Led} {mg mb : Str → Option Value} {fG fT fN u : Addr} {gd td nd : FuncData} {v : Value} {kws : List (Str × Value)} {cl l cS c' : Addr} {cs : List Value} {qual : Str} {pm dV : Value} {ctv : Value × Value}
/-- _law_noted -/
theorem noted_ok {r : Addr} {led' : Led} {Q : Value → Shared → Prop} (G : G11 base mg mb fG fT fN u gd td nd) (hroom : A.depth < recursionLimit) (hcs : cs.length ≤ 1000) (H : St base os₀ led s) (U : Up cl (lstA cs) (lstA (cs ++ [.ref r])) led led') (h : ∀ s', St base os₀ led' s' → Q (.ref r) s') :
    wpAny (model prog w) A (call (.ref fN) [.ref cl, .ref r] []) Q E s := by
  obtain ⟨⟨o, ho, hd⟩, hb, hp, hsc, hc, hgl, hbi, hdf, hcd⟩ := G.dn
  obtain ⟨fname, fqual, fpar, fbody, fscope, fglob, fclo, fdef, fkwd, fdoc, fmod, fann, fcode, fct, fbui⟩ := nd
  simp only at hb hp hsc hc hgl hbi hdf hcd
  subst hb hp hsc hc hgl hbi hdf
  refine fn_enter (args := ⟨[.ref cl, .ref r], []⟩) H hroom G.gr.lim (H.keep _ _ ho) hd (hcd.keeps H.keep) rfl (by show ∀ x ∈ (fnScope notedStmt).names, x.2 ≠ NameKind.cell; decide) ?_
  refine wpAny_of_eq (a := [(Str.ofString "calls", .ref cl), (Str.ofString "call", .ref r)]) rfl ?_
  refine ⟨_, H, ?_, fun L s₁ H₁ => ?_⟩
  · intro x hx
    simp only [List.mem_cons, List.not_mem_nil, or_false] at hx
    rcases hx with rfl | rfl <;> rfl
  refine wpAny_execs_cons (wpAny_Expr (l_append_stmt (l := cl) (nm_l H₁ (.head _) rfl ⟨rfl, ?_, nm_l H₁ (.head _) rfl (l_append H₁ (.tail U) (fun s₂ H₂ => ?_) (Nat.le_trans hcs (by decide)))⟩)))
  · obtain ⟨ol, hol, n, rfl⟩ := H₁.get (.tail _ U.mem); exact ⟨_, hol, rfl, rfl⟩
  · exact wpAny_execs_cons (wpAny_Return_some (nm_l H₂ (.head _) rfl (h s₂ (H₂.sub (.cons _ (.refl _))))))
/-- a lambda is entered -/
theorem lam_in {k : Nat} {Q : Value → Shared → Prop} (G : G11 base mg mb fG fT fN u gd td nd) (hroom : A.depth < recursionLimit) (hk : k < 5) (H : St base os₀ led s) (hl : (l, objA (lamOb k qual cS pm c' ctv dV)) ∈ led) (hc : (c', codeA qual) ∈ led)
    (h : wpAny (model prog w) A.in1 (bindArgs (lamFd k qual cS pm c' ctv dV) ⟨[v], kws⟩) (fun binds s₁ => ∃ led₁, St base os₀ led₁ s₁ ∧ (∀ x ∈ binds, (lamScope (lamE k)).names.lookup x.1 = some .local) ∧
      ∀ L s₂, St base os₀ ((L, nsA fun x => binds.reverse.lookup x) :: led₁) s₂ →
        ∀ E', wpAny (model prog w) (A.deeper (callEnv (lamFd k qual cS pm c' ctv dV) L l)) (eval (lamBody (lamE k)) (callEnv (lamFd k qual cS pm c' ctv dV) L l)) Q E' s₂) E s) :
    wpAny (model prog w) A (call (.ref l) [v] kws) Q E s := by
  obtain ⟨o, ho, rfl⟩ := H.get hl
  obtain ⟨oc, hoc, cvs, ct, hcd, hcv⟩ := H.get hc
  have hcell : ∀ x ∈ (lamScope (lamE k)).names, x.2 ≠ NameKind.cell := by
    have : ∀ k < 5, ∀ x ∈ (lamScope (lamE k)).names, x.2 ≠ NameKind.cell := by decide
    exact this k hk
  have hco : (lamScope (lamE k)).isCoroutine = false := by
    have : ∀ k < 5, (lamScope (lamE k)).isCoroutine = false := by decide
    exact this k hk
  have hge : (lamScope (lamE k)).isGenerator = false := by
    have : ∀ k < 5, (lamScope (lamE k)).isGenerator = false := by decide
    exact this k hk
  have hki : (lamScope (lamE k)).kind = .function := by
    have : ∀ k < 5, (lamScope (lamE k)).kind = .function := by decide
    exact this k hk
  refine lam_enter (args := ⟨[v], kws⟩) H hroom G.gr.lim ho rfl ⟨c', oc, cvs, ct, rfl, hoc, hcd, hcv⟩ rfl hcell (wpAny_mono h (fun binds s₁ h₁ => ?_) fun _ _ x => x) hco hge hki
  obtain ⟨led₁, H₁, hb, h₁⟩ := h₁
  exact ⟨led₁, H₁, hb, fun L s₂ H₂ => h₁ L s₂ H₂ _⟩
/-- lambda index: _law_noted(calls, [0, index, []]) -/
theorem lam0 {led' : Addr → Led} {Q : Value → Shared → Prop} (G : G11 base mg mb fG fT fN u gd td nd) (hroom : A.depth + 1 < recursionLimit) (hcs : cs.length ≤ 1000) (H : St base os₀ led s) (hl : (l, objA (lamOb 0 qual cS pm c' ctv .none)) ∈ led) (hc : (c', codeA qual) ∈ led)
    (hcell : (cS, celA (some (.ref cl))) ∈ led) (U : ∀ r, Up cl (lstA cs) (lstA (cs ++ [.ref r])) led (led' r))
    (h : ∀ r x t s', St base os₀ ((r, lstA [.int 0 t, v, .ref x]) :: (x, lstA []) :: led' r) s' → Q (.ref r) s') : wpAny (model prog w) A (call (.ref l) [v] []) Q E s := by
  refine lam_in G (by omega) (by decide) H hl hc (wpAny_of_eq (a := [(Str.ofString "index", v)]) rfl ⟨_, H, ?_, fun L s₁ H₁ E' => ?_⟩)
  · intro x hx
    simp only [List.mem_cons, List.not_mem_nil, or_false] at hx
    rcases hx with rfl; rfl
  obtain ⟨o, ho, hd⟩ := G.dn.obj
  refine wpAny_Call_ofName (nm_g H₁ G.gr.g G.hn (callWith_fn (evalArgs_plain (spliced_cons (nm_f H₁ rfl (.tail _ hcell) (spliced_cons (List_ (wpAny_items_cons (c_int H₁ fun t s₂ H₂ => wpAny_items_cons (nm_l H₂ (.head _) rfl (wpAny_items_cons (List_ (wpAny_items_nil (new_list H₂ fun x s₃ H₃ => wpAny_items_nil (new_list H₃ fun r s₄ H₄ => spliced_nil ⟨⟨o, nd, H₄.keep _ _ ho, hd⟩, ?_⟩)))))))))))))))
  refine noted_ok G (by show A.depth + 1 < _; omega) hcs H₄ (.tail (.tail (.tail (U r)))) fun s₅ H₅ => h r x t s₅ (H₅.sub (.cons_cons _ (.cons_cons _ (.cons _ (.refl _)))))
end
end Mine

namespace Mine
open PySem PySem.W PyProof.Rows PySem.Calls PySem.Spec
section
variable {prog : Program} {w : World} {A : Around} {E : Value → Shared → Prop} {s : Shared} {base : Heap} {os₀ : OsState} {led : Led} {mg mb : Str → Option Value} {fG fT fN u : Addr} {gd td nd : FuncData} {v : Value} {kws : List (Str × Value)} {cl l cS c' tD : Addr} {cs : List Value} {qual : Str} {pm dV lv x : Value} {ctv : Value × Value}
theorem bind1a {Q : List (Str × Value) → Shared → Prop} (H : St base os₀ led s) (hD : (tD, tupA [lv]) ∈ led) (h : Q [(kI, v), (kA, lv)] s) : wpAny (model prog w) A (bindArgs (lamFd 1 qual cS pm c' ctv (.ref tD)) ⟨[v], []⟩) Q E s := by
  obtain ⟨o, ho, n, rfl⟩ := H.get hD
  unfold bindArgs
  refine wpAny_bind (wpAny_pure ?_)
  refine wpAny_bind (wpAny_seqItems ho rfl ?_)
  exact wpAny_pure h
theorem bind1b {Q : List (Str × Value) → Shared → Prop} (H : St base os₀ led s) (hD : (tD, tupA [lv]) ∈ led) (h : Q [(kI, v), (kA, x)] s) : wpAny (model prog w) A (bindArgs (lamFd 1 qual cS pm c' ctv (.ref tD)) ⟨[v], [(kA, x)]⟩) Q E s := by
  obtain ⟨o, ho, n, rfl⟩ := H.get hD
  unfold bindArgs
  refine wpAny_bind (wpAny_pure ?_)
  refine wpAny_bind (wpAny_seqItems ho rfl ?_)
  exact wpAny_pure h
theorem bind3 {Q : List (Str × Value) → Shared → Prop} (h : Q [(kA, v), (kB, x)] s) : wpAny (model prog w) A (bindArgs (lamFd 3 qual cS pm c' ctv .none) ⟨[v], [(kB, x)]⟩) Q E s := by
  refine wpAny_of_eq (a := [(kA, v), (kB, x)]) rfl h
end
end Mine

namespace Mine
open PySem PySem.W PyProof.Rows PySem.Calls PySem.Spec
/-- the further words a, b and index, each there or not -/
def wl (b0 b1 b2 : Bool) (x0 x1 x2 : Value) : List (Str × Value) := (if b0 then [(kA, x0)] else []) ++ ((if b1 then [(kB, x1)] else []) ++ (if b2 then [(kI, x2)] else []))
def wkey : Nat → Str | 0 => kA | 1 => kB | 2 => kI | _ => Str.ofString "z"
theorem wkey_inj : ∀ a ∈ List.range 4, ∀ b ∈ List.range 4, (wkey a == wkey b) = (a == b) ∧ (a ≠ b → decide ((wkey a).cps.toList < (wkey b).cps.toList) = decide (a < b)) := by decide
def wr (b0 b1 b2 : Bool) : List Nat := (if b0 then [0] else []) ++ ((if b1 then [1] else []) ++ (if b2 then [2] else []))
theorem wr_mem (b0 b1 b2 : Bool) : wr b0 b1 b2 ∈ allRanks := by cases b0 <;> cases b1 <;> cases b2 <;> decide
def wk (b0 b1 b2 : Bool) : List Str := (if b0 then [kA] else []) ++ ((if b1 then [kB] else []) ++ (if b2 then [kI] else []))
theorem wl_map (b0 b1 b2 : Bool) (x0 x1 x2 : Value) : (wl b0 b1 b2 x0 x1 x2).map (·.1) = wk b0 b1 b2 := by cases b0 <;> cases b1 <;> cases b2 <;> rfl
theorem wl_nodup (b0 b1 b2 : Bool) (x0 x1 x2 : Value) : ((wl b0 b1 b2 x0 x1 x2).map (·.1)).Nodup := by
  rw [wl_map]; revert b0 b1 b2; decide
theorem Up.app {a : Addr} {P P' : Asn} {l l' : Led} (U : Up a P P' l l') : ∀ pre : Led, Up a P P' (pre ++ l) (pre ++ l')
  | [] => U
  | _ :: r => .tail (Up.app U r)
theorem wl_len (b0 b1 b2 : Bool) (x0 x1 x2 : Value) : (wl b0 b1 b2 x0 x1 x2).length ≤ 3 := by cases b0 <;> cases b1 <;> cases b2 <;> simp [wl]
theorem wl_keys (b0 b1 b2 : Bool) (x0 x1 x2 : Value) : ∀ k ∈ (wl b0 b1 b2 x0 x1 x2).map (·.1), k = kA ∨ k = kB ∨ k = kI := by cases b0 <;> cases b1 <;> cases b2 <;> simp [wl]
section
variable {prog : Program} {w : World} {A : Around} {E : Value → Shared → Prop} {s : Shared} {base : Heap} {os₀ : OsState} {led : Led} {mg mb : Str → Option Value} {fG fT fN u : Addr} {gd td nd : FuncData} {v : Value} {kws : List (Str × Value)} {cl l cS c' tD : Addr} {cs : List Value} {qual : Str} {pm dV lv x : Value} {ctv : Value × Value}
  {b0 b1 b2 : Bool} {x0 x1 x2 : Value}
theorem sorted_wl {i d : Addr} {Q : Value → Shared → Prop} (hh : A.handled = none) (H : St base os₀ led s) (hv : (i, objA { cls := .type "dict_items", data := .fields #[.ref d] }) ∈ led) (hd : (d, dctA (strKind prog w) (wl b0 b1 b2 x0 x1 x2)) ∈ led)
    (h : ∀ D (tl tl' : List Tup2) s', (∀ x ∈ tl', x ∈ tl) → tl'.map (fun x => (x.2.1, x.2.2.2)) = wl b0 b1 b2 x0 x1 x2 → St base os₀ ((D, lstA (tl'.map fun x => .ref x.1)) :: (tupLed tl ++ led)) s' → Q (.ref D) s') :
    wpAny (model prog w) A (call (.builtin "sorted") [.ref i]) Q E s := by
  refine sorted_items (key := wkey) (wr_mem b0 b1 b2) (by cases b0 <;> cases b1 <;> cases b2 <;> rfl) wkey_inj H hv hd hh fun D tl tl' s' hsub hout H' => h D tl tl' s' hsub (hout.trans ?_) H'
  cases b0 <;> cases b1 <;> cases b2 <;> rfl
/-- lambda index, a='left out' -/
theorem lam1 {led' : Addr → Led} {Q : Value → Shared → Prop} (G : G11 base mg mb fG fT fN u gd td nd) (hroom : A.depth + 1 < recursionLimit) (hcs : cs.length ≤ 1000) (H : St base os₀ led s) (hl : (l, objA (lamOb 1 qual cS pm c' ctv (.ref tD))) ∈ led) (hc : (c', codeA qual) ∈ led) (hD : (tD, tupA [lv]) ∈ led)
    (hcell : (cS, celA (some (.ref cl))) ∈ led) (U : ∀ r, Up cl (lstA cs) (lstA (cs ++ [.ref r])) led (led' r))
    (h : ∀ r x t s', St base os₀ ((r, lstA [.int 1 t, v, .ref x]) :: (x, lstA [if b0 then x0 else lv]) :: led' r) s' → Q (.ref r) s') : wpAny (model prog w) A (call (.ref l) [v] (wl b0 false false x0 x1 x2)) Q E s := by
  have go : ∀ L s₁ E' av, St base os₀ ((L, nsA fun x => [(kI, v), (kA, av)].reverse.lookup x) :: led) s₁ → (∀ r x t s', St base os₀ ((r, lstA [.int 1 t, v, .ref x]) :: (x, lstA [av]) :: led' r) s' → Q (.ref r) s') →
      wpAny (model prog w) (A.deeper (callEnv (lamFd 1 qual cS pm c' ctv (.ref tD)) L l)) (eval (lamBody (lamE 1)) (callEnv (lamFd 1 qual cS pm c' ctv (.ref tD)) L l)) Q E' s₁ := fun L s₁ E' av H₁ hq => by
    obtain ⟨o, ho, hd⟩ := G.dn.obj
    refine wpAny_Call_ofName (nm_g H₁ G.gr.g G.hn (callWith_fn (evalArgs_plain (spliced_cons (nm_f H₁ rfl (.tail _ hcell) (spliced_cons (List_ (wpAny_items_cons (c_int H₁ fun t s₂ H₂ => wpAny_items_cons (nm_l H₂ (.head _) rfl (wpAny_items_cons (List_ (wpAny_items_cons (nm_l H₂ (.head _) rfl (wpAny_items_nil (new_list H₂ fun x s₃ H₃ => wpAny_items_nil (new_list H₃ fun r s₄ H₄ => spliced_nil ⟨⟨o, nd, H₄.keep _ _ ho, hd⟩, ?_⟩)))))))))))))))))
    refine noted_ok G (by show A.depth + 1 < _; omega) hcs H₄ (.tail (.tail (.tail (U r)))) fun s₅ H₅ => hq r x t s₅ (H₅.sub (.cons_cons _ (.cons_cons _ (.cons _ (.refl _)))))
  have hb : ∀ av, ∀ x ∈ [(kI, v), (kA, av)], (lamScope (lamE 1)).names.lookup x.1 = some .local := fun av x hx => by
    simp only [List.mem_cons, List.not_mem_nil, or_false] at hx
    rcases hx with rfl | rfl <;> rfl
  cases b0 with
  | false => exact lam_in G (by omega) (by decide) H hl hc (bind1a H hD ⟨_, H, hb _, fun L s₁ H₁ E' => go L s₁ E' lv H₁ h⟩)
  | true => exact lam_in G (by omega) (by decide) H hl hc (bind1b H hD ⟨_, H, hb _, fun L s₁ H₁ E' => go L s₁ E' x0 H₁ h⟩)
/-- lambda a, b -/
theorem lam3 {led' : Addr → Led} {Q : Value → Shared → Prop} (G : G11 base mg mb fG fT fN u gd td nd) (hroom : A.depth + 1 < recursionLimit) (hcs : cs.length ≤ 1000) (H : St base os₀ led s) (hl : (l, objA (lamOb 3 qual cS pm c' ctv .none)) ∈ led) (hc : (c', codeA qual) ∈ led)
    (hcell : (cS, celA (some (.ref cl))) ∈ led) (U : ∀ r, Up cl (lstA cs) (lstA (cs ++ [.ref r])) led (led' r))
    (h : ∀ r x t s', St base os₀ ((r, lstA [.int 3 t, v, .ref x]) :: (x, lstA [x1]) :: led' r) s' → Q (.ref r) s') : wpAny (model prog w) A (call (.ref l) [v] (wl false true false x0 x1 x2)) Q E s := by
  refine lam_in G (by omega) (by decide) H hl hc (bind3 (x := x1) ⟨_, H, ?_, fun L s₁ H₁ E' => ?_⟩)
  · intro x hx
    simp only [List.mem_cons, List.not_mem_nil, or_false] at hx
    rcases hx with rfl | rfl <;> rfl
  obtain ⟨o, ho, hd⟩ := G.dn.obj
  refine wpAny_Call_ofName (nm_g H₁ G.gr.g G.hn (callWith_fn (evalArgs_plain (spliced_cons (nm_f H₁ rfl (.tail _ hcell) (spliced_cons (List_ (wpAny_items_cons (c_int H₁ fun t s₂ H₂ => wpAny_items_cons (nm_l H₂ (.head _) rfl (wpAny_items_cons (List_ (wpAny_items_cons (nm_l H₂ (.head _) rfl (wpAny_items_nil (new_list H₂ fun x s₃ H₃ => wpAny_items_nil (new_list H₃ fun r s₄ H₄ => spliced_nil ⟨⟨o, nd, H₄.keep _ _ ho, hd⟩, ?_⟩)))))))))))))))))
  refine noted_ok G (by show A.depth + 1 < _; omega) hcs H₄ (.tail (.tail (.tail (U r)))) fun s₅ H₅ => h r x t s₅ (H₅.sub (.cons_cons _ (.cons_cons _ (.cons _ (.refl _)))))
/-- lambda index, **more -/
theorem lam2 {led' : Addr → Led} {Q : Value → Shared → Prop} (G : G11 base mg mb fG fT fN u gd td nd) (hh : A.handled = none) (hroom : A.depth + 1 < recursionLimit) (hcs : cs.length ≤ 1000) (H : St base os₀ led s) (hl : (l, objA (lamOb 2 qual cS pm c' ctv .none)) ∈ led) (hc : (c', codeA qual) ∈ led)
    (hcell : (cS, celA (some (.ref cl))) ∈ led) (U : ∀ r, Up cl (lstA cs) (lstA (cs ++ [.ref r])) led (led' r))
    (h : ∀ r x t (tl tl' : List Tup2) s', (∀ x ∈ tl', x ∈ tl) → tl'.map (fun x => (x.2.1, x.2.2.2)) = wl b0 b1 false x0 x1 x2 → St base os₀ ((r, lstA [.int 2 t, v, .ref x]) :: (x, lstA (tl'.map fun x => .ref x.1)) :: (tupLed tl ++ led' r)) s' → Q (.ref r) s') : wpAny (model prog w) A (call (.ref l) [v] (wl b0 b1 false x0 x1 x2)) Q E s := by
  obtain ⟨o₀, hsys⟩ := G.gr.sys
  refine lam_in G (by omega) (by decide) H hl hc (bind_kw (normal := [kI]) rfl rfl rfl rfl rfl rfl rfl (by decide) (fun k hk => ?_) (wl_nodup ..) (Nat.le_trans (wl_len ..) (by decide)) H fun d s₁ H₁ => ⟨_, H₁, ?_, fun L s₂ H₂ E' => ?_⟩)
  · have : ∀ k ∈ (wl b0 b1 false x0 x1 x2).map (·.1), k = kA ∨ k = kB := by cases b0 <;> cases b1 <;> simp [wl]
    rcases this k hk with rfl | rfl <;> decide
  · intro x hx
    simp only [List.zip_cons_cons, List.zip_nil_right, List.cons_append, List.nil_append, List.mem_cons, List.not_mem_nil, or_false] at hx
    rcases hx with rfl | rfl <;> rfl
  obtain ⟨o, ho, hd⟩ := G.dn.obj
  refine wpAny_Call_ofName (nm_g H₂ G.gr.g G.hn (callWith_fn (evalArgs_plain (spliced_cons (nm_f H₂ rfl (.tail _ (.tail _ hcell)) (spliced_cons (List_ (wpAny_items_cons (c_int H₂ fun t s₃ H₃ => wpAny_items_cons (nm_l H₃ (.head _) rfl (wpAny_items_cons (wpAny_Call_ofName (nm_b H₃ G.gr.g G.gr.b G.n3 G.b3 (callWith_builtin rfl (evalArgs_plain (spliced_cons (wpAny_Call_method0_late rfl rfl (nm_l H₃ (.head _) rfl (d_items H₃ hsys (.tail _ (.head _)) fun i s₄ H₄ => spliced_nil ?_)))))))))))))))))))
  refine sorted_wl hh H₄ (.head _) (.tail _ (.tail _ (.head _))) fun D tl tl' s₅ hsub hout H₅ => wpAny_items_nil (new_list H₅ fun r s₆ H₆ => spliced_nil ⟨⟨o, nd, H₆.keep _ _ ho, hd⟩, ?_⟩)
  refine noted_ok G (by show A.depth + 1 < _; omega) hcs H₆ (.tail (.tail (Up.app (.tail (.tail (.tail (U r)))) (tupLed tl)))) fun s₇ H₇ => h r D t tl tl' s₇ hsub hout (H₇.sub (.cons_cons _ (.cons_cons _ (List.Sublist.append (.refl _) (.cons _ (.cons _ (.cons _ (.refl _))))))))
end
end Mine

namespace Mine
open PySem PySem.W PyProof.Rows PySem.Calls PySem.Spec
section
variable {prog : Program} {w : World} {A : Around} {E : Value → Shared → Prop} {s : Shared} {base : Heap} {os₀ : OsState} {led : Led} {mg mb : Str → Option Value} {fG fT fN u : Addr} {gd td nd : FuncData} {v : Value} {kws : List (Str × Value)} {cl l cS c' tD : Addr} {cs : List Value} {qual : Str} {pm dV lv x : Value} {ctv : Value × Value}
  {b0 b1 b2 : Bool} {x0 x1 x2 : Value}
theorem bind4 {Q : List (Str × Value) → Shared → Prop} (hkn : (kws.map (·.1)).Nodup) (hz : kws.length ≤ sizeLine + 1) (H : St base os₀ led s)
    (h : ∀ d p s', St base os₀ ((d, dctA (strKind prog w) kws) :: (p, tupA [v]) :: led) s' → Q [(Str.ofString "places", .ref p), (Str.ofString "more", .ref d)] s') :
    wpAny (model prog w) A (bindArgs (lamFd 4 qual cS pm c' ctv .none) ⟨[v], kws⟩) Q E s := by
  unfold bindArgs
  have e1 : (lamPar (lamE 4)).posonlyargs = [] := rfl
  have e2 : (lamPar (lamE 4)).args = [] := rfl
  have e3 : (lamPar (lamE 4)).kwonlyargs = [] := rfl
  have e4 : ∃ va, (lamPar (lamE 4)).vararg = some va ∧ va.arg = Str.ofString "places" := ⟨_, rfl, rfl⟩
  have e5 : ∃ kwa, (lamPar (lamE 4)).kwarg = some kwa ∧ kwa.arg = Str.ofString "more" := ⟨_, rfl, rfl⟩
  obtain ⟨va, e4, e4'⟩ := e4
  obtain ⟨kwa, e5, e5'⟩ := e5
  simp only [e1, e2, e3, e4, e5, List.map_nil, List.nil_append, List.append_nil, List.zip_nil_left, List.length_nil, List.length_cons]
  refine wpAny_bind ?_
  refine wpAny_forIn_list _ (fun rest b s' => s' = s ∧ ∃ done, kws = done ++ rest ∧ b = ([], done)) _ ?_ ?_ _ _ ⟨rfl, [], rfl, rfl⟩
  · rintro ⟨k, x⟩ rest b s' ⟨rfl, done, rfl, rfl⟩
    simp only [List.contains_nil, Bool.or_self, Bool.false_eq_true, if_false, Option.isSome_some, if_true]
    exact wpAny_pure ⟨rfl, done ++ [(k, x)], by simp, rfl⟩
  · rintro b s' ⟨rfl, done, hd, rfl⟩
    rw [List.append_nil] at hd
    subst hd
    show wpAny _ _ (pure none >>= _) _ _ _
    refine wpAny_bind (wpAny_pure ?_)
    simp only [Option.isNone_some, Bool.and_false, Bool.false_eq_true, if_false, Option.getD_none, List.drop_nil, List.take_nil, List.filter_nil, List.isEmpty_nil, Bool.not_true, List.zip_nil_left, List.forIn_nil]
    refine wpAny_bind (wpAny_pure (wpAny_bind (wpAny_pure ?_)))
    simp only [List.isEmpty_nil, Bool.not_true, Bool.false_eq_true, if_false, if_neg (Nat.not_lt.mpr hz), List.filterMap_nil, List.nil_append, List.drop_zero]
    refine wpAny_bind (new_tuple H fun p s₁ H₁ => ?_)
    refine wpAny_bind (wpAny_alloc ?_)
    refine wpAny_bind (nsSets (fun n v u => rfl) kws [] _ _ ⟨_, #[], 0, Heap.get?_push_size _ rfl, ⟨rfl, rfl, rfl⟩, rfl, fun e he => by simp at he, .nil, .nil⟩ (fun _ _ => by simp) hkn fun h' tk hm' hs' => wpAny_pure ?_)
    rw [List.nil_append] at hm'
    rw [e4', e5']
    refine h _ p _ (H₁.more (fun b o e => ?_) (Nat.le_refl _) (dctA_of hm').choose_spec.1 (dctA_of hm').choose_spec.2)
    exact (hs'.2 b (Nat.ne_of_lt (Heap.lt_size e))).trans (Heap.get?_push_of_some _ e)
/-- lambda *places, **more -/
theorem lam4 {led' : Addr → Led} {Q : Value → Shared → Prop} (G : G11 base mg mb fG fT fN u gd td nd) (hh : A.handled = none) (hroom : A.depth + 1 < recursionLimit) (hcs : cs.length ≤ 1000) (H : St base os₀ led s) (hl : (l, objA (lamOb 4 qual cS pm c' ctv .none)) ∈ led) (hc : (c', codeA qual) ∈ led)
    (hcell : (cS, celA (some (.ref cl))) ∈ led) (U : ∀ r, Up cl (lstA cs) (lstA (cs ++ [.ref r])) led (led' r))
    (h : ∀ r x p t (tl tl' : List Tup2) s', (∀ x ∈ tl', x ∈ tl) → tl'.map (fun x => (x.2.1, x.2.2.2)) = wl b0 b1 b2 x0 x1 x2 → St base os₀ ((r, lstA [.int 4 t, .ref p, .ref x]) :: (x, lstA (tl'.map fun x => .ref x.1)) :: (tupLed tl ++ ((p, tupA [v]) :: led' r))) s' → Q (.ref r) s') : wpAny (model prog w) A (call (.ref l) [v] (wl b0 b1 b2 x0 x1 x2)) Q E s := by
  obtain ⟨o₀, hsys⟩ := G.gr.sys
  refine lam_in G (by omega) (by decide) H hl hc (bind4 (wl_nodup ..) (Nat.le_trans (wl_len ..) (by decide)) H fun d p s₁ H₁ => ⟨_, H₁, ?_, fun L s₂ H₂ E' => ?_⟩)
  · intro x hx
    simp only [List.mem_cons, List.not_mem_nil, or_false] at hx
    rcases hx with rfl | rfl <;> rfl
  obtain ⟨o, ho, hd⟩ := G.dn.obj
  refine wpAny_Call_ofName (nm_g H₂ G.gr.g G.hn (callWith_fn (evalArgs_plain (spliced_cons (nm_f H₂ rfl (.tail _ (.tail _ (.tail _ hcell))) (spliced_cons (List_ (wpAny_items_cons (c_int H₂ fun t s₃ H₃ => wpAny_items_cons (nm_l H₃ (.head _) rfl (wpAny_items_cons (wpAny_Call_ofName (nm_b H₃ G.gr.g G.gr.b G.n3 G.b3 (callWith_builtin rfl (evalArgs_plain (spliced_cons (wpAny_Call_method0_late rfl rfl (nm_l H₃ (.head _) rfl (d_items H₃ hsys (.tail _ (.head _)) fun i s₄ H₄ => spliced_nil ?_)))))))))))))))))))
  refine sorted_wl hh H₄ (.head _) (.tail _ (.tail _ (.head _))) fun D tl tl' s₅ hsub hout H₅ => wpAny_items_nil (new_list H₅ fun r s₆ H₆ => spliced_nil ⟨⟨o, nd, H₆.keep _ _ ho, hd⟩, ?_⟩)
  refine noted_ok G (by show A.depth + 1 < _; omega) hcs H₆ (.tail (.tail (Up.app (.tail (.tail (.tail (.tail (U r))))) (tupLed tl)))) fun s₇ H₇ => h r D p t tl tl' s₇ hsub hout (H₇.sub (.cons_cons _ (.cons_cons _ (List.Sublist.append (.refl _) (.cons _ (.cons _ (.cons _ (.refl _))))))))
/-- which further words a lambda takes -/
def lamTakes (k : Nat) (b0 b1 b2 : Bool) : Bool := match k with
  | 0 => !b0 && !b1 && !b2
  | 1 => !b1 && !b2
  | 2 => !b2
  | 3 => !b0 && b1 && !b2
  | _ => true
theorem sims0 : kwSim [kI] false ([kI].zip [v]) [] (wl b0 b1 b2 x0 x1 x2) = none ∨ lamTakes 0 b0 b1 b2 = true := by
  cases b0 <;> cases b1 <;> cases b2 <;> first | exact .inr rfl | exact .inl rfl
theorem sims1 : kwSim [kI, kA] false ([kI, kA].zip [v]) [] (wl b0 b1 b2 x0 x1 x2) = none ∨ lamTakes 1 b0 b1 b2 = true := by
  cases b0 <;> cases b1 <;> cases b2 <;> first | exact .inr rfl | exact .inl rfl
theorem sims2 : kwSim [kI] true ([kI].zip [v]) [] (wl b0 b1 b2 x0 x1 x2) = none ∨ lamTakes 2 b0 b1 b2 = true := by
  cases b0 <;> cases b1 <;> cases b2 <;> first | exact .inr rfl | exact .inl rfl
theorem sims3 : kwSim [kA, kB] false ([kA, kB].zip [v]) [] (wl b0 b1 b2 x0 x1 x2) = none ∨ lamTakes 3 b0 b1 b2 = true ∨ (b0 = false ∧ b1 = false ∧ b2 = false) := by
  cases b0 <;> cases b1 <;> cases b2 <;> first | exact .inr (.inl rfl) | exact .inl rfl | exact .inr (.inr ⟨rfl, rfl, rfl⟩)
end
end Mine

namespace Mine
open PySem PySem.W PyProof.Rows PySem.Calls PySem.Spec
theorem wk_ok (b0 b1 b2 : Bool) : ∀ k ∈ wk b0 b1 b2, k.toString.length ≤ 100 ∧ k.cps.any (fun c => 0xD800 ≤ c && c ≤ 0xDFFF) = false := by
  have : ∀ k ∈ [kA, kB, kI], k.toString.length ≤ 100 ∧ k.cps.any (fun c => 0xD800 ≤ c && c ≤ 0xDFFF) = false := by decide +kernel
  intro k hk
  refine this k ?_
  revert hk
  cases b0 <;> cases b1 <;> cases b2 <;> simp [wk] <;> (intro h; first | (rcases h with rfl | rfl | rfl <;> simp) | (rcases h with rfl | rfl <;> simp) | (subst h; simp) | skip)
section
variable {prog : Program} {w : World} {A : Around} {E : Value → Shared → Prop} {s : Shared} {base : Heap} {os₀ : OsState} {led : Led} {mg mb : Str → Option Value} {fG fT fN u : Addr} {gd td nd : FuncData} {v : Value} {kws : List (Str × Value)} {cl l cS c' tD : Addr} {cs : List Value} {qual : Str} {pm dV lv x : Value} {ctv : Value × Value}
  {b0 b1 b2 : Bool} {x0 x1 x2 : Value} {α : Type}
theorem bind3_missing {fd : FuncData} {Q : List (Str × Value) → Shared → Prop} (e1 : fd.params.posonlyargs = []) (e2 : fd.params.args.map (·.arg) = [kA, kB]) (e3 : fd.params.kwonlyargs = []) (e4 : fd.params.vararg = none) (e5 : fd.params.kwarg = none) (hdf : fd.defaults = .none)
    (hh : A.handled = none) (hq : fd.qualname.toString.length ≤ 1000) (H : St base os₀ led s) (h : ∀ e s', St base os₀ ((e, ex0 "TypeError") :: led) s' → E (.ref e) s') :
    wpC (model prog w) A (bindArgs fd ⟨[v], []⟩) Q E s := by
  unfold bindArgs
  simp only [e1, e2, e3, e4, e5, hdf, List.map_nil, List.nil_append, List.append_nil, List.forIn_nil]
  have e0 : seqItems? Value.none = pure none := rfl
  simp only [e0, pure_bind]
  have hmiss : ([kA, kB].filter fun n => (([kA, kB].zip [v] : List (Str × Value)).lookup n).isNone) = [kB] := rfl
  simp only [Option.getD_none, List.drop_nil, List.length_nil, List.length_cons, Nat.sub_zero, List.take_succ_cons, List.take_nil, hmiss, Bool.false_and, Bool.false_eq_true, if_false, List.isEmpty_cons, Bool.not_false, if_true, show decide (0 + 1 > 0 + 1 + 1) = false from rfl]
  have h7 : ∀ (x y z : String), x.length ≤ 100 → y.length ≤ 100 → z.length ≤ 100 → (toString fd.qualname.toString ++ toString "() missing " ++ x ++ toString " required positional " ++ y ++ toString ": " ++ z).length ≤ 10000 := fun x y z hx hy hz => by
    have f1 : "() missing ".length ≤ 100 := by decide
    have f2 : " required positional ".length ≤ 100 := by decide
    have f3 : ": ".length ≤ 100 := by decide
    simp only [String.length_append, toString]
    omega
  refine wpC_first (wpAny_rule ?_)
  refine wpC_bind ?_
  refine refuses_C hh H ?_ h
  exact h7 _ _ _ (by decide +kernel) (by decide +kernel) (by decide +kernel)
theorem lam_refuses {k : Nat} {Q : Value → Shared → Prop} (hh : A.handled = none) (hk : k < 4) (ht : lamTakes k b0 b1 b2 = false) (hdv : k ≠ 1 → dV = .none) (hq : qual.toString.length ≤ 1000) (H : St base os₀ led s) (hl : (l, objA (lamOb k qual cS pm c' ctv dV)) ∈ led) (hc : (c', codeA qual) ∈ led)
    (h : ∀ e s', St base os₀ ((e, ex0 "TypeError") :: led) s' → E (.ref e) s') : wpC (model prog w) A (call (.ref l) [v] (wl b0 b1 b2 x0 x1 x2)) Q E s := by
  obtain ⟨o, ho, rfl⟩ := H.get hl
  obtain ⟨oc, hoc, cvs, ct, hcd, hcv⟩ := H.get hc
  have hkl : ∀ k ∈ (wl b0 b1 b2 x0 x1 x2).map (·.1), k.toString.length ≤ 100 ∧ k.cps.any (fun c => 0xD800 ≤ c && c ≤ 0xDFFF) = false := by rw [wl_map]; exact wk_ok b0 b1 b2
  have go : ∀ (normal : List Str), (lamPar (lamE k)).posonlyargs = [] → (lamPar (lamE k)).args.map (·.arg) = normal → (lamPar (lamE k)).kwonlyargs = [] → kwSim normal (lamPar (lamE k)).kwarg.isSome (normal.zip [v]) [] (wl b0 b1 b2 x0 x1 x2) = none →
      (∀ k ∈ normal, k.toString.length ≤ 100 ∧ k.cps.any (fun c => 0xD800 ≤ c && c ≤ 0xDFFF) = false) → wpC (model prog w) A (call (.ref l) [v] (wl b0 b1 b2 x0 x1 x2)) Q E s := fun normal p1 p2 p3 hs hnl =>
    call_refused (args := ⟨[v], wl b0 b1 b2 x0 x1 x2⟩) ho rfl ⟨c', oc, cvs, ct, rfl, hoc, hcd, hcv⟩ (bind_refused (A := A.in1) (normal := normal) hh p1 p2 p3 hs hq hkl hnl H h)
  have miss : wl b0 b1 b2 x0 x1 x2 = [] → (lamPar (lamE k)).posonlyargs = [] → (lamPar (lamE k)).args.map (·.arg) = [kA, kB] → (lamPar (lamE k)).kwonlyargs = [] → (lamPar (lamE k)).vararg = none → (lamPar (lamE k)).kwarg = none → dV = .none →
      wpC (model prog w) A (call (.ref l) [v] (wl b0 b1 b2 x0 x1 x2)) Q E s := fun e p1 p2 p3 p4 p5 p6 => by
    rw [e]
    exact call_refused (args := ⟨[v], []⟩) ho rfl ⟨c', oc, cvs, ct, rfl, hoc, hcd, hcv⟩ (bind3_missing (A := A.in1) (fd := lamFd k qual cS pm c' ctv dV) p1 p2 p3 p4 p5 p6 hh hq H h)
  rcases (by omega : k = 0 ∨ k = 1 ∨ k = 2 ∨ k = 3) with rfl | rfl | rfl | rfl
  · exact go [kI] rfl rfl rfl (sims0.resolve_right (by rw [ht]; simp)) (by decide +kernel)
  · exact go [kI, kA] rfl rfl rfl (sims1.resolve_right (by rw [ht]; simp)) (by decide +kernel)
  · exact go [kI] rfl rfl rfl (sims2.resolve_right (by rw [ht]; simp)) (by decide +kernel)
  · rcases sims3 (v := v) (b0 := b0) (b1 := b1) (b2 := b2) (x0 := x0) (x1 := x1) (x2 := x2) with hs | hs | ⟨rfl, rfl, rfl⟩
    · exact go [kA, kB] rfl rfl rfl hs (by decide +kernel)
    · rw [ht] at hs; cases hs
    · obtain rfl := hdv (by decide)
      exact miss rfl rfl rfl rfl rfl rfl rfl
end
end Mine

namespace Mine
open PySem PySem.W PyProof.Rows PySem.Calls PySem.Spec
/-- what a lambda notes: the second thing, the third one's items, and what stands behind them -/
inductive Rec (v : Value) (b0 b1 b2 : Bool) (x0 x1 x2 lv : Value) : Nat → Value → List Value → Led → Prop
  | r0 : Rec v b0 b1 b2 x0 x1 x2 lv 0 v [] []
  | r1 : Rec v b0 b1 b2 x0 x1 x2 lv 1 v [if b0 then x0 else lv] []
  | r2 (tl tl' : List Tup2) : (∀ x ∈ tl', x ∈ tl) → tl'.map (fun x => (x.2.1, x.2.2.2)) = wl b0 b1 b2 x0 x1 x2 → Rec v b0 b1 b2 x0 x1 x2 lv 2 v (tl'.map fun x => .ref x.1) (tupLed tl)
  | r3 : Rec v b0 b1 b2 x0 x1 x2 lv 3 v [x1] []
  | r4 (p : Addr) (tl tl' : List Tup2) : (∀ x ∈ tl', x ∈ tl) → tl'.map (fun x => (x.2.1, x.2.2.2)) = wl b0 b1 b2 x0 x1 x2 → Rec v b0 b1 b2 x0 x1 x2 lv 4 (.ref p) (tl'.map fun x => .ref x.1) (tupLed tl ++ [(p, tupA [v])])
section
variable {prog : Program} {w : World} {A : Around} {E : Value → Shared → Prop} {s : Shared} {base : Heap} {os₀ : OsState} {led : Led} {mg mb : Str → Option Value} {fG fT fN u : Addr} {gd td nd : FuncData} {v : Value} {kws : List (Str × Value)} {cl l cS c' tD : Addr} {cs : List Value} {qual : Str} {pm dV lv x : Value} {ctv : Value × Value}
  {b0 b1 b2 : Bool} {x0 x1 x2 : Value}
theorem lam_takes {k : Nat} {led' : Addr → Led} {Q : Value → Shared → Prop} (G : G11 base mg mb fG fT fN u gd td nd) (hh : A.handled = none) (hroom : A.depth + 1 < recursionLimit) (hcs : cs.length ≤ 1000) (hk : k < 5) (ht : lamTakes k b0 b1 b2 = true) (H : St base os₀ led s)
    (hl : (l, objA (lamOb k qual cS pm c' ctv dV)) ∈ led) (hc : (c', codeA qual) ∈ led) (hdv : k ≠ 1 → dV = .none) (hD : k = 1 → ∃ tD, dV = .ref tD ∧ (tD, tupA [lv]) ∈ led)
    (hcell : (cS, celA (some (.ref cl))) ∈ led) (U : ∀ r, Up cl (lstA cs) (lstA (cs ++ [.ref r])) led (led' r))
    (h : ∀ r x t vv X xl s', Rec v b0 b1 b2 x0 x1 x2 lv k vv X xl → St base os₀ ((r, lstA [.int k t, vv, .ref x]) :: (x, lstA X) :: (xl ++ led' r)) s' → Q (.ref r) s') : wpAny (model prog w) A (call (.ref l) [v] (wl b0 b1 b2 x0 x1 x2)) Q E s := by
  rcases (by omega : k = 0 ∨ k = 1 ∨ k = 2 ∨ k = 3 ∨ k = 4) with rfl | rfl | rfl | rfl | rfl
  · obtain rfl := hdv (by decide)
    have e : b0 = false ∧ b1 = false ∧ b2 = false := by revert ht; cases b0 <;> cases b1 <;> cases b2 <;> decide
    obtain ⟨rfl, rfl, rfl⟩ := e
    exact lam0 G hroom hcs H hl hc hcell U fun r x t s' H' => h r x t v [] [] s' .r0 H'
  · obtain ⟨tD, rfl, hD'⟩ := hD rfl
    have e : b1 = false ∧ b2 = false := by revert ht; cases b0 <;> cases b1 <;> cases b2 <;> decide
    obtain ⟨rfl, rfl⟩ := e
    exact lam1 G hroom hcs H hl hc hD' hcell U fun r x t s' H' => h r x t v _ [] s' .r1 H'
  · obtain rfl := hdv (by decide)
    have e : b2 = false := by revert ht; cases b0 <;> cases b1 <;> cases b2 <;> decide
    subst e
    exact lam2 G hh hroom hcs H hl hc hcell U fun r x t tl tl' s' h1 h2 H' => h r x t v _ _ s' (.r2 tl tl' h1 h2) H'
  · obtain rfl := hdv (by decide)
    have e : b0 = false ∧ b1 = true ∧ b2 = false := by revert ht; cases b0 <;> cases b1 <;> cases b2 <;> decide
    obtain ⟨rfl, rfl, rfl⟩ := e
    exact lam3 G hroom hcs H hl hc hcell U fun r x t s' H' => h r x t v _ [] s' .r3 H'
  · obtain rfl := hdv (by decide)
    refine lam4 G hh hroom hcs H hl hc hcell U fun r x p t tl tl' s' h1 h2 H' => h r x t _ _ _ s' (.r4 p tl tl' h1 h2) ?_
    rw [List.append_assoc]
    exact H'
/-- the def asked with a lambda, in either way -/
theorem ask_lam {k : Nat} {y : Way} {led' : Addr → Led} {fs : List Env} {Q : Value → Shared → Prop} (G : G11 base mg mb fG fT fN u gd td nd) (hh : A.handled = none) (hroom : A.depth + 3 < recursionLimit) (hcs : cs.length ≤ 1000) (hk : k < 5) (hq : qual.toString.length ≤ 1000) (H : St base os₀ led s) (hfr : A.frames = some fs) (hF : FramesOk led fs)
    (hl : (l, objA (lamOb k qual cS pm c' ctv dV)) ∈ led) (hc : (c', codeA qual) ∈ led) (hdv : k ≠ 1 → dV = .none) (hD : k = 1 → ∃ tD, dV = .ref tD ∧ (tD, tupA [lv]) ∈ led)
    (hcell : (cS, celA (some (.ref cl))) ∈ led) (U : ∀ r, Up cl (lstA cs) (lstA (cs ++ [.ref r])) led (led' r))
    (h1 : lamTakes k b0 b1 b2 = true → ∀ a r x t vv X xl s', Rec v b0 b1 b2 x0 x1 x2 lv k vv X xl → St base os₀ ((a, tupA [.ref r, .ref r]) :: (r, lstA [.int k t, vv, .ref x]) :: (x, lstA X) :: (xl ++ led' r)) s' → Q (.ref a) s')
    (h2 : lamTakes k b0 b1 b2 = false → ∀ e s', Fly base os₀ led e "TypeError" s' → E (.ref e) s') :
    wpC (model prog w) A (call (.ref fG) (wayPos y v (.ref l)) (wayKw y v (.ref l) (wl b0 b1 b2 x0 x1 x2))) Q E s := by
  obtain ⟨o₀, hsys⟩ := G.gr.sys
  have hsc := G.dg.scope
  have hz : (wl b0 b1 b2 x0 x1 x2).length ≤ sizeLine := Nat.le_trans (wl_len ..) (by decide)
  refine gni_enter G H (by omega) (fun k hk => ?_) (wl_nodup ..) hz fun env L d s₁ he H₁ => ?_
  · rcases wl_keys _ _ _ _ _ _ k hk with rfl | rfl | rfl <;> decide
  subst he
  refine gni_body hsc hsys hz H₁ fun d₂ s₂ H₂ => ⟨?_, ?_⟩
  · obtain ⟨o, ho, rfl⟩ := H₂.get (.tail _ (.tail _ (.tail _ hl))); exact ⟨_, _, ho, rfl⟩
  cases ht : lamTakes k b0 b1 b2 with
  | true =>
    refine wpC_any (lam_takes (lv := lv) G hh (by show A.depth + 1 + 1 < _; omega) hcs hk ht H₂ (.tail _ (.tail _ (.tail _ hl))) (.tail _ (.tail _ (.tail _ hc))) hdv (fun e => ?_) (.tail _ (.tail _ (.tail _ hcell))) (fun r => .tail (.tail (.tail (U r)))) fun r x t vv X xl s₃ hr H₃ => ?_)
    · obtain ⟨tD, e1, e2⟩ := hD e; exact ⟨tD, e1, .tail _ (.tail _ (.tail _ e2))⟩
    refine ⟨[], (r, lstA [.int k t, vv, .ref x]) :: (x, lstA X) :: (xl ++ led' r), ?_, fun a s₄ H₄ => h1 ht a r x t vv X xl s₄ hr H₄⟩
    have P : ((L, nsA (gniM v (.ref l) d)) :: (r, lstA [.int k t, vv, .ref x]) :: (x, lstA X) :: (xl ++ led' r)).Perm ((r, lstA [.int k t, vv, .ref x]) :: (x, lstA X) :: (xl ++ ((L, nsA (gniM v (.ref l) d)) :: led' r))) :=
      (List.perm_middle (l₁ := (r, lstA [.int k t, vv, .ref x]) :: (x, lstA X) :: xl)).symm
    exact (H₃.sub (.cons_cons _ (.cons_cons _ (List.Sublist.append (.refl _) (.cons _ (.cons_cons _ (.cons _ (.refl _)))))))).perm P
  | false =>
    have hk4 : k < 4 := by
      rcases Nat.lt_or_ge k 4 with q | q
      · exact q
      · have : k = 4 := by omega
        subst this; cases ht
    refine lam_refuses hh hk4 ht hdv hq H₂ (.tail _ (.tail _ (.tail _ hl))) (.tail _ (.tail _ (.tail _ hc))) fun e s₃ H₃ => ?_
    refine leave0 (L := L) H₃ (Around.frames_deeper hfr) (FramesOk.cons (hF.mono fun p hp => .tail _ (.tail _ (.tail _ hp))) (by show gd.scope.kind ≠ _; rw [hsc]; intro q; cases q) rfl (.tail _ (.head _))) (.head _) rfl fun s₄ F₄ => h2 ht e s₄ ?_
    obtain ⟨tb, F₅⟩ := F₄
    exact ⟨tb, F₅.sub (.cons_cons _ (.cons_cons _ (.cons _ (.cons _ (.cons _ (.refl _))))))⟩
end
end Mine

namespace Mine
open PySem PySem.W PyProof.Rows PySem.Calls PySem.Spec
theorem no_call_int : typeLookup (.type "int") "__call__" = pure none := by rw [typeLookup_type, builtinLookup_eq_fast]; kernel_rfl
theorem no_call_str : typeLookup (.type "str") "__call__" = pure none := by rw [typeLookup_type, builtinLookup_eq_fast]; kernel_rfl
section
variable {prog : Program} {w : World} {A : Around} {E : Value → Shared → Prop} {s : Shared} {base : Heap} {os₀ : OsState} {led : Led} {mg mb : Str → Option Value} {fG fT fN u : Addr} {gd td nd : FuncData} {v g : Value} {y : Way}
  {b0 b1 b2 : Bool} {x0 x1 x2 : Value} {fs : List Env}
theorem ask_blank {Q : Value → Shared → Prop} (G : G11 base mg mb fG fT fN u gd td nd) (hroom : A.depth + 3 < recursionLimit) (H : St base os₀ led s)
    (h : ∀ a t s', St base os₀ ((a, tupA [.ref u, .str (Str.ofString "") t]) :: led) s' → Q (.ref a) s') :
    wpC (model prog w) A (call (.ref fG) (wayPos y v .none) (wayKw y v .none (wl b0 b1 b2 x0 x1 x2))) Q E s := by
  refine gni_enter G H (by omega) (fun k hk => ?_) (wl_nodup ..) (Nat.le_trans (wl_len ..) (by decide)) fun env L d s₁ he H₁ => ?_
  · rcases wl_keys _ _ _ _ _ _ k hk with rfl | rfl | rfl <;> decide
  subst he
  exact wpC_any (gni_blank G.dg.scope G.dg.glob G.dg.bi G.gr.g G.hu H₁ h)
/-- the def asked with what is no lookup -/
theorem ask_bad {T : String} {n : Int} {x : Str} {t : Tok} {Q : Value → Shared → Prop} (G : G11 base mg mb fG fT fN u gd td nd) (hh : A.handled = none) (hroom : A.depth + 3 < recursionLimit) (H : St base os₀ led s) (hfr : A.frames = some fs) (hF : FramesOk led fs)
    (hv : g = .int n t ∨ g = .str x t) (hT : ∀ s' : Shared, s'.TypeIs g T) (hl : typeLookup (.type T) "__call__" = pure none) (hn : (Value.type T == Value.type "builtin_function_or_method") = false) (hz' : (shownName T).length ≤ 1000)
    (h : ∀ e s', Fly base os₀ led e "TypeError" s' → E (.ref e) s') :
    wpC (model prog w) A (call (.ref fG) (wayPos y v g) (wayKw y v g (wl b0 b1 b2 x0 x1 x2))) Q E s := by
  obtain ⟨o₀, hsys⟩ := G.gr.sys
  have hsc := G.dg.scope
  have hz : (wl b0 b1 b2 x0 x1 x2).length ≤ sizeLine := Nat.le_trans (wl_len ..) (by decide)
  refine gni_enter G H (by omega) (fun k hk => ?_) (wl_nodup ..) hz fun env L d s₁ he H₁ => ?_
  · rcases wl_keys _ _ _ _ _ _ k hk with rfl | rfl | rfl <;> decide
  subst he
  have hF₁ : ∀ (d₂ : Addr), FramesOk ((d₂, dctA (strKind prog w) (wl b0 b1 b2 x0 x1 x2)) :: (L, nsA (gniM v g d)) :: (d, dctA (strKind prog w) (wl b0 b1 b2 x0 x1 x2)) :: led) (callEnv gd L fG :: fs) :=
    fun d₂ => FramesOk.cons (hF.mono fun p hp => .tail _ (.tail _ (.tail _ hp))) (by show gd.scope.kind ≠ _; rw [hsc]; intro q; cases q) rfl (.tail _ (.head _))
  have fin : ∀ d₂ e s₃, St base os₀ ((e, ex0 "TypeError") :: (d₂, dctA (strKind prog w) (wl b0 b1 b2 x0 x1 x2)) :: (L, nsA (gniM v g d)) :: (d, dctA (strKind prog w) (wl b0 b1 b2 x0 x1 x2)) :: led) s₃ →
      wpAny (model prog w) (A.deeper (callEnv gd L fG)) (leaving (callEnv gd L fG) (.ref e)) (fun _ s'' => E (.ref e) s'') (fun e' s'' => E e' s'') s₃ := fun d₂ e s₃ H₃ => by
    refine leave0 (L := L) H₃ (Around.frames_deeper hfr) (hF₁ d₂) (.head _) rfl fun s₄ F₄ => h e s₄ ?_
    obtain ⟨tb, F₅⟩ := F₄
    exact ⟨tb, F₅.sub (.cons_cons _ (.cons_cons _ (.cons _ (.cons _ (.cons _ (.refl _))))))⟩
  clear hF₁
  obtain ⟨fname, fqual, fpar, fbody, fscope, fglob, fclo, fdef, fkwd, fdoc, fmod, fann, fcode, fct, fbui⟩ := gd
  simp only at hsc
  subst hsc
  have hnn : (!(g == Value.none)) = true := by rcases hv with rfl | rfl <;> rfl
  refine wpC_any (wpAny_execs_cons (wpAny_If (wpAny_isTrue_Compare1 (nm_l H₁ (.head _) rfl (wpAny_Constant_none (isNot_none (wpAny_truthy_bool (ite_pos (by rcases hv with rfl | rfl <;> simp) ?_))))))))
  refine wpAny_execs_cons (wpAny_Assign_Name (wpAny_Call_ofName (nm_l H₁ (.head _) rfl (callWith_none (base := base) (os₀ := os₀) hh hv hT hl hn hz' rfl (evalArgs_star rfl (spliced_cons (nm_l H₁ (.head _) rfl (spliced_nil (merged1 H₁ hsys ?_ (.tail _ (.head _)) hz fun d₂ s₃ H₃ => kwIn H₃ (.head _) ⟨_, H₃, fun e s₄ H₄ => fin d₂ e s₄ H₄⟩)))))))))
  exact fun d' s' H' => wpAny_bind (nm_l H' (.tail _ (.head _)) rfl (wpAny_bind (wpAny_standAt (wpAny_pure ⟨rfl, rfl⟩))))
end
end Mine

namespace Mine
open PySem PySem.W PyProof.Rows PySem.Calls PySem.Spec
def wl5 (b0 b1 b2 b3 b4 : Bool) (x0 x1 x2 x3 x4 : Value) : List (Str × Value) := wl b0 b1 b2 x0 x1 x2 ++ ((if b3 then [(kGN, x3)] else []) ++ (if b4 then [(kNI, x4)] else []))
def takesF (k : Nat) (b0 b1 b2 b3 b4 : Bool) : Bool := if b4 || b3 then false else if k = 5 then true else if 5 < k then false else lamTakes k b0 b1 b2
theorem wl5_ff {b0 b1 b2 : Bool} {x0 x1 x2 x3 x4 : Value} : wl5 b0 b1 b2 false false x0 x1 x2 x3 x4 = wl b0 b1 b2 x0 x1 x2 := by simp [wl5]
theorem wl5_ni {b0 b1 b2 b3 b4 : Bool} {x0 x1 x2 x3 x4 : Value} : (valueAt (wl5 b0 b1 b2 b3 b4 x0 x1 x2 x3 x4) (Str.ofString "name_index")).isSome = b4 := by
  cases b0 <;> cases b1 <;> cases b2 <;> cases b3 <;> cases b4 <;> rfl
theorem wl5_gn {b0 b1 b2 b3 b4 : Bool} {x0 x1 x2 x3 x4 : Value} : (valueAt (wl5 b0 b1 b2 b3 b4 x0 x1 x2 x3 x4) (Str.ofString "get_name")).isSome = b3 := by
  cases b0 <;> cases b1 <;> cases b2 <;> cases b3 <;> cases b4 <;> rfl
theorem wl_i {b0 b1 b2 : Bool} {x0 x1 x2 : Value} : (valueAt (wl b0 b1 b2 x0 x1 x2) (Str.ofString "index")).isSome = b2 := by
  cases b0 <;> cases b1 <;> cases b2 <;> rfl
/-- values that are texts -/
def StrsAre (vs : List Value) (ks : List Str) : Prop := vs.length = ks.length ∧ ∀ (i : Nat) (k : Str), ks[i]? = some k → ∃ t, vs[i]? = some (Value.str k t)
theorem StrsAre.snoc {vs : List Value} {ks : List Str} (h : StrsAre vs ks) (k : Str) (t : Tok) : StrsAre (vs ++ [.str k t]) (ks ++ [k]) := by
  refine ⟨by simp [h.1], fun i k' e => ?_⟩
  by_cases hi : i < ks.length
  · rw [List.getElem?_append_left hi] at e
    rw [List.getElem?_append_left (by rw [h.1]; exact hi)]
    exact h.2 i k' e
  · rw [List.getElem?_append_right (by omega)] at e
    rw [List.getElem?_append_right (by rw [h.1]; omega), h.1]
    have : i - ks.length = 0 := by
      rcases Nat.eq_zero_or_pos (i - ks.length) with q | q
      · exact q
      · rw [List.getElem?_eq_none (by simp; omega)] at e; cases e
    rw [this] at e ⊢
    simp at e; subst e
    exact ⟨t, rfl⟩
section
variable {prog : Program} {w : World} {A : Around} {E : Value → Shared → Prop} {s : Shared} {base : Heap} {os₀ : OsState} {led : Led} {mg mb : Str → Option Value} {fG fT fN u d I l b : Addr} {gd td nd : FuncData} {kvs : List (Str × Value)} {ep k : Nat} {t : Tok} {ks js : List Str} {vs us : List Value}
  {b0 b1 b2 b3 b4 : Bool} {x0 x1 x2 x3 x4 : Value}
theorem Iter.keysS (hh : A.handled = none) : Iter prog w A base os₀ I kvs.length (fun i v => ∃ k x t, kvs[i]? = some (k, x) ∧ v = .str k t) (keyA d kvs.length ep) [(d, dctE (strKind prog w) kvs ep)] where
  item := fun i led s Q E hi H h => by
    obtain ⟨oi, hoi, hic, hid⟩ := H.get (.head _)
    refine wpAny_pyNext_dict_item (knd := strKind prog w) (k := kvs[i].1) (v := kvs[i].2) ⟨oi, hoi, hic, hid⟩ (H.dictAt (.tail _ (.head _))) (List.getElem?_eq_getElem hi) fun key h' hk hit' hs' => ?_
    obtain ⟨t, rfl⟩ := Value.isStrOf_shape hk
    refine h _ _ ⟨kvs[i].1, kvs[i].2, t, List.getElem?_eq_getElem hi, rfl⟩ ?_
    obtain ⟨oi', hoi', r'⟩ := hit'
    exact H.upd (tk := s.toks) .head hs'.extBut ⟨oi', hoi', r'⟩
  done := fun led s Q E H h => by
    obtain ⟨oi, hoi, hic, hid⟩ := H.get (.head _)
    exact wpAny_pyNext_dict_end (knd := strKind prog w) hh ⟨oi, hoi, hic, hid⟩ (H.dictAt (.tail _ (.head _))) (List.getElem?_eq_none (Nat.le_refl _)) fun h' he' => h _ (H.gone (tk := s.toks) he')
  self := fun led s Q E H h => by
    obtain ⟨oi, hoi, hic, hid⟩ := H.get (.head _)
    exact wpAny_pyIter_keyiter ⟨oi, hoi, hic, hid⟩ h
/-- == of lists of texts -/
theorem eq_strs {Q : Value → Shared → Prop} (hv : StrsAre vs ks) (hu : StrsAre us js) (hun : A.units < cLine) (H : St base os₀ led s) (hl : (l, lstA vs) ∈ led) (hb : (b, lstA us) ∈ led) (h : Q (.bool (decide (ks = js))) s) :
    wpAny (model prog w) A (compareOp .Eq (.ref l) (.ref b)) Q E s := by
  by_cases hlen : ks.length = js.length
  · have hv1 := hv.1
    have hu1 := hu.1
    refine SeqAt.eq_listAt (e := fun j => (ks[j]? == js[j]?)) (H.isList hl) (H.isList hb) (by simp; omega) hun (fun j h1 h2 => ?_) ?_
    · have hj : j < ks.length := by simp at h1; omega
      have hj' : j < js.length := by omega
      obtain ⟨t1, e1⟩ := hv.2 j _ (List.getElem?_eq_getElem hj)
      obtain ⟨t2, e2⟩ := hu.2 j _ (List.getElem?_eq_getElem hj')
      have g1 : vs.toArray[j] = .str ks[j] t1 := by
        have := e1; rw [List.getElem?_eq_getElem (by omega)] at this; simpa using this
      have g2 : us.toArray[j] = .str js[j] t2 := by
        have := e2; rw [List.getElem?_eq_getElem (by omega)] at this; simpa using this
      rw [g1, g2, List.getElem?_eq_getElem hj, List.getElem?_eq_getElem hj']
      have := SeqAt.EqAt.str_str (A := A.in1) (s := s) ks[j] t1 js[j] t2
      simpa using this
    · have : (List.range vs.toArray.size).all (fun j => (ks[j]? == js[j]?)) = decide (ks = js) := by
        rw [Bool.eq_iff_iff, List.all_eq_true, decide_eq_true_iff]
        constructor
        · intro q
          apply List.ext_getElem? 
          intro i
          by_cases hi : i < ks.length
          · exact eq_of_beq (q i (by simp; omega))
          · rw [List.getElem?_eq_none (by omega), List.getElem?_eq_none (by omega)]
        · rintro rfl i _; simp
      rw [this]; exact h
  · have hne : decide (ks = js) = false := decide_eq_false fun q => hlen (by rw [q])
    rw [hne] at h
    exact SeqAt.eq_list_lengthsAt (H.isList hl) (H.isList hb) (by have := hv.1; have := hu.1; simp; omega) hun h
end
end Mine

namespace Mine
open PySem PySem.W PyProof.Rows PySem.Calls PySem.Spec
abbrev takesEnv (fname fqual : Str) (fkwd fdoc fmod : Value) (fann : Option Addr) (fcode fct : Value) (L fF : Addr) : Env :=
  callEnv { name := fname, qualname := fqual, params := fnPar takesStmt, body := .stmts (fnBody takesStmt), scope := fnScope takesStmt, globals := mainGlobals, closure := [], defaults := .none, kwdefaults := fkwd, doc := fdoc, pyModule := fmod, annotations := fann, code := fcode, closureTuple := fct, builtins := builtinsNs } L fF
section
variable {prog : Program} {w : World} {A : Around} {E : Value → Shared → Prop} {s : Shared} {base : Heap} {os₀ : OsState} {led : Led} {mg mb : Str → Option Value} {fG fT fN u d I l b L : Addr} {gd td nd : FuncData} {kvs : List (Str × Value)} {ep k : Nat} {t : Tok} {ks js : List Str} {vs us : List Value} {m : Str → Option Value}
  {b0 b1 b2 b3 b4 : Bool} {x0 x1 x2 x3 x4 : Value} {fname fqual : Str} {fkwd fdoc fmod : Value} {fann : Option Addr} {fcode fct : Value} {o₀ : Obj}
theorem str_ne {x y : Str} {t u : Tok} {Q : Value → Shared → Prop} (h : Q (.bool (!(x == y))) s) : wpAny (model prog w) A (compareOp .NotEq (.str x t) (.str y u)) Q E s := SeqAt.RcNeAt.str_str x t y u prog w E Q h
/-- the rows of _law_takes behind the first -/
theorem takes_tail {Q : Flow → Shared → Prop} (hsys : base.get? sysModules = some o₀) (hh : A.handled = none) (hu : A.units < cLine) (hk : k < 8) (hm : m (Str.ofString "kind") = some (.int (k : Nat) t)) (hw : m (Str.ofString "words") = some (.ref d))
    (H : St base os₀ ((L, nsA m) :: (d, dctA (strKind prog w) (wl b0 b1 b2 x0 x1 x2)) :: led) s)
    (h : ∀ s', St base os₀ ((d, dctA (strKind prog w) (wl b0 b1 b2 x0 x1 x2)) :: led) s' → Q (.ret (.bool (takesF k b0 b1 b2 false false))) s') :
    wpAny (model prog w) A (execs ((fnBody takesStmt).drop 1) (takesEnv fname fqual fkwd fdoc fmod fann fcode fct L fT)) Q E s := by
  have hlen := wl_len b0 b1 b2 x0 x1 x2
  refine wpAny_execs_cons (wpAny_If (wpAny_isTrue_Compare1 (nm_l H (.head _) hm (c_int H fun t1 s₁ H₁ => PyProof.Rows.eq_int (wpAny_truthy_bool ?_)))))
  by_cases h5 : k = 5
  · refine ite_pos (by subst h5; decide) (wpAny_execs_cons (wpAny_Return_some (wpAny_Constant_bool ?_)))
    have := h s₁ (H₁.sub (.cons _ (.refl _)))
    rw [show takesF k b0 b1 b2 false false = true from by simp [takesF, h5]] at this
    exact this
  refine ite_neg (by simp; omega) (wpAny_execs_nil ?_)
  refine wpAny_execs_cons (wpAny_If (wpAny_isTrue_Compare1 (nm_l H₁ (.head _) hm (c_int H₁ fun t2 s₂ H₂ => PyProof.Rows.gt_int (wpAny_truthy_bool ?_)))))
  by_cases h6 : 5 < k
  · refine ite_pos (by simp; omega) (wpAny_execs_cons (wpAny_Return_some (wpAny_Constant_bool ?_)))
    have := h s₂ (H₂.sub (.cons _ (.refl _)))
    rw [show takesF k b0 b1 b2 false false = false from by simp [takesF, h5, h6]] at this
    exact this
  refine ite_neg (by simp; omega) (wpAny_execs_nil ?_)
  have hT : takesF k b0 b1 b2 false false = lamTakes k b0 b1 b2 := by simp [takesF, h5, h6]
  rw [hT] at h
  refine wpAny_execs_cons (wpAny_If (wpAny_isTrue_Compare1 (nm_l H₂ (.head _) hm (c_int H₂ fun t3 s₃ H₃ => PyProof.Rows.eq_int (wpAny_truthy_bool ?_)))))
  by_cases h0 : k = 0
  · subst h0
    refine ite_pos (by decide) (wpAny_execs_cons (wpAny_Return_some (wpAny_Compare1 (nm_l H₃ (.head _) hw (new_dict H₃ fun e s₄ H₄ => ?_)))))
    refine keq_eq (r := true) (knd := strKind prog w) (H₄.notSys (.tail _ (.tail _ (.head _))) hsys) (H₄.notSys (.head _) hsys) (H₄.isDict (.tail _ (.tail _ (.head _)))) (H₄.isDict (.head _)) hu (fun q => ?_) ?_
    · have : wl b0 b1 b2 x0 x1 x2 = [] := List.eq_nil_of_length_eq_zero q
      rw [this]; exact .nil
    · have e : ((wl b0 b1 b2 x0 x1 x2).length == ([] : List (Str × Value)).length && true) = lamTakes 0 b0 b1 b2 := by cases b0 <;> cases b1 <;> cases b2 <;> rfl
      rw [e]
      exact h s₄ (H₄.sub (.cons _ (.cons _ (.refl _))))
  refine ite_neg (by simp; omega) (wpAny_execs_nil ?_)
  refine wpAny_execs_cons (wpAny_If (wpAny_isTrue_Compare1 (nm_l H₃ (.head _) hm (c_int H₃ fun t4 s₄ H₄ => PyProof.Rows.eq_int (wpAny_truthy_bool ?_)))))
  by_cases hk1 : k = 1
  · subst hk1
    refine ite_pos (by decide) (wpAny_execs_cons (wpAny_Return_some (wpAny_Compare1 (comp_expr (base := base) (os₀ := os₀) (cl := []) (V := fun C => varL C (Str.ofString "word")) (mk := fun C => compEnvC _ [] C _) rfl (env_loc (by decide) rfl) (fun C => Var.loc rfl rfl) ?_ rfl (by decide)))))
    have H₅ : St base os₀ ((d, dctA (strKind prog w) (wl b0 b1 b2 x0 x1 x2)) :: (L, nsA m) :: led) s₄ := H₄.perm (.swap ..)
    obtain ⟨ep, H₆⟩ := H₅.seeEp
    have hns : (d == sysModules) = false := H₆.notSys (a := d) (P := dctE (strKind prog w) (wl b0 b1 b2 x0 x1 x2) ep) (.head _) hsys
    refine nm_l H₆ (.tail _ (.head _)) hw (wpAny_pyIter_dict (knd := strKind prog w) (kvs := wl b0 b1 b2 x0 x1 x2) (ep := ep) hns (H₆.dictAt (.head _)) ?_)
    refine ⟨_, (wl b0 b1 b2 x0 x1 x2).length, _, keyA d (wl b0 b1 b2 x0 x1 x2).length ep, [(d, dctE (strKind prog w) (wl b0 b1 b2 x0 x1 x2) ep)], (L, nsA m) :: led,
      fun i ys led' => StrsAre ys ((((wl b0 b1 b2 x0 x1 x2).take i).map (·.1)).filter (· != kA)) ∧ led' = (L, nsA m) :: led, rfl, Iter.keysS hh, Nat.le_trans hlen (by decide), H₆.push (tk := s₄.toks) rfl ⟨rfl, rfl⟩, ⟨⟨rfl, fun i q e => by simp at e⟩, rfl⟩, ?_, ?_⟩
    · rintro C D i v ys vl led' s₅ E' hi ⟨q, x, t', hkv, rfl⟩ ⟨hys, rfl⟩ ⟨mC, rfl, hmC⟩ H₇
      have hkk := hmC _ rfl
      have hsucc : (((wl b0 b1 b2 x0 x1 x2).take (i + 1)).map (·.1)).filter (· != kA) = ((((wl b0 b1 b2 x0 x1 x2).take i).map (·.1)).filter (· != kA)) ++ (if q != kA then [q] else []) := by
        rw [List.take_add_one, hkv, List.map_append, List.filter_append]
        congr 1
        by_cases e : (q != kA) = true
        · simp [e]
        · simp [e]
      refine wpAny_tests_one (wpAny_isTrue_Compare1 (nm_l H₇ (.head _) hkk (c_str H₇ fun t5 s₆ H₈ => str_ne (wpAny_truthy_bool ?_))))
      by_cases e : (q != kA) = true
      · refine ite_pos e (nm_l H₈ (.head _) hkk ⟨_, ⟨?_, rfl⟩, H₈⟩)
        rw [hsucc, if_pos e]; exact hys.snoc _ _
      · refine ite_neg e ⟨_, ⟨?_, rfl⟩, H₈⟩
        rw [hsucc, if_neg e, List.append_nil]; exact hys
    · rintro D ys led' ⟨hys, rfl⟩ hl' s₅ H₇
      rw [List.take_length] at hys
      refine List_ (wpAny_items_nil (new_list H₇ fun b s₆ H₈ => ?_))
      refine eq_strs hys (js := []) ⟨rfl, fun i q e => by simp at e⟩ hu H₈ (.tail _ (.head _)) (.head _) ?_
      have e : decide ((((wl b0 b1 b2 x0 x1 x2).map (·.1)).filter (· != kA)) = []) = lamTakes 1 b0 b1 b2 := by
        rw [wl_map]
        have : ∀ b0 b1 b2, decide (((wk b0 b1 b2).filter (· != kA)) = []) = lamTakes 1 b0 b1 b2 := by decide
        exact this _ _ _
      rw [e]
      exact h s₆ (((H₈.sub (.cons _ (.cons _ (.refl _)))).sub (.cons_cons _ (.cons _ (.refl _)))).weak dctE_A)
  refine ite_neg (by simp; omega) (wpAny_execs_nil ?_)
  refine wpAny_execs_cons (wpAny_If (wpAny_isTrue_Compare1 (nm_l H₄ (.head _) hm (c_int H₄ fun t5 s₅ H₅ => PyProof.Rows.eq_int (wpAny_truthy_bool ?_)))))
  by_cases hk2 : k = 2
  · subst hk2
    refine ite_pos (by decide) (wpAny_execs_cons (wpAny_Return_some (wpAny_Compare1 (c_str H₅ fun t6 s₆ H₆ => nm_l H₆ (.head _) hw ?_))))
    refine wpAny_notIn_of (strKind_is prog w _ _) (H₆.notSys (.tail _ (.head _)) hsys) (H₆.isDict (.tail _ (.head _))).mapOf ?_
    have e : (!(valueAt (wl b0 b1 b2 x0 x1 x2) (Str.ofString "index")).isSome) = lamTakes 2 b0 b1 b2 := by rw [wl_i]; rfl
    rw [e]
    exact h _ (H₆.tok.sub (.cons _ (.refl _)))
  refine ite_neg (by simp; omega) (wpAny_execs_nil ?_)
  refine wpAny_execs_cons (wpAny_If (wpAny_isTrue_Compare1 (nm_l H₅ (.head _) hm (c_int H₅ fun t6 s₆ H₆ => PyProof.Rows.eq_int (wpAny_truthy_bool ?_)))))
  by_cases hk3 : k = 3
  · subst hk3
    refine ite_pos (by decide) (wpAny_execs_cons (wpAny_Return_some (wpAny_Compare1 (comp_expr (base := base) (os₀ := os₀) (cl := []) (V := fun C => varL C (Str.ofString "word")) (mk := fun C => compEnvC _ [] C _) rfl (env_loc (by decide) rfl) (fun C => Var.loc rfl rfl) ?_ rfl (by decide)))))
    have H₇ : St base os₀ ((d, dctA (strKind prog w) (wl b0 b1 b2 x0 x1 x2)) :: (L, nsA m) :: led) s₆ := H₆.perm (.swap ..)
    obtain ⟨ep, H₈⟩ := H₇.seeEp
    have hns : (d == sysModules) = false := H₈.notSys (a := d) (P := dctE (strKind prog w) (wl b0 b1 b2 x0 x1 x2) ep) (.head _) hsys
    refine nm_l H₈ (.tail _ (.head _)) hw (wpAny_pyIter_dict (knd := strKind prog w) (kvs := wl b0 b1 b2 x0 x1 x2) (ep := ep) hns (H₈.dictAt (.head _)) ?_)
    refine ⟨_, (wl b0 b1 b2 x0 x1 x2).length, _, keyA d (wl b0 b1 b2 x0 x1 x2).length ep, [(d, dctE (strKind prog w) (wl b0 b1 b2 x0 x1 x2) ep)], (L, nsA m) :: led,
      fun i ys led' => StrsAre ys (((wl b0 b1 b2 x0 x1 x2).take i).map (·.1)) ∧ led' = (L, nsA m) :: led, rfl, Iter.keysS hh, Nat.le_trans hlen (by decide), H₈.push (tk := s₆.toks) rfl ⟨rfl, rfl⟩, ⟨⟨rfl, fun i q e => by simp at e⟩, rfl⟩, ?_, ?_⟩
    · rintro C D i v ys vl led' s₇ E' hi ⟨q, x, t', hkv, rfl⟩ ⟨hys, rfl⟩ ⟨mC, rfl, hmC⟩ H₉
      have hkk := hmC _ rfl
      refine wpAny_tests_nil (ite_pos rfl (nm_l H₉ (.head _) hkk ⟨_, ⟨?_, rfl⟩, H₉⟩))
      rw [List.take_add_one, hkv, List.map_append]
      exact hys.snoc _ _
    · rintro D ys led' ⟨hys, rfl⟩ hl' s₇ H₉
      rw [List.take_length] at hys
      refine List_ (wpAny_items_cons (c_str H₉ fun t7 s₈ H₁₀ => wpAny_items_nil (new_list H₁₀ fun b s₉ H₁₁ => ?_)))
      have hb : StrsAre [Value.str (Str.ofString "b") t7] [kB] := StrsAre.snoc (vs := []) (ks := []) ⟨rfl, fun i q e => by simp at e⟩ kB t7
      refine eq_strs hys hb hu H₁₁ (.tail _ (.head _)) (.head _) ?_
      have e : decide ((wl b0 b1 b2 x0 x1 x2).map (·.1) = [kB]) = lamTakes 3 b0 b1 b2 := by
        rw [wl_map]
        have : ∀ b0 b1 b2, decide (wk b0 b1 b2 = [kB]) = lamTakes 3 b0 b1 b2 := by decide
        exact this _ _ _
      rw [e]
      exact h s₉ (((H₁₁.sub (.cons _ (.cons _ (.refl _)))).sub (.cons_cons _ (.cons _ (.refl _)))).weak dctE_A)
  refine ite_neg (by simp; omega) (wpAny_execs_nil ?_)
  have hk4 : k = 4 := by omega
  subst hk4
  exact wpAny_execs_cons (wpAny_Return_some (wpAny_Constant_bool (h s₆ (H₆.sub (.cons _ (.refl _))))))
theorem takes_ok {Q : Value → Shared → Prop} (G : G11 base mg mb fG fT fN u gd td nd) (hroom : A.depth < recursionLimit) (hh : A.handled = none) (hu : A.units + 10 < cLine) (hk : k < 8)
    (H : St base os₀ ((d, dctA (strKind prog w) (wl5 b0 b1 b2 b3 b4 x0 x1 x2 x3 x4)) :: led) s)
    (h : ∀ s', St base os₀ ((d, dctA (strKind prog w) (wl5 b0 b1 b2 b3 b4 x0 x1 x2 x3 x4)) :: led) s' → Q (.bool (takesF k b0 b1 b2 b3 b4)) s') :
    wpAny (model prog w) A (call (.ref fT) [.int (k : Nat) t, .ref d] []) Q E s := by
  obtain ⟨o₀, hsys⟩ := G.gr.sys
  obtain ⟨⟨o, ho, hd⟩, hb, hp, hsc, hc, hgl, hbi, hdf, hcd⟩ := G.dt
  obtain ⟨fname, fqual, fpar, fbody, fscope, fglob, fclo, fdef, fkwd, fdoc, fmod, fann, fcode, fct, fbui⟩ := td
  simp only at hb hp hsc hc hgl hbi hdf hcd
  subst hb hp hsc hc hgl hbi hdf
  refine fn_enter (args := ⟨[.int (k : Nat) t, .ref d], []⟩) H hroom G.gr.lim (H.keep _ _ ho) hd (hcd.keeps H.keep) rfl (by show ∀ x ∈ (fnScope takesStmt).names, x.2 ≠ NameKind.cell; decide) ?_
  refine wpAny_of_eq (a := [(Str.ofString "kind", .int (k : Nat) t), (Str.ofString "words", .ref d)]) rfl ?_
  refine ⟨_, H, ?_, fun L s₁ H₁ => ?_⟩
  · intro x hx
    simp only [List.mem_cons, List.not_mem_nil, or_false] at hx
    rcases hx with rfl | rfl <;> rfl
  obtain ⟨m0, h1, h2, H₂⟩ : ∃ m0, m0 (Str.ofString "kind") = some (.int (k : Nat) t) ∧ m0 (Str.ofString "words") = some (.ref d) ∧ St base os₀ ((L, nsA m0) :: (d, dctA (strKind prog w) (wl5 b0 b1 b2 b3 b4 x0 x1 x2 x3 x4)) :: led) s₁ := ⟨_, rfl, rfl, H₁⟩
  clear H₁
  have no : b4 = true ∨ b3 = true → ∀ s', St base os₀ ((L, nsA m0) :: (d, dctA (strKind prog w) (wl5 b0 b1 b2 b3 b4 x0 x1 x2 x3 x4)) :: led) s' → Q (.bool false) s' := fun q s' H' => by
    have := h s' (H'.sub (.cons _ (.refl _)))
    rw [show takesF k b0 b1 b2 b3 b4 = false from by rcases q with rfl | rfl <;> simp [takesF]] at this
    exact this
  refine wpAny_execs_cons (wpAny_If (wpAny_isTrue_BoolOp (wpAny_allTrue_Or_cons (wpAny_isTrue_Compare1 (c_str H₂ fun t1 s₂ H₃ => nm_l H₃ (.head _) h2 (d_in H₃ hsys (.tail _ (.head _)) fun s₃ H₄ => wpAny_truthy_bool ?_))))))
  rw [wl5_ni]
  by_cases q4 : b4 = true
  · exact ite_pos q4 (ite_pos rfl (wpAny_execs_cons (wpAny_Return_some (wpAny_Constant_bool (no (.inl q4) s₃ H₄)))))
  refine ite_neg (by simpa using q4) (wpAny_allTrue_Or_cons (wpAny_isTrue_Compare1 (c_str H₄ fun t2 s₄ H₅ => nm_l H₅ (.head _) h2 (d_in H₅ hsys (.tail _ (.head _)) fun s₅ H₆ => wpAny_truthy_bool ?_))))
  rw [wl5_gn]
  by_cases q3 : b3 = true
  · exact ite_pos q3 (ite_pos rfl (wpAny_execs_cons (wpAny_Return_some (wpAny_Constant_bool (no (.inr q3) s₅ H₆)))))
  refine ite_neg (by simpa using q3) (wpAny_allTrue_Or_nil (ite_neg (by decide) (wpAny_execs_nil ?_)))
  simp only [Bool.not_eq_true] at q3 q4
  subst q3 q4
  rw [wl5_ff] at H₆ h
  exact takes_tail hsys hh (by show A.units + 3 < _; omega) hk h1 h2 H₆ fun s' H' => h s' H'
end
end Mine

namespace Mine
open PySem PySem.W PyProof.Rows PySem.Calls PySem.Spec
abbrev lawEnv11 (nam : Str) (L fA : Addr) (cd : Value) : Env := envOfC nam (fnScope lawStmt11) L fA cd
def forB11 : Stmt → List Stmt | .For _ _ b _ _ => b | _ => []
def turn11 : List Stmt := forB11 (nth 2 (fnBody lawStmt11))
def tryB11 : Stmt → List Stmt | .Try b _ _ _ _ => b | _ => []
def ifA : Stmt → List Stmt | .If _ a _ _ => a | _ => []
def ifB : Stmt → List Stmt | .If _ _ b _ => b | _ => []
def askIf : Stmt := nth 0 (tryB11 (nth 7 turn11))
def askE : Way → Expr | .names => asgE (nth 0 (ifA askIf)) | .places => asgE (nth 0 (ifB askIf))
section
variable {prog : Program} {w : World} {A : Around} {E : Value → Shared → Prop} {s : Shared} {base : Heap} {os₀ : OsState} {led : Led} {mg mb : Str → Option Value} {fG fT fN u d L lk fA : Addr} {gd td nd : FuncData} {k : Nat} {t : Tok} {lkv : List Value} {m : Str → Option Value} {nam : Str} {cd v g : Value}
  {b0 b1 b2 b3 b4 : Bool} {x0 x1 x2 x3 x4 : Value} {y : Way}
theorem evalArgs_kw {f : Value} {kws : List (Option Str × Sem Value)} {Q : Args → Shared → Prop} (hk : kws.all (·.1.isSome) = false)
    (h : wpAny (model prog w) A (mergedKeywords f kws) (fun d s₂ => wpAny (model prog w) A (keywordsIn f d) (fun kw s₃ => Q ⟨[], kw⟩ s₃) E s₂) E s) :
    wpAny (model prog w) A (evalArgs f true [] kws) Q E s := by
  unfold evalArgs
  show wpAny (model prog w) A (spliced [] >>= _) Q E s
  refine wpAny_bind (spliced_nil ?_)
  refine wpAny_bind (wpAny_pure ?_)
  refine wpAny_holding ?_
  simp only [hk, Bool.false_eq_true, if_false]
  refine wpAny_bind (wpAny_mono h (fun d s₂ h₂ => ?_) fun _ _ x => x)
  refine wpAny_bind (wpAny_pure ?_)
  exact wpAny_bind (wpAny_holding (wpAny_mono h₂ (fun kw s₃ h₃ => wpAny_pure h₃) fun _ _ x => x))
theorem wl5_keys (b0 b1 b2 b3 b4 : Bool) (x0 x1 x2 x3 x4 : Value) : ∀ k ∈ (wl5 b0 b1 b2 b3 b4 x0 x1 x2 x3 x4).map (·.1), k ∈ [kA, kB, kI, kGN, kNI] := by
  cases b0 <;> cases b1 <;> cases b2 <;> cases b3 <;> cases b4 <;> simp [wl5, wl]
theorem wl5_dup (b0 b1 b2 b3 b4 : Bool) (x0 x1 x2 x3 x4 : Value) : (∃ k ∈ (wl5 b0 b1 b2 b3 b4 x0 x1 x2 x3 x4).map (·.1), k ∈ [kNI, kGN]) ↔ (b3 = true ∨ b4 = true) := by
  have n1 : ∀ k ∈ [kA, kB, kI], k ∉ [kNI, kGN] := by decide
  constructor
  · rintro ⟨k, hk, hin⟩
    cases b3 with
    | true => exact .inl rfl
    | false =>
      cases b4 with
      | true => exact .inr rfl
      | false =>
        rw [wl5_ff] at hk
        refine absurd hin (n1 k ?_)
        rcases wl_keys _ _ _ _ _ _ k hk with rfl | rfl | rfl <;> simp
  · rintro (rfl | rfl)
    · exact ⟨kGN, by unfold wl5; simp, by simp⟩
    · exact ⟨kNI, by unfold wl5; simp, by simp⟩
theorem wl5_len (b0 b1 b2 b3 b4 : Bool) (x0 x1 x2 x3 x4 : Value) : (wl5 b0 b1 b2 b3 b4 x0 x1 x2 x3 x4).length ≤ 5 := by
  cases b0 <;> cases b1 <;> cases b2 <;> cases b3 <;> cases b4 <;> simp [wl5, wl]
set_option maxHeartbeats 1600000 in
/-- a call of the def in law, either way -/
theorem call_at {Q : Value → Shared → Prop} (G : G11 base mg mb fG fT fN u gd td nd) (hh : A.handled = none) (hv : m (Str.ofString "place") = some v) (hlk : m (Str.ofString "lookups") = some (.ref lk)) (hk : m (Str.ofString "kind") = some (.int (k : Nat) t)) (hw : m (Str.ofString "words") = some (.ref d)) (hg : lkv[k]? = some g) (hkb : k < 8)
    (H : St base os₀ led s) (mL : (L, nsA m) ∈ led) (mK : (lk, lstA lkv) ∈ led) (mD : (d, dctA (strKind prog w) (wl5 b0 b1 b2 b3 b4 x0 x1 x2 x3 x4)) ∈ led)
    (hbad : b3 = true ∨ b4 = true → ∀ e s', St base os₀ ((e, ex0 "TypeError") :: led) s' → E (.ref e) s')
    (hgo : b3 = false → b4 = false → ∀ s', St base os₀ led s' → wpC (model prog w) A (call (.ref fG) (wayPos y v g) (wayKw y v g (wl b0 b1 b2 x0 x1 x2))) Q E s') :
    wpC (model prog w) A (eval (askE y) (lawEnv11 nam L fA cd)) Q E s := by
  obtain ⟨o₀, hsys⟩ := G.gr.sys
  obtain ⟨o, ho, hd⟩ := G.dg.obj
  obtain ⟨dc, sl, hgo'⟩ := G.gobj
  obtain ⟨tm, hmod⟩ := G.gmod
  have hz : (wl5 b0 b1 b2 b3 b4 x0 x1 x2 x3 x4).length ≤ sizeLine := Nat.le_trans (wl5_len ..) (by decide)
  have key : ∀ k ∈ [kA, kB, kI, kGN, kNI], (k.toString.length ≤ 100 ∧ k.cps.any (fun c => 0xD800 ≤ c && c ≤ 0xDFFF) = false) ∧ k.cps.any Str.isSurrogate = false := by decide +kernel
  cases y with
  | places =>
    refine Call_C (nm_g H G.gr.g G.hg (callWith_C (evalArgs_star rfl (spliced_cons (nm_l H mL hv (spliced_cons (Subscript_ (nm_l H mL hlk (nm_l H mL hk (item_l (x := g) H mK (by omega) (by omega) (by simpa using hg) (spliced_nil (merged1 H hsys ?_ mD hz fun d₂ s₃ H₃ => kwIn H₃ (.head _) ⟨⟨o, gd, H₃.keep _ _ ho, hd⟩, ?_⟩))))))))))))
    · exact fun d' s' H' => wpAny_bind (nm_l H' (.tail _ mL) hw (wpAny_bind (wpAny_standAt (wpAny_pure ⟨rfl, rfl⟩))))
    have H₄ : St base os₀ led s₃ := H₃.sub (.cons _ (.refl _))
    by_cases q : b3 = true ∨ b4 = true
    · exact gni_refuses G hh H₄ ((wl5_dup ..).mpr q) (fun k hk => (key k (wl5_keys _ _ _ _ _ _ _ _ _ _ k hk)).1) (hbad q)
    · have q3 : b3 = false := by cases b3 <;> simp_all
      have q4 : b4 = false := by cases b4 <;> simp_all
      subst q3 q4
      rw [wl5_ff]
      exact hgo rfl rfl s₃ H₄
  | names =>
    refine Call_C (nm_g H G.gr.g G.hg (callWith_C (evalArgs_kw rfl ?_)))
    show wpAny _ _ (mergedKeywords (.ref fG) [(some kGN, _), (some kNI, _), (none, _)]) _ _ _
    have kl : ∀ k ∈ (wl5 b0 b1 b2 b3 b4 x0 x1 x2 x3 x4).map (·.1), k.toString.length ≤ 100 ∧ k.cps.any Str.isSurrogate = false := fun k hk => ⟨(key k (wl5_keys _ _ _ _ _ _ _ _ _ _ k hk)).1.1, (key k (wl5_keys _ _ _ _ _ _ _ _ _ _ k hk)).2⟩
    have q1 : gd.qualname.toString.length ≤ 1000 ∧ gd.qualname.length ≤ sizeLine := by rw [G.gqual]; decide +kernel
    have q2 : gd.qualname.cps.any Str.isSurrogate = false := by rw [G.gqual]; decide +kernel
    have q3 : (Str.ofString "cpy313.dis").toString.length ≤ 1000 := by decide +kernel
    have q4 : (Str.ofString "cpy313.dis").cps.any Str.isSurrogate = false := by decide +kernel
    have q5 : ((Str.ofString "cpy313.dis") == ("builtins" : Str)) = false := by decide
    refine merged3 (v1 := g) (v2 := v) (kvs := wl5 b0 b1 b2 b3 b4 x0 x1 x2 x3 x4) (a := d) hh hsys hgo' hmod q1 q3 q5 q4 q2 kl (by decide) (Nat.le_trans (wl5_len ..) (by decide)) H mD ?_ ?_ (fun hdis d₂ s₃ H₃ => kwIn H₃ (.head _) ⟨⟨o, gd, H₃.keep _ _ ho, hd⟩, ?_⟩) fun hdup e s₃ H₃ => ?_
    · intro d' s₁ Q' H₁ hq
      refine wpAny_bind (wpAny_bind (Subscript_ (nm_l H₁ (.tail _ mL) hlk (nm_l H₁ (.tail _ mL) hk (item_l (x := g) H₁ (.tail _ mK) (by omega) (by omega) (by simpa using hg) (wpAny_bind (wpAny_standAt (wpAny_pure ?_))))))))
      refine wpAny_bind (wpAny_holding ?_)
      refine wpAny_bind (wpAny_bind (nm_l H₁ (.tail _ mL) hv (wpAny_bind (wpAny_standAt (wpAny_pure ?_)))))
      exact wpAny_bind (wpAny_holding (wpAny_pure (wpAny_pure (wpAny_pure (hq s₁ H₁)))))
    · intro led₁ s₁ Q' hin H₁ hq
      exact wpAny_bind (nm_l H₁ (hin _ mL) hw (wpAny_bind (wpAny_standAt (wpAny_pure hq))))
    · have H₄ : St base os₀ led s₃ := H₃.sub (.cons _ (.refl _))
      have q : ¬ (b3 = true ∨ b4 = true) := fun q => by
        obtain ⟨k, hk, hin⟩ := (wl5_dup b0 b1 b2 b3 b4 x0 x1 x2 x3 x4).mpr q
        refine hdis k hk ?_
        simp only [List.mem_cons, List.not_mem_nil, or_false] at hin ⊢
        exact hin.symm
      have q3 : b3 = false := by cases b3 <;> simp_all
      have q4 : b4 = false := by cases b4 <;> simp_all
      subst q3 q4
      rw [wl5_ff]
      exact hgo rfl rfl s₃ H₄
    · refine hbad ((wl5_dup b0 b1 b2 b3 b4 x0 x1 x2 x3 x4).mp ?_) e s₃ H₃
      obtain ⟨k, hk, hin⟩ := hdup
      refine ⟨k, hk, ?_⟩
      simp only [List.mem_cons, List.not_mem_nil, or_false] at hin ⊢
      exact hin.symm
end
end Mine

namespace Mine
open PySem PySem.W PyProof.Rows PySem.Calls PySem.Spec
/-- the lambdas as they stand in the ledger -/
structure Lams where
  (l0 l1 l2 l3 l4 c0 c1 c2 c3 c4 tD : Addr)
  (v0 v1 v2 v3 v4 : Value × Value)
  (lv : Value)
def Lams.l (K : Lams) : Nat → Addr | 0 => K.l0 | 1 => K.l1 | 2 => K.l2 | 3 => K.l3 | _ => K.l4
def Lams.c (K : Lams) : Nat → Addr | 0 => K.c0 | 1 => K.c1 | 2 => K.c2 | 3 => K.c3 | _ => K.c4
def Lams.v (K : Lams) : Nat → Value × Value | 0 => K.v0 | 1 => K.v1 | 2 => K.v2 | 3 => K.v3 | _ => K.v4
def Lams.dV (K : Lams) (k : Nat) : Value := if k = 1 then .ref K.tD else .none
/-- they stand in a ledger -/
structure LamsIn (K : Lams) (qual : Str) (cS : Addr) (pm : Value) (led : Led) : Prop where
  fn : ∀ k < 5, (K.l k, objA (lamOb k qual cS pm (K.c k) (K.v k) (K.dV k))) ∈ led
  code : ∀ k < 5, (K.c k, codeA qual) ∈ led
  dflt : (K.tD, tupA [K.lv]) ∈ led
theorem LamsIn.mono {K : Lams} {qual : Str} {cS : Addr} {pm : Value} {led led' : Led} (h : LamsIn K qual cS pm led) (hs : ∀ p ∈ led, p ∈ led') : LamsIn K qual cS pm led' := ⟨fun k hk => hs _ (h.fn k hk), fun k hk => hs _ (h.code k hk), hs _ h.dflt⟩
def lkVals (K : Lams) (t0 t1 : Tok) : List Value := [.ref K.l0, .ref K.l1, .ref K.l2, .ref K.l3, .ref K.l4, .none, .int 0 t0, .str (Str.ofString "") t1]
section
variable {prog : Program} {w : World} {A : Around} {E : Value → Shared → Prop} {s : Shared} {base : Heap} {os₀ : OsState} {led rest : Led} {mg mb : Str → Option Value} {fG fT fN u d L lk fA cl : Addr} {gd td nd : FuncData} {k : Nat} {t t0 t1 : Tok} {m : Str → Option Value} {nam qual : Str} {cd v pm : Value} {cs : List Value}
  {b0 b1 b2 b3 b4 : Bool} {x0 x1 x2 x3 x4 : Value} {y : Way} {K : Lams}
/-- the call of a turn: refused, blank or noted -/
theorem ask_all {rest' : Addr → Led} {Q : Value → Shared → Prop} (G : G11 base mg mb fG fT fN u gd td nd) (hh : A.handled = none) (hroom : A.depth + 4 < recursionLimit) (hcs : cs.length ≤ 1000) (hq : qual.toString.length ≤ 1000) (hfr : A.frames = some [lawEnv11 nam L fA cd])
    (hv : m (Str.ofString "place") = some v) (hlk : m (Str.ofString "lookups") = some (.ref lk)) (hk : m (Str.ofString "kind") = some (.int (k : Nat) t)) (hw : m (Str.ofString "words") = some (.ref d)) (hkb : k < 8)
    (H : St base os₀ ((L, nsA m) :: (d, dctA (strKind prog w) (wl5 b0 b1 b2 b3 b4 x0 x1 x2 x3 x4)) :: rest) s) (mK : (lk, lstA (lkVals K t0 t1)) ∈ rest) (hK : LamsIn K qual (L + 1) pm rest) (hcell : (L + 1, celA (some (.ref cl))) ∈ rest) (U : ∀ r, Up cl (lstA cs) (lstA (cs ++ [.ref r])) rest (rest' r))
    (hR : takesF k b0 b1 b2 b3 b4 = false → ∀ e s', (St base os₀ ((e, ex0 "TypeError") :: (L, nsA m) :: (d, dctA (strKind prog w) (wl5 b0 b1 b2 b3 b4 x0 x1 x2 x3 x4)) :: rest) s' ∨ Fly base os₀ ((L, nsA m) :: (d, dctA (strKind prog w) (wl5 b0 b1 b2 b3 b4 x0 x1 x2 x3 x4)) :: rest) e "TypeError" s') → E (.ref e) s')
    (hB : takesF k b0 b1 b2 b3 b4 = true → k = 5 → ∀ a t s', St base os₀ ((a, tupA [.ref u, .str (Str.ofString "") t]) :: (L, nsA m) :: (d, dctA (strKind prog w) (wl5 b0 b1 b2 b3 b4 x0 x1 x2 x3 x4)) :: rest) s' → Q (.ref a) s')
    (hN : takesF k b0 b1 b2 b3 b4 = true → k < 5 → b3 = false → b4 = false → lamTakes k b0 b1 b2 = true → ∀ a r x t vv X xl s', Rec v b0 b1 b2 x0 x1 x2 K.lv k vv X xl →
      St base os₀ ((a, tupA [.ref r, .ref r]) :: (r, lstA [.int k t, vv, .ref x]) :: (x, lstA X) :: (xl ++ ((L, nsA m) :: (d, dctA (strKind prog w) (wl5 b0 b1 b2 b3 b4 x0 x1 x2 x3 x4)) :: rest' r))) s' → Q (.ref a) s') :
    wpC (model prog w) A (eval (askE y) (lawEnv11 nam L fA cd)) Q E s := by
  have hF : FramesOk ((L, nsA m) :: (d, dctA (strKind prog w) (wl5 b0 b1 b2 b3 b4 x0 x1 x2 x3 x4)) :: rest) [lawEnv11 nam L fA cd] := FramesOk.cons (fun env he => by cases he) (by intro q; cases q) rfl (.head _)
  have hg : ∃ g, (lkVals K t0 t1)[k]? = some g := by
    have : k < (lkVals K t0 t1).length := hkb
    exact ⟨_, List.getElem?_eq_getElem this⟩
  obtain ⟨g, hg⟩ := hg
  have hK' := hK.mono (led' := (L, nsA m) :: (d, dctA (strKind prog w) (wl5 b0 b1 b2 b3 b4 x0 x1 x2 x3 x4)) :: rest) fun p hp => .tail _ (.tail _ hp)
  refine call_at G hh hv hlk hk hw hg hkb H (.head _) (.tail _ (.tail _ mK)) (.tail _ (.head _)) (fun q e s' H' => ?_) fun q3 q4 s₁ H₁ => ?_
  · exact hR (by unfold takesF; rcases q with rfl | rfl <;> simp) e s' (.inl H')
  subst q3 q4
  by_cases h5 : k < 5
  · have hgl : g = .ref (K.l k) := by
      rcases (by omega : k = 0 ∨ k = 1 ∨ k = 2 ∨ k = 3 ∨ k = 4) with rfl | rfl | rfl | rfl | rfl <;> (cases hg; rfl)
    subst hgl
    have hT : takesF k b0 b1 b2 false false = lamTakes k b0 b1 b2 := by simp [takesF, show k ≠ 5 by omega, show ¬ 5 < k by omega]
    refine ask_lam (lv := K.lv) (dV := K.dV k) (ctv := K.v k) (c' := K.c k) (led' := fun r => (L, nsA m) :: (d, dctA (strKind prog w) (wl5 b0 b1 b2 false false x0 x1 x2 x3 x4)) :: rest' r) G hh (by omega) hcs h5 hq H₁ hfr hF (hK'.fn k h5) (hK'.code k h5) (fun q => by unfold Lams.dV; rw [if_neg q]) (fun q => ⟨K.tD, by unfold Lams.dV; rw [if_pos q], hK'.dflt⟩) (.tail _ (.tail _ hcell)) (fun r => .tail (.tail (U r)))
      (fun ht a r x t vv X xl s' hr H' => hN (hT.trans ht) h5 rfl rfl ht a r x t vv X xl s' hr H') fun ht e s' F' => hR (hT.trans ht) e s' (.inr F')
  · by_cases h5' : k = 5
    · subst h5'
      cases hg
      exact ask_blank G (by omega) H₁ fun a t s' H' => hB rfl rfl a t s' H'
    · have hT : takesF k b0 b1 b2 false false = false := by simp [takesF, h5', show 5 < k by omega]
      rcases (by omega : k = 6 ∨ k = 7) with rfl | rfl
      · cases hg
        exact ask_bad (T := "int") (n := 0) (x := Str.ofString "") (t := t0) G hh (by omega) H₁ hfr hF (.inl rfl) (fun s' => typeIs_int s' _ _) no_call_int (by decide) (by decide) fun e s' F' => hR hT e s' (.inr F')
      · cases hg
        exact ask_bad (T := "str") (n := 0) (x := Str.ofString "") (t := t1) G hh (by omega) H₁ hfr hF (.inr rfl) (fun s' => typeIs_str s' _ _) no_call_str (by decide) (by decide) fun e s' F' => hR hT e s' (.inr F')
end
end Mine

namespace Mine
open PySem PySem.W PyProof.Rows PySem.Calls PySem.Spec
section
variable {prog : Program} {w : World} {A : Around} {E : Value → Shared → Prop} {s : Shared} {base : Heap} {os₀ : OsState} {led rest : Led} {mg mb : Str → Option Value} {fG fT fN u d L lk fA cl : Addr} {gd td nd : FuncData} {k : Nat} {t t0 t1 tn : Tok} {m : Str → Option Value} {nam qual : Str} {cd v pm : Value} {cs : List Value}
  {b0 b1 b2 b3 b4 : Bool} {x0 x1 x2 x3 x4 : Value} {K : Lams} {n : Int}
/-- the TypeError is caught: refused = True -/
theorem caught {hpos npos p1 p2 p3 : Pos} {kk : Nat} {Q : Flow → Shared → Prop} (G : G11 base mg mb fG fT fN u gd td nd) (hfr : A.frames = some [lawEnv11 nam L fA cd]) {e : Addr}
    (H : St base os₀ ((e, ex0 "TypeError") :: (L, nsA m) :: rest) s ∨ Fly base os₀ ((L, nsA m) :: rest) e "TypeError" s)
    (h : ∀ m' s', m' (Str.ofString "refused") = some (.bool true) → (∀ z, z ≠ Str.ofString "refused" → m' z = m z) → St base os₀ ((L, nsA m') :: rest) s' → Q .next s') :
    wpAny (model prog w) A (noteFrame (.ref e) (lawEnv11 nam L fA cd)) (fun _ s₂ => wpAny (model prog w) A (setFlight (.ref e) none) (fun _ s₃ => wpAny (model prog w) A (handleBy (.ref e) (lawEnv11 nam L fA cd) [.ExceptHandler (some (.Name (Str.ofString "TypeError") npos)) none [.Assign [.Name (Str.ofString "refused") p1] (.Constant (.bool true) kk p2) p3] hpos]) Q E s₃) E s₂) E s := by
  have hF : FramesOk ((L, nsA m) :: rest) [lawEnv11 nam L fA cd] := FramesOk.cons (fun env he => by cases he) (by intro q; cases q) rfl (.head _)
  have go : ∀ s₄, Fly base os₀ ((L, nsA m) :: rest) e "TypeError" s₄ → wpAny (model prog w) A (setFlight (.ref e) none) (fun _ s₃ => wpAny (model prog w) A (handleBy (.ref e) (lawEnv11 nam L fA cd) [.ExceptHandler (some (.Name (Str.ofString "TypeError") npos)) none [.Assign [.Name (Str.ofString "refused") p1] (.Constant (.bool true) kk p2) p3] hpos]) Q E s₃) E s₄ := fun s₄ F₃ => by
    refine flight F₃ fun s₅ F₄ => ?_
    obtain ⟨tb, F₅⟩ := F₄
    have ty : s₅.TypeIs (.ref e) "TypeError" := by obtain ⟨o, ho, hc, _⟩ := F₅.get (.head _); exact ⟨o, ho, hc⟩
    refine wpAny_handleBy_builtin (X := "TypeError") (T := "TypeError") (b := true) (by rw [isSubtype_type]; kernel_rfl) (by rw [isSubtype_type]; kernel_rfl) (by rw [isSubtype_type]; kernel_rfl) (nm_b F₅ G.gr.g G.gr.b G.n4 G.b4 ⟨rfl, ty, ite_pos rfl (flight ⟨tb, F₅⟩ fun s₆ F₆ => ?_)⟩)
    obtain ⟨tb', F₇⟩ := F₆
    have H₄ : St base os₀ ((L, nsA m) :: rest) s₆ := F₇.sub (.cons _ (.cons _ (.refl _)))
    exact wpAny_execs_cons (wpAny_Assign_Name (wpAny_Constant_bool (st_g H₄ (fun _ => up_head) fun m' s₇ e' k' H₅ => wpAny_execs_nil (h m' s₇ e' k' H₅))))
  rcases H with H | F
  · exact note0 (L := L) H hfr hF (.head _) rfl fun s₄ F₃ => go s₄ F₃
  · exact note1 (L := L) F hfr hF (.head _) rfl fun s₄ F₃ => go s₄ F₃
/-- the row with try -/
theorem try_row {rest' : Addr → Led} {Q : Flow → Shared → Prop} (G : G11 base mg mb fG fT fN u gd td nd) (R : Room prog w A base) (hcs : cs.length ≤ 1000) (hq : qual.toString.length ≤ 1000) (hfr : A.frames = some [lawEnv11 nam L fA cd])
    (hn : m (Str.ofString "n") = some (.int n tn)) (hv : m (Str.ofString "place") = some v) (hlk : m (Str.ofString "lookups") = some (.ref lk)) (hk : m (Str.ofString "kind") = some (.int (k : Nat) t)) (hw : m (Str.ofString "words") = some (.ref d)) (hkb : k < 8)
    (H : St base os₀ ((L, nsA m) :: (d, dctA (strKind prog w) (wl5 b0 b1 b2 b3 b4 x0 x1 x2 x3 x4)) :: rest) s) (mK : (lk, lstA (lkVals K t0 t1)) ∈ rest) (hK : LamsIn K qual (L + 1) pm rest) (hcell : (L + 1, celA (some (.ref cl))) ∈ rest) (U : ∀ r, Up cl (lstA cs) (lstA (cs ++ [.ref r])) rest (rest' r))
    (hR : takesF k b0 b1 b2 b3 b4 = false → ∀ m' s', m' (Str.ofString "refused") = some (.bool true) → (∀ z, z ≠ Str.ofString "refused" → m' z = m z) → St base os₀ ((L, nsA m') :: (d, dctA (strKind prog w) (wl5 b0 b1 b2 b3 b4 x0 x1 x2 x3 x4)) :: rest) s' → Q .next s')
    (hB : takesF k b0 b1 b2 b3 b4 = true → k = 5 → ∀ m' a t s', m' (Str.ofString "pair") = some (.ref a) → (∀ z, z ≠ Str.ofString "pair" → m' z = m z) → St base os₀ ((L, nsA m') :: (d, dctA (strKind prog w) (wl5 b0 b1 b2 b3 b4 x0 x1 x2 x3 x4)) :: (a, tupA [.ref u, .str (Str.ofString "") t]) :: rest) s' → Q .next s')
    (hN : takesF k b0 b1 b2 b3 b4 = true → k < 5 → b3 = false → b4 = false → lamTakes k b0 b1 b2 = true → ∀ m' a r x t vv X xl s', m' (Str.ofString "pair") = some (.ref a) → (∀ z, z ≠ Str.ofString "pair" → m' z = m z) → Rec v b0 b1 b2 x0 x1 x2 K.lv k vv X xl →
      St base os₀ ((L, nsA m') :: (d, dctA (strKind prog w) (wl5 b0 b1 b2 b3 b4 x0 x1 x2 x3 x4)) :: (a, tupA [.ref r, .ref r]) :: (r, lstA [.int k t, vv, .ref x]) :: (x, lstA X) :: (xl ++ rest' r)) s' → Q .next s') :
    wpC (model prog w) A (exec (nth 7 turn11) (lawEnv11 nam L fA cd)) Q E s := by
  have hh := R.handled
  have hdep : A.depth + 4 < recursionLimit := by have := R.depth; omega
  have asg : ∀ (y : Way) (QQ : Flow → Shared → Prop) (E' : Value → Shared → Prop) (p1 p2 : Pos) s₁, St base os₀ ((L, nsA m) :: (d, dctA (strKind prog w) (wl5 b0 b1 b2 b3 b4 x0 x1 x2 x3 x4)) :: rest) s₁ → (∀ s', Q .next s' → QQ .next s') →
      (∀ e s', (St base os₀ ((e, ex0 "TypeError") :: (L, nsA m) :: (d, dctA (strKind prog w) (wl5 b0 b1 b2 b3 b4 x0 x1 x2 x3 x4)) :: rest) s' ∨ Fly base os₀ ((L, nsA m) :: (d, dctA (strKind prog w) (wl5 b0 b1 b2 b3 b4 x0 x1 x2 x3 x4)) :: rest) e "TypeError" s') → takesF k b0 b1 b2 b3 b4 = false → E' (.ref e) s') →
      swapsWith (askE y) (some (.Name (Str.ofString "pair") p1)) p2.line (lawEnv11 nam L fA cd) = pure false →
      wpC (model prog w) A (exec (.Assign [.Name (Str.ofString "pair") p1] (askE y) p2) (lawEnv11 nam L fA cd)) QQ E' s₁ := fun y QQ E' p1 p2 s₁ H₁ hQQ hE' hsw => by
    refine Assign_C (ask_all (y := y) G hh hdep hcs hq hfr hv hlk hk hw hkb H₁ mK hK hcell U (fun ht e s' H' => hE' e s' H' ht) (fun ht h5 a t s₂ H₂ => ?_) fun ht h5 q3 q4 hl a r x t vv X xl s₂ hr H₂ => ?_) hsw
    · refine st_g H₂ (fun _ => .tail .head) fun m' s₃ e' k' H₃ => hQQ s₃ (hB ht h5 m' a t s₃ e' k' (H₃.perm ?_))
      repeat (first | exact List.Perm.refl _ | refine Pick.perm (by (repeat (first | exact Pick.head | apply Pick.tail))) ?_)
    · have H₃ : St base os₀ ((L, nsA m) :: (d, dctA (strKind prog w) (wl5 b0 b1 b2 b3 b4 x0 x1 x2 x3 x4)) :: (a, tupA [.ref r, .ref r]) :: (r, lstA [.int k t, vv, .ref x]) :: (x, lstA X) :: (xl ++ rest' r)) s₂ := H₂.perm (by
        have p := List.perm_append_comm_assoc ((a, tupA [.ref r, .ref r]) :: (r, lstA [.int k t, vv, .ref x]) :: (x, lstA X) :: xl) [(L, nsA m), (d, dctA (strKind prog w) (wl5 b0 b1 b2 b3 b4 x0 x1 x2 x3 x4))] (rest' r)
        exact p.symm)
      exact st_g H₃ (fun _ => .head) fun m' s₃ e' k' H₄ => hQQ s₃ (hN ht h5 q3 q4 hl m' a r x t vv X xl s₃ e' k' hr H₄)
  refine Try_C (execsC_cons (If_C (wpAny_isTrue_value (wpAny_BinOp (wpAny_BinOp (nm_l H (.head _) hn (c_int H fun t2 s₁ H₁ => i_fdiv R H₁ (by decide) fun t3 s₂ H₂ => c_int H₂ fun t4 s₃ H₃ => i_mod H₃ (by decide) fun t5 s₄ H₄ => PySem.P.truthy_int ?_)))))))
  by_cases hb : ((n.fdiv 256).fmod 2 != 0) = true
  · refine ite_pos hb (execsC_cons (asg .names _ _ _ _ s₄ H₄ ?_ ?_ rfl))
    · intro s' hq'
      exact wpC_any (wpAny_execs_nil (wpC_any (wpAny_execs_nil (wpC_any (wpAny_execs_nil hq')))))
    · intro e s' H' ht
      exact caught G hfr H' fun m' s'' e' k' H'' => hR ht m' s'' e' k' H''
  · refine ite_neg hb (execsC_cons (asg .places _ _ _ _ s₄ H₄ ?_ ?_ rfl))
    · intro s' hq'
      exact wpC_any (wpAny_execs_nil (wpC_any (wpAny_execs_nil (wpC_any (wpAny_execs_nil hq')))))
    · intro e s' H' ht
      exact caught G hfr H' fun m' s'' e' k' H'' => hR ht m' s'' e' k' H''
end
end Mine

namespace Mine
open PySem PySem.W PyProof.Rows PySem.Calls PySem.Spec
section
variable {prog : Program} {w : World} {A : Around} {E : Value → Shared → Prop} {s : Shared} {base : Heap} {os₀ : OsState} {led rest : Led} {mg mb : Str → Option Value} {fG fT fN u d L lk fA cl : Addr} {gd td nd : FuncData} {k : Nat} {t tb : Tok} {m : Str → Option Value} {nam : Str} {cd : Value} {cs : List Value}
  {b0 b1 b2 b3 b4 rf : Bool} {x0 x1 x2 x3 x4 : Value}
theorem b_eq {p q : Bool} {Q : Value → Shared → Prop} (h : Q (.bool (p == q)) s) : wpAny (model prog w) A (compareOp .Eq (.bool p) (.bool q)) Q E s := SeqAt.RcAt.bool_bool p q prog w E Q h
/-- the rows behind the call, up to «if refused: continue» -/
theorem rows8 {Q : Flow → Shared → Prop} (G : G11 base mg mb fG fT fN u gd td nd) (R : Room prog w A base) (hcs : cs.length ≤ 1000) (hkb : k < 8) (hk : m (Str.ofString "kind") = some (.int (k : Nat) t)) (hw : m (Str.ofString "words") = some (.ref d)) (hrf : m (Str.ofString "refused") = some (.bool rf)) (hbe : m (Str.ofString "before") = some (.int (cs.length : Nat) tb))
    (hT : rf = !takesF k b0 b1 b2 b3 b4) {cs' : List Value} (hcs' : cs'.length ≤ 1000) (hsame : rf = true ∨ k = 5 → cs'.length = cs.length)
    (H : St base os₀ ((L, nsA m) :: (d, dctA (strKind prog w) (wl5 b0 b1 b2 b3 b4 x0 x1 x2 x3 x4)) :: rest) s) (hcell : (L + 1, celA (some (.ref cl))) ∈ rest) (hcl : (cl, lstA cs') ∈ rest)
    (h1 : rf = true → ∀ s', St base os₀ ((L, nsA m) :: (d, dctA (strKind prog w) (wl5 b0 b1 b2 b3 b4 x0 x1 x2 x3 x4)) :: rest) s' → Q .cont s')
    (h2 : rf = false → ∀ s', St base os₀ ((L, nsA m) :: (d, dctA (strKind prog w) (wl5 b0 b1 b2 b3 b4 x0 x1 x2 x3 x4)) :: rest) s' → wpAny (model prog w) A (execs (turn11.drop 11) (lawEnv11 nam L fA cd)) Q E s') :
    wpAny (model prog w) A (execs (turn11.drop 8) (lawEnv11 nam L fA cd)) Q E s := by
  have hh := R.handled
  have hdep : A.depth + 4 < recursionLimit := by have := R.depth; omega
  have hun : A.units + 10 < cLine := by have := R.units; omega
  obtain ⟨oT, hoT, hdT⟩ := G.dt.obj
  have Hd : ∀ {s'}, St base os₀ ((L, nsA m) :: (d, dctA (strKind prog w) (wl5 b0 b1 b2 b3 b4 x0 x1 x2 x3 x4)) :: rest) s' → St base os₀ ((d, dctA (strKind prog w) (wl5 b0 b1 b2 b3 b4 x0 x1 x2 x3 x4)) :: (L, nsA m) :: rest) s' := fun H' => H'.perm (.swap ..)
  have Hb : ∀ {s'}, St base os₀ ((d, dctA (strKind prog w) (wl5 b0 b1 b2 b3 b4 x0 x1 x2 x3 x4)) :: (L, nsA m) :: rest) s' → St base os₀ ((L, nsA m) :: (d, dctA (strKind prog w) (wl5 b0 b1 b2 b3 b4 x0 x1 x2 x3 x4)) :: rest) s' := fun H' => H'.perm (.swap ..)
  refine wpAny_execs_cons (wpAny_If (wpAny_isTrue_Compare1 (nm_l H (.head _) hrf (wpAny_Call_ofName (nm_g H G.gr.g G.ht (callWith_fn (evalArgs_plain (spliced_cons (nm_l H (.head _) hk (spliced_cons (nm_l H (.head _) hw (spliced_nil ⟨⟨oT, td, H.keep _ _ hoT, hdT⟩, ?_⟩))))))))))))
  refine takes_ok G (by omega) hh hun hkb (Hd H) fun s₁ H₁' => b_eq (wpAny_truthy_bool (ite_neg (by rw [hT]; cases takesF k b0 b1 b2 b3 b4 <;> decide) (wpAny_execs_nil ?_)))
  have H₁ := Hb H₁'
  have row10 : ∀ s₂, St base os₀ ((L, nsA m) :: (d, dctA (strKind prog w) (wl5 b0 b1 b2 b3 b4 x0 x1 x2 x3 x4)) :: rest) s₂ → wpAny (model prog w) A (execs (turn11.drop 10) (lawEnv11 nam L fA cd)) Q E s₂ := fun s₂ H₂ => by
    refine wpAny_execs_cons (wpAny_If (wpAny_isTrue_value (nm_l H₂ (.head _) hrf (wpAny_truthy_bool ?_))))
    cases rf with
    | true => exact ite_pos rfl (wpAny_execs_cons (wpAny_Continue (h1 rfl s₂ H₂)))
    | false => exact ite_neg (by decide) (wpAny_execs_nil (h2 rfl s₂ H₂))
  have inner : rf = true ∨ k = 5 → ∀ s₂ QQ, St base os₀ ((L, nsA m) :: (d, dctA (strKind prog w) (wl5 b0 b1 b2 b3 b4 x0 x1 x2 x3 x4)) :: rest) s₂ → (∀ s₃, St base os₀ ((L, nsA m) :: (d, dctA (strKind prog w) (wl5 b0 b1 b2 b3 b4 x0 x1 x2 x3 x4)) :: rest) s₃ → QQ .next s₃) → ∀ E', wpAny (model prog w) A (execs (ifA (nth 9 turn11)) (lawEnv11 nam L fA cd)) QQ E' s₂ := fun q s₂ QQ H₂ hQQ E' => by
    refine wpAny_execs_cons (wpAny_If (wpAny_isTrue_Compare1 (wpAny_Call_ofName (nm_b H₂ G.gr.g G.gr.b G.n2 G.b2 (callWith_builtin rfl (evalArgs_plain (spliced_cons (nm_c H₂ rfl (.tail _ (.tail _ hcell)) (spliced_nil (len_l H₂ (.tail _ (.tail _ hcl)) (by omega) fun t2 s₃ H₃ => nm_l H₃ (.head _) hbe (PyProof.Rows.ne_int (wpAny_truthy_bool (ite_neg (by rw [hsame q]; simp) (wpAny_execs_nil (wpAny_execs_nil (hQQ s₃ H₃))))))))))))))))
  refine wpAny_execs_cons (wpAny_If (wpAny_isTrue_BoolOp (wpAny_allTrue_Or_cons (wpAny_isTrue_value (nm_l H₁ (.head _) hrf (wpAny_truthy_bool ?_))))))
  cases hrq : rf with
  | true => exact ite_pos rfl (ite_pos rfl (inner (.inl hrq) s₁ _ H₁ (fun s₃ H₃ => row10 s₃ H₃) _))
  | false =>
    refine ite_neg (by decide) (wpAny_allTrue_Or_cons (wpAny_isTrue_Compare1 (nm_l H₁ (.head _) hk (c_int H₁ fun t2 s₂ H₂ => PyProof.Rows.eq_int (wpAny_truthy_bool ?_)))))
    by_cases h5 : k = 5
    · exact ite_pos (by subst h5; decide) (ite_pos rfl (inner (.inr h5) s₂ _ H₂ (fun s₃ H₃ => row10 s₃ H₃) _))
    · exact ite_neg (by simp; omega) (wpAny_allTrue_Or_nil (ite_neg (by decide) (wpAny_execs_nil (row10 s₂ H₂))))
end
end Mine

namespace Mine
open PySem PySem.W PyProof.Rows PySem.Calls PySem.Spec
section
variable {prog : Program} {w : World} {A : Around} {E : Value → Shared → Prop} {s : Shared} {base : Heap} {os₀ : OsState} {led rest : Led} {mg mb : Str → Option Value} {fG fT fN u d L lk fA cl a : Addr} {gd td nd : FuncData} {k : Nat} {t tb tt : Tok} {m : Str → Option Value} {nam : Str} {cd : Value} {cs : List Value}
/-- the rows of a blank answer -/
theorem rows11 {Q : Flow → Shared → Prop} (G : G11 base mg mb fG fT fN u gd td nd) (hk : m (Str.ofString "kind") = some (.int (5 : Nat) t)) (hp : m (Str.ofString "pair") = some (.ref a))
    (H : St base os₀ led s) (mL : (L, nsA m) ∈ led) (mA : (a, tupA [.ref u, .str (Str.ofString "") tt]) ∈ led) (h : ∀ s', St base os₀ led s' → Q .cont s') :
    wpAny (model prog w) A (execs (turn11.drop 11) (lawEnv11 nam L fA cd)) Q E s := by
  refine wpAny_execs_cons (wpAny_If (wpAny_isTrue_Compare1 (wpAny_Call_ofName (nm_b H G.gr.g G.gr.b G.n2 G.b2 (callWith_builtin rfl (evalArgs_plain (spliced_cons (nm_l H mL hp (spliced_nil (PyProof.Rows.len_tuple (H.isTup mA) (by show (2 : Int) < _; decide) ?_))))))))))
  have H₁ : St base os₀ led { s with toks := s.toks + 1 + 1 } := H.tok
  refine c_int H₁ fun t1 s₂ H₂ => PyProof.Rows.ne_int (wpAny_truthy_bool (ite_neg (by show ¬ ((2 : Int) != 2) = true; decide) (wpAny_execs_nil ?_)))
  refine wpAny_execs_cons (wpAny_If (wpAny_isTrue_Compare1 (nm_l H₂ mL hk (c_int H₂ fun t2 s₃ H₃ => PyProof.Rows.eq_int (wpAny_truthy_bool (ite_pos (by decide) ?_))))))
  refine wpAny_execs_cons (wpAny_If (wpAny_isTrue_BoolOp (wpAny_allTrue_Or_cons (wpAny_isTrue_Compare1 (Subscript_ (nm_l H₃ mL hp (c_int H₃ fun t3 s₄ H₄ => item_tupleL (l := [.ref u, .str (Str.ofString "") tt]) (H₄.isTup mA) (by decide) (by decide) (j := 0) rfl rfl (nm_g H₄ G.gr.g G.hu (wpAny_isNot_ref_self (wpAny_truthy_bool (ite_neg (by decide) ?_)))))))))))
  refine wpAny_allTrue_Or_cons (wpAny_isTrue_Compare1 (Subscript_ (nm_l H₄ mL hp (c_int H₄ fun t4 s₅ H₅ => item_tupleL (l := [.ref u, .str (Str.ofString "") tt]) (H₅.isTup mA) (by decide) (by decide) (j := 1) rfl rfl (c_str H₅ fun t5 s₆ H₆ => PyProof.Rows.ne_str (wpAny_truthy_bool (ite_neg (by decide) (wpAny_allTrue_Or_nil (ite_neg (by decide) (wpAny_execs_nil (wpAny_execs_cons (wpAny_Continue (h s₆ H₆)))))))))))))
end
end Mine

namespace Mine
open PySem PySem.W PyProof.Rows PySem.Calls PySem.Spec
section
variable {prog : Program} {w : World} {A : Around} {E : Value → Shared → Prop} {s : Shared} {base : Heap} {os₀ : OsState} {led rest : Led} {mg mb : Str → Option Value} {fG fT fN u d L lk fA cl a r : Addr} {gd td nd : FuncData} {k : Nat} {t tb tt : Tok} {m : Str → Option Value} {nam : Str} {cd : Value} {cs : List Value}
/-- calls[-1] -/
theorem last_of {p1 p2 p3 p4 : Pos} {kk : Nat} {x : Value} {Q : Value → Shared → Prop} (hcs : cs.length ≤ 1000) (H : St base os₀ led s) (hcell : (L + 1, celA (some (.ref cl))) ∈ led) (hcl : (cl, lstA (cs ++ [x])) ∈ led) (h : ∀ s', St base os₀ led s' → Q x s') :
    wpAny (model prog w) A (eval (.Subscript (.Name (Str.ofString "calls") p1) (.UnaryOp .USub (.Constant (.int 1) kk p2) p3) p4) (lawEnv11 nam L fA cd)) Q E s := by
  refine Subscript_ (nm_c H rfl hcell (wpAny_UnaryOp (c_int H fun t1 s₁ H₁ => i_neg H₁ fun t2 s₂ H₂ => ?_)))
  refine subscriptTail_builtinR (x := x) (H₂.isList hcl).typeIs slot_list_getitem.lookup (wpAny_getItem_list_neg (k := -1) (x := x) (H₂.isList hcl) (by decide) (by simp; omega) (by decide) (by
    have e : ((-1 : Int) + ((cs ++ [x]).toArray.size : Nat)).toNat = cs.length := by simp; omega
    rw [e]; simp) ⟨rfl, h s₂ H₂⟩) (by with_unfolding_all rfl)
end
end Mine

namespace Mine
open PySem PySem.W PyProof.Rows PySem.Calls PySem.Spec
section
variable {prog : Program} {w : World} {A : Around} {E : Value → Shared → Prop} {s : Shared} {base : Heap} {os₀ : OsState} {led : Led} {v : Value} {b0 b1 b2 : Bool} {x0 x1 x2 : Value} {k : Nat}
/-- two rows of pairs that tell the same are equal -/
theorem eq_items {tl tl' ul ul' : List Tup2} {kvs : List (Str × Value)} (H : St base os₀ led s) (hu : A.units < cLine) (h1 : ∀ x ∈ tl', x ∈ tl) (h2 : ∀ x ∈ ul', x ∈ ul) (m1 : ∀ p ∈ tupLed tl, p ∈ led) (m2 : ∀ p ∈ tupLed ul, p ∈ led)
    (e1 : tl'.map (fun x => (x.2.1, x.2.2.2)) = kvs) (e2 : ul'.map (fun x => (x.2.1, x.2.2.2)) = kvs) :
    (tl'.map fun x => Value.ref x.1).length = (ul'.map fun x => Value.ref x.1).length ∧ ∀ p ∈ (tl'.map fun x => Value.ref x.1).zip (ul'.map fun x => Value.ref x.1), EqW prog w A s p.1 p.2 true := by
  have hl : tl'.length = ul'.length := by have := congrArg List.length (e1.trans e2.symm); simpa using this
  refine ⟨by simp [hl], fun p hp => ?_⟩
  obtain ⟨i, hi⟩ := List.mem_iff_getElem?.mp hp
  obtain ⟨a1, a2⟩ := List.getElem?_zip_eq_some.mp hi
  rw [List.getElem?_map] at a1 a2
  obtain ⟨x, hx, e3⟩ := Option.map_eq_some_iff.mp a1
  obtain ⟨y, hy, e4⟩ := Option.map_eq_some_iff.mp a2
  have q1 : kvs[i]? = some (x.2.1, x.2.2.2) := by rw [← e1, List.getElem?_map, hx]; rfl
  have q2 : kvs[i]? = some (y.2.1, y.2.2.2) := by rw [← e2, List.getElem?_map, hy]; rfl
  rw [q1] at q2
  have q3 := Option.some.inj q2
  have n1 : x.2.1 = y.2.1 := congrArg (·.1) q3
  have n2 : x.2.2.2 = y.2.2.2 := congrArg (·.2) q3
  have t1 : (x.1, tupA [.str x.2.1 x.2.2.1, x.2.2.2]) ∈ led := m1 _ (List.mem_map.mpr ⟨x, h1 x (List.mem_of_getElem? hx), rfl⟩)
  have t2 : (y.1, tupA [.str y.2.1 y.2.2.1, y.2.2.2]) ∈ led := m2 _ (List.mem_map.mpr ⟨y, h2 y (List.mem_of_getElem? hy), rfl⟩)
  rw [← e3, ← e4]
  by_cases hne : x.1 = y.1
  · rw [hne]; exact EqW.self _
  · refine EqW.tups (vs := [.str x.2.1 x.2.2.1, x.2.2.2]) (us := [.str y.2.1 y.2.2.1, y.2.2.2]) hne (H.isTup t1) (H.isTup t2) rfl hu fun z hz => ?_
    simp only [List.zip_cons_cons, List.zip_nil_right, List.mem_cons, List.not_mem_nil, or_false] at hz
    rcases hz with rfl | rfl
    · have := SeqAt.EqAt.str_str (A := A.in1) (s := s) x.2.1 x.2.2.1 y.2.1 y.2.2.1
      rw [n1, beq_self_eq_true] at this
      rw [n1]
      exact EqW.of this
    · rw [n2]; exact EqW.self _
end
end Mine

namespace Mine
open PySem PySem.W PyProof.Rows PySem.Calls PySem.Spec
section
variable {prog : Program} {w : World} {A : Around} {E : Value → Shared → Prop} {s : Shared} {base : Heap} {os₀ : OsState} {led rest : Led} {mg mb : Str → Option Value} {fG fT fN u d L lk fA cl a r : Addr} {gd td nd : FuncData} {k : Nat} {t tb tt : Tok} {m : Str → Option Value} {nam : Str} {cd : Value} {cs : List Value}
theorem EqW.lsts {l b : Addr} {vs us : List Value} (hne : l ≠ b) (hl : s.heap.IsList l vs.toArray) (hb : s.heap.IsList b us.toArray) (hlen : vs.length = us.length) (hur : A.units < cLine) (he : ∀ p ∈ vs.zip us, EqW prog w A.in1 s p.1 p.2 true) : EqW prog w A s (.ref l) (.ref b) true :=
  EqW.refs hne fun E Q hq => list_eq_same hl hb hlen hur he hq
/-- the rows of a noted answer, up to the count of the calls -/
theorem rowsN_a {Q : Flow → Shared → Prop} (G : G11 base mg mb fG fT fN u gd td nd) (hcs : cs.length ≤ 900) (h5 : k < 5) (hk : m (Str.ofString "kind") = some (.int (k : Nat) t)) (hp : m (Str.ofString "pair") = some (.ref a)) (hbe : m (Str.ofString "before") = some (.int (cs.length : Nat) tb))
    (H : St base os₀ led s) (mL : (L, nsA m) ∈ led) (mA : (a, tupA [.ref r, .ref r]) ∈ led) (hcell : (L + 1, celA (some (.ref cl))) ∈ led) (hcl : (cl, lstA (cs ++ [.ref r])) ∈ led)
    (h : ∀ s', St base os₀ led s' → wpAny (model prog w) A (execs (turn11.drop 14) (lawEnv11 nam L fA cd)) Q E s') :
    wpAny (model prog w) A (execs (turn11.drop 11) (lawEnv11 nam L fA cd)) Q E s := by
  refine wpAny_execs_cons (wpAny_If (wpAny_isTrue_Compare1 (wpAny_Call_ofName (nm_b H G.gr.g G.gr.b G.n2 G.b2 (callWith_builtin rfl (evalArgs_plain (spliced_cons (nm_l H mL hp (spliced_nil (PyProof.Rows.len_tuple (H.isTup mA) (by show (2 : Int) < _; decide) ?_))))))))))
  have H₁ : St base os₀ led { s with toks := s.toks + 1 + 1 } := H.tok
  refine c_int H₁ fun t1 s₂ H₂ => PyProof.Rows.ne_int (wpAny_truthy_bool (ite_neg (by show ¬ ((2 : Int) != 2) = true; decide) (wpAny_execs_nil ?_)))
  refine wpAny_execs_cons (wpAny_If (wpAny_isTrue_Compare1 (nm_l H₂ mL hk (c_int H₂ fun t2 s₃ H₃ => PyProof.Rows.eq_int (wpAny_truthy_bool (ite_neg (by simp; omega) (wpAny_execs_nil ?_)))))))
  refine wpAny_execs_cons (wpAny_If (wpAny_isTrue_BoolOp (wpAny_allTrue_Or_cons (wpAny_isTrue_Compare1 (wpAny_Call_ofName (nm_b H₃ G.gr.g G.gr.b G.n2 G.b2 (callWith_builtin rfl (evalArgs_plain (spliced_cons (nm_c H₃ rfl hcell (spliced_nil (len_l H₃ hcl (by simp; omega) fun t3 s₄ H₄ => wpAny_BinOp (nm_l H₄ mL hbe (c_int H₄ fun t4 s₅ H₅ => i_add H₅ fun t5 s₆ H₆ => PyProof.Rows.ne_int (wpAny_truthy_bool (ite_neg (by simp) ?_))))))))))))))))
  refine wpAny_allTrue_Or_cons (wpAny_isTrue_Compare1 (Subscript_ (nm_l H₆ mL hp (c_int H₆ fun t6 s₇ H₇ => item_tupleL (l := [.ref r, .ref r]) (H₇.isTup mA) (by decide) (by decide) (j := 0) rfl rfl (last_of (by omega) H₇ hcell hcl fun s₈ H₈ => wpAny_isNot_ref_self (wpAny_truthy_bool (ite_neg (by decide) ?_)))))))
  refine wpAny_allTrue_Or_cons (wpAny_isTrue_Compare1 (Subscript_ (nm_l H₈ mL hp (c_int H₈ fun t7 s₉ H₉ => item_tupleL (l := [.ref r, .ref r]) (H₉.isTup mA) (by decide) (by decide) (j := 1) rfl rfl (last_of (by omega) H₉ hcell hcl fun s₁₀ H₁₀ => wpAny_isNot_ref_self (wpAny_truthy_bool (ite_neg (by decide) (wpAny_allTrue_Or_nil (ite_neg (by decide) (wpAny_execs_nil (h s₁₀ H₁₀)))))))))))
/-- the last row: what was noted is what was told -/
theorem row16 {o x x' : Addr} {vv vv' : Value} {X X' : List Value} {t1 t2 : Tok} {Q : Flow → Shared → Prop} (hcs : cs.length ≤ 900) (hu : A.units + 10 < cLine) (hto : m (Str.ofString "told") = some (.ref o))
    (H : St base os₀ led s) (mL : (L, nsA m) ∈ led) (hcell : (L + 1, celA (some (.ref cl))) ∈ led) (hcl : (cl, lstA (cs ++ [.ref r])) ∈ led) (mr : (r, lstA [.int (k : Nat) t1, vv, .ref x]) ∈ led) (mo : (o, lstA [.int (k : Nat) t2, vv', .ref x']) ∈ led) (mx : (x, lstA X) ∈ led) (mx' : (x', lstA X') ∈ led)
    (e1 : EqW prog w A.in1 s vv vv' true) (el : X.length = X'.length) (e2 : ∀ s', St base os₀ led s' → EqW prog w A.in1 s' vv vv' true ∧ ∀ p ∈ X.zip X', EqW prog w A.in1.in1 s' p.1 p.2 true)
    (h : ∀ s', St base os₀ led s' → Q .next s') : wpAny (model prog w) A (execs (turn11.drop 16) (lawEnv11 nam L fA cd)) Q E s := by
  refine wpAny_execs_cons (wpAny_If (wpAny_isTrue_Compare1 (last_of (by omega) H hcell hcl fun s₁ H₁ => nm_l H₁ mL hto ?_)))
  obtain ⟨f1, f2⟩ := e2 s₁ H₁
  refine list_ne_same (H₁.isList mr) (H₁.isList mo) rfl (by omega) (fun p hp => ?_) (wpAny_truthy_bool (ite_neg (by decide) (wpAny_execs_nil (wpAny_execs_nil (h s₁ H₁)))))
  simp only [List.zip_cons_cons, List.zip_nil_right, List.mem_cons, List.not_mem_nil, or_false] at hp
  rcases hp with rfl | rfl | rfl
  · have := SeqAt.EqAt.int_int (A := A.in1) (s := s₁) (k : Nat) t1 (k : Nat) t2
    rw [beq_self_eq_true] at this
    exact EqW.of this
  · exact f1
  · by_cases hne : x = x'
    · subst hne; exact EqW.self _
    · exact EqW.lsts hne (H₁.isList mx) (H₁.isList mx') el (by show A.units + 1 < _; omega) f2
end
end Mine

namespace Mine
open PySem PySem.W PyProof.Rows PySem.Calls PySem.Spec
section
variable {prog : Program} {w : World} {A : Around} {E : Value → Shared → Prop} {s : Shared} {base : Heap} {os₀ : OsState} {led rest xl : Led} {mg mb : Str → Option Value} {fG fT fN u d L lk fA cl a r x : Addr} {gd td nd : FuncData} {k : Nat} {t tr tl0 : Tok} {m : Str → Option Value} {nam : Str} {cd v vv : Value} {cs X : List Value}
  {b0 b1 b2 : Bool} {x0 x1 x2 : Value}
theorem given_row {Q : Flow → Shared → Prop} (G : G11 base mg mb fG fT fN u gd td nd) (hh : A.handled = none) (hw : m (Str.ofString "words") = some (.ref d))
    (H : St base os₀ ((L, nsA m) :: (d, dctA (strKind prog w) (wl b0 b1 b2 x0 x1 x2)) :: rest) s)
    (h : ∀ m' D (ul ul' : List Tup2) s', m' (Str.ofString "given") = some (.ref D) → (∀ z, z ≠ Str.ofString "given" → m' z = m z) → (∀ x ∈ ul', x ∈ ul) → ul'.map (fun x => (x.2.1, x.2.2.2)) = wl b0 b1 b2 x0 x1 x2 →
      St base os₀ ((D, lstA (ul'.map fun x => .ref x.1)) :: (tupLed ul ++ ((L, nsA m') :: (d, dctA (strKind prog w) (wl b0 b1 b2 x0 x1 x2)) :: rest))) s' → wpAny (model prog w) A (execs (turn11.drop 15) (lawEnv11 nam L fA cd)) Q E s') :
    wpAny (model prog w) A (execs (turn11.drop 14) (lawEnv11 nam L fA cd)) Q E s := by
  obtain ⟨o₀, hsys⟩ := G.gr.sys
  refine wpAny_execs_cons (wpAny_Assign_Name (wpAny_Call_ofName (nm_b H G.gr.g G.gr.b G.n3 G.b3 (callWith_builtin rfl (evalArgs_plain (spliced_cons (wpAny_Call_method0_late rfl rfl (nm_l H (.head _) hw (d_items H hsys (.tail _ (.head _)) fun i s₂ H₂ => spliced_nil ?_)))))))))
  refine sorted_wl hh H₂ (.head _) (.tail _ (.tail _ (.head _))) fun D ul ul' s₃ hs2 ho2 H₃ => st_g H₃ (fun _ => .tail (Up.app (.tail .head) (tupLed ul))) fun m' s₄ e' k' H₄ => ?_
  exact h m' D ul ul' s₄ e' k' hs2 ho2 (H₄.sub (.cons_cons _ (List.Sublist.append (.refl _) (.cons _ (.refl _)))))
set_option maxHeartbeats 3200000 in
theorem rowsN_b {Q : Flow → Shared → Prop} (G : G11 base mg mb fG fT fN u gd td nd) (hh : A.handled = none) (hu : A.units + 10 < cLine) (hcs : cs.length ≤ 900) (hR : Rec v b0 b1 b2 x0 x1 x2 (.str (Str.ofString "left out") tl0) k vv X xl) (ht : lamTakes k b0 b1 b2 = true)
    (hk : m (Str.ofString "kind") = some (.int (k : Nat) t)) (hw : m (Str.ofString "words") = some (.ref d)) (hv : m (Str.ofString "place") = some v)
    (H : St base os₀ ((L, nsA m) :: (d, dctA (strKind prog w) (wl b0 b1 b2 x0 x1 x2)) :: rest) s) (hcell : (L + 1, celA (some (.ref cl))) ∈ rest) (hcl : (cl, lstA (cs ++ [.ref r])) ∈ rest) (mr : (r, lstA [.int (k : Nat) tr, vv, .ref x]) ∈ rest) (mx : (x, lstA X) ∈ rest) (mxl : ∀ p ∈ xl, p ∈ rest)
    (h : ∀ m' s', m' (Str.ofString "lookups") = m (Str.ofString "lookups") → St base os₀ ((L, nsA m') :: (d, dctA (strKind prog w) (wl b0 b1 b2 x0 x1 x2)) :: rest) s' → Q .next s') :
    wpAny (model prog w) A (execs (turn11.drop 14) (lawEnv11 nam L fA cd)) Q E s := by
  obtain ⟨o₀, hsys⟩ := G.gr.sys
  refine given_row G hh hw H fun m₁ D ul ul' s₁ e₁ k₁ hs2 ho2 H₁ => ?_
  have hk₁ := (k₁ (Str.ofString "kind") (by decide)).trans hk
  have hw₁ := (k₁ (Str.ofString "words") (by decide)).trans hw
  have hv₁ := (k₁ (Str.ofString "place") (by decide)).trans hv
  have mL : (L, nsA m₁) ∈ ((D, lstA (ul'.map fun x => .ref x.1)) :: (tupLed ul ++ ((L, nsA m₁) :: (d, dctA (strKind prog w) (wl b0 b1 b2 x0 x1 x2)) :: rest))) := .tail _ (List.mem_append_right _ (.head _))
  have mD : (d, dctA (strKind prog w) (wl b0 b1 b2 x0 x1 x2)) ∈ ((D, lstA (ul'.map fun x => .ref x.1)) :: (tupLed ul ++ ((L, nsA m₁) :: (d, dctA (strKind prog w) (wl b0 b1 b2 x0 x1 x2)) :: rest))) := .tail _ (List.mem_append_right _ (.tail _ (.head _)))
  have up : ∀ (pre : Led) m', Up L (nsA m₁) (nsA m') (pre ++ ((D, lstA (ul'.map fun x => .ref x.1)) :: (tupLed ul ++ ((L, nsA m₁) :: (d, dctA (strKind prog w) (wl b0 b1 b2 x0 x1 x2)) :: rest)))) (pre ++ ((D, lstA (ul'.map fun x => .ref x.1)) :: (tupLed ul ++ ((L, nsA m') :: (d, dctA (strKind prog w) (wl b0 b1 b2 x0 x1 x2)) :: rest)))) :=
    fun pre m' => Up.app (.tail (Up.app .head (tupLed ul))) pre
  have fin : ∀ (pre : Led) m₂ s₂ o x' vv' X' t2, m₂ (Str.ofString "told") = some (.ref o) → (∀ z, z ≠ Str.ofString "told" → m₂ z = m₁ z) →
      St base os₀ (pre ++ ((D, lstA (ul'.map fun x => .ref x.1)) :: (tupLed ul ++ ((L, nsA m₂) :: (d, dctA (strKind prog w) (wl b0 b1 b2 x0 x1 x2)) :: rest)))) s₂ →
      (o, lstA [.int (k : Nat) t2, vv', .ref x']) ∈ pre → (x', lstA X') ∈ (pre ++ ((D, lstA (ul'.map fun x => .ref x.1)) :: (tupLed ul ++ ((L, nsA m₂) :: (d, dctA (strKind prog w) (wl b0 b1 b2 x0 x1 x2)) :: rest)))) → X.length = X'.length →
      (∀ s', St base os₀ (pre ++ ((D, lstA (ul'.map fun x => .ref x.1)) :: (tupLed ul ++ ((L, nsA m₂) :: (d, dctA (strKind prog w) (wl b0 b1 b2 x0 x1 x2)) :: rest)))) s' → EqW prog w A.in1 s' vv vv' true ∧ ∀ p ∈ X.zip X', EqW prog w A.in1.in1 s' p.1 p.2 true) →
      wpAny (model prog w) A (execs (turn11.drop 16) (lawEnv11 nam L fA cd)) Q E s₂ := fun pre m₂ s₂ o x' vv' X' t2 e2 k2 H₂ mo mx' el hE => by
    have inR : ∀ p ∈ rest, p ∈ (pre ++ ((D, lstA (ul'.map fun x => .ref x.1)) :: (tupLed ul ++ ((L, nsA m₂) :: (d, dctA (strKind prog w) (wl b0 b1 b2 x0 x1 x2)) :: rest)))) := fun p hp => List.mem_append_right _ (.tail _ (List.mem_append_right _ (.tail _ (.tail _ hp))))
    refine row16 hcs hu e2 H₂ (List.mem_append_right _ (.tail _ (List.mem_append_right _ (.head _)))) (inR _ hcell) (inR _ hcl) (inR _ mr) (List.mem_append_left _ mo) (inR _ mx) mx' (hE s₂ H₂).1 el hE fun s₃ H₃ => ?_
    refine h m₂ s₃ ((k2 _ (by decide)).trans (k₁ _ (by decide))) (H₃.sub ?_)
    exact (List.Sublist.cons _ (List.sublist_append_right _ _)).trans (List.sublist_append_right _ _)
  have mL₂ : ∀ (p q : Addr × Asn), (L, nsA m₁) ∈ (p :: q :: (D, lstA (ul'.map fun x => .ref x.1)) :: (tupLed ul ++ ((L, nsA m₁) :: (d, dctA (strKind prog w) (wl b0 b1 b2 x0 x1 x2)) :: rest))) := fun _ _ => .tail _ (.tail _ mL)
  cases hR with
  | r0 =>
    refine wpAny_execs_cons (wpAny_If (wpAny_isTrue_Compare1 (nm_l H₁ mL hk₁ (c_int H₁ fun t2 s₂ H₂ => PyProof.Rows.eq_int (wpAny_truthy_bool (ite_pos (by decide) (wpAny_execs_cons (wpAny_Assign_Name (List_ (wpAny_items_cons (c_int H₂ fun t3 s₃ H₃ => wpAny_items_cons (nm_l H₃ mL hv₁ (wpAny_items_cons (List_ (wpAny_items_nil (new_list H₃ fun x' s₄ H₄ => wpAny_items_nil (new_list H₄ fun o s₅ H₅ => ?_)))))))))))))))))
    exact st_g H₅ (up [_, _]) fun m₂ s₆ e₂ k₂ H₆ => wpAny_execs_nil (fin [_, _] m₂ s₆ o x' v [] t3 e₂ k₂ H₆ (.head _) (.tail _ (.head _)) rfl fun s' H' => ⟨EqW.self _, fun p hp => by simp at hp⟩)
  | r1 =>
    have hb : b1 = false ∧ b2 = false := by revert ht; cases b0 <;> cases b1 <;> cases b2 <;> decide
    refine wpAny_execs_cons (wpAny_If (wpAny_isTrue_Compare1 (nm_l H₁ mL hk₁ (c_int H₁ fun t2 s₂ H₂ => PyProof.Rows.eq_int (wpAny_truthy_bool (ite_neg (by decide) (wpAny_execs_cons (wpAny_If (wpAny_isTrue_Compare1 (nm_l H₂ mL hk₁ (c_int H₂ fun t3 s₃ H₃ => PyProof.Rows.eq_int (wpAny_truthy_bool (ite_pos (by decide) (wpAny_execs_cons (wpAny_Assign_Name (List_ (wpAny_items_cons (c_int H₃ fun t4 s₄ H₄ => wpAny_items_cons (nm_l H₄ mL hv₁ (wpAny_items_cons (List_ (wpAny_items_cons ?_))))))))))))))))))))))
    refine wpAny_Call_method2_late rfl rfl rfl (nm_l H₄ mL hw₁ (d_get H₄ hsys mD (c_str H₄ fun t5 s₅ H₅ => c_str H₅ fun t6 s₆ H₆ => ⟨_, _, rfl, H₆, fun s₇ H₇ => wpAny_items_nil (new_list H₇ fun x' s₈ H₈ => wpAny_items_nil (new_list H₈ fun o s₉ H₉ => ?_))⟩)))
    refine st_g H₉ (up [_, _]) fun m₂ s₁₀ e₂ k₂ H₁₀ => wpAny_execs_nil (wpAny_execs_nil (fin [_, _] m₂ s₁₀ o x' v _ t4 e₂ k₂ H₁₀ (.head _) (.tail _ (.head _)) rfl fun s' H' => ⟨EqW.self _, fun p hp => ?_⟩))
    simp only [List.zip_cons_cons, List.zip_nil_right, List.mem_cons, List.not_mem_nil, or_false] at hp
    subst hp
    obtain ⟨rfl, rfl⟩ := hb
    cases b0 with
    | true => exact EqW.self _
    | false =>
      have := SeqAt.EqAt.str_str (A := A.in1.in1) (s := s') (Str.ofString "left out") tl0 (Str.ofString "left out") t6
      rw [beq_self_eq_true] at this
      exact EqW.of this
  | r2 tl tl' g1 g2 =>
    refine wpAny_execs_cons (wpAny_If (wpAny_isTrue_Compare1 (nm_l H₁ mL hk₁ (c_int H₁ fun t2 s₂ H₂ => PyProof.Rows.eq_int (wpAny_truthy_bool (ite_neg (by decide) (wpAny_execs_cons (wpAny_If (wpAny_isTrue_Compare1 (nm_l H₂ mL hk₁ (c_int H₂ fun t3 s₃ H₃ => PyProof.Rows.eq_int (wpAny_truthy_bool (ite_neg (by decide) ?_)))))))))))))
    refine wpAny_execs_cons (wpAny_If (wpAny_isTrue_Compare1 (nm_l H₃ mL hk₁ (c_int H₃ fun t4 s₄ H₄ => PyProof.Rows.eq_int (wpAny_truthy_bool (ite_pos (by decide) (wpAny_execs_cons (wpAny_Assign_Name (List_ (wpAny_items_cons (c_int H₄ fun t5 s₅ H₅ => wpAny_items_cons (nm_l H₅ mL hv₁ (wpAny_items_cons (nm_l H₅ mL e₁ (wpAny_items_nil (new_list H₅ fun o s₆ H₆ => ?_))))))))))))))))
    refine st_g H₆ (up [_]) fun m₂ s₇ e₂ k₂ H₇ => wpAny_execs_nil (wpAny_execs_nil (wpAny_execs_nil ?_))
    have m1 : ∀ p ∈ tupLed tl, p ∈ ([(o, lstA [.int 2 t5, v, .ref D])] ++ ((D, lstA (ul'.map fun x => .ref x.1)) :: (tupLed ul ++ ((L, nsA m₂) :: (d, dctA (strKind prog w) (wl b0 b1 b2 x0 x1 x2)) :: rest)))) := fun p hp => List.mem_append_right _ (.tail _ (List.mem_append_right _ (.tail _ (.tail _ (mxl p hp)))))
    have m2 : ∀ p ∈ tupLed ul, p ∈ ([(o, lstA [.int 2 t5, v, .ref D])] ++ ((D, lstA (ul'.map fun x => .ref x.1)) :: (tupLed ul ++ ((L, nsA m₂) :: (d, dctA (strKind prog w) (wl b0 b1 b2 x0 x1 x2)) :: rest)))) := fun p hp => List.mem_append_right _ (.tail _ (List.mem_append_left _ hp))
    exact fin [_] m₂ s₇ o D v _ t5 e₂ k₂ H₇ (.head _) (.tail _ (.head _)) (eq_items (prog := prog) (w := w) (A := A.in1.in1) H₇ (by show A.units + 1 + 1 < _; omega) g1 hs2 m1 m2 g2 ho2).1 fun s' H' => ⟨EqW.self _, (eq_items (A := A.in1.in1) H' (by show A.units + 1 + 1 < _; omega) g1 hs2 m1 m2 g2 ho2).2⟩
  | r3 =>
    have hb : b0 = false ∧ b1 = true ∧ b2 = false := by revert ht; cases b0 <;> cases b1 <;> cases b2 <;> decide
    have hval : valueAt (wl b0 b1 b2 x0 x1 x2) (Str.ofString "b") = some x1 := by obtain ⟨rfl, rfl, rfl⟩ := hb; rfl
    refine wpAny_execs_cons (wpAny_If (wpAny_isTrue_Compare1 (nm_l H₁ mL hk₁ (c_int H₁ fun t2 s₂ H₂ => PyProof.Rows.eq_int (wpAny_truthy_bool (ite_neg (by decide) (wpAny_execs_cons (wpAny_If (wpAny_isTrue_Compare1 (nm_l H₂ mL hk₁ (c_int H₂ fun t3 s₃ H₃ => PyProof.Rows.eq_int (wpAny_truthy_bool (ite_neg (by decide) ?_)))))))))))))
    refine wpAny_execs_cons (wpAny_If (wpAny_isTrue_Compare1 (nm_l H₃ mL hk₁ (c_int H₃ fun t4 s₄ H₄ => PyProof.Rows.eq_int (wpAny_truthy_bool (ite_neg (by decide) (wpAny_execs_cons (wpAny_If (wpAny_isTrue_Compare1 (nm_l H₄ mL hk₁ (c_int H₄ fun t5 s₅ H₅ => PyProof.Rows.eq_int (wpAny_truthy_bool (ite_pos (by decide) ?_)))))))))))))
    refine wpAny_execs_cons (wpAny_Assign_Name (List_ (wpAny_items_cons (c_int H₅ fun t6 s₆ H₆ => wpAny_items_cons (nm_l H₆ mL hv₁ (wpAny_items_cons (List_ (wpAny_items_cons (Subscript_ (nm_l H₆ mL hw₁ (c_str H₆ fun t7 s₇ H₇ => d_item H₇ mD hval fun s₈ H₈ => wpAny_items_nil (new_list H₈ fun x' s₉ H₉ => wpAny_items_nil (new_list H₉ fun o s₁₀ H₁₀ => ?_)))))))))))))
    refine st_g H₁₀ (up [_, _]) fun m₂ s₁₁ e₂ k₂ H₁₁ => wpAny_execs_nil (wpAny_execs_nil (wpAny_execs_nil (wpAny_execs_nil (fin [_, _] m₂ s₁₁ o x' v _ t6 e₂ k₂ H₁₁ (.head _) (.tail _ (.head _)) rfl fun s' H' => ⟨EqW.self _, fun p hp => ?_⟩))))
    simp only [List.zip_cons_cons, List.zip_nil_right, List.mem_cons, List.not_mem_nil, or_false] at hp
    subst hp
    exact EqW.self _
  | r4 p tl tl' g1 g2 =>
    refine wpAny_execs_cons (wpAny_If (wpAny_isTrue_Compare1 (nm_l H₁ mL hk₁ (c_int H₁ fun t2 s₂ H₂ => PyProof.Rows.eq_int (wpAny_truthy_bool (ite_neg (by decide) (wpAny_execs_cons (wpAny_If (wpAny_isTrue_Compare1 (nm_l H₂ mL hk₁ (c_int H₂ fun t3 s₃ H₃ => PyProof.Rows.eq_int (wpAny_truthy_bool (ite_neg (by decide) ?_)))))))))))))
    refine wpAny_execs_cons (wpAny_If (wpAny_isTrue_Compare1 (nm_l H₃ mL hk₁ (c_int H₃ fun t4 s₄ H₄ => PyProof.Rows.eq_int (wpAny_truthy_bool (ite_neg (by decide) (wpAny_execs_cons (wpAny_If (wpAny_isTrue_Compare1 (nm_l H₄ mL hk₁ (c_int H₄ fun t5 s₅ H₅ => PyProof.Rows.eq_int (wpAny_truthy_bool (ite_neg (by decide) ?_)))))))))))))
    refine wpAny_execs_cons (wpAny_Assign_Name (List_ (wpAny_items_cons (c_int H₅ fun t6 s₆ H₆ => wpAny_items_cons (Tuple_ (wpAny_items_cons (nm_l H₆ mL hv₁ (wpAny_items_nil (new_tuple H₆ fun p' s₇ H₇ => wpAny_items_cons (nm_l H₇ (.tail _ mL) e₁ (wpAny_items_nil (new_list H₇ fun o s₈ H₈ => ?_))))))))))))
    refine st_g H₈ (up [_, _]) fun m₂ s₉ e₂ k₂ H₉ => wpAny_execs_nil (wpAny_execs_nil (wpAny_execs_nil (wpAny_execs_nil ?_)))
    have m1 : ∀ q ∈ tupLed tl, q ∈ ([(o, lstA [.int 4 t6, .ref p', .ref D]), (p', tupA [v])] ++ ((D, lstA (ul'.map fun x => .ref x.1)) :: (tupLed ul ++ ((L, nsA m₂) :: (d, dctA (strKind prog w) (wl b0 b1 b2 x0 x1 x2)) :: rest)))) := fun q hq => List.mem_append_right _ (.tail _ (List.mem_append_right _ (.tail _ (.tail _ (mxl q (List.mem_append_left _ hq))))))
    have m2 : ∀ q ∈ tupLed ul, q ∈ ([(o, lstA [.int 4 t6, .ref p', .ref D]), (p', tupA [v])] ++ ((D, lstA (ul'.map fun x => .ref x.1)) :: (tupLed ul ++ ((L, nsA m₂) :: (d, dctA (strKind prog w) (wl b0 b1 b2 x0 x1 x2)) :: rest)))) := fun q hq => List.mem_append_right _ (.tail _ (List.mem_append_left _ hq))
    have m3 : (p, tupA [v]) ∈ ([(o, lstA [.int 4 t6, .ref p', .ref D]), (p', tupA [v])] ++ ((D, lstA (ul'.map fun x => .ref x.1)) :: (tupLed ul ++ ((L, nsA m₂) :: (d, dctA (strKind prog w) (wl b0 b1 b2 x0 x1 x2)) :: rest)))) := List.mem_append_right _ (.tail _ (List.mem_append_right _ (.tail _ (.tail _ (mxl _ (List.mem_append_right _ (.head _)))))))
    have m4 : (p', tupA [v]) ∈ ([(o, lstA [.int 4 t6, .ref p', .ref D]), (p', tupA [v])] ++ ((D, lstA (ul'.map fun x => .ref x.1)) :: (tupLed ul ++ ((L, nsA m₂) :: (d, dctA (strKind prog w) (wl b0 b1 b2 x0 x1 x2)) :: rest)))) := .tail _ (.head _)
    refine fin [_, _] m₂ s₉ o D (.ref p') _ t6 e₂ k₂ H₉ (.head _) (.tail _ (.tail _ (.head _))) (eq_items (prog := prog) (w := w) (A := A.in1.in1) H₉ (by show A.units + 1 + 1 < _; omega) g1 hs2 m1 m2 g2 ho2).1 fun s' H' => ⟨?_, (eq_items (A := A.in1.in1) H' (by show A.units + 1 + 1 < _; omega) g1 hs2 m1 m2 g2 ho2).2⟩
    by_cases hne : p = p'
    · subst hne; exact EqW.self _
    · refine EqW.tups (vs := [v]) (us := [v]) hne (H'.isTup m3) (H'.isTup m4) rfl (by show A.units + 1 < _; omega) fun z hz => ?_
      simp only [List.zip_cons_cons, List.zip_nil_right, List.mem_cons, List.not_mem_nil, or_false] at hz
      subst hz
      exact EqW.self _
end
end Mine

namespace Mine
open PySem PySem.W PyProof.Rows PySem.Calls PySem.Spec
/-- the words after some turns of the inner loop -/
def WP (i : Nat) (kvs : List (Str × Value)) : Prop := ∃ b0 b1 b2 b3 b4 x0 x1 x2 x3 x4, kvs = wl5 b0 b1 b2 b3 b4 x0 x1 x2 x3 x4 ∧ (i ≤ 0 → b0 = false) ∧ (i ≤ 1 → b1 = false) ∧ (i ≤ 2 → b2 = false) ∧ (i ≤ 3 → b3 = false) ∧ (i ≤ 4 → b4 = false)
def keyAt : Nat → Str | 0 => kA | 1 => kB | 2 => kI | 3 => kGN | _ => kNI
theorem WP.zero : WP 0 [] := ⟨false, false, false, false, false, .none, .none, .none, .none, .none, rfl, fun _ => rfl, fun _ => rfl, fun _ => rfl, fun _ => rfl, fun _ => rfl⟩
theorem WP.skip {i : Nat} {kvs : List (Str × Value)} (h : WP i kvs) : WP (i + 1) kvs := by
  obtain ⟨b0, b1, b2, b3, b4, x0, x1, x2, x3, x4, e, h0, h1, h2, h3, h4⟩ := h
  exact ⟨b0, b1, b2, b3, b4, x0, x1, x2, x3, x4, e, fun q => h0 (by omega), fun q => h1 (by omega), fun q => h2 (by omega), fun q => h3 (by omega), fun q => h4 (by omega)⟩
theorem WP.len {i : Nat} {kvs : List (Str × Value)} (h : WP i kvs) : kvs.length ≤ 5 := by
  obtain ⟨b0, b1, b2, b3, b4, x0, x1, x2, x3, x4, rfl, _⟩ := h; exact wl5_len ..
theorem WP.put {i : Nat} {kvs : List (Str × Value)} (hi : i < 5) (v : Value) (h : WP i kvs) : WP (i + 1) (stored kvs (keyAt i) v) := by
  obtain ⟨b0, b1, b2, b3, b4, x0, x1, x2, x3, x4, rfl, h0, h1, h2, h3, h4⟩ := h
  rcases (by omega : i = 0 ∨ i = 1 ∨ i = 2 ∨ i = 3 ∨ i = 4) with rfl | rfl | rfl | rfl | rfl
  · obtain rfl := h0 (by omega); obtain rfl := h1 (by omega); obtain rfl := h2 (by omega); obtain rfl := h3 (by omega); obtain rfl := h4 (by omega)
    exact ⟨true, false, false, false, false, v, x1, x2, x3, x4, rfl, fun q => by omega, fun _ => rfl, fun _ => rfl, fun _ => rfl, fun _ => rfl⟩
  · obtain rfl := h1 (by omega); obtain rfl := h2 (by omega); obtain rfl := h3 (by omega); obtain rfl := h4 (by omega)
    refine ⟨b0, true, false, false, false, x0, v, x2, x3, x4, ?_, fun q => by omega, fun q => by omega, fun _ => rfl, fun _ => rfl, fun _ => rfl⟩
    cases b0 <;> rfl
  · obtain rfl := h2 (by omega); obtain rfl := h3 (by omega); obtain rfl := h4 (by omega)
    refine ⟨b0, b1, true, false, false, x0, x1, v, x3, x4, ?_, fun q => by omega, fun q => by omega, fun q => by omega, fun _ => rfl, fun _ => rfl⟩
    cases b0 <;> cases b1 <;> rfl
  · obtain rfl := h3 (by omega); obtain rfl := h4 (by omega)
    refine ⟨b0, b1, b2, true, false, x0, x1, x2, v, x4, ?_, fun q => by omega, fun q => by omega, fun q => by omega, fun q => by omega, fun _ => rfl⟩
    cases b0 <;> cases b1 <;> cases b2 <;> rfl
  · obtain rfl := h4 (by omega)
    refine ⟨b0, b1, b2, b3, true, x0, x1, x2, x3, v, ?_, fun q => by omega, fun q => by omega, fun q => by omega, fun q => by omega, fun q => by omega⟩
    cases b0 <;> cases b1 <;> cases b2 <;> cases b3 <;> rfl
section
variable {prog : Program} {w : World} {A : Around} {E : Value → Shared → Prop} {s : Shared} {base : Heap} {os₀ : OsState} {rest : Led} {mg mb : Str → Option Value} {fG fT fN u d L fA cl : Addr} {gd td nd : FuncData} {m : Str → Option Value} {nam : Str} {cd : Value} {n : Int} {tn : Tok} {cs : List Value}
/-- row 2 of the turn: the words -/
theorem words_row {Q : Flow → Shared → Prop} (G : G11 base mg mb fG fT fN u gd td nd) (R : Room prog w A base) (hn : m (Str.ofString "n") = some (.int n tn)) (hw : m (Str.ofString "words") = some (.ref d))
    (H : St base os₀ ((L, nsA m) :: (d, dctA (strKind prog w) []) :: rest) s)
    (h : ∀ m' kvs s', WP 5 kvs → (∀ z, z ≠ Str.ofString "i" → m' z = m z) → St base os₀ ((L, nsA m') :: (d, dctA (strKind prog w) kvs) :: rest) s' → Q .next s') :
    wpAny (model prog w) A (exec (nth 2 turn11) (lawEnv11 nam L fA cd)) Q E s := by
  have hh := R.handled
  refine for_range (n := 5) (base := base) (os₀ := os₀) (t1 := 0) (t := 0) (t2 := 0) (r := 0) (fun i ld => ∃ m₁ kvs, WP i kvs ∧ (∀ z, z ≠ Str.ofString "i" → m₁ z = m z) ∧ ld = (L, nsA m₁) :: (d, dctA (strKind prog w) kvs) :: rest) hh (by decide) ?_ ?_ ?_
  · refine wpAny_Call_ofName (nm_b H G.gr.g G.gr.b G.n1 G.b1 (callWith_excType rfl (evalArgs_plain (spliced_cons (c_int (k := 0) (pos := ⟨39, 23, 39, 24⟩) H fun t1 s₁ H₁ => spliced_nil (r_new (n := 5) H₁ fun rr s₂ H₂ => ?_))))))
    obtain ⟨v1, v2, H₂⟩ := H₂
    exact ⟨rr, v1, t1, v2, _, rfl, H₂, m, [], .zero, fun _ _ => rfl, rfl⟩
  · rintro I i v ld s₁ E' hi ⟨ti, rfl⟩ ⟨m₁, kvs, hW, hm₁, rfl⟩ H₁
    refine wpAny_assign_Name (st_g H₁ (fun _ => .tail .head) fun m₂ s₂ e₂ k₂ H₂ => ?_)
    have hm₂ : ∀ z, z ≠ Str.ofString "i" → m₂ z = m z := fun z hz => (k₂ z hz).trans (hm₁ z hz)
    have hn₂ := (hm₂ _ (by decide)).trans hn
    have hw₂ := (hm₂ _ (by decide)).trans hw
    have mL : (L, nsA m₂) ∈ ((I, rngA 5 (i + 1)) :: (L, nsA m₂) :: (d, dctA (strKind prog w) kvs) :: rest) := .tail _ (.head _)
    refine wpAny_execs_cons (wpAny_If (wpAny_isTrue_value (wpAny_BinOp (wpAny_BinOp (wpAny_BinOp (nm_l H₂ mL hn₂ (c_int H₂ fun t1 s₃ H₃ => i_fdiv R H₃ (by decide) fun t2 s₄ H₄ => wpAny_BinOp (c_int H₄ fun t3 s₅ H₅ => nm_l H₅ mL e₂ (i_pow H₅ (by decide) (by decide) (by omega) (by omega) fun t4 s₆ H₆ => i_fdiv R H₆ (by
      have : (0 : Int) < 2 ^ ((i : Int)).toNat := by exact Int.pow_pos (by decide)
      omega) fun t5 s₇ H₇ => c_int H₇ fun t6 s₈ H₈ => i_mod H₈ (by decide) fun t7 s₉ H₉ => PySem.P.truthy_int ?_)))))))))
    by_cases hb : (((n.fdiv 8).fdiv (2 ^ ((i : Int)).toNat)).fmod 2 != 0) = true
    · refine ite_pos hb (wpAny_execs_cons (wpAny_Assign_Subscript (wpAny_BinOp (wpAny_BinOp (wpAny_BinOp (nm_l H₉ mL hn₂ (c_int H₉ fun t8 s₁₀ H₁₀ => i_fdiv R H₁₀ (by decide) fun t9 s₁₁ H₁₁ => c_int H₁₁ fun t10 s₁₂ H₁₂ => i_mod H₁₂ (by decide) fun t11 s₁₃ H₁₃ => nm_l H₁₃ mL e₂ (i_add H₁₃ fun t12 s₁₄ H₁₄ => nm_l H₁₄ mL hw₂ (Subscript_ (List_ (wpAny_items_cons (c_str H₁₄ fun u0 s₁₅ H₁₅ => wpAny_items_cons (c_str H₁₅ fun u1 s₁₆ H₁₆ => wpAny_items_cons (c_str H₁₆ fun u2 s₁₇ H₁₇ => wpAny_items_cons (c_str H₁₇ fun u3 s₁₈ H₁₈ => wpAny_items_cons (c_str H₁₈ fun u4 s₁₉ H₁₉ => wpAny_items_nil (new_list H₁₉ (fun l s₂₀ H₂₀ => ?_) (by show 5 ≤ sizeLine; decide))))))))))))))))))
      have hkey : ∃ tk, ([.str (Str.ofString "a") u0, .str (Str.ofString "b") u1, .str (Str.ofString "index") u2, .str (Str.ofString "get_name") u3, .str (Str.ofString "name_index") u4] : List Value)[i]? = some (.str (keyAt i) tk) := by
        rcases (by omega : i = 0 ∨ i = 1 ∨ i = 2 ∨ i = 3 ∨ i = 4) with rfl | rfl | rfl | rfl | rfl <;> exact ⟨_, rfl⟩
      obtain ⟨tk, hkey⟩ := hkey
      refine nm_l H₂₀ (.tail _ mL) e₂ (item_l (x := .str (keyAt i) tk) H₂₀ (.head _) (by omega) (by omega) (by simpa using hkey) ?_)
      refine set_item H₂₀ (.tail (.tail (.tail .head))) (fun s₂₁ H₂₁ => wpAny_execs_nil (wpAny_execs_nil ⟨_, ⟨m₂, _, hW.put hi _, hm₂, rfl⟩, H₂₁.sub (.cons _ (.refl _))⟩)) (Nat.le_trans hW.len (by decide))
    · exact ite_neg hb (wpAny_execs_nil (wpAny_execs_nil ⟨_, ⟨m₂, kvs, hW.skip, hm₂, rfl⟩, H₉⟩))
  · rintro ld s₁ ⟨m₁, kvs, hW, hm₁, rfl⟩ H₁
    exact h m₁ kvs s₁ hW hm₁ H₁
end
end Mine

namespace Mine
open PySem PySem.W PyProof.Rows PySem.Calls PySem.Spec
section
variable {prog : Program} {w : World} {A : Around} {E : Value → Shared → Prop} {s : Shared} {base : Heap} {os₀ : OsState} {tl : Led} {mg mb : Str → Option Value} {fG fT fN u L lk fA cl : Addr} {gd td nd : FuncData} {m : Str → Option Value} {nam qual : Str} {cd pm : Value} {n : Int} {tn t0 t1 tl0 : Tok} {cs : List Value} {K : Lams}
/-- rows 0 to 6 of the turn -/
theorem turn_a {Q : Flow → Shared → Prop} (G : G11 base mg mb fG fT fN u gd td nd) (R : Room prog w A base) (hcs : cs.length ≤ 900) (hn : m (Str.ofString "n") = some (.int n tn)) (hcell : (L + 1, celA (some (.ref cl))) ∈ tl)
    (H : St base os₀ ((L, nsA m) :: (cl, lstA cs) :: tl) s)
    (h : ∀ m' d kvs (k : Nat) t tb s', k < 8 → WP 5 kvs → m' (Str.ofString "n") = some (.int n tn) → m' (Str.ofString "place") = some (.int n tn) → m' (Str.ofString "kind") = some (.int (k : Nat) t) → m' (Str.ofString "words") = some (.ref d) → m' (Str.ofString "before") = some (.int (cs.length : Nat) tb) →
      m' (Str.ofString "refused") = some (.bool false) → m' (Str.ofString "lookups") = m (Str.ofString "lookups") → St base os₀ ((L, nsA m') :: (d, dctA (strKind prog w) kvs) :: (cl, lstA cs) :: tl) s' → wpC (model prog w) A (execs (turn11.drop 7) (lawEnv11 nam L fA cd)) Q E s') :
    wpC (model prog w) A (execs turn11 (lawEnv11 nam L fA cd)) Q E s := by
  obtain ⟨k, hk, hk8⟩ : ∃ k : Nat, n.fmod 8 = (k : Nat) ∧ k < 8 := ⟨(n.fmod 8).toNat, by have := Int.fmod_nonneg_of_pos n (b := 8) (by decide); omega, by have := Int.fmod_lt_of_pos n (b := 8) (by decide); have := Int.fmod_nonneg_of_pos n (b := 8) (by decide); omega⟩
  refine execsC_step (wpAny_Assign_Name (wpAny_BinOp (nm_l H (.head _) hn (c_int H fun u1 s₁ H₁ => i_mod H₁ (by decide) fun u2 s₂ H₂ => st_g H₂ (fun _ => .head) fun m₁ s₃ e₁ k₁ H₃ => ?_))))
  rw [hk] at e₁
  refine execsC_step (wpAny_Assign_Name (new_dict H₃ fun d s₄ H₄ => st_g H₄ (fun _ => .tail .head) fun m₂ s₅ e₂ k₂ H₅ => ?_))
  have hn₂ : m₂ (Str.ofString "n") = some (.int n tn) := (k₂ _ (by decide)).trans ((k₁ _ (by decide)).trans hn)
  refine execsC_step (words_row G R hn₂ e₂ (H₅.perm (.swap ..)) fun m₃ kvs s₆ hW hm₃ H₆ => ?_)
  have hn₃ := (hm₃ _ (by decide)).trans hn₂
  refine execsC_step (wpAny_Assign_Name (nm_l H₆ (.head _) hn₃ (st_g H₆ (fun _ => .head) fun m₄ s₇ e₄ k₄ H₇ => ?_)))
  refine execsC_step (wpAny_Assign_Name (wpAny_Call_ofName (nm_b H₇ G.gr.g G.gr.b G.n2 G.b2 (callWith_builtin rfl (evalArgs_plain (spliced_cons (nm_c H₇ rfl (.tail _ (.tail _ (.tail _ hcell))) (spliced_nil (len_l H₇ (.tail _ (.tail _ (.head _))) (by omega) fun tb s₈ H₈ => st_g H₈ (fun _ => .head) fun m₅ s₉ e₅ k₅ H₉ => ?_)))))))))
  refine execsC_step (wpAny_Assign_Name (wpAny_Constant_bool (st_g H₉ (fun _ => .head) fun m₆ s₁₀ e₆ k₆ H₁₀ => ?_)))
  refine execsC_step (wpAny_Assign_Name (Tuple_ (wpAny_items_nil (new_tuple H₁₀ fun p s₁₁ H₁₁ => st_g H₁₁ (fun _ => .tail .head) fun m₇ s₁₂ e₇ k₇ H₁₂ => ?_))))
  refine h m₇ d kvs k u2 tb s₁₂ hk8 hW ?_ ?_ ?_ ?_ ?_ ?_ ?_ (H₁₂.sub (.cons _ (.refl _)))
  · exact (k₇ _ (by decide)).trans ((k₆ _ (by decide)).trans ((k₅ _ (by decide)).trans ((k₄ _ (by decide)).trans hn₃)))
  · exact (k₇ _ (by decide)).trans ((k₆ _ (by decide)).trans ((k₅ _ (by decide)).trans e₄))
  · exact (k₇ _ (by decide)).trans ((k₆ _ (by decide)).trans ((k₅ _ (by decide)).trans ((k₄ _ (by decide)).trans ((hm₃ _ (by decide)).trans ((k₂ _ (by decide)).trans e₁)))))
  · exact (k₇ _ (by decide)).trans ((k₆ _ (by decide)).trans ((k₅ _ (by decide)).trans ((k₄ _ (by decide)).trans ((hm₃ _ (by decide)).trans e₂))))
  · exact (k₇ _ (by decide)).trans ((k₆ _ (by decide)).trans e₅)
  · exact (k₇ _ (by decide)).trans e₆
  · exact (k₇ _ (by decide)).trans ((k₆ _ (by decide)).trans ((k₅ _ (by decide)).trans ((k₄ _ (by decide)).trans ((hm₃ _ (by decide)).trans ((k₂ _ (by decide)).trans (k₁ _ (by decide)))))))
end
end Mine

namespace Mine
open PySem PySem.W PyProof.Rows PySem.Calls PySem.Spec
section
variable {prog : Program} {w : World} {A : Around} {E : Value → Shared → Prop} {s : Shared} {base : Heap} {os₀ : OsState} {tl : Led} {mg mb : Str → Option Value} {fG fT fN u L lk fA cl : Addr} {gd td nd : FuncData} {m : Str → Option Value} {nam qual : Str} {cd pm : Value} {n : Int} {tn t0 t1 tl0 : Tok} {cs : List Value} {K : Lams}
/-- one turn of law's loop -/
theorem turn11_ok {Q : Flow → Shared → Prop} (G : G11 base mg mb fG fT fN u gd td nd) (R : Room prog w A base) (hcs : cs.length ≤ 900) (hq : qual.toString.length ≤ 1000) (hfr : A.frames = some [lawEnv11 nam L fA cd]) (hlv : K.lv = .str (Str.ofString "left out") tl0)
    (hn : m (Str.ofString "n") = some (.int n tn)) (hlk : m (Str.ofString "lookups") = some (.ref lk)) (hcell : (L + 1, celA (some (.ref cl))) ∈ tl) (mK : (lk, lstA (lkVals K t0 t1)) ∈ tl) (hK : LamsIn K qual (L + 1) pm tl)
    (H : St base os₀ ((L, nsA m) :: (cl, lstA cs) :: tl) s)
    (h : ∀ m' cs' s', m' (Str.ofString "lookups") = some (.ref lk) → cs'.length ≤ cs.length + 1 → St base os₀ ((L, nsA m') :: (cl, lstA cs') :: tl) s' → Q .cont s' ∧ Q .next s') :
    wpC (model prog w) A (execs turn11 (lawEnv11 nam L fA cd)) Q E s := by
  have hun : A.units + 10 < cLine := by have := R.units; omega
  refine turn_a G R hcs hn hcell H fun m₁ d kvs k t tb s₁ hk8 hW hn₁ hv₁ hk₁ hw₁ hb₁ hr₁ hl₁ H₁ => ?_
  obtain ⟨b0, b1, b2, b3, b4, x0, x1, x2, x3, x4, rfl, _⟩ := hW
  have hlk₁ := hl₁.trans hlk
  have inT : ∀ (p : Addr × Asn), p ∈ tl → p ∈ ((cl, lstA cs) :: tl) := fun p hp => .tail _ hp
  refine execsC_cons (try_row (K := K) (rest' := fun r => (cl, lstA (cs ++ [.ref r])) :: tl) G R (by omega) hq hfr hn₁ hv₁ hlk₁ hk₁ hw₁ hk8 H₁ (inT _ mK) (hK.mono inT) (inT _ hcell) (fun r => .head) (fun ht m₂ s₂ e₂ k₂ H₂ => wpC_any ?_) (fun ht h5 m₂ a ta s₂ e₂ k₂ H₂ => wpC_any ?_) fun ht h5 q3 q4 hlt m₂ a r x tr vv X xl s₂ e₂ k₂ hr H₂ => wpC_any ?_)
  · refine rows8 (rf := true) (cs := cs) (cs' := cs) G R (by omega) hk8 ((k₂ _ (by decide)).trans hk₁) ((k₂ _ (by decide)).trans hw₁) e₂ ((k₂ _ (by decide)).trans hb₁) (by rw [ht]; rfl) (by omega) (fun _ => rfl) H₂ (inT _ hcell) (.head _) (fun _ s₃ H₃ => ?_) (fun q => by cases q)
    exact (h m₂ cs s₃ ((k₂ _ (by decide)).trans hlk₁) (by omega) (H₃.sub (.cons_cons _ (.cons _ (.refl _))))).1
  · subst h5
    refine rows8 (rf := false) (cs := cs) (cs' := cs) G R (by omega) hk8 ((k₂ _ (by decide)).trans hk₁) ((k₂ _ (by decide)).trans hw₁) ((k₂ _ (by decide)).trans hr₁) ((k₂ _ (by decide)).trans hb₁) (by rw [ht]; rfl) (by omega) (fun _ => rfl) H₂ (.tail _ (inT _ hcell)) (.tail _ (.head _)) (fun q => by cases q) (fun _ s₃ H₃ => ?_)
    refine rows11 G ((k₂ _ (by decide)).trans hk₁) e₂ H₃ (.head _) (.tail _ (.tail _ (.head _))) fun s₄ H₄ => ?_
    exact (h m₂ cs s₄ ((k₂ _ (by decide)).trans hlk₁) (by omega) (H₄.sub (.cons_cons _ (.cons _ (.cons _ (.refl _)))))).1
  · subst q3 q4
    have hk5 : ¬ (false = true ∨ k = 5) := by rintro (q | q); cases q; omega
    have mcl : ∀ (p q y z : Addr × Asn), (cl, lstA (cs ++ [.ref r])) ∈ (p :: q :: y :: (xl ++ ((cl, lstA (cs ++ [.ref r])) :: tl))) := fun _ _ _ _ => .tail _ (.tail _ (.tail _ (List.mem_append_right _ (.head _))))
    have mce : ∀ (p q y : Addr × Asn), (L + 1, celA (some (.ref cl))) ∈ (p :: q :: y :: (xl ++ ((cl, lstA (cs ++ [.ref r])) :: tl))) := fun _ _ _ => .tail _ (.tail _ (.tail _ (List.mem_append_right _ (.tail _ hcell))))
    refine rows8 (rf := false) (cs := cs) (cs' := cs ++ [.ref r]) G R (by omega) hk8 ((k₂ _ (by decide)).trans hk₁) ((k₂ _ (by decide)).trans hw₁) ((k₂ _ (by decide)).trans hr₁) ((k₂ _ (by decide)).trans hb₁) (by rw [ht]; rfl) (by simp; omega) (fun q => absurd q hk5) H₂ (mce _ _ _) (mcl _ _ _ (L, nsA m₂)) (fun q => by cases q) (fun _ s₃ H₃ => ?_)
    refine rowsN_a (cs := cs) (r := r) G hcs h5 ((k₂ _ (by decide)).trans hk₁) e₂ ((k₂ _ (by decide)).trans hb₁) H₃ (.head _) (.tail _ (.tail _ (.head _))) (.tail _ (.tail _ (mce _ _ _))) (.tail _ (.tail _ (mcl _ _ _ (L, nsA m₂)))) fun s₄ H₄ => ?_
    rw [wl5_ff] at H₄
    rw [hlv] at hr
    refine rowsN_b (cs := cs) (r := r) G R.handled hun hcs hr hlt ((k₂ _ (by decide)).trans hk₁) ((k₂ _ (by decide)).trans hw₁) ((k₂ _ (by decide)).trans hv₁) H₄ (mce _ _ _) (mcl _ _ _ (L, nsA m₂)) (.tail _ (.head _)) (.tail _ (.tail _ (.head _))) (fun p hp => .tail _ (.tail _ (.tail _ (List.mem_append_left _ hp)))) fun m₃ s₅ e₃ H₅ => ?_
    refine (h m₃ (cs ++ [.ref r]) s₅ (e₃.trans ((k₂ _ (by decide)).trans hlk₁)) (by simp) (H₅.sub ?_)).2
    exact .cons_cons _ (.cons _ (.cons _ (.cons _ (.cons _ (List.sublist_append_right _ _)))))
end
end Mine

namespace Mine
open PySem PySem.W PyProof.Rows PySem.Calls PySem.Spec
section
variable {M : Model} {A : Around} {E : Value → Shared → Prop} {s : Shared} {base : Heap} {os₀ : OsState} {led : Led} {env : Env} {mg mb : Str → Option Value} {c P : Addr} {ps : Array Value} {pos : Pos} {firstLine : Nat} {name qual : Str} {params : Arguments} {scope : Scope}
  {clos : List (Str × Addr)} {body : Expr} {Q : Value → Shared → Prop} {dV v : Value}
/-- a lambda with one default is made -/
theorem mk_lam_d {led' : Addr → Led} (H : St base os₀ led s) (G : Gr base mg mb) (C : CodeHd base c P) (hcode : env.code = .ref c) (hge0 : env.globals = mainGlobals) (hcl : closureFor scope env = pure clos)
    (ht : TriplesOk ps.toList) (hnf : codeAmong pos ps.toList = none) (U : ∀ c', Up P (tabA ps) (tabA (ps ++ #[rawInt pos.line, rawInt pos.col, .ref c'])) led (led' c')) (hkw : params.kwonlyargs = [])
    (h : ∀ f c' ctv doc tD s', St base os₀ ((f, objA { cls := .type "function", data := .func { kla_fn name qual params body scope clos ((mg "__name__").getD .none) (.ref c') ctv with defaults := .ref tD, doc := doc } }) :: (c', codeA qual) :: (tD, tupA [v]) :: led' c') s' → Q (.ref f) s') :
    wpAny M A (makeFunction name qual params (.expr body) scope env [v] [] [] pos firstLine) Q E s := by
  have hm := (U 0).mem
  rw [makeFunction_eq]
  simp only [List.zip_nil_right, List.filterMap_nil, List.isEmpty_nil, if_true, List.isEmpty_cons, Bool.false_eq_true, if_false, pure_bind]
  refine wpAny_bind (wpAny_newTextTuple ?_)
  have H₁ := H.push (tk := s.toks) (P := tupA [v]) (o := { cls := .type "tuple", data := .seq [v].toArray }) rfl ⟨0, rfl⟩
  obtain ⟨hgP, hb⟩ := G.builtinsAt H₁ (.tail _ hm)
  obtain ⟨o, ho, rfl⟩ := H₁.get (.tail _ hm)
  refine kdv_makeTail (mg := mg) hcl hge0 (G.g.keeps H₁.keep) hcode (C.keeps H₁.keep) ho ht hnf hgP hb fun c' ctv doc h' tk hx hge hlt hrec htb => ?_
  exact h _ c' ctv doc _ _ (H₁.made (.tail (U c')) hx hge hlt hrec htb rfl)
end
end Mine

namespace Mine
open PySem PySem.W PyProof.Rows PySem.Calls PySem.Spec
section
variable {prog : Program} {w : World} {A : Around} {E : Value → Shared → Prop} {s : Shared} {base : Heap} {os₀ : OsState} {mg mb : Str → Option Value} {fG fT fN u L fA c P : Addr} {gd td nd : FuncData} {m : Str → Option Value} {nam : Str}
set_option maxHeartbeats 8000000 in
/-- the first two rows of law -/
theorem setup11 {Q : Flow → Shared → Prop} (G : G11 base mg mb fG fT fN u gd td nd) (C : CodeHd base c P)
    (H : St base os₀ [(L, nsA m), (L + 1, celA none), (P, tabA #[])] s)
    (h : ∀ m' cl lk K t0 t1 tl0 ps s' tl, m' (Str.ofString "lookups") = some (.ref lk) → (∀ z, z ≠ Str.ofString "lookups" → m' z = m z) → K.lv = .str (Str.ofString "left out") tl0 → (L + 1, celA (some (.ref cl))) ∈ tl → (lk, lstA (lkVals K t0 t1)) ∈ tl → LamsIn K ((lawEnv11 nam L fA (.ref c)).qual ++ "<lambda>") (L + 1) ((mg "__name__").getD .none) tl → (P, tabA ps) ∈ tl →
      St base os₀ ((L, nsA m') :: (cl, lstA []) :: tl) s' → wpC (model prog w) A (execs ((fnBody lawStmt11).drop 2) (lawEnv11 nam L fA (.ref c))) Q E s') :
    wpC (model prog w) A (execs (fnBody lawStmt11) (lawEnv11 nam L fA (.ref c))) Q E s := by
  refine execsC_step (wpAny_Assign_Name (List_ (wpAny_items_nil (new_list (vs := []) H fun cl s₁ H₁ => st_c H₁ rfl (.tail (.tail .head)) fun s₂ H₂ => ?_))))
  refine execsC_step (wpAny_Assign_Name (List_ (wpAny_items_cons ?_)))
  refine kla_eval rfl (mk_lam_new (ps := #[]) H₂ G.gr C rfl rfl rfl trivial rfl (fun c' => .tail (.tail (.tail .head))) fun l0 c0 v0 s₃ H₃ => wpAny_items_cons ?_)
  rw [arm_eval_Lambda]
  refine wpAny_bind (wpAny_bind (c_str H₃ fun tl0 s₄ H₄ => wpAny_bind (wpAny_holding (wpAny_pure (wpAny_pure ?_)))))
  refine wpAny_bind (wpAny_holding (wpAny_pure ?_))
  refine mk_lam_d H₄ G.gr C rfl rfl rfl (by first | exact True.intro | (simp [TriplesOk, rawInt]; done)) (by first | rfl | (simp [codeAmong, rawInt]; done)) (fun c' => .tail (.tail (.tail (.tail (.tail .head))))) rfl fun l1 c1 v1 w1 tD s₅ H₅ => wpAny_items_cons ?_
  refine kla_eval rfl (mk_lam_new H₅ G.gr C rfl rfl rfl (by first | exact True.intro | (simp [TriplesOk, rawInt]; done)) (by first | rfl | (simp [codeAmong, rawInt]; done)) (fun c' => .tail (.tail (.tail (.tail (.tail (.tail (.tail (.tail .head)))))))) fun l2 c2 v2 s₆ H₆ => wpAny_items_cons ?_)
  refine kla_eval rfl (mk_lam_new H₆ G.gr C rfl rfl rfl (by first | exact True.intro | (simp [TriplesOk, rawInt]; done)) (by first | rfl | (simp [codeAmong, rawInt]; done)) (fun c' => .tail (.tail (.tail (.tail (.tail (.tail (.tail (.tail (.tail (.tail .head)))))))))) fun l3 c3 v3 s₇ H₇ => wpAny_items_cons ?_)
  refine kla_eval rfl (mk_lam_new H₇ G.gr C rfl rfl rfl (by first | exact True.intro | (simp [TriplesOk, rawInt]; done)) (by first | rfl | (simp [codeAmong, rawInt]; done)) (fun c' => .tail (.tail (.tail (.tail (.tail (.tail (.tail (.tail (.tail (.tail (.tail (.tail .head)))))))))))) fun l4 c4 v4 s₈ H₈ => wpAny_items_cons ?_)
  refine wpAny_Constant_none (wpAny_items_cons (c_int H₈ fun t0 s₉ H₉ => wpAny_items_cons (c_str H₉ fun t1 s₁₀ H₁₀ => wpAny_items_nil (new_list H₁₀ (fun lk s₁₁ H₁₁ => ?_) (by show 8 ≤ sizeLine; decide)))))
  refine st_g H₁₁ (fun _ => .tail (.tail (.tail (.tail (.tail (.tail (.tail (.tail (.tail (.tail (.tail (.tail (.tail .head))))))))))))) fun m' s₁₂ e' k' H₁₂ => ?_
  obtain ⟨ps, H₁₃⟩ : ∃ ps, St base os₀ ((L, nsA m') :: (cl, lstA []) :: [(lk, lstA (lkVals ⟨l0, l1, l2, l3, l4, c0, c1, c2, c3, c4, tD, (v0, .none), (v1, w1), (v2, .none), (v3, .none), (v4, .none), .str (Str.ofString "left out") tl0⟩ t0 t1)), (l4, objA (lamOb 4 ((lawEnv11 nam L fA (.ref c)).qual ++ "<lambda>") (L + 1) ((mg "__name__").getD .none) c4 (v4, .none) .none)), (c4, codeA ((lawEnv11 nam L fA (.ref c)).qual ++ "<lambda>")), (l3, objA (lamOb 3 ((lawEnv11 nam L fA (.ref c)).qual ++ "<lambda>") (L + 1) ((mg "__name__").getD .none) c3 (v3, .none) .none)), (c3, codeA ((lawEnv11 nam L fA (.ref c)).qual ++ "<lambda>")), (l2, objA (lamOb 2 ((lawEnv11 nam L fA (.ref c)).qual ++ "<lambda>") (L + 1) ((mg "__name__").getD .none) c2 (v2, .none) .none)), (c2, codeA ((lawEnv11 nam L fA (.ref c)).qual ++ "<lambda>")), (l1, objA (lamOb 1 ((lawEnv11 nam L fA (.ref c)).qual ++ "<lambda>") (L + 1) ((mg "__name__").getD .none) c1 (v1, w1) (.ref tD))), (c1, codeA ((lawEnv11 nam L fA (.ref c)).qual ++ "<lambda>")), (tD, tupA [.str (Str.ofString "left out") tl0]), (l0, objA (lamOb 0 ((lawEnv11 nam L fA (.ref c)).qual ++ "<lambda>") (L + 1) ((mg "__name__").getD .none) c0 (v0, .none) .none)), (c0, codeA ((lawEnv11 nam L fA (.ref c)).qual ++ "<lambda>")), (L + 1, celA (some (.ref cl))), (P, tabA ps)]) s₁₂ := ⟨_, H₁₂.perm (by
    repeat (first | exact List.Perm.refl _ | refine Pick.perm (by (repeat (first | exact Pick.head | apply Pick.tail))) ?_))⟩
  refine h m' cl lk ⟨l0, l1, l2, l3, l4, c0, c1, c2, c3, c4, tD, (v0, .none), (v1, w1), (v2, .none), (v3, .none), (v4, .none), .str (Str.ofString "left out") tl0⟩ t0 t1 tl0 ps s₁₂ _ e' k' rfl (by k_mem) (.head _) ⟨fun k hk => ?_, fun k hk => ?_, by k_mem⟩ (by k_mem) H₁₃
  · rcases (by omega : k = 0 ∨ k = 1 ∨ k = 2 ∨ k = 3 ∨ k = 4) with rfl | rfl | rfl | rfl | rfl <;> k_mem
  · rcases (by omega : k = 0 ∨ k = 1 ∨ k = 2 ∨ k = 3 ∨ k = 4) with rfl | rfl | rfl | rfl | rfl <;> k_mem
end
end Mine

namespace Mine
open PySem PySem.W PyProof.Rows PySem.Calls PySem.Spec
section
variable {prog : Program} {w : World} {A : Around} {E : Value → Shared → Prop} {s : Shared} {base : Heap} {os₀ : OsState} {mg mb : Str → Option Value} {fG fT fN u L fA c P a : Addr} {gd td nd : FuncData} {m : Str → Option Value} {nam : Str} {vs : List Value} {ns : List Int}
set_option maxHeartbeats 4000000 in
theorem law11 {Q : Flow → Shared → Prop} (G : G11 base mg mb fG fT fN u gd td nd) (R : Room prog w A base) (C : CodeHd base c P) (hq : ((lawEnv11 nam L fA (.ref c)).qual ++ "<lambda>").toString.length ≤ 1000) (hfr : A.frames = some [lawEnv11 nam L fA (.ref c)])
    (hm : m (Str.ofString "script") = some (.ref a)) (hl : base.IsList a vs.toArray) (hi : IntsAre vs ns) (hsz : vs.length ≤ 63)
    (H : St base os₀ [(L, nsA m), (L + 1, celA none), (P, tabA #[])] s) (h : ∀ ps s', St base os₀ [(P, tabA ps)] s' → Q (.ret (.bool true)) s') :
    wpC (model prog w) A (execs (fnBody lawStmt11) (lawEnv11 nam L fA (.ref c))) Q E s := by
  have hh := R.handled
  refine setup11 G C H fun m₁ cl lk K t0 t1 tl0 ps s₁ tl e₁ k₁ hlv hcell mK hK mP H₁ => ?_
  have hm₁ := (k₁ (Str.ofString "script") (by decide)).trans hm
  refine execsC_cons (for_listC (base := base) (os₀ := os₀) (fun i ld => ∃ m₂ cs, m₂ (Str.ofString "lookups") = some (.ref lk) ∧ cs.length ≤ i ∧ ld = (L, nsA m₂) :: (cl, lstA cs) :: tl) hh ?_)
  refine wpAny_BinOp (l_upto (b := 40) H₁ (.head _) hm₁ hl (Nat.le_trans hsz (by decide)) fun r s₂ H₂ => List_ (wpAny_items_cons (c_int H₂ fun u1 s₃ H₃ => wpAny_items_cons (c_int H₃ fun u2 s₄ H₄ => wpAny_items_cons (c_int H₄ fun u3 s₅ H₅ => wpAny_items_cons (c_int H₅ fun u4 s₆ H₆ => wpAny_items_cons (c_int H₆ fun u5 s₇ H₇ => wpAny_items_cons (c_int H₇ fun u6 s₈ H₈ => wpAny_items_cons (c_int H₈ fun u7 s₉ H₉ => wpAny_items_nil (new_list H₉ (fun b s₁₀ H₁₀ => ?_) (by show 7 ≤ sizeLine; decide)))))))))))
  refine l_add H₁₀ (.tail _ (.head _)) (.head _) (by simp only [List.length_take, List.length_cons, List.length_nil]; exact Nat.le_trans (by omega : _ ≤ 47) (by decide)) fun q s₁₁ H₁₁ => ?_
  have hxs : IntsAre (vs.take 40 ++ [.int 0 u1, .int 265 u2, .int 18 u3, .int 27 u4, .int 36 u5, .int 301 u6, .int 54 u7]) (ns.take 40 ++ [0, 265, 18, 27, 36, 301, 54]) := by
    have go : ∀ {vs us : List Value} {ns ms : List Int}, IntsAre vs ns → IntsAre us ms → IntsAre (vs ++ us) (ns ++ ms) := fun h h' => by
      induction h with
      | nil => exact h'
      | cons n t _ ih => exact .cons n t ih
    exact go (ints_take hi 40) (.cons _ _ (.cons _ _ (.cons _ _ (.cons _ _ (.cons _ _ (.cons _ _ (.cons _ _ .nil)))))))
  generalize hus : (vs.take 40 ++ [.int 0 u1, .int 265 u2, .int 18 u3, .int 27 u4, .int 36 u5, .int 301 u6, .int 54 u7]) = us at H₁₁ hxs
  generalize ns.take 40 ++ [0, 265, 18, 27, 36, 301, 54] = xs at hxs
  have hlu : us.length ≤ 47 := by rw [← hus]; simp; omega
  refine ⟨q, us, _, rfl, H₁₁.sub (.cons_cons _ (.cons _ (.cons _ (.refl _)))), ⟨m₁, [], e₁, Nat.le_refl _, rfl⟩, ?_, ?_⟩
  · rintro I i v ld s₁₂ E' hv ⟨m₂, cs, hl₂, hle, rfl⟩ H₁₂
    have hiu : i < us.length := by
      rcases Nat.lt_or_ge i us.length with z | z
      · exact z
      · rw [List.getElem?_eq_none z] at hv; cases hv
    have hix : i < xs.length := by rw [← (allInt_of hxs).2]; exact hiu
    obtain ⟨t, ht⟩ := ints_get hxs (List.getElem?_eq_getElem hix)
    rw [hv] at ht
    cases ht
    refine wpAny_assign_Name (st_g H₁₂ (fun _ => .tail (.tail .head)) fun m₃ s₁₃ e₃ k₃ H₁₃ => ?_)
    have inT : ∀ p ∈ tl, p ∈ ((I, itA q (i + 1)) :: (q, lstA us) :: tl) := fun p hp => .tail _ (.tail _ hp)
    refine turn11_ok (tl := (I, itA q (i + 1)) :: (q, lstA us) :: tl) G R (by omega) hq hfr hlv e₃ ((k₃ _ (by decide)).trans hl₂) (inT _ hcell) (inT _ mK) (hK.mono inT) (H₁₃.perm (List.perm_append_comm_assoc [_, _] [_, _] tl).symm) fun m₄ cs' s₁₄ e₄ hle' H₁₄ => ?_
    have fin : ∃ led', (∃ m₂ cs, m₂ (Str.ofString "lookups") = some (.ref lk) ∧ cs.length ≤ i + 1 ∧ led' = (L, nsA m₂) :: (cl, lstA cs) :: tl) ∧ St base os₀ ((I, itA q (i + 1)) :: (q, lstA us) :: led') s₁₄ :=
      ⟨_, ⟨m₄, cs', e₄, by omega, rfl⟩, H₁₄.perm (List.perm_append_comm_assoc [_, _] [_, _] tl).symm⟩
    exact ⟨fin, fin⟩
  · rintro ld s₁₂ ⟨m₂, cs, hl₂, hle, rfl⟩ H₁₂
    refine wpC_any (wpAny_execs_cons (wpAny_Return_some (wpAny_Constant_bool (h ps s₁₂ ?_))))
    exact (H₁₂.sub (.cons _ (.cons _ (.cons _ (.refl _))))).sub (List.singleton_sublist.mpr mP)
end
end Mine

namespace Mine
open PySem PySem.W PyProof.Rows PySem.Calls PySem.Spec
theorem top11 {prog : Program} {w : World} {K : Frag} {base : Heap} {s s₁ : Shared} {p : Program} {loose : List Str} {mean : ExcName → Option Value} {mg mb : Str → Option Value} {m : Str → Option Value} {L fA a fT fN : Addr} {vs : List Value} {ns : List Int} {E : Value → Shared → Prop}
    {l : OpenLaw} {cl : Str → Option Addr} {mean' : ExcName → Option Value} {args : List WData} {gd td nd : FuncData} {ob : Obj}
    (T : Top p loose mean mg mb base) (S : base.NoSeer) (F : Fr base L s.heap m) (N : News base L s.heap [(L + 1, ob), (58, tabObj #[])]) (hob : ob.data = .cell none) (hP : 58 < L) (C : CodeHd base 62 58) (hl : base.IsList a vs.toArray) (hi : IntsAre vs ns) (hn : ¬ (63 : Int) < (ns.length : Int)) (hm : m (Str.ofString "script") = some (.ref a)) (X : K.In base)
    (hL : base.get? L = none) (ht : prog.given.tree = none)
    (e1 : nsIn K mainGlobals (Str.ofString "_get_name_info") = some (some (.ref 44))) (e2 : nsIn K mainGlobals (Str.ofString "_law_takes") = some (some (.ref fT))) (e3 : nsIn K mainGlobals (Str.ofString "_law_noted") = some (some (.ref fN))) (e4 : nsIn K mainGlobals (Str.ofString "UNKNOWN") = some (some (.ref 37)))
    (n1 : nsIn K mainGlobals (Str.ofString "range") = some none) (n2 : nsIn K mainGlobals (Str.ofString "len") = some none) (n3 : nsIn K mainGlobals (Str.ofString "sorted") = some none) (n4 : nsIn K mainGlobals (Str.ofString "TypeError") = some none)
    (DG : IsDef base 44 gniStmt gd) (DT : IsDef base fT takesStmt td) (DN : IsDef base fN notedStmt nd)
    (g1 : ∃ dc sl, base.get? 44 = some { cls := .type "function", dict := dc, data := .func gd, slots := sl }) (g2 : gd.qualname = Str.ofString "_get_name_info") (g3 : ∃ t, gd.pyModule = .str (Str.ofString "cpy313.dis") t)
    (hb : s₁.heap = base) (hos : s.os = s₁.os) (hgens : s.gens = #[]) :
    wpC (model prog w) (callerA.deeper (lawEnv11 (Str.ofString "law") L fA (.ref 62))) (execs (fnBody lawStmt11) (lawEnv11 (Str.ofString "law") L fA (.ref 62)))
      (fun f s' => GoodW l.row.claim cl mean' args s₁ (.ok (.ret (match f with | .ret v => v | _ => .none))) s' ∧ GrownAll [(62, 58)] s'.heap) E s := by
  have bt : ∀ (x : Str) v, x ≠ "__name__" → bootBuiltins x = some v → mb x = some v := fun x v hx hv => (T.builtins x hx).trans hv
  have G : G11 base mg mb 44 fT fN 37 gd td nd :=
    ⟨gr_of T S, DG, DT, DN, mg_of X T.g e1, mg_of X T.g e2, mg_of X T.g e3, mg_of X T.g e4, mg_none_of X T.g n1, mg_none_of X T.g n2, mg_none_of X T.g n3, mg_none_of X T.g n4,
      bt _ _ (by decide) (by kernel_rfl), bt _ _ (by decide) (by kernel_rfl), bt _ _ (by decide) (by kernel_rfl), bt _ _ (by decide) (by kernel_rfl), g1, g2, g3⟩
  obtain ⟨hai, hlen⟩ := allInt_of hi
  have R : Room prog w (callerA.deeper (lawEnv11 (Str.ofString "law") L fA (.ref 62))) base := room_of T S ht rfl rfl rfl rfl
  refine law11 G R C (by show (((Str.ofString "law" ++ ".<locals>.") ++ "<lambda>" : Str)).toString.length ≤ 1000; decide +kernel) rfl hm hl hi (by omega) (st_top1 F N hob hgens hL hP) fun ps s'' H' => ⟨good_true (fun b o e => H'.keep b o (hb ▸ e)) (H'.os.trans hos) H'.gens, ?_, trivial⟩
  obtain ⟨o, ho, rfl⟩ := H'.get (a := 58) (P := tabA ps) (.head _)
  exact ⟨_, ho⟩
end Mine

namespace MineH
open _root_.PySem _root_.PySem.W PyProof.Rows
set_option maxRecDepth 100000 in
set_option maxHeartbeats 8000000 in
theorem law11_holds : _root_.PySem.Challenge.rw_dm0069_11.Holds := by
  (w_on; o_law; k_head; (case hw => w_witness2); w_strict (
    k_fill
    intro w s₀ s₁ mg mb G Y fa o pm cd doc dV kV ho hd hcd hD hmg hg args vals as hpre hlay hrd hwl hlo
    have KX := km_in_of Y
    km_tabs Y
    have X := (Ground.X G).1
    have V := (Ground.X G).2
    refine Ground.open G ?_
    intro T B D TE TW
    try (refine guard_noD D (by decide +kernel) ?_; clear D)
    km_lay T hmg ho hd cd
    clear hmg
    wrow_args hpre hlay hrd hwl hlo
    refine Mine.enterC ?_
    w_top on
    refine Mine.postC hT9 (fun _ _ => rfl) ?_
    have he := Dflts.none hD rfl; subst he; have he := Dflts.noKw hD; subst he
    refine Mine.call_cellsC (by decide) ho (fd_plain hd) (Top.nolimit T) hcd rfl (kinds_of (by kinds_ok)) (by decide) fun h₁ tk₁ cells F N0 X0 => ?_
    cells_open X0
    clear hd
    kn_ghosts F T
    k_drop
    (have X := ‹Frag.In _ (ghostOf _ _)›
     have F := ‹Fr (ghostOf _ _) _ _ _›
     have hL := Heap.get?_none_of_le F.above
     refine Mine.top11 (l := _root_.PySem.Challenge.rw_dm0069_11) (K := _) (fT := 49) (fN := 56) ‹Top _ _ _ _ _ (ghostOf _ _)› (Mine.ghost_seer ‹TabsAt _ _› (Top.seer ‹Top _ (looseW _ _) _ _ _ _› (by decide +kernel))) F ‹News (ghostOf _ _) _ _ _› ‹_ = Data.cell _› ‹58 < _› ‹CodeHd (ghostOf _ _) _ _› ‹Heap.IsList (ghostOf _ _) _ _› ‹IntsAre _ _› (by assumption) rfl X hL rfl
      (by k_is) (by k_is) (by k_is) (by k_is) (by k_is) (by k_is) (by k_is) (by k_is)
      ⟨⟨_, X 44 _ rfl, rfl⟩, rfl, rfl, rfl, rfl, rfl, rfl, rfl, ⟨43, _, _, _, rfl, X 43 _ rfl, rfl, rfl⟩⟩
      ⟨⟨_, X 49 _ rfl, rfl⟩, rfl, rfl, rfl, rfl, rfl, rfl, rfl, ⟨48, _, _, _, rfl, X 48 _ rfl, rfl, rfl⟩⟩
      ⟨⟨_, X 56 _ rfl, rfl⟩, rfl, rfl, rfl, rfl, rfl, rfl, rfl, ⟨55, _, _, _, rfl, X 55 _ rfl, rfl, rfl⟩⟩
      ⟨_, _, X 44 _ rfl⟩ rfl ⟨_, rfl⟩ rfl rfl ‹_ = #[]›)))
end MineH
theorem PySem.Challenge.cw_dm0069_11_holds : PySem.Challenge.rw_dm0069_11.Holds := by
  exact MineH.law11_holds
