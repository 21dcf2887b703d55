import PyProof.Rows.All
import Wide.All
import OpenK.AllK
import Wide.FinOn
import PySem.Challenge.RW_dm0069_09
set_option Elab.async false
set_option maxRecDepth 100000
set_option linter.unusedVariables false
namespace Mine
open PySem PySem.W PyProof.Rows PySem.Calls PySem.Spec

/-- what is said of an object -/
abbrev Asn := Obj → Prop
abbrev Led := List (Addr × Asn)

structure St (base : Heap) (os₀ : OsState) (led : Led) (s : Shared) : Prop where
  keep : ∀ b o, base.get? b = some o → s.heap.get? b = some o
  nd : (led.map (·.1)).Nodup
  has : ∀ p ∈ led, ∃ o, s.heap.get? p.1 = some o ∧ p.2 o
  new : ∀ p ∈ led, base.get? p.1 = none
  gens : s.gens = #[]
  os : s.os = os₀

/-- one entry of the ledger changes what is said of it -/
inductive Up (a : Addr) (P P' : Asn) : Led → Led → Prop
  | head {l} : Up a P P' ((a, P) :: l) ((a, P') :: l)
  | tail {q l l'} : Up a P P' l l' → Up a P P' (q :: l) (q :: l')

namespace Up
variable {a : Addr} {P P' : Asn} {l l' : Led}
theorem keys (u : Up a P P' l l') : l'.map (·.1) = l.map (·.1) := by
  induction u with
  | head => rfl
  | tail _ ih => simp [ih]
theorem mem (u : Up a P P' l l') : (a, P) ∈ l := by
  induction u with
  | head => exact .head _
  | tail _ ih => exact .tail _ ih
theorem split (u : Up a P P' l l') (nd : (l.map (·.1)).Nodup) : ∀ p ∈ l', (p.1 = a ∧ p = (a, P')) ∨ (p.1 ≠ a ∧ p ∈ l) := by
  induction u with
  | head =>
    intro p hp
    simp only [List.map_cons, List.nodup_cons] at nd
    rcases List.mem_cons.mp hp with rfl | hp
    · exact .inl ⟨rfl, rfl⟩
    · exact .inr ⟨fun e => nd.1 (e ▸ List.mem_map_of_mem hp), .tail _ hp⟩
  | @tail q l l' u ih =>
    intro p hp
    simp only [List.map_cons, List.nodup_cons] at nd
    rcases List.mem_cons.mp hp with rfl | hp
    · refine .inr ⟨fun e => nd.1 ?_, .head _⟩
      rw [e]; exact List.mem_map_of_mem (f := (·.1)) u.mem
    · rcases ih nd.2 p hp with h | h
      · exact .inl h
      · exact .inr ⟨h.1, .tail _ h.2⟩
end Up

section
variable {base : Heap} {os₀ : OsState} {led led' : Led} {s : Shared} {a : Addr} {P P' : Asn}

theorem St.ext (H : St base os₀ led s) {h' : Heap} {tk : Nat} (hk : ∀ b o, s.heap.get? b = some o → h'.get? b = some o) : St base os₀ led { s with heap := h', toks := tk } where
  keep := fun b o e => hk b o (H.keep b o e)
  nd := H.nd
  has := fun p hp => let ⟨o, ho, hP⟩ := H.has p hp; ⟨o, hk _ _ ho, hP⟩
  new := H.new
  gens := H.gens
  os := H.os
theorem St.tok (H : St base os₀ led s) {tk : Nat} : St base os₀ led { s with toks := tk } := H.ext fun _ _ e => e
theorem St.newAt (H : St base os₀ led s) {n : Nat} (hn : s.heap.objs.size ≤ n) : base.get? n = none := by
  cases e : base.get? n with
  | none => rfl
  | some o => exact absurd (Heap.lt_size (H.keep _ _ e)) (Nat.not_lt.mpr hn)
/-- a new object behind a heap that has grown -/
theorem St.more (H : St base os₀ led s) {h' : Heap} {tk n : Nat} {o : Obj} (hk : ∀ b o, s.heap.get? b = some o → h'.get? b = some o) (hn : s.heap.objs.size ≤ n) (ho : h'.get? n = some o) (hp : P o) :
    St base os₀ ((n, P) :: led) { s with heap := h', toks := tk } where
  keep := fun b o e => hk b o (H.keep b o e)
  nd := by
    simp only [List.map_cons, List.nodup_cons]
    refine ⟨fun h => ?_, H.nd⟩
    obtain ⟨p, hp', e⟩ := List.mem_map.mp h
    obtain ⟨o', ho', _⟩ := H.has p hp'
    have := Heap.lt_size ho'
    rw [e] at this
    exact absurd this (Nat.not_lt.mpr hn)
  has := fun p hp' => by
    rcases List.mem_cons.mp hp' with rfl | hp'
    · exact ⟨o, ho, hp⟩
    · obtain ⟨o', ho', hP⟩ := H.has p hp'; exact ⟨o', hk _ _ ho', hP⟩
  new := fun p hp' => by
    rcases List.mem_cons.mp hp' with rfl | hp'
    · exact H.newAt hn
    · exact H.new p hp'
  gens := H.gens
  os := H.os
theorem St.push (H : St base os₀ led s) {tk : Nat} {o : Obj} (hf : o.isFreed = false) (hp : P o) : St base os₀ ((s.heap.objs.size, P) :: led) { s with heap := s.heap.push o, toks := tk } :=
  H.more (fun _ _ e => Heap.get?_push_of_some _ e) (Nat.le_refl _) (Heap.get?_push_size _ hf) hp
/-- an entry changed, the heap grown perhaps -/
theorem St.upd (H : St base os₀ led s) (U : Up a P P' led led') {h' : Heap} {tk : Nat} (hx : Heap.ExtBut a s.heap h') (hp : ∃ o, h'.get? a = some o ∧ P' o) : St base os₀ led' { s with heap := h', toks := tk } where
  keep := fun b o e => hx b o (fun q => by have := H.new _ U.mem; rw [← q, e] at this; cases this) (H.keep b o e)
  nd := U.keys ▸ H.nd
  has := fun p hp' => by
    rcases U.split H.nd p hp' with ⟨_, rfl⟩ | ⟨hne, hm⟩
    · exact hp
    · obtain ⟨o, ho, hP⟩ := H.has p hm; exact ⟨o, hx _ _ hne ho, hP⟩
  new := fun p hp' => by
    rcases U.split H.nd p hp' with ⟨_, rfl⟩ | ⟨_, hm⟩
    · exact H.new (a, P) U.mem
    · exact H.new p hm
  gens := H.gens
  os := H.os
theorem St.sub (H : St base os₀ led s) (h : led'.Sublist led) : St base os₀ led' s where
  keep := H.keep
  nd := H.nd.sublist (h.map _)
  has := fun p hp => H.has p (h.subset hp)
  new := fun p hp => H.new p (h.subset hp)
  gens := H.gens
  os := H.os
theorem St.perm (H : St base os₀ led s) (h : led'.Perm led) : St base os₀ led' s where
  keep := H.keep
  nd := (h.map _).nodup_iff.mpr H.nd
  has := fun p hp => H.has p (h.mem_iff.mp hp)
  new := fun p hp => H.new p (h.mem_iff.mp hp)
  gens := H.gens
  os := H.os
theorem St.get (H : St base os₀ led s) (hm : (a, P) ∈ led) : ∃ o, s.heap.get? a = some o ∧ P o := H.has _ hm
theorem St.ne {b : Addr} {R : Asn} (H : St base os₀ ((a, P) :: led) s) (hm : (b, R) ∈ led) : b ≠ a := fun e => by
  have := H.nd
  simp only [List.map_cons, List.nodup_cons] at this
  exact this.1 (e ▸ List.mem_map_of_mem (f := (·.1)) hm)
/-- what is said may be weakened -/
theorem St.weak (H : St base os₀ ((a, P) :: led) s) (h : ∀ o, P o → P' o) : St base os₀ ((a, P') :: led) s where
  keep := H.keep
  nd := H.nd
  has := fun p hp => by
    rcases List.mem_cons.mp hp with rfl | hp
    · obtain ⟨o, ho, hP⟩ := H.has _ (.head _); exact ⟨o, ho, h o hP⟩
    · exact H.has p (.tail _ hp)
  new := fun p hp => by
    rcases List.mem_cons.mp hp with rfl | hp
    · exact H.new (a, P) (.head _)
    · exact H.new p (.tail _ hp)
  gens := H.gens
  os := H.os
end

/-! the kinds of objects -/
def nsA (m : Str → Option Value) : Asn := fun o => ∃ es ep, o.data = .dict es ep ∧ StrKeys es ∧ ∀ n, nsFind es n = m n
def lstA (vs : List Value) : Asn := fun o => ∃ n, o = { cls := .type "list", data := .seq vs.toArray n }
def tupA (vs : List Value) : Asn := fun o => ∃ n, o = { cls := .type "tuple", data := .seq vs.toArray n }
def celA (v : Option Value) : Asn := fun o => o.data = .cell v
def objA (o₀ : Obj) : Asn := fun o => o = o₀
section
variable {prog : Program} {w : World} {K : Type} [DecidableEq K]
def dctA (knd : KeyKind prog w K) (kvs : List (K × Value)) : Asn := fun o => ∃ es ep, o.ExactDict ∧ o.data = .dict es ep ∧ KeysOf knd es ∧ Pairs knd es.toList kvs ∧ (kvs.map (·.1)).Nodup
end

section
variable {base : Heap} {os₀ : OsState} {led led' : Led} {s : Shared} {a : Addr}
theorem St.ns (H : St base os₀ led s) {m : Str → Option Value} (hm : (a, nsA m) ∈ led) : s.heap.Ns a m := by
  obtain ⟨o, ho, es, ep, r⟩ := H.get hm; exact ⟨o, es, ep, ho, r⟩
theorem nsA_of {h : Heap} {m : Str → Option Value} (x : h.Ns a m) : ∃ o, h.get? a = some o ∧ nsA m o := by
  obtain ⟨o, es, ep, ho, r⟩ := x; exact ⟨o, ho, es, ep, r⟩
theorem St.isList (H : St base os₀ led s) {vs : List Value} (hm : (a, lstA vs) ∈ led) : s.heap.IsList a vs.toArray := by
  obtain ⟨o, ho, n, rfl⟩ := H.get hm; exact ⟨_, ho, rfl, n, rfl⟩
theorem St.isTup (H : St base os₀ led s) {vs : List Value} (hm : (a, tupA vs) ∈ led) : IsTup s.heap a vs.toArray := by
  obtain ⟨o, ho, n, rfl⟩ := H.get hm; exact ⟨_, ho, rfl, n, rfl⟩
theorem St.isDict {prog : Program} {w : World} {K : Type} [DecidableEq K] {knd : KeyKind prog w K} {kvs : List (K × Value)} (H : St base os₀ led s) (hm : (a, dctA knd kvs) ∈ led) : s.heap.DictOf knd a kvs := by
  obtain ⟨o, ho, es, ep, r⟩ := H.get hm; exact ⟨o, es, ep, ho, r⟩
theorem dctA_of {prog : Program} {w : World} {K : Type} [DecidableEq K] {knd : KeyKind prog w K} {kvs : List (K × Value)} {h : Heap} (x : h.DictOf knd a kvs) : ∃ o, h.get? a = some o ∧ dctA knd kvs o := by
  obtain ⟨o, es, ep, ho, r⟩ := x; exact ⟨o, ho, es, ep, r⟩
theorem St.isCell (H : St base os₀ led s) {v : Option Value} (hm : (a, celA v) ∈ led) : s.heap.IsCell a v := by
  obtain ⟨o, ho, r⟩ := H.get hm; exact ⟨o, ho, r⟩
end

section
variable {M : Model} {A : Around} {E : Value → Shared → Prop} {s : Shared} {env : Env} {base : Heap} {os₀ : OsState} {led led' : Led} {x : Str} {v : Value} {pos : Pos} {k : Nat}

theorem nm_l {Q : Value → Shared → Prop} {m : Str → Option Value} (H : St base os₀ led s) (hm : (env.locals, nsA m) ∈ led) (hv : m x = some v) (h : Q v s)
    (hk : env.scope.kind = .function := by rfl) (hx : env.kindOf x = some .local := by rfl) (hd : (x == ("__debug__" : Str)) = false := by decide) :
    wpAny M A (eval (.Name x pos) env) Q E s := wpAny_Name (wpAny_loadName_local hk hx (H.ns hm) hv h) hd
theorem nm_c {Q : Value → Shared → Prop} {c : Addr} (H : St base os₀ led s) (hc : env.cells.lookup x = some c) (hm : (c, celA (some v)) ∈ led) (h : Q v s)
    (hk : env.scope.kind = .function := by rfl) (hx : env.kindOf x = some .cell := by rfl) (hd : (x == ("__debug__" : Str)) = false := by decide) :
    wpAny M A (eval (.Name x pos) env) Q E s := wpAny_Name (wpAny_loadName_cell hk hx hc (H.isCell hm) h) hd
theorem nm_f {Q : Value → Shared → Prop} {c : Addr} (H : St base os₀ led s) (hc : env.cells.lookup x = some c) (hm : (c, celA (some v)) ∈ led) (h : Q v s)
    (hk : env.scope.kind = .function := by rfl) (hx : env.kindOf x = some .free := by rfl) (hd : (x == ("__debug__" : Str)) = false := by decide) (hn : (x == ("__classdict__" : Str)) = false := by decide) :
    wpAny M A (eval (.Name x pos) env) Q E s := wpAny_Name (wpAny_loadName_free hk hx hc (H.isCell hm) h hn) hd
theorem nm_g {Q : Value → Shared → Prop} {mg : Str → Option Value} (H : St base os₀ led s) (hg : base.Ns env.globals mg) (hv : mg x = some v) (h : Q v s)
    (hk : env.scope.kind = .function := by rfl) (hx : env.kindOf x = some .globalImplicit := by rfl) (hd : (x == ("__debug__" : Str)) = false := by decide) :
    wpAny M A (eval (.Name x pos) env) Q E s := Name_function_global hk hx (loadGlobal_global (hg.keeps H.keep) hv h) hd
theorem nm_b {Q : Value → Shared → Prop} {mg mb : Str → Option Value} (H : St base os₀ led s) (hg : base.Ns env.globals mg) (hb : base.Ns env.builtins mb) (hv : mg x = none) (hvb : mb x = some v) (h : Q v s)
    (hk : env.scope.kind = .function := by rfl) (hx : env.kindOf x = some .globalImplicit := by rfl) (hd : (x == ("__debug__" : Str)) = false := by decide) :
    wpAny M A (eval (.Name x pos) env) Q E s := Name_function_global hk hx (loadGlobal_builtin (hg.keeps H.keep) hv (hb.keeps H.keep) hvb h) hd

theorem st_l {Q : Unit → Shared → Prop} {m : Str → Option Value} (H : St base os₀ led s) (U : Up env.locals (nsA m) (nsA fun y => if y = x then some v else m y) led led')
    (h : ∀ s', St base os₀ led' s' → Q () s')
    (hk : env.scope.kind = .function := by rfl) (hx : env.kindOf x = some .local := by rfl) :
    wpAny M A (storeName env x v) Q E s :=
  wpAny_storeName_local hx (H.ns U.mem) (fun h' hn hs => h _ (H.upd U hs.extBut (nsA_of hn))) (by rw [hk]; rfl)
theorem st_c {Q : Unit → Shared → Prop} {c : Addr} {v₀ : Option Value} (H : St base os₀ led s) (hc : env.cells.lookup x = some c) (U : Up c (celA v₀) (celA (some v)) led led')
    (h : ∀ s', St base os₀ led' s' → Q () s')
    (hk : env.scope.kind = .function := by rfl) (hx : env.kindOf x = some .cell := by rfl) :
    wpAny M A (storeName env x v) Q E s :=
  wpAny_storeName_cell hk hx hc (H.isCell U.mem) fun h' hv hs => h _ (H.upd (tk := s.toks) U hs.extBut (let ⟨o, ho, hd⟩ := hv; ⟨o, ho, hd⟩))

theorem c_int {Q : Value → Shared → Prop} {i : Int} (H : St base os₀ led s) (h : ∀ t s', St base os₀ led s' → Q (.int i t) s') : wpAny M A (eval (.Constant (.int i) k pos) env) Q E s :=
  wpAny_Constant_int (h _ _ H.tok)
theorem c_str {Q : Value → Shared → Prop} (H : St base os₀ led s) (h : ∀ t s', St base os₀ led s' → Q (.str x t) s') : wpAny M A (eval (.Constant (.str x) k pos) env) Q E s :=
  wpAny_Constant_str (h _ _ H.tok)

theorem new_list {Q : Value → Shared → Prop} {vs : List Value} (H : St base os₀ led s) (h : ∀ a s', St base os₀ ((a, lstA vs) :: led) s' → Q (.ref a) s') (hsz : vs.length ≤ sizeLine := by size_fits) :
    wpAny M A (newList vs) Q E s := wpAny_newObj_type (h _ _ (H.push rfl ⟨_, rfl⟩)) (by show vs.toArray.size ≤ sizeLine; rw [List.size_toArray]; exact hsz)
theorem new_tuple {Q : Value → Shared → Prop} {vs : List Value} (H : St base os₀ led s) (h : ∀ a s', St base os₀ ((a, tupA vs) :: led) s' → Q (.ref a) s') (hsz : vs.length ≤ sizeLine := by size_fits) :
    wpAny M A (newTuple vs) Q E s := wpAny_newObj_type (h _ _ (H.push rfl ⟨_, rfl⟩)) (by show vs.toArray.size ≤ sizeLine; rw [List.size_toArray]; exact hsz)
end
end Mine

namespace Mine
open PySem PySem.W PyProof.Rows PySem.Calls PySem.Spec
section
variable {prog : Program} {w : World} {A : Around} {E : Value → Shared → Prop} {s : Shared}
theorem dictPut_new {d : Addr} {od : Obj} {es : Array DictEntry} {ed : Nat} {k : Str} {e : DictEntry} {Q : Unit → Shared → Prop}
    (hd : s.heap.get? d = some od) (hdd : od.data = .dict es ed) (hcd : od.ExactDict) (hk : KeysOf (strKind prog w) es) (he : (strKind prog w).is k e.key = true) (hh : e.hash = (strKind prog w).hash k)
    (hn : es.findIdx? (fun e => (strKind prog w).is k e.key) = none) (hz : es.size ≤ sizeLine)
    (h : ∀ h', Heap.SameBut d s.heap h' → (∃ o ep', h'.get? d = some o ∧ o.ExactDict ∧ o.data = .dict (es.push e) ep') → Q () { s with heap := h' }) :
    wpAny (model prog w) A (dictPut d e.hash e.key e.val) Q E s := by
  unfold dictPut
  rw [hh]
  refine wpAny_bind (wpAny_dictFind_of he hd hdd hk ?_)
  rw [hn]
  refine wpAny_updateDictKeys hd hdd (h _ (Heap.SameBut.update ..) ⟨_, ed + 1, Heap.get?_update_self _ hd (Obj.isFreed_of_dict (Obj.data_mapDictKeys hdd _)), hcd.mapDictKeys _, ?_⟩) hz
  rw [Obj.data_mapDictKeys hdd, ← hh]
theorem merge_raw {a d : Addr} {oa od : Obj} {es : Array DictEntry} {ep ed : Nat} {kvs : List (Str × Value)} {Q : Unit → Shared → Prop} (ha : s.heap.get? a = some oa) (hda : oa.data = .dict es ep) (hca : oa.ExactDict)
    (hd : s.heap.get? d = some od) (hdd : od.data = .dict #[] ed) (hcd : od.ExactDict) (hne : a ≠ d) (hk : KeysOf (strKind prog w) es) (hp : Pairs (strKind prog w) es.toList kvs) (hnd : (kvs.map (·.1)).Nodup) (hsys : (a == sysModules) = false)
    (hz : kvs.length ≤ sizeLine)
    (h : ∀ h', Heap.SameBut d s.heap h' → (∃ o ep', h'.get? d = some o ∧ o.ExactDict ∧ o.data = .dict es ep') → Q () { s with heap := h' }) :
    wpAny (model prog w) A (mergeMapping d (.ref a) true) Q E s := by
  have hT : s.TypeIs (.ref a) "dict" := ⟨oa, ha, hca.1⟩
  unfold mergeMapping
  refine wpAny_bind (wpAny_isInstance hT (b := true) (by kernel_rfl) ?_)
  simp only [if_true]
  refine wpAny_bind (wpAny_specialOf hT PySem.F.slot_dict_iter.lookup (wpAny_bind (wpAny_pure ?_)))
  simp only [beq_self_eq_true, hsys, Bool.false_eq_true, if_false]
  refine wpAny_bind (wpAny_dictEntries hd hdd ?_)
  simp only [Array.isEmpty_empty, if_true]
  refine wpAny_bind (wpAny_dictEntries ha hda ?_)
  have hloop : (forIn es PUnit.unit fun (e : DictEntry) (__s : PUnit) =>
      (match e.key with
      | Value.ref _ => do
        let __do_lift ← specialOf e.key (Str.ofString "__eq__")
        if (__do_lift != some (Value.builtin "object.__eq__")) = true then
            if (Array.filter (fun x => x.hash == e.hash) es).size > 1 then do
              unsupported "dict.merge-into-an-empty-dict:keys-of-equal-hash"
              pure (ForInStep.yield PUnit.unit)
            else pure (ForInStep.yield PUnit.unit)
          else pure (ForInStep.yield PUnit.unit)
      | _ => pure (ForInStep.yield PUnit.unit) : Sem (ForInStep PUnit))) = pure PUnit.unit := by
    rw [← Array.forIn_toList]
    refine forIn_yield_id _ fun e he c => ?_
    obtain ⟨k, h1, _⟩ := hk e (by simpa using he)
    obtain ⟨t, ht⟩ := Value.isStrOf_shape h1
    rw [ht]
  refine wpAny_bind (wpAny_of_eq hloop ?_)
  refine wpAny_bind (wpAny_dictEntries ha hda ?_)
  refine wpAny_bind (wpAny_dictEpoch ha hda ?_)
  have hlen : es.size = kvs.length := by have := hp.length; simpa using this
  refine wpAny_bind (wpAny_forIn_list _ (fun rest _ s' => ∃ i h', rest = List.range' i (es.size - i) ∧ i ≤ es.size ∧ s' = { s with heap := h' } ∧ Heap.SameBut d s.heap h' ∧
    ∃ o ep', h'.get? d = some o ∧ o.ExactDict ∧ o.data = .dict (es.extract 0 i) ep') _ ?_ ?_ _ _ ⟨0, s.heap, by rw [List.range_eq_range', Nat.sub_zero], Nat.zero_le _, rfl, Heap.SameBut.refl .., od, ed, hd, hcd, by rw [hdd]; simp⟩)
  · rintro x rest _ s' ⟨i, h', hr, hi, rfl, hs, o, ep', ho, hoc, hod⟩
    have hlt : i < es.size := by
      rcases Nat.lt_or_ge i es.size with q | q
      · exact q
      · rw [Nat.sub_eq_zero_of_le q] at hr; cases hr
    obtain ⟨m, hm⟩ : ∃ m, es.size - i = m + 1 := ⟨es.size - i - 1, by omega⟩
    rw [hm, List.range'_succ] at hr
    injection hr with hx hr
    subst hx
    have ha' : h'.get? a = some oa := (hs.2 a hne).trans ha
    refine wpAny_bind (wpAny_dictEntries (s := { s with heap := h' }) ha' hda ?_)
    rw [Array.getElem?_eq_getElem hlt]
    refine wpAny_bind (wpAny_holding ?_)
    obtain ⟨k, hk1, hk2⟩ := hk es[x] (Array.getElem_mem hlt)
    have hkx : KeysOf (strKind prog w) (es.extract 0 x) := fun e he => hk e (by
      obtain ⟨j, hj, rfl⟩ := Array.mem_iff_getElem.mp he
      rw [Array.getElem_extract]; exact Array.getElem_mem _)
    have hnone : (es.extract 0 x).findIdx? (fun e => (strKind prog w).is k e.key) = none := by
      rw [Array.findIdx?_eq_none_iff]
      intro e he
      obtain ⟨j, hj, rfl⟩ := Array.mem_iff_getElem.mp he
      rw [Array.getElem_extract]
      have hj' : j < x := by simp at hj; omega
      have hjl : j < es.size := by omega
      cases q : (strKind prog w).is k (es[0 + j]'(by omega)).key with
      | false => rfl
      | true =>
        exfalso
        have h1 := (hp.get? (i := x) (e := es[x]) (by simp [hlt]) (k := (kvs[x]'(by omega)).1) (v := (kvs[x]'(by omega)).2) (by simp [hlen ▸ hlt])).1
        have h2 := (hp.get? (i := j) (e := es[j]) (by simp [hjl]) (k := (kvs[j]'(by omega)).1) (v := (kvs[j]'(by omega)).2) (by simp [hlen ▸ hjl])).1
        have q' : (strKind prog w).is k es[j].key = true := by simpa using q
        have e1 := (strKind prog w).inj _ _ _ h1 hk1
        have e2 := (strKind prog w).inj _ _ _ h2 q'
        refine List.pairwise_iff_getElem.mp hnd j x (by simp; omega) (by simp; omega) hj' ?_
        simp [e1, e2]
    have hzx : (es.extract 0 x).size ≤ sizeLine := by simp; omega
    show wpAny _ _ (dictFind d es[x].key es[x].hash >>= _) _ _ _
    rw [hk2]
    refine wpAny_bind (wpAny_dictFind_of (s := { s with heap := h' }) hk1 ho hod hkx ?_)
    rw [hnone]
    simp only [Option.isSome_none, Bool.false_eq_true, if_false]
    rw [← hk2]
    refine dictPut_new (s := { s with heap := h' }) ho hod hoc hkx hk1 hk2 hnone hzx fun h'' hs'' ho'' => ?_
    refine wpAny_bind (wpAny_dictEpoch (s := { s with heap := h'' }) ((hs''.2 a hne).trans ha') hda ?_)
    simp only [bne_self_eq_false, Bool.false_eq_true, if_false]
    refine wpAny_pure ⟨x + 1, h'', ?_, hlt, rfl, hs.trans hs'', ?_⟩
    · rw [hr]; congr 1; omega
    · obtain ⟨o', ep'', h1, h2, h3⟩ := ho''
      refine ⟨o', ep'', h1, h2, ?_⟩
      rw [h3]
      congr 1
      apply Array.ext'
      simp [List.take_add_one, hlt]
  · rintro _ s' ⟨i, h', hr, hi, rfl, hs, o, ep', ho, hoc, hod⟩
    have : i = es.size := by
      rcases Nat.lt_or_ge i es.size with q | q
      · obtain ⟨m, hm⟩ : ∃ m, es.size - i = m + 1 := ⟨es.size - i - 1, by omega⟩
        rw [hm, List.range'_succ] at hr; cases hr
      · omega
    subst this
    exact wpAny_pure (h h' hs ⟨o, ep', ho, hoc, by rw [hod]; simp⟩)

theorem callWith_fn {f : Addr} {first : List Value} {pos : Pos} {Q : Value → Shared → Prop} {args : List (Bool × Sem Value)} {kws : List (Option Str × Sem Value)}
    (h : wpAny (model prog w) A (evalArgs (.ref f) true args kws) (fun a s₁ => (∃ o fd, s₁.heap.get? f = some o ∧ o.data = .func fd) ∧ wpAny (model prog w) A (call (.ref f) (first ++ a.pos) a.kw) Q E s₁) E s) :
    wpAny (model prog w) A (callWith pos (.ref f) first args kws) Q E s := by
  unfold callWith
  refine wpAny_bind (wpAny_holding (wpAny_mono h (fun a s₁ h₁ => wpAny_bind (wpAny_standAt ?_)) fun _ _ x => x))
  obtain ⟨⟨o, fd, ho, hd⟩, h₁⟩ := h₁
  have hk : ∀ {Q' : Keeper → Shared → Prop}, Q' .frame s₁ → wpAny (model prog w) A (keeperOf (.ref f)) Q' E s₁ := fun q => by
    unfold keeperOf
    refine wpAny_bind (wpAny_load ho ?_)
    rw [hd]
    exact wpAny_pure q
  refine wpAny_bind (hk ?_)
  have tail : ∀ {t : Sem Value}, wpAny (model prog w) A t Q E s₁ → wpAny (model prog w) A (t >>= fun r => holding [r] point >>= fun _ => pure r) Q E s₁ :=
    fun ht => wpAny_bind (wpAny_mono ht (fun r s₂ hr => wpAny_bind (wpAny_holding (wpAny_point (wpAny_pure hr)))) fun _ _ x => x)
  have marked (mk : Value) : wpAny (model prog w) A (callMarked mk (.ref f) (first ++ a.pos) a.kw) Q E s₁ := by unfold callMarked; exact Calls.wpAny_keep h₁
  cases hst : (args.any (·.1) || kws.any (·.1.isNone)) with
  | true => exact tail (marked _)
  | false =>
    dsimp only
    split
    · exact tail h₁
    · exact tail (marked _)

theorem evalArgs_star {f : Value} {x : Sem Value} {rest : List (Bool × Sem Value)} {kws : List (Option Str × Sem Value)} {Q : Args → Shared → Prop} (hk : kws.all (·.1.isSome) = false)
    (h : wpAny (model prog w) A (spliced ((false, x) :: rest)) (fun vs s₁ => wpAny (model prog w) A (mergedKeywords f kws) (fun d s₂ => wpAny (model prog w) A (keywordsIn f d) (fun kw s₃ => Q ⟨vs, kw⟩ s₃) E s₂) E s₁) E s) :
    wpAny (model prog w) A (evalArgs f true ((false, x) :: rest) kws) Q E s := by
  unfold evalArgs
  show wpAny (model prog w) A (spliced ((false, x) :: rest) >>= _) Q E s
  refine wpAny_bind (wpAny_mono h (fun vs s₁ h₁ => ?_) fun _ _ x => x)
  refine wpAny_bind (wpAny_pure ?_)
  refine wpAny_holding ?_
  simp only [hk, Bool.false_eq_true, if_false]
  refine wpAny_bind (wpAny_mono h₁ (fun d s₂ h₂ => ?_) fun _ _ x => x)
  refine wpAny_bind (wpAny_pure ?_)
  exact wpAny_bind (wpAny_holding (wpAny_mono h₂ (fun kw s₃ h₃ => wpAny_pure h₃) fun _ _ x => x))

variable {base : Heap} {os₀ : OsState} {led led' : Led}
theorem St.notSys (H : St base os₀ led s) {a : Addr} {P : Asn} (hm : (a, P) ∈ led) {o : Obj} (hs : base.get? sysModules = some o) : (a == sysModules) = false := by
  cases q : a == sysModules with
  | false => rfl
  | true =>
    have e := eq_of_beq q
    have := H.new _ hm
    rw [show ((a, P) : Addr × Asn).1 = sysModules from e, hs] at this
    cases this

theorem merged1 {f : Value} {x : Sem Value} {a : Addr} {kvs : List (Str × Value)} {o₀ : Obj} {Q : Addr → Shared → Prop} (H : St base os₀ led s) (hs : base.get? sysModules = some o₀)
    (hx : ∀ d s₁, St base os₀ ((d, dctA (strKind prog w) []) :: led) s₁ → wpAny (model prog w) A x (fun v s₂ => s₂ = s₁ ∧ v = .ref a) E s₁) (hm : (a, dctA (strKind prog w) kvs) ∈ led) (hz : kvs.length ≤ sizeLine)
    (h : ∀ d s', St base os₀ ((d, dctA (strKind prog w) kvs) :: led) s' → Q d s') : wpAny (model prog w) A (mergedKeywords f [(none, x)]) Q E s := by
  delta mergedKeywords
  refine wpAny_bind (wpAny_alloc ?_)
  have H₁ : St base os₀ ((s.heap.objs.size, dctA (strKind prog w) []) :: led) { s with heap := s.heap.push { cls := .type "dict", data := .dict #[] } } :=
    H.push (tk := s.toks) rfl ⟨#[], 0, ⟨rfl, rfl, rfl⟩, rfl, fun e he => by simp at he, .nil, .nil⟩
  refine wpAny_bind (wpAny_holding ?_)
  refine wpAny_bind ?_
  show wpAny (model prog w) A (Sem.bind (Sem.bind x _) _) _ _ _
  refine wpAny_bind (wpAny_bind (wpAny_mono (hx _ _ H₁) (fun v s₂ h₂ => ?_) fun _ _ q => q))
  obtain ⟨rfl, rfl⟩ := h₂
  obtain ⟨oa, hoa, es, ep, hex, hda, hka, hpa, hna⟩ := H.get hm
  have hoa' := Heap.get?_push_of_some { cls := Value.type "dict", data := Data.dict #[] } hoa
  have hne : a ≠ s.heap.objs.size := H₁.ne hm
  refine wpAny_bind (wpAny_onRaise (wpAny_holding (wpAny_tryCatch (wpAny_onRaise (merge_raw (kvs := kvs) hoa' hda hex (Heap.get?_push_size _ rfl) rfl ⟨rfl, rfl, rfl⟩ hne hka hpa hna (H.notSys hm hs) hz fun h' hsb hd' => ?_)))))
  refine wpAny_pure ?_
  show wpAny _ _ (pure []) _ _ _
  refine wpAny_pure ?_
  show wpAny _ _ (pure ()) _ _ _
  refine wpAny_pure (wpAny_pure ?_)
  obtain ⟨o', ep', h1, h2, h3⟩ := hd'
  exact h _ _ (H₁.upd (tk := s.toks) Up.head hsb.extBut ⟨o', h1, es, ep', h2, h3, hka, hpa, hna⟩)

theorem kwIn {f : Value} {d : Addr} {kvs : List (Str × Value)} {Q : List (Str × Value) → Shared → Prop} (H : St base os₀ led s) (hm : (d, dctA (strKind prog w) kvs) ∈ led) (h : Q kvs s) :
    wpAny (model prog w) A (keywordsIn f d) Q E s := by
  obtain ⟨o, ho, es, ep, hex, hd, hk, hp, hn⟩ := H.get hm
  delta keywordsIn
  refine wpAny_bind (wpAny_dictEntries ho hd ?_)
  refine wpAny_bind ?_
  rw [← Array.forIn_toList]
  refine wpAny_forIn_list _ (fun rest b s' => s' = s ∧ ∃ done kr, kvs = done ++ kr ∧ b = done ∧ Pairs (strKind prog w) rest kr) _ ?_ ?_ _ _ ⟨rfl, [], kvs, rfl, rfl, hp⟩
  · rintro e rest b s' ⟨rfl, done, kr, rfl, rfl, hpr⟩
    cases hpr with
    | @cons _ kv _ kvs' h1 h2 h3 =>
      obtain ⟨t, ht⟩ := Value.isStrOf_shape h1
      obtain ⟨eh, ek, ev⟩ := e
      dsimp only at ht h2
      subst ht h2
      exact wpAny_pure ⟨rfl, b ++ [kv], kvs', by simp, rfl, h3⟩
  · rintro b s' ⟨rfl, done, kr, rfl, rfl, hpr⟩
    cases hpr
    rw [List.append_nil] at h
    exact wpAny_pure h

/-- a str key put by nsSet behind the others -/
theorem nsSet_push {d : Addr} {kvs : List (Str × Value)} {k : Str} {v : Value} {Q : Unit → Shared → Prop} (hm : s.heap.DictOf (strKind prog w) d kvs) (hk : k ∉ kvs.map (·.1))
    (h : ∀ h', h'.DictOf (strKind prog w) d (kvs ++ [(k, v)]) → Heap.SameBut d s.heap h' → Q () { s with heap := h', toks := s.toks + 1 }) :
    wpAny (model prog w) A (nsSet d k v) Q E s := by
  obtain ⟨o, es, ep, ho, hex, hd, hko, hp, hn⟩ := hm
  have hany : es.any (·.refKey) = false := by
    rw [Array.any_eq_false']; intro e he; obtain ⟨n, h1, _⟩ := hko e he; obtain ⟨t, ht⟩ := Value.isStrOf_shape h1; simp [DictEntry.refKey, ht]
  have hstr : ∀ e ∈ es, e.key.isStr k = (strKind prog w).is k e.key := fun e he => by
    obtain ⟨n, h1, _⟩ := hko e he
    obtain ⟨t, ht⟩ := Value.isStrOf_shape h1
    have := (strKind prog w).strs k k 0 e.key (by show Value.isStrOf k (.str k 0) = true; simp [Value.isStrOf])
    exact this.symm
  have hnone : es.findIdx? (fun e => e.key.isStr k) = none := by
    rw [Array.findIdx?_eq_none_iff]
    intro e he
    rw [hstr e he]
    cases q : (strKind prog w).is k e.key with
    | false => rfl
    | true =>
      exfalso
      have := hp.findIdx k
      obtain ⟨j, hj, rfl⟩ := Array.mem_iff_getElem.mp he
      have h2 : (es.toList.findIdx? fun e => (strKind prog w).is k e.key) ≠ none := by
        rw [Ne, List.findIdx?_eq_none_iff]
        intro hh
        have := hh es[j] (by simp)
        rw [q] at this; cases this
      rw [this, Ne, List.findIdx?_eq_none_iff] at h2
      apply h2
      intro kv hkv
      exact decide_eq_false fun e => hk (e ▸ List.mem_map_of_mem hkv)
  intro Γ p hΓ
  simp only [nsSet, strHash, Sem.wp_bind', Sem.wp_cmd_ask, Sem.wp_pure', Sem.wp_cmd_mkText]
  rw [Sem.wp_loadPart_of _ Γ _ p { s with toks := s.toks + 1 } (o := o) _ ho]
  simp only [hd, aRefKeyMayBeTheName_eq, aRefKeyMayBeTheNameByArray, hany, Bool.and_false, Bool.false_eq_true, if_false, Sem.wp_cmd_updatePart]
  obtain ⟨oc, odd, odt, osl⟩ := o
  dsimp only at hd
  subst hd
  have hput : ∀ hsh key, Obj.putName k hsh key v ⟨oc, odd, .dict es ep, osl⟩ = ⟨oc, odd, .dict (es.push ⟨hsh, key, v⟩) (ep + 1), osl⟩ := fun hsh key => by
    simp only [Obj.putName_eq, Obj.putNameByArray, hnone]
  have hsn : ∀ {l : List DictEntry} {kv : List (Str × Value)} {e : DictEntry}, Pairs (strKind prog w) l kv → (strKind prog w).is k e.key = true → e.val = v → Pairs (strKind prog w) (l ++ [e]) (kv ++ [(k, v)]) := fun hl h1 h2 => by
    induction hl with
    | nil => exact .cons h1 h2 .nil
    | cons q1 q2 _ ih => exact .cons q1 q2 ih
  have hkk : (strKind prog w).is k (.str k s.toks) = true := by show Value.isStrOf k (.str k s.toks) = true; simp [Value.isStrOf]
  refine ⟨by rw [ho]; rfl, h _ ⟨⟨oc, odd, .dict (es.push ⟨hashStr w k, .str k s.toks, v⟩) (ep + 1), osl⟩, es.push ⟨hashStr w k, .str k s.toks, v⟩, ep + 1, (Heap.get?_update_self _ ho (by rw [hput]; rfl)).trans (by rw [hput]; rfl), hex, rfl, hko.push hkk v, ?_, ?_⟩ (Heap.SameBut.update ..)⟩
  · rw [Array.toList_push]; exact hsn hp hkk rfl
  · rw [List.map_append, List.nodup_append]
    refine ⟨hn, by simp, ?_⟩
    intro y hy z hz
    simp only [List.map_cons, List.map_nil, List.mem_singleton] at hz
    subst hz
    exact fun e => hk (e ▸ hy)

theorem nsSets {d : Addr} {f : Str × Value → PUnit → Sem (ForInStep PUnit)} (hf : ∀ n v u, f (n, v) u = (do nsSet d n v; pure (.yield ⟨⟩))) :
    ∀ (kws kvs : List (Str × Value)) (s : Shared) (Q : PUnit → Shared → Prop), s.heap.DictOf (strKind prog w) d kvs → (∀ k ∈ kws.map (·.1), k ∉ kvs.map (·.1)) → (kws.map (·.1)).Nodup →
      (∀ h' tk, h'.DictOf (strKind prog w) d (kvs ++ kws) → Heap.SameBut d s.heap h' → Q ⟨⟩ { s with heap := h', toks := tk }) → wpAny (model prog w) A (forIn kws ⟨⟩ f) Q E s
  | [], kvs, s, Q, hm, _, _, h => by rw [List.forIn_nil]; exact wpAny_pure (h s.heap s.toks (by rwa [List.append_nil]) (Heap.SameBut.refl ..))
  | (n, v) :: r, kvs, s, Q, hm, hk, hn, h => by
    rw [List.forIn_cons, hf]
    refine wpAny_bind (wpAny_bind (nsSet_push hm (hk n (.head _)) fun h' hm' hs' => wpAny_pure ?_))
    simp only [List.map_cons, List.nodup_cons] at hn
    refine nsSets hf r (kvs ++ [(n, v)]) _ Q hm' (fun k hkr => ?_) hn.2 fun h'' tk hm'' hs'' => h h'' tk (by rwa [List.append_assoc] at hm'') (hs'.trans hs'')
    rw [List.map_append, List.mem_append]
    rintro (q | q)
    · exact hk k (.tail _ hkr) q
    · simp only [List.map_cons, List.map_nil, List.mem_singleton] at q
      subst q; exact hn.1 hkr
end
end Mine

namespace Mine
open PySem PySem.W PyProof.Rows PySem.Calls PySem.Spec
section
variable {prog : Program} {w : World} {A : Around} {E : Value → Shared → Prop} {s : Shared} {base : Heap} {os₀ : OsState} {led led' : Led}
theorem lookup_zip_some : ∀ (names : List Str) (vs : List Value), vs.length = names.length → ∀ n ∈ names, ((names.zip vs).lookup n).isSome = true
  | [], _, _, _, h => nomatch h
  | a :: r, v :: vs, hl, n, h => by
    rw [List.zip_cons_cons, List.lookup_cons]
    cases q : n == a with
    | true => rfl
    | false =>
      refine lookup_zip_some r vs (by simpa using hl) n ?_
      rcases List.mem_cons.mp h with rfl | h
      · simp at q
      · exact h
theorem filterMap_zip : ∀ (names : List Str) (vs : List Value), vs.length = names.length → names.Nodup → (names.filterMap fun n => ((names.zip vs).lookup n).map (n, ·)) = names.zip vs
  | [], _, _, _ => by simp
  | a :: r, v :: vs, hl, hn => by
    rw [List.nodup_cons] at hn
    have ih := filterMap_zip r vs (by simpa using hl) hn.2
    rw [List.zip_cons_cons, List.filterMap_cons]
    simp only [List.lookup_cons, beq_self_eq_true, Option.map_some]
    congr 1
    have cong : ∀ (l : List Str) (f g : Str → Option (Str × Value)), (∀ x ∈ l, f x = g x) → l.filterMap f = l.filterMap g := fun l f g hfg => by
      induction l with
      | nil => rfl
      | cons x l ih' => rw [List.filterMap_cons, List.filterMap_cons, hfg x (.head _), ih' fun y hy => hfg y (.tail _ hy)]
    refine (cong r _ _ fun n hnr => ?_).trans ih
    have : (n == a) = false := by
      cases q : n == a with
      | false => rfl
      | true => exact absurd (eq_of_beq q ▸ hnr) hn.1
    simp only [this]
theorem bind_kw {fd : FuncData} {normal : List Str} {kwa : Arg} {vs : List Value} {kws : List (Str × Value)} {Q : List (Str × Value) → Shared → Prop}
    (hpo : fd.params.posonlyargs = []) (hn : fd.params.args.map (·.arg) = normal) (hko : fd.params.kwonlyargs = []) (hva : fd.params.vararg = none) (hkw : fd.params.kwarg = some kwa) (hdf : fd.defaults = .none)
    (hlen : vs.length = normal.length) (hnd : normal.Nodup) (hdis : ∀ k ∈ kws.map (·.1), k ∉ normal) (hkn : (kws.map (·.1)).Nodup) (hz : kws.length ≤ sizeLine + 1) (H : St base os₀ led s)
    (h : ∀ d s', St base os₀ ((d, dctA (strKind prog w) kws) :: led) s' → Q (normal.zip vs ++ [(kwa.arg, .ref d)]) s') :
    wpAny (model prog w) A (bindArgs fd ⟨vs, kws⟩) Q E s := by
  unfold bindArgs
  simp only [hpo, hn, hko, hva, hkw, hdf, List.map_nil, List.nil_append, List.append_nil]
  refine wpAny_bind ?_
  refine wpAny_forIn_list _ (fun rest b s' => s' = s ∧ ∃ done, kws = done ++ rest ∧ b = (normal.zip vs, done)) _ ?_ ?_ _ _ ⟨rfl, [], rfl, rfl⟩
  · rintro ⟨k, v⟩ rest b s' ⟨rfl, done, rfl, rfl⟩
    have hc : normal.contains k = false := by
      cases q : normal.contains k with
      | false => rfl
      | true => exact absurd (List.contains_iff_mem.mp q) (hdis k (by simp))
    simp only [hc, List.contains_nil, Bool.or_self, Bool.false_eq_true, if_false, Option.isSome_some, if_true]
    exact wpAny_pure ⟨rfl, done ++ [(k, v)], by simp, rfl⟩
  · rintro b s' ⟨rfl, done, hd, rfl⟩
    rw [List.append_nil] at hd
    subst hd
    show wpAny _ _ (pure none >>= _) _ _ _
    refine wpAny_bind (wpAny_pure ?_)
    have hgt : decide (vs.length > normal.length) = false := decide_eq_false (by omega)
    have hmiss : (normal.filter fun n => ((normal.zip vs).lookup n).isNone) = [] := by
      rw [List.filter_eq_nil_iff]
      intro n hnn
      have := lookup_zip_some normal vs hlen n hnn
      cases q : (normal.zip vs).lookup n with
      | none => rw [q] at this; cases this
      | some _ => simp
    simp only [Option.getD_none, List.drop_nil, List.length_nil, Nat.sub_zero, List.take_length, hmiss, hgt, Bool.false_and, Bool.false_eq_true, if_false, List.isEmpty_nil, Bool.not_true, List.zip_nil_right, List.forIn_nil]
    refine wpAny_bind (wpAny_pure (wpAny_bind (wpAny_pure ?_)))
    simp only [List.isEmpty_nil, Bool.not_true, Bool.false_eq_true, if_false, if_neg (Nat.not_lt.mpr hz), filterMap_zip normal vs hlen hnd]
    refine wpAny_bind (wpAny_alloc ?_)
    refine wpAny_bind (nsSets (fun n v u => rfl) kws [] _ _ ⟨_, #[], 0, Heap.get?_push_size _ rfl, ⟨rfl, rfl, rfl⟩, rfl, fun e he => by simp at he, .nil, .nil⟩ (fun _ _ => by simp) hkn fun h' tk hm' hs' => wpAny_pure ?_)
    rw [List.nil_append] at hm'
    refine h _ _ (H.more (fun b o e => ?_) (Nat.le_refl _) (dctA_of hm').choose_spec.1 (dctA_of hm').choose_spec.2)
    exact (hs'.2 b (Nat.ne_of_lt (Heap.lt_size e))).trans (Heap.get?_push_of_some _ e)

/-- a call of a def without cells of its own -/
theorem fn_enter {f : Addr} {o : Obj} {fd : FuncData} {body : List Stmt} {args : Args} {Q : Value → Shared → Prop} (H : St base os₀ led s) (hroom : A.depth < recursionLimit) (hlim : base.NoLimit)
    (ho : s.heap.get? f = some o) (hdata : o.data = .func fd) (hcd : s.heap.CodeRec fd.code fd.qualname) (hbody : fd.body = .stmts body)
    (hcell : ∀ x ∈ fd.scope.names, x.2 ≠ .cell)
    (h : wpAny (model prog w) A.in1 (bindArgs fd args) (fun binds s₁ => ∃ led₁, St base os₀ led₁ s₁ ∧ (∀ x ∈ binds, fd.scope.names.lookup x.1 = some .local) ∧
      ∀ L s₂, St base os₀ ((L, nsA fun x => binds.reverse.lookup x) :: led₁) s₂ →
        wpAny (model prog w) (A.deeper (callEnv fd L f)) (execs body (callEnv fd L f)) (fun fl s' => Q (match fl with | .ret v => v | _ => .none) s')
          (fun e s' => wpAny (model prog w) (A.deeper (callEnv fd L f)) (leaving (callEnv fd L f) e) (fun _ s'' => E e s'') (fun e' s'' => E e' s'') s') s₂) E s)
    (hco : fd.scope.isCoroutine = false := by rfl) (hgen : fd.scope.isGenerator = false := by rfl) (hk : fd.scope.kind = .function := by rfl) :
    wpAny (model prog w) A (call (.ref f) args.pos args.kw) Q E s := by
  refine wpAny_call (codeAny_call_function hroom ho hdata hco hgen hbody hcd (wpAny_mono h (fun binds s₁ h₁ => ?_) fun _ _ x => x))
  obtain ⟨led₁, H₁, hl, h₁⟩ := h₁
  refine wpAny_newFunctionEnv hcell hl (fun h' hns hsb => ?_) hk
  have H₂ : St base os₀ ((s₁.heap.objs.size, nsA fun x => binds.reverse.lookup x) :: led₁) { s₁ with heap := h', toks := s₁.toks + binds.length } := by
    obtain ⟨o', ho', hp'⟩ := nsA_of hns
    exact H₁.more (fun b o e => hsb.extBut b o (Nat.ne_of_lt (Heap.lt_size e)) (Heap.get?_push_of_some _ e)) (Nat.le_refl _) ho' hp'
  exact ⟨hlim.keeps H₂.keep, codeAny_func (h₁ _ _ H₂)⟩

/-- the cells of a frame, as entries -/
def cellLed (kindOf : Str → Option NameKind) (binds : List (Str × Value)) (cs : List (Str × Addr)) : Led := cs.map fun p => (p.2, celA (bindC kindOf binds (fun _ => none) p.1))

theorem lookup_of_mem {cs : List (Str × Addr)} (hn : (cs.map (·.1)).Nodup) {n : Str} {c : Addr} (h : (n, c) ∈ cs) : cs.lookup n = some c := by
  induction cs with
  | nil => cases h
  | cons p r ih =>
    obtain ⟨m, d⟩ := p
    simp only [List.map_cons, List.nodup_cons] at hn
    rw [List.lookup_cons]
    rcases List.mem_cons.mp h with e | h
    · cases e; simp
    · have : (n == m) = false := by
        cases q : n == m with
        | false => rfl
        | true => exact absurd (eq_of_beq q ▸ List.mem_map_of_mem (f := (·.1)) h) hn.1
      simp only [this]
      exact ih hn.2 h

/-- a call of a def that has cells and closes over nothing -/
theorem fn_enterC {f : Addr} {o : Obj} {fd : FuncData} {body : List Stmt} {args : Args} {Q : Value → Shared → Prop} (H : St base os₀ led s) (hroom : A.depth < recursionLimit) (hlim : base.NoLimit)
    (ho : s.heap.get? f = some o) (hdata : o.data = .func fd) (hcd : s.heap.CodeRec fd.code fd.qualname) (hbody : fd.body = .stmts body) (hclo : fd.closure = [])
    (hnd : ∀ n, ((cellsFrom n fd.scope.names []).map (·.1)).Nodup)
    (h : wpAny (model prog w) A.in1 (bindArgs fd args) (fun binds s₁ => ∃ led₁, St base os₀ led₁ s₁ ∧
      (∀ n, ∀ x ∈ binds, fd.scope.names.lookup x.1 = some .local ∨ (fd.scope.names.lookup x.1 = some .cell ∧ ((cellsFrom n fd.scope.names []).lookup x.1).isSome = true)) ∧
      ∀ L s₂, St base os₀ (cellLed (callEnvC fd L f).kindOf binds (cellsFrom (L + 1) fd.scope.names []) ++ (L, nsA (bindL (callEnvC fd L f).kindOf binds fun _ => none)) :: led₁) s₂ →
        wpAny (model prog w) (A.deeper (callEnvC fd L f)) (execs body (callEnvC fd L f)) (fun fl s' => Q (match fl with | .ret v => v | _ => .none) s')
          (fun e s' => wpAny (model prog w) (A.deeper (callEnvC fd L f)) (leaving (callEnvC fd L f) e) (fun _ s'' => E e s'') (fun e' s'' => E e' s'') s') s₂) E s)
    (hco : fd.scope.isCoroutine = false := by rfl) (hgen : fd.scope.isGenerator = false := by rfl) (hk : fd.scope.kind = .function := by rfl) :
    wpAny (model prog w) A (call (.ref f) args.pos args.kw) Q E s := by
  refine wpAny_call (codeAny_call_function hroom ho hdata hco hgen hbody hcd (wpAny_mono h (fun binds s₁ h₁ => ?_) fun _ _ x => x))
  obtain ⟨led₁, H₁, hkind, h₁⟩ := h₁
  rw [hclo]
  refine wpAny_newFunctionEnv_cells hk (hkind _) fun env he s₂ x => ?_
  subst he
  obtain ⟨h', tk, rfl⟩ := x.toInCall.same
  have hns := x.toInCall.ns
  have hkeep := x.toInCall.keep
  have hcell := x.cell
  have happ := x.apart
  have habv := x.above
  have H₂ : St base os₀ ((s₁.heap.objs.size, nsA (bindL (callEnvC fd s₁.heap.objs.size f).kindOf binds fun _ => none)) :: led₁) { s₁ with heap := h', toks := tk } := by
    obtain ⟨o', ho', hp'⟩ := nsA_of hns
    exact H₁.more hkeep (Nat.le_refl _) ho' hp'
  have H₃ : St base os₀ (cellLed (callEnvC fd s₁.heap.objs.size f).kindOf binds (cellsFrom (s₁.heap.objs.size + 1) fd.scope.names []) ++ (s₁.heap.objs.size, nsA (bindL (callEnvC fd s₁.heap.objs.size f).kindOf binds fun _ => none)) :: led₁) { s₁ with heap := h', toks := tk } := by
    have hbig : ∀ p ∈ cellsFrom (s₁.heap.objs.size + 1) fd.scope.names [], s₁.heap.objs.size < p.2 := fun p hp => habv p.1 p.2 hp
    refine ⟨H₂.keep, ?_, fun p hp => ?_, fun p hp => ?_, H₂.gens, H₂.os⟩
    · rw [List.map_append, List.nodup_append]
      refine ⟨?_, H₂.nd, ?_⟩
      · unfold cellLed
        rw [List.map_map]
        exact List.pairwise_map.mpr (happ.imp fun h => h)
      · intro a ha b hb e
        subst e
        obtain ⟨p, hp, rfl⟩ := List.mem_map.mp ha
        obtain ⟨q, hq, rfl⟩ := List.mem_map.mp hp
        have hlt := hbig q hq
        obtain ⟨r, hr, er⟩ := List.mem_map.mp hb
        rcases List.mem_cons.mp hr with rfl | hr
        · exact absurd hlt (by simp only at er; rw [← er]; exact Nat.lt_irrefl _)
        · obtain ⟨o', ho', _⟩ := H₁.has r hr
          have := Heap.lt_size ho'
          rw [er] at this
          exact absurd this (Nat.not_lt.mpr (Nat.le_of_lt hlt))
    · rcases List.mem_append.mp hp with hp | hp
      · obtain ⟨q, hq, rfl⟩ := List.mem_map.mp hp
        exact hcell q.1 q.2 (lookup_of_mem (hnd _) hq)
      · exact H₂.has p hp
    · rcases List.mem_append.mp hp with hp | hp
      · obtain ⟨q, hq, rfl⟩ := List.mem_map.mp hp
        exact H₁.newAt (Nat.le_of_lt (hbig q hq))
      · exact H₂.new p hp
  exact ⟨hlim.keeps H₃.keep, codeAny_func (h₁ _ _ H₃)⟩
end
end Mine

namespace Mine
open PySem PySem.W PyProof.Rows PySem.Calls PySem.Spec
theorem Up.of_mem {a : Addr} {P : Asn} : ∀ {l : Led}, (a, P) ∈ l → Up a P P l l
  | _ :: _, .head _ => .head
  | _ :: _, .tail _ h => .tail (Up.of_mem h)

def ex0 (cls : String) : Asn := fun o => o.cls = .type cls ∧ ∃ vs, o.data = .fields vs ∧ 4 < vs.size ∧ vs[1]? = some .none
def ex1 (cls : String) (t : Addr) : Asn := fun o => o.cls = .type cls ∧ ∃ vs, o.data = .fields vs ∧ 4 < vs.size ∧ vs[1]? = some (.ref t)
def tbA : Asn := fun o => ∃ vs, o.data = .fields vs ∧ 3 < vs.size
/-- an exception that has a traceback -/
def Fly (base : Heap) (os₀ : OsState) (led : Led) (e : Addr) (cls : String) (s : Shared) : Prop := ∃ t, St base os₀ ((e, ex1 cls t) :: (t, tbA) :: led) s
def FramesOk (led : Led) (fs : List Env) : Prop := ∀ env ∈ fs, env.scope.kind ≠ .module ∧ ∃ L m, env.frame = some L ∧ (L, nsA m) ∈ led
theorem FramesOk.mono {led led' : Led} {fs : List Env} (h : FramesOk led fs) (hs : ∀ p ∈ led, p ∈ led') : FramesOk led' fs := fun env he => by
  obtain ⟨h1, L, m, h2, h3⟩ := h env he
  exact ⟨h1, L, m, h2, hs _ h3⟩
theorem FramesOk.cons {led : Led} {fs : List Env} {env : Env} {L : Addr} {m : Str → Option Value} (h : FramesOk led fs) (hk : env.scope.kind ≠ .module) (hf : env.frame = some L) (hm : (L, nsA m) ∈ led) : FramesOk led (env :: fs) := fun env' he => by
  rcases List.mem_cons.mp he with rfl | he
  · exact ⟨hk, L, m, hf, hm⟩
  · exact h env' he
theorem FramesOk.tail {led : Led} {fs : List Env} {env : Env} (h : FramesOk led (env :: fs)) : FramesOk led fs := fun env' he => h env' (.tail _ he)

section
variable {prog : Program} {w : World} {A : Around} {E : Value → Shared → Prop} {s : Shared} {base : Heap} {os₀ : OsState} {led led' : Led} {e : Addr} {cls : String} {env : Env}

theorem ready {M : Model} : ∀ (fs : List Env) {s : Shared} {Q : Unit → Shared → Prop}, St base os₀ led s → FramesOk led fs → (∀ s', St base os₀ led s' → Q () s') → wpAny M A (readyFrames fs) Q E s
  | [], s, Q, H, _, h => by simp only [readyFrames]; exact wpAny_pure (h s H)
  | env :: outer, s, Q, H, hF, h => by
    obtain ⟨hk, L, m, hf, hm⟩ := hF env (.head _)
    obtain ⟨o, ho, hn⟩ := H.get hm
    simp only [readyFrames, hf]
    refine wpAny_bind (wpAny_load ho ?_)
    by_cases hr : ((o.slots.getD 3 none).isSome) = true
    · rw [if_pos hr]; exact wpAny_pure (h _ H)
    · rw [if_neg hr]
      refine wpAny_bind (wpAny_of_eq (a := false) (by simp [behindIsImport, hk]) ?_)
      have rest : ∀ back, wpAny M A (do
          update L fun o => { o with slots := #[some env.code, some (.ref env.globals), o.slots.getD 2 none, some back, o.slots.getD 4 none, env.func.map Value.ref, some (.ref env.builtins)] ++ (env.cells.map fun c => some (.ref c.2)).toArray }
          readyFrames outer) Q E s := fun back => by
        refine wpAny_bind (wpAny_update ho ?_)
        obtain ⟨es, ep, hd, hrest⟩ := hn
        have hnf : o.isFreed = false := Obj.isFreed_of_dict hd
        refine ready outer (H.upd (tk := s.toks) (Up.of_mem hm) (Heap.SameBut.update ..).extBut ⟨_, Heap.get?_update_self _ ho ?_, es, ep, hd, hrest⟩) hF.tail h
        obtain ⟨c, d, dt, sl⟩ := o
        cases dt <;> first | rfl | exact hnf
      cases outer with
      | nil => exact wpAny_bind (wpAny_keptBack_nil fun v => rest v)
      | cons c r => exact wpAny_bind (wpAny_pure (rest _))

theorem frameOf_ok {M : Model} {fs : List Env} {L : Addr} {Q : Value → Shared → Prop} (H : St base os₀ led s) (hfr : A.frames = some fs) (hF : FramesOk led fs) (hin : env ∈ fs) (hf : env.frame = some L)
    (h : ∀ v s', St base os₀ led s' → Q v s') : wpAny M A (PySem.frameOf env) Q E s := by
  unfold PySem.frameOf
  refine wpAny_bind (wpAny_frameEnvs hfr ?_)
  have hsub : ∀ x ∈ fs.dropWhile (fun x => x.frame != env.frame), x ∈ fs := fun x hx => (List.dropWhile_sublist _).subset hx
  have hne : fs.dropWhile (fun x => x.frame != env.frame) ≠ [] := fun q => by
    have hall : ∀ (l : List Env), l.dropWhile (fun x => x.frame != env.frame) = [] → ∀ x ∈ l, (x.frame != env.frame) = true := fun l => by
      induction l with
      | nil => intro _ x hx; cases hx
      | cons y r ih =>
        intro hl x hx
        rw [List.dropWhile_cons] at hl
        split at hl
        · rename_i hy
          rcases List.mem_cons.mp hx with rfl | hx
          · exact hy
          · exact ih hl x hx
        · cases hl
    have := hall fs q env hin
    simp at this
  cases hq : fs.dropWhile (fun x => x.frame != env.frame) with
  | nil => exact absurd hq hne
  | cons y r =>
    rw [hq] at hsub
    have hF' : FramesOk led (y :: r) := fun x hx => hF x (hsub x hx)
    unfold frameObject
    refine wpAny_bind (wpAny_bind (ready _ H hF' fun s' H' => wpAny_pure ?_))
    obtain ⟨_, Ly, _, hfy, _⟩ := hF' y (.head _)
    rw [hfy]
    exact wpAny_pure (h _ s' H')

theorem setF {M : Model} {a : Addr} {P P' : Asn} {i : Nat} {x : Value} {Q : Unit → Shared → Prop} (H : St base os₀ led s) (U : Up a P P' led led') (hP : ∀ o, P o → ∃ vs, o.data = .fields vs ∧ i < vs.size ∧ ∀ o', o'.cls = o.cls → o'.data = .fields (vs.setIfInBounds i x) → P' o')
    (h : ∀ s', St base os₀ led' s' → Q () s') : wpAny M A (setField (.ref a) i x) Q E s := by
  obtain ⟨o, ho, hp⟩ := H.get U.mem
  obtain ⟨vs, hd, hi, hP'⟩ := hP o hp
  refine wpAny_setField ho hd hi (h _ (H.upd (tk := s.toks) U (Heap.SameBut.update ..).extBut ⟨_, Heap.get?_update_self _ ho (Obj.isFreed_of_fields (Obj.data_mapFields hd _)), hP' _ (Obj.cls_mapFields ..) (Obj.data_mapFields hd _)⟩))

theorem note_tail {M : Model} {fs : List Env} {L : Addr} {P : Asn} {head : Value} {b : Bool} {Q : Unit → Shared → Prop} (H : St base os₀ ((e, P) :: led) s) (hP : ∀ o, P o → o.cls = .type cls ∧ ∃ vs, o.data = .fields vs ∧ 4 < vs.size)
    (hfr : A.frames = some fs) (hF : FramesOk led fs) (hin : env ∈ fs) (hf : env.frame = some L) (h : ∀ s', Fly base os₀ led e cls s' → Q () s') :
    wpAny M A (do let fr ← PySem.frameOf env; let pl ← entryPlaceOf L b; let t ← EntryCells.newEntry head fr .none (rawInt L) .none pl; setField (.ref e) 1 t) Q E s := by
  refine wpAny_bind (frameOf_ok H hfr (hF.mono fun p hp => .tail _ hp) hin hf fun v s' H' => ?_)
  refine wpAny_bind (wpAny_entryPlaceOf fun pl hpl => ?_)
  unfold EntryCells.newEntry newFields
  refine wpAny_bind (wpAny_newObj_type ?_ (hpl.sizeOk5 _ _ _ _ _))
  have H₂ := H'.push (tk := s'.toks) (P := tbA) (o := { cls := .type "traceback", dict := none, data := .fields ([head, v, .none, rawInt L, .none] ++ (if pl.isEmpty then List.replicate 6 Value.none else pl)).toArray }) rfl ⟨_, rfl, by simp⟩
  refine setF (P' := ex1 cls s'.heap.objs.size) H₂ (.tail .head) (fun o hp => ?_) fun s'' H'' => h s'' ⟨_, H''.perm (.swap ..)⟩
  obtain ⟨hc, vs, hd, hsz⟩ := hP o hp
  refine ⟨vs, hd, by omega, fun o' hc' hd' => ⟨hc'.trans hc, _, hd', by simpa using hsz, ?_⟩⟩
  rw [Array.getElem?_setIfInBounds_self_of_lt (by omega)]

theorem note0 {M : Model} {fs : List Env} {L : Addr} {Q : Unit → Shared → Prop} (H : St base os₀ ((e, ex0 cls) :: led) s) (hfr : A.frames = some fs) (hF : FramesOk led fs) (hin : env ∈ fs) (hf : env.frame = some L)
    (h : ∀ s', Fly base os₀ led e cls s' → Q () s') : wpAny M A (noteFrame (.ref e) env) Q E s := by
  obtain ⟨o, ho, hc, vs, hd, hsz, h1⟩ := H.get (.head _)
  unfold noteFrame
  simp only [hf]
  refine wpAny_bind (wpAny_field ho hd h1 ?_)
  rw [if_neg (by decide)]
  exact note_tail H (fun o hp => ⟨hp.1, let ⟨vs, a, b, _⟩ := hp.2; ⟨vs, a, b⟩⟩) hfr hF hin hf h

theorem note1 {M : Model} {fs : List Env} {L : Addr} {Q : Unit → Shared → Prop} (H : Fly base os₀ led e cls s) (hfr : A.frames = some fs) (hF : FramesOk led fs) (hin : env ∈ fs) (hf : env.frame = some L)
    (h : ∀ s', Fly base os₀ led e cls s' → Q () s') : wpAny M A (noteFrame (.ref e) env) Q E s := by
  obtain ⟨t, H⟩ := H
  obtain ⟨o, ho, hc, vs, hd, hsz, h1⟩ := H.get (.head _)
  obtain ⟨ot, hot, tvs, htd, htz⟩ := H.get (.tail _ (.head _))
  unfold noteFrame
  simp only [hf]
  refine wpAny_bind (wpAny_field ho hd h1 ?_)
  rw [if_pos (show (Value.ref t != Value.none) = true from by simp)]
  refine wpAny_bind (wpAny_field hot htd (Array.getElem?_eq_getElem htz) ?_)
  by_cases hq : (tvs[3] == rawInt L) = true
  · rw [if_pos hq]; exact wpAny_pure (h s ⟨t, H⟩)
  · rw [if_neg hq]
    refine wpAny_bind (setF (P' := tbA) H (.tail .head) (fun o hp => ?_) fun s' H' => ?_)
    · obtain ⟨vs', hd', hz'⟩ := hp
      exact ⟨vs', hd', hz', fun o' _ hd'' => ⟨_, hd'', by simpa using hz'⟩⟩
    · exact note_tail H' (fun o hp => ⟨hp.1, let ⟨vs, a, b, _⟩ := hp.2; ⟨vs, a, b⟩⟩) hfr (hF.mono fun p hp => .tail _ hp) hin hf fun s'' ⟨t', H''⟩ => h s'' ⟨t', H''.sub (.cons_cons _ (.cons_cons _ (.cons _ (.refl _))))⟩

theorem flight {M : Model} {x : Option Addr} {Q : Unit → Shared → Prop} (H : Fly base os₀ led e cls s) (h : ∀ s', Fly base os₀ led e cls s' → Q () s') : wpAny M A (setFlight (.ref e) x) Q E s := by
  obtain ⟨t, H⟩ := H
  obtain ⟨o, ho, hc, vs, hd, hsz, h1⟩ := H.get (.head _)
  unfold setFlight
  refine wpAny_bind (wpAny_field ho hd h1 ?_)
  rw [if_pos (show (Value.ref t != Value.none) = true from by simp)]
  refine setF (P' := tbA) H (.tail .head) (fun o hp => ?_) fun s' H' => h s' ⟨t, H'⟩
  obtain ⟨vs', hd', hz'⟩ := hp
  exact ⟨vs', hd', hz', fun o' _ hd'' => ⟨_, hd'', by simpa using hz'⟩⟩

theorem leave0 {M : Model} {fs : List Env} {L : Addr} {Q : Unit → Shared → Prop} (H : St base os₀ ((e, ex0 cls) :: led) s) (hfr : A.frames = some fs) (hF : FramesOk led fs) (hin : env ∈ fs) (hf : env.frame = some L)
    (h : ∀ s', Fly base os₀ led e cls s' → Q () s') : wpAny M A (leaving env (.ref e)) Q E s := by
  unfold leaving
  exact wpAny_bind (note0 H hfr hF hin hf fun s' H' => flight H' h)
theorem leave1 {M : Model} {fs : List Env} {L : Addr} {Q : Unit → Shared → Prop} (H : Fly base os₀ led e cls s) (hfr : A.frames = some fs) (hF : FramesOk led fs) (hin : env ∈ fs) (hf : env.frame = some L)
    (h : ∀ s', Fly base os₀ led e cls s' → Q () s') : wpAny M A (leaving env (.ref e)) Q E s := by
  unfold leaving
  exact wpAny_bind (note1 H hfr hF hin hf fun s' H' => flight H' h)

end
end Mine

namespace Mine
open PySem PySem.W PyProof.Rows PySem.Calls PySem.Spec
def tabA (ps : Array Value) : Asn := fun o => o = tabObj ps
def codeA (qual : Str) : Asn := fun o => ∃ vs t, o.data = .fields vs ∧ vs[1]? = some (.str qual t)
/-- what the top gives -/
structure Gr (base : Heap) (mg mb : Str → Option Value) : Prop where
  g : base.Ns mainGlobals mg
  b : base.Ns builtinsNs mb
  lim : base.NoLimit
  sys : ∃ o, base.get? sysModules = some o
  bmain : ∃ bm ob, mg "__builtins__" = some (.ref bm) ∧ bm ≠ builtinsNs ∧ base.get? bm = some ob ∧ ob.cls = .type "module" ∧ ob.dict = some builtinsNs ∧ ob.data = .plain
section
variable {M : Model} {A : Around} {E : Value → Shared → Prop} {s : Shared} {base : Heap} {os₀ : OsState} {led : Led} {env : Env} {mg mb : Str → Option Value} {c P : Addr} {ps : Array Value} {pos : Pos} {firstLine : Nat} {name qual : Str} {params : Arguments} {scope : Scope}
  {clos : List (Str × Addr)} {Q : Value → Shared → Prop}

theorem Gr.builtinsAt (G : Gr base mg mb) (H : St base os₀ led s) (hm : (P, tabA ps) ∈ led) : mainGlobals ≠ P ∧ s.heap.BuiltinsAt mg P := by
  obtain ⟨o, ho, rfl⟩ := H.get hm
  obtain ⟨bm, ob, b1, b2, b3, b4, b5, b6⟩ := G.bmain
  have hgP : mainGlobals ≠ P := fun q => by
    obtain ⟨o, es, ep, e, hd, _⟩ := G.g
    have := H.keep _ _ e
    rw [q, ho] at this; cases this; cases hd
  have hbP : bm ≠ P := fun q => by
    have e := H.keep _ _ b3
    rw [q, ho] at e; cases e; cases b4
  have hbG : bm ≠ mainGlobals := fun q => by
    obtain ⟨o, es, ep, e, hd, _⟩ := G.g
    rw [q, e] at b3; cases b3; rw [hd] at b6; cases b6
  exact ⟨hgP, bm, ob, b1, b2, hbG, hbP, H.keep _ _ b3, b4, b5, b6⟩

theorem St.made {h' : Heap} {tk c' : Nat} {o : Obj} {led' : Led} {ps' : Array Value} (H : St base os₀ led s) (U : Up P (tabA ps) (tabA ps') led led') (hx : Heap.ExtBut P s.heap h') (hge : s.heap.objs.size ≤ c') (hlt : c' < h'.objs.size) (hrec : h'.CodeRec (.ref c') qual)
    (hP : h'.get? P = some (tabObj ps')) (hf : o.isFreed = false) : St base os₀ ((h'.objs.size, objA o) :: (c', codeA qual) :: led') { s with heap := h'.push o, toks := tk } := by
  obtain ⟨c₂, oc, vs, t, e2, hoc, hd, hv⟩ := hrec
  cases e2
  have H₁ : St base os₀ led' { s with heap := h', toks := tk } := H.upd U hx ⟨_, hP, rfl⟩
  have hc' : c' ∉ led'.map (·.1) := fun q => by
    rw [U.keys] at q
    obtain ⟨p, hp, e⟩ := List.mem_map.mp q
    obtain ⟨o', ho', _⟩ := H.has p hp
    have := Heap.lt_size ho'
    rw [e] at this
    exact absurd this (Nat.not_lt.mpr hge)
  have H₂ : St base os₀ ((c', codeA qual) :: led') { s with heap := h', toks := tk } := by
    refine ⟨H₁.keep, by simp only [List.map_cons, List.nodup_cons]; exact ⟨hc', H₁.nd⟩, fun p hp => ?_, fun p hp => ?_, H₁.gens, H₁.os⟩
    · rcases List.mem_cons.mp hp with rfl | hp
      · exact ⟨oc, hoc, vs, t, hd, hv⟩
      · exact H₁.has p hp
    · rcases List.mem_cons.mp hp with rfl | hp
      · exact H.newAt hge
      · exact H₁.new p hp
  exact H₂.push (tk := tk) hf rfl

theorem mk_def_new {body : List Stmt} {led' : Addr → Led} (H : St base os₀ led s) (G : Gr base mg mb) (C : CodeHd base c P) (hcode : env.code = .ref c) (hge0 : env.globals = mainGlobals) (hcl : closureFor scope env = pure clos)
    (ht : TriplesOk ps.toList) (hnf : codeAmong pos ps.toList = none) (U : ∀ c', Up P (tabA ps) (tabA (ps ++ #[rawInt pos.line, rawInt pos.col, .ref c'])) led (led' c'))
    (h : ∀ f c' ctv doc s', St base os₀ ((f, objA (fnMade name qual params body scope clos doc ((mg "__name__").getD .none) c' ctv)) :: (c', codeA qual) :: led' c') s' → Q (.ref f) s') :
    wpAny M A (makeFunction name qual params (.stmts body) scope env [] [] [] pos firstLine) Q E s := by
  have hm := (U 0).mem
  obtain ⟨hgP, hb⟩ := G.builtinsAt H hm
  obtain ⟨o, ho, rfl⟩ := H.get hm
  refine makeFunction_K (mg := mg) hcl hge0 (G.g.keeps H.keep) hcode (C.keeps H.keep) ho ht hnf hgP hb fun c' ctv doc h' tk hx hge hlt hrec htb => ?_
  exact h _ c' ctv doc _ (H.made (U c') hx hge hlt hrec htb rfl)

theorem mk_def_hit {body : List Stmt} {c' : Addr} (H : St base os₀ led s) (G : Gr base mg mb) (C : CodeHd base c P) (hcode : env.code = .ref c) (hge0 : env.globals = mainGlobals) (hcl : closureFor scope env = pure clos)
    (ht : TriplesOk ps.toList) (hm : (P, tabA ps) ∈ led) (hf : codeAmong pos ps.toList = some (.ref c'))
    (h : ∀ f ctv doc s', St base os₀ ((f, objA (fnMade name qual params body scope clos doc ((mg "__name__").getD .none) c' ctv)) :: led) s' → Q (.ref f) s') :
    wpAny M A (makeFunction name qual params (.stmts body) scope env [] [] [] pos firstLine) Q E s := by
  obtain ⟨hgP, hb⟩ := G.builtinsAt H hm
  obtain ⟨o, ho, rfl⟩ := H.get hm
  refine makeFunction_hit (mg := mg) hcl hge0 (G.g.keeps H.keep) hcode (C.keeps H.keep) ho ht hf hb fun ctv doc h' tk hk hsz => ?_
  exact h _ ctv doc _ ((H.ext (tk := tk) hk).push (s := { s with heap := h', toks := tk }) (tk := tk) rfl rfl)

/-- the name of an exception goes behind its suite -/
theorem name_goes {n : Str} {m : Str → Option Value} {Q : Unit → Shared → Prop} {led' : Option Value → Led} (H : St base os₀ led s) (U : ∀ v, Up env.locals (nsA m) (nsA fun y => if y = n then v else m y) led (led' v))
    (h : ∀ v s', St base os₀ (led' v) s' → Q () s') (hk : env.scope.kind = .function := by rfl) (hx : env.kindOf n = some .local := by rfl) :
    wpAny M A (do bindName env n .none; unbindBehindTheSuite env n pos) Q E s :=
  wpAny_nameGoes_keeps hx (H.ns (U none).mem) (by rw [hk]; rfl) fun h' v hn hs => h v _ (H.upd (U v) hs.extBut (nsA_of hn))
end
end Mine

namespace Mine
open PySem PySem.W PyProof.Rows PySem.Calls PySem.Spec
/-- a class of exceptions that the library knows -/
abbrev Exc (cls : String) : Prop := ∃ N I, ExcClass cls N I
/-- an exception made, never raised -/
def exN (cls : String) : Asn := fun o => o.cls = .type cls ∧ ∃ t, o.data = .fields #[t, .none, .none, .none, .bool false, .none]
theorem ex0_of_exN {cls : String} {o : Obj} (h : exN cls o) : ex0 cls o := by obtain ⟨h, t, ht⟩ := h; exact ⟨h, _, ht, by simp, rfl⟩
section
variable {prog : Program} {w : World} {A : Around} {E : Value → Shared → Prop} {s : Shared} {base : Heap} {os₀ : OsState} {led led' : Led} {env : Env} {e : Addr} {cls : String}

theorem St.ofMade {h' : Heap} (H : St base os₀ led s) (hm : Heap.NewExc s.heap h' e cls) : St base os₀ ((e, exN cls) :: led) { s with heap := h' } := by
  have hne : ∀ p ∈ led, p.1 ≠ e := fun p hp q => by
    obtain ⟨o, ho, _⟩ := H.has p hp
    rw [q, hm.new] at ho; cases ho
  obtain ⟨ob, t, ht, hc, hd⟩ := hm.there
  refine ⟨fun b o q => hm.keeps b o (H.keep b o q), ?_, fun p hp => ?_, fun p hp => ?_, H.gens, H.os⟩
  · simp only [List.map_cons, List.nodup_cons]
    exact ⟨fun h => by obtain ⟨p, hp, q⟩ := List.mem_map.mp h; exact hne p hp q, H.nd⟩
  · rcases List.mem_cons.mp hp with rfl | hp
    · exact ⟨_, ht, hc, t, hd⟩
    · obtain ⟨o, ho, q⟩ := H.has p hp; exact ⟨o, hm.keeps _ _ ho, q⟩
  · rcases List.mem_cons.mp hp with rfl | hp
    · cases q : base.get? e with
      | none => rfl
      | some o => have := H.keep _ _ q; rw [hm.new] at this; cases this
    · exact H.new p hp
theorem made_exc (F : Exc cls) {rest : List Value} {Q : Value → Shared → Prop} (H : St base os₀ led s) (h : ∀ e s', St base os₀ ((e, exN cls) :: led) s' → Q (.ref e) s') (hrest : rest.length ≤ sizeLine := by size_fits) :
    wpAny (model prog w) A (call (.type cls) rest) Q E s := by
  obtain ⟨N, I, F⟩ := F
  exact call_exc F (fun h' e hm => h e _ (H.ofMade hm)) hrest

theorem raise_made (F : Exc cls) {x : Expr} {pos : Pos} {Q : Flow → Shared → Prop} (hh : A.handled = none)
    (h : wpAny (model prog w) A (eval x env) (fun v s₁ => ∃ e led₁, v = .ref e ∧ St base os₀ led₁ s₁ ∧ (e, exN cls) ∈ led₁ ∧ E (.ref e) s₁) E s) :
    wpAny (model prog w) A (exec (.Raise (some x) none pos) env) Q E s := by
  obtain ⟨N, I, F⟩ := F
  refine Raise_new hh (wpAny_mono h (fun v s₁ ⟨e, led₁, hv, H, hm, hE⟩ => ?_) fun _ _ x => x)
  obtain ⟨o, ho, hc, t, hd⟩ := H.get hm
  exact ⟨e, o, _, cls, N, I, F, hv, ho, hc, hd, rfl, hE⟩

theorem l_append {l : Addr} {vs : List Value} {x : Value} {Q : Value → Shared → Prop} (H : St base os₀ led s) (U : Up l (lstA vs) (lstA (vs ++ [x])) led led') (h : ∀ s', St base os₀ led' s' → Q .none s') (hsz : vs.length ≤ sizeLine := by size_fits) :
    wpAny (model prog w) A (call (.builtin "list.append") [.ref l, x]) Q E s := by
  obtain ⟨o, ho, n, rfl⟩ := H.get U.mem
  exact append_at ho (fun h' hs ho' => h _ (H.upd (tk := s.toks) U hs.extBut ⟨_, ho', n + 1, by rw [List.push_toArray]⟩)) (by rw [List.size_toArray]; exact hsz)

/-- a method of a list, called with one argument -/
theorem l_append_stmt {o a : Expr} {apos pos : Pos} {l : Addr} {pl : Sem Bool} {Q : Value → Shared → Prop}
    (h : wpAny (model prog w) A (eval o env) (fun ov s₁ => ov = .ref l ∧ (∃ ob, s₁.heap.get? l = some ob ∧ ob.cls = .type "list" ∧ ob.dict = none) ∧ wpAny (model prog w) A (eval a env) (fun v s₂ => wpAny (model prog w) A (call (.builtin "list.append") [.ref l, v]) Q E s₂) E s₁) E s)
    (he : eval (.Call (.Attribute o (Str.ofString "append") apos) [a] [] pos) env = (do
      let ov ← eval o env
      standAt apos.atName
      let (f, first) ← holding [ov] (getMethod ov (Str.ofString "append") pl)
      callWith pos f first (backTo pos (starEach [a] env)) (backToKw pos (keywordEach [] env))) := by rfl)
    (ha : starEach [a] env = [(false, eval a env)] := by rfl) :
    wpAny (model prog w) A (eval (.Call (.Attribute o (Str.ofString "append") apos) [a] [] pos) env) Q E s := by
  refine methodCall_KW (pl := pl) (wpAny_mono h (fun ov s₁ h₁ => ?_) fun _ _ x => x) he
  obtain ⟨rfl, ⟨ob, ho, hc, hd⟩, h₁⟩ := h₁
  refine getMethod_list_append ho hc hd ?_
  rw [ha]
  exact callWith_builtin rfl (evalArgs_plain (spliced_cons (wpAny_mono h₁ (fun v s₂ h₂ => spliced_nil h₂) fun _ _ x => x)))
end
end Mine

namespace Mine
open PySem PySem.W PyProof.Rows PySem.Calls PySem.Spec
/-- one entry is taken out of a ledger -/
inductive Pick (a : Addr × Asn) : Led → Led → Prop
  | head {l} : Pick a (a :: l) l
  | tail {b l l'} : Pick a l l' → Pick a (b :: l) (b :: l')
theorem Pick.perm {a : Addr × Asn} {l l' l'' : Led} (h : Pick a l l') (hp : l''.Perm l') : (a :: l'').Perm l := by
  have : (a :: l').Perm l := by
    clear hp
    induction h with
    | head => exact .refl _
    | tail _ ih => exact (List.Perm.swap ..).trans (ih.cons _)
  exact (hp.cons a).trans this
def itA (l : Addr) (i : Nat) : Asn := fun o => o.cls = .type "list_iterator" ∧ o.data = .fields #[.ref l, .int i 0]
section
variable {prog : Program} {w : World} {A : Around} {E : Value → Shared → Prop} {s : Shared} {base : Heap} {os₀ : OsState} {led led' : Led} {env : Env}

theorem item_l {value slice : Expr} {a : Addr} {vs : List Value} {k : Int} {u : Tok} {x : Value} {Q : Value → Shared → Prop} (H : St base os₀ led s) (hm : (a, lstA vs) ∈ led)
    (h0 : 0 ≤ k) (hfit : k < 2 ^ 63) (hx : vs[k.toNat]? = some x) (h : Q x s)
    (hs : subscripted slice false (.ref a) (.int k u) = operate [.ref a, .int k u] (getItem (.ref a) (.int k u)) := by with_unfolding_all rfl) :
    wpAny (model prog w) A (subscriptTail value slice (.ref a) (.int k u)) Q E s :=
  item_listR (H.isList hm) h0 hfit (by simpa using hx) h hs

/-- the loop over a list of the ledger -/
theorem for_turns {R : Result → Shared → Prop} {target : Expr} {body : List Stmt} {I l : Addr} {vs : List Value} (J : Nat → Led → Prop) (hh : A.handled = none)
    (turn : ∀ i v led s E', vs[i]? = some v → J i led → St base os₀ ((I, itA l (i + 1)) :: (l, lstA vs) :: led) s →
      wpAny (model prog w) A (assign target env v) (fun _ s₂ => wpAny (model prog w) A (execs body env) (fun f s₃ => match f with
        | .next | .cont => ∃ led', J (i + 1) led' ∧ St base os₀ ((I, itA l (i + 1)) :: (l, lstA vs) :: led') s₃
        | .brk => R (.ok .next) s₃
        | .ret v => R (.ok (.ret v)) s₃) E' s₂) E' s)
    (fin : ∀ led s, J vs.length led → St base os₀ ((l, lstA vs) :: led) s → R (.ok .next) s)
    (H : St base os₀ ((I, itA l 0) :: (l, lstA vs) :: led) s) (h0 : J 0 led)
    (ht : ∀ v, letOwnedTupleGo target (.ref I) v = pure () := by intro _; rfl) :
    codeAny (model prog w) A (.forLoop target (.ref I) body [] env) R s := by
  refine codeAny_forLoop (fun k s' => ∃ i led', k = vs.length + 1 - i ∧ i ≤ vs.length ∧ J i led' ∧ St base os₀ ((I, itA l i) :: (l, lstA vs) :: led') s') ?_ (vs.length + 1) ⟨0, led, rfl, Nat.zero_le _, h0, H⟩ ht
  rintro k s' ⟨i, led', rfl, hi, hJ, H'⟩
  have hl := H'.isList (vs := vs) (a := l) (.tail _ (.head _))
  obtain ⟨oi, hoi, hic, hid⟩ := H'.get (.head _)
  have hit : s'.heap.IsListIter I l i := ⟨oi, hoi, hic, hid⟩
  by_cases hlt : i < vs.length
  · refine wpAny_pyNext_list_item hit hl (x := vs[i]) (by simp [hlt]) fun h' hit' hs' => ?_
    obtain ⟨oi', hoi', hic', hid'⟩ := hit'
    have H₁ : St base os₀ ((I, itA l (i + 1)) :: (l, lstA vs) :: led') { s' with heap := h' } := H'.upd (tk := s'.toks) .head hs'.extBut ⟨oi', hoi', hic', hid'⟩
    refine wpAny_mono (turn i vs[i] led' _ _ (by simp [hlt]) hJ H₁) (fun _ s₂ h₂ => wpAny_mono h₂ (fun f s₃ h₃ => ?_) fun _ _ x => x) fun _ _ x => x
    cases f with
    | next => obtain ⟨led'', hJ', H''⟩ := h₃; exact ⟨vs.length + 1 - (i + 1), by omega, i + 1, led'', rfl, hlt, hJ', H''⟩
    | cont => obtain ⟨led'', hJ', H''⟩ := h₃; exact ⟨vs.length + 1 - (i + 1), by omega, i + 1, led'', rfl, hlt, hJ', H''⟩
    | brk => exact h₃
    | ret v => exact h₃
  · have hin : i = vs.length := by omega
    subst hin
    refine wpAny_pyNext_list_end hh hit hl (by simp) fun h' he' => wpAny_execs_nil (fin led' _ hJ ?_)
    have H₁ : St base os₀ ((l, lstA vs) :: led') s' := H'.sub (.cons _ (.refl _))
    refine ⟨fun b o e => he' b o (fun q => ?_) (H'.keep b o e), H₁.nd, fun p hp => ?_, H₁.new, H₁.gens, H₁.os⟩
    · have := H'.new _ (.head _)
      simp only at this
      rw [← q, e] at this; cases this
    · obtain ⟨o, ho, hP⟩ := H₁.has p hp
      exact ⟨o, he' _ _ (H'.ne hp) ho, hP⟩

theorem for_list {target iter : Expr} {body : List Stmt} {pos : Pos} {Q : Flow → Shared → Prop} (J : Nat → Led → Prop) (hh : A.handled = none)
    (h : wpAny (model prog w) A (eval iter env) (fun x s₁ => ∃ l vs led, x = .ref l ∧ St base os₀ ((l, lstA vs) :: led) s₁ ∧ J 0 led ∧
      (∀ I i v led s E', vs[i]? = some v → J i led → St base os₀ ((I, itA l (i + 1)) :: (l, lstA vs) :: led) s →
        wpAny (model prog w) A (assign target env v) (fun _ s₂ => wpAny (model prog w) A (execs body env) (fun f s₃ => match f with
          | .next | .cont => ∃ led', J (i + 1) led' ∧ St base os₀ ((I, itA l (i + 1)) :: (l, lstA vs) :: led') s₃
          | .brk => Q .next s₃
          | .ret v => Q (.ret v) s₃) E' s₂) E' s) ∧
      (∀ led s, J vs.length led → St base os₀ ((l, lstA vs) :: led) s → Q .next s)) E s)
    (hs : ∀ x, foldedSetIterable iter env x = pure x := by intro _; rfl)
    (ht : ∀ I v, letOwnedTupleGo target (.ref I) v = pure () := by intro _ _; rfl) :
    wpAny (model prog w) A (exec (.For target iter body [] pos) env) Q E s := by
  refine wpAny_For (wpAny_mono h (fun x s₁ h₁ => ?_) fun _ _ x => x) hs
  obtain ⟨l, vs, led, rfl, H, h0, turn, fin⟩ := h₁
  refine wpAny_pyIter_list (H.isList (.head _)) ?_
  exact for_turns J hh (fun i v led s E' hv hJ H' => turn _ i v led s E' hv hJ H') fin (H.push (tk := s₁.toks) rfl ⟨rfl, rfl⟩) h0 (ht _)

theorem new_dict {pos : Pos} {Q : Value → Shared → Prop} (H : St base os₀ led s) (h : ∀ a s', St base os₀ ((a, dctA (strKind prog w) []) :: led) s' → Q (.ref a) s') :
    wpAny (model prog w) A (eval (.Dict [] [] pos) env) Q E s :=
  wpAny_Dict_empty (h _ _ (H.push (tk := s.toks) rfl ⟨#[], 0, ⟨rfl, rfl, rfl⟩, rfl, fun e he => by simp at he, .nil, .nil⟩))
theorem set_item {d : Addr} {kvs : List (Str × Value)} {k : Str} {t : Tok} {v : Value} {Q : Unit → Shared → Prop} (H : St base os₀ led s) (U : Up d (dctA (strKind prog w) kvs) (dctA (strKind prog w) (stored kvs k v)) led led')
    (h : ∀ s', St base os₀ led' s' → Q () s') (hsz : kvs.length ≤ sizeLine := by size_fits) : wpAny (model prog w) A (setItem (.ref d) (.str k t) v) Q E s :=
  wpAny_setItem_pairs (knd := strKind prog w) (strKind_is prog w k t) (H.isDict U.mem) (fun h' hm' hs' => h _ (H.upd U hs'.extBut (dctA_of hm'))) hsz

/-- room for all that the laws do -/
structure Room (prog : Program) (w : World) (A : Around) (base : Heap) : Prop where
  depth : A.depth + 200 < recursionLimit
  units : A.units + 64 < cLine
  handled : A.handled = none
  pylong : ∀ s : Shared, (∀ b o, base.get? b = some o → s.heap.get? b = some o) → PylongRoom (model prog w) A s

theorem i_fdiv {a b : Int} {t u : Tok} {Q : Value → Shared → Prop} (R : Room prog w A base) (H : St base os₀ led s) (hb : b ≠ 0) (h : ∀ t' s', St base os₀ led s' → Q (.int (a.fdiv b) t') s') :
    wpAny (model prog w) A (binaryOp .FloorDiv (.int a t) (.int b u)) Q E s :=
  PyProof.Rows.floordiv_int hb (h _ _ H.tok) (.inr (R.pylong s H.keep))
theorem i_mod {a b : Int} {t u : Tok} {Q : Value → Shared → Prop} (H : St base os₀ led s) (hb : b ≠ 0) (h : ∀ t' s', St base os₀ led s' → Q (.int (a.fmod b) t') s') :
    wpAny (model prog w) A (binaryOp .Mod (.int a t) (.int b u)) Q E s :=
  PyProof.Rows.mod_int hb (h _ _ H.tok)

/-! equality in one world -/
def EqW (prog : Program) (w : World) (A : Around) (s : Shared) (x y : Value) (b : Bool) : Prop :=
  ∀ (E : Value → Shared → Prop) (Q : Bool → Shared → Prop), Q b s → wpAny (model prog w) A (eqBool x y) Q E s
theorem EqW.self (v : Value) : EqW prog w A s v v true := fun E Q h => SeqAt.EqAt.same v prog w E Q h
theorem EqW.of {x y : Value} {b : Bool} (h : SeqAt.EqAt A s x y b) : EqW prog w A s x y b := fun E Q hq => h prog w E Q hq
theorem EqW.refs {l b : Addr} {k : Bool} (hne : l ≠ b) (h : ∀ (E : Value → Shared → Prop) (Q : Value → Shared → Prop), Q (.bool k) s → wpAny (model prog w) A (richCompare .Eq (.ref l) (.ref b)) Q E s) : EqW prog w A s (.ref l) (.ref b) k := fun E Q hq => by
  unfold eqBool
  refine wpAny_holding ?_
  refine wpAny_ite_split (fun hab => absurd (by have := eq_of_beq hab; injection this) hne) (fun _ => ?_)
  exact wpAny_bind (h E _ (wpAny_truthy_bool hq))
end
end Mine

namespace Mine
open PySem PySem.W PyProof.Rows PySem.Calls PySem.Spec
open AutoSeq1 (wpAny_loadPart')
section
variable {prog : Program} {w : World} {A : Around} {E : Value → Shared → Prop} {s : Shared} {base : Heap} {os₀ : OsState} {led led' : Led} {env : Env}

theorem EqW.dicts {K : Type} [DecidableEq K] {knd : KeyKind prog w K} {a b : Addr} {kvs : List (K × Value)} (hne : a ≠ b) (ha : (a == sysModules) = false) (hb : (b == sysModules) = false) (da : s.heap.DictOf knd a kvs) (db : s.heap.DictOf knd b kvs) (hu : A.units < cLine) :
    EqW prog w A s (.ref a) (.ref b) true := EqW.refs hne fun E Q hq => by
  have hn : (kvs.map (·.1)).Nodup := by obtain ⟨o, es, ep, _, _, _, _, _, hn⟩ := da; exact hn
  have hits : ∀ l : List (K × Value), (∀ p ∈ l, p ∈ kvs) → KeqHits A.in1 s kvs l true := fun l => by
    induction l with
    | nil => intro _; exact .nil
    | cons p r ih =>
      obtain ⟨k, v⟩ := p
      intro hp
      refine KeqHits.hit (e := true) (b := true) (y := v) ?_ (SeqAt.EqAt.same v) (ih fun q hq => hp q (.tail _ hq))
      have hm : (k, v) ∈ kvs := hp _ (.head _)
      clear hp ih hq da db
      induction kvs with
      | nil => cases hm
      | cons q kr ih =>
        obtain ⟨k', v'⟩ := q
        simp only [List.map_cons, List.nodup_cons] at hn
        rcases List.mem_cons.mp hm with e | hm
        · cases e; simp [valueAt]
        · have : k' ≠ k := fun e => hn.1 (e ▸ List.mem_map_of_mem (f := (·.1)) hm)
          have h2 := ih hn.2 hm
          simp only [valueAt] at h2 ⊢
          rw [List.find?_cons_of_neg (by simpa using this)]
          exact h2
  exact keq_eq (r := true) ha hb da db hu (fun _ => hits kvs fun p hp => hp) (by simpa using hq)

theorem tup_eq_same {t u : Addr} {vs us : List Value} {Q : Value → Shared → Prop} (ht : IsTup s.heap t vs.toArray) (hu : IsTup s.heap u us.toArray) (hlen : vs.length = us.length) (hur : A.units < cLine)
    (he : ∀ p ∈ vs.zip us, EqW prog w A.in1 s p.1 p.2 true) (h : Q (.bool true) s) : wpAny (model prog w) A (richCompare .Eq (.ref t) (.ref u)) Q E s := by
  obtain ⟨⟨cls, dd, data, sl⟩, ho, hc, n, hd⟩ := ht
  obtain ⟨⟨cls2, dd2, data2, sl2⟩, ho2, hc2, n2, hd2⟩ := hu
  simp only at hc hd hc2 hd2
  subst hc hd hc2 hd2
  have hT : s.TypeIs (.ref t) "tuple" := ⟨_, ho, rfl⟩
  refine wpAny_richCompare_same_room (op := .Eq) hT ⟨_, ho2, rfl⟩ PySem.F.slot_tuple_eq (wpAny_call_entry PySem.F.slot_tuple_eq hT PySem.F.entry_tuple_eq ?_ (PySem.F.args_tuple_eq_2 _ _)) hur
  obtain ⟨hp, g, d, tk, os⟩ := s
  have f2 := AutoSeq1.sub_tuple_tuple
  wp_walk using wpAny_loadPart' ho, wpAny_loadPart' ho2, wpAny_forIn_list _ (fun rest b s' => b.1 = none ∧ s' = ⟨hp, g, d, tk, os⟩ ∧ ∀ p ∈ rest, EqW prog w A.in1 ⟨hp, g, d, tk, os⟩ p.1 p.2 true) _
  case turn =>
    rintro ⟨y, x⟩ rest b s' ⟨hb', rfl, hz⟩
    refine wpAny_bind (hz (y, x) (.head _) _ _ ?_)
    wp_walk
    exact ⟨rfl, rfl, fun p hp => hz p (.tail _ hp)⟩
  case fin =>
    rintro ⟨b1, b2⟩ s' ⟨hb', rfl, hz⟩
    simp only at hb'
    subst hb'
    wp_walk
    exact ⟨_, rfl, (fun x => nomatch x), by simpa [Builtin.Tuple.tupleCompareSizes, hlen] using h⟩
  case h =>
    exact ⟨rfl, rfl, he⟩
theorem tup_ne_same {t u : Addr} {vs us : List Value} {Q : Value → Shared → Prop} (ht : IsTup s.heap t vs.toArray) (hu : IsTup s.heap u us.toArray) (hlen : vs.length = us.length) (hur : A.units < cLine)
    (he : ∀ p ∈ vs.zip us, EqW prog w A.in1 s p.1 p.2 true) (h : Q (.bool false) s) : wpAny (model prog w) A (richCompare .NotEq (.ref t) (.ref u)) Q E s := by
  obtain ⟨⟨cls, dd, data, sl⟩, ho, hc, n, hd⟩ := ht
  obtain ⟨⟨cls2, dd2, data2, sl2⟩, ho2, hc2, n2, hd2⟩ := hu
  simp only at hc hd hc2 hd2
  subst hc hd hc2 hd2
  have hT : s.TypeIs (.ref t) "tuple" := ⟨_, ho, rfl⟩
  refine wpAny_richCompare_same_room (op := .NotEq) hT ⟨_, ho2, rfl⟩ PySem.F.slot_tuple_ne (wpAny_call_entry PySem.F.slot_tuple_ne hT PySem.F.entry_tuple_ne ?_ (PySem.F.args_tuple_ne_2 _ _)) hur
  obtain ⟨hp, g, d, tk, os⟩ := s
  have f2 := AutoSeq1.sub_tuple_tuple
  wp_walk using wpAny_loadPart' ho, wpAny_loadPart' ho2, wpAny_forIn_list _ (fun rest b s' => b.1 = none ∧ s' = ⟨hp, g, d, tk, os⟩ ∧ ∀ p ∈ rest, EqW prog w A.in1 ⟨hp, g, d, tk, os⟩ p.1 p.2 true) _
  case turn =>
    rintro ⟨y, x⟩ rest b s' ⟨hb', rfl, hz⟩
    refine wpAny_bind (hz (y, x) (.head _) _ _ ?_)
    wp_walk
    exact ⟨rfl, rfl, fun p hp => hz p (.tail _ hp)⟩
  case fin =>
    rintro ⟨b1, b2⟩ s' ⟨hb', rfl, hz⟩
    simp only at hb'
    subst hb'
    wp_walk
    exact ⟨_, rfl, (fun x => nomatch x), by simpa [Builtin.Tuple.tupleCompareSizes, hlen] using h⟩
  case h =>
    exact ⟨rfl, rfl, he⟩
theorem EqW.tups {t u : Addr} {vs us : List Value} (hne : t ≠ u) (ht : IsTup s.heap t vs.toArray) (hu : IsTup s.heap u us.toArray) (hlen : vs.length = us.length) (hur : A.units < cLine)
    (he : ∀ p ∈ vs.zip us, EqW prog w A.in1 s p.1 p.2 true) : EqW prog w A s (.ref t) (.ref u) true := EqW.refs hne fun E Q hq => tup_eq_same ht hu hlen hur he hq

/-- the loop of the comparison of two lists of one length -/
theorem list_loop_same {l b : Addr} {vs us : List Value} {n n2 : Nat} {dd dd2 : Option Addr} {sl sl2 : Array (Option Value)} {R : Result → Shared → Prop} {op : Int} {r : Bool} (hop : op = 2 ∧ r = true ∨ op = 3 ∧ r = false) (hlen : vs.length = us.length)
    (ho : s.heap.get? l = some { cls := .type "list", dict := dd, data := .seq vs.toArray n, slots := sl }) (ho2 : s.heap.get? b = some { cls := .type "list", dict := dd2, data := .seq us.toArray n2, slots := sl2 })
    (he : ∀ p ∈ vs.zip us, EqW prog w A.in1 s p.1 p.2 true) (h : R (.ok (.ret (.bool r))) s) :
    ∀ k i : Nat, vs.length - i = k → codeAny (model prog w) A (.builtin "list.__eq__.loop" ⟨[.ref l, .ref b, rawInt i, rawInt op], []⟩) R s := by
  intro k
  induction k with
  | zero =>
    intro i hk
    refine codeAny_builtin MeetsSeq3.entry_eq_loop ?_
    rw [Around.under_plainId MeetsSeq3.plain_eq_loop _]
    obtain ⟨hp, g, d, tk, os⟩ := s
    have hi1 : vs.toArray[((i : Nat) : Int).toNat]? = none := by simp; omega
    have hi2 : us.toArray[((i : Nat) : Int).toNat]? = none := by simp; omega
    rcases hop with ⟨rfl, rfl⟩ | ⟨rfl, rfl⟩
    · wp_walk using wpAny_loadPart' ho, wpAny_loadPart' ho2
      rw [hi1, hi2]
      wp_walk using wpAny_loadPart' ho, wpAny_loadPart' ho2
      show R (.ok (.ret (.bool (vs.toArray.size == us.toArray.size)))) _
      simpa [hlen] using h
    · wp_walk using wpAny_loadPart' ho, wpAny_loadPart' ho2
      rw [hi1, hi2]
      wp_walk using wpAny_loadPart' ho, wpAny_loadPart' ho2
      show R (.ok (.ret (.bool (vs.toArray.size != us.toArray.size)))) _
      simpa [hlen] using h
  | succ k ih =>
    intro i hk
    refine codeAny_builtin MeetsSeq3.entry_eq_loop ?_
    rw [Around.under_plainId MeetsSeq3.plain_eq_loop _]
    have hlt : i < vs.length := by omega
    have hlt2 : i < us.length := by omega
    have hi1 : vs.toArray[((i : Nat) : Int).toNat]? = some vs[i] := by simp [hlt]
    have hi2 : us.toArray[((i : Nat) : Int).toNat]? = some us[i] := by simp [hlt2]
    have hc : ((i : Int) + 1) = ((i + 1 : Nat) : Int) := by push_cast; rfl
    have hz : EqW prog w A.in1 s vs[i] us[i] true := he (vs[i], us[i]) (List.mem_of_getElem? (i := i) (by simp [List.getElem?_zip_eq_some, hlt, hlt2]))
    have hn := ih (i + 1) (by omega)
    obtain ⟨hp, g, d, tk, os⟩ := s
    rcases hop with ⟨rfl, rfl⟩ | ⟨rfl, rfl⟩
    · wp_walk using wpAny_loadPart' ho, wpAny_loadPart' ho2
      rw [hi1, hi2]
      refine wpAny_bind (hz _ _ ?_)
      wp_walk
      rw [hc]
      exact ⟨plainId_quiet MeetsSeq3.plain_eq_loop _, hn⟩
    · wp_walk using wpAny_loadPart' ho, wpAny_loadPart' ho2
      rw [hi1, hi2]
      refine wpAny_bind (hz _ _ ?_)
      wp_walk
      rw [hc]
      exact ⟨plainId_quiet MeetsSeq3.plain_eq_loop _, hn⟩
theorem list_ne_same {l b : Addr} {vs us : List Value} {Q : Value → Shared → Prop} (hl : s.heap.IsList l vs.toArray) (hb : s.heap.IsList b us.toArray) (hlen : vs.length = us.length) (hur : A.units < cLine)
    (he : ∀ p ∈ vs.zip us, EqW prog w A.in1 s p.1 p.2 true) (h : Q (.bool false) s) : wpAny (model prog w) A (richCompare .NotEq (.ref l) (.ref b)) Q E s := by
  obtain ⟨⟨cls, dd, data, sl⟩, ho, hc, n, hd⟩ := hl
  obtain ⟨⟨cls2, dd2, data2, sl2⟩, ho2, hc2, n2, hd2⟩ := hb
  simp only at hc hd hc2 hd2
  subst hc hd hc2 hd2
  have hT : s.TypeIs (.ref l) "list" := ⟨_, ho, rfl⟩
  refine wpAny_richCompare_same_room (op := .NotEq) hT ⟨_, ho2, rfl⟩ PySem.F.slot_list_ne ?_ hur
  refine wpAny_call (codeAny_call_builtin PySem.F.slot_list_ne.plain PySem.F.entry_list_ne (PySem.F.slot_list_ne.check _ _ _ _ _ _ _ _ hT (PySem.F.args_list_ne_2 _ _) ?_))
  have f3 := AutoSeq1.sub_list_list
  have hne : ¬ (vs.toArray.size != us.toArray.size) = true := by simp [hlen]
  have hloop := list_loop_same (prog := prog) (w := w) (A := A) (R := fun r s' => match r with | .ok (.ret v) => v ≠ .notImplemented ∧ Q v s' | .ok _ => False | .error e => E e s') (.inr ⟨rfl, rfl⟩) hlen ho ho2 he ⟨(fun x => nomatch x), h⟩ _ 0 rfl
  obtain ⟨hp, g, d, tk, os⟩ := s
  wp_walk using wpAny_loadPart' ho, wpAny_loadPart' ho2
  exact ⟨plainId_quiet MeetsSeq3.plain_eq_loop _, hloop⟩
end
end Mine

namespace Mine
open PySem PySem.W PyProof.Rows PySem.Calls PySem.Spec
def nth (n : Nat) (l : List Stmt) : Stmt := match n, l with
  | 0, s :: _ => s
  | n + 1, _ :: r => nth n r
  | _, [] => .Pass default
def fnBody : Stmt → List Stmt | .FunctionDef _ _ b _ _ _ _ _ _ _ => b | _ => []
def fnPar : Stmt → Arguments | .FunctionDef _ a _ _ _ _ _ _ _ _ => a | _ => default
def fnScope : Stmt → Scope | .FunctionDef _ _ _ _ _ _ s _ _ _ => s | _ => default
def gniStmt : Stmt := nth 3 PySem.Challenge.pw_dm0069_09.main.body
def askStmt : Stmt := nth 5 PySem.Challenge.pw_dm0069_09.main.body
def nameStmt : Stmt := nth 1 (fnBody askStmt)
/-- what is known of a def of the top -/
structure IsDef (base : Heap) (f : Addr) (st : Stmt) (fd : FuncData) : Prop where
  obj : ∃ o, base.get? f = some o ∧ o.data = .func fd
  body : fd.body = .stmts (fnBody st)
  par : fd.params = fnPar st
  scope : fd.scope = fnScope st
  clo : fd.closure = []
  glob : fd.globals = mainGlobals
  bi : fd.builtins = builtinsNs
  dflt : fd.defaults = .none
  code : base.CodeRec fd.code fd.qualname

section
variable {prog : Program} {w : World} {A : Around} {E : Value → Shared → Prop} {s : Shared} {base : Heap} {os₀ : OsState} {led : Led}

theorem gni_none {f u : Addr} {fd : FuncData} {mg : Str → Option Value} {v : Value} {kws : List (Str × Value)} {Q : Value → Shared → Prop} (D : IsDef base f gniStmt fd) (hlim : base.NoLimit) (hg : base.Ns mainGlobals mg) (hu : mg (Str.ofString "UNKNOWN") = some (.ref u))
    (H : St base os₀ led s) (hroom : A.depth < recursionLimit) (hk1 : ∀ k ∈ kws.map (·.1), k ∉ [Str.ofString "name_index", Str.ofString "get_name"]) (hk2 : (kws.map (·.1)).Nodup) (hk3 : kws.length ≤ sizeLine + 1)
    (h : ∀ a t s', St base os₀ ((a, tupA [.ref u, .str (Str.ofString "") t]) :: led) s' → Q (.ref a) s') :
    wpAny (model prog w) A (call (.ref f) [v, .none] kws) Q E s := by
  obtain ⟨⟨o, ho, hd⟩, hb, hp, hsc, hc, hgl, hbi, hdf, hcd⟩ := D
  obtain ⟨fname, fqual, fpar, fbody, fscope, fglob, fclo, fdef, fkwd, fdoc, fmod, fann, fcode, fct, fbui⟩ := fd
  simp only at hb hp hsc hc hgl hbi hdf hcd
  subst hb hp hsc hc hgl hbi hdf
  refine fn_enter (args := ⟨[v, .none], kws⟩) H hroom hlim (H.keep _ _ ho) hd (hcd.keeps H.keep) rfl (by show ∀ x ∈ (fnScope gniStmt).names, x.2 ≠ NameKind.cell; decide) ?_
  refine bind_kw (normal := [Str.ofString "name_index", Str.ofString "get_name"]) rfl rfl rfl rfl rfl rfl rfl (by decide) hk1 hk2 hk3 H fun d s₁ H₁ => ?_
  refine ⟨_, H₁, ?_, fun L s₂ H₂ => ?_⟩
  · intro x hx
    simp only [List.zip_cons_cons, List.zip_nil_right, List.cons_append, List.nil_append, List.mem_cons, List.not_mem_nil, or_false] at hx
    rcases hx with rfl | rfl | rfl <;> rfl
  refine wpAny_execs_cons (wpAny_If (wpAny_isTrue_Compare1 (nm_l H₂ (.head _) rfl (wpAny_Constant_none (isNot_none (wpAny_truthy_bool ?_))))))
  refine ite_neg (by decide) ?_
  refine wpAny_execs_cons (wpAny_Return_some (Tuple_ (wpAny_items_cons (nm_g H₂ hg hu (wpAny_items_cons (c_str H₂ fun t s₃ H₃ => wpAny_items_nil (new_tuple H₃ fun a s₄ H₄ => ?_)))))))
  exact h a t s₄ (H₄.sub (.cons_cons _ (.cons _ (.cons _ (.refl _)))))

/-- with a lookup: what the lookup does is the caller's to say -/
theorem gni_call {f g : Addr} {fd : FuncData} {o₀ : Obj} {v : Value} {kws : List (Str × Value)} {Q : Value → Shared → Prop} (D : IsDef base f gniStmt fd) (hlim : base.NoLimit) (hsys : base.get? sysModules = some o₀)
    (H : St base os₀ led s) (hroom : A.depth < recursionLimit) (hk1 : ∀ k ∈ kws.map (·.1), k ∉ [Str.ofString "name_index", Str.ofString "get_name"]) (hk2 : (kws.map (·.1)).Nodup) (hk3 : kws.length ≤ sizeLine)
    (h : ∀ env L m d₁ d₂ s₁, env = callEnv fd L f → St base os₀ ((d₂, dctA (strKind prog w) kws) :: (L, nsA m) :: (d₁, dctA (strKind prog w) kws) :: led) s₁ →
      (∃ o gd, s₁.heap.get? g = some o ∧ o.data = .func gd) ∧
      wpAny (model prog w) (A.deeper env) (call (.ref g) [v] kws) (fun r s₂ => ∃ front led₂, St base os₀ (front ++ (L, nsA m) :: led₂) s₂ ∧ ∀ a s₃, St base os₀ ((a, tupA [r, r]) :: led₂) s₃ → Q (.ref a) s₃)
        (fun e s₂ => wpAny (model prog w) (A.deeper env) (leaving env e) (fun _ s₃ => E e s₃) (fun e' s₃ => E e' s₃) s₂) s₁) :
    wpAny (model prog w) A (call (.ref f) [v, .ref g] kws) Q E s := by
  obtain ⟨⟨o, ho, hd⟩, hb, hp, hsc, hc, hgl, hbi, hdf, hcd⟩ := D
  obtain ⟨fname, fqual, fpar, fbody, fscope, fglob, fclo, fdef, fkwd, fdoc, fmod, fann, fcode, fct, fbui⟩ := fd
  simp only at hb hp hsc hc hgl hbi hdf hcd
  subst hb hp hsc hc hgl hbi hdf
  refine fn_enter (args := ⟨[v, .ref g], kws⟩) H hroom hlim (H.keep _ _ ho) hd (hcd.keeps H.keep) rfl (by show ∀ x ∈ (fnScope gniStmt).names, x.2 ≠ NameKind.cell; decide) ?_
  refine bind_kw (normal := [Str.ofString "name_index", Str.ofString "get_name"]) rfl rfl rfl rfl rfl rfl rfl (by decide) hk1 hk2 (Nat.le_succ_of_le hk3) H fun d s₁ H₁ => ?_
  refine ⟨_, H₁, ?_, fun L s₂ H₂ => ?_⟩
  · intro x hx
    simp only [List.zip_cons_cons, List.zip_nil_right, List.cons_append, List.nil_append, List.mem_cons, List.not_mem_nil, or_false] at hx
    rcases hx with rfl | rfl | rfl <;> rfl
  refine wpAny_execs_cons (wpAny_If (wpAny_isTrue_Compare1 (nm_l H₂ (.head _) rfl (wpAny_Constant_none (isNot_none (wpAny_truthy_bool ?_))))))
  refine ite_pos (by simp) ?_
  refine wpAny_execs_cons (wpAny_Assign_Name (wpAny_Call_ofName (nm_l H₂ (.head _) rfl (callWith_fn (evalArgs_star rfl (spliced_cons (nm_l H₂ (.head _) rfl (spliced_nil (merged1 H₂ hsys ?_ (.tail _ (.head _)) hk3 fun d₂ s₃ H₃ => kwIn H₃ (.head _) ?_)))))))))
  · exact fun d' s' H' => wpAny_bind (nm_l H' (.tail _ (.head _)) rfl (wpAny_bind (wpAny_standAt (wpAny_pure ⟨rfl, rfl⟩))))
  obtain ⟨hgo, hcall⟩ := h _ L _ _ _ s₃ rfl H₃
  refine ⟨hgo, wpAny_mono hcall (fun r s₄ h₄ => ?_) fun _ _ x => x⟩
  obtain ⟨front, led₂, H₄, h₄⟩ := h₄
  have H₅ := H₄.sub (List.sublist_append_right _ _)
  refine st_l H₅ .head fun s₆ H₆ => ?_
  refine wpAny_execs_cons (wpAny_Return_some (Tuple_ (wpAny_items_cons (nm_l H₆ (.head _) rfl (wpAny_items_cons (nm_l H₆ (.head _) rfl (wpAny_items_nil (new_tuple H₆ fun a s₇ H₇ => ?_))))))))
  exact h₄ a s₇ (H₇.sub (.cons_cons _ (.cons _ (.refl _))))
end
section
variable {prog : Program} {w : World} {A : Around} {E : Value → Shared → Prop} {s : Shared} {base : Heap} {os₀ : OsState} {led : Led} {mg mb : Str → Option Value}

theorem lawName_ret {f c' l cC cE cA : Addr} {qual : Str} {doc pm ctv av v : Value} {vs : List Value} {kws : List (Str × Value)} {led' : Addr → Led} {Q : Value → Shared → Prop}
    (G : Gr base mg mb) (H : St base os₀ led s) (hroom : A.depth < recursionLimit)
    (hf : (f, objA (fnMade (Str.ofString "_law_name") qual (fnPar nameStmt) (fnBody nameStmt) (fnScope nameStmt) [(Str.ofString "error", cE), (Str.ofString "calls", cC), (Str.ofString "answer", cA)] doc pm c' ctv)) ∈ led) (hc : (c', codeA qual) ∈ led)
    (hcC : (cC, celA (some (.ref l))) ∈ led) (hcE : (cE, celA (some .none)) ∈ led) (hcA : (cA, celA (some av)) ∈ led)
    (U : ∀ t, Up l (lstA vs) (lstA (vs ++ [.ref t])) led (led' t)) (hE' : ∀ t, (cE, celA (some .none)) ∈ led' t) (hA' : ∀ t, (cA, celA (some av)) ∈ led' t) (hvs : vs.length ≤ sizeLine)
    (hk1 : ∀ k ∈ kws.map (·.1), k ∉ [Str.ofString "at"]) (hk2 : (kws.map (·.1)).Nodup) (hk3 : kws.length ≤ sizeLine + 1)
    (h : ∀ t d s', St base os₀ ((t, tupA [v, .ref d]) :: (d, dctA (strKind prog w) kws) :: led' t) s' → Q av s') :
    wpAny (model prog w) A (call (.ref f) [v] kws) Q E s := by
  obtain ⟨o, ho, rfl⟩ := H.get hf
  obtain ⟨oc, hoc, cvs, ct, hcd, hcv⟩ := H.get hc
  refine fn_enter (args := ⟨[v], kws⟩) H hroom G.lim ho rfl ⟨c', oc, cvs, ct, rfl, hoc, hcd, hcv⟩ rfl (by show ∀ x ∈ (fnScope nameStmt).names, x.2 ≠ NameKind.cell; decide) ?_
  refine bind_kw (normal := [Str.ofString "at"]) rfl rfl rfl rfl rfl rfl rfl (by decide) hk1 hk2 hk3 H fun d s₁ H₁ => ?_
  refine ⟨_, H₁, ?_, fun L s₂ H₂ => ?_⟩
  · intro x hx
    simp only [List.zip_cons_cons, List.zip_nil_right, List.cons_append, List.nil_append, List.mem_cons, List.not_mem_nil, or_false] at hx
    rcases hx with rfl | rfl <;> rfl
  refine wpAny_execs_cons (wpAny_Expr (l_append_stmt (l := l) (nm_f H₂ rfl (.tail _ (.tail _ hcC)) ⟨rfl, ?_, Tuple_ (wpAny_items_cons (nm_l H₂ (.head _) rfl (wpAny_items_cons (nm_l H₂ (.head _) rfl (wpAny_items_nil (new_tuple H₂ fun t s₃ H₃ => ?_))))))⟩)))
  · obtain ⟨ol, hol, n, rfl⟩ := H₂.get (.tail _ (.tail _ (U 0).mem)); exact ⟨_, hol, rfl, rfl⟩
  refine l_append H₃ (.tail (.tail (.tail (U t)))) (fun s₄ H₄ => ?_) hvs
  refine wpAny_execs_cons (wpAny_If (wpAny_isTrue_Compare1 (nm_f H₄ rfl (.tail _ (.tail _ (.tail _ (hE' t)))) (wpAny_Constant_none (isNot_none (wpAny_truthy_bool (ite_neg (by decide) ?_)))))))
  refine wpAny_execs_nil (wpAny_execs_cons (wpAny_Return_some (nm_f H₄ rfl (.tail _ (.tail _ (.tail _ (hA' t)))) ?_)))
  exact h t d s₄ (H₄.sub (.cons_cons _ (.cons _ (.refl _))))

theorem lawName_raise {f c' l cC cE cA e : Addr} {cls : String} {qual : Str} {doc pm ctv av v : Value} {vs : List Value} {kws : List (Str × Value)} {led' : Addr → Led} {fs : List Env} {Q : Value → Shared → Prop}
    (G : Gr base mg mb) (X : Exc cls) (H : St base os₀ ((e, exN cls) :: led) s) (hroom : A.depth < recursionLimit) (hh : A.handled = none) (hfr : A.frames = some fs) (hF : ∀ t, FramesOk (led' t) fs)
    (hf : (f, objA (fnMade (Str.ofString "_law_name") qual (fnPar nameStmt) (fnBody nameStmt) (fnScope nameStmt) [(Str.ofString "error", cE), (Str.ofString "calls", cC), (Str.ofString "answer", cA)] doc pm c' ctv)) ∈ led) (hc : (c', codeA qual) ∈ led)
    (hcC : (cC, celA (some (.ref l))) ∈ led) (U : ∀ t, Up l (lstA vs) (lstA (vs ++ [.ref t])) led (led' t)) (hE' : ∀ t, (cE, celA (some (.ref e))) ∈ led' t) (hvs : vs.length ≤ sizeLine)
    (hk1 : ∀ k ∈ kws.map (·.1), k ∉ [Str.ofString "at"]) (hk2 : (kws.map (·.1)).Nodup) (hk3 : kws.length ≤ sizeLine + 1)
    (h : ∀ t d s', Fly base os₀ ((t, tupA [v, .ref d]) :: (d, dctA (strKind prog w) kws) :: led' t) e cls s' → E (.ref e) s') :
    wpAny (model prog w) A (call (.ref f) [v] kws) Q E s := by
  obtain ⟨o, ho, rfl⟩ := H.get (.tail _ hf)
  obtain ⟨oc, hoc, cvs, ct, hcd, hcv⟩ := H.get (.tail _ hc)
  refine fn_enter (args := ⟨[v], kws⟩) H hroom G.lim ho rfl ⟨c', oc, cvs, ct, rfl, hoc, hcd, hcv⟩ rfl (by show ∀ x ∈ (fnScope nameStmt).names, x.2 ≠ NameKind.cell; decide) ?_
  refine bind_kw (normal := [Str.ofString "at"]) rfl rfl rfl rfl rfl rfl rfl (by decide) hk1 hk2 hk3 H fun d s₁ H₁ => ?_
  refine ⟨_, H₁, ?_, fun L s₂ H₂ => ?_⟩
  · intro x hx
    simp only [List.zip_cons_cons, List.zip_nil_right, List.cons_append, List.nil_append, List.mem_cons, List.not_mem_nil, or_false] at hx
    rcases hx with rfl | rfl <;> rfl
  refine wpAny_execs_cons (wpAny_Expr (l_append_stmt (l := l) (nm_f H₂ rfl (.tail _ (.tail _ (.tail _ hcC))) ⟨rfl, ?_, Tuple_ (wpAny_items_cons (nm_l H₂ (.head _) rfl (wpAny_items_cons (nm_l H₂ (.head _) rfl (wpAny_items_nil (new_tuple H₂ fun t s₃ H₃ => ?_))))))⟩)))
  · obtain ⟨ol, hol, n, rfl⟩ := H₂.get (.tail _ (.tail _ (.tail _ (U 0).mem))); exact ⟨_, hol, rfl, rfl⟩
  refine l_append H₃ (.tail (.tail (.tail (.tail (U t))))) (fun s₄ H₄ => ?_) hvs
  refine wpAny_execs_cons (wpAny_If (wpAny_isTrue_Compare1 (nm_f H₄ rfl (.tail _ (.tail _ (.tail _ (.tail _ (hE' t))))) (wpAny_Constant_none (isNot_none (wpAny_truthy_bool (ite_pos (by simp) ?_)))))))
  refine wpAny_execs_cons (raise_made X hh (nm_f H₄ rfl (.tail _ (.tail _ (.tail _ (.tail _ (hE' t))))) ⟨e, _, rfl, H₄, .tail _ (.tail _ (.tail _ (.head _))), ?_⟩))
  have H₅ := (H₄.perm (List.perm_middle (l₁ := [_, _, _])).symm).weak fun o => ex0_of_exN
  refine leave0 (led := (t, tupA [v, .ref d]) :: (L, _) :: (d, _) :: led' t) (fs := _ :: fs) (L := L) H₅ (Around.frames_deeper hfr) (FramesOk.cons ((hF t).mono fun p hp => .tail _ (.tail _ (.tail _ hp))) (by intro q; cases q) rfl (.tail _ (.head _))) (.head _) rfl fun s₅ F₅ => ?_
  obtain ⟨tb, F₅⟩ := F₅
  exact h t d s₅ ⟨tb, F₅.sub (.cons_cons _ (.cons_cons _ (.cons_cons _ (.cons _ (.refl _)))))⟩
end
end Mine

namespace Mine
open PySem PySem.W PyProof.Rows PySem.Calls PySem.Spec
local macro_rules | `(tactic| ktr_rel) => `(tactic| (repeat (first | exact List.Mem.head _ | assumption | apply List.Mem.tail)))
local macro_rules | `(tactic| tb_start) => `(tactic| (repeat (first | exact Up.head | assumption | apply Up.tail)))
local macro_rules | `(tactic| tb_rel) => `(tactic| (repeat (first | exact List.Sublist.refl _ | apply List.Sublist.cons_cons | apply List.Sublist.cons)))
def qualN (q : Str) : Str := (q ++ Str.ofString ".<locals>.") ++ Str.ofString "_law_name"
/-- the table that bears the code of _law_name -/
def tab1 (c' : Addr) : Asn := tabA #[rawInt (17 : Int), rawInt (4 : Int), .ref c']
/-- the code table of _law_asked: empty, or with the code of _law_name -/
def TabS (P : Addr) (q : Str) (tl : Led) : Prop := tl = [(P, tabA #[])] ∨ ∃ c', tl = [(P, tab1 c'), (c', codeA (qualN q))]
abbrev askFd (fname fqual : Str) (fkwd fdoc fmod : Value) (fann : Option Addr) (fcode fct : Value) : FuncData :=
  { name := fname, qualname := fqual, params := fnPar askStmt, body := .stmts (fnBody askStmt), scope := fnScope askStmt, globals := mainGlobals, closure := [], defaults := .none, kwdefaults := fkwd, doc := fdoc, pyModule := fmod, annotations := fann, code := fcode, closureTuple := fct, builtins := builtinsNs }
abbrev nameObj (q : Str) (L : Addr) (doc pm : Value) (c' : Addr) (ctv : Value) : Obj :=
  fnMade (Str.ofString "_law_name") (qualN q) (fnPar nameStmt) (fnBody nameStmt) (fnScope nameStmt) [(Str.ofString "error", L + 1 + 1), (Str.ofString "calls", L + 1 + 1 + 1), (Str.ofString "answer", L + 1)] doc pm c' ctv
section
variable {prog : Program} {w : World} {A : Around} {E : Value → Shared → Prop} {s : Shared} {base : Heap} {os₀ : OsState} {led : Led} {mg mb : Str → Option Value}
  {fname fqual : Str} {fkwd fdoc fmod : Value} {fann : Option Addr} {fcode fct : Value} {L f fA fG c' P l dW : Addr} {gd : FuncData} {doc pm ctv place av ev : Value} {m : Str → Option Value} {kvs : List (Str × Value)}

theorem ask_tail_ret {Q : Flow → Shared → Prop} (G : Gr base mg mb) (DG : IsDef base fG gniStmt gd) (hG : mg (Str.ofString "_get_name_info") = some (.ref fG))
    (H : St base os₀ ((f, objA (nameObj fqual L doc pm c' ctv)) :: (l, lstA []) :: (L + 1 + 1 + 1, celA (some (.ref l))) :: (L + 1 + 1, celA (some .none)) :: (L + 1, celA (some av)) :: (L, nsA m) :: (P, tab1 c') :: (c', codeA (qualN fqual)) :: led) s)
    (m1 : m (Str.ofString "place") = some place) (m2 : m (Str.ofString "words") = some (.ref dW)) (m3 : m (Str.ofString "_law_name") = some (.ref f))
    (hW : (dW, dctA (strKind prog w) kvs) ∈ led) (hroom : A.depth + 3 < recursionLimit)
    (hk1 : ∀ k ∈ kvs.map (·.1), k ∉ [Str.ofString "name_index", Str.ofString "get_name"]) (hk1' : ∀ k ∈ kvs.map (·.1), k ∉ [Str.ofString "at"]) (hk2 : (kvs.map (·.1)).Nodup) (hk3 : kvs.length ≤ sizeLine)
    (h : ∀ T p t d s', St base os₀ ((T, tupA [.ref p, .ref l]) :: (p, tupA [av, av]) :: (t, tupA [place, .ref d]) :: (d, dctA (strKind prog w) kvs) :: (l, lstA [.ref t]) :: (P, tab1 c') :: (c', codeA (qualN fqual)) :: led) s' → Q (.ret (.ref T)) s') :
    wpAny (model prog w) A (execs ((fnBody askStmt).drop 2) (callEnvC (askFd fname fqual fkwd fdoc fmod fann fcode fct) L fA)) Q E s := by
  obtain ⟨o₀, hsys⟩ := G.sys
  refine wpAny_execs_cons (wpAny_Try_except (wpAny_execs_cons (wpAny_Assign_Name (wpAny_Call_ofName (nm_g H G.g hG ?_)))))
  refine callWith_fn (evalArgs_star rfl (spliced_cons (nm_l H (by k_mem) m1 (spliced_cons (nm_l H (by k_mem) m3 (spliced_nil (merged1 H hsys ?_ (by ktr_rel) hk3 fun d₂ s₂ H₂ => kwIn H₂ (.head _) ⟨?_, ?_⟩)))))))
  · exact fun d' s' H' => wpAny_bind (nm_l H' (by k_mem) m2 (wpAny_bind (wpAny_standAt (wpAny_pure ⟨rfl, rfl⟩))))
  · obtain ⟨o, ho, hd⟩ := DG.obj; exact ⟨o, gd, H₂.keep _ _ ho, hd⟩
  have H₃ := H₂.sub (.cons _ (.refl _))
  refine gni_call (v := place) (g := f) DG G.lim hsys H₃ (by omega) hk1 hk2 hk3 fun env₂ L₂ m₂ d₁ d₃ s₃ he H₄ => ⟨?_, ?_⟩
  · obtain ⟨o, ho, rfl⟩ := H₄.get (P := objA (nameObj fqual L doc pm c' ctv)) (a := f) (by k_mem); exact ⟨_, _, ho, rfl⟩
  refine lawName_ret (l := l) (vs := []) (av := av) G H₄ (by show A.depth + 1 < _; omega) (by k_mem) (by k_mem) (by k_mem) (by k_mem) (by k_mem) (fun t => .tail (.tail (.tail (.tail .head)))) (fun t => by k_mem) (fun t => by k_mem) (Nat.zero_le _) hk1' hk2 (Nat.le_succ_of_le hk3) fun t d s₄ H₅ => ?_
  refine ⟨[_], _, H₅.perm (List.perm_append_comm_assoc [_, _] [_, _] _), fun p s₅ H₆ => ?_⟩
  refine st_l H₆ (by tb_start) fun s₆ H₇ => ?_
  refine wpAny_execs_nil (wpAny_execs_nil (wpAny_execs_cons (wpAny_Return_some (Tuple_ (wpAny_items_cons (nm_l H₇ (by k_mem) rfl (wpAny_items_cons (nm_c H₇ rfl (by k_mem) (wpAny_items_nil (new_tuple H₇ fun T s₇ H₈ => ?_))))))))))
  exact h T p t d s₇ (H₈.sub (by tb_rel))

theorem ask_tail_raise {Q : Flow → Shared → Prop} {e : Addr} {cls : String} {fs : List Env} (G : Gr base mg mb) (DG : IsDef base fG gniStmt gd) (hG : mg (Str.ofString "_get_name_info") = some (.ref fG)) (X : Exc cls)
    (hK : mg (Str.ofString "KeyError") = none) (hKb : mb (Str.ofString "KeyError") = some (.type "KeyError")) (hI : mg (Str.ofString "IndexError") = none) (hIb : mb (Str.ofString "IndexError") = some (.type "IndexError"))
    (hcls : cls = "KeyError" ∨ cls = "IndexError")
    (H : St base os₀ ((e, exN cls) :: (f, objA (nameObj fqual L doc pm c' ctv)) :: (l, lstA []) :: (L + 1 + 1 + 1, celA (some (.ref l))) :: (L + 1 + 1, celA (some (.ref e))) :: (L + 1, celA (some av)) :: (L, nsA m) :: (P, tab1 c') :: (c', codeA (qualN fqual)) :: led) s)
    (m1 : m (Str.ofString "place") = some place) (m2 : m (Str.ofString "words") = some (.ref dW)) (m3 : m (Str.ofString "_law_name") = some (.ref f))
    (hW : (dW, dctA (strKind prog w) kvs) ∈ led) (hroom : A.depth + 3 < recursionLimit) (hh : A.handled = none) (hfr : A.frames = some (callEnvC (askFd fname fqual fkwd fdoc fmod fann fcode fct) L fA :: fs)) (hF : FramesOk led fs)
    (hk1 : ∀ k ∈ kvs.map (·.1), k ∉ [Str.ofString "name_index", Str.ofString "get_name"]) (hk1' : ∀ k ∈ kvs.map (·.1), k ∉ [Str.ofString "at"]) (hk2 : (kvs.map (·.1)).Nodup) (hk3 : kvs.length ≤ sizeLine)
    (h : ∀ T t d s', St base os₀ ((T, tupA [.ref e, .ref l]) :: (t, tupA [place, .ref d]) :: (d, dctA (strKind prog w) kvs) :: (l, lstA [.ref t]) :: (P, tab1 c') :: (c', codeA (qualN fqual)) :: led) s' → Q (.ret (.ref T)) s') :
    wpAny (model prog w) A (execs ((fnBody askStmt).drop 2) (callEnvC (askFd fname fqual fkwd fdoc fmod fann fcode fct) L fA)) Q E s := by
  obtain ⟨o₀, hsys⟩ := G.sys
  refine wpAny_execs_cons (wpAny_Try_except (wpAny_execs_cons (wpAny_Assign_Name (wpAny_Call_ofName (nm_g H G.g hG ?_)))))
  refine callWith_fn (evalArgs_star rfl (spliced_cons (nm_l H (by k_mem) m1 (spliced_cons (nm_l H (by k_mem) m3 (spliced_nil (merged1 H hsys ?_ (by ktr_rel) hk3 fun d₂ s₂ H₂ => kwIn H₂ (.head _) ⟨?_, ?_⟩)))))))
  · exact fun d' s' H' => wpAny_bind (nm_l H' (by k_mem) m2 (wpAny_bind (wpAny_standAt (wpAny_pure ⟨rfl, rfl⟩))))
  · obtain ⟨o, ho, hd⟩ := DG.obj; exact ⟨o, gd, H₂.keep _ _ ho, hd⟩
  have H₃ := H₂.sub (.cons _ (.refl _))
  refine gni_call (v := place) (g := f) DG G.lim hsys H₃ (by omega) hk1 hk2 hk3 fun env₂ L₂ m₂ d₁ d₃ s₃ he H₄ => ⟨?_, ?_⟩
  · obtain ⟨o, ho, rfl⟩ := H₄.get (P := objA (nameObj fqual L doc pm c' ctv)) (a := f) (by k_mem); exact ⟨_, _, ho, rfl⟩
  have H₅ := H₄.perm (List.perm_middle (l₁ := [_, _, _])).symm
  have hF₂ : ∀ (t : Addr), FramesOk ((d₃, dctA (strKind prog w) kvs) :: (L₂, nsA m₂) :: (d₁, dctA (strKind prog w) kvs) :: (f, objA (nameObj fqual L doc pm c' ctv)) :: (l, lstA ([] ++ [.ref t])) :: (L + 1 + 1 + 1, celA (some (.ref l))) :: (L + 1 + 1, celA (some (.ref e))) :: (L + 1, celA (some av)) :: (L, nsA m) :: (P, tab1 c') :: (c', codeA (qualN fqual)) :: led)
      (env₂ :: callEnvC (askFd fname fqual fkwd fdoc fmod fann fcode fct) L fA :: fs) := fun t => by
    refine FramesOk.cons (FramesOk.cons (hF.mono fun p hp => by ktr_rel) (by intro q; cases q) rfl (by k_mem)) (by rw [he]; show gd.scope.kind ≠ _; rw [DG.scope]; intro q; cases q) (by rw [he]; rfl) (by k_mem)
  refine lawName_raise (l := l) (vs := []) (av := av) G X H₅ (by show A.depth + 1 < _; omega) hh (Around.frames_deeper hfr) hF₂ (by k_mem) (by k_mem) (by k_mem) (fun t => .tail (.tail (.tail (.tail .head)))) (fun t => by k_mem) (Nat.zero_le _) hk1' hk2 (Nat.le_succ_of_le hk3) fun t d s₄ F₅ => ?_
  refine leave1 (L := L₂) F₅ (Around.frames_deeper hfr) ((hF₂ t).mono fun p hp => by ktr_rel) (.head _) (by rw [he]; rfl) fun s₅ F₆ => ?_
  refine note1 (L := L) F₆ hfr ((hF₂ t).tail.mono fun p hp => by ktr_rel) (.head _) rfl fun s₆ F₇ => ?_
  refine flight F₇ fun s₇ F₈ => ?_
  obtain ⟨tb, F₈⟩ := F₈
  have fin : ∀ s₈, (∃ tb', St base os₀ ((e, ex1 cls tb') :: (tb', tbA) :: (t, tupA [place, .ref d]) :: (d, dctA (strKind prog w) kvs) :: (d₃, dctA (strKind prog w) kvs) :: (L₂, nsA m₂) :: (d₁, dctA (strKind prog w) kvs) :: (f, objA (nameObj fqual L doc pm c' ctv)) ::
      (l, lstA ([] ++ [.ref t])) :: (L + 1 + 1 + 1, celA (some (.ref l))) :: (L + 1 + 1, celA (some (.ref e))) :: (L + 1, celA (some av)) :: (L, nsA m) :: (P, tab1 c') :: (c', codeA (qualN fqual)) :: led) s₈) →
      ∀ (QQ : Flow → Shared → Prop) (_ : ∀ s₁₁, wpAny (model prog w) A (execs ((fnBody askStmt).drop 3) (callEnvC (askFd fname fqual fkwd fdoc fmod fann fcode fct) L fA)) Q E s₁₁ → QQ .next s₁₁) (A' : Around) (E' E'' : Value → Shared → Prop) (pos p1 p2 p3 : Pos), wpAny (model prog w) A' (storeName (callEnvC (askFd fname fqual fkwd fdoc fmod fann fcode fct) L fA) (Str.ofString "caught") (.ref e))
        (fun _ s₉ => wpAny (model prog w) A' (execs [.Assign [.Name (Str.ofString "told") p1] (.Name (Str.ofString "caught") p2) p3] (callEnvC (askFd fname fqual fkwd fdoc fmod fann fcode fct) L fA))
          (fun fl s₁₀ => wpAny (model prog w) A (do bindName (callEnvC (askFd fname fqual fkwd fdoc fmod fann fcode fct) L fA) (Str.ofString "caught") .none; unbindBehindTheSuite (callEnvC (askFd fname fqual fkwd fdoc fmod fann fcode fct) L fA) (Str.ofString "caught") pos)
            (fun _ s₁₁ => QQ fl s₁₁) E s₁₀) E'' s₉) E' s₈ := by
    rintro s₈ ⟨tb', H₉⟩ QQ hQQ A' E' E'' pos p1 p2 p3
    refine st_l H₉ (by tb_start) fun s₉ H₁₀ => ?_
    refine wpAny_execs_cons (wpAny_Assign_Name (nm_l H₁₀ (by k_mem) rfl (st_l H₁₀ (by tb_start) fun s₁₀ H₁₁ => wpAny_execs_nil ?_)))
    refine name_goes H₁₁ (fun v => by tb_start) fun v s₁₁ H₁₂ => ?_
    refine hQQ _ ?_
    refine wpAny_execs_cons (wpAny_Return_some (Tuple_ (wpAny_items_cons (nm_l H₁₂ (by k_mem) rfl (wpAny_items_cons (nm_c H₁₂ rfl (by k_mem) (wpAny_items_nil (new_tuple H₁₂ fun T s₁₂ H₁₃ => ?_))))))))
    exact h T t d s₁₂ (H₁₃.sub (by tb_rel))
  have ty : ∀ {X : String} {tb : Addr} {l' : Led} {s' : Shared}, St base os₀ ((e, ex1 X tb) :: l') s' → s'.TypeIs (.ref e) X := fun H' => by
    obtain ⟨o, ho, hc, _⟩ := H'.get (.head _); exact ⟨o, ho, hc⟩
  rcases hcls with rfl | rfl
  · refine wpAny_handleBy_builtin_as (X := "KeyError") (T := "KeyError") (b := true) (by rw [isSubtype_type]; kernel_rfl) (by rw [isSubtype_type]; kernel_rfl) (by rw [isSubtype_type]; kernel_rfl) (nm_b F₈ G.g G.b hK hKb ⟨rfl, ty F₈, ite_pos rfl (flight ⟨tb, F₈⟩ fun s₈ F₉ => ?_)⟩)
    exact fin s₈ F₉ _ (fun _ q => q) _ _ _ _ _ _ _
  · refine wpAny_handleBy_builtin_as (X := "IndexError") (T := "KeyError") (b := false) (by rw [isSubtype_type]; kernel_rfl) (by rw [isSubtype_type]; kernel_rfl) (by rw [isSubtype_type]; kernel_rfl) (nm_b F₈ G.g G.b hK hKb ⟨rfl, ty F₈, ite_neg (by decide) ?_⟩)
    refine wpAny_handleBy_builtin_as (X := "IndexError") (T := "IndexError") (b := true) (by rw [isSubtype_type]; kernel_rfl) (by rw [isSubtype_type]; kernel_rfl) (by rw [isSubtype_type]; kernel_rfl) (nm_b F₈ G.g G.b hI hIb ⟨rfl, ty F₈, ite_pos rfl (flight ⟨tb, F₈⟩ fun s₈ F₉ => ?_)⟩)
    exact fin s₈ F₉ _ (fun _ q => q) _ _ _ _ _ _ _

/-- up to the def: what is behind it is the caller's to say -/
theorem ask_head {c : Addr} {tl : Led} {ev' : Value} {Q : Value → Shared → Prop} (G : Gr base mg mb) {o : Obj} (ho : base.get? fA = some o) (hd : o.data = .func (askFd fname fqual fkwd fdoc fmod fann (.ref c) fct)) (hcd : base.CodeRec (.ref c) fqual)
    (C : CodeHd base c P) (hT : TabS P fqual tl) (H : St base os₀ (tl ++ led) s) (hroom : A.depth < recursionLimit)
    (h : ∀ L f l c' doc ctv s', St base os₀ ((f, objA (nameObj fqual L doc ((mg "__name__").getD .none) c' ctv)) :: (l, lstA []) :: (L + 1 + 1 + 1, celA (some (.ref l))) :: (L + 1 + 1, celA (some ev')) :: (L + 1, celA (some av)) ::
        (L, nsA fun y => if y = Str.ofString "_law_name" then some (.ref f) else bindL (callEnvC (askFd fname fqual fkwd fdoc fmod fann (.ref c) fct) L fA).kindOf [(Str.ofString "place", place), (Str.ofString "words", .ref dW), (Str.ofString "answer", av), (Str.ofString "error", ev')] (fun _ => none) y) ::
        (P, tab1 c') :: (c', codeA (qualN fqual)) :: led) s' →
      wpAny (model prog w) (A.deeper (callEnvC (askFd fname fqual fkwd fdoc fmod fann (.ref c) fct) L fA)) (execs ((fnBody askStmt).drop 2) (callEnvC (askFd fname fqual fkwd fdoc fmod fann (.ref c) fct) L fA)) (fun fl s' => Q (match fl with | .ret v => v | _ => .none) s')
        (fun e s' => wpAny (model prog w) (A.deeper (callEnvC (askFd fname fqual fkwd fdoc fmod fann (.ref c) fct) L fA)) (leaving (callEnvC (askFd fname fqual fkwd fdoc fmod fann (.ref c) fct) L fA) e) (fun _ s'' => E e s'') (fun e' s'' => E e' s'') s') s') :
    wpAny (model prog w) A (call (.ref fA) [place, .ref dW, av, ev'] []) Q E s := by
  refine fn_enterC (args := ⟨[place, .ref dW, av, ev'], []⟩) H hroom G.lim (H.keep _ _ ho) hd (hcd.keeps H.keep) rfl rfl (by intro n; show ([Str.ofString "calls", Str.ofString "error", Str.ofString "answer"] : List Str).Nodup; decide) ?_
  refine wpAny_of_eq (a := [(Str.ofString "place", place), (Str.ofString "words", .ref dW), (Str.ofString "answer", av), (Str.ofString "error", ev')]) rfl ?_
  refine ⟨_, H, kindsX rfl, fun L s₁ H₁ => ?_⟩
  have H₁' : St base os₀ ((L + 1 + 1 + 1, celA none) :: (L + 1 + 1, celA (some ev')) :: (L + 1, celA (some av)) :: (L, nsA (bindL (callEnvC (askFd fname fqual fkwd fdoc fmod fann (.ref c) fct) L fA).kindOf [(Str.ofString "place", place), (Str.ofString "words", .ref dW), (Str.ofString "answer", av), (Str.ofString "error", ev')] fun _ => none)) :: tl ++ led) s₁ := H₁
  refine wpAny_execs_cons (wpAny_Assign_Name (List_ (wpAny_items_nil (new_list H₁' fun l s₂ H₂ => st_c H₂ rfl (.tail .head) fun s₃ H₃ => ?_))))
  refine wpAny_execs_cons (nestDef_K rfl rfl rfl ?_)
  rcases hT with rfl | ⟨c₀, rfl⟩
  · refine mk_def_new (ps := #[]) H₃ G C rfl rfl rfl trivial rfl (fun c' => .tail (.tail (.tail (.tail (.tail .head))))) fun f c' ctv doc s₄ H₄ => ?_
    have H₅ := H₄.perm (List.Perm.cons _ (List.perm_middle (l₁ := [_, _, _, _, _, _])))
    refine st_l H₅ (by tb_start) fun s₅ H₆ => ?_
    exact h L f l c' doc ctv s₅ H₆
  · refine mk_def_hit (ps := #[rawInt (17 : Int), rawInt (4 : Int), .ref c₀]) (c' := c₀) H₃ G C rfl rfl rfl trivial (.tail _ (.tail _ (.tail _ (.tail _ (.tail _ (.head _)))))) rfl fun f ctv doc s₄ H₄ => ?_
    refine st_l H₄ (by tb_start) fun s₅ H₆ => ?_
    exact h L f l c₀ doc ctv s₅ H₆
end
end Mine

namespace Mine
open PySem PySem.W PyProof.Rows PySem.Calls PySem.Spec
local macro_rules | `(tactic| ktr_rel) => `(tactic| (repeat (first | assumption | exact List.Mem.head _ | apply List.Mem.tail)))
local macro_rules | `(tactic| tb_start) => `(tactic| (repeat (first | exact Up.head | assumption | apply Up.tail)))
local macro_rules | `(tactic| tb_rel) => `(tactic| (repeat (first | exact List.Sublist.refl _ | apply List.Sublist.cons_cons | apply List.Sublist.cons)))
def lawStmt : Stmt := nth 6 PySem.Challenge.pw_dm0069_09.main.body
def forBody : Stmt → List Stmt | .For _ _ b _ _ => b | _ => []
def turnB : List Stmt := forBody (nth 0 (fnBody lawStmt))
abbrev lawEnv (nm : Str) (L fa : Addr) (cd : Value) : Env := envOf nm (fnScope lawStmt) L fa cd
/-- further words -/
def Wd (kvs : List (Str × Value)) : Prop := kvs = [] ∨ (∃ v, kvs = [(Str.ofString "first", v)]) ∨ (∃ v, kvs = [(Str.ofString "last", v)]) ∨ ∃ v v', kvs = [(Str.ofString "first", v), (Str.ofString "last", v')]
section
variable {prog : Program} {w : World} {A : Around} {E : Value → Shared → Prop} {s : Shared} {base : Heap} {os₀ : OsState} {led : Led} {mg mb : Str → Option Value} {nm : Str} {L fa u : Addr} {cd : Value} {m : Str → Option Value} {n : Int} {t : Tok} {Q : Flow → Shared → Prop}

theorem t_words (R : Room prog w A base) (H : St base os₀ ((L, nsA m) :: led) s) (hx : m (Str.ofString "x") = some (.int n t))
    (h : ∀ dW kvs s', Wd kvs → St base os₀ ((dW, dctA (strKind prog w) kvs) :: (L, nsA fun y => if y = Str.ofString "words" then some (.ref dW) else m y) :: led) s' → wpAny (model prog w) A (execs (turnB.drop 3) (lawEnv nm L fa cd)) Q E s') :
    wpAny (model prog w) A (execs turnB (lawEnv nm L fa cd)) Q E s := by
  refine wpAny_execs_cons (wpAny_Assign_Name (new_dict H fun dW s₁ H₁ => st_l H₁ (.tail .head) fun s₂ H₂ => ?_))
  have h := h dW
  have hx' : (fun y => if y = Str.ofString "words" then some (Value.ref dW) else m y) (Str.ofString "x") = some (.int n t) := (if_neg (by decide)).trans hx
  have hw' : (fun y => if y = Str.ofString "words" then some (Value.ref dW) else m y) (Str.ofString "words") = some (.ref dW) := if_pos rfl
  generalize (fun y => if y = Str.ofString "words" then some (Value.ref dW) else m y) = m' at hx' hw' H₂ h
  have rest : ∀ kvs s, (kvs = [] ∨ ∃ v, kvs = [(Str.ofString "first", v)]) → St base os₀ ((dW, dctA (strKind prog w) kvs) :: (L, nsA m') :: led) s → wpAny (model prog w) A (execs (turnB.drop 2) (lawEnv nm L fa cd)) Q E s := fun kvs s hk H₂ => by
    refine wpAny_execs_cons (wpAny_If (wpAny_isTrue_Compare1 (wpAny_BinOp (wpAny_BinOp (nm_l H₂ (.tail _ (.head _)) hx' (c_int H₂ fun t1 s₃ H₃ => i_fdiv R H₃ (by decide) fun t2 s₄ H₄ => c_int H₄ fun t3 s₅ H₅ => i_mod H₅ (by decide) fun t4 s₆ H₆ => c_int H₆ fun t5 s₇ H₇ => PyProof.Rows.eq_int (wpAny_truthy_bool ?_)))))))
    split
    · refine wpAny_execs_cons (wpAny_Assign_Subscript (List_ (wpAny_items_cons (nm_l H₇ (.tail _ (.head _)) hx' (wpAny_items_nil (new_list H₇ fun l s₈ H₈ => nm_l H₈ (.tail _ (.tail _ (.head _))) hw' (c_str H₈ fun t6 s₉ H₉ => ?_)))))))
      rcases hk with rfl | ⟨v, rfl⟩
      · exact set_item H₉ (.tail .head) (fun s₁₀ H₁₀ => wpAny_execs_nil (h _ _ (.inr (.inr (.inl ⟨_, rfl⟩))) (H₁₀.sub (.cons _ (.refl _))))) (by decide)
      · exact set_item H₉ (.tail .head) (fun s₁₀ H₁₀ => wpAny_execs_nil (h _ _ (.inr (.inr (.inr ⟨_, _, rfl⟩))) (H₁₀.sub (.cons _ (.refl _))))) (by show 1 ≤ sizeLine; decide)
    · refine wpAny_execs_nil (h _ _ ?_ H₇)
      rcases hk with rfl | ⟨v, rfl⟩
      · exact .inl rfl
      · exact .inr (.inl ⟨_, rfl⟩)
  refine wpAny_execs_cons (wpAny_If (wpAny_isTrue_Compare1 (wpAny_BinOp (wpAny_BinOp (nm_l H₂ (.tail _ (.head _)) hx' (c_int H₂ fun t1 s₃ H₃ => i_fdiv R H₃ (by decide) fun t2 s₄ H₄ => c_int H₄ fun t3 s₅ H₅ => i_mod H₅ (by decide) fun t4 s₆ H₆ => c_int H₆ fun t5 s₇ H₇ => PyProof.Rows.eq_int (wpAny_truthy_bool ?_)))))))
  split
  · refine wpAny_execs_cons (wpAny_Assign_Subscript (wpAny_BinOp (nm_l H₇ (.tail _ (.head _)) hx' (c_int H₇ fun t6 s₈ H₈ => i_fdiv R H₈ (by decide) fun t7 s₉ H₉ => nm_l H₉ (.tail _ (.head _)) hw' (c_str H₉ fun t8 s₁₀ H₁₀ => ?_)))))
    exact set_item H₁₀ .head (fun s₁₁ H₁₁ => wpAny_execs_nil (rest _ _ (.inr ⟨_, rfl⟩) H₁₁)) (by decide)
  · exact wpAny_execs_nil (rest _ _ (.inl rfl) H₇)

/-- a value that is the same as itself -/
def Self (v : Value) : Prop := ∀ (M : Model) (A : Around) (E : Value → Shared → Prop) (s : Shared) (Q : Value → Shared → Prop), Q (.bool false) s → wpAny M A (compareOp .IsNot v v) Q E s
theorem Self.ref (a : Addr) : Self (.ref a) := fun M A E s Q h => wpAny_isNot_ref_self h
theorem Self.none : Self .none := fun M A E s Q h => wpAny_isNot_self rfl h
theorem Self.str {x : Str} {t : Tok} (ht : 0 < t) : Self (.str x t) := fun M A E s Q h => by
  show wpAny M A (do return .bool (!(← isSame (.str x t) (.str x t)))) Q E s
  refine wpAny_bind (m := isSame (.str x t) (.str x t)) ?_
  show wpAny M A (isSame.created (x == x) t t) _ E s
  unfold isSame.created
  rw [if_neg (by simp; exact Nat.ne_of_gt ht), if_pos (by simp)]
  exact wpAny_pure (wpAny_pure h)

theorem c_intP {k : Nat} {pos : Pos} {env : Env} {Q : Value → Shared → Prop} {i : Int} (H : St base os₀ led s) (h : ∀ t s', 0 < s'.toks → St base os₀ led s' → Q (.int i t) s') : wpAny (model prog w) A (eval (.Constant (.int i) k pos) env) Q E s :=
  wpAny_Constant_int (h _ _ (Nat.succ_pos _) H.tok)
theorem c_strP {k : Nat} {pos : Pos} {env : Env} {Q : Value → Shared → Prop} {x : Str} (H : St base os₀ led s) (ht : 0 < s.toks) (h : ∀ t s', 0 < t → 0 < s'.toks → St base os₀ led s' → Q (.str x t) s') : wpAny (model prog w) A (eval (.Constant (.str x) k pos) env) Q E s :=
  wpAny_Constant_str (h _ _ ht (Nat.succ_pos _) H.tok)
theorem new_listP {Q : Value → Shared → Prop} {vs : List Value} (H : St base os₀ led s) (ht : 0 < s.toks) (h : ∀ a s', 0 < s'.toks → St base os₀ ((a, lstA vs) :: led) s' → Q (.ref a) s') (hsz : vs.length ≤ sizeLine := by size_fits) :
    wpAny (model prog w) A (newList vs) Q E s := wpAny_newObj_type (h _ _ ht (H.push (tk := s.toks) rfl ⟨_, rfl⟩)) (by show vs.toArray.size ≤ sizeLine; rw [List.size_toArray]; exact hsz)

theorem t_answer (R : Room prog w A base) (G : Gr base mg mb) (hu : mg (Str.ofString "UNKNOWN") = some (.ref u))
    (hK : mg (Str.ofString "KeyError") = none) (hKb : mb (Str.ofString "KeyError") = some (.type "KeyError")) (hI : mg (Str.ofString "IndexError") = none) (hIb : mb (Str.ofString "IndexError") = some (.type "IndexError"))
    (H : St base os₀ ((L, nsA m) :: led) s) (hx : m (Str.ofString "x") = some (.int n t))
    (h1 : ∀ av m' s', Self av → m' (Str.ofString "answer") = some av → m' (Str.ofString "error") = some .none → (∀ y, y ≠ Str.ofString "answer" → y ≠ Str.ofString "error" → m' y = m y) → St base os₀ ((L, nsA m') :: led) s' → wpAny (model prog w) A (execs (turnB.drop 6) (lawEnv nm L fa cd)) Q E s')
    (h2 : ∀ e cls m' s', (cls = "KeyError" ∨ cls = "IndexError") → m' (Str.ofString "answer") = some .none → m' (Str.ofString "error") = some (.ref e) → (∀ y, y ≠ Str.ofString "answer" → y ≠ Str.ofString "error" → m' y = m y) → St base os₀ ((e, exN cls) :: (L, nsA m') :: led) s' → wpAny (model prog w) A (execs (turnB.drop 6) (lawEnv nm L fa cd)) Q E s') :
    wpAny (model prog w) A (execs (turnB.drop 3) (lawEnv nm L fa cd)) Q E s := by
  refine wpAny_execs_cons (wpAny_Assign_Name (wpAny_Constant_none (st_l H .head fun s₁ H₁ => ?_)))
  refine wpAny_execs_cons (wpAny_Assign_Name (wpAny_Constant_none (st_l H₁ .head fun s₂ H₂ => ?_)))
  have hx' : (fun y => if y = Str.ofString "error" then some Value.none else if y = Str.ofString "answer" then some Value.none else m y) (Str.ofString "x") = some (.int n t) := (if_neg (by decide)).trans ((if_neg (by decide)).trans hx)
  refine wpAny_execs_cons (wpAny_If (wpAny_isTrue_Compare1 (wpAny_BinOp (nm_l H₂ (.head _) hx' (c_int H₂ fun t1 s₃ H₃ => i_mod H₃ (by decide) fun t2 s₄ H₄ => c_intP H₄ fun t3 s₅ ht H₅ => PyProof.Rows.lt_int (wpAny_truthy_bool ?_))))))
  have hlo : 0 ≤ n.fmod 6 := Int.fmod_nonneg_of_pos _ (by decide)
  split
  · rename_i hlt
    have hlt : n.fmod 6 < 5 := by simpa using hlt
    refine wpAny_execs_cons (wpAny_Assign_Name (Subscript_ (List_ (wpAny_items_cons (List_ (wpAny_items_cons (nm_l H₅ (.head _) hx' (wpAny_items_nil (new_listP H₅ ht fun l s₆ ht₆ H₆ => wpAny_items_cons (wpAny_Constant_none (wpAny_items_cons (c_strP H₆ ht₆ fun t4 s₇ ht4 ht₇ H₇ => wpAny_items_cons (nm_g H₇ G.g hu (wpAny_items_cons (c_strP H₇ ht₇ fun t5 s₈ ht5 ht₈ H₈ => wpAny_items_nil (new_list H₈ fun ll s₉ H₉ => ?_))))))))))))))))
    refine wpAny_BinOp (nm_l H₉ (.tail _ (.tail _ (.head _))) hx' (c_int H₉ fun t6 s₁₀ H₁₀ => i_mod H₁₀ (by decide) fun t7 s₁₁ H₁₁ => ?_))
    have hcase : ∃ av, ([Value.ref l, .none, .str (Str.ofString "") t4, .ref u, .str (Str.ofString "a name") t5] : List Value)[(n.fmod 6).toNat]? = some av ∧ Self av := by
      have : (n.fmod 6).toNat < 5 := by omega
      generalize (n.fmod 6).toNat = j at this
      rcases j with _ | _ | _ | _ | _ | j
      · exact ⟨_, rfl, Self.ref _⟩
      · exact ⟨_, rfl, Self.none⟩
      · exact ⟨_, rfl, Self.str ht4⟩
      · exact ⟨_, rfl, Self.ref _⟩
      · exact ⟨_, rfl, Self.str ht5⟩
      · omega
    obtain ⟨av, hav, hself⟩ := hcase
    refine item_l H₁₁ (.head _) hlo (by omega) hav (st_l H₁₁ (.tail (.tail .head)) fun s₁₂ H₁₂ => wpAny_execs_nil ?_)
    refine h1 av _ _ hself ?_ ?_ ?_ (H₁₂.sub (.cons _ (.cons _ (.refl _))))
    · exact if_pos rfl
    · exact (if_neg (by decide)).trans (if_pos rfl)
    · exact fun y h1 h2 => (if_neg h1).trans ((if_neg h2).trans (if_neg h1))
  · refine wpAny_execs_cons (wpAny_Assign_Name (wpAny_IfExp (wpAny_isTrue_Compare1 (wpAny_BinOp (wpAny_BinOp (nm_l H₅ (.head _) hx' (c_int H₅ fun t4 s₆ H₆ => i_fdiv R H₆ (by decide) fun t5 s₇ H₇ => c_int H₇ fun t6 s₈ H₈ => i_mod H₈ (by decide) fun t7 s₉ H₉ => c_int H₉ fun t8 s₁₀ H₁₀ => PyProof.Rows.eq_int (wpAny_truthy_bool ?_))))))))
    have fin : ∀ e cls s₁₁, (cls = "KeyError" ∨ cls = "IndexError") → St base os₀ ((e, exN cls) :: (L, nsA fun y => if y = Str.ofString "error" then some Value.none else if y = Str.ofString "answer" then some Value.none else m y) :: led) s₁₁ →
        ∀ E', wpAny (model prog w) A (storeName (lawEnv nm L fa cd) (Str.ofString "error") (.ref e)) (fun _ s₁₂ => wpAny (model prog w) A (execs (turnB.drop 6) (lawEnv nm L fa cd)) Q E s₁₂) E' s₁₁ := fun e cls s₁₁ hc H₁₁ E' => by
      refine st_l H₁₁ (.tail .head) fun s₁₂ H₁₂ => ?_
      refine h2 e cls _ _ hc ?_ ?_ ?_ H₁₂
      · exact (if_neg (by decide)).trans ((if_neg (by decide)).trans (if_pos rfl))
      · exact if_pos rfl
      · exact fun y h1 h2 => (if_neg h2).trans ((if_neg h2).trans (if_neg h1))
    split
    · refine wpAny_Call_ofName (nm_b H₁₀ G.g G.b hK hKb (callWith_excType rfl (evalArgs_plain (spliced_cons (nm_l H₁₀ (.head _) hx' (spliced_nil (made_exc ⟨_, _, excClass_KeyError⟩ H₁₀ fun e s₁₁ H₁₁ => ?_)))))))
      exact wpAny_mono (fin e _ s₁₁ (.inl rfl) H₁₁ E) (fun _ _ q => wpAny_execs_nil q) fun _ _ x => x
    · refine wpAny_Call_ofName (nm_b H₁₀ G.g G.b hI hIb (callWith_excType rfl (evalArgs_plain (spliced_cons (nm_l H₁₀ (.head _) hx' (spliced_nil (made_exc ⟨_, _, excClass_IndexError⟩ H₁₀ fun e s₁₁ H₁₁ => ?_)))))))
      exact wpAny_mono (fin e _ s₁₁ (.inr rfl) H₁₁ E) (fun _ _ q => wpAny_execs_nil q) fun _ _ x => x
end
end Mine

namespace Mine
open PySem PySem.W PyProof.Rows PySem.Calls PySem.Spec
local macro_rules | `(tactic| ktr_rel) => `(tactic| (repeat (first | assumption | exact List.Mem.head _ | apply List.Mem.tail)))
local macro_rules | `(tactic| tb_start) => `(tactic| (repeat (first | exact Up.head | assumption | apply Up.tail)))
local macro_rules | `(tactic| tb_rel) => `(tactic| (repeat (first | exact List.Sublist.refl _ | apply List.Sublist.cons_cons | apply List.Sublist.cons)))
theorem St.grown {base : Heap} {os₀ : OsState} {led : Led} {s : Shared} (H : St base os₀ led s) {h' : Heap} {tk : Nat} (hx : Heap.ExtBut s.heap.objs.size s.heap h') : St base os₀ led { s with heap := h', toks := tk } :=
  H.ext fun b o e => hx b o (Nat.ne_of_lt (Heap.lt_size e)) e
/-- what the law reaches by its globals -/
structure G9 (base : Heap) (mg mb : Str → Option Value) (fG fA u c P : Addr) (gd : FuncData) (fname fqual : Str) (fkwd fdoc fmod : Value) (fann : Option Addr) (fct : Value) : Prop where
  gr : Gr base mg mb
  dg : IsDef base fG gniStmt gd
  hg : mg (Str.ofString "_get_name_info") = some (.ref fG)
  ha : mg (Str.ofString "_law_asked") = some (.ref fA)
  hu : mg (Str.ofString "UNKNOWN") = some (.ref u)
  oA : ∃ o, base.get? fA = some o ∧ o.data = .func (askFd fname fqual fkwd fdoc fmod fann (.ref c) fct)
  cA : base.CodeRec (.ref c) fqual
  C : CodeHd base c P
  n1 : mg (Str.ofString "KeyError") = none
  n2 : mg (Str.ofString "IndexError") = none
  n3 : mg (Str.ofString "isinstance") = none
  n4 : mg (Str.ofString "tuple") = none
  n5 : mg (Str.ofString "len") = none
  b1 : mb (Str.ofString "KeyError") = some (.type "KeyError")
  b2 : mb (Str.ofString "IndexError") = some (.type "IndexError")
  b3 : mb (Str.ofString "isinstance") = some (.builtin "isinstance")
  b4 : mb (Str.ofString "tuple") = some (.type "tuple")
  b5 : mb (Str.ofString "len") = some (.builtin "len")
theorem Wd.keys {kvs : List (Str × Value)} (h : Wd kvs) (l : List Str) (hl : ∀ k ∈ l, k ≠ Str.ofString "first" ∧ k ≠ Str.ofString "last") : ∀ k ∈ kvs.map (·.1), k ∉ l := by
  have : ∀ k ∈ kvs.map (·.1), k = Str.ofString "first" ∨ k = Str.ofString "last" := by
    rcases h with rfl | ⟨v, rfl⟩ | ⟨v, rfl⟩ | ⟨v, v', rfl⟩ <;> simp
  intro k hk hkl
  rcases this k hk with e | e
  · exact (hl k hkl).1 e
  · exact (hl k hkl).2 e
theorem Wd.nodup {kvs : List (Str × Value)} (h : Wd kvs) : (kvs.map (·.1)).Nodup := by
  rcases h with rfl | ⟨v, rfl⟩ | ⟨v, rfl⟩ | ⟨v, v', rfl⟩
  · exact .nil
  · simp
  · simp
  · show [Str.ofString "first", Str.ofString "last"].Nodup
    decide
theorem Wd.len {kvs : List (Str × Value)} (h : Wd kvs) : kvs.length ≤ sizeLine := by
  refine Nat.le_trans (m := 2) ?_ (by decide)
  rcases h with rfl | ⟨v, rfl⟩ | ⟨v, rfl⟩ | ⟨v, v', rfl⟩ <;> simp
section
variable {prog : Program} {w : World} {A : Around} {E : Value → Shared → Prop} {s : Shared} {base : Heap} {os₀ : OsState} {led tl : Led} {mg mb : Str → Option Value} {nm : Str} {L fa fG fA u c P dW : Addr} {cd : Value} {m : Str → Option Value} {n : Int} {t : Tok} {Q : Flow → Shared → Prop}
  {gd : FuncData} {fname fqual : Str} {fkwd fdoc fmod : Value} {fann : Option Addr} {fct : Value} {kvs : List (Str × Value)}

/-- behind the asking: what was kept is the place and the words -/
theorem t_kept {l d t₁ : Addr} {v : Value} (R : Room prog w A base) (G : G9 base mg mb fG fA u c P gd fname fqual fkwd fdoc fmod fann fct) (hk : Wd kvs)
    (H : St base os₀ ((L, nsA m) :: (t₁, tupA [v, .ref d]) :: (d, dctA (strKind prog w) kvs) :: (l, lstA [.ref t₁]) :: (dW, dctA (strKind prog w) kvs) :: led) s)
    (hc : m (Str.ofString "calls") = some (.ref l)) (hx : m (Str.ofString "x") = some v) (hw : m (Str.ofString "words") = some (.ref dW))
    (h : ∀ s', St base os₀ ((L, nsA m) :: (dW, dctA (strKind prog w) kvs) :: led) s' → wpAny (model prog w) A (execs (turnB.drop 8) (lawEnv nm L fa cd)) Q E s') :
    wpAny (model prog w) A (execs (turnB.drop 7) (lawEnv nm L fa cd)) Q E s := by
  obtain ⟨o₀, hsys⟩ := G.gr.sys
  refine wpAny_execs_cons (wpAny_If (wpAny_isTrue_Compare1 (nm_l H (.head _) hc (List_ (wpAny_items_cons (Tuple_ (wpAny_items_cons (nm_l H (.head _) hx (wpAny_items_cons (nm_l H (.head _) hw (wpAny_items_nil (new_tuple H fun t₂ s₁ H₁ => wpAny_items_nil (new_list H₁ fun l₂ s₂ H₂ => ?_)))))))))))))
  have hu := R.units
  refine list_ne_same (vs := [.ref t₁]) (us := [.ref t₂]) (H₂.isList (by k_mem)) (H₂.isList (by k_mem)) rfl (by omega) (fun p hp => ?_) (wpAny_truthy_bool (ite_neg (by decide) (wpAny_execs_nil (h _ (H₂.sub (by tb_rel))))))
  simp only [List.zip_cons_cons, List.zip_nil_right, List.mem_singleton] at hp
  subst hp
  refine EqW.tups (vs := [v, .ref d]) (us := [v, .ref dW]) ?_ (H₂.isTup (by k_mem)) (H₂.isTup (by k_mem)) rfl (by show A.units + 1 < _; omega) fun p hp => ?_
  · exact H₁.ne (b := t₁) (R := tupA [v, .ref d]) (by k_mem)
  simp only [List.zip_cons_cons, List.zip_nil_right, List.mem_cons, List.not_mem_nil, or_false] at hp
  rcases hp with rfl | rfl
  · exact EqW.self v
  · refine EqW.dicts (kvs := kvs) (knd := strKind prog w) ?_ (H₂.notSys (a := d) (P := dctA (strKind prog w) kvs) (by k_mem) hsys) (H₂.notSys (a := dW) (P := dctA (strKind prog w) kvs) (by k_mem) hsys) (H₂.isDict (by k_mem)) (H₂.isDict (by k_mem)) (by show A.units + 1 + 1 < _; omega)
    exact ((H.sub (led' := (d, dctA (strKind prog w) kvs) :: (l, lstA [.ref t₁]) :: (dW, dctA (strKind prog w) kvs) :: led) (.cons _ (.cons _ (.refl _)))).ne (b := dW) (R := dctA (strKind prog w) kvs) (by k_mem)).symm

theorem t_blank {tt : Value} (R : Room prog w A base) (G : G9 base mg mb fG fA u c P gd fname fqual fkwd fdoc fmod fann fct) (hk : Wd kvs)
    (H : St base os₀ ((L, nsA m) :: (dW, dctA (strKind prog w) kvs) :: led) s) (hx : m (Str.ofString "x") = some tt) (hw : m (Str.ofString "words") = some (.ref dW))
    (h : ∀ s', St base os₀ ((L, nsA m) :: led) s' → Q .next s') :
    wpAny (model prog w) A (execs (turnB.drop 9) (lawEnv nm L fa cd)) Q E s := by
  obtain ⟨o₀, hsys⟩ := G.gr.sys
  have hu := R.units
  have hd := R.depth
  refine wpAny_execs_cons (wpAny_If (wpAny_isTrue_Compare1 (wpAny_Call_ofName (nm_g H G.gr.g G.hg ?_))))
  refine callWith_fn (evalArgs_star rfl (spliced_cons (nm_l H (.head _) hx (spliced_cons (wpAny_Constant_none (k := 0) (pos := ⟨52, 29, 52, 33⟩) (spliced_nil (merged1 H hsys ?_ (.tail _ (.head _)) hk.len fun d₂ s₂ H₂ => kwIn H₂ (.head _) ⟨?_, ?_⟩)))))))
  · exact fun d' s' H' => wpAny_bind (nm_l H' (.tail _ (.head _)) hw (wpAny_bind (wpAny_standAt (wpAny_pure ⟨rfl, rfl⟩))))
  · obtain ⟨o, ho, hd⟩ := G.dg.obj; exact ⟨o, gd, H₂.keep _ _ ho, hd⟩
  refine gni_none (v := tt) G.dg G.gr.lim G.gr.g G.hu (H₂.sub (.cons _ (.refl _))) (by omega) (hk.keys _ (by decide)) hk.nodup (Nat.le_succ_of_le hk.len) fun a t₁ s₃ H₃ => ?_
  refine Tuple_ (wpAny_items_cons (nm_g H₃ G.gr.g G.hu (wpAny_items_cons (c_str H₃ fun t₂ s₄ H₄ => wpAny_items_nil (new_tuple H₄ fun b s₅ H₅ => ?_)))))
  refine tup_ne_same (vs := [.ref u, .str (Str.ofString "") t₁]) (us := [.ref u, .str (Str.ofString "") t₂]) (H₅.isTup (by k_mem)) (H₅.isTup (by k_mem)) rfl (by omega) (fun p hp => ?_) (wpAny_truthy_bool (ite_neg (by decide) (wpAny_execs_nil (wpAny_execs_nil (h _ (H₅.sub (by tb_rel)))))))
  simp only [List.zip_cons_cons, List.zip_nil_right, List.mem_cons, List.not_mem_nil, or_false] at hp
  rcases hp with rfl | rfl
  · exact EqW.self _
  · exact EqW.of (by have := SeqAt.EqAt.str_str (A := A.in1) (s := s₅) (Str.ofString "") t₁ (Str.ofString "") t₂; simpa using this)
end
end Mine

namespace Mine
open PySem PySem.W PyProof.Rows PySem.Calls PySem.Spec
local macro_rules | `(tactic| ktr_rel) => `(tactic| (repeat (first | assumption | exact List.Mem.head _ | apply List.Mem.tail)))
local macro_rules | `(tactic| tb_start) => `(tactic| (repeat (first | exact Up.head | assumption | apply Up.tail)))
local macro_rules | `(tactic| tb_rel) => `(tactic| (repeat (first | exact List.Sublist.refl _ | apply List.Sublist.cons_cons | apply List.Sublist.cons)))
local macro_rules | `(tactic| none_booked) => `(tactic| (repeat (first | exact List.Perm.refl _ | refine Pick.perm (by (repeat (first | exact Pick.head | apply Pick.tail))) ?_)))
section
variable {prog : Program} {w : World} {A : Around} {E : Value → Shared → Prop} {s : Shared} {base : Heap} {os₀ : OsState} {led tl : Led} {mg mb : Str → Option Value} {nm : Str} {L fa fG fA u c P dW : Addr} {cd : Value} {m : Str → Option Value} {n : Int} {t : Tok} {Q : Flow → Shared → Prop}
  {gd : FuncData} {fname fqual : Str} {fkwd fdoc fmod : Value} {fann : Option Addr} {fct : Value} {kvs : List (Str × Value)}

theorem t_ret {v av : Value} (R : Room prog w A base) (G : G9 base mg mb fG fA u c P gd fname fqual fkwd fdoc fmod fann fct) (hk : Wd kvs) (hT : TabS P fqual tl) (hself : Self av)
    (H : St base os₀ ((L, nsA m) :: (dW, dctA (strKind prog w) kvs) :: (tl ++ led)) s) (hx : m (Str.ofString "x") = some v) (hw : m (Str.ofString "words") = some (.ref dW)) (ha : m (Str.ofString "answer") = some av) (he : m (Str.ofString "error") = some .none)
    (h : ∀ m' tl' s', TabS P fqual tl' → St base os₀ ((L, nsA m') :: (tl' ++ led)) s' → Q .next s') :
    wpAny (model prog w) A (execs (turnB.drop 6) (lawEnv nm L fa cd)) Q E s := by
  have hu := R.units
  have hd := R.depth
  obtain ⟨oA, hoA, hdA⟩ := G.oA
  refine wpAny_execs_cons (Assign_Tuple (wpAny_Call_ofName (nm_g H G.gr.g G.ha (callWith_fn (evalArgs_plain (spliced_cons (nm_l H (.head _) hx (spliced_cons (nm_l H (.head _) hw (spliced_cons (nm_l H (.head _) ha (spliced_cons (nm_l H (.head _) he (spliced_nil ⟨⟨oA, _, H.keep _ _ hoA, hdA⟩, ?_⟩))))))))))))))
  have H₁ : St base os₀ (tl ++ ((L, nsA m) :: (dW, dctA (strKind prog w) kvs) :: led)) s := H.perm (List.perm_append_comm_assoc tl [_, _] led)
  refine ask_head (c := c) (P := P) (av := av) (ev' := .none) G.gr hoA hdA G.cA G.C hT H₁ (by omega) fun L₁ f l c' doc ctv s₁ H₂ => ?_
  refine ask_tail_ret (fcode := .ref c) (place := v) (av := av) (dW := dW) (kvs := kvs) G.gr G.dg G.hg H₂ rfl rfl rfl (by k_mem) (by show A.depth + 1 + 3 < _; omega) (hk.keys _ (by decide)) (hk.keys _ (by decide)) hk.nodup hk.len fun T p t₁ d s₂ H₃ => ?_
  refine assign_Tuple_tuple (items := #[.ref p, .ref l]) R.handled (H₃.isTup (vs := [.ref p, .ref l]) (.head _)) rfl rfl fun h' hx' => ?_
  have H₄ := H₃.grown (tk := s₂.toks) hx'
  refine assignInOrder_cons (wpAny_assign_Name (st_l H₄ (by tb_start) fun s₃ H₅ => assignInOrder_cons (wpAny_assign_Name (st_l H₅ (by tb_start) fun s₄ H₆ => assignInOrder_nil ?_))))
  have hx₂ : (fun y => if y = Str.ofString "calls" then some (Value.ref l) else if y = Str.ofString "told" then some (.ref p) else m y) (Str.ofString "x") = some v := (if_neg (by decide)).trans ((if_neg (by decide)).trans hx)
  have hw₂ : (fun y => if y = Str.ofString "calls" then some (Value.ref l) else if y = Str.ofString "told" then some (.ref p) else m y) (Str.ofString "words") = some (.ref dW) := (if_neg (by decide)).trans ((if_neg (by decide)).trans hw)
  have ha₂ : (fun y => if y = Str.ofString "calls" then some (Value.ref l) else if y = Str.ofString "told" then some (.ref p) else m y) (Str.ofString "answer") = some av := (if_neg (by decide)).trans ((if_neg (by decide)).trans ha)
  have he₂ : (fun y => if y = Str.ofString "calls" then some (Value.ref l) else if y = Str.ofString "told" then some (.ref p) else m y) (Str.ofString "error") = some .none := (if_neg (by decide)).trans ((if_neg (by decide)).trans he)
  have ht₂ : (fun y => if y = Str.ofString "calls" then some (Value.ref l) else if y = Str.ofString "told" then some (.ref p) else m y) (Str.ofString "told") = some (.ref p) := (if_neg (by decide)).trans (if_pos rfl)
  have hc₂ : (fun y => if y = Str.ofString "calls" then some (Value.ref l) else if y = Str.ofString "told" then some (.ref p) else m y) (Str.ofString "calls") = some (.ref l) := if_pos rfl
  generalize (fun y => if y = Str.ofString "calls" then some (Value.ref l) else if y = Str.ofString "told" then some (.ref p) else m y) = m₂ at hx₂ hw₂ ha₂ he₂ ht₂ hc₂ H₆
  have H₇ : St base os₀ ((L, nsA m₂) :: (t₁, tupA [v, .ref d]) :: (d, dctA (strKind prog w) kvs) :: (l, lstA [.ref t₁]) :: (dW, dctA (strKind prog w) kvs) :: (p, tupA [av, av]) :: (P, tab1 c') :: (c', codeA (qualN fqual)) :: led) s₄ := by
    refine (H₆.sub (.cons _ (.refl _))).perm ?_
    none_booked
  refine t_kept R G hk H₇ hc₂ hx₂ hw₂ fun s₅ H₈ => ?_
  refine wpAny_execs_cons (wpAny_If (wpAny_isTrue_Compare1 (nm_l H₈ (.head _) he₂ (wpAny_Constant_none (isNot_none (wpAny_truthy_bool (ite_neg (by decide) ?_)))))))
  refine wpAny_execs_cons (wpAny_If (wpAny_isTrue_BoolOp (wpAny_allTrue_Or_cons (wpAny_isTrue_Not (wpAny_isTrue_value (wpAny_Call_ofName (nm_b H₈ G.gr.g G.gr.b G.n3 G.b3 (callWith_builtin rfl (evalArgs_plain (spliced_cons (nm_l H₈ (.head _) ht₂ (spliced_cons (nm_b H₈ G.gr.g G.gr.b G.n4 G.b4 (spliced_nil ?_))))))))))))))
  have hp := H₈.isTup (a := p) (vs := [av, av]) (by k_mem)
  refine call_isinstance_yes (Tx := "tuple") (T := "tuple") hp.typeIs (by kernel_rfl) AutoSeq1.sub_tuple_tuple (wpAny_truthy_bool (ite_neg (by decide) ?_))
  refine wpAny_allTrue_Or_cons (wpAny_isTrue_Compare1 (wpAny_Call_ofName (nm_b H₈ G.gr.g G.gr.b G.n5 G.b5 (callWith_builtin rfl (evalArgs_plain (spliced_cons (nm_l H₈ (.head _) ht₂ (spliced_nil ?_))))))))
  refine PyProof.Rows.len_tuple hp (by show (2 : Int) < _; decide) ?_
  have H₉ : St base os₀ _ { s₅ with toks := s₅.toks + 1 + 1 } := H₈.tok
  refine c_int H₉ fun t3 s₆ H₁₀ => PyProof.Rows.ne_int (wpAny_truthy_bool (ite_neg (by show ¬ ((2 : Int) != 2) = true; decide) (wpAny_allTrue_Or_nil (ite_neg (by decide) ?_))))
  refine wpAny_execs_cons (wpAny_If (wpAny_isTrue_BoolOp (wpAny_allTrue_Or_cons (wpAny_isTrue_Compare1 (Subscript_ (nm_l H₁₀ (.head _) ht₂ (c_int H₁₀ fun t4 s₇ H₁₁ => ?_)))))))
  refine item_tupleL (l := [av, av]) (H₁₁.isTup (by k_mem)) (by decide) (by decide) (j := 0) rfl rfl (nm_l H₁₁ (.head _) ha₂ (hself _ _ _ _ _ (wpAny_truthy_bool (ite_neg (by decide) ?_))))
  refine wpAny_allTrue_Or_cons (wpAny_isTrue_Compare1 (Subscript_ (nm_l H₁₁ (.head _) ht₂ (c_int H₁₁ fun t5 s₈ H₁₂ => ?_))))
  refine item_tupleL (l := [av, av]) (H₁₂.isTup (by k_mem)) (by decide) (by decide) (j := 1) rfl rfl (nm_l H₁₂ (.head _) ha₂ (hself _ _ _ _ _ (wpAny_truthy_bool (ite_neg (by decide) (wpAny_allTrue_Or_nil (ite_neg (by decide) ?_))))))
  refine wpAny_execs_nil (wpAny_execs_nil (wpAny_execs_nil ?_))
  refine t_blank R G hk H₁₂ hx₂ hw₂ fun s₉ H₁₃ => ?_
  exact h m₂ [(P, tab1 c'), (c', codeA (qualN fqual))] s₉ (.inr ⟨c', rfl⟩) (H₁₃.sub (.cons_cons _ (.cons _ (.refl _))))
end
end Mine

namespace Mine
open PySem PySem.W PyProof.Rows PySem.Calls PySem.Spec
local macro_rules | `(tactic| ktr_rel) => `(tactic| (repeat (first | assumption | exact List.Mem.head _ | apply List.Mem.tail)))
local macro_rules | `(tactic| tb_start) => `(tactic| (repeat (first | exact Up.head | assumption | apply Up.tail)))
local macro_rules | `(tactic| tb_rel) => `(tactic| (repeat (first | exact List.Sublist.refl _ | apply List.Sublist.cons_cons | apply List.Sublist.cons)))
local macro_rules | `(tactic| none_booked) => `(tactic| (repeat (first | exact List.Perm.refl _ | refine Pick.perm (by (repeat (first | exact Pick.head | apply Pick.tail))) ?_)))
section
variable {prog : Program} {w : World} {A : Around} {E : Value → Shared → Prop} {s : Shared} {base : Heap} {os₀ : OsState} {led tl : Led} {mg mb : Str → Option Value} {nm : Str} {L fa fG fA u c P dW : Addr} {cd : Value} {m : Str → Option Value} {n : Int} {t : Tok} {Q : Flow → Shared → Prop}
  {gd : FuncData} {fname fqual : Str} {fkwd fdoc fmod : Value} {fann : Option Addr} {fct : Value} {kvs : List (Str × Value)}

theorem t_raise {v : Value} {e : Addr} {cls : String} (R : Room prog w A base) (G : G9 base mg mb fG fA u c P gd fname fqual fkwd fdoc fmod fann fct) (hk : Wd kvs) (hT : TabS P fqual tl) (X : Exc cls) (hcls : cls = "KeyError" ∨ cls = "IndexError")
    (hfr : A.frames = some [lawEnv nm L fa cd])
    (H : St base os₀ ((e, exN cls) :: (L, nsA m) :: (dW, dctA (strKind prog w) kvs) :: (tl ++ led)) s) (hx : m (Str.ofString "x") = some v) (hw : m (Str.ofString "words") = some (.ref dW)) (ha : m (Str.ofString "answer") = some .none) (he : m (Str.ofString "error") = some (.ref e))
    (h : ∀ m' tl' s', TabS P fqual tl' → St base os₀ ((L, nsA m') :: (tl' ++ led)) s' → Q .next s') :
    wpAny (model prog w) A (execs (turnB.drop 6) (lawEnv nm L fa cd)) Q E s := by
  have hu := R.units
  have hd := R.depth
  obtain ⟨oA, hoA, hdA⟩ := G.oA
  refine wpAny_execs_cons (Assign_Tuple (wpAny_Call_ofName (nm_g H G.gr.g G.ha (callWith_fn (evalArgs_plain (spliced_cons (nm_l H (.tail _ (.head _)) hx (spliced_cons (nm_l H (.tail _ (.head _)) hw (spliced_cons (nm_l H (.tail _ (.head _)) ha (spliced_cons (nm_l H (.tail _ (.head _)) he (spliced_nil ⟨⟨oA, _, H.keep _ _ hoA, hdA⟩, ?_⟩))))))))))))))
  have H₁ : St base os₀ (tl ++ ((e, exN cls) :: (L, nsA m) :: (dW, dctA (strKind prog w) kvs) :: led)) s := H.perm (List.perm_append_comm_assoc tl [_, _, _] led)
  refine ask_head (c := c) (P := P) (av := .none) (ev' := .ref e) G.gr hoA hdA G.cA G.C hT H₁ (by omega) fun L₁ f l c' doc ctv s₁ H₂ => ?_
  have H₂' := H₂.perm (List.perm_middle (l₁ := [_, _, _, _, _, _, _, _])).symm
  refine ask_tail_raise (e := e) (cls := cls) (fs := [lawEnv nm L fa cd]) (fcode := .ref c) (place := v) (av := .none) (dW := dW) (kvs := kvs) G.gr G.dg G.hg X G.n1 G.b1 G.n2 G.b2 hcls H₂' rfl rfl rfl (by k_mem) (by show A.depth + 1 + 3 < _; omega) R.handled (Around.frames_deeper hfr)
    (FramesOk.cons (fun env he => by cases he) (by intro q; cases q) rfl (.head _)) (hk.keys _ (by decide)) (hk.keys _ (by decide)) hk.nodup hk.len fun T t₁ d s₂ H₃ => ?_
  refine assign_Tuple_tuple (items := #[.ref e, .ref l]) R.handled (H₃.isTup (vs := [.ref e, .ref l]) (.head _)) rfl rfl fun h' hx' => ?_
  have H₄ := H₃.grown (tk := s₂.toks) hx'
  refine assignInOrder_cons (wpAny_assign_Name (st_l H₄ (by tb_start) fun s₃ H₅ => assignInOrder_cons (wpAny_assign_Name (st_l H₅ (by tb_start) fun s₄ H₆ => assignInOrder_nil ?_))))
  have hx₂ : (fun y => if y = Str.ofString "calls" then some (Value.ref l) else if y = Str.ofString "told" then some (.ref e) else m y) (Str.ofString "x") = some v := (if_neg (by decide)).trans ((if_neg (by decide)).trans hx)
  have hw₂ : (fun y => if y = Str.ofString "calls" then some (Value.ref l) else if y = Str.ofString "told" then some (.ref e) else m y) (Str.ofString "words") = some (.ref dW) := (if_neg (by decide)).trans ((if_neg (by decide)).trans hw)
  have he₂ : (fun y => if y = Str.ofString "calls" then some (Value.ref l) else if y = Str.ofString "told" then some (.ref e) else m y) (Str.ofString "error") = some (.ref e) := (if_neg (by decide)).trans ((if_neg (by decide)).trans he)
  have ht₂ : (fun y => if y = Str.ofString "calls" then some (Value.ref l) else if y = Str.ofString "told" then some (.ref e) else m y) (Str.ofString "told") = some (.ref e) := (if_neg (by decide)).trans (if_pos rfl)
  have hc₂ : (fun y => if y = Str.ofString "calls" then some (Value.ref l) else if y = Str.ofString "told" then some (.ref e) else m y) (Str.ofString "calls") = some (.ref l) := if_pos rfl
  generalize (fun y => if y = Str.ofString "calls" then some (Value.ref l) else if y = Str.ofString "told" then some (.ref e) else m y) = m₂ at hx₂ hw₂ he₂ ht₂ hc₂ H₆
  have H₇ : St base os₀ ((L, nsA m₂) :: (t₁, tupA [v, .ref d]) :: (d, dctA (strKind prog w) kvs) :: (l, lstA [.ref t₁]) :: (dW, dctA (strKind prog w) kvs) :: (P, tab1 c') :: (c', codeA (qualN fqual)) :: led) s₄ := by
    refine (H₆.sub (.cons _ (.refl _))).perm ?_
    none_booked
  refine t_kept R G hk H₇ hc₂ hx₂ hw₂ fun s₅ H₈ => ?_
  refine wpAny_execs_cons (wpAny_If (wpAny_isTrue_Compare1 (nm_l H₈ (.head _) he₂ (wpAny_Constant_none (isNot_none (wpAny_truthy_bool (ite_pos (by simp) ?_)))))))
  refine wpAny_execs_cons (wpAny_If (wpAny_isTrue_Compare1 (nm_l H₈ (.head _) ht₂ (nm_l H₈ (.head _) he₂ (wpAny_isNot_ref_self (wpAny_truthy_bool (ite_neg (by decide) ?_)))))))
  refine wpAny_execs_nil (wpAny_execs_nil ?_)
  refine t_blank R G hk H₈ hx₂ hw₂ fun s₉ H₁₃ => ?_
  exact h m₂ [(P, tab1 c'), (c', codeA (qualN fqual))] s₉ (.inr ⟨c', rfl⟩) H₁₃

theorem turn9 (R : Room prog w A base) (G : G9 base mg mb fG fA u c P gd fname fqual fkwd fdoc fmod fann fct) (hT : TabS P fqual tl) (hfr : A.frames = some [lawEnv nm L fa cd])
    (H : St base os₀ ((L, nsA m) :: (tl ++ led)) s) (hx : m (Str.ofString "x") = some (.int n t))
    (h : ∀ m' tl' s', TabS P fqual tl' → St base os₀ ((L, nsA m') :: (tl' ++ led)) s' → Q .next s') :
    wpAny (model prog w) A (execs turnB (lawEnv nm L fa cd)) Q E s := by
  refine t_words R H hx fun dW kvs s₁ hk H₁ => ?_
  have hx₁ : (fun y => if y = Str.ofString "words" then some (Value.ref dW) else m y) (Str.ofString "x") = some (.int n t) := (if_neg (by decide)).trans hx
  have hw₁ : (fun y => if y = Str.ofString "words" then some (Value.ref dW) else m y) (Str.ofString "words") = some (.ref dW) := if_pos rfl
  generalize (fun y => if y = Str.ofString "words" then some (Value.ref dW) else m y) = m₁ at hx₁ hw₁ H₁
  refine t_answer R G.gr G.hu G.n1 G.b1 G.n2 G.b2 (H₁.perm (.swap ..)) hx₁ ?_ ?_
  · intro av m' s₂ hs ha he hy H₂
    exact t_ret R G hk hT hs H₂ ((hy _ (by decide) (by decide)).trans hx₁) ((hy _ (by decide) (by decide)).trans hw₁) ha he h
  · intro e cls m' s₂ hc ha he hy H₂
    exact t_raise R G hk hT (by rcases hc with rfl | rfl; exact ⟨_, _, excClass_KeyError⟩; exact ⟨_, _, excClass_IndexError⟩) hc hfr H₂ ((hy _ (by decide) (by decide)).trans hx₁) ((hy _ (by decide) (by decide)).trans hw₁) ha he h
end
end Mine

namespace Mine
open PySem PySem.W PyProof.Rows PySem.Calls PySem.Spec
local macro_rules | `(tactic| none_booked) => `(tactic| (repeat (first | exact List.Perm.refl _ | refine Pick.perm (by (repeat (first | exact Pick.head | apply Pick.tail))) ?_)))
section
variable {prog : Program} {w : World} {A : Around} {E : Value → Shared → Prop} {s : Shared} {base : Heap} {os₀ : OsState} {led tl : Led} {mg mb : Str → Option Value} {nm : Str} {L fa fG fA u c P a : Addr} {cd : Value} {m : Str → Option Value} {Q : Flow → Shared → Prop}
  {gd : FuncData} {fname fqual : Str} {fkwd fdoc fmod : Value} {fann : Option Addr} {fct : Value} {vs : List Value}
theorem St.push2 (H : St base os₀ led s) {tk : Nat} {o₁ o : Obj} {P : Asn} (hf₁ : o₁.isFreed = false) (hf : o.isFreed = false) (hp : P o) : St base os₀ ((s.heap.objs.size + 1, P) :: led) { s with heap := (s.heap.push o₁).push o, toks := tk } := by
  have H₁ := H.push (tk := tk) (P := fun _ => True) hf₁ trivial
  have H₂ := H₁.push (tk := tk) (P := P) hf hp
  have e : (s.heap.push o₁).objs.size = s.heap.objs.size + 1 := Heap.size_push ..
  simp only [e] at H₂
  exact H₂.sub (.cons_cons _ (.cons _ (.refl _)))
def AllInt (vs : List Value) : Prop := ∀ v ∈ vs, ∃ n t, v = Value.int n t
theorem l_add {l b : Addr} {vs us : List Value} {Q : Value → Shared → Prop} (H : St base os₀ led s) (h1 : (l, lstA vs) ∈ led) (h2 : (b, lstA us) ∈ led) (hsz : vs.length + us.length ≤ sizeLine)
    (h : ∀ r s', St base os₀ ((r, lstA (vs ++ us)) :: led) s' → Q (.ref r) s') : wpAny (model prog w) A (binaryOp .Add (.ref l) (.ref b)) Q E s := by
  obtain ⟨o, ho, n, rfl⟩ := H.get h1
  obtain ⟨o', ho', n', rfl⟩ := H.get h2
  exact PySem.P.add_list ho ho' (h _ _ (H.push (tk := s.toks) rfl ⟨0, by simp⟩)) (by simpa using hsz)
/-- a slice from the front -/
theorem l_front {env : Env} {x : Str} {k : Nat} {i : Int} {p1 p2 p3 p4 : Pos} {Q : Value → Shared → Prop} (H : St base os₀ led s) (hm : (env.locals, nsA m) ∈ led) (hv : m x = some (.ref a)) (hl : base.IsList a vs.toArray) (hi : AllInt vs) (hsz : vs.length ≤ sizeLine)
    (h : ∀ r us s', AllInt us → us.length ≤ vs.length → St base os₀ ((r, lstA us) :: led) s' → Q (.ref r) s')
    (hk : env.scope.kind = .function := by rfl) (hx : env.kindOf x = some .local := by rfl) (hd : (x == ("__debug__" : Str)) = false := by decide) :
    wpAny (model prog w) A (eval (.Subscript (.Name x p1) (.Slice none (some (.Constant (.int i) k p2)) none p3) p4) env) Q E s := by
  refine wpAny_Subscript_list_slice (nm_l H hm hv (evalPart_none_step (evalPart_some_step (c_int H fun t s₁ H₁ => ⟨a, vs.toArray, none, some i, rfl, ?_, by simpa using hsz, .none, .int i t, ?_⟩))) hk hx hd)
  · obtain ⟨o, ho, r⟩ := hl; exact ⟨o, H₁.keep _ _ ho, r⟩
  · refine h _ (slicePick vs.toArray none (some i) none).toList _ ?_ ?_ (H₁.push2 (tk := s₁.toks) rfl rfl ⟨0, by simp⟩)
    · intro v hv
      unfold slicePick at hv
      simp only [List.mem_filterMap] at hv
      obtain ⟨j, _, hj⟩ := hv
      exact hi v (List.mem_of_getElem? (by simpa using hj))
    · have := slicePick_size_le vs.toArray none (some i) none
      simpa using this

theorem law9 (R : Room prog w A base) (G : G9 base mg mb fG fA u c P gd fname fqual fkwd fdoc fmod fann fct) (hfr : A.frames = some [lawEnv nm L fa cd])
    (H : St base os₀ [(L, nsA m), (P, tabA #[])] s) (hm : m (Str.ofString "script") = some (.ref a)) (hl : base.IsList a vs.toArray) (hi : AllInt vs) (hsz : vs.length ≤ 1000)
    (h : ∀ m' tl' s', TabS P fqual tl' → St base os₀ ((L, nsA m') :: tl') s' → Q (.ret (.bool true)) s') :
    wpAny (model prog w) A (execs (fnBody lawStmt) (lawEnv nm L fa cd)) Q E s := by
  refine wpAny_execs_cons (for_list (base := base) (os₀ := os₀) (fun i led => ∃ m tl, TabS P fqual tl ∧ led = (L, nsA m) :: tl) R.handled ?_)
  refine wpAny_BinOp (l_front H (.head _) hm hl hi (Nat.le_trans hsz (by decide)) fun r us s₁ hus hlen H₁ => ?_)
  refine List_ (wpAny_items_cons (c_int H₁ fun t1 s₂ H₂ => wpAny_items_cons (c_int H₂ fun t2 s₃ H₃ => wpAny_items_cons (c_int H₃ fun t3 s₄ H₄ => wpAny_items_cons (c_int H₄ fun t4 s₅ H₅ => wpAny_items_cons (c_int H₅ fun t5 s₆ H₆ => wpAny_items_cons (c_int H₆ fun t6 s₇ H₇ => wpAny_items_cons (c_int H₇ fun t7 s₈ H₈ => wpAny_items_nil (new_list H₈ (fun b s₉ H₉ => ?_) (by show 7 ≤ sizeLine; decide))))))))))
  have hsz' : us.length + 7 ≤ sizeLine := Nat.le_trans (m := 1007) (by omega) (by decide)
  refine l_add H₉ (.tail _ (.head _)) (.head _) hsz' fun q s₁₀ H₁₀ => ?_
  refine ⟨q, _, [(L, nsA m), (P, tabA #[])], rfl, H₁₀.sub (.cons_cons _ (.cons _ (.cons _ (.refl _)))), ⟨m, [(P, tabA #[])], .inl rfl, rfl⟩, ?_, ?_⟩
  · rintro I i v led s₁₁ E' hv ⟨m₁, tl, hT, rfl⟩ H₁₁
    have hint : ∃ n t, v = Value.int n t := by
      have hv := List.mem_of_getElem? hv
      rcases List.mem_append.mp hv with hv | hv
      · exact hus v hv
      · simp only [List.mem_cons, List.not_mem_nil, or_false] at hv
        rcases hv with rfl | rfl | rfl | rfl | rfl | rfl | rfl <;> exact ⟨_, _, rfl⟩
    obtain ⟨n, t, rfl⟩ := hint
    refine wpAny_assign_Name (st_l H₁₁ (.tail (.tail .head)) fun s₁₂ H₁₂ => ?_)
    have H₁₃ := H₁₂.perm (led' := (L, nsA fun y => if y = Str.ofString "x" then some (Value.int n t) else m₁ y) :: (tl ++ [(I, itA q (i + 1)), (q, lstA (us ++ [.int 6 t1, .int 13 t2, .int 20 t3, .int 3 t4, .int 4 t5, .int 5 t6, .int 11 t7]))])) (by
      refine (List.Perm.cons _ List.perm_append_comm).trans ?_
      exact List.perm_middle (l₁ := [_, _]) |>.symm)
    refine turn9 (n := n) (t := t) R G hT hfr H₁₃ (if_pos rfl) fun m' tl' s₁₄ hT' H₁₄ => ⟨(L, nsA m') :: tl', ⟨m', tl', hT', rfl⟩, H₁₄.perm ?_⟩
    refine (List.perm_middle (l₁ := [_, _])).trans ?_
    exact List.Perm.cons _ List.perm_append_comm
  · rintro led s₁₁ ⟨m₁, tl, hT, rfl⟩ H₁₁
    exact wpAny_execs_cons (wpAny_Return_some (wpAny_Constant_bool (h m₁ tl _ hT (H₁₁.sub (.cons _ (.refl _))))))
end
end Mine

namespace Mine
open PySem PySem.W PyProof.Rows PySem.Calls PySem.Spec
theorem allInt_of {vs : List Value} {ns : List Int} (h : IntsAre vs ns) : AllInt vs ∧ vs.length = ns.length := by
  induction h with
  | nil => exact ⟨fun v hv => (by cases hv), rfl⟩
  | cons n t _ ih =>
    refine ⟨fun v hv => ?_, by simp [ih.2]⟩
    rcases List.mem_cons.mp hv with rfl | hv
    · exact ⟨n, t, rfl⟩
    · exact ih.1 v hv
theorem good_true {l : OpenLaw} {cl : Str → Option Addr} {mean : ExcName → Option Value} {args : List WData} {s₁ s' : Shared} (hk : ∀ b o, s₁.heap.get? b = some o → s'.heap.get? b = some o) (ho : s'.os = s₁.os) (hg : s'.gens = #[]) :
    GoodW l.row.claim cl mean args s₁ (.ok (.ret (.bool true))) s' :=
  ⟨.inl ⟨.bool true, .bool true, [], rfl, fun _ => rfl, .bool true, by with_unfolding_all rfl, fun _ => ⟨.nil, fun a h => by cases h⟩⟩, hk, ho, hg⟩
theorem ghost_seer {h₁ : Heap} {tabs : List (Addr × Addr)} (hT : TabsAt tabs h₁) (S : h₁.NoSeer) : (ghostOf h₁ tabs).NoSeer := by
  obtain ⟨⟨mc, x1, r1⟩, ⟨mm, x2, r2⟩, ⟨mb, x3, r3⟩, ⟨mg, bm, ob, x4, r4, x5, r5, r6⟩⟩ := S
  exact ⟨⟨mc, ghost_ns hT x1, r1⟩, ⟨mm, ghost_ns hT x2, r2⟩, ⟨mb, ghost_ns hT x3, r3⟩, ⟨mg, bm, ob, ghost_ns hT x4, r4, ghost_get hT x5 (fun e => by rw [e] at r5; cases r5), r5, r6⟩⟩
theorem gr_of {p : Program} {loose : List Str} {mean : ExcName → Option Value} {mg mb : Str → Option Value} {h : Heap} (T : Top p loose mean mg mb h) (S : h.NoSeer) : Gr h mg mb := by
  obtain ⟨mm, ⟨o, es, ep, ho, _⟩, _⟩ := S.mods
  exact ⟨T.g, T.b, T.nolimit, ⟨o, ho⟩, T.bmain⟩
theorem room_of {prog : Program} {w : World} {base : Heap} {env : Env} {p : Program} {loose : List Str} {mean : ExcName → Option Value} {mg mb : Str → Option Value} (T : Top p loose mean mg mb base) (S : base.NoSeer) (ht : prog.given.tree = none) (h1 : env.scope.isGenerator = false) (h2 : env.scope.isCoroutine = false) (h3 : env.builtins = builtinsNs) (h4 : env.globals = mainGlobals) : Room prog w (callerA.deeper env) base where
  depth := of_decide_eq_true (by with_unfolding_all rfl)
  units := of_decide_eq_true (by with_unfolding_all rfl)
  handled := rfl
  pylong := fun s hk => PylongRoom.of (T.nolimit.keeps hk) (of_decide_eq_true (by with_unfolding_all rfl)) (PySem.SeerAt.of (S.keeps hk) ht rfl h1 h2 h3 h4)
theorem st_top {base : Heap} {s : Shared} {L P : Addr} {m : Str → Option Value} (F : Fr base L s.heap m) (N : News base L s.heap [(P, tabObj #[])]) (hg : s.gens = #[]) (hL : base.get? L = none) : St base s.os [(L, nsA m), (P, tabA #[])] s where
  keep := F.keep
  nd := by
    have := (N _ (.head _)).2.1
    simp only [List.map_cons, List.map_nil, List.nodup_cons, List.mem_singleton, List.not_mem_nil, not_false_eq_true, List.nodup_nil, and_true]
    exact fun e => this e.symm
  has := fun p hp => by
    rcases List.mem_cons.mp hp with rfl | hp
    · exact nsA_of F.ns
    · rcases List.mem_cons.mp hp with rfl | hp
      · exact ⟨_, (N _ (.head _)).1, rfl⟩
      · cases hp
  new := fun p hp => by
    rcases List.mem_cons.mp hp with rfl | hp
    · exact hL
    · rcases List.mem_cons.mp hp with rfl | hp
      · exact (N _ (.head _)).2.2
      · cases hp
  gens := hg
  os := rfl
theorem top9 {prog : Program} {w : World} {K : Frag} {base : Heap} {s s₁ : Shared} {p : Program} {loose : List Str} {mean : ExcName → Option Value} {mg mb : Str → Option Value} {m : Str → Option Value} {nm : Str} {L fa a : Addr} {cd : Value} {vs : List Value} {ns : List Int} {E : Value → Shared → Prop}
    {l : OpenLaw} {cl : Str → Option Addr} {mean' : ExcName → Option Value} {args : List WData}
    {u : Addr} {gd : FuncData} {fname fqual : Str} {fkwd fdoc fmod : Value} {fann : Option Addr} {fct : Value}
    (T : Top p loose mean mg mb base) (S : base.NoSeer) (F : Fr base L s.heap m) (N : News base L s.heap [(46, tabObj #[])]) (C : CodeHd base 50 46) (hl : base.IsList a vs.toArray) (hi : IntsAre vs ns) (hn : ¬ (63 : Int) < (ns.length : Int)) (hm : m (Str.ofString "script") = some (.ref a)) (X : K.In base)
    (hL : base.get? L = none) (ht : prog.given.tree = none)
    (e1 : nsIn K mainGlobals (Str.ofString "_get_name_info") = some (some (.ref 44))) (e2 : nsIn K mainGlobals (Str.ofString "_law_asked") = some (some (.ref 51))) (e3 : nsIn K mainGlobals (Str.ofString "UNKNOWN") = some (some (.ref u)))
    (n1 : nsIn K mainGlobals (Str.ofString "KeyError") = some none) (n2 : nsIn K mainGlobals (Str.ofString "IndexError") = some none) (n3 : nsIn K mainGlobals (Str.ofString "isinstance") = some none) (n4 : nsIn K mainGlobals (Str.ofString "tuple") = some none) (n5 : nsIn K mainGlobals (Str.ofString "len") = some none)
    (DG : IsDef base 44 gniStmt gd) (oA : ∃ o, base.get? 51 = some o ∧ o.data = .func (askFd fname fqual fkwd fdoc fmod fann (.ref 50) fct)) (cA : base.CodeRec (.ref 50) fqual)
    (hb : s₁.heap = base) (hos : s.os = s₁.os) (hgens : s.gens = #[]) :
    wpAny (model prog w) (callerA.deeper (lawEnv nm L fa cd)) (execs (fnBody lawStmt) (lawEnv nm L fa cd))
      (fun f s' => GoodW l.row.claim cl mean' args s₁ (.ok (.ret (match f with | .ret v => v | _ => .none))) s' ∧ GrownAll [(50, 46)] s'.heap) E s := by
  have bt : ∀ (x : Str) v, x ≠ "__name__" → bootBuiltins x = some v → mb x = some v := fun x v hx hv => (T.builtins x hx).trans hv
  have G : G9 base mg mb 44 51 u 50 46 gd fname fqual fkwd fdoc fmod fann fct :=
    ⟨gr_of T S, DG, mg_of X T.g e1, mg_of X T.g e2, mg_of X T.g e3, oA, cA, C, mg_none_of X T.g n1, mg_none_of X T.g n2, mg_none_of X T.g n3, mg_none_of X T.g n4, mg_none_of X T.g n5,
      bt _ _ (by decide) (by kernel_rfl), bt _ _ (by decide) (by kernel_rfl), bt _ _ (by decide) (by kernel_rfl), bt _ _ (by decide) (by kernel_rfl), bt _ _ (by decide) (by kernel_rfl)⟩
  obtain ⟨hai, hlen⟩ := allInt_of hi
  refine law9 (room_of T S ht rfl rfl rfl rfl) G rfl (st_top F N hgens hL) hm hl hai (by omega) fun m' tl' s' hT H => ⟨good_true (fun b o e => H.keep b o (hb ▸ e)) (H.os.trans hos) H.gens, ?_, trivial⟩
  rcases hT with rfl | ⟨c', rfl⟩
  · obtain ⟨o, ho, rfl⟩ := H.get (a := 46) (P := tabA #[]) (.tail _ (.head _)); exact ⟨_, ho⟩
  · obtain ⟨o, ho, rfl⟩ := H.get (a := 46) (P := tab1 c') (.tail _ (.head _)); exact ⟨_, ho⟩
end Mine

open PySem PySem.W PyProof.Rows
set_option maxRecDepth 100000 in
set_option maxHeartbeats 8000000 in
theorem PySem.Challenge.cw_dm0069_09_holds : PySem.Challenge.rw_dm0069_09.Holds := by
  (w_on; o_law; k_head; (case hw => w_witness2); w_strict (k_go0; (
    have X := ‹Frag.In _ (ghostOf _ _)›
    have F := ‹Fr (ghostOf _ _) _ _ _›
    have hL := Heap.get?_none_of_le F.above
    refine Mine.top9 (l := PySem.Challenge.rw_dm0069_09) (K := _) (u := 37) ‹Top _ _ _ _ _ (ghostOf _ _)› (Mine.ghost_seer ‹TabsAt _ _› (Top.seer ‹Top _ (looseW _ _) _ _ _ _› (by decide +kernel))) F ‹News (ghostOf _ _) _ _ _› ‹CodeHd (ghostOf _ _) _ _› ‹Heap.IsList (ghostOf _ _) _ _› ‹IntsAre _ _› (by assumption) rfl X hL rfl
      (by k_is) (by k_is) (by k_is) (by k_is) (by k_is) (by k_is) (by k_is) (by k_is)
      ⟨⟨_, X 44 _ rfl, rfl⟩, rfl, rfl, rfl, rfl, rfl, rfl, rfl, ⟨43, _, _, _, rfl, X 43 _ rfl, rfl, rfl⟩⟩
      ⟨_, X 51 _ rfl, rfl⟩ ⟨50, _, _, _, rfl, X 50 _ rfl, rfl, rfl⟩ rfl rfl ‹_ = #[]›)))
