import PyProof.Rows.All
import Wide.All
import OpenK.AllK
import Wide.FinOn
import PySem.Challenge.RW_dm0069_12
set_option Elab.async false
set_option maxRecDepth 100000
set_option linter.unusedVariables false
namespace Mine
open PySem PySem.W PyProof.Rows PySem.Calls PySem.Spec

/-- what is said of an object -/
abbrev Asn := Obj → Prop
abbrev Led := List (Addr × Asn)

structure St (base : Heap) (os₀ : OsState) (led : Led) (s : Shared) : Prop where
  keep : ∀ b o, base.get? b = some o → s.heap.get? b = some o
  nd : (led.map (·.1)).Nodup
  has : ∀ p ∈ led, ∃ o, s.heap.get? p.1 = some o ∧ p.2 o
  new : ∀ p ∈ led, base.get? p.1 = none
  gens : s.gens = #[]
  os : s.os = os₀

/-- one entry of the ledger changes what is said of it -/
inductive Up (a : Addr) (P P' : Asn) : Led → Led → Prop
  | head {l} : Up a P P' ((a, P) :: l) ((a, P') :: l)
  | tail {q l l'} : Up a P P' l l' → Up a P P' (q :: l) (q :: l')

namespace Up
variable {a : Addr} {P P' : Asn} {l l' : Led}
theorem keys (u : Up a P P' l l') : l'.map (·.1) = l.map (·.1) := by
  induction u with
  | head => rfl
  | tail _ ih => simp [ih]
theorem mem (u : Up a P P' l l') : (a, P) ∈ l := by
  induction u with
  | head => exact .head _
  | tail _ ih => exact .tail _ ih
theorem split (u : Up a P P' l l') (nd : (l.map (·.1)).Nodup) : ∀ p ∈ l', (p.1 = a ∧ p = (a, P')) ∨ (p.1 ≠ a ∧ p ∈ l) := by
  induction u with
  | head =>
    intro p hp
    simp only [List.map_cons, List.nodup_cons] at nd
    rcases List.mem_cons.mp hp with rfl | hp
    · exact .inl ⟨rfl, rfl⟩
    · exact .inr ⟨fun e => nd.1 (e ▸ List.mem_map_of_mem hp), .tail _ hp⟩
  | @tail q l l' u ih =>
    intro p hp
    simp only [List.map_cons, List.nodup_cons] at nd
    rcases List.mem_cons.mp hp with rfl | hp
    · refine .inr ⟨fun e => nd.1 ?_, .head _⟩
      rw [e]; exact List.mem_map_of_mem (f := (·.1)) u.mem
    · rcases ih nd.2 p hp with h | h
      · exact .inl h
      · exact .inr ⟨h.1, .tail _ h.2⟩
end Up

section
variable {base : Heap} {os₀ : OsState} {led led' : Led} {s : Shared} {a : Addr} {P P' : Asn}

theorem St.ext (H : St base os₀ led s) {h' : Heap} {tk : Nat} (hk : ∀ b o, s.heap.get? b = some o → h'.get? b = some o) : St base os₀ led { s with heap := h', toks := tk } where
  keep := fun b o e => hk b o (H.keep b o e)
  nd := H.nd
  has := fun p hp => let ⟨o, ho, hP⟩ := H.has p hp; ⟨o, hk _ _ ho, hP⟩
  new := H.new
  gens := H.gens
  os := H.os
theorem St.tok (H : St base os₀ led s) {tk : Nat} : St base os₀ led { s with toks := tk } := H.ext fun _ _ e => e
theorem St.newAt (H : St base os₀ led s) {n : Nat} (hn : s.heap.objs.size ≤ n) : base.get? n = none := by
  cases e : base.get? n with
  | none => rfl
  | some o => exact absurd (Heap.lt_size (H.keep _ _ e)) (Nat.not_lt.mpr hn)
/-- a new object behind a heap that has grown -/
theorem St.more (H : St base os₀ led s) {h' : Heap} {tk n : Nat} {o : Obj} (hk : ∀ b o, s.heap.get? b = some o → h'.get? b = some o) (hn : s.heap.objs.size ≤ n) (ho : h'.get? n = some o) (hp : P o) :
    St base os₀ ((n, P) :: led) { s with heap := h', toks := tk } where
  keep := fun b o e => hk b o (H.keep b o e)
  nd := by
    simp only [List.map_cons, List.nodup_cons]
    refine ⟨fun h => ?_, H.nd⟩
    obtain ⟨p, hp', e⟩ := List.mem_map.mp h
    obtain ⟨o', ho', _⟩ := H.has p hp'
    have := Heap.lt_size ho'
    rw [e] at this
    exact absurd this (Nat.not_lt.mpr hn)
  has := fun p hp' => by
    rcases List.mem_cons.mp hp' with rfl | hp'
    · exact ⟨o, ho, hp⟩
    · obtain ⟨o', ho', hP⟩ := H.has p hp'; exact ⟨o', hk _ _ ho', hP⟩
  new := fun p hp' => by
    rcases List.mem_cons.mp hp' with rfl | hp'
    · exact H.newAt hn
    · exact H.new p hp'
  gens := H.gens
  os := H.os
theorem St.push (H : St base os₀ led s) {tk : Nat} {o : Obj} (hf : o.isFreed = false) (hp : P o) : St base os₀ ((s.heap.objs.size, P) :: led) { s with heap := s.heap.push o, toks := tk } :=
  H.more (fun _ _ e => Heap.get?_push_of_some _ e) (Nat.le_refl _) (Heap.get?_push_size _ hf) hp
/-- an entry changed, the heap grown perhaps -/
theorem St.upd (H : St base os₀ led s) (U : Up a P P' led led') {h' : Heap} {tk : Nat} (hx : Heap.ExtBut a s.heap h') (hp : ∃ o, h'.get? a = some o ∧ P' o) : St base os₀ led' { s with heap := h', toks := tk } where
  keep := fun b o e => hx b o (fun q => by have := H.new _ U.mem; rw [← q, e] at this; cases this) (H.keep b o e)
  nd := U.keys ▸ H.nd
  has := fun p hp' => by
    rcases U.split H.nd p hp' with ⟨_, rfl⟩ | ⟨hne, hm⟩
    · exact hp
    · obtain ⟨o, ho, hP⟩ := H.has p hm; exact ⟨o, hx _ _ hne ho, hP⟩
  new := fun p hp' => by
    rcases U.split H.nd p hp' with ⟨_, rfl⟩ | ⟨_, hm⟩
    · exact H.new (a, P) U.mem
    · exact H.new p hm
  gens := H.gens
  os := H.os
theorem St.sub (H : St base os₀ led s) (h : led'.Sublist led) : St base os₀ led' s where
  keep := H.keep
  nd := H.nd.sublist (h.map _)
  has := fun p hp => H.has p (h.subset hp)
  new := fun p hp => H.new p (h.subset hp)
  gens := H.gens
  os := H.os
theorem St.perm (H : St base os₀ led s) (h : led'.Perm led) : St base os₀ led' s where
  keep := H.keep
  nd := (h.map _).nodup_iff.mpr H.nd
  has := fun p hp => H.has p (h.mem_iff.mp hp)
  new := fun p hp => H.new p (h.mem_iff.mp hp)
  gens := H.gens
  os := H.os
theorem St.get (H : St base os₀ led s) (hm : (a, P) ∈ led) : ∃ o, s.heap.get? a = some o ∧ P o := H.has _ hm
theorem St.ne {b : Addr} {R : Asn} (H : St base os₀ ((a, P) :: led) s) (hm : (b, R) ∈ led) : b ≠ a := fun e => by
  have := H.nd
  simp only [List.map_cons, List.nodup_cons] at this
  exact this.1 (e ▸ List.mem_map_of_mem (f := (·.1)) hm)
end

/-! the kinds of objects -/
def nsA (m : Str → Option Value) : Asn := fun o => ∃ es ep, o.data = .dict es ep ∧ StrKeys es ∧ ∀ n, nsFind es n = m n
def lstA (vs : List Value) : Asn := fun o => ∃ n, o = { cls := .type "list", data := .seq vs.toArray n }
def tupA (vs : List Value) : Asn := fun o => ∃ n, o = { cls := .type "tuple", data := .seq vs.toArray n }
def celA (v : Option Value) : Asn := fun o => o.data = .cell v
def objA (o₀ : Obj) : Asn := fun o => o = o₀
section
variable {prog : Program} {w : World} {K : Type} [DecidableEq K]
def dctA (knd : KeyKind prog w K) (kvs : List (K × Value)) : Asn := fun o => ∃ es ep, o.ExactDict ∧ o.data = .dict es ep ∧ KeysOf knd es ∧ Pairs knd es.toList kvs ∧ (kvs.map (·.1)).Nodup
end

section
variable {base : Heap} {os₀ : OsState} {led led' : Led} {s : Shared} {a : Addr}
theorem St.ns (H : St base os₀ led s) {m : Str → Option Value} (hm : (a, nsA m) ∈ led) : s.heap.Ns a m := by
  obtain ⟨o, ho, es, ep, r⟩ := H.get hm; exact ⟨o, es, ep, ho, r⟩
theorem nsA_of {h : Heap} {m : Str → Option Value} (x : h.Ns a m) : ∃ o, h.get? a = some o ∧ nsA m o := by
  obtain ⟨o, es, ep, ho, r⟩ := x; exact ⟨o, ho, es, ep, r⟩
theorem St.isList (H : St base os₀ led s) {vs : List Value} (hm : (a, lstA vs) ∈ led) : s.heap.IsList a vs.toArray := by
  obtain ⟨o, ho, n, rfl⟩ := H.get hm; exact ⟨_, ho, rfl, n, rfl⟩
theorem St.isTup (H : St base os₀ led s) {vs : List Value} (hm : (a, tupA vs) ∈ led) : IsTup s.heap a vs.toArray := by
  obtain ⟨o, ho, n, rfl⟩ := H.get hm; exact ⟨_, ho, rfl, n, rfl⟩
theorem St.isDict {prog : Program} {w : World} {K : Type} [DecidableEq K] {knd : KeyKind prog w K} {kvs : List (K × Value)} (H : St base os₀ led s) (hm : (a, dctA knd kvs) ∈ led) : s.heap.DictOf knd a kvs := by
  obtain ⟨o, ho, es, ep, r⟩ := H.get hm; exact ⟨o, es, ep, ho, r⟩
theorem dctA_of {prog : Program} {w : World} {K : Type} [DecidableEq K] {knd : KeyKind prog w K} {kvs : List (K × Value)} {h : Heap} (x : h.DictOf knd a kvs) : ∃ o, h.get? a = some o ∧ dctA knd kvs o := by
  obtain ⟨o, es, ep, ho, r⟩ := x; exact ⟨o, ho, es, ep, r⟩
theorem St.isCell (H : St base os₀ led s) {v : Option Value} (hm : (a, celA v) ∈ led) : s.heap.IsCell a v := by
  obtain ⟨o, ho, r⟩ := H.get hm; exact ⟨o, ho, r⟩
end

section
variable {M : Model} {A : Around} {E : Value → Shared → Prop} {s : Shared} {env : Env} {base : Heap} {os₀ : OsState} {led led' : Led} {x : Str} {v : Value} {pos : Pos} {k : Nat}

theorem nm_l {Q : Value → Shared → Prop} {m : Str → Option Value} (H : St base os₀ led s) (hm : (env.locals, nsA m) ∈ led) (hv : m x = some v) (h : Q v s)
    (hk : env.scope.kind = .function := by rfl) (hx : env.kindOf x = some .local := by rfl) (hd : (x == ("__debug__" : Str)) = false := by decide) :
    wpAny M A (eval (.Name x pos) env) Q E s := wpAny_Name (wpAny_loadName_local hk hx (H.ns hm) hv h) hd
theorem nm_c {Q : Value → Shared → Prop} {c : Addr} (H : St base os₀ led s) (hc : env.cells.lookup x = some c) (hm : (c, celA (some v)) ∈ led) (h : Q v s)
    (hk : env.scope.kind = .function := by rfl) (hx : env.kindOf x = some .cell := by rfl) (hd : (x == ("__debug__" : Str)) = false := by decide) :
    wpAny M A (eval (.Name x pos) env) Q E s := wpAny_Name (wpAny_loadName_cell hk hx hc (H.isCell hm) h) hd
theorem nm_f {Q : Value → Shared → Prop} {c : Addr} (H : St base os₀ led s) (hc : env.cells.lookup x = some c) (hm : (c, celA (some v)) ∈ led) (h : Q v s)
    (hk : env.scope.kind = .function := by rfl) (hx : env.kindOf x = some .free := by rfl) (hd : (x == ("__debug__" : Str)) = false := by decide) (hn : (x == ("__classdict__" : Str)) = false := by decide) :
    wpAny M A (eval (.Name x pos) env) Q E s := wpAny_Name (wpAny_loadName_free hk hx hc (H.isCell hm) h hn) hd
theorem nm_g {Q : Value → Shared → Prop} {mg : Str → Option Value} (H : St base os₀ led s) (hg : base.Ns env.globals mg) (hv : mg x = some v) (h : Q v s)
    (hk : env.scope.kind = .function := by rfl) (hx : env.kindOf x = some .globalImplicit := by rfl) (hd : (x == ("__debug__" : Str)) = false := by decide) :
    wpAny M A (eval (.Name x pos) env) Q E s := Name_function_global hk hx (loadGlobal_global (hg.keeps H.keep) hv h) hd
theorem nm_b {Q : Value → Shared → Prop} {mg mb : Str → Option Value} (H : St base os₀ led s) (hg : base.Ns env.globals mg) (hb : base.Ns env.builtins mb) (hv : mg x = none) (hvb : mb x = some v) (h : Q v s)
    (hk : env.scope.kind = .function := by rfl) (hx : env.kindOf x = some .globalImplicit := by rfl) (hd : (x == ("__debug__" : Str)) = false := by decide) :
    wpAny M A (eval (.Name x pos) env) Q E s := Name_function_global hk hx (loadGlobal_builtin (hg.keeps H.keep) hv (hb.keeps H.keep) hvb h) hd

theorem st_l {Q : Unit → Shared → Prop} {m : Str → Option Value} (H : St base os₀ led s) (U : Up env.locals (nsA m) (nsA fun y => if y = x then some v else m y) led led')
    (h : ∀ s', St base os₀ led' s' → Q () s')
    (hk : env.scope.kind = .function := by rfl) (hx : env.kindOf x = some .local := by rfl) :
    wpAny M A (storeName env x v) Q E s :=
  wpAny_storeName_local hx (H.ns U.mem) (fun h' hn hs => h _ (H.upd U hs.extBut (nsA_of hn))) (by rw [hk]; rfl)
theorem st_c {Q : Unit → Shared → Prop} {c : Addr} {v₀ : Option Value} (H : St base os₀ led s) (hc : env.cells.lookup x = some c) (U : Up c (celA v₀) (celA (some v)) led led')
    (h : ∀ s', St base os₀ led' s' → Q () s')
    (hk : env.scope.kind = .function := by rfl) (hx : env.kindOf x = some .cell := by rfl) :
    wpAny M A (storeName env x v) Q E s :=
  wpAny_storeName_cell hk hx hc (H.isCell U.mem) fun h' hv hs => h _ (H.upd (tk := s.toks) U hs.extBut (let ⟨o, ho, hd⟩ := hv; ⟨o, ho, hd⟩))

theorem c_int {Q : Value → Shared → Prop} {i : Int} (H : St base os₀ led s) (h : ∀ t s', St base os₀ led s' → Q (.int i t) s') : wpAny M A (eval (.Constant (.int i) k pos) env) Q E s :=
  wpAny_Constant_int (h _ _ H.tok)
theorem c_str {Q : Value → Shared → Prop} (H : St base os₀ led s) (h : ∀ t s', St base os₀ led s' → Q (.str x t) s') : wpAny M A (eval (.Constant (.str x) k pos) env) Q E s :=
  wpAny_Constant_str (h _ _ H.tok)

theorem new_list {Q : Value → Shared → Prop} {vs : List Value} (H : St base os₀ led s) (h : ∀ a s', St base os₀ ((a, lstA vs) :: led) s' → Q (.ref a) s') (hsz : vs.length ≤ sizeLine := by size_fits) :
    wpAny M A (newList vs) Q E s := wpAny_newObj_type (h _ _ (H.push rfl ⟨_, rfl⟩)) (by show vs.toArray.size ≤ sizeLine; rw [List.size_toArray]; exact hsz)
theorem new_tuple {Q : Value → Shared → Prop} {vs : List Value} (H : St base os₀ led s) (h : ∀ a s', St base os₀ ((a, tupA vs) :: led) s' → Q (.ref a) s') (hsz : vs.length ≤ sizeLine := by size_fits) :
    wpAny M A (newTuple vs) Q E s := wpAny_newObj_type (h _ _ (H.push rfl ⟨_, rfl⟩)) (by show vs.toArray.size ≤ sizeLine; rw [List.size_toArray]; exact hsz)
end
end Mine

namespace Mine
open PySem PySem.W PyProof.Rows PySem.Calls PySem.Spec
section
variable {prog : Program} {w : World} {A : Around} {E : Value → Shared → Prop} {s : Shared}
theorem dictPut_new {d : Addr} {od : Obj} {es : Array DictEntry} {ed : Nat} {k : Str} {e : DictEntry} {Q : Unit → Shared → Prop}
    (hd : s.heap.get? d = some od) (hdd : od.data = .dict es ed) (hcd : od.ExactDict) (hk : KeysOf (strKind prog w) es) (he : (strKind prog w).is k e.key = true) (hh : e.hash = (strKind prog w).hash k)
    (hn : es.findIdx? (fun e => (strKind prog w).is k e.key) = none) (hz : es.size ≤ sizeLine)
    (h : ∀ h', Heap.SameBut d s.heap h' → (∃ o ep', h'.get? d = some o ∧ o.ExactDict ∧ o.data = .dict (es.push e) ep') → Q () { s with heap := h' }) :
    wpAny (model prog w) A (dictPut d e.hash e.key e.val) Q E s := by
  unfold dictPut
  rw [hh]
  refine wpAny_bind (wpAny_dictFind_of he hd hdd hk ?_)
  rw [hn]
  refine wpAny_updateDictKeys hd hdd (h _ (Heap.SameBut.update ..) ⟨_, ed + 1, Heap.get?_update_self _ hd (Obj.isFreed_of_dict (Obj.data_mapDictKeys hdd _)), hcd.mapDictKeys _, ?_⟩) hz
  rw [Obj.data_mapDictKeys hdd, ← hh]
theorem merge_raw {a d : Addr} {oa od : Obj} {es : Array DictEntry} {ep ed : Nat} {kvs : List (Str × Value)} {Q : Unit → Shared → Prop} (ha : s.heap.get? a = some oa) (hda : oa.data = .dict es ep) (hca : oa.ExactDict)
    (hd : s.heap.get? d = some od) (hdd : od.data = .dict #[] ed) (hcd : od.ExactDict) (hne : a ≠ d) (hk : KeysOf (strKind prog w) es) (hp : Pairs (strKind prog w) es.toList kvs) (hnd : (kvs.map (·.1)).Nodup) (hsys : (a == sysModules) = false)
    (hz : kvs.length ≤ sizeLine)
    (h : ∀ h', Heap.SameBut d s.heap h' → (∃ o ep', h'.get? d = some o ∧ o.ExactDict ∧ o.data = .dict es ep') → Q () { s with heap := h' }) :
    wpAny (model prog w) A (mergeMapping d (.ref a) true) Q E s := by
  have hT : s.TypeIs (.ref a) "dict" := ⟨oa, ha, hca.1⟩
  unfold mergeMapping
  refine wpAny_bind (wpAny_isInstance hT (b := true) (by kernel_rfl) ?_)
  simp only [if_true]
  refine wpAny_bind (wpAny_specialOf hT PySem.F.slot_dict_iter.lookup (wpAny_bind (wpAny_pure ?_)))
  simp only [beq_self_eq_true, hsys, Bool.false_eq_true, if_false]
  refine wpAny_bind (wpAny_dictEntries hd hdd ?_)
  simp only [Array.isEmpty_empty, if_true]
  refine wpAny_bind (wpAny_dictEntries ha hda ?_)
  have hloop : (forIn es PUnit.unit fun (e : DictEntry) (__s : PUnit) =>
      (match e.key with
      | Value.ref _ => do
        let __do_lift ← specialOf e.key (Str.ofString "__eq__")
        if (__do_lift != some (Value.builtin "object.__eq__")) = true then
            if (Array.filter (fun x => x.hash == e.hash) es).size > 1 then do
              unsupported "dict.merge-into-an-empty-dict:keys-of-equal-hash"
              pure (ForInStep.yield PUnit.unit)
            else pure (ForInStep.yield PUnit.unit)
          else pure (ForInStep.yield PUnit.unit)
      | _ => pure (ForInStep.yield PUnit.unit) : Sem (ForInStep PUnit))) = pure PUnit.unit := by
    rw [← Array.forIn_toList]
    refine forIn_yield_id _ fun e he c => ?_
    obtain ⟨k, h1, _⟩ := hk e (by simpa using he)
    obtain ⟨t, ht⟩ := Value.isStrOf_shape h1
    rw [ht]
  refine wpAny_bind (wpAny_of_eq hloop ?_)
  refine wpAny_bind (wpAny_dictEntries ha hda ?_)
  refine wpAny_bind (wpAny_dictEpoch ha hda ?_)
  have hlen : es.size = kvs.length := by have := hp.length; simpa using this
  refine wpAny_bind (wpAny_forIn_list _ (fun rest _ s' => ∃ i h', rest = List.range' i (es.size - i) ∧ i ≤ es.size ∧ s' = { s with heap := h' } ∧ Heap.SameBut d s.heap h' ∧
    ∃ o ep', h'.get? d = some o ∧ o.ExactDict ∧ o.data = .dict (es.extract 0 i) ep') _ ?_ ?_ _ _ ⟨0, s.heap, by rw [List.range_eq_range', Nat.sub_zero], Nat.zero_le _, rfl, Heap.SameBut.refl .., od, ed, hd, hcd, by rw [hdd]; simp⟩)
  · rintro x rest _ s' ⟨i, h', hr, hi, rfl, hs, o, ep', ho, hoc, hod⟩
    have hlt : i < es.size := by
      rcases Nat.lt_or_ge i es.size with q | q
      · exact q
      · rw [Nat.sub_eq_zero_of_le q] at hr; cases hr
    obtain ⟨m, hm⟩ : ∃ m, es.size - i = m + 1 := ⟨es.size - i - 1, by omega⟩
    rw [hm, List.range'_succ] at hr
    injection hr with hx hr
    subst hx
    have ha' : h'.get? a = some oa := (hs.2 a hne).trans ha
    refine wpAny_bind (wpAny_dictEntries (s := { s with heap := h' }) ha' hda ?_)
    rw [Array.getElem?_eq_getElem hlt]
    refine wpAny_bind (wpAny_holding ?_)
    obtain ⟨k, hk1, hk2⟩ := hk es[x] (Array.getElem_mem hlt)
    have hkx : KeysOf (strKind prog w) (es.extract 0 x) := fun e he => hk e (by
      obtain ⟨j, hj, rfl⟩ := Array.mem_iff_getElem.mp he
      rw [Array.getElem_extract]; exact Array.getElem_mem _)
    have hnone : (es.extract 0 x).findIdx? (fun e => (strKind prog w).is k e.key) = none := by
      rw [Array.findIdx?_eq_none_iff]
      intro e he
      obtain ⟨j, hj, rfl⟩ := Array.mem_iff_getElem.mp he
      rw [Array.getElem_extract]
      have hj' : j < x := by simp at hj; omega
      have hjl : j < es.size := by omega
      cases q : (strKind prog w).is k (es[0 + j]'(by omega)).key with
      | false => rfl
      | true =>
        exfalso
        have h1 := (hp.get? (i := x) (e := es[x]) (by simp [hlt]) (k := (kvs[x]'(by omega)).1) (v := (kvs[x]'(by omega)).2) (by simp [hlen ▸ hlt])).1
        have h2 := (hp.get? (i := j) (e := es[j]) (by simp [hjl]) (k := (kvs[j]'(by omega)).1) (v := (kvs[j]'(by omega)).2) (by simp [hlen ▸ hjl])).1
        have q' : (strKind prog w).is k es[j].key = true := by simpa using q
        have e1 := (strKind prog w).inj _ _ _ h1 hk1
        have e2 := (strKind prog w).inj _ _ _ h2 q'
        refine List.pairwise_iff_getElem.mp hnd j x (by simp; omega) (by simp; omega) hj' ?_
        simp [e1, e2]
    have hzx : (es.extract 0 x).size ≤ sizeLine := by simp; omega
    show wpAny _ _ (dictFind d es[x].key es[x].hash >>= _) _ _ _
    rw [hk2]
    refine wpAny_bind (wpAny_dictFind_of (s := { s with heap := h' }) hk1 ho hod hkx ?_)
    rw [hnone]
    simp only [Option.isSome_none, Bool.false_eq_true, if_false]
    rw [← hk2]
    refine dictPut_new (s := { s with heap := h' }) ho hod hoc hkx hk1 hk2 hnone hzx fun h'' hs'' ho'' => ?_
    refine wpAny_bind (wpAny_dictEpoch (s := { s with heap := h'' }) ((hs''.2 a hne).trans ha') hda ?_)
    simp only [bne_self_eq_false, Bool.false_eq_true, if_false]
    refine wpAny_pure ⟨x + 1, h'', ?_, hlt, rfl, hs.trans hs'', ?_⟩
    · rw [hr]; congr 1; omega
    · obtain ⟨o', ep'', h1, h2, h3⟩ := ho''
      refine ⟨o', ep'', h1, h2, ?_⟩
      rw [h3]
      congr 1
      apply Array.ext'
      simp [List.take_add_one, hlt]
  · rintro _ s' ⟨i, h', hr, hi, rfl, hs, o, ep', ho, hoc, hod⟩
    have : i = es.size := by
      rcases Nat.lt_or_ge i es.size with q | q
      · obtain ⟨m, hm⟩ : ∃ m, es.size - i = m + 1 := ⟨es.size - i - 1, by omega⟩
        rw [hm, List.range'_succ] at hr; cases hr
      · omega
    subst this
    exact wpAny_pure (h h' hs ⟨o, ep', ho, hoc, by rw [hod]; simp⟩)

theorem callWith_fn {f : Addr} {first : List Value} {pos : Pos} {Q : Value → Shared → Prop} {args : List (Bool × Sem Value)} {kws : List (Option Str × Sem Value)}
    (h : wpAny (model prog w) A (evalArgs (.ref f) true args kws) (fun a s₁ => (∃ o fd, s₁.heap.get? f = some o ∧ o.data = .func fd) ∧ wpAny (model prog w) A (call (.ref f) (first ++ a.pos) a.kw) Q E s₁) E s) :
    wpAny (model prog w) A (callWith pos (.ref f) first args kws) Q E s := by
  unfold callWith
  refine wpAny_bind (wpAny_holding (wpAny_mono h (fun a s₁ h₁ => wpAny_bind (wpAny_standAt ?_)) fun _ _ x => x))
  obtain ⟨⟨o, fd, ho, hd⟩, h₁⟩ := h₁
  have hk : ∀ {Q' : Keeper → Shared → Prop}, Q' .frame s₁ → wpAny (model prog w) A (keeperOf (.ref f)) Q' E s₁ := fun q => by
    unfold keeperOf
    refine wpAny_bind (wpAny_load ho ?_)
    rw [hd]
    exact wpAny_pure q
  refine wpAny_bind (hk ?_)
  have tail : ∀ {t : Sem Value}, wpAny (model prog w) A t Q E s₁ → wpAny (model prog w) A (t >>= fun r => holding [r] point >>= fun _ => pure r) Q E s₁ :=
    fun ht => wpAny_bind (wpAny_mono ht (fun r s₂ hr => wpAny_bind (wpAny_holding (wpAny_point (wpAny_pure hr)))) fun _ _ x => x)
  have marked (mk : Value) : wpAny (model prog w) A (callMarked mk (.ref f) (first ++ a.pos) a.kw) Q E s₁ := by unfold callMarked; exact Calls.wpAny_keep h₁
  cases hst : (args.any (·.1) || kws.any (·.1.isNone)) with
  | true => exact tail (marked _)
  | false =>
    dsimp only
    split
    · exact tail h₁
    · exact tail (marked _)

theorem evalArgs_star {f : Value} {x : Sem Value} {rest : List (Bool × Sem Value)} {kws : List (Option Str × Sem Value)} {Q : Args → Shared → Prop} (hk : kws.all (·.1.isSome) = false)
    (h : wpAny (model prog w) A (spliced ((false, x) :: rest)) (fun vs s₁ => wpAny (model prog w) A (mergedKeywords f kws) (fun d s₂ => wpAny (model prog w) A (keywordsIn f d) (fun kw s₃ => Q ⟨vs, kw⟩ s₃) E s₂) E s₁) E s) :
    wpAny (model prog w) A (evalArgs f true ((false, x) :: rest) kws) Q E s := by
  unfold evalArgs
  show wpAny (model prog w) A (spliced ((false, x) :: rest) >>= _) Q E s
  refine wpAny_bind (wpAny_mono h (fun vs s₁ h₁ => ?_) fun _ _ x => x)
  refine wpAny_bind (wpAny_pure ?_)
  refine wpAny_holding ?_
  simp only [hk, Bool.false_eq_true, if_false]
  refine wpAny_bind (wpAny_mono h₁ (fun d s₂ h₂ => ?_) fun _ _ x => x)
  refine wpAny_bind (wpAny_pure ?_)
  exact wpAny_bind (wpAny_holding (wpAny_mono h₂ (fun kw s₃ h₃ => wpAny_pure h₃) fun _ _ x => x))

variable {base : Heap} {os₀ : OsState} {led led' : Led}
theorem St.notSys (H : St base os₀ led s) {a : Addr} {P : Asn} (hm : (a, P) ∈ led) {o : Obj} (hs : base.get? sysModules = some o) : (a == sysModules) = false := by
  cases q : a == sysModules with
  | false => rfl
  | true =>
    have e := eq_of_beq q
    have := H.new _ hm
    rw [show ((a, P) : Addr × Asn).1 = sysModules from e, hs] at this
    cases this

theorem merged1 {f : Value} {x : Sem Value} {a : Addr} {kvs : List (Str × Value)} {o₀ : Obj} {Q : Addr → Shared → Prop} (H : St base os₀ led s) (hs : base.get? sysModules = some o₀)
    (hx : ∀ d s₁, St base os₀ ((d, dctA (strKind prog w) []) :: led) s₁ → wpAny (model prog w) A x (fun v s₂ => s₂ = s₁ ∧ v = .ref a) E s₁) (hm : (a, dctA (strKind prog w) kvs) ∈ led) (hz : kvs.length ≤ sizeLine)
    (h : ∀ d s', St base os₀ ((d, dctA (strKind prog w) kvs) :: led) s' → Q d s') : wpAny (model prog w) A (mergedKeywords f [(none, x)]) Q E s := by
  delta mergedKeywords
  refine wpAny_bind (wpAny_alloc ?_)
  have H₁ : St base os₀ ((s.heap.objs.size, dctA (strKind prog w) []) :: led) { s with heap := s.heap.push { cls := .type "dict", data := .dict #[] } } :=
    H.push (tk := s.toks) rfl ⟨#[], 0, ⟨rfl, rfl, rfl⟩, rfl, fun e he => by simp at he, .nil, .nil⟩
  refine wpAny_bind (wpAny_holding ?_)
  refine wpAny_bind ?_
  show wpAny (model prog w) A (Sem.bind (Sem.bind x _) _) _ _ _
  refine wpAny_bind (wpAny_bind (wpAny_mono (hx _ _ H₁) (fun v s₂ h₂ => ?_) fun _ _ q => q))
  obtain ⟨rfl, rfl⟩ := h₂
  obtain ⟨oa, hoa, es, ep, hex, hda, hka, hpa, hna⟩ := H.get hm
  have hoa' := Heap.get?_push_of_some { cls := Value.type "dict", data := Data.dict #[] } hoa
  have hne : a ≠ s.heap.objs.size := H₁.ne hm
  refine wpAny_bind (wpAny_onRaise (wpAny_holding (wpAny_tryCatch (wpAny_onRaise (merge_raw (kvs := kvs) hoa' hda hex (Heap.get?_push_size _ rfl) rfl ⟨rfl, rfl, rfl⟩ hne hka hpa hna (H.notSys hm hs) hz fun h' hsb hd' => ?_)))))
  refine wpAny_pure ?_
  show wpAny _ _ (pure []) _ _ _
  refine wpAny_pure ?_
  show wpAny _ _ (pure ()) _ _ _
  refine wpAny_pure (wpAny_pure ?_)
  obtain ⟨o', ep', h1, h2, h3⟩ := hd'
  exact h _ _ (H₁.upd (tk := s.toks) Up.head hsb.extBut ⟨o', h1, es, ep', h2, h3, hka, hpa, hna⟩)

theorem kwIn {f : Value} {d : Addr} {kvs : List (Str × Value)} {Q : List (Str × Value) → Shared → Prop} (H : St base os₀ led s) (hm : (d, dctA (strKind prog w) kvs) ∈ led) (h : Q kvs s) :
    wpAny (model prog w) A (keywordsIn f d) Q E s := by
  obtain ⟨o, ho, es, ep, hex, hd, hk, hp, hn⟩ := H.get hm
  delta keywordsIn
  refine wpAny_bind (wpAny_dictEntries ho hd ?_)
  refine wpAny_bind ?_
  rw [← Array.forIn_toList]
  refine wpAny_forIn_list _ (fun rest b s' => s' = s ∧ ∃ done kr, kvs = done ++ kr ∧ b = done ∧ Pairs (strKind prog w) rest kr) _ ?_ ?_ _ _ ⟨rfl, [], kvs, rfl, rfl, hp⟩
  · rintro e rest b s' ⟨rfl, done, kr, rfl, rfl, hpr⟩
    cases hpr with
    | @cons _ kv _ kvs' h1 h2 h3 =>
      obtain ⟨t, ht⟩ := Value.isStrOf_shape h1
      obtain ⟨eh, ek, ev⟩ := e
      dsimp only at ht h2
      subst ht h2
      exact wpAny_pure ⟨rfl, b ++ [kv], kvs', by simp, rfl, h3⟩
  · rintro b s' ⟨rfl, done, kr, rfl, rfl, hpr⟩
    cases hpr
    rw [List.append_nil] at h
    exact wpAny_pure h

/-- a str key put by nsSet behind the others -/
theorem nsSet_push {d : Addr} {kvs : List (Str × Value)} {k : Str} {v : Value} {Q : Unit → Shared → Prop} (hm : s.heap.DictOf (strKind prog w) d kvs) (hk : k ∉ kvs.map (·.1))
    (h : ∀ h', h'.DictOf (strKind prog w) d (kvs ++ [(k, v)]) → Heap.SameBut d s.heap h' → Q () { s with heap := h', toks := s.toks + 1 }) :
    wpAny (model prog w) A (nsSet d k v) Q E s := by
  obtain ⟨o, es, ep, ho, hex, hd, hko, hp, hn⟩ := hm
  have hany : es.any (·.refKey) = false := by
    rw [Array.any_eq_false']; intro e he; obtain ⟨n, h1, _⟩ := hko e he; obtain ⟨t, ht⟩ := Value.isStrOf_shape h1; simp [DictEntry.refKey, ht]
  have hstr : ∀ e ∈ es, e.key.isStr k = (strKind prog w).is k e.key := fun e he => by
    obtain ⟨n, h1, _⟩ := hko e he
    obtain ⟨t, ht⟩ := Value.isStrOf_shape h1
    have := (strKind prog w).strs k k 0 e.key (by show Value.isStrOf k (.str k 0) = true; simp [Value.isStrOf])
    exact this.symm
  have hnone : es.findIdx? (fun e => e.key.isStr k) = none := by
    rw [Array.findIdx?_eq_none_iff]
    intro e he
    rw [hstr e he]
    cases q : (strKind prog w).is k e.key with
    | false => rfl
    | true =>
      exfalso
      have := hp.findIdx k
      obtain ⟨j, hj, rfl⟩ := Array.mem_iff_getElem.mp he
      have h2 : (es.toList.findIdx? fun e => (strKind prog w).is k e.key) ≠ none := by
        rw [Ne, List.findIdx?_eq_none_iff]
        intro hh
        have := hh es[j] (by simp)
        rw [q] at this; cases this
      rw [this, Ne, List.findIdx?_eq_none_iff] at h2
      apply h2
      intro kv hkv
      exact decide_eq_false fun e => hk (e ▸ List.mem_map_of_mem hkv)
  intro Γ p hΓ
  simp only [nsSet, strHash, Sem.wp_bind', Sem.wp_cmd_ask, Sem.wp_pure', Sem.wp_cmd_mkText]
  rw [Sem.wp_loadPart_of _ Γ _ p { s with toks := s.toks + 1 } (o := o) _ ho]
  simp only [hd, aRefKeyMayBeTheName_eq, aRefKeyMayBeTheNameByArray, hany, Bool.and_false, Bool.false_eq_true, if_false, Sem.wp_cmd_updatePart]
  obtain ⟨oc, odd, odt, osl⟩ := o
  dsimp only at hd
  subst hd
  have hput : ∀ hsh key, Obj.putName k hsh key v ⟨oc, odd, .dict es ep, osl⟩ = ⟨oc, odd, .dict (es.push ⟨hsh, key, v⟩) (ep + 1), osl⟩ := fun hsh key => by
    simp only [Obj.putName_eq, Obj.putNameByArray, hnone]
  have hsn : ∀ {l : List DictEntry} {kv : List (Str × Value)} {e : DictEntry}, Pairs (strKind prog w) l kv → (strKind prog w).is k e.key = true → e.val = v → Pairs (strKind prog w) (l ++ [e]) (kv ++ [(k, v)]) := fun hl h1 h2 => by
    induction hl with
    | nil => exact .cons h1 h2 .nil
    | cons q1 q2 _ ih => exact .cons q1 q2 ih
  have hkk : (strKind prog w).is k (.str k s.toks) = true := by show Value.isStrOf k (.str k s.toks) = true; simp [Value.isStrOf]
  refine ⟨by rw [ho]; rfl, h _ ⟨⟨oc, odd, .dict (es.push ⟨hashStr w k, .str k s.toks, v⟩) (ep + 1), osl⟩, es.push ⟨hashStr w k, .str k s.toks, v⟩, ep + 1, (Heap.get?_update_self _ ho (by rw [hput]; rfl)).trans (by rw [hput]; rfl), hex, rfl, hko.push hkk v, ?_, ?_⟩ (Heap.SameBut.update ..)⟩
  · rw [Array.toList_push]; exact hsn hp hkk rfl
  · rw [List.map_append, List.nodup_append]
    refine ⟨hn, by simp, ?_⟩
    intro y hy z hz
    simp only [List.map_cons, List.map_nil, List.mem_singleton] at hz
    subst hz
    exact fun e => hk (e ▸ hy)

theorem nsSets {d : Addr} {f : Str × Value → PUnit → Sem (ForInStep PUnit)} (hf : ∀ n v u, f (n, v) u = (do nsSet d n v; pure (.yield ⟨⟩))) :
    ∀ (kws kvs : List (Str × Value)) (s : Shared) (Q : PUnit → Shared → Prop), s.heap.DictOf (strKind prog w) d kvs → (∀ k ∈ kws.map (·.1), k ∉ kvs.map (·.1)) → (kws.map (·.1)).Nodup →
      (∀ h' tk, h'.DictOf (strKind prog w) d (kvs ++ kws) → Heap.SameBut d s.heap h' → Q ⟨⟩ { s with heap := h', toks := tk }) → wpAny (model prog w) A (forIn kws ⟨⟩ f) Q E s
  | [], kvs, s, Q, hm, _, _, h => by rw [List.forIn_nil]; exact wpAny_pure (h s.heap s.toks (by rwa [List.append_nil]) (Heap.SameBut.refl ..))
  | (n, v) :: r, kvs, s, Q, hm, hk, hn, h => by
    rw [List.forIn_cons, hf]
    refine wpAny_bind (wpAny_bind (nsSet_push hm (hk n (.head _)) fun h' hm' hs' => wpAny_pure ?_))
    simp only [List.map_cons, List.nodup_cons] at hn
    refine nsSets hf r (kvs ++ [(n, v)]) _ Q hm' (fun k hkr => ?_) hn.2 fun h'' tk hm'' hs'' => h h'' tk (by rwa [List.append_assoc] at hm'') (hs'.trans hs'')
    rw [List.map_append, List.mem_append]
    rintro (q | q)
    · exact hk k (.tail _ hkr) q
    · simp only [List.map_cons, List.map_nil, List.mem_singleton] at q
      subst q; exact hn.1 hkr
end
end Mine

namespace Mine
open PySem PySem.W PyProof.Rows PySem.Calls PySem.Spec
section
variable {prog : Program} {w : World} {A : Around} {E : Value → Shared → Prop} {s : Shared} {base : Heap} {os₀ : OsState} {led led' : Led}
theorem lookup_zip_some : ∀ (names : List Str) (vs : List Value), vs.length = names.length → ∀ n ∈ names, ((names.zip vs).lookup n).isSome = true
  | [], _, _, _, h => nomatch h
  | a :: r, v :: vs, hl, n, h => by
    rw [List.zip_cons_cons, List.lookup_cons]
    cases q : n == a with
    | true => rfl
    | false =>
      refine lookup_zip_some r vs (by simpa using hl) n ?_
      rcases List.mem_cons.mp h with rfl | h
      · simp at q
      · exact h
theorem filterMap_zip : ∀ (names : List Str) (vs : List Value), vs.length = names.length → names.Nodup → (names.filterMap fun n => ((names.zip vs).lookup n).map (n, ·)) = names.zip vs
  | [], _, _, _ => by simp
  | a :: r, v :: vs, hl, hn => by
    rw [List.nodup_cons] at hn
    have ih := filterMap_zip r vs (by simpa using hl) hn.2
    rw [List.zip_cons_cons, List.filterMap_cons]
    simp only [List.lookup_cons, beq_self_eq_true, Option.map_some]
    congr 1
    have cong : ∀ (l : List Str) (f g : Str → Option (Str × Value)), (∀ x ∈ l, f x = g x) → l.filterMap f = l.filterMap g := fun l f g hfg => by
      induction l with
      | nil => rfl
      | cons x l ih' => rw [List.filterMap_cons, List.filterMap_cons, hfg x (.head _), ih' fun y hy => hfg y (.tail _ hy)]
    refine (cong r _ _ fun n hnr => ?_).trans ih
    have : (n == a) = false := by
      cases q : n == a with
      | false => rfl
      | true => exact absurd (eq_of_beq q ▸ hnr) hn.1
    simp only [this]
theorem bind_kw {fd : FuncData} {normal : List Str} {kwa : Arg} {vs : List Value} {kws : List (Str × Value)} {Q : List (Str × Value) → Shared → Prop}
    (hpo : fd.params.posonlyargs = []) (hn : fd.params.args.map (·.arg) = normal) (hko : fd.params.kwonlyargs = []) (hva : fd.params.vararg = none) (hkw : fd.params.kwarg = some kwa) (hdf : fd.defaults = .none)
    (hlen : vs.length = normal.length) (hnd : normal.Nodup) (hdis : ∀ k ∈ kws.map (·.1), k ∉ normal) (hkn : (kws.map (·.1)).Nodup) (hz : kws.length ≤ sizeLine + 1) (H : St base os₀ led s)
    (h : ∀ d s', St base os₀ ((d, dctA (strKind prog w) kws) :: led) s' → Q (normal.zip vs ++ [(kwa.arg, .ref d)]) s') :
    wpAny (model prog w) A (bindArgs fd ⟨vs, kws⟩) Q E s := by
  unfold bindArgs
  simp only [hpo, hn, hko, hva, hkw, hdf, List.map_nil, List.nil_append, List.append_nil]
  refine wpAny_bind ?_
  refine wpAny_forIn_list _ (fun rest b s' => s' = s ∧ ∃ done, kws = done ++ rest ∧ b = (normal.zip vs, done)) _ ?_ ?_ _ _ ⟨rfl, [], rfl, rfl⟩
  · rintro ⟨k, v⟩ rest b s' ⟨rfl, done, rfl, rfl⟩
    have hc : normal.contains k = false := by
      cases q : normal.contains k with
      | false => rfl
      | true => exact absurd (List.contains_iff_mem.mp q) (hdis k (by simp))
    simp only [hc, List.contains_nil, Bool.or_self, Bool.false_eq_true, if_false, Option.isSome_some, if_true]
    exact wpAny_pure ⟨rfl, done ++ [(k, v)], by simp, rfl⟩
  · rintro b s' ⟨rfl, done, hd, rfl⟩
    rw [List.append_nil] at hd
    subst hd
    show wpAny _ _ (pure none >>= _) _ _ _
    refine wpAny_bind (wpAny_pure ?_)
    have hgt : decide (vs.length > normal.length) = false := decide_eq_false (by omega)
    have hmiss : (normal.filter fun n => ((normal.zip vs).lookup n).isNone) = [] := by
      rw [List.filter_eq_nil_iff]
      intro n hnn
      have := lookup_zip_some normal vs hlen n hnn
      cases q : (normal.zip vs).lookup n with
      | none => rw [q] at this; cases this
      | some _ => simp
    simp only [Option.getD_none, List.drop_nil, List.length_nil, Nat.sub_zero, List.take_length, hmiss, hgt, Bool.false_and, Bool.false_eq_true, if_false, List.isEmpty_nil, Bool.not_true, List.zip_nil_right, List.forIn_nil]
    refine wpAny_bind (wpAny_pure (wpAny_bind (wpAny_pure ?_)))
    simp only [List.isEmpty_nil, Bool.not_true, Bool.false_eq_true, if_false, if_neg (Nat.not_lt.mpr hz), filterMap_zip normal vs hlen hnd]
    refine wpAny_bind (wpAny_alloc ?_)
    refine wpAny_bind (nsSets (fun n v u => rfl) kws [] _ _ ⟨_, #[], 0, Heap.get?_push_size _ rfl, ⟨rfl, rfl, rfl⟩, rfl, fun e he => by simp at he, .nil, .nil⟩ (fun _ _ => by simp) hkn fun h' tk hm' hs' => wpAny_pure ?_)
    rw [List.nil_append] at hm'
    refine h _ _ (H.more (fun b o e => ?_) (Nat.le_refl _) (dctA_of hm').choose_spec.1 (dctA_of hm').choose_spec.2)
    exact (hs'.2 b (Nat.ne_of_lt (Heap.lt_size e))).trans (Heap.get?_push_of_some _ e)

/-- a call of a def without cells of its own -/
theorem fn_enter {f : Addr} {o : Obj} {fd : FuncData} {body : List Stmt} {args : Args} {Q : Value → Shared → Prop} (H : St base os₀ led s) (hroom : A.depth < recursionLimit) (hlim : base.NoLimit)
    (ho : s.heap.get? f = some o) (hdata : o.data = .func fd) (hcd : s.heap.CodeRec fd.code fd.qualname) (hbody : fd.body = .stmts body)
    (hcell : ∀ x ∈ fd.scope.names, x.2 ≠ .cell)
    (h : wpAny (model prog w) A.in1 (bindArgs fd args) (fun binds s₁ => ∃ led₁, St base os₀ led₁ s₁ ∧ (∀ x ∈ binds, fd.scope.names.lookup x.1 = some .local) ∧
      ∀ L s₂, St base os₀ ((L, nsA fun x => binds.reverse.lookup x) :: led₁) s₂ →
        wpAny (model prog w) (A.deeper (callEnv fd L f)) (execs body (callEnv fd L f)) (fun fl s' => Q (match fl with | .ret v => v | _ => .none) s')
          (fun e s' => wpAny (model prog w) (A.deeper (callEnv fd L f)) (leaving (callEnv fd L f) e) (fun _ s'' => E e s'') (fun e' s'' => E e' s'') s') s₂) E s)
    (hco : fd.scope.isCoroutine = false := by rfl) (hgen : fd.scope.isGenerator = false := by rfl) (hk : fd.scope.kind = .function := by rfl) :
    wpAny (model prog w) A (call (.ref f) args.pos args.kw) Q E s := by
  refine wpAny_call (codeAny_call_function hroom ho hdata hco hgen hbody hcd (wpAny_mono h (fun binds s₁ h₁ => ?_) fun _ _ x => x))
  obtain ⟨led₁, H₁, hl, h₁⟩ := h₁
  refine wpAny_newFunctionEnv hcell hl (fun h' hns hsb => ?_) hk
  have H₂ : St base os₀ ((s₁.heap.objs.size, nsA fun x => binds.reverse.lookup x) :: led₁) { s₁ with heap := h', toks := s₁.toks + binds.length } := by
    obtain ⟨o', ho', hp'⟩ := nsA_of hns
    exact H₁.more (fun b o e => hsb.extBut b o (Nat.ne_of_lt (Heap.lt_size e)) (Heap.get?_push_of_some _ e)) (Nat.le_refl _) ho' hp'
  exact ⟨hlim.keeps H₂.keep, codeAny_func (h₁ _ _ H₂)⟩

/-- a call of a lambda -/
theorem lam_enter {f : Addr} {o : Obj} {fd : FuncData} {body : Expr} {args : Args} {Q : Value → Shared → Prop} (H : St base os₀ led s) (hroom : A.depth < recursionLimit) (hlim : base.NoLimit)
    (ho : s.heap.get? f = some o) (hdata : o.data = .func fd) (hcd : s.heap.CodeRec fd.code fd.qualname) (hbody : fd.body = .expr body)
    (hcell : ∀ x ∈ fd.scope.names, x.2 ≠ .cell)
    (h : wpAny (model prog w) A.in1 (bindArgs fd args) (fun binds s₁ => ∃ led₁, St base os₀ led₁ s₁ ∧ (∀ x ∈ binds, fd.scope.names.lookup x.1 = some .local) ∧
      ∀ L s₂, St base os₀ ((L, nsA fun x => binds.reverse.lookup x) :: led₁) s₂ →
        wpAny (model prog w) (A.deeper (callEnv fd L f)) (eval body (callEnv fd L f)) Q
          (fun e s' => wpAny (model prog w) (A.deeper (callEnv fd L f)) (leaving (callEnv fd L f) e) (fun _ s'' => E e s'') (fun e' s'' => E e' s'') s') s₂) E s)
    (hco : fd.scope.isCoroutine = false := by rfl) (hgen : fd.scope.isGenerator = false := by rfl) (hk : fd.scope.kind = .function := by rfl) :
    wpAny (model prog w) A (call (.ref f) args.pos args.kw) Q E s := by
  refine wpAny_call (kla_callFunE hroom ho hdata hco hgen hbody hcd (wpAny_mono h (fun binds s₁ h₁ => ?_) fun _ _ x => x))
  obtain ⟨led₁, H₁, hl, h₁⟩ := h₁
  refine wpAny_newFunctionEnv hcell hl (fun h' hns hsb => ?_) hk
  have H₂ : St base os₀ ((s₁.heap.objs.size, nsA fun x => binds.reverse.lookup x) :: led₁) { s₁ with heap := h', toks := s₁.toks + binds.length } := by
    obtain ⟨o', ho', hp'⟩ := nsA_of hns
    exact H₁.more (fun b o e => hsb.extBut b o (Nat.ne_of_lt (Heap.lt_size e)) (Heap.get?_push_of_some _ e)) (Nat.le_refl _) ho' hp'
  exact ⟨hlim.keeps H₂.keep, kla_codeExpr (h₁ _ _ H₂)⟩

end
end Mine

namespace Mine
open PySem PySem.W PyProof.Rows PySem.Calls PySem.Spec
theorem Up.of_mem {a : Addr} {P : Asn} : ∀ {l : Led}, (a, P) ∈ l → Up a P P l l
  | _ :: _, .head _ => .head
  | _ :: _, .tail _ h => .tail (Up.of_mem h)

def ex0 (cls : String) : Asn := fun o => o.cls = .type cls ∧ ∃ vs, o.data = .fields vs ∧ 4 < vs.size ∧ vs[1]? = some .none
def ex1 (cls : String) (t : Addr) : Asn := fun o => o.cls = .type cls ∧ ∃ vs, o.data = .fields vs ∧ 4 < vs.size ∧ vs[1]? = some (.ref t)
def tbA : Asn := fun o => ∃ vs, o.data = .fields vs ∧ 3 < vs.size
/-- an exception that has a traceback -/
def Fly (base : Heap) (os₀ : OsState) (led : Led) (e : Addr) (cls : String) (s : Shared) : Prop := ∃ t, St base os₀ ((e, ex1 cls t) :: (t, tbA) :: led) s
def FramesOk (led : Led) (fs : List Env) : Prop := ∀ env ∈ fs, env.scope.kind ≠ .module ∧ ∃ L m, env.frame = some L ∧ (L, nsA m) ∈ led
theorem FramesOk.mono {led led' : Led} {fs : List Env} (h : FramesOk led fs) (hs : ∀ p ∈ led, p ∈ led') : FramesOk led' fs := fun env he => by
  obtain ⟨h1, L, m, h2, h3⟩ := h env he
  exact ⟨h1, L, m, h2, hs _ h3⟩
theorem FramesOk.cons {led : Led} {fs : List Env} {env : Env} {L : Addr} {m : Str → Option Value} (h : FramesOk led fs) (hk : env.scope.kind ≠ .module) (hf : env.frame = some L) (hm : (L, nsA m) ∈ led) : FramesOk led (env :: fs) := fun env' he => by
  rcases List.mem_cons.mp he with rfl | he
  · exact ⟨hk, L, m, hf, hm⟩
  · exact h env' he
theorem FramesOk.tail {led : Led} {fs : List Env} {env : Env} (h : FramesOk led (env :: fs)) : FramesOk led fs := fun env' he => h env' (.tail _ he)

section
variable {prog : Program} {w : World} {A : Around} {E : Value → Shared → Prop} {s : Shared} {base : Heap} {os₀ : OsState} {led led' : Led} {e : Addr} {cls : String} {env : Env}

theorem ready {M : Model} : ∀ (fs : List Env) {s : Shared} {Q : Unit → Shared → Prop}, St base os₀ led s → FramesOk led fs → (∀ s', St base os₀ led s' → Q () s') → wpAny M A (readyFrames fs) Q E s
  | [], s, Q, H, _, h => by simp only [readyFrames]; exact wpAny_pure (h s H)
  | env :: outer, s, Q, H, hF, h => by
    obtain ⟨hk, L, m, hf, hm⟩ := hF env (.head _)
    obtain ⟨o, ho, hn⟩ := H.get hm
    simp only [readyFrames, hf]
    refine wpAny_bind (wpAny_load ho ?_)
    by_cases hr : ((o.slots.getD 3 none).isSome) = true
    · rw [if_pos hr]; exact wpAny_pure (h _ H)
    · rw [if_neg hr]
      refine wpAny_bind (wpAny_of_eq (a := false) (by simp [behindIsImport, hk]) ?_)
      have rest : ∀ back, wpAny M A (do
          update L fun o => { o with slots := #[some env.code, some (.ref env.globals), o.slots.getD 2 none, some back, o.slots.getD 4 none, env.func.map Value.ref, some (.ref env.builtins)] ++ (env.cells.map fun c => some (.ref c.2)).toArray }
          readyFrames outer) Q E s := fun back => by
        refine wpAny_bind (wpAny_update ho ?_)
        obtain ⟨es, ep, hd, hrest⟩ := hn
        have hnf : o.isFreed = false := Obj.isFreed_of_dict hd
        refine ready outer (H.upd (tk := s.toks) (Up.of_mem hm) (Heap.SameBut.update ..).extBut ⟨_, Heap.get?_update_self _ ho ?_, es, ep, hd, hrest⟩) hF.tail h
        obtain ⟨c, d, dt, sl⟩ := o
        cases dt <;> first | rfl | exact hnf
      cases outer with
      | nil => exact wpAny_bind (wpAny_keptBack_nil fun v => rest v)
      | cons c r => exact wpAny_bind (wpAny_pure (rest _))

theorem frameOf_ok {M : Model} {fs : List Env} {L : Addr} {Q : Value → Shared → Prop} (H : St base os₀ led s) (hfr : A.frames = some fs) (hF : FramesOk led fs) (hin : env ∈ fs) (hf : env.frame = some L)
    (h : ∀ v s', St base os₀ led s' → Q v s') : wpAny M A (PySem.frameOf env) Q E s := by
  unfold PySem.frameOf
  refine wpAny_bind (wpAny_frameEnvs hfr ?_)
  have hsub : ∀ x ∈ fs.dropWhile (fun x => x.frame != env.frame), x ∈ fs := fun x hx => (List.dropWhile_sublist _).subset hx
  have hne : fs.dropWhile (fun x => x.frame != env.frame) ≠ [] := fun q => by
    have hall : ∀ (l : List Env), l.dropWhile (fun x => x.frame != env.frame) = [] → ∀ x ∈ l, (x.frame != env.frame) = true := fun l => by
      induction l with
      | nil => intro _ x hx; cases hx
      | cons y r ih =>
        intro hl x hx
        rw [List.dropWhile_cons] at hl
        split at hl
        · rename_i hy
          rcases List.mem_cons.mp hx with rfl | hx
          · exact hy
          · exact ih hl x hx
        · cases hl
    have := hall fs q env hin
    simp at this
  cases hq : fs.dropWhile (fun x => x.frame != env.frame) with
  | nil => exact absurd hq hne
  | cons y r =>
    rw [hq] at hsub
    have hF' : FramesOk led (y :: r) := fun x hx => hF x (hsub x hx)
    unfold frameObject
    refine wpAny_bind (wpAny_bind (ready _ H hF' fun s' H' => wpAny_pure ?_))
    obtain ⟨_, Ly, _, hfy, _⟩ := hF' y (.head _)
    rw [hfy]
    exact wpAny_pure (h _ s' H')

theorem setF {M : Model} {a : Addr} {P P' : Asn} {i : Nat} {x : Value} {Q : Unit → Shared → Prop} (H : St base os₀ led s) (U : Up a P P' led led') (hP : ∀ o, P o → ∃ vs, o.data = .fields vs ∧ i < vs.size ∧ ∀ o', o'.cls = o.cls → o'.data = .fields (vs.setIfInBounds i x) → P' o')
    (h : ∀ s', St base os₀ led' s' → Q () s') : wpAny M A (setField (.ref a) i x) Q E s := by
  obtain ⟨o, ho, hp⟩ := H.get U.mem
  obtain ⟨vs, hd, hi, hP'⟩ := hP o hp
  refine wpAny_setField ho hd hi (h _ (H.upd (tk := s.toks) U (Heap.SameBut.update ..).extBut ⟨_, Heap.get?_update_self _ ho (Obj.isFreed_of_fields (Obj.data_mapFields hd _)), hP' _ (Obj.cls_mapFields ..) (Obj.data_mapFields hd _)⟩))

theorem note_tail {M : Model} {fs : List Env} {L : Addr} {P : Asn} {head : Value} {b : Bool} {Q : Unit → Shared → Prop} (H : St base os₀ ((e, P) :: led) s) (hP : ∀ o, P o → o.cls = .type cls ∧ ∃ vs, o.data = .fields vs ∧ 4 < vs.size)
    (hfr : A.frames = some fs) (hF : FramesOk led fs) (hin : env ∈ fs) (hf : env.frame = some L) (h : ∀ s', Fly base os₀ led e cls s' → Q () s') :
    wpAny M A (do let fr ← PySem.frameOf env; let pl ← entryPlaceOf L b; let t ← EntryCells.newEntry head fr .none (rawInt L) .none pl; setField (.ref e) 1 t) Q E s := by
  refine wpAny_bind (frameOf_ok H hfr (hF.mono fun p hp => .tail _ hp) hin hf fun v s' H' => ?_)
  refine wpAny_bind (wpAny_entryPlaceOf fun pl hpl => ?_)
  unfold EntryCells.newEntry newFields
  refine wpAny_bind (wpAny_newObj_type ?_ (hpl.sizeOk5 _ _ _ _ _))
  have H₂ := H'.push (tk := s'.toks) (P := tbA) (o := { cls := .type "traceback", dict := none, data := .fields ([head, v, .none, rawInt L, .none] ++ (if pl.isEmpty then List.replicate 6 Value.none else pl)).toArray }) rfl ⟨_, rfl, by simp⟩
  refine setF (P' := ex1 cls s'.heap.objs.size) H₂ (.tail .head) (fun o hp => ?_) fun s'' H'' => h s'' ⟨_, H''.perm (.swap ..)⟩
  obtain ⟨hc, vs, hd, hsz⟩ := hP o hp
  refine ⟨vs, hd, by omega, fun o' hc' hd' => ⟨hc'.trans hc, _, hd', by simpa using hsz, ?_⟩⟩
  rw [Array.getElem?_setIfInBounds_self_of_lt (by omega)]

theorem note0 {M : Model} {fs : List Env} {L : Addr} {Q : Unit → Shared → Prop} (H : St base os₀ ((e, ex0 cls) :: led) s) (hfr : A.frames = some fs) (hF : FramesOk led fs) (hin : env ∈ fs) (hf : env.frame = some L)
    (h : ∀ s', Fly base os₀ led e cls s' → Q () s') : wpAny M A (noteFrame (.ref e) env) Q E s := by
  obtain ⟨o, ho, hc, vs, hd, hsz, h1⟩ := H.get (.head _)
  unfold noteFrame
  simp only [hf]
  refine wpAny_bind (wpAny_field ho hd h1 ?_)
  rw [if_neg (by decide)]
  exact note_tail H (fun o hp => ⟨hp.1, let ⟨vs, a, b, _⟩ := hp.2; ⟨vs, a, b⟩⟩) hfr hF hin hf h

theorem note1 {M : Model} {fs : List Env} {L : Addr} {Q : Unit → Shared → Prop} (H : Fly base os₀ led e cls s) (hfr : A.frames = some fs) (hF : FramesOk led fs) (hin : env ∈ fs) (hf : env.frame = some L)
    (h : ∀ s', Fly base os₀ led e cls s' → Q () s') : wpAny M A (noteFrame (.ref e) env) Q E s := by
  obtain ⟨t, H⟩ := H
  obtain ⟨o, ho, hc, vs, hd, hsz, h1⟩ := H.get (.head _)
  obtain ⟨ot, hot, tvs, htd, htz⟩ := H.get (.tail _ (.head _))
  unfold noteFrame
  simp only [hf]
  refine wpAny_bind (wpAny_field ho hd h1 ?_)
  rw [if_pos (show (Value.ref t != Value.none) = true from by simp)]
  refine wpAny_bind (wpAny_field hot htd (Array.getElem?_eq_getElem htz) ?_)
  by_cases hq : (tvs[3] == rawInt L) = true
  · rw [if_pos hq]; exact wpAny_pure (h s ⟨t, H⟩)
  · rw [if_neg hq]
    refine wpAny_bind (setF (P' := tbA) H (.tail .head) (fun o hp => ?_) fun s' H' => ?_)
    · obtain ⟨vs', hd', hz'⟩ := hp
      exact ⟨vs', hd', hz', fun o' _ hd'' => ⟨_, hd'', by simpa using hz'⟩⟩
    · exact note_tail H' (fun o hp => ⟨hp.1, let ⟨vs, a, b, _⟩ := hp.2; ⟨vs, a, b⟩⟩) hfr (hF.mono fun p hp => .tail _ hp) hin hf fun s'' ⟨t', H''⟩ => h s'' ⟨t', H''.sub (.cons_cons _ (.cons_cons _ (.cons _ (.refl _))))⟩

theorem flight {M : Model} {x : Option Addr} {Q : Unit → Shared → Prop} (H : Fly base os₀ led e cls s) (h : ∀ s', Fly base os₀ led e cls s' → Q () s') : wpAny M A (setFlight (.ref e) x) Q E s := by
  obtain ⟨t, H⟩ := H
  obtain ⟨o, ho, hc, vs, hd, hsz, h1⟩ := H.get (.head _)
  unfold setFlight
  refine wpAny_bind (wpAny_field ho hd h1 ?_)
  rw [if_pos (show (Value.ref t != Value.none) = true from by simp)]
  refine setF (P' := tbA) H (.tail .head) (fun o hp => ?_) fun s' H' => h s' ⟨t, H'⟩
  obtain ⟨vs', hd', hz'⟩ := hp
  exact ⟨vs', hd', hz', fun o' _ hd'' => ⟨_, hd'', by simpa using hz'⟩⟩

theorem leave0 {M : Model} {fs : List Env} {L : Addr} {Q : Unit → Shared → Prop} (H : St base os₀ ((e, ex0 cls) :: led) s) (hfr : A.frames = some fs) (hF : FramesOk led fs) (hin : env ∈ fs) (hf : env.frame = some L)
    (h : ∀ s', Fly base os₀ led e cls s' → Q () s') : wpAny M A (leaving env (.ref e)) Q E s := by
  unfold leaving
  exact wpAny_bind (note0 H hfr hF hin hf fun s' H' => flight H' h)
theorem leave1 {M : Model} {fs : List Env} {L : Addr} {Q : Unit → Shared → Prop} (H : Fly base os₀ led e cls s) (hfr : A.frames = some fs) (hF : FramesOk led fs) (hin : env ∈ fs) (hf : env.frame = some L)
    (h : ∀ s', Fly base os₀ led e cls s' → Q () s') : wpAny M A (leaving env (.ref e)) Q E s := by
  unfold leaving
  exact wpAny_bind (note1 H hfr hF hin hf fun s' H' => flight H' h)

theorem of_newExc {h' : Heap} {tk : Nat} (H : St base os₀ led s) (x : Heap.NewExc s.heap h' e cls) : St base os₀ ((e, ex0 cls) :: led) { s with heap := h', toks := tk } := by
  obtain ⟨ob, t, h1, h2, h3⟩ := x.there
  have hne : ∀ p ∈ led, p.1 ≠ e := fun p hp q => by
    obtain ⟨o, ho, _⟩ := H.has p hp
    rw [q, x.new] at ho; cases ho
  refine ⟨fun b o e => x.keeps b o (H.keep b o e), ?_, fun p hp => ?_, fun p hp => ?_, H.gens, H.os⟩
  · simp only [List.map_cons, List.nodup_cons]
    exact ⟨fun h => by obtain ⟨p, hp, q⟩ := List.mem_map.mp h; exact hne p hp q, H.nd⟩
  · rcases List.mem_cons.mp hp with rfl | hp
    · exact ⟨ob, h1, h2, _, h3, by simp, rfl⟩
    · obtain ⟨o, ho, q⟩ := H.has p hp; exact ⟨o, x.keeps _ _ ho, q⟩
  · rcases List.mem_cons.mp hp with rfl | hp
    · cases q : base.get? e with
      | none => rfl
      | some o => have := H.keep _ _ q; rw [x.new] at this; cases this
    · exact H.new p hp
end
end Mine

namespace Mine
open PySem PySem.W PyProof.Rows PySem.Calls PySem.Spec
def tabA (ps : Array Value) : Asn := fun o => o = tabObj ps
def codeA (qual : Str) : Asn := fun o => ∃ vs t, o.data = .fields vs ∧ vs[1]? = some (.str qual t)
/-- what the top gives -/
structure Gr (base : Heap) (mg mb : Str → Option Value) : Prop where
  g : base.Ns mainGlobals mg
  b : base.Ns builtinsNs mb
  lim : base.NoLimit
  sys : ∃ o, base.get? sysModules = some o
  bmain : ∃ bm ob, mg "__builtins__" = some (.ref bm) ∧ bm ≠ builtinsNs ∧ base.get? bm = some ob ∧ ob.cls = .type "module" ∧ ob.dict = some builtinsNs ∧ ob.data = .plain
section
variable {M : Model} {A : Around} {E : Value → Shared → Prop} {s : Shared} {base : Heap} {os₀ : OsState} {led : Led} {env : Env} {mg mb : Str → Option Value} {c P : Addr} {ps : Array Value} {pos : Pos} {firstLine : Nat} {name qual : Str} {params : Arguments} {scope : Scope}
  {clos : List (Str × Addr)} {Q : Value → Shared → Prop}

theorem Gr.builtinsAt (G : Gr base mg mb) (H : St base os₀ led s) (hm : (P, tabA ps) ∈ led) : mainGlobals ≠ P ∧ s.heap.BuiltinsAt mg P := by
  obtain ⟨o, ho, rfl⟩ := H.get hm
  obtain ⟨bm, ob, b1, b2, b3, b4, b5, b6⟩ := G.bmain
  have hgP : mainGlobals ≠ P := fun q => by
    obtain ⟨o, es, ep, e, hd, _⟩ := G.g
    have := H.keep _ _ e
    rw [q, ho] at this; cases this; cases hd
  have hbP : bm ≠ P := fun q => by
    have e := H.keep _ _ b3
    rw [q, ho] at e; cases e; cases b4
  have hbG : bm ≠ mainGlobals := fun q => by
    obtain ⟨o, es, ep, e, hd, _⟩ := G.g
    rw [q, e] at b3; cases b3; rw [hd] at b6; cases b6
  exact ⟨hgP, bm, ob, b1, b2, hbG, hbP, H.keep _ _ b3, b4, b5, b6⟩

theorem St.made {h' : Heap} {tk c' : Nat} {o : Obj} {led' : Led} {ps' : Array Value} (H : St base os₀ led s) (U : Up P (tabA ps) (tabA ps') led led') (hx : Heap.ExtBut P s.heap h') (hge : s.heap.objs.size ≤ c') (hlt : c' < h'.objs.size) (hrec : h'.CodeRec (.ref c') qual)
    (hP : h'.get? P = some (tabObj ps')) (hf : o.isFreed = false) : St base os₀ ((h'.objs.size, objA o) :: (c', codeA qual) :: led') { s with heap := h'.push o, toks := tk } := by
  obtain ⟨c₂, oc, vs, t, e2, hoc, hd, hv⟩ := hrec
  cases e2
  have H₁ : St base os₀ led' { s with heap := h', toks := tk } := H.upd U hx ⟨_, hP, rfl⟩
  have hc' : c' ∉ led'.map (·.1) := fun q => by
    rw [U.keys] at q
    obtain ⟨p, hp, e⟩ := List.mem_map.mp q
    obtain ⟨o', ho', _⟩ := H.has p hp
    have := Heap.lt_size ho'
    rw [e] at this
    exact absurd this (Nat.not_lt.mpr hge)
  have H₂ : St base os₀ ((c', codeA qual) :: led') { s with heap := h', toks := tk } := by
    refine ⟨H₁.keep, by simp only [List.map_cons, List.nodup_cons]; exact ⟨hc', H₁.nd⟩, fun p hp => ?_, fun p hp => ?_, H₁.gens, H₁.os⟩
    · rcases List.mem_cons.mp hp with rfl | hp
      · exact ⟨oc, hoc, vs, t, hd, hv⟩
      · exact H₁.has p hp
    · rcases List.mem_cons.mp hp with rfl | hp
      · exact H.newAt hge
      · exact H₁.new p hp
  exact H₂.push (tk := tk) hf rfl

theorem mk_lam_new {body : Expr} {led' : Addr → Led} (H : St base os₀ led s) (G : Gr base mg mb) (C : CodeHd base c P) (hcode : env.code = .ref c) (hge0 : env.globals = mainGlobals) (hcl : closureFor scope env = pure clos)
    (ht : TriplesOk ps.toList) (hnf : codeAmong pos ps.toList = none) (U : ∀ c', Up P (tabA ps) (tabA (ps ++ #[rawInt pos.line, rawInt pos.col, .ref c'])) led (led' c'))
    (h : ∀ f c' ctv s', St base os₀ ((f, objA (kla_obj name qual params body scope clos ((mg "__name__").getD .none) c' ctv)) :: (c', codeA qual) :: led' c') s' → Q (.ref f) s') :
    wpAny M A (makeFunction name qual params (.expr body) scope env [] [] [] pos firstLine) Q E s := by
  have hm := (U 0).mem
  obtain ⟨hgP, hb⟩ := G.builtinsAt H hm
  obtain ⟨o, ho, rfl⟩ := H.get hm
  refine kla_makeFunction (mg := mg) hcl hge0 (G.g.keeps H.keep) hcode (C.keeps H.keep) ho ht hnf hgP hb fun c' ctv h' tk hx hge hlt hrec htb => ?_
  exact h _ c' ctv _ (H.made (U c') hx hge hlt hrec htb rfl)

end
end Mine

namespace Mine
open PySem PySem.W PyProof.Rows PySem.Calls PySem.Spec
section
variable {prog : Program} {w : World} {A : Around} {E : Value → Shared → Prop} {s : Shared} {base : Heap} {os₀ : OsState} {led led' : Led} {env : Env} {e : Addr} {cls : String}

theorem l_append {l : Addr} {vs : List Value} {x : Value} {Q : Value → Shared → Prop} (H : St base os₀ led s) (U : Up l (lstA vs) (lstA (vs ++ [x])) led led') (h : ∀ s', St base os₀ led' s' → Q .none s') (hsz : vs.length ≤ sizeLine := by size_fits) :
    wpAny (model prog w) A (call (.builtin "list.append") [.ref l, x]) Q E s := by
  obtain ⟨o, ho, n, rfl⟩ := H.get U.mem
  exact append_at ho (fun h' hs ho' => h _ (H.upd (tk := s.toks) U hs.extBut ⟨_, ho', n + 1, by rw [List.push_toArray]⟩)) (by rw [List.size_toArray]; exact hsz)

/-- a method of a list, called with one argument -/
theorem l_append_stmt {o a : Expr} {apos pos : Pos} {l : Addr} {pl : Sem Bool} {Q : Value → Shared → Prop}
    (h : wpAny (model prog w) A (eval o env) (fun ov s₁ => ov = .ref l ∧ (∃ ob, s₁.heap.get? l = some ob ∧ ob.cls = .type "list" ∧ ob.dict = none) ∧ wpAny (model prog w) A (eval a env) (fun v s₂ => wpAny (model prog w) A (call (.builtin "list.append") [.ref l, v]) Q E s₂) E s₁) E s)
    (he : eval (.Call (.Attribute o (Str.ofString "append") apos) [a] [] pos) env = (do
      let ov ← eval o env
      standAt apos.atName
      let (f, first) ← holding [ov] (getMethod ov (Str.ofString "append") pl)
      callWith pos f first (backTo pos (starEach [a] env)) (backToKw pos (keywordEach [] env))) := by rfl)
    (ha : starEach [a] env = [(false, eval a env)] := by rfl) :
    wpAny (model prog w) A (eval (.Call (.Attribute o (Str.ofString "append") apos) [a] [] pos) env) Q E s := by
  refine methodCall_KW (pl := pl) (wpAny_mono h (fun ov s₁ h₁ => ?_) fun _ _ x => x) he
  obtain ⟨rfl, ⟨ob, ho, hc, hd⟩, h₁⟩ := h₁
  refine getMethod_list_append ho hc hd ?_
  rw [ha]
  exact callWith_builtin rfl (evalArgs_plain (spliced_cons (wpAny_mono h₁ (fun v s₂ h₂ => spliced_nil h₂) fun _ _ x => x)))
end
end Mine

namespace Mine
open PySem PySem.W PyProof.Rows PySem.Calls PySem.Spec
/-- one entry is taken out of a ledger -/
inductive Pick (a : Addr × Asn) : Led → Led → Prop
  | head {l} : Pick a (a :: l) l
  | tail {b l l'} : Pick a l l' → Pick a (b :: l) (b :: l')
theorem Pick.perm {a : Addr × Asn} {l l' l'' : Led} (h : Pick a l l') (hp : l''.Perm l') : (a :: l'').Perm l := by
  have : (a :: l').Perm l := by
    clear hp
    induction h with
    | head => exact .refl _
    | tail _ ih => exact (List.Perm.swap ..).trans (ih.cons _)
  exact (hp.cons a).trans this
def itA (l : Addr) (i : Nat) : Asn := fun o => o.cls = .type "list_iterator" ∧ o.data = .fields #[.ref l, .int i 0]
section
variable {prog : Program} {w : World} {A : Around} {E : Value → Shared → Prop} {s : Shared} {base : Heap} {os₀ : OsState} {led led' : Led} {env : Env}

theorem item_l {value slice : Expr} {a : Addr} {vs : List Value} {k : Int} {u : Tok} {x : Value} {Q : Value → Shared → Prop} (H : St base os₀ led s) (hm : (a, lstA vs) ∈ led)
    (h0 : 0 ≤ k) (hfit : k < 2 ^ 63) (hx : vs[k.toNat]? = some x) (h : Q x s)
    (hs : subscripted slice false (.ref a) (.int k u) = operate [.ref a, .int k u] (getItem (.ref a) (.int k u)) := by with_unfolding_all rfl) :
    wpAny (model prog w) A (subscriptTail value slice (.ref a) (.int k u)) Q E s :=
  item_listR (H.isList hm) h0 hfit (by simpa using hx) h hs

/-- the loop over a list of the ledger -/
theorem for_turns {R : Result → Shared → Prop} {target : Expr} {body : List Stmt} {I l : Addr} {vs : List Value} (J : Nat → Led → Prop) (hh : A.handled = none)
    (turn : ∀ i v led s E', vs[i]? = some v → J i led → St base os₀ ((I, itA l (i + 1)) :: (l, lstA vs) :: led) s →
      wpAny (model prog w) A (assign target env v) (fun _ s₂ => wpAny (model prog w) A (execs body env) (fun f s₃ => match f with
        | .next | .cont => ∃ led', J (i + 1) led' ∧ St base os₀ ((I, itA l (i + 1)) :: (l, lstA vs) :: led') s₃
        | .brk => R (.ok .next) s₃
        | .ret v => R (.ok (.ret v)) s₃) E' s₂) E' s)
    (fin : ∀ led s, J vs.length led → St base os₀ ((l, lstA vs) :: led) s → R (.ok .next) s)
    (H : St base os₀ ((I, itA l 0) :: (l, lstA vs) :: led) s) (h0 : J 0 led)
    (ht : ∀ v, letOwnedTupleGo target (.ref I) v = pure () := by intro _; rfl) :
    codeAny (model prog w) A (.forLoop target (.ref I) body [] env) R s := by
  refine codeAny_forLoop (fun k s' => ∃ i led', k = vs.length + 1 - i ∧ i ≤ vs.length ∧ J i led' ∧ St base os₀ ((I, itA l i) :: (l, lstA vs) :: led') s') ?_ (vs.length + 1) ⟨0, led, rfl, Nat.zero_le _, h0, H⟩ ht
  rintro k s' ⟨i, led', rfl, hi, hJ, H'⟩
  have hl := H'.isList (vs := vs) (a := l) (.tail _ (.head _))
  obtain ⟨oi, hoi, hic, hid⟩ := H'.get (.head _)
  have hit : s'.heap.IsListIter I l i := ⟨oi, hoi, hic, hid⟩
  by_cases hlt : i < vs.length
  · refine wpAny_pyNext_list_item hit hl (x := vs[i]) (by simp [hlt]) fun h' hit' hs' => ?_
    obtain ⟨oi', hoi', hic', hid'⟩ := hit'
    have H₁ : St base os₀ ((I, itA l (i + 1)) :: (l, lstA vs) :: led') { s' with heap := h' } := H'.upd (tk := s'.toks) .head hs'.extBut ⟨oi', hoi', hic', hid'⟩
    refine wpAny_mono (turn i vs[i] led' _ _ (by simp [hlt]) hJ H₁) (fun _ s₂ h₂ => wpAny_mono h₂ (fun f s₃ h₃ => ?_) fun _ _ x => x) fun _ _ x => x
    cases f with
    | next => obtain ⟨led'', hJ', H''⟩ := h₃; exact ⟨vs.length + 1 - (i + 1), by omega, i + 1, led'', rfl, hlt, hJ', H''⟩
    | cont => obtain ⟨led'', hJ', H''⟩ := h₃; exact ⟨vs.length + 1 - (i + 1), by omega, i + 1, led'', rfl, hlt, hJ', H''⟩
    | brk => exact h₃
    | ret v => exact h₃
  · have hin : i = vs.length := by omega
    subst hin
    refine wpAny_pyNext_list_end hh hit hl (by simp) fun h' he' => wpAny_execs_nil (fin led' _ hJ ?_)
    have H₁ : St base os₀ ((l, lstA vs) :: led') s' := H'.sub (.cons _ (.refl _))
    refine ⟨fun b o e => he' b o (fun q => ?_) (H'.keep b o e), H₁.nd, fun p hp => ?_, H₁.new, H₁.gens, H₁.os⟩
    · have := H'.new _ (.head _)
      simp only at this
      rw [← q, e] at this; cases this
    · obtain ⟨o, ho, hP⟩ := H₁.has p hp
      exact ⟨o, he' _ _ (H'.ne hp) ho, hP⟩

theorem for_list {target iter : Expr} {body : List Stmt} {pos : Pos} {Q : Flow → Shared → Prop} (J : Nat → Led → Prop) (hh : A.handled = none)
    (h : wpAny (model prog w) A (eval iter env) (fun x s₁ => ∃ l vs led, x = .ref l ∧ St base os₀ ((l, lstA vs) :: led) s₁ ∧ J 0 led ∧
      (∀ I i v led s E', vs[i]? = some v → J i led → St base os₀ ((I, itA l (i + 1)) :: (l, lstA vs) :: led) s →
        wpAny (model prog w) A (assign target env v) (fun _ s₂ => wpAny (model prog w) A (execs body env) (fun f s₃ => match f with
          | .next | .cont => ∃ led', J (i + 1) led' ∧ St base os₀ ((I, itA l (i + 1)) :: (l, lstA vs) :: led') s₃
          | .brk => Q .next s₃
          | .ret v => Q (.ret v) s₃) E' s₂) E' s) ∧
      (∀ led s, J vs.length led → St base os₀ ((l, lstA vs) :: led) s → Q .next s)) E s)
    (hs : ∀ x, foldedSetIterable iter env x = pure x := by intro _; rfl)
    (ht : ∀ I v, letOwnedTupleGo target (.ref I) v = pure () := by intro _ _; rfl) :
    wpAny (model prog w) A (exec (.For target iter body [] pos) env) Q E s := by
  refine wpAny_For (wpAny_mono h (fun x s₁ h₁ => ?_) fun _ _ x => x) hs
  obtain ⟨l, vs, led, rfl, H, h0, turn, fin⟩ := h₁
  refine wpAny_pyIter_list (H.isList (.head _)) ?_
  exact for_turns J hh (fun i v led s E' hv hJ H' => turn _ i v led s E' hv hJ H') fin (H.push (tk := s₁.toks) rfl ⟨rfl, rfl⟩) h0 (ht _)

/-- room for all that the laws do -/
structure Room (prog : Program) (w : World) (A : Around) (base : Heap) : Prop where
  depth : A.depth + 200 < recursionLimit
  units : A.units + 64 < cLine
  handled : A.handled = none
  pylong : ∀ s : Shared, (∀ b o, base.get? b = some o → s.heap.get? b = some o) → PylongRoom (model prog w) A s

theorem i_fdiv {a b : Int} {t u : Tok} {Q : Value → Shared → Prop} (R : Room prog w A base) (H : St base os₀ led s) (hb : b ≠ 0) (h : ∀ t' s', St base os₀ led s' → Q (.int (a.fdiv b) t') s') :
    wpAny (model prog w) A (binaryOp .FloorDiv (.int a t) (.int b u)) Q E s :=
  PyProof.Rows.floordiv_int hb (h _ _ H.tok) (.inr (R.pylong s H.keep))
theorem i_mod {a b : Int} {t u : Tok} {Q : Value → Shared → Prop} (H : St base os₀ led s) (hb : b ≠ 0) (h : ∀ t' s', St base os₀ led s' → Q (.int (a.fmod b) t') s') :
    wpAny (model prog w) A (binaryOp .Mod (.int a t) (.int b u)) Q E s :=
  PyProof.Rows.mod_int hb (h _ _ H.tok)

/-! equality in one world -/
def EqW (prog : Program) (w : World) (A : Around) (s : Shared) (x y : Value) (b : Bool) : Prop :=
  ∀ (E : Value → Shared → Prop) (Q : Bool → Shared → Prop), Q b s → wpAny (model prog w) A (eqBool x y) Q E s
theorem EqW.self (v : Value) : EqW prog w A s v v true := fun E Q h => SeqAt.EqAt.same v prog w E Q h
end
end Mine

namespace Mine
open PySem PySem.W PyProof.Rows PySem.Calls PySem.Spec
open AutoSeq1 (wpAny_loadPart')
section
variable {prog : Program} {w : World} {A : Around} {E : Value → Shared → Prop} {s : Shared} {base : Heap} {os₀ : OsState} {led led' : Led} {env : Env}

/-- the loop of the comparison of two lists of one length -/
theorem list_loop_same {l b : Addr} {vs us : List Value} {n n2 : Nat} {dd dd2 : Option Addr} {sl sl2 : Array (Option Value)} {R : Result → Shared → Prop} {op : Int} {r : Bool} (hop : op = 2 ∧ r = true ∨ op = 3 ∧ r = false) (hlen : vs.length = us.length)
    (ho : s.heap.get? l = some { cls := .type "list", dict := dd, data := .seq vs.toArray n, slots := sl }) (ho2 : s.heap.get? b = some { cls := .type "list", dict := dd2, data := .seq us.toArray n2, slots := sl2 })
    (he : ∀ p ∈ vs.zip us, EqW prog w A.in1 s p.1 p.2 true) (h : R (.ok (.ret (.bool r))) s) :
    ∀ k i : Nat, vs.length - i = k → codeAny (model prog w) A (.builtin "list.__eq__.loop" ⟨[.ref l, .ref b, rawInt i, rawInt op], []⟩) R s := by
  intro k
  induction k with
  | zero =>
    intro i hk
    refine codeAny_builtin MeetsSeq3.entry_eq_loop ?_
    rw [Around.under_plainId MeetsSeq3.plain_eq_loop _]
    obtain ⟨hp, g, d, tk, os⟩ := s
    have hi1 : vs.toArray[((i : Nat) : Int).toNat]? = none := by simp; omega
    have hi2 : us.toArray[((i : Nat) : Int).toNat]? = none := by simp; omega
    rcases hop with ⟨rfl, rfl⟩ | ⟨rfl, rfl⟩
    · wp_walk using wpAny_loadPart' ho, wpAny_loadPart' ho2
      rw [hi1, hi2]
      wp_walk using wpAny_loadPart' ho, wpAny_loadPart' ho2
      show R (.ok (.ret (.bool (vs.toArray.size == us.toArray.size)))) _
      simpa [hlen] using h
    · wp_walk using wpAny_loadPart' ho, wpAny_loadPart' ho2
      rw [hi1, hi2]
      wp_walk using wpAny_loadPart' ho, wpAny_loadPart' ho2
      show R (.ok (.ret (.bool (vs.toArray.size != us.toArray.size)))) _
      simpa [hlen] using h
  | succ k ih =>
    intro i hk
    refine codeAny_builtin MeetsSeq3.entry_eq_loop ?_
    rw [Around.under_plainId MeetsSeq3.plain_eq_loop _]
    have hlt : i < vs.length := by omega
    have hlt2 : i < us.length := by omega
    have hi1 : vs.toArray[((i : Nat) : Int).toNat]? = some vs[i] := by simp [hlt]
    have hi2 : us.toArray[((i : Nat) : Int).toNat]? = some us[i] := by simp [hlt2]
    have hc : ((i : Int) + 1) = ((i + 1 : Nat) : Int) := by push_cast; rfl
    have hz : EqW prog w A.in1 s vs[i] us[i] true := he (vs[i], us[i]) (List.mem_of_getElem? (i := i) (by simp [List.getElem?_zip_eq_some, hlt, hlt2]))
    have hn := ih (i + 1) (by omega)
    obtain ⟨hp, g, d, tk, os⟩ := s
    rcases hop with ⟨rfl, rfl⟩ | ⟨rfl, rfl⟩
    · wp_walk using wpAny_loadPart' ho, wpAny_loadPart' ho2
      rw [hi1, hi2]
      refine wpAny_bind (hz _ _ ?_)
      wp_walk
      rw [hc]
      exact ⟨plainId_quiet MeetsSeq3.plain_eq_loop _, hn⟩
    · wp_walk using wpAny_loadPart' ho, wpAny_loadPart' ho2
      rw [hi1, hi2]
      refine wpAny_bind (hz _ _ ?_)
      wp_walk
      rw [hc]
      exact ⟨plainId_quiet MeetsSeq3.plain_eq_loop _, hn⟩
theorem list_ne_same {l b : Addr} {vs us : List Value} {Q : Value → Shared → Prop} (hl : s.heap.IsList l vs.toArray) (hb : s.heap.IsList b us.toArray) (hlen : vs.length = us.length) (hur : A.units < cLine)
    (he : ∀ p ∈ vs.zip us, EqW prog w A.in1 s p.1 p.2 true) (h : Q (.bool false) s) : wpAny (model prog w) A (richCompare .NotEq (.ref l) (.ref b)) Q E s := by
  obtain ⟨⟨cls, dd, data, sl⟩, ho, hc, n, hd⟩ := hl
  obtain ⟨⟨cls2, dd2, data2, sl2⟩, ho2, hc2, n2, hd2⟩ := hb
  simp only at hc hd hc2 hd2
  subst hc hd hc2 hd2
  have hT : s.TypeIs (.ref l) "list" := ⟨_, ho, rfl⟩
  refine wpAny_richCompare_same_room (op := .NotEq) hT ⟨_, ho2, rfl⟩ PySem.F.slot_list_ne ?_ hur
  refine wpAny_call (codeAny_call_builtin PySem.F.slot_list_ne.plain PySem.F.entry_list_ne (PySem.F.slot_list_ne.check _ _ _ _ _ _ _ _ hT (PySem.F.args_list_ne_2 _ _) ?_))
  have f3 := AutoSeq1.sub_list_list
  have hne : ¬ (vs.toArray.size != us.toArray.size) = true := by simp [hlen]
  have hloop := list_loop_same (prog := prog) (w := w) (A := A) (R := fun r s' => match r with | .ok (.ret v) => v ≠ .notImplemented ∧ Q v s' | .ok _ => False | .error e => E e s') (.inr ⟨rfl, rfl⟩) hlen ho ho2 he ⟨(fun x => nomatch x), h⟩ _ 0 rfl
  obtain ⟨hp, g, d, tk, os⟩ := s
  wp_walk using wpAny_loadPart' ho, wpAny_loadPart' ho2
  exact ⟨plainId_quiet MeetsSeq3.plain_eq_loop _, hloop⟩
end
end Mine

namespace Mine
open PySem PySem.W PyProof.Rows PySem.Calls PySem.Spec
/-- an iterator in the ledger -/
structure Iter (prog : Program) (w : World) (A : Around) (base : Heap) (os₀ : OsState) (I : Addr) (n : Nat) (P : Nat → Value → Prop) (itP : Nat → Asn) (side : Led) : Prop where
  item : ∀ i led s (Q : Option Value → Shared → Prop) (E : Value → Shared → Prop), i < n → St base os₀ ((I, itP i) :: (side ++ led)) s → (∀ v s', P i v → St base os₀ ((I, itP (i + 1)) :: (side ++ led)) s' → Q (some v) s') → wpAny (model prog w) A (pyNext (.ref I)) Q E s
  done : ∀ led s (Q : Option Value → Shared → Prop) (E : Value → Shared → Prop), St base os₀ ((I, itP n) :: (side ++ led)) s → (∀ s', St base os₀ (side ++ led) s' → Q none s') → wpAny (model prog w) A (pyNext (.ref I)) Q E s
  self : ∀ led s (Q : Value → Shared → Prop) (E : Value → Shared → Prop), St base os₀ ((I, itP 0) :: (side ++ led)) s → Q (.ref I) s → wpAny (model prog w) A (pyIter (.ref I)) Q E s
section
variable {prog : Program} {w : World} {A : Around} {E : Value → Shared → Prop} {s : Shared} {base : Heap} {os₀ : OsState} {led led' : Led} {env : Env} {I l : Addr} {vs : List Value}

theorem St.gone {P : Asn} (H : St base os₀ ((I, P) :: led) s) {h' : Heap} {tk : Nat} (he : ∀ b o, b ≠ I → s.heap.get? b = some o → h'.get? b = some o) : St base os₀ led { s with heap := h', toks := tk } where
  keep := fun b o e => he b o (fun q => by have := H.new _ (.head _); simp only at this; rw [← q, e] at this; cases this) (H.keep b o e)
  nd := (H.sub (.cons _ (.refl _))).nd
  has := fun p hp => by obtain ⟨o, ho, hP⟩ := H.has p (.tail _ hp); exact ⟨o, he _ _ (H.ne hp) ho, hP⟩
  new := fun p hp => H.new p (.tail _ hp)
  gens := H.gens
  os := H.os

def rngA (n i : Nat) : Asn := fun o => o = { cls := .type "range_iterator", dict := none, data := .fields #[rawInt (0 + (i : Nat) * 1), rawInt ((n : Int) - (i : Nat)), rawInt 1], slots := #[] }
theorem Iter.range {n : Nat} (hh : A.handled = none) : Iter prog w A base os₀ I n (fun i v => ∃ t, v = .int i t) (rngA n) [] where
  item := fun i led s Q E hi H h => by
    obtain ⟨oi, hoi, rfl⟩ := H.get (.head _)
    refine (Walks.range (prog := prog) (w := w) hh I 0 1 n).item i s Q E hi hoi fun v h' tk hv hit hk => h v _ ?_ ?_
    · obtain ⟨t, rfl⟩ := hv; exact ⟨t, by congr 1; omega⟩
    · exact H.upd .head (fun b o hb e => hk b o (by simpa using hb) e) ⟨_, hit, rfl⟩
  done := fun led s Q E H h => by
    obtain ⟨oi, hoi, rfl⟩ := H.get (.head _)
    exact (Walks.range (prog := prog) (w := w) hh I 0 1 n).done s Q E hoi fun h' tk hk => h _ (H.gone (fun b o hb e => hk b o (by simpa using hb) e))
  self := fun led s Q E H h => by
    obtain ⟨oi, hoi, rfl⟩ := H.get (.head _)
    exact (Walks.range (prog := prog) (w := w) hh I 0 1 n).self 0 s Q E hoi h

theorem for_iter {R : Result → Shared → Prop} {target : Expr} {body : List Stmt} {n : Nat} {P : Nat → Value → Prop} {itP : Nat → Asn} {side : Led} (W : Iter prog w A base os₀ I n P itP side) (J : Nat → Led → Prop)
    (turn : ∀ i v led s E', i < n → P i v → J i led → St base os₀ ((I, itP (i + 1)) :: (side ++ led)) s →
      wpAny (model prog w) A (assign target env v) (fun _ s₂ => wpAny (model prog w) A (execs body env) (fun f s₃ => match f with
        | .next | .cont => ∃ led', J (i + 1) led' ∧ St base os₀ ((I, itP (i + 1)) :: (side ++ led')) s₃
        | .brk => R (.ok .next) s₃
        | .ret v => R (.ok (.ret v)) s₃) E' s₂) E' s)
    (fin : ∀ led s, J n led → St base os₀ (side ++ led) s → R (.ok .next) s)
    (H : St base os₀ ((I, itP 0) :: (side ++ led)) s) (h0 : J 0 led)
    (ht : ∀ v, letOwnedTupleGo target (.ref I) v = pure () := by intro _; rfl) :
    codeAny (model prog w) A (.forLoop target (.ref I) body [] env) R s := by
  refine codeAny_forLoop (fun k s' => ∃ i led', k = n + 1 - i ∧ i ≤ n ∧ J i led' ∧ St base os₀ ((I, itP i) :: (side ++ led')) s') ?_ (n + 1) ⟨0, led, rfl, Nat.zero_le _, h0, H⟩ ht
  rintro k s' ⟨i, led', rfl, hi, hJ, H'⟩
  by_cases hlt : i < n
  · refine W.item i led' s' _ _ hlt H' fun v s₁ hv H₁ => ?_
    refine wpAny_mono (turn i v led' _ _ hlt hv hJ H₁) (fun _ s₂ h₂ => wpAny_mono h₂ (fun f s₃ h₃ => ?_) fun _ _ x => x) fun _ _ x => x
    cases f with
    | next => obtain ⟨led'', hJ', H''⟩ := h₃; exact ⟨n + 1 - (i + 1), by omega, i + 1, led'', rfl, hlt, hJ', H''⟩
    | cont => obtain ⟨led'', hJ', H''⟩ := h₃; exact ⟨n + 1 - (i + 1), by omega, i + 1, led'', rfl, hlt, hJ', H''⟩
    | brk => exact h₃
    | ret v => exact h₃
  · have hin : i = n := by omega
    subst hin
    exact W.done led' s' _ _ H' fun s₁ H₁ => wpAny_execs_nil (fin led' _ hJ H₁)

theorem r_new {n : Nat} {t : Tok} {Q : Value → Shared → Prop} (H : St base os₀ led s) (h : ∀ r s', (∃ t1 t2, St base os₀ ((r, objA { cls := .type "range", data := .fields #[.int 0 t1, .int n t, .int 1 t2] }) :: led) s') → Q (.ref r) s') :
    wpAny (model prog w) A (call (.type "range") [.int n t]) Q E s := call_range_1 (h _ _ ⟨_, _, H.push (tk := s.toks + 1 + 1) rfl rfl⟩)
theorem r_iter {r : Addr} {n : Nat} {t1 t t2 : Tok} {Q : Value → Shared → Prop} (hn : (n : Int) < 2 ^ 62) (H : St base os₀ ((r, objA { cls := .type "range", data := .fields #[.int 0 t1, .int n t, .int 1 t2] }) :: led) s)
    (h : ∀ I s', St base os₀ ((I, rngA n 0) :: led) s' → Q (.ref I) s') : wpAny (model prog w) A (pyIter (.ref r)) Q E s := by
  obtain ⟨o, ho, rfl⟩ := H.get (.head _)
  refine wpAny_pyIter_range ho (small_one (by decide) (by decide) (by omega) hn) (h _ _ ?_)
  have e : Builtin.Range.rangeSize 0 n 1 = (n : Int) := by rw [rangeSize_one]; split <;> omega
  rw [e]
  refine (H.push (tk := s.toks) (P := rngA n 0) rfl ?_).sub (.cons_cons _ (.cons _ (.refl _)))
  show _ = _
  simp
theorem for_range {n : Nat} {t1 t t2 : Tok} {r : Addr} {x : Str} {px pos : Pos} {iter : Expr} {body : List Stmt} {Q : Flow → Shared → Prop} (J : Nat → Led → Prop) (hh : A.handled = none) (hn : (n : Int) < 2 ^ 62)
    (h : wpAny (model prog w) A (eval iter env) (fun v s₁ => ∃ r t1 t t2 led, v = .ref r ∧ St base os₀ ((r, objA { cls := .type "range", data := .fields #[.int 0 t1, .int n t, .int 1 t2] }) :: led) s₁ ∧ J 0 led) E s)
    (turn : ∀ I i v led s E', i < n → (∃ t, v = .int i t) → J i led → St base os₀ ((I, rngA n (i + 1)) :: led) s →
      wpAny (model prog w) A (assign (.Name x px) env v) (fun _ s₂ => wpAny (model prog w) A (execs body env) (fun f s₃ => match f with
        | .next | .cont => ∃ led', J (i + 1) led' ∧ St base os₀ ((I, rngA n (i + 1)) :: led') s₃
        | .brk => Q .next s₃
        | .ret v => Q (.ret v) s₃) E' s₂) E' s)
    (fin : ∀ led s, J n led → St base os₀ led s → Q .next s)
    (hs : ∀ x, foldedSetIterable iter env x = pure x := by intro _; rfl) :
    wpAny (model prog w) A (exec (.For (.Name x px) iter body [] pos) env) Q E s := by
  refine wpAny_For (wpAny_mono h (fun v s₁ h₁ => ?_) fun _ _ x => x) hs
  obtain ⟨r, t1, t, t2, led, rfl, H, h0⟩ := h₁
  refine r_iter hn H fun I s₂ H₂ => ?_
  exact for_iter (Iter.range hh) J (fun i v led s E' hi hv hJ H' => turn I i v led s E' hi hv hJ H') (fun led s hJ H' => fin led s hJ H') H₂ h0

end
end Mine

namespace Mine
open PySem PySem.W PyProof.Rows PySem.Calls PySem.Spec
theorem St.grown {base : Heap} {os₀ : OsState} {led : Led} {s : Shared} (H : St base os₀ led s) {h' : Heap} {tk : Nat} (hx : Heap.ExtBut s.heap.objs.size s.heap h') : St base os₀ led { s with heap := h', toks := tk } :=
  H.ext fun b o e => hx b o (Nat.ne_of_lt (Heap.lt_size e)) e
section
variable {prog : Program} {w : World} {A : Around} {E : Value → Shared → Prop} {s : Shared} {base : Heap} {os₀ : OsState} {led tl : Led} {m : Str → Option Value} {a : Addr} {vs : List Value}
theorem St.push2 (H : St base os₀ led s) {tk : Nat} {o₁ o : Obj} {P : Asn} (hf₁ : o₁.isFreed = false) (hf : o.isFreed = false) (hp : P o) : St base os₀ ((s.heap.objs.size + 1, P) :: led) { s with heap := (s.heap.push o₁).push o, toks := tk } := by
  have H₁ := H.push (tk := tk) (P := fun _ => True) hf₁ trivial
  have H₂ := H₁.push (tk := tk) (P := P) hf hp
  have e : (s.heap.push o₁).objs.size = s.heap.objs.size + 1 := Heap.size_push ..
  simp only [e] at H₂
  exact H₂.sub (.cons_cons _ (.cons _ (.refl _)))
def AllInt (vs : List Value) : Prop := ∀ v ∈ vs, ∃ n t, v = Value.int n t
/-- a slice from the front -/
theorem l_front {env : Env} {x : Str} {k : Nat} {i : Int} {p1 p2 p3 p4 : Pos} {Q : Value → Shared → Prop} (H : St base os₀ led s) (hm : (env.locals, nsA m) ∈ led) (hv : m x = some (.ref a)) (hl : base.IsList a vs.toArray) (hi : AllInt vs) (hsz : vs.length ≤ sizeLine)
    (h : ∀ r us s', AllInt us → us.length ≤ vs.length → St base os₀ ((r, lstA us) :: led) s' → Q (.ref r) s')
    (hk : env.scope.kind = .function := by rfl) (hx : env.kindOf x = some .local := by rfl) (hd : (x == ("__debug__" : Str)) = false := by decide) :
    wpAny (model prog w) A (eval (.Subscript (.Name x p1) (.Slice none (some (.Constant (.int i) k p2)) none p3) p4) env) Q E s := by
  refine wpAny_Subscript_list_slice (nm_l H hm hv (evalPart_none_step (evalPart_some_step (c_int H fun t s₁ H₁ => ⟨a, vs.toArray, none, some i, rfl, ?_, by simpa using hsz, .none, .int i t, ?_⟩))) hk hx hd)
  · obtain ⟨o, ho, r⟩ := hl; exact ⟨o, H₁.keep _ _ ho, r⟩
  · refine h _ (slicePick vs.toArray none (some i) none).toList _ ?_ ?_ (H₁.push2 (tk := s₁.toks) rfl rfl ⟨0, by simp⟩)
    · intro v hv
      unfold slicePick at hv
      simp only [List.mem_filterMap] at hv
      obtain ⟨j, _, hj⟩ := hv
      exact hi v (List.mem_of_getElem? (by simpa using hj))
    · have := slicePick_size_le vs.toArray none (some i) none
      simpa using this

theorem l_set {l : Addr} {vs : List Value} {k : Int} {t : Tok} {v : Value} {led' : Led} {Q : Unit → Shared → Prop} (H : St base os₀ led s) (U : Up l (lstA vs) (lstA (vs.set k.toNat v)) led led') (h0 : 0 ≤ k) (hfit : k < 2 ^ 63) (hn : k < vs.length)
    (h : ∀ s', St base os₀ led' s' → Q () s') : wpAny (model prog w) A (setItem (.ref l) (.int k t) v) Q E s := by
  obtain ⟨o, ho, n, rfl⟩ := H.get U.mem
  refine ki_setAt (n := n) ho h0 hfit (by simpa using hn) (h _ (H.upd (tk := s.toks) U (Heap.SameBut.update ..).extBut ?_))
  have := PySem.IsL.update (n := n) ho (·.setIfInBounds k.toNat v)
  simp only [List.setIfInBounds_toArray] at this
  exact ⟨_, this, _, rfl⟩
/-- list(range(n)) -/
theorem l_range {n : Nat} {r : Addr} {t1 t t2 : Tok} {Q : Value → Shared → Prop} (hh : A.handled = none) (hn : n ≤ 2 ^ 24) (H : St base os₀ ((r, objA { cls := .type "range", data := .fields #[.int 0 t1, .int n t, .int 1 t2] }) :: led) s)
    (h : ∀ l vs s', vs.length = n → (∀ i, i < n → ∃ t, vs[i]? = some (.int (i : Nat) t)) → St base os₀ ((l, lstA vs) :: led) s' → Q (.ref l) s') : wpAny (model prog w) A (call (.type "list") [.ref r]) Q E s := by
  obtain ⟨o, ho, rfl⟩ := H.get (.head _)
  have e : Builtin.Range.rangeSize 0 n 1 = (n : Int) := by rw [rangeSize_one]; split <;> omega
  refine call_list_range hh ho (small_one (by decide) (by decide) (by omega) (by omega)) e hn fun h' tk acc c' hk hl hi => ?_
  refine h _ acc.toList _ (by simpa using hi.1) (fun i hlt => ?_) ((H.sub (.cons _ (.refl _))).more hk (Nat.le_refl _) hl ⟨c', by simp⟩)
  have hlt' : i < acc.size := by rw [hi.1]; exact hlt
  obtain ⟨t', ht'⟩ := hi.2 i acc[i] (by simp [hlt'])
  exact ⟨t', by simp [hlt', ht']⟩
end
theorem allInt_of {vs : List Value} {ns : List Int} (h : IntsAre vs ns) : AllInt vs ∧ vs.length = ns.length := by
  induction h with
  | nil => exact ⟨fun v hv => (by cases hv), rfl⟩
  | cons n t _ ih =>
    refine ⟨fun v hv => ?_, by simp [ih.2]⟩
    rcases List.mem_cons.mp hv with rfl | hv
    · exact ⟨n, t, rfl⟩
    · exact ih.1 v hv
theorem good_true {l : OpenLaw} {cl : Str → Option Addr} {mean : ExcName → Option Value} {args : List WData} {s₁ s' : Shared} (hk : ∀ b o, s₁.heap.get? b = some o → s'.heap.get? b = some o) (ho : s'.os = s₁.os) (hg : s'.gens = #[]) :
    GoodW l.row.claim cl mean args s₁ (.ok (.ret (.bool true))) s' :=
  ⟨.inl ⟨.bool true, .bool true, [], rfl, fun _ => rfl, .bool true, by with_unfolding_all rfl, fun _ => ⟨.nil, fun a h => by cases h⟩⟩, hk, ho, hg⟩
theorem ghost_seer {h₁ : Heap} {tabs : List (Addr × Addr)} (hT : TabsAt tabs h₁) (S : h₁.NoSeer) : (ghostOf h₁ tabs).NoSeer := by
  obtain ⟨⟨mc, x1, r1⟩, ⟨mm, x2, r2⟩, ⟨mb, x3, r3⟩, ⟨mg, bm, ob, x4, r4, x5, r5, r6⟩⟩ := S
  exact ⟨⟨mc, ghost_ns hT x1, r1⟩, ⟨mm, ghost_ns hT x2, r2⟩, ⟨mb, ghost_ns hT x3, r3⟩, ⟨mg, bm, ob, ghost_ns hT x4, r4, ghost_get hT x5 (fun e => by rw [e] at r5; cases r5), r5, r6⟩⟩
theorem gr_of {p : Program} {loose : List Str} {mean : ExcName → Option Value} {mg mb : Str → Option Value} {h : Heap} (T : Top p loose mean mg mb h) (S : h.NoSeer) : Gr h mg mb := by
  obtain ⟨mm, ⟨o, es, ep, ho, _⟩, _⟩ := S.mods
  exact ⟨T.g, T.b, T.nolimit, ⟨o, ho⟩, T.bmain⟩
theorem room_of {prog : Program} {w : World} {base : Heap} {env : Env} {p : Program} {loose : List Str} {mean : ExcName → Option Value} {mg mb : Str → Option Value} (T : Top p loose mean mg mb base) (S : base.NoSeer) (ht : prog.given.tree = none) (h1 : env.scope.isGenerator = false) (h2 : env.scope.isCoroutine = false) (h3 : env.builtins = builtinsNs) (h4 : env.globals = mainGlobals) : Room prog w (callerA.deeper env) base where
  depth := of_decide_eq_true (by with_unfolding_all rfl)
  units := of_decide_eq_true (by with_unfolding_all rfl)
  handled := rfl
  pylong := fun s hk => PylongRoom.of (T.nolimit.keeps hk) (of_decide_eq_true (by with_unfolding_all rfl)) (PySem.SeerAt.of (S.keeps hk) ht rfl h1 h2 h3 h4)
end Mine

namespace Mine
open PySem PySem.W PyProof.Rows PySem.Calls PySem.Spec
section
variable {prog : Program} {w : World} {A : Around} {E : Value → Shared → Prop} {s : Shared} {base : Heap} {os₀ : OsState} {led led' : Led} {env : Env} {I l : Addr} {vs : List Value}
/-- y = [elt for x in iter], where the name takes the list ahead of the block's end -/
theorem comp_assign {elt iter : Expr} {x y : Str} {px py : Pos} {scope : Scope} {pos spos : Pos} {Q : Flow → Shared → Prop}
    (hsw : swapsWith (.ListComp elt [⟨.Name x px, iter, [], 0⟩] scope pos) (some (.Name y py)) spos.line env = pure true)
    (h : wpAny (model prog w) A (eval iter env) (fun xv s₁ => wpAny (model prog w) A (pyIter xv) (fun it s₂ => ∃ I n P itP side led, ∃ J : Nat → List Value → Led → Prop, it = .ref I ∧ Iter prog w A base os₀ I n P itP side ∧ n ≤ sizeLine ∧ St base os₀ ((I, itP 0) :: (side ++ led)) s₂ ∧ J 0 [] led ∧
      (∀ C D i v ys mC led s E', i < n → P i v → J i ys led → mC x = some v → St base os₀ ((C, nsA mC) :: (D, lstA ys) :: (I, itP (i + 1)) :: (side ++ led)) s →
        wpAny (model prog w) A (eval elt (compEnv scope C env)) (fun y s' => ∃ led', J (i + 1) (ys ++ [y]) led' ∧ St base os₀ ((C, nsA mC) :: (D, lstA ys) :: (I, itP (i + 1)) :: (side ++ led')) s') E' s) ∧
      (∀ C mC D ys led s, J n ys led → ys.length = n → St base os₀ ((C, nsA mC) :: (D, lstA ys) :: (side ++ led)) s → wpAny (model prog w) A (storeName env y (.ref D)) (fun _ s' => ∃ led', St base os₀ ((C, nsA mC) :: led') s' ∧ ∀ s'', St base os₀ led' s'' → Q .next s'') E s)) E s₁) E s)
    (hfree : ∀ y ∈ scope.names, y.2 ≠ .free) (hcell : ∀ y ∈ scope.names, y.2 ≠ .cell) (hkind : scope.kind = .function)
    (hnames : ∀ y ∈ scope.names, y.2 = .local → scope.names.lookup y.1 = some .local) (hx : scope.names.lookup x = some .local)
    (hs : ∀ x, foldedSetIterable iter env x = pure x := by intro _; rfl) :
    wpAny (model prog w) A (exec (.Assign [.Name y py] (.ListComp elt [⟨.Name x px, iter, [], 0⟩] scope pos) spos) env) Q E s := by
  rw [exec_Assign_Name_used _ _ _ _ hsw]
  refine wpAny_bind (wpAny_standAt (wpAny_bind ?_))
  show wpAny _ A (do let _ ← comprehension (.ListComp elt [⟨.Name x px, iter, [], 0⟩] scope pos) scope env _ (newList []) false (eval iter env) (some (assign (.Name y py) env))) _ _ s
  refine wpAny_bind (wpAny_mono (wpAny_comprehension_use (Q := fun _ s' => Q .next s') rfl hs hfree hkind hnames (wpAny_mono h (fun xv s₁ h₁ => wpAny_mono h₁ (fun it s₂ h₂ => ?_) fun _ _ e => e) fun _ _ e => e))
    (fun _ s' hq => wpAny_pure (wpAny_pure hq)) fun _ _ e => e)
  obtain ⟨I, n, P, itP, side, led, J, rfl, W, hsz, H, h0, turn, fin⟩ := h₂
  refine new_list H fun D s₃ H₃ => ?_
  refine wpAny_newFunctionEnv hcell (by intro y hy; simp at hy) (fun h₁ hns₁ hsb₁ => ?_) hkind
  have H₄ : St base os₀ ((s₃.heap.objs.size, nsA fun x => ([] : List (Str × Value)).reverse.lookup x) :: (D, lstA []) :: (I, itP 0) :: (side ++ led)) { s₃ with heap := h₁, toks := s₃.toks + ([] : List (Str × Value)).length } := by
    obtain ⟨o', ho', hp'⟩ := nsA_of hns₁
    exact H₃.more (fun b o e => hsb₁.extBut b o (Nat.ne_of_lt (Heap.lt_size e)) (Heap.get?_push_of_some _ e)) (Nat.le_refl _) ho' hp'
  generalize s₃.heap.objs.size = C at H₄ ⊢
  generalize ({ s₃ with heap := h₁, toks := s₃.toks + ([] : List (Str × Value)).length } : Shared) = s₄ at H₄ ⊢
  have loop : ∀ s₄, St base os₀ ((C, nsA fun x => ([] : List (Str × Value)).reverse.lookup x) :: (D, lstA []) :: (I, itP 0) :: (side ++ led)) s₄ →
      codeAny (model prog w) A (.compLoop (.ListComp elt [⟨.Name x px, iter, [], 0⟩] scope pos) 0 (.ref I) (.ref D) (compEnv scope C env))
        (fun r s' => match r with
          | .ok _ => wpAny (model prog w) A (assign (.Name y py) env (.ref D)) (fun _ s'' => ∃ m, s''.heap.Ns C m ∧ ∀ h', Heap.SameBut C s''.heap h' → Q .next { s'' with heap := h' }) E s'
          | .error x => ∃ m, s'.heap.Ns C m ∧ ∀ h', Heap.SameBut C s'.heap h' → wpAny (model prog w) A (passOn "comprehension.variables-let-go" x (compEnv scope C env)) (fun (_ : Value) s' => Q .next s') E { s' with heap := h' }) s₄ := fun s₄ H₄ => by
    refine codeAny_compLoop_tests (fun k s' => ∃ i ys led' m, k = n + 1 - i ∧ i ≤ n ∧ ys.length = i ∧ J i ys led' ∧ St base os₀ ((C, nsA m) :: (D, lstA ys) :: (I, itP i) :: (side ++ led')) s') ?_ (n + 1) ⟨0, [], led, _, rfl, Nat.zero_le _, rfl, h0, H₄⟩
    rintro k s' ⟨i, ys, led', m, rfl, hi, hlen, hJ, H'⟩
    have p1 : ((I, itP i) :: (side ++ ((C, nsA m) :: (D, lstA ys) :: led'))).Perm ((C, nsA m) :: (D, lstA ys) :: (I, itP i) :: (side ++ led')) := by
      refine (List.Perm.cons _ (List.perm_append_comm_assoc side [_, _] led')).trans ?_
      exact (List.perm_middle (l₁ := [_, _])).symm
    by_cases hlt : i < n
    · refine W.item i _ s' _ _ hlt (H'.perm p1) fun v s₁ hv H₁ => ?_
      have H₂ : St base os₀ ((C, nsA m) :: (D, lstA ys) :: (I, itP (i + 1)) :: (side ++ led')) s₁ := by
        refine H₁.perm ?_
        refine (List.perm_middle (l₁ := [_, _])).trans ?_
        exact List.Perm.cons _ (List.perm_append_comm_assoc side [_, _] led').symm
      refine wpAny_assign_Name (st_l (env := compEnv scope C env) H₂ .head (fun s₂ H₃ => ?_) hkind hx)
      rw [List.forIn_nil]
      refine wpAny_pure (ite_pos rfl ?_)
      refine wpAny_mono (turn C D i v ys _ led' s₂ _ hlt hv hJ (if_pos rfl) H₃) (fun y s₃ h₃ => ?_) fun _ _ x => x
      obtain ⟨led'', hJ', H₄⟩ := h₃
      refine l_append H₄ (.tail .head) (fun s₄ H₅ => ⟨n + 1 - (i + 1), by omega, i + 1, ys ++ [y], led'', _, rfl, hlt, by simp [hlen], hJ', H₅⟩) (by omega)
    · have hin : i = n := by omega
      subst hin
      refine W.done _ s' _ _ (H'.perm p1) fun s₁ H₁ => ?_
      have H₂ : St base os₀ ((C, nsA m) :: (D, lstA ys) :: (side ++ led')) s₁ := H₁.perm (List.perm_append_comm_assoc side [_, _] led').symm
      refine wpAny_assign_Name (wpAny_mono (fin C m D ys led' _ hJ hlen H₂) (fun _ s₂ h₂ => ?_) fun _ _ x => x)
      obtain ⟨led'', H₅, hQ⟩ := h₂
      exact ⟨m, H₅.ns (.head _), fun h' hs' => hQ _ (H₅.gone (tk := s₂.toks) fun b o hb e => hs'.extBut b o hb e)⟩
  exact codeAny_compStart_list (loop _ H₄) (W.self _ _ _ _ (H₄.perm (led' := (I, itP 0) :: (side ++ ((C, nsA fun x => ([] : List (Str × Value)).reverse.lookup x) :: (D, lstA []) :: led))) (by
    refine (List.Perm.cons _ (List.perm_append_comm_assoc side [_, _] led)).trans ?_
    exact (List.perm_middle (l₁ := [_, _])).symm)) (loop _ H₄))
end
end Mine

namespace Mine
open PySem PySem.W PyProof.Rows PySem.Calls PySem.Spec
def nth (n : Nat) (l : List Stmt) : Stmt := match n, l with
  | 0, s :: _ => s
  | n + 1, _ :: r => nth n r
  | _, [] => .Pass default
def fnBody : Stmt → List Stmt | .FunctionDef _ _ b _ _ _ _ _ _ _ => b | _ => []
def fnPar : Stmt → Arguments | .FunctionDef _ a _ _ _ _ _ _ _ _ => a | _ => default
def fnScope : Stmt → Scope | .FunctionDef _ _ _ _ _ _ s _ _ _ => s | _ => default
def gniStmt : Stmt := nth 3 PySem.Challenge.pw_dm0069_12.main.body
/-- what is known of a def of the top -/
structure IsDef (base : Heap) (f : Addr) (st : Stmt) (fd : FuncData) : Prop where
  obj : ∃ o, base.get? f = some o ∧ o.data = .func fd
  body : fd.body = .stmts (fnBody st)
  par : fd.params = fnPar st
  scope : fd.scope = fnScope st
  clo : fd.closure = []
  glob : fd.globals = mainGlobals
  bi : fd.builtins = builtinsNs
  dflt : fd.defaults = .none
  code : base.CodeRec fd.code fd.qualname

section
variable {prog : Program} {w : World} {A : Around} {E : Value → Shared → Prop} {s : Shared} {base : Heap} {os₀ : OsState} {led : Led}

/-- with a lookup: what the lookup does is the caller's to say -/
theorem gni_call {f g : Addr} {fd : FuncData} {o₀ : Obj} {v : Value} {kws : List (Str × Value)} {Q : Value → Shared → Prop} (D : IsDef base f gniStmt fd) (hlim : base.NoLimit) (hsys : base.get? sysModules = some o₀)
    (H : St base os₀ led s) (hroom : A.depth < recursionLimit) (hk1 : ∀ k ∈ kws.map (·.1), k ∉ [Str.ofString "name_index", Str.ofString "get_name"]) (hk2 : (kws.map (·.1)).Nodup) (hk3 : kws.length ≤ sizeLine)
    (h : ∀ env L m d₁ d₂ s₁, env = callEnv fd L f → St base os₀ ((d₂, dctA (strKind prog w) kws) :: (L, nsA m) :: (d₁, dctA (strKind prog w) kws) :: led) s₁ →
      (∃ o gd, s₁.heap.get? g = some o ∧ o.data = .func gd) ∧
      wpAny (model prog w) (A.deeper env) (call (.ref g) [v] kws) (fun r s₂ => ∃ front led₂, St base os₀ (front ++ (L, nsA m) :: led₂) s₂ ∧ ∀ a s₃, St base os₀ ((a, tupA [r, r]) :: led₂) s₃ → Q (.ref a) s₃)
        (fun e s₂ => wpAny (model prog w) (A.deeper env) (leaving env e) (fun _ s₃ => E e s₃) (fun e' s₃ => E e' s₃) s₂) s₁) :
    wpAny (model prog w) A (call (.ref f) [v, .ref g] kws) Q E s := by
  obtain ⟨⟨o, ho, hd⟩, hb, hp, hsc, hc, hgl, hbi, hdf, hcd⟩ := D
  obtain ⟨fname, fqual, fpar, fbody, fscope, fglob, fclo, fdef, fkwd, fdoc, fmod, fann, fcode, fct, fbui⟩ := fd
  simp only at hb hp hsc hc hgl hbi hdf hcd
  subst hb hp hsc hc hgl hbi hdf
  refine fn_enter (args := ⟨[v, .ref g], kws⟩) H hroom hlim (H.keep _ _ ho) hd (hcd.keeps H.keep) rfl (by show ∀ x ∈ (fnScope gniStmt).names, x.2 ≠ NameKind.cell; decide) ?_
  refine bind_kw (normal := [Str.ofString "name_index", Str.ofString "get_name"]) rfl rfl rfl rfl rfl rfl rfl (by decide) hk1 hk2 (Nat.le_succ_of_le hk3) H fun d s₁ H₁ => ?_
  refine ⟨_, H₁, ?_, fun L s₂ H₂ => ?_⟩
  · intro x hx
    simp only [List.zip_cons_cons, List.zip_nil_right, List.cons_append, List.nil_append, List.mem_cons, List.not_mem_nil, or_false] at hx
    rcases hx with rfl | rfl | rfl <;> rfl
  refine wpAny_execs_cons (wpAny_If (wpAny_isTrue_Compare1 (nm_l H₂ (.head _) rfl (wpAny_Constant_none (isNot_none (wpAny_truthy_bool ?_))))))
  refine ite_pos (by simp) ?_
  refine wpAny_execs_cons (wpAny_Assign_Name (wpAny_Call_ofName (nm_l H₂ (.head _) rfl (callWith_fn (evalArgs_star rfl (spliced_cons (nm_l H₂ (.head _) rfl (spliced_nil (merged1 H₂ hsys ?_ (.tail _ (.head _)) hk3 fun d₂ s₃ H₃ => kwIn H₃ (.head _) ?_)))))))))
  · exact fun d' s' H' => wpAny_bind (nm_l H' (.tail _ (.head _)) rfl (wpAny_bind (wpAny_standAt (wpAny_pure ⟨rfl, rfl⟩))))
  obtain ⟨hgo, hcall⟩ := h _ L _ _ _ s₃ rfl H₃
  refine ⟨hgo, wpAny_mono hcall (fun r s₄ h₄ => ?_) fun _ _ x => x⟩
  obtain ⟨front, led₂, H₄, h₄⟩ := h₄
  have H₅ := H₄.sub (List.sublist_append_right _ _)
  refine st_l H₅ .head fun s₆ H₆ => ?_
  refine wpAny_execs_cons (wpAny_Return_some (Tuple_ (wpAny_items_cons (nm_l H₆ (.head _) rfl (wpAny_items_cons (nm_l H₆ (.head _) rfl (wpAny_items_nil (new_tuple H₆ fun a s₇ H₇ => ?_))))))))
  exact h₄ a s₇ (H₇.sub (.cons_cons _ (.cons _ (.refl _))))
end
end Mine

namespace Mine
open PySem PySem.W PyProof.Rows PySem.Calls PySem.Spec
local macro_rules | `(tactic| ktr_rel) => `(tactic| (repeat (first | assumption | exact List.Mem.head _ | apply List.Mem.tail)))
local macro_rules | `(tactic| tb_start) => `(tactic| (repeat (first | exact Up.head | assumption | apply Up.tail)))
local macro_rules | `(tactic| tb_rel) => `(tactic| (repeat (first | exact List.Sublist.refl _ | apply List.Sublist.cons_cons | apply List.Sublist.cons)))
local macro_rules | `(tactic| none_booked) => `(tactic| (repeat (first | exact List.Perm.refl _ | refine Pick.perm (by (repeat (first | exact Pick.head | apply Pick.tail))) ?_)))
/-! the plain law: links f, colours c, a depth d -/
structure UF (f c d : Nat → Nat) : Prop where
  clt : ∀ p, p < 12 → c p < 12
  flt : ∀ p, p < 12 → f p < 12
  root : ∀ p, p < 12 → (f p = p ↔ c p = p)
  cc : ∀ p, p < 12 → c (c p) = c p
  cf : ∀ p, p < 12 → c (f p) = c p
  dz : ∀ p, p < 12 → f p = p → d p = 0
  ds : ∀ p, p < 12 → f p ≠ p → d (f p) < d p
theorem UF.compress {f c d : Nat → Nat} (U : UF f c d) {q : Nat} (hq : q < 12) : UF (fun i => if i = q then c q else f i) c d where
  clt := U.clt
  flt := fun p hp => by
    show (if p = q then c q else f p) < 12
    split
    · exact U.clt q hq
    · exact U.flt p hp
  root := fun p hp => by
    show ((if p = q then c q else f p) = p ↔ c p = p)
    split
    · rename_i e; subst e; exact Iff.rfl
    · exact U.root p hp
  cc := U.cc
  cf := fun p hp => by
    show c (if p = q then c q else f p) = c p
    split
    · rename_i e; subst e; exact U.cc p hp
    · exact U.cf p hp
  dz := fun p hp => by
    show (if p = q then c q else f p) = p → d p = 0
    split
    · rename_i e; subst e; intro h; exact U.dz p hp ((U.root p hp).mpr h)
    · exact U.dz p hp
  ds := fun p hp => by
    show (if p = q then c q else f p) ≠ p → d (if p = q then c q else f p) < d p
    split
    · rename_i e; subst e
      intro h
      have h1 : f p ≠ p := fun e => h ((U.root p hp).mp e)
      have h2 := U.ds p hp h1
      have h3 : f (c p) = c p := (U.root _ (U.clt p hp)).mpr (U.cc p hp)
      rw [U.dz _ (U.clt p hp) h3]
      omega
    · exact U.ds p hp
def Vals (vs : List Value) (f : Nat → Nat) : Prop := vs.length = 12 ∧ ∀ i, i < 12 → ∃ t, vs[i]? = some (.int (f i : Nat) t)
theorem Vals.set {vs : List Value} {f : Nat → Nat} (h : Vals vs f) {q x : Nat} (hq : q < 12) (t : Tok) : Vals (vs.set q (.int (x : Nat) t)) (fun i => if i = q then x else f i) := by
  refine ⟨by simp [h.1], fun i hi => ?_⟩
  rw [List.getElem?_set]
  by_cases e : q = i
  · subst e; rw [if_pos rfl, if_pos (by have := h.1; omega)]; exact ⟨t, by simp⟩
  · rw [if_neg e]
    obtain ⟨t', ht⟩ := h.2 i hi
    exact ⟨t', by rw [ht]; simp [Ne.symm e]⟩
def Refs (vn : List Value) : Prop := ∀ i, i < 12 → ∃ a, vn[i]? = some (.ref a)

def lawStmt12 : Stmt := nth 6 PySem.Challenge.pw_dm0069_12.main.body
def findStmt : Stmt := nth 5 PySem.Challenge.pw_dm0069_12.main.body
def lamOf : Stmt → Expr | .Expr (.Call _ (e :: _) _ _) _ => e | _ => default
def lamPar : Expr → Arguments | .Lambda a _ _ _ => a | _ => default
def lamBody : Expr → Expr | .Lambda _ b _ _ => b | _ => default
def lamScope : Expr → Scope | .Lambda _ _ s _ => s | _ => default
def lamE : Expr := lamOf (nth 5 (fnBody lawStmt12))
abbrev lamObj (qual : Str) (cS : Addr) (pm : Value) (c' : Addr) (ctv : Value) : Obj := kla_obj (Str.ofString "<lambda>") qual (lamPar lamE) (lamBody lamE) (lamScope lamE) [(Str.ofString "state", cS)] pm c' ctv
abbrev core (S ln nm co fa lam cS c' : Addr) (lo : Obj) (qual : Str) (vn vc vl : List Value) : Led :=
  [(ln, lstA vl), (S, lstA [.ref ln, .ref nm, .ref co, .ref fa, .ref lam]), (nm, lstA vn), (co, lstA vc), (fa, lstA []), (lam, objA lo), (cS, celA (some (.ref S))), (c', codeA qual)]
section
variable {prog : Program} {w : World} {A : Around} {E : Value → Shared → Prop} {s : Shared} {base : Heap} {os₀ : OsState} {led : Led} {mg mb : Str → Option Value}
  {S ln nm co fa lam cS c' fG fF : Addr} {lo : Obj} {qual : Str} {vn vc vl : List Value} {f c d : Nat → Nat} {gd fd : FuncData}

theorem find_ok {p : Nat} {t : Tok} {dN : Addr} {kvs : List (Str × Value)} {Q : Value → Shared → Prop} (D : IsDef base fF findStmt fd) (G : Gr base mg mb) (DG : IsDef base fG gniStmt gd) (hG : mg (Str.ofString "_get_name_info") = some (.ref fG))
    (n5 : mg (Str.ofString "len") = none) (b5 : mb (Str.ofString "len") = some (.builtin "len"))
    (hp : p < 12) (U : UF f c d) (hvl : Vals vl f) (hvc : Vals vc c) (hvn : Refs vn) (hk : kvs = [] ∨ ∃ v, kvs = [(Str.ofString "keep", v)])
    (H : St base os₀ (core S ln nm co fa lam cS c' lo qual vn vc vl ++ led) s) (hN : (dN, dctA (strKind prog w) kvs) ∈ led) (hroom : A.depth < recursionLimit) (hh : A.handled = none)
    (IH : f p ≠ p → ∀ (A' : Around) (E' : Value → Shared → Prop) (s' : Shared) (led' : Led) (t' : Tok) (Q' : Value → Shared → Prop), A'.depth = A.depth + 1 → A'.handled = none → St base os₀ (core S ln nm co fa lam cS c' lo qual vn vc vl ++ led') s' →
      (∀ a vl' f' s'' r, Vals vl' f' → UF f' c d → (kvs ≠ [] → vl' = vl) → (kvs = [] → f' (f p) = c (f p)) → vn[c (f p)]? = some r → St base os₀ ((a, tupA [r, r]) :: (core S ln nm co fa lam cS c' lo qual vn vc vl' ++ led')) s'' → Q' (.ref a) s'') →
      wpAny (model prog w) A' (call (.ref fG) [.int ((f p : Nat) : Int) t', .ref lam] kvs) Q' E' s')
    (h : ∀ vl' f' s' r, Vals vl' f' → UF f' c d → (kvs ≠ [] → vl' = vl) → (kvs = [] → f' p = c p) → vn[c p]? = some r → St base os₀ (core S ln nm co fa lam cS c' lo qual vn vc vl' ++ led) s' → Q r s') :
    wpAny (model prog w) A (call (.ref fF) [.ref S, .int (p : Nat) t, .ref dN] []) Q E s := by
  obtain ⟨⟨o, ho, hd⟩, hb, hpar, hsc, hc, hgl, hbi, hdf, hcd⟩ := D
  obtain ⟨fname, fqual, fpar, fbody, fscope, fglob, fclo, fdef, fkwd, fdoc, fmod, fann, fcode, fct, fbui⟩ := fd
  simp only at hb hpar hsc hc hgl hbi hdf hcd
  subst hb hpar hsc hc hgl hbi hdf
  refine fn_enter (args := ⟨[.ref S, .int (p : Nat) t, .ref dN], []⟩) H hroom G.lim (H.keep _ _ ho) hd (hcd.keeps H.keep) rfl (by show ∀ x ∈ (fnScope findStmt).names, x.2 ≠ NameKind.cell; decide) ?_
  refine wpAny_of_eq (a := [(Str.ofString "state", .ref S), (Str.ofString "place", .int (p : Nat) t), (Str.ofString "note", .ref dN)]) rfl ?_
  refine ⟨_, H, ?_, fun L s₁ H₁ => ?_⟩
  · intro x hx
    simp only [List.mem_cons, List.not_mem_nil, or_false] at hx
    rcases hx with rfl | rfl | rfl <;> rfl
  have m1 : ∀ x : Addr × Asn, (S, lstA [.ref ln, .ref nm, .ref co, .ref fa, .ref lam]) ∈ (x :: (core S ln nm co fa lam cS c' lo qual vn vc vl ++ led)) := fun x => .tail _ (.tail _ (.head _))
  refine wpAny_execs_cons (Assign_Tuple (Tuple_ (wpAny_items_cons (Subscript_ (nm_l H₁ (.head _) rfl (c_int H₁ fun t1 s₂ H₂ => item_l H₂ (m1 _) (by decide) (by decide) rfl (wpAny_items_cons (Subscript_ (nm_l H₂ (.head _) rfl (c_int H₂ fun t2 s₃ H₃ => item_l H₃ (m1 _) (by decide) (by decide) rfl
    (wpAny_items_cons (Subscript_ (nm_l H₃ (.head _) rfl (c_int H₃ fun t3 s₄ H₄ => item_l H₄ (m1 _) (by decide) (by decide) rfl (wpAny_items_cons (Subscript_ (nm_l H₄ (.head _) rfl (c_int H₄ fun t4 s₅ H₅ => item_l H₅ (m1 _) (by decide) (by decide) rfl (wpAny_items_nil (new_tuple H₅ fun T s₆ H₆ => ?_))))))))))))))))))))
  refine assign_Tuple_tuple (items := #[.ref ln, .ref nm, .ref co, .ref fa]) hh (H₆.isTup (vs := [.ref ln, .ref nm, .ref co, .ref fa]) (.head _)) rfl rfl fun h' hx' => ?_
  have H₇ := (H₆.sub (.cons _ (.refl _))).grown (tk := s₆.toks) hx'
  refine assignInOrder_cons (wpAny_assign_Name (st_l H₇ .head fun s₇ H₈ => assignInOrder_cons (wpAny_assign_Name (st_l H₈ .head fun s₈ H₉ => assignInOrder_cons (wpAny_assign_Name (st_l H₉ .head fun s₉ H₁₀ => assignInOrder_cons (wpAny_assign_Name (st_l H₁₀ .head fun s₁₀ H₁₁ => assignInOrder_nil ?_))))))))
  obtain ⟨m, hm⟩ : ∃ m : Str → Option Value, m = (fun y => if y = Str.ofString "faults" then some (Value.ref fa) else if y = Str.ofString "colours" then some (Value.ref co) else if y = Str.ofString "names" then some (Value.ref nm) else if y = Str.ofString "links" then some (Value.ref ln) else
    [(Str.ofString "state", Value.ref S), (Str.ofString "place", .int (p : Nat) t), (Str.ofString "note", .ref dN)].reverse.lookup y) := ⟨_, rfl⟩
  have a1 : m (Str.ofString "links") = some (.ref ln) := by rw [hm]; rfl
  have a2 : m (Str.ofString "names") = some (.ref nm) := by rw [hm]; rfl
  have a3 : m (Str.ofString "colours") = some (.ref co) := by rw [hm]; rfl
  have a4 : m (Str.ofString "state") = some (.ref S) := by rw [hm]; rfl
  have a5 : m (Str.ofString "place") = some (.int (p : Nat) t) := by rw [hm]; rfl
  have a6 : m (Str.ofString "note") = some (.ref dN) := by rw [hm]; rfl
  have H₁₂ : St base os₀ ((L, nsA m) :: (core S ln nm co fa lam cS c' lo qual vn vc vl ++ led)) s₁₀ := by rw [hm]; exact H₁₁
  clear H₁₁ hm
  obtain ⟨tl, hfl⟩ := hvl.2 p hp
  obtain ⟨tc, hfc⟩ := hvc.2 p hp
  obtain ⟨ar, har⟩ := hvn (c p) (U.clt p hp)
  have hkl : kvs.length ≤ sizeLine := Nat.le_trans (m := 1) (by rcases hk with rfl | ⟨v, rfl⟩ <;> simp) (by decide)
  refine wpAny_execs_cons (wpAny_If (wpAny_isTrue_Compare1 (Subscript_ (nm_l H₁₂ (.head _) a1 (nm_l H₁₂ (.head _) a5 (item_l H₁₂ (.tail _ (.head _)) (by omega) (by omega) (by simpa using hfl) (nm_l H₁₂ (.head _) a5 (PyProof.Rows.eq_int (wpAny_truthy_bool ?_)))))))))
  split
  · rename_i he
    have he : f p = p := by have := eq_of_beq he; omega
    have hcp : c p = p := (U.root p hp).mp he
    refine wpAny_execs_cons (wpAny_Return_some (Subscript_ (nm_l H₁₂ (.head _) a2 (nm_l H₁₂ (.head _) a5 (item_l H₁₂ (.tail _ (.tail _ (.tail _ (.head _)))) (by omega) (by omega) (x := .ref ar) (by rw [hcp] at har; simpa using har) ?_)))))
    exact h vl f _ _ hvl U (fun _ => rfl) (fun _ => by rw [he, hcp]) har (H₁₂.sub (.cons _ (.refl _)))
  · rename_i he
    have he : f p ≠ p := fun q => he (by simp [q])
    obtain ⟨o₀, hsys⟩ := G.sys
    refine wpAny_execs_nil (wpAny_execs_cons (wpAny_Assign_Name (wpAny_Call_ofName (nm_g H₁₂ G.g hG (callWith_fn (evalArgs_star rfl (spliced_cons (Subscript_ (nm_l H₁₂ (.head _) a1 (nm_l H₁₂ (.head _) a5 (item_l H₁₂ (.tail _ (.head _)) (by omega) (by omega) (by simpa using hfl) (spliced_cons (Subscript_ (nm_l H₁₂ (.head _) a4 (c_int H₁₂ fun t5 s₁₁ H₁₃ =>
      item_l H₁₃ (m1 _) (by decide) (by decide) rfl (spliced_nil (merged1 H₁₃ hsys ?_ (kvs := kvs) (a := dN) (.tail _ (List.mem_append_right _ hN)) hkl fun d₂ s₁₂ H₁₄ => kwIn H₁₄ (.head _) ⟨?_, ?_⟩)))))))))))))))))
    · exact fun d' s' H' => wpAny_bind (nm_l H' (.tail _ (.head _)) a6 (wpAny_bind (wpAny_standAt (wpAny_pure ⟨rfl, rfl⟩))))
    · obtain ⟨o, ho, hd⟩ := DG.obj; exact ⟨o, gd, H₁₄.keep _ _ ho, hd⟩
    have H₁₅ : St base os₀ (core S ln nm co fa lam cS c' lo qual vn vc vl ++ ((L, nsA m) :: led)) s₁₂ := (H₁₄.sub (.cons _ (.refl _))).perm (List.perm_append_comm_assoc _ [_] _)
    refine IH he _ _ _ _ _ _ rfl hh H₁₅ fun a vl' f' s₁₃ r hvl' U' hkeep hcomp hr H₁₆ => ?_
    have hr' : r = .ref ar := by rw [U.cf p hp, har] at hr; exact (Option.some.inj hr).symm
    subst hr'
    have H₁₇ : St base os₀ ((L, nsA m) :: (a, tupA [.ref ar, .ref ar]) :: (core S ln nm co fa lam cS c' lo qual vn vc vl' ++ led)) s₁₃ := H₁₆.perm ((List.Perm.swap ..).trans (List.Perm.cons _ (List.perm_append_comm_assoc [(L, nsA m)] (core S ln nm co fa lam cS c' lo qual vn vc vl') led)))
    refine st_l H₁₇ .head fun s₁₄ H₁₈ => ?_
    obtain ⟨m', hm'⟩ : ∃ m' : Str → Option Value, m' = (fun y => if y = Str.ofString "pair" then some (Value.ref a) else m y) := ⟨_, rfl⟩
    have b1 : m' (Str.ofString "links") = some (.ref ln) := by rw [hm']; exact (if_neg (by decide)).trans a1
    have b2 : m' (Str.ofString "names") = some (.ref nm) := by rw [hm']; exact (if_neg (by decide)).trans a2
    have b3 : m' (Str.ofString "colours") = some (.ref co) := by rw [hm']; exact (if_neg (by decide)).trans a3
    have b5' : m' (Str.ofString "place") = some (.int (p : Nat) t) := by rw [hm']; exact (if_neg (by decide)).trans a5
    have b6 : m' (Str.ofString "note") = some (.ref dN) := by rw [hm']; exact (if_neg (by decide)).trans a6
    have b7 : m' (Str.ofString "pair") = some (.ref a) := by rw [hm']; exact if_pos rfl
    have H₁₉ : St base os₀ ((L, nsA m') :: (a, tupA [.ref ar, .ref ar]) :: (core S ln nm co fa lam cS c' lo qual vn vc vl' ++ led)) s₁₄ := by rw [hm']; exact H₁₈
    clear H₁₈ hm'
    have ht : ∀ {s' : Shared}, St base os₀ ((L, nsA m') :: (a, tupA [.ref ar, .ref ar]) :: (core S ln nm co fa lam cS c' lo qual vn vc vl' ++ led)) s' → IsTup s'.heap a ([.ref ar, .ref ar] : List Value).toArray := fun H' => H'.isTup (.tail _ (.head _))
    refine wpAny_execs_cons (wpAny_If (wpAny_isTrue_BoolOp (wpAny_allTrue_Or_cons (wpAny_isTrue_Compare1 (wpAny_Call_ofName (nm_b H₁₉ G.g G.b n5 b5 (callWith_builtin rfl (evalArgs_plain (spliced_cons (nm_l H₁₉ (.head _) b7 (spliced_nil (PyProof.Rows.len_tuple (ht H₁₉) (by show (2 : Int) < _; decide) ?_))))))))))))
    have H₂₀ : St base os₀ _ { s₁₄ with toks := s₁₄.toks + 1 + 1 } := H₁₉.tok
    refine c_int H₂₀ fun t6 s₁₅ H₂₁ => PyProof.Rows.ne_int (wpAny_truthy_bool (ite_neg (by show ¬ ((2 : Int) != 2) = true; decide) ?_))
    refine wpAny_allTrue_Or_cons (wpAny_isTrue_Compare1 (Subscript_ (nm_l H₂₁ (.head _) b7 (c_int H₂₁ fun t7 s₁₆ H₂₂ => item_tupleL (l := [.ref ar, .ref ar]) (ht H₂₂) (by decide) (by decide) (j := 0) rfl rfl (Subscript_ (nm_l H₂₂ (.head _) b7 (c_int H₂₂ fun t8 s₁₇ H₂₃ => item_tupleL (l := [.ref ar, .ref ar]) (ht H₂₃) (by decide) (by decide) (j := 1) rfl rfl
      (wpAny_isNot_ref_self (wpAny_truthy_bool (ite_neg (by decide) ?_))))))))))
    refine wpAny_allTrue_Or_cons (wpAny_isTrue_Compare1 (Subscript_ (nm_l H₂₃ (.head _) b7 (c_int H₂₃ fun t9 s₁₈ H₂₄ => item_tupleL (l := [.ref ar, .ref ar]) (ht H₂₄) (by decide) (by decide) (j := 0) rfl rfl (Subscript_ (nm_l H₂₄ (.head _) b2 (Subscript_ (nm_l H₂₄ (.head _) b3 (nm_l H₂₄ (.head _) b5' (item_l H₂₄ (.tail _ (.tail _ (.tail _ (.tail _ (.tail _ (.head _)))))) (by omega) (by omega) (by simpa using hfc)
      (item_l H₂₄ (.tail _ (.tail _ (.tail _ (.tail _ (.head _))))) (by omega) (by have := U.clt p hp; omega) (x := .ref ar) (by simpa using har) (wpAny_isNot_ref_self (wpAny_truthy_bool (ite_neg (by decide) (wpAny_allTrue_Or_nil (ite_neg (by decide) (wpAny_execs_nil ?_)))))))))))))))))
    have fin : ∀ vl'' f'' s', Vals vl'' f'' → UF f'' c d → (kvs ≠ [] → vl'' = vl) → (kvs = [] → f'' p = c p) → St base os₀ ((L, nsA m') :: (a, tupA [.ref ar, .ref ar]) :: (core S ln nm co fa lam cS c' lo qual vn vc vl'' ++ led)) s' → ∀ E' : Value → Shared → Prop,
        wpAny (model prog w) (A.deeper (callEnv { name := fname, qualname := fqual, params := fnPar findStmt, body := .stmts (fnBody findStmt), scope := fnScope findStmt, globals := mainGlobals, closure := [], defaults := .none, kwdefaults := fkwd, doc := fdoc, pyModule := fmod, annotations := fann, code := fcode, closureTuple := fct, builtins := builtinsNs } L fF))
          (execs ((fnBody findStmt).drop 5) (callEnv { name := fname, qualname := fqual, params := fnPar findStmt, body := .stmts (fnBody findStmt), scope := fnScope findStmt, globals := mainGlobals, closure := [], defaults := .none, kwdefaults := fkwd, doc := fdoc, pyModule := fmod, annotations := fann, code := fcode, closureTuple := fct, builtins := builtinsNs } L fF))
          (fun fl s' => Q (match fl with | .ret v => v | _ => .none) s') E' s' := fun vl'' f'' s' hv hU hk1 hk2 H' E' => by
      refine wpAny_execs_cons (wpAny_Return_some (Subscript_ (nm_l H' (.head _) b7 (c_int H' fun t10 s₁₉ H₂₅ => item_tupleL (l := [.ref ar, .ref ar]) (H₂₅.isTup (.tail _ (.head _))) (by decide) (by decide) (j := 1) rfl rfl ?_))))
      exact h vl'' f'' _ _ hv hU hk1 hk2 har (H₂₅.sub (.cons _ (.cons _ (.refl _))))
    have hns : (dN == sysModules) = false := H.notSys (List.mem_append_right _ hN) hsys
    refine wpAny_execs_cons (wpAny_If (wpAny_isTrue_Compare1 (c_str H₂₄ fun t10 s₁₉ H₂₅ => nm_l H₂₅ (.head _) b6 (wpAny_notIn_of (strKind_is prog w _ _) hns (H₂₅.isDict (kvs := kvs) (.tail _ (.tail _ (List.mem_append_right _ hN)))).mapOf (wpAny_truthy_bool ?_)))))
    have H₂₆ : St base os₀ _ { s₁₉ with toks := s₁₉.toks + 1 } := H₂₅.tok
    rcases hk with rfl | ⟨v, rfl⟩
    · refine ite_pos (by decide) ?_
      refine wpAny_execs_cons (wpAny_Assign_Subscript (Subscript_ (nm_l H₂₆ (.head _) b3 (nm_l H₂₆ (.head _) b5' (item_l H₂₆ (.tail _ (.tail _ (.tail _ (.tail _ (.tail _ (.head _)))))) (by omega) (by omega) (by simpa using hfc) (nm_l H₂₆ (.head _) b1 (nm_l H₂₆ (.head _) b5' (l_set H₂₆ (.tail (.tail .head)) (by omega) (by omega) (by rw [hvl'.1]; omega) fun s₂₀ H₂₇ => ?_))))))))
      exact wpAny_execs_nil (fin _ _ _ (by simpa using hvl'.set hp tc) (U'.compress hp) (fun q => absurd rfl q) (fun _ => if_pos rfl) H₂₇ _)
    · refine ite_neg (by simp [valueAt]) (wpAny_execs_nil (fin _ _ _ hvl' U' hkeep (fun q => by cases q) H₂₆ _))
end
end Mine

namespace Mine
open PySem PySem.W PyProof.Rows PySem.Calls PySem.Spec
local macro_rules | `(tactic| ktr_rel) => `(tactic| (repeat (first | assumption | exact List.Mem.head _ | apply List.Mem.tail)))
local macro_rules | `(tactic| tb_start) => `(tactic| (repeat (first | exact Up.head | assumption | apply Up.tail)))
local macro_rules | `(tactic| tb_rel) => `(tactic| (repeat (first | exact List.Sublist.refl _ | apply List.Sublist.cons_cons | apply List.Sublist.cons)))
local macro_rules | `(tactic| none_booked) => `(tactic| (repeat (first | exact List.Perm.refl _ | refine Pick.perm (by (repeat (first | exact Pick.head | apply Pick.tail))) ?_)))
/-- what the law reaches by its globals -/
structure G12 (base : Heap) (mg mb : Str → Option Value) (fG fF : Addr) (gd fd : FuncData) : Prop where
  gr : Gr base mg mb
  dg : IsDef base fG gniStmt gd
  df : IsDef base fF findStmt fd
  hg : mg (Str.ofString "_get_name_info") = some (.ref fG)
  hf : mg (Str.ofString "_law_find") = some (.ref fF)
  n1 : mg (Str.ofString "IndexError") = none
  n2 : mg (Str.ofString "list") = none
  n3 : mg (Str.ofString "range") = none
  n5 : mg (Str.ofString "len") = none
  b1 : mb (Str.ofString "IndexError") = some (.type "IndexError")
  b2 : mb (Str.ofString "list") = some (.type "list")
  b3 : mb (Str.ofString "range") = some (.type "range")
  b5 : mb (Str.ofString "len") = some (.builtin "len")
/-- the further words: none, or keep -/
def Kp (kvs : List (Str × Value)) : Prop := kvs = [] ∨ ∃ v, kvs = [(Str.ofString "keep", v)]
theorem Kp.keys {kvs : List (Str × Value)} (h : Kp kvs) (l : List Str) (hl : Str.ofString "keep" ∉ l) : ∀ k ∈ kvs.map (·.1), k ∉ l := by
  rcases h with rfl | ⟨v, rfl⟩
  · simp
  · simpa using hl
theorem Kp.nodup {kvs : List (Str × Value)} (h : Kp kvs) : (kvs.map (·.1)).Nodup := by
  rcases h with rfl | ⟨v, rfl⟩ <;> simp
theorem Kp.len {kvs : List (Str × Value)} (h : Kp kvs) : kvs.length ≤ sizeLine := by
  refine Nat.le_trans (m := 1) ?_ (by decide)
  rcases h with rfl | ⟨v, rfl⟩ <;> simp
section
variable {prog : Program} {w : World} {base : Heap} {os₀ : OsState} {mg mb : Str → Option Value}
  {S ln nm co fa lam cS c' fG fF : Addr} {pm ctv : Value} {qual : Str} {vn vc : List Value} {c d : Nat → Nat} {gd fd : FuncData}

/-- down to the call of _law_find -/
theorem ask_down {A : Around} {E : Value → Shared → Prop} {s : Shared} {led : Led} {vl : List Value} {v : Value} {kvs : List (Str × Value)} {Q : Value → Shared → Prop} (G : G12 base mg mb fG fF gd fd) (hk : Kp kvs)
    (H : St base os₀ (core S ln nm co fa lam cS c' (lamObj qual cS pm c' ctv) qual vn vc vl ++ led) s) (hroom : A.depth + 2 < recursionLimit)
    (h : ∀ envG envL L m d₁ d₂ L' m' d s₁, envG.frame = some L → envL.frame = some L' → envG.scope.kind ≠ .module → envL.scope.kind ≠ .module →
      St base os₀ (core S ln nm co fa lam cS c' (lamObj qual cS pm c' ctv) qual vn vc vl ++ ((L', nsA m') :: (d, dctA (strKind prog w) kvs) :: (d₂, dctA (strKind prog w) kvs) :: (L, nsA m) :: (d₁, dctA (strKind prog w) kvs) :: led)) s₁ →
      wpAny (model prog w) ((A.deeper envG).deeper envL) (call (.ref fF) [.ref S, v, .ref d] [])
        (fun r s₂ => ∃ front led₂, St base os₀ (front ++ (L, nsA m) :: led₂) s₂ ∧ ∀ a s₃, St base os₀ ((a, tupA [r, r]) :: led₂) s₃ → Q (.ref a) s₃)
        (fun e s₂ => wpAny (model prog w) ((A.deeper envG).deeper envL) (leaving envL e) (fun _ s₃ => wpAny (model prog w) (A.deeper envG) (leaving envG e) (fun _ s₄ => E e s₄) (fun e' s₄ => E e' s₄) s₃)
          (fun e' s₃ => wpAny (model prog w) (A.deeper envG) (leaving envG e') (fun _ s₄ => E e' s₄) (fun e'' s₄ => E e'' s₄) s₃) s₂) s₁) :
    wpAny (model prog w) A (call (.ref fG) [v, .ref lam] kvs) Q E s := by
  obtain ⟨o₀, hsys⟩ := G.gr.sys
  refine gni_call (v := v) (g := lam) G.dg G.gr.lim hsys H (by omega) (hk.keys _ (by decide)) hk.nodup hk.len fun env L m d₁ d₂ s₁ he H₁ => ⟨?_, ?_⟩
  · obtain ⟨o, ho, rfl⟩ := H₁.get (P := objA (lamObj qual cS pm c' ctv)) (a := lam) (by k_mem); exact ⟨_, _, ho, rfl⟩
  obtain ⟨o, ho, rfl⟩ := H₁.get (P := objA (lamObj qual cS pm c' ctv)) (a := lam) (by k_mem)
  obtain ⟨oc, hoc, cvs, ct, hcd, hcv⟩ := H₁.get (P := codeA qual) (a := c') (by k_mem)
  refine lam_enter (args := ⟨[v], kvs⟩) H₁ (by show A.depth + 1 < _; omega) G.gr.lim ho rfl ⟨c', oc, cvs, ct, rfl, hoc, hcd, hcv⟩ rfl (by show ∀ x ∈ (lamScope lamE).names, x.2 ≠ NameKind.cell; decide) ?_
  refine bind_kw (normal := [Str.ofString "place"]) rfl rfl rfl rfl rfl rfl rfl (by decide) (hk.keys _ (by decide)) hk.nodup (Nat.le_succ_of_le hk.len) H₁ fun d s₂ H₂ => ?_
  refine ⟨_, H₂, ?_, fun L' s₃ H₃ => ?_⟩
  · intro x hx
    simp only [List.zip_cons_cons, List.zip_nil_right, List.cons_append, List.nil_append, List.mem_cons, List.not_mem_nil, or_false] at hx
    rcases hx with rfl | rfl <;> rfl
  refine wpAny_Call_ofName (nm_g H₃ G.gr.g G.hf (callWith_fn (evalArgs_plain (spliced_cons (nm_f H₃ rfl (by k_mem) (spliced_cons (nm_l H₃ (.head _) rfl (spliced_cons (nm_l H₃ (.head _) rfl (spliced_nil ⟨?_, ?_⟩))))))))))
  · obtain ⟨o, ho, hd⟩ := G.df.obj; exact ⟨o, fd, H₃.keep _ _ ho, hd⟩
  refine h env _ L m d₁ d₂ L' _ d s₃ (by rw [he]; rfl) rfl (by rw [he]; show gd.scope.kind ≠ _; rw [G.dg.scope]; intro q; cases q) (by intro q; cases q) (H₃.perm (List.perm_append_comm_assoc _ [_, _, _, _, _] _))

theorem ask_ok (G : G12 base mg mb fG fF gd fd) (hvc : Vals vc c) (hvn : Refs vn) : ∀ (k : Nat) {A : Around} {E : Value → Shared → Prop} {s : Shared} {led : Led} {vl : List Value} {f : Nat → Nat} {p : Nat} {t : Tok} {kvs : List (Str × Value)} {Q : Value → Shared → Prop},
    d p ≤ k → Kp kvs → p < 12 → UF f c d → Vals vl f → A.depth + 3 * k + 4 < recursionLimit → A.handled = none →
    St base os₀ (core S ln nm co fa lam cS c' (lamObj qual cS pm c' ctv) qual vn vc vl ++ led) s →
    (∀ a vl' f' s' r, Vals vl' f' → UF f' c d → (kvs ≠ [] → vl' = vl) → (kvs = [] → f' p = c p) → vn[c p]? = some r → St base os₀ ((a, tupA [r, r]) :: (core S ln nm co fa lam cS c' (lamObj qual cS pm c' ctv) qual vn vc vl' ++ led)) s' → Q (.ref a) s') →
    wpAny (model prog w) A (call (.ref fG) [.int (p : Nat) t, .ref lam] kvs) Q E s := by
  intro k
  induction k with
  | zero =>
    intro A E s led vl f p t kvs Q hdp hk hp U hvl hroom hh H h
    refine ask_down G hk H (by omega) fun envG envL L m d₁ d₂ L' m' dN s₁ _ _ _ _ H₁ => ?_
    refine find_ok G.df G.gr G.dg G.hg G.n5 G.b5 hp U hvl hvc hvn hk H₁ (.tail _ (.head _)) (by show A.depth + 1 + 1 < _; omega) hh (fun hne => ?_) fun vl' f' s₂ r hv hU h1 h2 hr H₂ => ?_
    · have := U.ds p hp hne; omega
    · have H₃ := H₂.perm (List.perm_append_comm_assoc [(L', nsA m'), (dN, dctA (strKind prog w) kvs), (d₂, dctA (strKind prog w) kvs), (L, nsA m), (d₁, dctA (strKind prog w) kvs)] (core S ln nm co fa lam cS c' (lamObj qual cS pm c' ctv) qual vn vc vl') led)
      exact ⟨[], _, H₃.sub (led' := (L, nsA m) :: (core S ln nm co fa lam cS c' (lamObj qual cS pm c' ctv) qual vn vc vl' ++ led)) (.cons _ (.cons _ (.cons _ (.cons_cons _ (.cons _ (.refl _)))))), fun a s₄ H₄ => h a vl' f' s₄ r hv hU h1 h2 hr H₄⟩
  | succ k ih =>
    intro A E s led vl f p t kvs Q hdp hk hp U hvl hroom hh H h
    refine ask_down G hk H (by omega) fun envG envL L m d₁ d₂ L' m' dN s₁ _ _ _ _ H₁ => ?_
    refine find_ok G.df G.gr G.dg G.hg G.n5 G.b5 hp U hvl hvc hvn hk H₁ (.tail _ (.head _)) (by show A.depth + 1 + 1 < _; omega) hh (fun hne A' E' s' led' t' Q' hA' hh' H' h' => ?_) fun vl' f' s₂ r hv hU h1 h2 hr H₂ => ?_
    · have := U.ds p hp hne
      refine ih (p := f p) (by omega) hk (U.flt p hp) U hvl (by rw [hA']; show A.depth + 1 + 1 + 1 + 3 * k + 4 < _; omega) hh' H' h'
    · have H₃ := H₂.perm (List.perm_append_comm_assoc [(L', nsA m'), (dN, dctA (strKind prog w) kvs), (d₂, dctA (strKind prog w) kvs), (L, nsA m), (d₁, dctA (strKind prog w) kvs)] (core S ln nm co fa lam cS c' (lamObj qual cS pm c' ctv) qual vn vc vl') led)
      exact ⟨[], _, H₃.sub (led' := (L, nsA m) :: (core S ln nm co fa lam cS c' (lamObj qual cS pm c' ctv) qual vn vc vl' ++ led)) (.cons _ (.cons _ (.cons _ (.cons_cons _ (.cons _ (.refl _)))))), fun a s₄ H₄ => h a vl' f' s₄ r hv hU h1 h2 hr H₄⟩

/-- the thirteenth place: the IndexError comes through -/
theorem ask_out {A : Around} {E : Value → Shared → Prop} {s : Shared} {led : Led} {vl : List Value} {f : Nat → Nat} {t : Tok} {kvs : List (Str × Value)} {fs : List Env} {Q : Value → Shared → Prop} (G : G12 base mg mb fG fF gd fd) (hk : Kp kvs) (hvl : Vals vl f)
    (hroom : A.depth + 4 < recursionLimit) (hh : A.handled = none) (hfr : A.frames = some fs) (hF : FramesOk led fs)
    (H : St base os₀ (core S ln nm co fa lam cS c' (lamObj qual cS pm c' ctv) qual vn vc vl ++ led) s)
    (h : ∀ e s', Fly base os₀ (core S ln nm co fa lam cS c' (lamObj qual cS pm c' ctv) qual vn vc vl ++ led) e "IndexError" s' → E (.ref e) s') :
    wpAny (model prog w) A (call (.ref fG) [.int 12 t, .ref lam] kvs) Q E s := by
  refine ask_down G hk H (by omega) fun envG envL L m d₁ d₂ L' m' dN s₁ hfG hfL hkG hkL H₁ => ?_
  obtain ⟨⟨o, ho, hd⟩, hb, hpar, hsc, hc, hgl, hbi, hdf, hcd⟩ := G.df
  have hG := G
  obtain ⟨fname, fqual, fpar, fbody, fscope, fglob, fclo, fdef, fkwd, fdoc, fmod, fann, fcode, fct, fbui⟩ := fd
  simp only at hb hpar hsc hc hgl hbi hdf hcd
  subst hb hpar hsc hc hgl hbi hdf
  refine fn_enter (args := ⟨[.ref S, .int 12 t, .ref dN], []⟩) H₁ (by show A.depth + 1 + 1 < _; omega) G.gr.lim (H₁.keep _ _ ho) hd (hcd.keeps H₁.keep) rfl (by show ∀ x ∈ (fnScope findStmt).names, x.2 ≠ NameKind.cell; decide) ?_
  refine wpAny_of_eq (a := [(Str.ofString "state", .ref S), (Str.ofString "place", .int 12 t), (Str.ofString "note", .ref dN)]) rfl ?_
  refine ⟨_, H₁, ?_, fun LF s₂ H₂ => ?_⟩
  · intro x hx
    simp only [List.mem_cons, List.not_mem_nil, or_false] at hx
    rcases hx with rfl | rfl | rfl <;> rfl
  have m1 : ∀ (x : Addr × Asn) (l : Led), (S, lstA [.ref ln, .ref nm, .ref co, .ref fa, .ref lam]) ∈ (x :: (core S ln nm co fa lam cS c' (lamObj qual cS pm c' ctv) qual vn vc vl ++ l)) := fun x l => .tail _ (.tail _ (.head _))
  refine wpAny_execs_cons (Assign_Tuple (Tuple_ (wpAny_items_cons (Subscript_ (nm_l H₂ (.head _) rfl (c_int H₂ fun t1 s₃ H₃ => item_l H₃ (m1 _ _) (by decide) (by decide) rfl (wpAny_items_cons (Subscript_ (nm_l H₃ (.head _) rfl (c_int H₃ fun t2 s₄ H₄ => item_l H₄ (m1 _ _) (by decide) (by decide) rfl
    (wpAny_items_cons (Subscript_ (nm_l H₄ (.head _) rfl (c_int H₄ fun t3 s₅ H₅ => item_l H₅ (m1 _ _) (by decide) (by decide) rfl (wpAny_items_cons (Subscript_ (nm_l H₅ (.head _) rfl (c_int H₅ fun t4 s₆ H₆ => item_l H₆ (m1 _ _) (by decide) (by decide) rfl (wpAny_items_nil (new_tuple H₆ fun T s₇ H₇ => ?_))))))))))))))))))))
  refine assign_Tuple_tuple (items := #[.ref ln, .ref nm, .ref co, .ref fa]) hh (H₇.isTup (vs := [.ref ln, .ref nm, .ref co, .ref fa]) (.head _)) rfl rfl fun h' hx' => ?_
  have H₈ := (H₇.sub (.cons _ (.refl _))).grown (tk := s₇.toks) hx'
  refine assignInOrder_cons (wpAny_assign_Name (st_l H₈ .head fun s₈ H₉ => assignInOrder_cons (wpAny_assign_Name (st_l H₉ .head fun s₉ H₁₀ => assignInOrder_cons (wpAny_assign_Name (st_l H₁₀ .head fun s₁₀ H₁₁ => assignInOrder_cons (wpAny_assign_Name (st_l H₁₁ .head fun s₁₁ H₁₂ => assignInOrder_nil ?_))))))))
  have hl := H₁₂.isList (a := ln) (vs := vl) (.tail _ (.head _))
  refine wpAny_execs_cons (wpAny_If (wpAny_isTrue_Compare1 (Subscript_ (nm_l H₁₂ (.head _) rfl (nm_l H₁₂ (.head _) rfl (subscriptTail_builtinR (x := .none) hl.typeIs slot_list_getitem.lookup (wpAny_getItem_list_out hh hl (.inr (by rw [List.size_toArray, hvl.1]; decide)) (by decide) (by decide) fun h'' tk e hx => ?_)))))))
  have X := of_newExc (tk := tk) H₁₂ hx
  have hF' : FramesOk _ _ := FramesOk.cons (FramesOk.cons (hF.mono (led' := core S ln nm co fa lam cS c' (lamObj qual cS pm c' ctv) qual vn vc vl ++ ((L', nsA m') :: (dN, dctA (strKind prog w) kvs) :: (d₂, dctA (strKind prog w) kvs) :: (L, nsA m) :: (d₁, dctA (strKind prog w) kvs) :: led)) fun p hp => List.mem_append_right _ (.tail _ (.tail _ (.tail _ (.tail _ (.tail _ hp)))))) hkG hfG (List.mem_append_right _ (.tail _ (.tail _ (.tail _ (.head _)))))) hkL hfL (List.mem_append_right _ (.head _))
  have hfr1 : (A.deeper envG).frames = some (envG :: fs) := Around.frames_deeper hfr
  have hfr2 : ((A.deeper envG).deeper envL).frames = some (envL :: envG :: fs) := Around.frames_deeper hfr1
  refine leave0 (L := LF) X (Around.frames_deeper hfr2) (FramesOk.cons (hF'.mono fun p hp => .tail _ hp) (by intro q; cases q) rfl (.head _)) (.head _) rfl fun s₁₂ F₁ => ?_
  obtain ⟨tb, F₁⟩ := F₁
  have F₂ : Fly base os₀ (core S ln nm co fa lam cS c' (lamObj qual cS pm c' ctv) qual vn vc vl ++ ((L', nsA m') :: (dN, dctA (strKind prog w) kvs) :: (d₂, dctA (strKind prog w) kvs) :: (L, nsA m) :: (d₁, dctA (strKind prog w) kvs) :: led)) e "IndexError" s₁₂ := ⟨tb, F₁.sub (.cons_cons _ (.cons_cons _ (.cons _ (.refl _))))⟩
  refine leave1 (L := L') F₂ hfr2 hF' (.head _) hfL fun s₁₃ F₃ => ?_
  refine leave1 (L := L) F₃ hfr1 hF'.tail (.head _) hfG fun s₁₄ F₄ => ?_
  obtain ⟨tb', F₄⟩ := F₄
  refine h e s₁₄ ⟨tb', ?_⟩
  have F₅ := F₄.perm (led' := (e, ex1 "IndexError" tb') :: (tb', tbA) :: ([(L', nsA m'), (dN, dctA (strKind prog w) kvs), (d₂, dctA (strKind prog w) kvs), (L, nsA m), (d₁, dctA (strKind prog w) kvs)] ++ (core S ln nm co fa lam cS c' (lamObj qual cS pm c' ctv) qual vn vc vl ++ led))) (.cons _ (.cons _ (List.perm_append_comm_assoc _ _ led)))
  exact F₅.sub (.cons_cons _ (.cons_cons _ (.cons _ (.cons _ (.cons _ (.cons _ (.cons _ (.refl _))))))))
end
end Mine

namespace Mine
open PySem PySem.W PyProof.Rows PySem.Calls PySem.Spec
section
variable {prog : Program} {w : World} {A : Around} {E : Value → Shared → Prop} {s : Shared} {base : Heap} {os₀ : OsState} {led : Led} {env : Env}
/-- a store of a local name; what else the names are stays -/
theorem st_g {x : Str} {v : Value} {m : Str → Option Value} {led' : (Str → Option Value) → Led} {Q : Unit → Shared → Prop} (H : St base os₀ led s) (U : ∀ m', Up env.locals (nsA m) (nsA m') led (led' m'))
    (h : ∀ m' s', m' x = some v → (∀ y, y ≠ x → m' y = m y) → St base os₀ (led' m') s' → Q () s') (hk : env.scope.kind = .function := by rfl) (hx : env.kindOf x = some .local := by rfl) :
    wpAny (model prog w) A (storeName env x v) Q E s :=
  st_l H (U _) (fun s' H' => h _ s' (if_pos rfl) (fun y hy => if_neg hy) H') hk hx
/-- list(l) -/
theorem l_copy {l : Addr} {vs : List Value} {Q : Value → Shared → Prop} (H : St base os₀ led s) (hm : (l, lstA vs) ∈ led) (hsz : vs.length ≤ sizeLine) (h : ∀ r s', St base os₀ ((r, lstA vs) :: led) s' → Q (.ref r) s') :
    wpAny (model prog w) A (call (.type "list") [.ref l]) Q E s := by
  obtain ⟨o, ho, n, rfl⟩ := H.get hm
  exact call_list_seq (hsz := by simpa using hsz) l (.inl rfl) ho rfl rfl fun h' c' hk hD => h _ _ (H.more (tk := s.toks) hk (Nat.le_refl _) hD ⟨c', rfl⟩)
end
theorem up_head {a : Addr} {P : Asn} {P' : Asn} {l : Led} : Up a P P' ((a, P) :: l) ((a, P') :: l) := .head
structure Ms (m : Str → Option Value) (ln nm co fa lam : Addr) : Prop where
  l : m (Str.ofString "links") = some (.ref ln)
  n : m (Str.ofString "names") = some (.ref nm)
  c : m (Str.ofString "colours") = some (.ref co)
  f : m (Str.ofString "faults") = some (.ref fa)
  g : m (Str.ofString "find") = some (.ref lam)
theorem Ms.of {m m' : Str → Option Value} {ln nm co fa lam : Addr} {x : Str} (h : Ms m ln nm co fa lam) (hk : ∀ y, y ≠ x → m' y = m y)
    (hx : x ≠ Str.ofString "links" ∧ x ≠ Str.ofString "names" ∧ x ≠ Str.ofString "colours" ∧ x ≠ Str.ofString "faults" ∧ x ≠ Str.ofString "find" := by decide) : Ms m' ln nm co fa lam :=
  ⟨(hk _ hx.1.symm).trans h.l, (hk _ hx.2.1.symm).trans h.n, (hk _ hx.2.2.1.symm).trans h.c, (hk _ hx.2.2.2.1.symm).trans h.f, (hk _ hx.2.2.2.2.symm).trans h.g⟩
def forBody : Stmt → List Stmt | .For _ _ b _ _ => b | _ => []
def turn12 : List Stmt := forBody (nth 7 (fnBody lawStmt12))
abbrev lawEnv12 (nam : Str) (L fA : Addr) (cd : Value) : Env := envOfC nam (fnScope lawStmt12) L fA cd
section
variable {prog : Program} {w : World} {A : Around} {E : Value → Shared → Prop} {s : Shared} {base : Heap} {os₀ : OsState} {rest : Led} {mg mb : Str → Option Value}
  {S ln nm co fa lam cS c' fG fF L fA : Addr} {lo : Obj} {qual nam : Str} {vn vc vl : List Value} {gd fd : FuncData} {cd : Value} {m : Str → Option Value} {n : Int} {t : Tok} {Q : Flow → Shared → Prop}

theorem a_head (R : Room prog w A base) (G : G12 base mg mb fG fF gd fd) (hm : Ms m ln nm co fa lam) (hn : m (Str.ofString "n") = some (.int n t)) (hvl : vl.length = 12)
    (H : St base os₀ ((L, nsA m) :: (core S ln nm co fa lam cS c' lo qual vn vc vl ++ rest)) s)
    (h : ∀ m' bf t1 t2 t3 s', Ms m' ln nm co fa lam → m' (Str.ofString "n") = some (.int n t) → m' (Str.ofString "deed") = some (.int (n.fmod 3) t1) → m' (Str.ofString "one") = some (.int ((n.fdiv 3).fmod 13) t2) → m' (Str.ofString "two") = some (.int ((n.fdiv 39).fmod 12) t3) →
      m' (Str.ofString "before") = some (.ref bf) → m' (Str.ofString "refused") = some (.bool false) → St base os₀ ((L, nsA m') :: (core S ln nm co fa lam cS c' lo qual vn vc vl ++ ((bf, lstA vl) :: rest))) s' →
      wpAny (model prog w) A (execs (turn12.drop 6) (lawEnv12 nam L fA cd)) Q E s') :
    wpAny (model prog w) A (execs turn12 (lawEnv12 nam L fA cd)) Q E s := by
  refine wpAny_execs_cons (wpAny_Assign_Name (wpAny_BinOp (nm_l H (.head _) hn (c_int H fun u1 s₁ H₁ => i_mod H₁ (by decide) fun t1 s₂ H₂ => st_g H₂ (fun _ => up_head) fun m1 s₃ e1 k1 H₃ => ?_))))
  refine wpAny_execs_cons (wpAny_Assign_Name (wpAny_BinOp (wpAny_BinOp (nm_l H₃ (.head _) ((k1 _ (by decide)).trans hn) (c_int H₃ fun u2 s₄ H₄ => i_fdiv R H₄ (by decide) fun u3 s₅ H₅ => c_int H₅ fun u4 s₆ H₆ => i_mod H₆ (by decide) fun t2 s₇ H₇ => st_g H₇ (fun _ => up_head) fun m2 s₈ e2 k2 H₈ => ?_)))))
  refine wpAny_execs_cons (wpAny_Assign_Name (wpAny_BinOp (wpAny_BinOp (nm_l H₈ (.head _) ((k2 _ (by decide)).trans ((k1 _ (by decide)).trans hn)) (c_int H₈ fun u5 s₉ H₉ => i_fdiv R H₉ (by decide) fun u6 s₁₀ H₁₀ => c_int H₁₀ fun u7 s₁₁ H₁₁ => i_mod H₁₁ (by decide) fun t3 s₁₂ H₁₂ => st_g H₁₂ (fun _ => up_head) fun m3 s₁₃ e3 k3 H₁₃ => ?_)))))
  have M3 := ((hm.of k1).of k2).of k3
  refine wpAny_execs_cons (wpAny_Assign_Name (wpAny_Call_ofName (nm_b H₁₃ G.gr.g G.gr.b G.n2 G.b2 (callWith_excType rfl (evalArgs_plain (spliced_cons (nm_l H₁₃ (.head _) M3.l (spliced_nil (l_copy H₁₃ (.tail _ (.head _)) (by rw [hvl]; decide) fun bf s₁₄ H₁₄ => st_g H₁₄ (fun _ => .tail .head) fun m4 s₁₅ e4 k4 H₁₅ => ?_)))))))))
  refine wpAny_execs_cons (wpAny_Assign_Name (wpAny_Constant_bool (st_g H₁₅ (fun _ => .tail .head) fun m5 s₁₆ e5 k5 H₁₆ => ?_)))
  refine wpAny_execs_cons (wpAny_Assign_Name (Tuple_ (wpAny_items_nil (new_tuple H₁₆ fun pr s₁₇ H₁₇ => st_g H₁₇ (fun _ => .tail (.tail .head)) fun m6 s₁₈ e6 k6 H₁₈ => ?_))))
  have H₁₉ : St base os₀ ((L, nsA m6) :: (core S ln nm co fa lam cS c' lo qual vn vc vl ++ ((bf, lstA vl) :: rest))) s₁₈ :=
    (H₁₈.sub (.cons _ (.refl _))).perm ((List.Perm.cons _ (List.perm_append_comm_assoc (core S ln nm co fa lam cS c' lo qual vn vc vl) [(bf, lstA vl)] rest)).trans (.swap ..))
  refine h m6 bf t1 t2 t3 s₁₈ (((M3.of k4).of k5).of k6) ?_ ?_ ?_ ?_ ?_ ?_ H₁₉
  · exact (k6 _ (by decide)).trans ((k5 _ (by decide)).trans ((k4 _ (by decide)).trans ((k3 _ (by decide)).trans ((k2 _ (by decide)).trans ((k1 _ (by decide)).trans hn)))))
  · exact (k6 _ (by decide)).trans ((k5 _ (by decide)).trans ((k4 _ (by decide)).trans ((k3 _ (by decide)).trans ((k2 _ (by decide)).trans e1))))
  · exact (k6 _ (by decide)).trans ((k5 _ (by decide)).trans ((k4 _ (by decide)).trans ((k3 _ (by decide)).trans e2)))
  · exact (k6 _ (by decide)).trans ((k5 _ (by decide)).trans ((k4 _ (by decide)).trans e3))
  · exact (k6 _ (by decide)).trans ((k5 _ (by decide)).trans e4)
  · exact (k6 _ (by decide)).trans e5
end
end Mine

namespace Mine
open PySem PySem.W PyProof.Rows PySem.Calls PySem.Spec
section
variable {prog : Program} {w : World} {A : Around} {E : Value → Shared → Prop} {s : Shared} {base : Heap} {os₀ : OsState} {rest : Led} {mg mb : Str → Option Value}
  {S ln nm co fa lam cS c' fG fF L fA : Addr} {pm ctv : Value} {qual nam : Str} {vn vc vl : List Value} {gd fd : FuncData} {cd : Value} {m : Str → Option Value} {n : Int} {t : Tok} {Q : Flow → Shared → Prop} {f c d : Nat → Nat}

theorem a_try_ok {p k : Nat} {t1 t2 : Tok} (R : Room prog w A base) (G : G12 base mg mb fG fF gd fd) (hm : Ms m ln nm co fa lam) (hn : m (Str.ofString "n") = some (.int n t)) (hd : m (Str.ofString "deed") = some (.int (n.fmod 3) t1)) (ho : m (Str.ofString "one") = some (.int (p : Nat) t2))
    (hp : p < 12) (U : UF f c d) (hvl : Vals vl f) (hvc : Vals vc c) (hvn : Refs vn) (hdk : d p ≤ k) (hk63 : k ≤ 63)
    (H : St base os₀ ((L, nsA m) :: (core S ln nm co fa lam cS c' (lamObj qual cS pm c' ctv) qual vn vc vl ++ rest)) s)
    (h : ∀ m' vl' f' a r s', m' (Str.ofString "pair") = some (.ref a) → (∀ y, y ≠ Str.ofString "pair" → m' y = m y) → Vals vl' f' → UF f' c d → (n.fmod 3 = 1 → vl' = vl) → (n.fmod 3 ≠ 1 → f' p = c p) → vn[c p]? = some r →
      St base os₀ ((L, nsA m') :: (a, tupA [r, r]) :: (core S ln nm co fa lam cS c' (lamObj qual cS pm c' ctv) qual vn vc vl' ++ rest)) s' → wpAny (model prog w) A (execs (turn12.drop 7) (lawEnv12 nam L fA cd)) Q E s') :
    wpAny (model prog w) A (execs (turn12.drop 6) (lawEnv12 nam L fA cd)) Q E s := by
  have hdep := R.depth
  obtain ⟨og, hog, hdg⟩ := G.dg.obj
  have P1 : ∀ (x : Addr × Asn) (v : List Value), (core S ln nm co fa lam cS c' (lamObj qual cS pm c' ctv) qual vn vc v ++ (x :: rest)).Perm (x :: (core S ln nm co fa lam cS c' (lamObj qual cS pm c' ctv) qual vn vc v ++ rest)) := fun x v => List.perm_append_comm_assoc _ [x] rest
  refine wpAny_execs_cons (wpAny_Try_except (wpAny_execs_cons (wpAny_If (wpAny_isTrue_Compare1 (nm_l H (.head _) hd (c_int H fun u1 s₁ H₁ => PyProof.Rows.eq_int (wpAny_truthy_bool ?_)))))))
  split
  · rename_i he
    have he : n.fmod 3 = 1 := eq_of_beq he
    refine wpAny_execs_cons (wpAny_Assign_Name (wpAny_Call_ofName (nm_g H₁ G.gr.g G.hg (callWith_fn (evalArgs_kw rfl (spliced_cons (nm_l H₁ (.head _) ho (spliced_cons (nm_l H₁ (.head _) hm.g (spliced_nil ?_))))))))))
    refine wpAny_evalAll_cons (wpAny_bind (nm_l H₁ (.head _) hn (wpAny_bind (wpAny_standAt (wpAny_pure (wpAny_evalAll_nil ?_))))))
    refine ⟨⟨og, gd, H₁.keep _ _ hog, hdg⟩, ?_⟩
    refine ask_ok G hvc hvn k (kvs := [(Str.ofString "keep", .int n t)]) hdk (.inr ⟨_, rfl⟩) hp U hvl (by omega) R.handled (H₁.perm (P1 _ _)) fun a vl' f' s₂ r hv hU h1 h2 hr H₂ => ?_
    have H₃ : St base os₀ ((L, nsA m) :: (a, tupA [r, r]) :: (core S ln nm co fa lam cS c' (lamObj qual cS pm c' ctv) qual vn vc vl' ++ rest)) s₂ := H₂.perm ((List.Perm.swap ..).trans ((P1 _ _).symm.cons _))
    refine st_g H₃ (fun _ => up_head) fun m' s₃ e k' H₄ => wpAny_execs_nil (wpAny_execs_nil (wpAny_execs_nil ?_))
    exact h m' vl' f' a r s₃ e k' hv hU (fun _ => h1 (by simp)) (fun q => absurd he q) hr H₄
  · rename_i he
    have he : n.fmod 3 ≠ 1 := fun q => he (by simp [q])
    refine wpAny_execs_cons (wpAny_Assign_Name (wpAny_Call_ofName (nm_g H₁ G.gr.g G.hg (callWith_fn (evalArgs_plain (spliced_cons (nm_l H₁ (.head _) ho (spliced_cons (nm_l H₁ (.head _) hm.g (spliced_nil ⟨⟨og, gd, H₁.keep _ _ hog, hdg⟩, ?_⟩))))))))))
    refine ask_ok G hvc hvn k (kvs := []) hdk (.inl rfl) hp U hvl (by omega) R.handled (H₁.perm (P1 _ _)) fun a vl' f' s₂ r hv hU h1 h2 hr H₂ => ?_
    have H₃ : St base os₀ ((L, nsA m) :: (a, tupA [r, r]) :: (core S ln nm co fa lam cS c' (lamObj qual cS pm c' ctv) qual vn vc vl' ++ rest)) s₂ := H₂.perm ((List.Perm.swap ..).trans ((P1 _ _).symm.cons _))
    refine st_g H₃ (fun _ => up_head) fun m' s₃ e k' H₄ => wpAny_execs_nil (wpAny_execs_nil (wpAny_execs_nil ?_))
    exact h m' vl' f' a r s₃ e k' hv hU (fun q => absurd q he) (fun _ => h2 rfl) hr H₄

theorem a_try_out {t1 t2 : Tok} (R : Room prog w A base) (G : G12 base mg mb fG fF gd fd) (hm : Ms m ln nm co fa lam) (hn : m (Str.ofString "n") = some (.int n t)) (hd : m (Str.ofString "deed") = some (.int (n.fmod 3) t1)) (ho : m (Str.ofString "one") = some (.int 12 t2))
    (hvl : Vals vl f) (hfr : A.frames = some [lawEnv12 nam L fA cd])
    (H : St base os₀ ((L, nsA m) :: (core S ln nm co fa lam cS c' (lamObj qual cS pm c' ctv) qual vn vc vl ++ rest)) s)
    (h : ∀ m' s', m' (Str.ofString "refused") = some (.bool true) → (∀ y, y ≠ Str.ofString "refused" → m' y = m y) →
      St base os₀ ((L, nsA m') :: (core S ln nm co fa lam cS c' (lamObj qual cS pm c' ctv) qual vn vc vl ++ rest)) s' → wpAny (model prog w) A (execs (turn12.drop 7) (lawEnv12 nam L fA cd)) Q E s') :
    wpAny (model prog w) A (execs (turn12.drop 6) (lawEnv12 nam L fA cd)) Q E s := by
  have hdep := R.depth
  obtain ⟨og, hog, hdg⟩ := G.dg.obj
  have P1 : ∀ (x : Addr × Asn) (v : List Value), (core S ln nm co fa lam cS c' (lamObj qual cS pm c' ctv) qual vn vc v ++ (x :: rest)).Perm (x :: (core S ln nm co fa lam cS c' (lamObj qual cS pm c' ctv) qual vn vc v ++ rest)) := fun x v => List.perm_append_comm_assoc _ [x] rest
  have hF : FramesOk ((L, nsA m) :: rest) [lawEnv12 nam L fA cd] := FramesOk.cons (fun env he => by cases he) (by intro q; cases q) rfl (.head _)
  have fin : ∀ e s₂, Fly base os₀ (core S ln nm co fa lam cS c' (lamObj qual cS pm c' ctv) qual vn vc vl ++ ((L, nsA m) :: rest)) e "IndexError" s₂ → ∀ pos p1 p2 p3 p4 (QQ : Flow → Shared → Prop), (∀ s', wpAny (model prog w) A (execs (turn12.drop 7) (lawEnv12 nam L fA cd)) Q E s' → QQ .next s') →
      wpAny (model prog w) A (noteFrame (.ref e) (lawEnv12 nam L fA cd)) (fun _ s₂ => wpAny (model prog w) A (setFlight (.ref e) none) (fun _ s₃ => wpAny (model prog w) A (handleBy (.ref e) (lawEnv12 nam L fA cd) [.ExceptHandler (some (.Name (Str.ofString "IndexError") p1)) none [.Assign [.Name (Str.ofString "refused") p2] (.Constant (.bool true) 0 p3) p4] pos]) QQ E s₃) E s₂) E s₂ := fun e s₂ F₁ pos p1 p2 p3 p4 QQ hQQ => by
    have hF₁ : FramesOk (core S ln nm co fa lam cS c' (lamObj qual cS pm c' ctv) qual vn vc vl ++ ((L, nsA m) :: rest)) [lawEnv12 nam L fA cd] := hF.mono fun p hp => List.mem_append_right _ hp
    refine note1 (L := L) F₁ hfr hF₁ (.head _) rfl fun s₃ F₂ => ?_
    refine flight F₂ fun s₄ F₃ => ?_
    obtain ⟨tb, F₃⟩ := F₃
    have ty : s₄.TypeIs (.ref e) "IndexError" := by obtain ⟨o, ho, hc, _⟩ := F₃.get (.head _); exact ⟨o, ho, hc⟩
    refine wpAny_handleBy_builtin (X := "IndexError") (T := "IndexError") (b := true) (by rw [isSubtype_type]; kernel_rfl) (by rw [isSubtype_type]; kernel_rfl) (by rw [isSubtype_type]; kernel_rfl) (nm_b F₃ G.gr.g G.gr.b G.n1 G.b1 ⟨rfl, ty, ite_pos rfl (flight ⟨tb, F₃⟩ fun s₅ F₄ => ?_)⟩)
    obtain ⟨tb', F₄⟩ := F₄
    have H₂ : St base os₀ ((L, nsA m) :: (core S ln nm co fa lam cS c' (lamObj qual cS pm c' ctv) qual vn vc vl ++ rest)) s₅ := (F₄.sub (.cons _ (.cons _ (.refl _)))).perm (P1 _ _).symm
    refine wpAny_execs_cons (wpAny_Assign_Name (wpAny_Constant_bool (st_g H₂ (fun _ => up_head) fun m' s₆ e' k' H₃ => wpAny_execs_nil (hQQ _ (h m' s₆ e' k' H₃)))))
  refine wpAny_execs_cons (wpAny_Try_except (wpAny_execs_cons (wpAny_If (wpAny_isTrue_Compare1 (nm_l H (.head _) hd (c_int H fun u1 s₁ H₁ => PyProof.Rows.eq_int (wpAny_truthy_bool ?_)))))))
  split
  · refine wpAny_execs_cons (wpAny_Assign_Name (wpAny_Call_ofName (nm_g H₁ G.gr.g G.hg (callWith_fn (evalArgs_kw rfl (spliced_cons (nm_l H₁ (.head _) ho (spliced_cons (nm_l H₁ (.head _) hm.g (spliced_nil ?_))))))))))
    refine wpAny_evalAll_cons (wpAny_bind (nm_l H₁ (.head _) hn (wpAny_bind (wpAny_standAt (wpAny_pure (wpAny_evalAll_nil ?_))))))
    refine ⟨⟨og, gd, H₁.keep _ _ hog, hdg⟩, ?_⟩
    exact ask_out (f := f) G (kvs := [(Str.ofString "keep", .int n t)]) (.inr ⟨_, rfl⟩) hvl (by omega) R.handled hfr hF (H₁.perm (P1 _ _)) fun e s₂ F₁ => fin e s₂ F₁ _ _ _ _ _ _ fun _ q => q
  · refine wpAny_execs_cons (wpAny_Assign_Name (wpAny_Call_ofName (nm_g H₁ G.gr.g G.hg (callWith_fn (evalArgs_plain (spliced_cons (nm_l H₁ (.head _) ho (spliced_cons (nm_l H₁ (.head _) hm.g (spliced_nil ⟨⟨og, gd, H₁.keep _ _ hog, hdg⟩, ?_⟩))))))))))
    exact ask_out (f := f) G (kvs := []) (.inl rfl) hvl (by omega) R.handled hfr hF (H₁.perm (P1 _ _)) fun e s₂ F₁ => fin e s₂ F₁ _ _ _ _ _ _ fun _ q => q
end
end Mine

namespace Mine
open PySem PySem.W PyProof.Rows PySem.Calls PySem.Spec
theorem UF.join {f c d : Nat → Nat} (U : UF f c d) {p q : Nat} (hp : p < 12) (hq : q < 12) : ∃ d', UF (fun i => if i = c p then c q else f i) (fun j => if c j = c p then c q else c j) d' ∧ ∀ j, d' j ≤ d j + 1 := by
  have ha := U.clt p hp
  have hb := U.clt q hq
  have ca := U.cc p hp
  have cb := U.cc q hq
  have fa : f (c p) = c p := (U.root _ ha).mpr ca
  have fb : f (c q) = c q := (U.root _ hb).mpr cb
  generalize c p = a at *
  generalize c q = b at *
  by_cases hab : a = b
  · subst hab
    have e1 : (fun i => if i = a then a else f i) = f := by
      funext i
      split
      · rename_i e; rw [e, fa]
      · rfl
    have e2 : (fun j => if c j = a then a else c j) = c := by
      funext j
      split
      · rename_i e; exact e.symm
      · rfl
    rw [e1, e2]
    exact ⟨d, U, fun j => Nat.le_succ _⟩
  · refine ⟨fun j => if c j = a then d j + 1 else d j, ?_, fun j => ?_⟩
    · refine ⟨fun j hj => ?_, fun j hj => ?_, fun j hj => ?_, fun j hj => ?_, fun j hj => ?_, fun j hj => ?_, fun j hj => ?_⟩
      · show (if c j = a then b else c j) < 12
        split
        · exact hb
        · exact U.clt j hj
      · show (if j = a then b else f j) < 12
        split
        · exact hb
        · exact U.flt j hj
      · show ((if j = a then b else f j) = j ↔ (if c j = a then b else c j) = j)
        by_cases hj1 : j = a
        · subst hj1; rw [if_pos rfl, if_pos ca]
        · rw [if_neg hj1]
          by_cases hj2 : c j = a
          · rw [if_pos hj2]
            have h1 : ¬ f j = j := fun e => hj1 (((U.root j hj).mp e).symm.trans hj2)
            have h2 : ¬ b = j := fun e => hab (by rw [← hj2, ← e, cb])
            exact ⟨fun e => absurd e h1, fun e => absurd e h2⟩
          · rw [if_neg hj2]; exact U.root j hj
      · show (if c (if c j = a then b else c j) = a then b else c (if c j = a then b else c j)) = if c j = a then b else c j
        by_cases hj2 : c j = a
        · rw [if_pos hj2, cb, if_neg (Ne.symm hab)]
        · rw [if_neg hj2, U.cc j hj, if_neg hj2]
      · show (if c (if j = a then b else f j) = a then b else c (if j = a then b else f j)) = if c j = a then b else c j
        by_cases hj1 : j = a
        · subst hj1; rw [if_pos rfl, cb, if_neg (Ne.symm hab), if_pos ca]
        · rw [if_neg hj1, U.cf j hj]
      · show (if j = a then b else f j) = j → (if c j = a then d j + 1 else d j) = 0
        by_cases hj1 : j = a
        · subst hj1; rw [if_pos rfl]; intro e; exact absurd e.symm hab
        · rw [if_neg hj1]
          intro e
          have h1 := (U.root j hj).mp e
          rw [h1, if_neg hj1]
          exact U.dz j hj e
      · show (if j = a then b else f j) ≠ j → (if c (if j = a then b else f j) = a then d (if j = a then b else f j) + 1 else d (if j = a then b else f j)) < if c j = a then d j + 1 else d j
        by_cases hj1 : j = a
        · subst hj1
          intro _
          rw [if_pos rfl, cb, if_neg (Ne.symm hab), if_pos ca, U.dz b hb fb]
          omega
        · rw [if_neg hj1, U.cf j hj]
          intro e
          have := U.ds j hj e
          by_cases hj2 : c j = a
          · rw [if_pos hj2, if_pos hj2]; omega
          · rw [if_neg hj2, if_neg hj2]; exact this
    · show (if c j = a then d j + 1 else d j) ≤ d j + 1
      split <;> omega
theorem zip_self {l : List Value} : ∀ p ∈ l.zip l, p.1 = p.2 := by
  induction l with
  | nil => intro p hp; cases hp
  | cons a r ih =>
    intro p hp
    rcases List.mem_cons.mp hp with rfl | hp
    · rfl
    · exact ih p hp
section
variable {prog : Program} {w : World} {A : Around} {E : Value → Shared → Prop} {s : Shared} {base : Heap} {os₀ : OsState} {rest led : Led} {mg mb : Str → Option Value}
  {S ln nm co fa lam cS c' fG fF L fA bf : Addr} {pm ctv : Value} {lo : Obj} {qual nam : Str} {vn vc vl : List Value} {gd fd : FuncData} {cd : Value} {m : Str → Option Value} {n : Int} {t : Tok} {Q : Flow → Shared → Prop} {f c d : Nat → Nat}
theorem ne_copy {l b : Addr} {vs : List Value} {Q : Value → Shared → Prop} (R : Room prog w A base) (H : St base os₀ led s) (h1 : (l, lstA vs) ∈ led) (h2 : (b, lstA vs) ∈ led) (h : Q (.bool false) s) : wpAny (model prog w) A (compareOp .NotEq (.ref l) (.ref b)) Q E s := by
  have := R.units
  exact list_ne_same (H.isList h1) (H.isList h2) rfl (by omega) (fun p hp => by rw [zip_self p hp]; exact EqW.self _) h

/-- the thirteenth place was asked -/
theorem a_refused {t2 : Tok} (R : Room prog w A base) (hm : Ms m ln nm co fa lam) (ho : m (Str.ofString "one") = some (.int 12 t2)) (hr : m (Str.ofString "refused") = some (.bool true)) (hb : m (Str.ofString "before") = some (.ref bf))
    (H : St base os₀ ((L, nsA m) :: (core S ln nm co fa lam cS c' lo qual vn vc vl ++ ((bf, lstA vl) :: rest))) s) (h : ∀ s', St base os₀ ((L, nsA m) :: (core S ln nm co fa lam cS c' lo qual vn vc vl ++ ((bf, lstA vl) :: rest))) s' → Q .cont s') :
    wpAny (model prog w) A (execs (turn12.drop 7) (lawEnv12 nam L fA cd)) Q E s := by
  refine wpAny_execs_cons (wpAny_If (wpAny_isTrue_Compare1 (nm_l H (.head _) hr (wpAny_Compare1 (nm_l H (.head _) ho (c_int H fun u1 s₁ H₁ => PyProof.Rows.eq_int (PyProof.Rows.ne_bool (wpAny_truthy_bool (ite_neg (by decide) (wpAny_execs_nil ?_))))))))))
  refine wpAny_execs_cons (wpAny_If (wpAny_isTrue_value (nm_l H₁ (.head _) hr (wpAny_truthy_bool (ite_pos rfl ?_)))))
  refine wpAny_execs_cons (wpAny_If (wpAny_isTrue_Compare1 (nm_l H₁ (.head _) hm.l (nm_l H₁ (.head _) hb (ne_copy R H₁ (.tail _ (.head _)) (.tail _ (List.mem_append_right _ (.head _))) (wpAny_truthy_bool (ite_neg (by decide) (wpAny_execs_nil ?_))))))))
  exact wpAny_execs_cons (wpAny_Continue (h _ H₁))
end
end Mine

namespace Mine
open PySem PySem.W PyProof.Rows PySem.Calls PySem.Spec
/-- the names: lists of one number each -/
def Nms (vn : List Value) (rest : Led) : Prop := ∀ i, i < 12 → ∃ a t, vn[i]? = some (.ref a) ∧ (a, lstA [.int (i : Nat) t]) ∈ rest
theorem Nms.refs {vn : List Value} {rest : Led} (h : Nms vn rest) : Refs vn := fun i hi => let ⟨a, _, e, _⟩ := h i hi; ⟨a, e⟩
section
variable {prog : Program} {w : World} {A : Around} {E : Value → Shared → Prop} {s : Shared} {base : Heap} {os₀ : OsState} {rest led : Led} {mg mb : Str → Option Value}
  {S ln nm co fa lam cS c' fG fF L fA bf a ar : Addr} {pm ctv : Value} {lo : Obj} {qual nam : Str} {vn vc vl vb : List Value} {gd fd : FuncData} {cd : Value} {m : Str → Option Value} {n : Int} {t : Tok} {Q : Flow → Shared → Prop} {f c d : Nat → Nat}

/-- the checks behind an answer -/
theorem a_checks {p : Nat} {t1 t2 : Tok} (R : Room prog w A base) (G : G12 base mg mb fG fF gd fd) (hm : Ms m ln nm co fa lam) (hp : p < 12) (U : UF f c d) (hvl : Vals vl f) (hvc : Vals vc c)
    (hd : m (Str.ofString "deed") = some (.int (n.fmod 3) t1)) (ho : m (Str.ofString "one") = some (.int (p : Nat) t2)) (hr : m (Str.ofString "refused") = some (.bool false)) (hb : m (Str.ofString "before") = some (.ref bf)) (hpr : m (Str.ofString "pair") = some (.ref a))
    (har : vn[c p]? = some (.ref ar)) (h1 : n.fmod 3 = 1 → vl = vb) (h2 : n.fmod 3 ≠ 1 → f p = c p) (hbf : (bf, lstA vb) ∈ rest)
    (H : St base os₀ ((L, nsA m) :: (a, tupA [.ref ar, .ref ar]) :: (core S ln nm co fa lam cS c' lo qual vn vc vl ++ rest)) s)
    (h : ∀ s', St base os₀ ((L, nsA m) :: (a, tupA [.ref ar, .ref ar]) :: (core S ln nm co fa lam cS c' lo qual vn vc vl ++ rest)) s' → wpAny (model prog w) A (execs (turn12.drop 12) (lawEnv12 nam L fA cd)) Q E s') :
    wpAny (model prog w) A (execs (turn12.drop 7) (lawEnv12 nam L fA cd)) Q E s := by
  obtain ⟨tl, hfl⟩ := hvl.2 p hp
  obtain ⟨tc, hfc⟩ := hvc.2 p hp
  have hclt := U.clt p hp
  have ht : ∀ {s' : Shared}, St base os₀ ((L, nsA m) :: (a, tupA [.ref ar, .ref ar]) :: (core S ln nm co fa lam cS c' lo qual vn vc vl ++ rest)) s' → IsTup s'.heap a ([.ref ar, .ref ar] : List Value).toArray := fun H' => H'.isTup (.tail _ (.head _))
  refine wpAny_execs_cons (wpAny_If (wpAny_isTrue_Compare1 (nm_l H (.head _) hr (wpAny_Compare1 (nm_l H (.head _) ho (c_int H fun u1 s₁ H₁ => PyProof.Rows.eq_int (PyProof.Rows.ne_bool (wpAny_truthy_bool (ite_neg ?_ (wpAny_execs_nil ?_))))))))))
  · have : ((p : Nat) : Int) ≠ 12 := by omega
    simp [this]
  refine wpAny_execs_cons (wpAny_If (wpAny_isTrue_value (nm_l H₁ (.head _) hr (wpAny_truthy_bool (ite_neg (by decide) (wpAny_execs_nil ?_))))))
  refine wpAny_execs_cons (wpAny_If (wpAny_isTrue_BoolOp (wpAny_allTrue_Or_cons (wpAny_isTrue_Compare1 (wpAny_Call_ofName (nm_b H₁ G.gr.g G.gr.b G.n5 G.b5 (callWith_builtin rfl (evalArgs_plain (spliced_cons (nm_l H₁ (.head _) hpr (spliced_nil (PyProof.Rows.len_tuple (ht H₁) (by show (2 : Int) < _; decide) ?_))))))))))))
  have H₂ : St base os₀ _ { s₁ with toks := s₁.toks + 1 + 1 } := H₁.tok
  refine c_int H₂ fun u2 s₂ H₃ => PyProof.Rows.ne_int (wpAny_truthy_bool (ite_neg (by show ¬ ((2 : Int) != 2) = true; decide) ?_))
  refine wpAny_allTrue_Or_cons (wpAny_isTrue_Compare1 (Subscript_ (nm_l H₃ (.head _) hpr (c_int H₃ fun u3 s₃ H₄ => item_tupleL (l := [.ref ar, .ref ar]) (ht H₄) (by decide) (by decide) (j := 0) rfl rfl (Subscript_ (nm_l H₄ (.head _) hm.n (Subscript_ (nm_l H₄ (.head _) hm.c (nm_l H₄ (.head _) ho (item_l H₄ (.tail _ (.tail _ (.tail _ (.tail _ (.tail _ (.head _)))))) (by omega) (by omega) (by simpa using hfc)
    (item_l H₄ (.tail _ (.tail _ (.tail _ (.tail _ (.head _))))) (by omega) (by omega) (x := .ref ar) (by simpa using har) (wpAny_isNot_ref_self (wpAny_truthy_bool (ite_neg (by decide) ?_))))))))))))))
  refine wpAny_allTrue_Or_cons (wpAny_isTrue_Compare1 (Subscript_ (nm_l H₄ (.head _) hpr (c_int H₄ fun u4 s₄ H₅ => item_tupleL (l := [.ref ar, .ref ar]) (ht H₅) (by decide) (by decide) (j := 1) rfl rfl (Subscript_ (nm_l H₅ (.head _) hpr (c_int H₅ fun u5 s₅ H₆ => item_tupleL (l := [.ref ar, .ref ar]) (ht H₆) (by decide) (by decide) (j := 0) rfl rfl
    (wpAny_isNot_ref_self (wpAny_truthy_bool (ite_neg (by decide) (wpAny_allTrue_Or_nil (ite_neg (by decide) (wpAny_execs_nil ?_)))))))))))))
  have st10 : ∀ s₇, St base os₀ ((L, nsA m) :: (a, tupA [.ref ar, .ref ar]) :: (core S ln nm co fa lam cS c' lo qual vn vc vl ++ rest)) s₇ → wpAny (model prog w) A (execs (turn12.drop 11) (lawEnv12 nam L fA cd)) Q E s₇ := fun s₇ H₇ => by
    refine wpAny_execs_cons (wpAny_If (wpAny_isTrue_BoolOp (wpAny_allTrue_And_cons (wpAny_isTrue_Compare1 (nm_l H₇ (.head _) hd (c_int H₇ fun u6 s₈ H₈ => PyProof.Rows.eq_int (wpAny_truthy_bool ?_)))))))
    split
    · rename_i he
      have he : n.fmod 3 = 2 := eq_of_beq he
      have hfp : f p = c p := h2 (by omega)
      refine wpAny_allTrue_And_cons (wpAny_isTrue_Compare1 (Subscript_ (nm_l H₈ (.head _) hm.l (nm_l H₈ (.head _) ho (item_l H₈ (.tail _ (.tail _ (.head _))) (by omega) (by omega) (by simpa using hfl) (Subscript_ (nm_l H₈ (.head _) hm.c (nm_l H₈ (.head _) ho (item_l H₈ (.tail _ (.tail _ (.tail _ (.tail _ (.tail _ (.head _)))))) (by omega) (by omega) (by simpa using hfc)
        (PyProof.Rows.ne_int (wpAny_truthy_bool (ite_neg (by rw [hfp]; simp) (ite_neg (by decide) (wpAny_execs_nil (h _ H₈)))))))))))))))
    · exact ite_neg (by decide) (wpAny_execs_nil (h _ H₈))
  refine wpAny_execs_cons (wpAny_If (wpAny_isTrue_BoolOp (wpAny_allTrue_And_cons (wpAny_isTrue_Compare1 (nm_l H₆ (.head _) hd (c_int H₆ fun u6 s₆ H₇ => PyProof.Rows.eq_int (wpAny_truthy_bool ?_)))))))
  split
  · rename_i he
    have he : n.fmod 3 = 1 := eq_of_beq he
    have hv := h1 he
    subst hv
    refine wpAny_allTrue_And_cons (wpAny_isTrue_Compare1 (nm_l H₇ (.head _) hm.l (nm_l H₇ (.head _) hb (ne_copy R H₇ (.tail _ (.tail _ (.head _))) (.tail _ (.tail _ (List.mem_append_right _ hbf))) (wpAny_truthy_bool (ite_neg (by decide) (ite_neg (by decide) (wpAny_execs_nil (st10 _ H₇)))))))))
  · exact ite_neg (by decide) (wpAny_execs_nil (st10 _ H₇))
end
end Mine

namespace Mine
open PySem PySem.W PyProof.Rows PySem.Calls PySem.Spec
theorem Vals.congr {vs : List Value} {f g : Nat → Nat} (h : Vals vs f) (e : ∀ i, i < 12 → f i = g i) : Vals vs g := ⟨h.1, fun i hi => by rw [← e i hi]; exact h.2 i hi⟩
section
variable {prog : Program} {w : World} {A : Around} {E : Value → Shared → Prop} {s : Shared} {base : Heap} {os₀ : OsState} {rest led : Led} {mg mb : Str → Option Value}
  {S ln nm co fa lam cS c' fG fF L fA bf a ar : Addr} {pm ctv : Value} {qual nam : Str} {vn vc vl vb : List Value} {gd fd : FuncData} {cd : Value} {m : Str → Option Value} {n : Int} {t : Tok} {Q : Flow → Shared → Prop} {f c d : Nat → Nat}

theorem a_join {p q k : Nat} {t1 t2 t3 : Tok} (R : Room prog w A base) (G : G12 base mg mb fG fF gd fd) (hm : Ms m ln nm co fa lam) (hp : p < 12) (hq : q < 12) (U : UF f c d) (hvl : Vals vl f) (hvc : Vals vc c) (hN : Nms vn rest) (hdk : d q ≤ k) (hk63 : k ≤ 63)
    (hd : m (Str.ofString "deed") = some (.int (n.fmod 3) t1)) (ho : m (Str.ofString "one") = some (.int (p : Nat) t2)) (htw : m (Str.ofString "two") = some (.int (q : Nat) t3)) (hpr : m (Str.ofString "pair") = some (.ref a)) (har : vn[c p]? = some (.ref ar))
    (H : St base os₀ ((L, nsA m) :: (a, tupA [.ref ar, .ref ar]) :: (core S ln nm co fa lam cS c' (lamObj qual cS pm c' ctv) qual vn vc vl ++ rest)) s)
    (h : ∀ m' vl' vc' f' c₂ d' s', Ms m' ln nm co fa lam → UF f' c₂ d' → (∀ j, d' j ≤ d j + 1) → Vals vl' f' → Vals vc' c₂ → St base os₀ ((L, nsA m') :: (core S ln nm co fa lam cS c' (lamObj qual cS pm c' ctv) qual vn vc' vl' ++ rest)) s' → Q .next s') :
    wpAny (model prog w) A (execs (turn12.drop 12) (lawEnv12 nam L fA cd)) Q E s := by
  have hdep := R.depth
  obtain ⟨og, hog, hdg⟩ := G.dg.obj
  refine wpAny_execs_cons (wpAny_If (wpAny_isTrue_Compare1 (nm_l H (.head _) hd (c_int H fun u1 s₁ H₁ => PyProof.Rows.eq_int (wpAny_truthy_bool ?_)))))
  split
  rotate_left
  · exact wpAny_execs_nil (wpAny_execs_nil (h m vl vc f c d _ hm U (fun j => Nat.le_succ _) hvl hvc (H₁.sub (.cons_cons _ (.cons _ (.refl _))))))
  refine wpAny_execs_cons (wpAny_Assign_Name (wpAny_Call_ofName (nm_g H₁ G.gr.g G.hg (callWith_fn (evalArgs_plain (spliced_cons (nm_l H₁ (.head _) htw (spliced_cons (nm_l H₁ (.head _) hm.g (spliced_nil ⟨⟨og, gd, H₁.keep _ _ hog, hdg⟩, ?_⟩))))))))))
  refine ask_ok G hvc hN.refs k (kvs := []) hdk (.inl rfl) hq U hvl (by omega) R.handled (H₁.perm (List.perm_append_comm_assoc (core S ln nm co fa lam cS c' (lamObj qual cS pm c' ctv) qual vn vc vl) [(L, nsA m), (a, tupA [.ref ar, .ref ar])] rest)) fun g vl' f' s₂ r hv' U' _ _ hr H₂ => ?_
  obtain ⟨aq, tq, haq, hmq⟩ := hN (c q) (U.clt q hq)
  have hr' : r = .ref aq := by rw [haq] at hr; exact (Option.some.inj hr).symm
  subst hr'
  obtain ⟨ap, tp, hap, hmp⟩ := hN (c p) (U.clt p hp)
  have hap' : ap = ar := by rw [har] at hap; cases hap; rfl
  subst hap'
  have H₃ : St base os₀ ((L, nsA m) :: (g, tupA [.ref aq, .ref aq]) :: (a, tupA [.ref ap, .ref ap]) :: (core S ln nm co fa lam cS c' (lamObj qual cS pm c' ctv) qual vn vc vl' ++ rest)) s₂ :=
    H₂.perm ((List.Perm.swap ..).trans ((List.perm_append_comm_assoc [(L, nsA m), (a, tupA [.ref ap, .ref ap])] (core S ln nm co fa lam cS c' (lamObj qual cS pm c' ctv) qual vn vc vl') rest).cons _))
  refine st_g H₃ (fun _ => up_head) fun m₁ s₃ e₁ k₁ H₄ => ?_
  have hm₁ := hm.of k₁
  have ho₁ := (k₁ (Str.ofString "one") (by decide)).trans ho
  have htw₁ := (k₁ (Str.ofString "two") (by decide)).trans htw
  have hpr₁ := (k₁ (Str.ofString "pair") (by decide)).trans hpr
  obtain ⟨tc, hfc⟩ := hvc.2 p hp
  obtain ⟨tc', hfc'⟩ := hvc.2 q hq
  have hclt := U.clt p hp
  have hclt' := U.clt q hq
  refine wpAny_execs_cons (wpAny_If (wpAny_isTrue_BoolOp (wpAny_allTrue_Or_cons (wpAny_isTrue_Compare1 (Subscript_ (nm_l H₄ (.head _) e₁ (c_int H₄ fun u2 s₄ H₅ => item_tupleL (l := [.ref aq, .ref aq]) (H₅.isTup (.tail _ (.head _))) (by decide) (by decide) (j := 0) rfl rfl (Subscript_ (nm_l H₅ (.head _) hm₁.n (Subscript_ (nm_l H₅ (.head _) hm₁.c (nm_l H₅ (.head _) htw₁
    (item_l H₅ (.tail _ (.tail _ (.tail _ (.tail _ (.tail _ (.tail _ (.head _))))))) (by omega) (by omega) (by simpa using hfc') (item_l H₅ (.tail _ (.tail _ (.tail _ (.tail _ (.tail _ (.head _)))))) (by omega) (by omega) (x := .ref aq) (by simpa using haq) (wpAny_isNot_ref_self (wpAny_truthy_bool (ite_neg (by decide) ?_)))))))))))))))))
  refine wpAny_allTrue_Or_cons (wpAny_isTrue_Compare1 (Subscript_ (nm_l H₅ (.head _) e₁ (c_int H₅ fun u3 s₅ H₆ => item_tupleL (l := [.ref aq, .ref aq]) (H₆.isTup (.tail _ (.head _))) (by decide) (by decide) (j := 1) rfl rfl (Subscript_ (nm_l H₆ (.head _) e₁ (c_int H₆ fun u4 s₆ H₇ => item_tupleL (l := [.ref aq, .ref aq]) (H₇.isTup (.tail _ (.head _))) (by decide) (by decide) (j := 0) rfl rfl
    (wpAny_isNot_ref_self (wpAny_truthy_bool (ite_neg (by decide) (wpAny_allTrue_Or_nil (ite_neg (by decide) (wpAny_execs_nil ?_)))))))))))))
  have mq : ∀ (x y z : Addr × Asn) (v : List Value), (aq, lstA [.int (c q : Nat) tq]) ∈ (x :: y :: z :: (core S ln nm co fa lam cS c' (lamObj qual cS pm c' ctv) qual vn vc v ++ rest)) := fun x y z v => .tail _ (.tail _ (.tail _ (List.mem_append_right _ hmq)))
  have mp : ∀ (x y z : Addr × Asn) (v : List Value), (ap, lstA [.int (c p : Nat) tp]) ∈ (x :: y :: z :: (core S ln nm co fa lam cS c' (lamObj qual cS pm c' ctv) qual vn vc v ++ rest)) := fun x y z v => .tail _ (.tail _ (.tail _ (List.mem_append_right _ hmp)))
  refine wpAny_execs_cons (wpAny_Assign_Subscript (Subscript_ (Subscript_ (nm_l H₇ (.head _) e₁ (c_int H₇ fun u5 s₇ H₈ => item_tupleL (l := [.ref aq, .ref aq]) (H₈.isTup (.tail _ (.head _))) (by decide) (by decide) (j := 0) rfl rfl (c_int H₈ fun u6 s₈ H₉ => item_l H₉ (mq _ _ _ _) (by decide) (by decide) rfl (nm_l H₉ (.head _) hm₁.l
    (Subscript_ (Subscript_ (nm_l H₉ (.head _) hpr₁ (c_int H₉ fun u7 s₉ H₁₀ => item_tupleL (l := [.ref ap, .ref ap]) (H₁₀.isTup (.tail _ (.tail _ (.head _)))) (by decide) (by decide) (j := 0) rfl rfl (c_int H₁₀ fun u8 s₁₀ H₁₁ => item_l H₁₁ (mp _ _ _ _) (by decide) (by decide) rfl
    (l_set H₁₁ (.tail (.tail (.tail .head))) (by omega) (by omega) (by rw [hv'.1]; omega) fun s₁₁ H₁₂ => ?_)))))))))))))
  have hv3 : Vals (vl'.set ((c p : Nat) : Int).toNat (.int (c q : Nat) tq)) (fun i => if i = c p then c q else f' i) := by simpa using hv'.set hclt tq
  generalize vl'.set ((c p : Nat) : Int).toNat (.int (c q : Nat) tq) = vl3 at hv3 H₁₂
  obtain ⟨d', U3, hd'⟩ := U'.join hp hq
  refine wpAny_execs_cons (wpAny_Assign_Name (Subscript_ (nm_l H₁₂ (.head _) hm₁.c (nm_l H₁₂ (.head _) ho₁ (item_l H₁₂ (.tail _ (.tail _ (.tail _ (.tail _ (.tail _ (.tail _ (.head _))))))) (by omega) (by omega) (by simpa using hfc) (st_g H₁₂ (fun _ => up_head) fun m₂ s₁₂ e₂ k₂ H₁₃ => ?_))))))
  have hm₂ := hm₁.of k₂
  have hg₂ := (k₂ (Str.ofString "goal") (by decide)).trans e₁
  have H₁₄ : St base os₀ ((L, nsA m₂) :: (g, tupA [.ref aq, .ref aq]) :: (core S ln nm co fa lam cS c' (lamObj qual cS pm c' ctv) qual vn vc vl3 ++ rest)) s₁₂ := H₁₃.sub (.cons_cons _ (.cons_cons _ (.cons _ (.refl _))))
  clear H₁₃
  refine wpAny_execs_cons (for_range (n := 12) (base := base) (os₀ := os₀) (t1 := 0) (t := 0) (t2 := 0) (r := 0) (fun i led => ∃ m₃ vc₃, Ms m₃ ln nm co fa lam ∧ m₃ (Str.ofString "goal") = some (.ref g) ∧ m₃ (Str.ofString "gone") = some (.int (c p : Nat) tc) ∧ Vals vc₃ (fun j => if j < i ∧ c j = c p then c q else c j) ∧
      led = (L, nsA m₃) :: (g, tupA [.ref aq, .ref aq]) :: (core S ln nm co fa lam cS c' (lamObj qual cS pm c' ctv) qual vn vc₃ vl3 ++ rest)) R.handled (by decide) ?_ ?_ ?_)
  · refine wpAny_Call_ofName (nm_b H₁₄ G.gr.g G.gr.b G.n3 G.b3 (callWith_excType rfl (evalArgs_plain (spliced_cons (c_int (k := 0) (pos := ⟨64, 27, 64, 29⟩) H₁₄ fun u9 s₁₃ H₁₅ => spliced_nil (r_new (n := 12) H₁₅ fun r s₁₄ H₁₆ => ?_))))))
    obtain ⟨v1, v2, H₁₆⟩ := H₁₆
    exact ⟨r, v1, u9, v2, _, rfl, H₁₆, m₂, vc, hm₂, hg₂, e₂, hvc.congr (fun i hi => (if_neg (by omega)).symm), rfl⟩
  · rintro I i v led s₁₃ E' hi ⟨ti, rfl⟩ ⟨m₃, vc₃, hm₃, hg₃, hgo₃, hvc₃, rfl⟩ H₁₅
    refine wpAny_assign_Name (st_g H₁₅ (fun _ => .tail .head) fun m₄ s₁₄ e₄ k₄ H₁₆ => ?_)
    have hm₄ := hm₃.of k₄
    have hg₄ := (k₄ (Str.ofString "goal") (by decide)).trans hg₃
    have hgo₄ := (k₄ (Str.ofString "gone") (by decide)).trans hgo₃
    obtain ⟨tx, hx⟩ := hvc₃.2 i hi
    have hx' : vc₃[i]? = some (.int ((c i : Nat) : Int) tx) := by rw [hx]; simp
    refine wpAny_execs_cons (wpAny_If (wpAny_isTrue_Compare1 (Subscript_ (nm_l H₁₆ (.tail _ (.head _)) hm₄.c (nm_l H₁₆ (.tail _ (.head _)) e₄ (item_l H₁₆ (.tail _ (.tail _ (.tail _ (.tail _ (.tail _ (.tail _ (.head _))))))) (by omega) (by omega) (by simpa using hx') (nm_l H₁₆ (.tail _ (.head _)) hgo₄ (PyProof.Rows.eq_int (wpAny_truthy_bool ?_)))))))))
    split
    · rename_i he
      have he : c i = c p := by have := eq_of_beq he; omega
      refine wpAny_execs_cons (wpAny_Assign_Subscript (Subscript_ (Subscript_ (nm_l H₁₆ (.tail _ (.head _)) hg₄ (c_int H₁₆ fun w1 s₁₅ H₁₇ => item_tupleL (l := [.ref aq, .ref aq]) (H₁₇.isTup (.tail _ (.tail _ (.head _)))) (by decide) (by decide) (j := 0) rfl rfl (c_int H₁₇ fun w2 s₁₆ H₁₈ => item_l H₁₈ (.tail _ (.tail _ (.tail _ (List.mem_append_right _ hmq)))) (by decide) (by decide) rfl
        (nm_l H₁₈ (.tail _ (.head _)) hm₄.c (nm_l H₁₈ (.tail _ (.head _)) e₄ (l_set H₁₈ (.tail (.tail (.tail (.tail (.tail (.tail .head)))))) (by omega) (by omega) (by rw [hvc₃.1]; omega) fun s₁₇ H₁₉ => wpAny_execs_nil (wpAny_execs_nil ?_))))))))))
      refine ⟨_, ⟨m₄, _, hm₄, hg₄, hgo₄, ?_, rfl⟩, H₁₉⟩
      refine (show Vals _ _ from (by simpa using hvc₃.set hi tq)).congr fun j hj => ?_
      by_cases hji : j = i
      · subst hji; rw [if_pos rfl, if_pos ⟨Nat.lt_succ_self _, he⟩]
      · rw [if_neg hji]
        by_cases h1 : j < i
        · simp [h1, Nat.lt_succ_of_lt h1]
        · have h2 : ¬ j < i + 1 := by omega
          simp [h1, h2]
    · rename_i he
      have he : c i ≠ c p := fun q => he (by simp [q])
      refine wpAny_execs_nil (wpAny_execs_nil ⟨_, ⟨m₄, vc₃, hm₄, hg₄, hgo₄, hvc₃.congr fun j hj => ?_, rfl⟩, H₁₆⟩)
      by_cases hji : j = i
      · subst hji; simp [he]
      · by_cases h1 : j < i
        · simp [h1, Nat.lt_succ_of_lt h1]
        · have h2 : ¬ j < i + 1 := by omega
          simp [h1, h2]
  · rintro led s₁₃ ⟨m₃, vc₃, hm₃, hg₃, hgo₃, hvc₃, rfl⟩ H₁₅
    refine wpAny_execs_nil (wpAny_execs_nil (h m₃ vl3 vc₃ _ _ d' _ hm₃ U3 hd' hv3 (hvc₃.congr fun j hj => ?_) (H₁₅.sub (.cons_cons _ (.cons _ (.refl _))))))
    simp [hj]
end
end Mine

namespace Mine
open PySem PySem.W PyProof.Rows PySem.Calls PySem.Spec
theorem Nms.mono {vn : List Value} {rest rest' : Led} (h : Nms vn rest) (hs : ∀ p ∈ rest, p ∈ rest') : Nms vn rest' := fun i hi => let ⟨a, t, e, q⟩ := h i hi; ⟨a, t, e, hs _ q⟩
section
variable {prog : Program} {w : World} {A : Around} {E : Value → Shared → Prop} {s : Shared} {base : Heap} {os₀ : OsState} {rest led : Led} {mg mb : Str → Option Value}
  {S ln nm co fa lam cS c' fG fF L fA : Addr} {pm ctv : Value} {qual nam : Str} {vn vc vl : List Value} {gd fd : FuncData} {cd : Value} {m : Str → Option Value} {n : Int} {t : Tok} {Q : Flow → Shared → Prop} {f c d : Nat → Nat}

theorem turn12_ok {k : Nat} (R : Room prog w A base) (G : G12 base mg mb fG fF gd fd) (hfr : A.frames = some [lawEnv12 nam L fA cd]) (hm : Ms m ln nm co fa lam) (hn : m (Str.ofString "n") = some (.int n t)) (U : UF f c d) (hdk : ∀ j, j < 12 → d j ≤ k) (hk63 : k ≤ 63) (hvl : Vals vl f) (hvc : Vals vc c) (hN : Nms vn rest)
    (H : St base os₀ ((L, nsA m) :: (core S ln nm co fa lam cS c' (lamObj qual cS pm c' ctv) qual vn vc vl ++ rest)) s)
    (h : ∀ fl m' vl' vc' f' c₂ d' s', (fl = .next ∨ fl = .cont) → Ms m' ln nm co fa lam → UF f' c₂ d' → (∀ j, j < 12 → d' j ≤ k + 1) → Vals vl' f' → Vals vc' c₂ → St base os₀ ((L, nsA m') :: (core S ln nm co fa lam cS c' (lamObj qual cS pm c' ctv) qual vn vc' vl' ++ rest)) s' → Q fl s') :
    wpAny (model prog w) A (execs turn12 (lawEnv12 nam L fA cd)) Q E s := by
  refine a_head R G hm hn hvl.1 H fun m₁ bf t1 t2 t3 s₁ hm₁ hn₁ hd₁ ho₁ htw₁ hb₁ hr₁ H₁ => ?_
  have drop : ∀ {m' : Str → Option Value} {vl' vc' : List Value} {s' : Shared}, St base os₀ ((L, nsA m') :: (core S ln nm co fa lam cS c' (lamObj qual cS pm c' ctv) qual vn vc' vl' ++ ((bf, lstA vl) :: rest))) s' → St base os₀ ((L, nsA m') :: (core S ln nm co fa lam cS c' (lamObj qual cS pm c' ctv) qual vn vc' vl' ++ rest)) s' :=
    fun H' => H'.sub (.cons_cons _ (List.Sublist.append (.refl _) (.cons _ (.refl _))))
  have hlo : 0 ≤ (n.fdiv 3).fmod 13 := Int.fmod_nonneg_of_pos _ (by decide)
  have hhi : (n.fdiv 3).fmod 13 < 13 := Int.fmod_lt_of_pos _ (by decide)
  have hlo' : 0 ≤ (n.fdiv 39).fmod 12 := Int.fmod_nonneg_of_pos _ (by decide)
  have hhi' : (n.fdiv 39).fmod 12 < 12 := Int.fmod_lt_of_pos _ (by decide)
  obtain ⟨p, hp⟩ := Int.eq_ofNat_of_zero_le hlo
  obtain ⟨q, hq⟩ := Int.eq_ofNat_of_zero_le hlo'
  rw [hp] at ho₁ hhi
  rw [hq] at htw₁ hhi'
  by_cases hp12 : p < 12
  · refine a_try_ok R G hm₁ hn₁ hd₁ ho₁ hp12 U hvl hvc hN.refs (hdk p hp12) hk63 H₁ fun m₂ vl₂ f₂ a r s₂ hpr k₂ hvl₂ U₂ h1 h2 hr H₂ => ?_
    obtain ⟨ar, tr, har, hmr⟩ := hN (c p) (U.clt p hp12)
    have hr' : r = .ref ar := by rw [har] at hr; exact (Option.some.inj hr).symm
    subst hr'
    have hm₂ := hm₁.of k₂
    have hd₂ := (k₂ (Str.ofString "deed") (by decide)).trans hd₁
    have ho₂ := (k₂ (Str.ofString "one") (by decide)).trans ho₁
    have htw₂ := (k₂ (Str.ofString "two") (by decide)).trans htw₁
    have hr₂ := (k₂ (Str.ofString "refused") (by decide)).trans hr₁
    have hb₂ := (k₂ (Str.ofString "before") (by decide)).trans hb₁
    refine a_checks (vb := vl) R G hm₂ hp12 U₂ hvl₂ hvc hd₂ ho₂ hr₂ hb₂ hpr har h1 h2 (.head _) H₂ fun s₃ H₃ => ?_
    have hq12 : q < 12 := by omega
    refine a_join R G hm₂ hp12 hq12 U₂ hvl₂ hvc (hN.mono fun _ h => .tail _ h) (hdk q hq12) hk63 hd₂ ho₂ htw₂ hpr har H₃ fun m₄ vl₄ vc₄ f₄ c₄ d₄ s₄ hm₄ U₄ hd₄ hvl₄ hvc₄ H₄ => ?_
    exact h .next m₄ vl₄ vc₄ f₄ c₄ d₄ s₄ (.inl rfl) hm₄ U₄ (fun j hj => Nat.le_trans (hd₄ j) (Nat.succ_le_succ (hdk j hj))) hvl₄ hvc₄ (drop H₄)
  · have hp13 : p = 12 := by omega
    subst hp13
    refine a_try_out R G hm₁ hn₁ hd₁ ho₁ hvl hfr H₁ fun m₂ s₂ hr₂ k₂ H₂ => ?_
    refine a_refused R (hm₁.of k₂) ((k₂ _ (by decide)).trans ho₁) hr₂ ((k₂ _ (by decide)).trans hb₁) H₂ fun s₃ H₃ => ?_
    exact h .cont m₂ vl vc f c d s₃ (.inr rfl) (hm₁.of k₂) U (fun j hj => Nat.le_succ_of_le (hdk j hj)) hvl hvc (drop H₃)
end
end Mine

namespace Mine
open PySem PySem.W PyProof.Rows PySem.Calls PySem.Spec
local macro_rules | `(tactic| none_booked) => `(tactic| (repeat (first | exact List.Perm.refl _ | refine Pick.perm (by (repeat (first | exact Pick.head | apply Pick.tail))) ?_)))
theorem UF.start : UF (fun i => i) (fun i => i) (fun _ => 0) := ⟨fun _ h => h, fun _ h => h, fun _ _ => Iff.rfl, fun _ _ => rfl, fun _ _ => rfl, fun _ _ _ => rfl, fun _ _ h => absurd rfl h⟩
section
variable {prog : Program} {w : World} {A : Around} {E : Value → Shared → Prop} {s : Shared} {base : Heap} {os₀ : OsState} {mg mb : Str → Option Value}
  {fG fF L fA P c : Addr} {nam : Str} {gd fd : FuncData} {m : Str → Option Value} {Q : Flow → Shared → Prop}

theorem setup12 (R : Room prog w A base) (G : G12 base mg mb fG fF gd fd) (C : CodeHd base c P)
    (H : St base os₀ [(L, nsA m), (L + 1, celA none), (P, tabA #[])] s)
    (h : ∀ m' S ln nm co fa lam c' ctv vn vc vl ps nl s', Ms m' ln nm co fa lam → m' (Str.ofString "script") = m (Str.ofString "script") → Vals vl (fun i => i) → Vals vc (fun i => i) → Nms vn ((P, tabA ps) :: nl) →
      St base os₀ ((L, nsA m') :: (core S ln nm co fa lam (L + 1) c' (lamObj ((lawEnv12 nam L fA (.ref c)).qual ++ "<lambda>") (L + 1) ((mg "__name__").getD .none) c' ctv) ((lawEnv12 nam L fA (.ref c)).qual ++ "<lambda>") vn vc vl ++ ((P, tabA ps) :: nl))) s' →
      wpAny (model prog w) A (execs ((fnBody lawStmt12).drop 7) (lawEnv12 nam L fA (.ref c))) Q E s') :
    wpAny (model prog w) A (execs (fnBody lawStmt12) (lawEnv12 nam L fA (.ref c))) Q E s := by
  have l1 : ∀ {led : Led} {s : Shared} {Q' : Value → Shared → Prop} (p1 : Pos) (p2 p3 pos : Pos), St base os₀ led s → (∀ l vs s', Vals vs (fun i => i) → St base os₀ ((l, lstA vs) :: led) s' → Q' (.ref l) s') →
      wpAny (model prog w) A (eval (.Call (.Name (Str.ofString "range") p1) [.Constant (.int 12) 0 p2] [] p3) (lawEnv12 nam L fA (.ref c))) (fun v s₁ => wpAny (model prog w) A (call (.type "list") [v]) Q' E s₁) E s := fun p1 p2 p3 pos H h => by
    refine wpAny_Call_ofName (nm_b H G.gr.g G.gr.b G.n3 G.b3 (callWith_excType rfl (evalArgs_plain (spliced_cons (c_int (k := 0) (pos := p2) H fun u1 s₁ H₁ => spliced_nil (r_new (n := 12) H₁ fun r s₂ H₂ => ?_))))))
    obtain ⟨v1, v2, H₂⟩ := H₂
    exact l_range (n := 12) R.handled (by decide) H₂ fun l vs s' hlen hv H' => h l vs s' ⟨hlen, hv⟩ H'
  refine wpAny_execs_cons (wpAny_Assign_Name (wpAny_Call_ofName (nm_b H G.gr.g G.gr.b G.n2 G.b2 (callWith_excType rfl (evalArgs_plain (spliced_cons (wpAny_mono (l1 _ _ _ default H fun ln vl s₁ hvl H₁ => st_g H₁ (fun _ => .tail .head) fun m₁ s₂ e₁ k₁ H₂ => ?_) (fun v s₁ q => spliced_nil q) fun _ _ x => x)))))))
  have H₃ : St base os₀ [(L, nsA m₁), (ln, lstA vl), (L + 1, celA none), (P, tabA #[])] s₂ := H₂.perm (.swap ..)
  clear H₂ H₁
  refine wpAny_execs_cons (comp_assign (base := base) (os₀ := os₀) rfl ?_ (by decide) (by decide) rfl (by decide) rfl)
  refine wpAny_Call_ofName (nm_b H₃ G.gr.g G.gr.b G.n3 G.b3 (callWith_excType rfl (evalArgs_plain (spliced_cons (c_int (k := 0) (pos := ⟨26, 32, 26, 34⟩) H₃ fun u1 s₃ H₄ => spliced_nil (r_new (n := 12) H₄ fun r s₄ H₅ => ?_))))))
  obtain ⟨v1, v2, H₅⟩ := H₅
  refine r_iter (by decide) H₅ fun I s₅ H₆ => ?_
  refine ⟨I, 12, _, rngA 12, [], _, fun i ys led' => ∃ nl : Led, led' = nl ++ [(L, nsA m₁), (ln, lstA vl), (L + 1, celA none), (P, tabA #[])] ∧ ys.length = i ∧ ∀ j, j < i → ∃ a t, ys[j]? = some (.ref a) ∧ (a, lstA [.int (j : Nat) t]) ∈ nl, rfl, Iter.range R.handled, by decide, H₆, ⟨[], rfl, rfl, fun j hj => absurd hj (Nat.not_lt_zero _)⟩, ?_, ?_⟩
  · rintro Cc D i v ys mC led' s₆ E' hi ⟨ti, rfl⟩ ⟨nl, rfl, hlen, hnl⟩ hmC H₇
    refine List_ (wpAny_items_cons (nm_l (env := compEnv _ Cc (lawEnv12 nam L fA (.ref c))) H₇ (.head _) hmC (wpAny_items_nil (new_list H₇ fun b s₇ H₈ => ?_))))
    refine ⟨(b, lstA [.int (i : Nat) ti]) :: (nl ++ [(L, nsA m₁), (ln, lstA vl), (L + 1, celA none), (P, tabA #[])]), ⟨(b, lstA [.int (i : Nat) ti]) :: nl, rfl, by simp [hlen], fun j hj => ?_⟩, H₈.perm (List.perm_middle (l₁ := [_, _, _]))⟩
    by_cases hji : j = i
    · subst hji
      exact ⟨b, ti, by rw [List.getElem?_append_right (by omega)]; simp [hlen], .head _⟩
    · obtain ⟨a, t, h1, h2⟩ := hnl j (by omega)
      exact ⟨a, t, by rw [List.getElem?_append_left (by omega)]; exact h1, .tail _ h2⟩
  rintro Cc mC nm vn led' s₆ ⟨nl, rfl, _, hnl⟩ hlen H₇
  have H₈ : St base os₀ ((Cc, nsA mC) :: (L, nsA m₁) :: (nm, lstA vn) :: (ln, lstA vl) :: (L + 1, celA none) :: (P, tabA #[]) :: nl) s₆ := by
    refine H₇.perm (List.Perm.cons _ ?_)
    refine (List.Perm.swap ..).trans (List.Perm.cons _ ?_)
    exact List.perm_append_comm (l₁ := [(L, nsA m₁), (ln, lstA vl), (L + 1, celA none), (P, tabA #[])]) (l₂ := nl)
  clear H₇
  refine st_g H₈ (fun _ => .tail .head) fun m₂ s₇ e₂ k₂ H₉ => ⟨_, H₉, fun s₈ H₁₀ => ?_⟩
  refine wpAny_execs_cons (wpAny_Assign_Name (wpAny_Call_ofName (nm_b H₁₀ G.gr.g G.gr.b G.n2 G.b2 (callWith_excType rfl (evalArgs_plain (spliced_cons (wpAny_mono (l1 _ _ _ default H₁₀ fun co vc s₉ hvc H₁₁ => st_g H₁₁ (fun _ => .tail .head) fun m₃ s₁₀ e₃ k₃ H₁₂ => ?_) (fun v s₁ q => spliced_nil q) fun _ _ x => x)))))))
  refine wpAny_execs_cons (wpAny_Assign_Name (List_ (wpAny_items_nil (new_list H₁₂ fun fa s₁₁ H₁₃ => st_g H₁₃ (fun _ => .tail (.tail .head)) fun m₄ s₁₂ e₄ k₄ H₁₄ => ?_))))
  have q1 : m₄ (Str.ofString "links") = some (.ref ln) := (k₄ _ (by decide)).trans ((k₃ _ (by decide)).trans ((k₂ _ (by decide)).trans e₁))
  have q2 : m₄ (Str.ofString "names") = some (.ref nm) := (k₄ _ (by decide)).trans ((k₃ _ (by decide)).trans e₂)
  have q3 : m₄ (Str.ofString "colours") = some (.ref co) := (k₄ _ (by decide)).trans e₃
  refine wpAny_execs_cons (wpAny_Assign_Name (List_ (wpAny_items_cons (nm_l H₁₄ (.tail _ (.tail _ (.head _))) q1 (wpAny_items_cons (nm_l H₁₄ (.tail _ (.tail _ (.head _))) q2 (wpAny_items_cons (nm_l H₁₄ (.tail _ (.tail _ (.head _))) q3 (wpAny_items_cons (nm_l H₁₄ (.tail _ (.tail _ (.head _))) e₄ (wpAny_items_nil (new_list H₁₄ fun S s₁₃ H₁₅ =>
    st_c H₁₅ rfl (.tail (.tail (.tail (.tail (.tail (.tail .head)))))) fun s₁₄ H₁₆ => ?_))))))))))))
  refine wpAny_execs_cons (wpAny_Expr (l_append_stmt (l := S) (nm_c H₁₆ rfl (.tail _ (.tail _ (.tail _ (.tail _ (.tail _ (.tail _ (.head _))))))) ⟨rfl, ?_, ?_⟩)))
  · obtain ⟨ol, hol, n, rfl⟩ := H₁₆.get (.head _); exact ⟨_, hol, rfl, rfl⟩
  refine kla_eval rfl (mk_lam_new (ps := #[]) H₁₆ G.gr C rfl rfl rfl trivial rfl (fun c' => .tail (.tail (.tail (.tail (.tail (.tail (.tail .head))))))) fun lam c' ctv s₁₅ H₁₇ => ?_)
  refine l_append H₁₇ (.tail (.tail .head)) (fun s₁₆ H₁₈ => ?_) (by show 4 ≤ sizeLine; decide)
  refine wpAny_execs_cons (wpAny_Assign_Name (Subscript_ (nm_c H₁₈ rfl (.tail _ (.tail _ (.tail _ (.tail _ (.tail _ (.tail _ (.tail _ (.tail _ (.head _))))))))) (c_int H₁₈ fun u2 s₁₇ H₁₉ => item_l H₁₉ (.tail _ (.tail _ (.head _))) (by decide) (by decide) rfl (st_g H₁₉ (fun _ => .tail (.tail (.tail (.tail (.tail .head))))) fun m₅ s₁₈ e₅ k₅ H₂₀ => ?_)))))
  refine h m₅ S ln nm co fa lam c' ctv vn vc vl (#[] ++ #[rawInt ((30 : Nat) : Int), rawInt ((17 : Nat) : Int), .ref c']) nl s₁₈ ⟨(k₅ _ (by decide)).trans q1, (k₅ _ (by decide)).trans q2, (k₅ _ (by decide)).trans q3, (k₅ _ (by decide)).trans e₄, e₅⟩ ?_ hvl hvc ?_ (H₂₀.perm ?_)
  · exact (k₅ _ (by decide)).trans ((k₄ _ (by decide)).trans ((k₃ _ (by decide)).trans ((k₂ _ (by decide)).trans (k₁ _ (by decide)))))
  · exact fun i hi => by obtain ⟨a, t, h1, h2⟩ := hnl i hi; exact ⟨a, t, h1, .tail _ h2⟩
  · none_booked
end
end Mine

namespace Mine
open PySem PySem.W PyProof.Rows PySem.Calls PySem.Spec
section
variable {prog : Program} {w : World} {A : Around} {E : Value → Shared → Prop} {s : Shared} {base : Heap} {os₀ : OsState} {rest : Led} {mg mb : Str → Option Value}
  {S ln nm co fa lam cS c' fG fF L fA a : Addr} {pm ctv : Value} {qual nam : Str} {vn vc vl vs : List Value} {gd fd : FuncData} {cd : Value} {m : Str → Option Value} {Q : Flow → Shared → Prop} {f c d : Nat → Nat}

theorem tail12 {k : Nat} (R : Room prog w A base) (G : G12 base mg mb fG fF gd fd) (hm : Ms m ln nm co fa lam) (U : UF f c d) (hdk : ∀ j, j < 12 → d j ≤ k) (hk63 : k ≤ 63) (hvl : Vals vl f) (hvc : Vals vc c) (hN : Nms vn rest)
    (H : St base os₀ ((L, nsA m) :: (core S ln nm co fa lam cS c' (lamObj qual cS pm c' ctv) qual vn vc vl ++ rest)) s)
    (h : ∀ s', St base os₀ rest s' → Q (.ret (.bool true)) s') :
    wpAny (model prog w) A (execs ((fnBody lawStmt12).drop 8) (lawEnv12 nam L fA cd)) Q E s := by
  have hdep := R.depth
  have hun := R.units
  obtain ⟨og, hog, hdg⟩ := G.dg.obj
  refine wpAny_execs_cons (for_range (n := 12) (base := base) (os₀ := os₀) (t1 := 0) (t := 0) (t2 := 0) (r := 0) (fun i led => ∃ m₃ vl₃ f₃, Ms m₃ ln nm co fa lam ∧ UF f₃ c d ∧ Vals vl₃ f₃ ∧
      led = (L, nsA m₃) :: (core S ln nm co fa lam cS c' (lamObj qual cS pm c' ctv) qual vn vc vl₃ ++ rest)) R.handled (by decide) ?_ ?_ ?_)
  · refine wpAny_Call_ofName (nm_b H G.gr.g G.gr.b G.n3 G.b3 (callWith_excType rfl (evalArgs_plain (spliced_cons (c_int (k := 0) (pos := ⟨67, 23, 67, 25⟩) H fun u1 s₁ H₁ => spliced_nil (r_new (n := 12) H₁ fun r s₂ H₂ => ?_))))))
    obtain ⟨v1, v2, H₂⟩ := H₂
    exact ⟨r, v1, u1, v2, _, rfl, H₂, m, vl, f, hm, U, hvl, rfl⟩
  · rintro I i v led s₁ E' hi ⟨ti, rfl⟩ ⟨m₁, vl₁, f₁, hm₁, U₁, hvl₁, rfl⟩ H₁
    refine wpAny_assign_Name (st_g H₁ (fun _ => .tail .head) fun m₂ s₂ e₂ k₂ H₂ => ?_)
    have hm₂ := hm₁.of k₂
    refine wpAny_execs_cons (wpAny_Assign_Name (wpAny_Call_ofName (nm_g H₂ G.gr.g G.hg (callWith_fn (evalArgs_plain (spliced_cons (nm_l H₂ (.tail _ (.head _)) e₂ (spliced_cons (nm_l H₂ (.tail _ (.head _)) hm₂.g (spliced_nil ⟨⟨og, gd, H₂.keep _ _ hog, hdg⟩, ?_⟩))))))))))
    refine ask_ok G hvc hN.refs k (kvs := []) (hdk i hi) (.inl rfl) hi U₁ hvl₁ (by omega) R.handled (H₂.perm (List.perm_append_comm_assoc (core S ln nm co fa lam cS c' (lamObj qual cS pm c' ctv) qual vn vc vl₁) [(I, rngA 12 (i + 1)), (L, nsA m₂)] rest)) fun p vl₃ f₃ s₃ r hvl₃ U₃ _ _ hr H₃ => ?_
    obtain ⟨ar, har⟩ := hN.refs (c i) (U.clt i hi)
    have hr' : r = .ref ar := by rw [har] at hr; exact (Option.some.inj hr).symm
    subst hr'
    have H₄ : St base os₀ ((I, rngA 12 (i + 1)) :: (L, nsA m₂) :: (p, tupA [.ref ar, .ref ar]) :: (core S ln nm co fa lam cS c' (lamObj qual cS pm c' ctv) qual vn vc vl₃ ++ rest)) s₃ :=
      H₃.perm ((List.perm_middle (l₁ := [(I, rngA 12 (i + 1)), (L, nsA m₂)])).trans ((List.perm_append_comm_assoc [(I, rngA 12 (i + 1)), (L, nsA m₂)] (core S ln nm co fa lam cS c' (lamObj qual cS pm c' ctv) qual vn vc vl₃) rest).cons _))
    refine st_g H₄ (fun _ => .tail .head) fun m₅ s₅ e₅ k₅ H₅ => ?_
    have hm₅ := hm₂.of k₅
    have hpl := (k₅ (Str.ofString "place") (by decide)).trans e₂
    obtain ⟨tc, hfc⟩ := hvc.2 i hi
    have hclt := U.clt i hi
    refine wpAny_execs_cons (wpAny_If (wpAny_isTrue_BoolOp (wpAny_allTrue_Or_cons (wpAny_isTrue_Compare1 (wpAny_Call_ofName (nm_b H₅ G.gr.g G.gr.b G.n5 G.b5 (callWith_builtin rfl (evalArgs_plain (spliced_cons (nm_l H₅ (.tail _ (.head _)) e₅ (spliced_nil (PyProof.Rows.len_tuple (H₅.isTup (vs := [.ref ar, .ref ar]) (.tail _ (.tail _ (.head _)))) (by show (2 : Int) < _; decide) ?_))))))))))))
    have H₆ : St base os₀ _ { s₅ with toks := s₅.toks + 1 + 1 } := H₅.tok
    refine c_int H₆ fun u2 s₆ H₇ => PyProof.Rows.ne_int (wpAny_truthy_bool (ite_neg (by show ¬ ((2 : Int) != 2) = true; decide) ?_))
    refine wpAny_allTrue_Or_cons (wpAny_isTrue_Compare1 (Subscript_ (nm_l H₇ (.tail _ (.head _)) e₅ (c_int H₇ fun u3 s₇ H₈ => item_tupleL (l := [.ref ar, .ref ar]) (H₈.isTup (.tail _ (.tail _ (.head _)))) (by decide) (by decide) (j := 0) rfl rfl (Subscript_ (nm_l H₈ (.tail _ (.head _)) hm₅.n (Subscript_ (nm_l H₈ (.tail _ (.head _)) hm₅.c (nm_l H₈ (.tail _ (.head _)) hpl (item_l H₈ (.tail _ (.tail _ (.tail _ (.tail _ (.tail _ (.tail _ (.head _))))))) (by omega) (by omega) (by simpa using hfc)
      (item_l H₈ (.tail _ (.tail _ (.tail _ (.tail _ (.tail _ (.head _)))))) (by omega) (by omega) (x := .ref ar) (by simpa using har) (wpAny_isNot_ref_self (wpAny_truthy_bool (ite_neg (by decide) ?_))))))))))))))
    refine wpAny_allTrue_Or_cons (wpAny_isTrue_Compare1 (Subscript_ (nm_l H₈ (.tail _ (.head _)) e₅ (c_int H₈ fun u4 s₈ H₉ => item_tupleL (l := [.ref ar, .ref ar]) (H₉.isTup (.tail _ (.tail _ (.head _)))) (by decide) (by decide) (j := 1) rfl rfl (Subscript_ (nm_l H₉ (.tail _ (.head _)) e₅ (c_int H₉ fun u5 s₉ H₁₀ => item_tupleL (l := [.ref ar, .ref ar]) (H₁₀.isTup (.tail _ (.tail _ (.head _)))) (by decide) (by decide) (j := 0) rfl rfl
      (wpAny_isNot_ref_self (wpAny_truthy_bool (ite_neg (by decide) (wpAny_allTrue_Or_nil (ite_neg (by decide) (wpAny_execs_nil (wpAny_execs_nil ?_))))))))))))))
    exact ⟨_, ⟨m₅, vl₃, f₃, hm₅, U₃, hvl₃, rfl⟩, H₁₀.sub (.cons_cons _ (.cons_cons _ (.cons _ (.refl _))))⟩
  · rintro led s₁ ⟨m₁, vl₁, f₁, hm₁, U₁, hvl₁, rfl⟩ H₁
    refine wpAny_execs_cons (wpAny_Return_some (wpAny_Compare1 (nm_l H₁ (.head _) hm₁.f (List_ (wpAny_items_nil (new_list H₁ fun e s₂ H₂ => ?_))))))
    refine SeqAt.eq_listAt (items := #[]) (items2 := #[]) (e := fun _ => true) (H₂.isList (vs := []) (.tail _ (.tail _ (.tail _ (.tail _ (.tail _ (.tail _ (.head _)))))))) (H₂.isList (vs := []) (.head _)) rfl (by omega) (fun j h1 => absurd h1 (Nat.not_lt_zero _)) ?_
    exact h _ (H₂.sub (.cons _ (.cons _ (List.sublist_append_right _ _))))

theorem law12 (R : Room prog w A base) (G : G12 base mg mb fG fF gd fd) (hfr : A.frames = some [lawEnv12 nam L fA cd]) (hm : Ms m ln nm co fa lam) (hsc : m (Str.ofString "script") = some (.ref a)) (hl : base.IsList a vs.toArray) (hi : AllInt vs) (hsz : vs.length ≤ 63)
    (hvl : Vals vl (fun i => i)) (hvc : Vals vc (fun i => i)) (hN : Nms vn rest)
    (H : St base os₀ ((L, nsA m) :: (core S ln nm co fa lam cS c' (lamObj qual cS pm c' ctv) qual vn vc vl ++ rest)) s)
    (h : ∀ s', St base os₀ rest s' → Q (.ret (.bool true)) s') :
    wpAny (model prog w) A (execs ((fnBody lawStmt12).drop 7) (lawEnv12 nam L fA cd)) Q E s := by
  refine wpAny_execs_cons (for_list (base := base) (os₀ := os₀) (fun i led => ∃ m₁ vl₁ vc₁ f₁ c₁ d₁, Ms m₁ ln nm co fa lam ∧ UF f₁ c₁ d₁ ∧ (∀ j, j < 12 → d₁ j ≤ i) ∧ Vals vl₁ f₁ ∧ Vals vc₁ c₁ ∧
      led = (L, nsA m₁) :: (core S ln nm co fa lam cS c' (lamObj qual cS pm c' ctv) qual vn vc₁ vl₁ ++ rest)) R.handled ?_)
  refine l_front H (.head _) hsc hl hi (Nat.le_trans hsz (by decide)) fun r us s₁ hus hlen H₁ => ?_
  refine ⟨r, us, _, rfl, H₁, ⟨m, vl, vc, _, _, _, hm, UF.start, fun j _ => Nat.le_refl _, hvl, hvc, rfl⟩, ?_, ?_⟩
  · rintro I i v led s₂ E' hv ⟨m₁, vl₁, vc₁, f₁, c₁, d₁, hm₁, U₁, hd₁, hvl₁, hvc₁, rfl⟩ H₂
    obtain ⟨n, t, rfl⟩ := hus v (List.mem_of_getElem? hv)
    have hilt : i < us.length := by
      rcases Nat.lt_or_ge i us.length with q | q
      · exact q
      · rw [List.getElem?_eq_none q] at hv; cases hv
    refine wpAny_assign_Name (st_g H₂ (fun _ => .tail (.tail .head)) fun m₂ s₃ e₂ k₂ H₃ => ?_)
    have H₄ : St base os₀ ((L, nsA m₂) :: (core S ln nm co fa lam cS c' (lamObj qual cS pm c' ctv) qual vn vc₁ vl₁ ++ ((I, itA r (i + 1)) :: (r, lstA us) :: rest))) s₃ :=
      H₃.perm (((List.perm_append_comm_assoc (core S ln nm co fa lam cS c' (lamObj qual cS pm c' ctv) qual vn vc₁ vl₁) [(I, itA r (i + 1)), (r, lstA us)] rest).cons _).trans (List.perm_middle (l₁ := [(I, itA r (i + 1)), (r, lstA us)])).symm)
    refine turn12_ok (k := i) R G hfr (hm₁.of k₂) e₂ U₁ hd₁ (by omega) hvl₁ hvc₁ (hN.mono fun p hp => .tail _ (.tail _ hp)) H₄ fun fl m₃ vl₃ vc₃ f₃ c₃ d₃ s₄ hfl hm₃ U₃ hd₃ hvl₃ hvc₃ H₅ => ?_
    have fin : ∃ led', (∃ m₁ vl₁ vc₁ f₁ c₁ d₁, Ms m₁ ln nm co fa lam ∧ UF f₁ c₁ d₁ ∧ (∀ j, j < 12 → d₁ j ≤ i + 1) ∧ Vals vl₁ f₁ ∧ Vals vc₁ c₁ ∧ led' = (L, nsA m₁) :: (core S ln nm co fa lam cS c' (lamObj qual cS pm c' ctv) qual vn vc₁ vl₁ ++ rest)) ∧
        St base os₀ ((I, itA r (i + 1)) :: (r, lstA us) :: led') s₄ :=
      ⟨_, ⟨m₃, vl₃, vc₃, f₃, c₃, d₃, hm₃, U₃, hd₃, hvl₃, hvc₃, rfl⟩, H₅.perm ((List.perm_middle (l₁ := [(I, itA r (i + 1)), (r, lstA us)])).trans ((List.perm_append_comm_assoc [(I, itA r (i + 1)), (r, lstA us)] (core S ln nm co fa lam cS c' (lamObj qual cS pm c' ctv) qual vn vc₃ vl₃) rest).cons _))⟩
    rcases hfl with rfl | rfl
    · exact fin
    · exact fin
  · rintro led s₂ ⟨m₁, vl₁, vc₁, f₁, c₁, d₁, hm₁, U₁, hd₁, hvl₁, hvc₁, rfl⟩ H₂
    exact tail12 (k := us.length) R G hm₁ U₁ hd₁ (by omega) hvl₁ hvc₁ hN (H₂.sub (.cons _ (.refl _))) h
end
end Mine

namespace Mine
open PySem PySem.W PyProof.Rows PySem.Calls PySem.Spec
theorem st_top1 {base : Heap} {s : Shared} {L P : Addr} {m : Str → Option Value} {ob : Obj} (F : Fr base L s.heap m) (N : News base L s.heap [(L + 1, ob), (P, tabObj #[])]) (hob : ob.data = .cell none) (hg : s.gens = #[]) (hL : base.get? L = none) (hP : P < L) : St base s.os [(L, nsA m), (L + 1, celA none), (P, tabA #[])] s where
  keep := F.keep
  nd := by
    simp only [List.map_cons, List.map_nil, List.nodup_cons, List.mem_cons, List.not_mem_nil, or_false, not_false_eq_true, List.nodup_nil, and_true]
    refine ⟨?_, ?_⟩
    · rintro (e | e)
      · exact absurd e (Nat.ne_of_lt (Nat.lt_succ_self _))
      · exact absurd e (Nat.ne_of_gt hP)
    · exact fun e => absurd e (Nat.ne_of_gt (Nat.lt_succ_of_lt hP))
  has := fun p hp => by
    rcases List.mem_cons.mp hp with rfl | hp
    · exact nsA_of F.ns
    · rcases List.mem_cons.mp hp with rfl | hp
      · exact ⟨_, (N _ (.head _)).1, hob⟩
      · rcases List.mem_cons.mp hp with rfl | hp
        · exact ⟨_, (N _ (.tail _ (.head _))).1, rfl⟩
        · cases hp
  new := fun p hp => by
    rcases List.mem_cons.mp hp with rfl | hp
    · exact hL
    · rcases List.mem_cons.mp hp with rfl | hp
      · exact (N _ (.head _)).2.2
      · rcases List.mem_cons.mp hp with rfl | hp
        · exact (N _ (.tail _ (.head _))).2.2
        · cases hp
  gens := hg
  os := rfl
theorem top12 {prog : Program} {w : World} {K : Frag} {base : Heap} {s s₁ : Shared} {p : Program} {loose : List Str} {mean : ExcName → Option Value} {mg mb : Str → Option Value} {m : Str → Option Value} {nam : Str} {L fA a : Addr} {vs : List Value} {ns : List Int} {E : Value → Shared → Prop}
    {l : OpenLaw} {cl : Str → Option Addr} {mean' : ExcName → Option Value} {args : List WData} {gd fd : FuncData} {ob : Obj}
    (T : Top p loose mean mg mb base) (S : base.NoSeer) (F : Fr base L s.heap m) (N : News base L s.heap [(L + 1, ob), (53, tabObj #[])]) (hob : ob.data = .cell none) (hP : 53 < L) (C : CodeHd base 55 53) (hl : base.IsList a vs.toArray) (hi : IntsAre vs ns) (hn : ¬ (63 : Int) < (ns.length : Int)) (hm : m (Str.ofString "script") = some (.ref a)) (X : K.In base)
    (hL : base.get? L = none) (ht : prog.given.tree = none)
    (e1 : nsIn K mainGlobals (Str.ofString "_get_name_info") = some (some (.ref 44))) (e2 : nsIn K mainGlobals (Str.ofString "_law_find") = some (some (.ref 51)))
    (n1 : nsIn K mainGlobals (Str.ofString "IndexError") = some none) (n2 : nsIn K mainGlobals (Str.ofString "list") = some none) (n3 : nsIn K mainGlobals (Str.ofString "range") = some none) (n5 : nsIn K mainGlobals (Str.ofString "len") = some none)
    (DG : IsDef base 44 gniStmt gd) (DF : IsDef base 51 findStmt fd)
    (hb : s₁.heap = base) (hos : s.os = s₁.os) (hgens : s.gens = #[]) :
    wpAny (model prog w) (callerA.deeper (lawEnv12 nam L fA (.ref 55))) (execs (fnBody lawStmt12) (lawEnv12 nam L fA (.ref 55)))
      (fun f s' => GoodW l.row.claim cl mean' args s₁ (.ok (.ret (match f with | .ret v => v | _ => .none))) s' ∧ GrownAll [(55, 53)] s'.heap) E s := by
  have bt : ∀ (x : Str) v, x ≠ "__name__" → bootBuiltins x = some v → mb x = some v := fun x v hx hv => (T.builtins x hx).trans hv
  have G : G12 base mg mb 44 51 gd fd :=
    ⟨gr_of T S, DG, DF, mg_of X T.g e1, mg_of X T.g e2, mg_none_of X T.g n1, mg_none_of X T.g n2, mg_none_of X T.g n3, mg_none_of X T.g n5,
      bt _ _ (by decide) (by kernel_rfl), bt _ _ (by decide) (by kernel_rfl), bt _ _ (by decide) (by kernel_rfl), bt _ _ (by decide) (by kernel_rfl)⟩
  obtain ⟨hai, hlen⟩ := allInt_of hi
  have R : Room prog w (callerA.deeper (lawEnv12 nam L fA (.ref 55))) base := room_of T S ht rfl rfl rfl rfl
  refine setup12 R G C (st_top1 F N hob hgens hL hP) fun m' S ln nm co fa lam c' ctv vn vc vl ps nl s' hm' hsc hvl hvc hN H => ?_
  refine law12 R G rfl hm' (hsc.trans hm) hl hai (by omega) hvl hvc hN H fun s'' H' => ⟨good_true (fun b o e => H'.keep b o (hb ▸ e)) (H'.os.trans hos) H'.gens, ?_, trivial⟩
  obtain ⟨o, ho, rfl⟩ := H'.get (a := 53) (P := tabA ps) (.head _)
  exact ⟨_, ho⟩
end Mine

open PySem PySem.W PyProof.Rows
set_option maxRecDepth 100000 in
set_option maxHeartbeats 8000000 in
theorem PySem.Challenge.cw_dm0069_12_holds : PySem.Challenge.rw_dm0069_12.Holds := by
  (w_on; o_law; k_head; (case hw => w_witness2); w_strict (k_go0; (
    have X := ‹Frag.In _ (ghostOf _ _)›
    have F := ‹Fr (ghostOf _ _) _ _ _›
    have hL := Heap.get?_none_of_le F.above
    refine Mine.top12 (l := PySem.Challenge.rw_dm0069_12) (K := _) ‹Top _ _ _ _ _ (ghostOf _ _)› (Mine.ghost_seer ‹TabsAt _ _› (Top.seer ‹Top _ (looseW _ _) _ _ _ _› (by decide +kernel))) F ‹News (ghostOf _ _) _ _ _› ‹_ = Data.cell _› ‹53 < _› ‹CodeHd (ghostOf _ _) _ _› ‹Heap.IsList (ghostOf _ _) _ _› ‹IntsAre _ _› (by assumption) rfl X hL rfl
      (by k_is) (by k_is) (by k_is) (by k_is) (by k_is) (by k_is)
      ⟨⟨_, X 44 _ rfl, rfl⟩, rfl, rfl, rfl, rfl, rfl, rfl, rfl, ⟨43, _, _, _, rfl, X 43 _ rfl, rfl, rfl⟩⟩
      ⟨⟨_, X 51 _ rfl, rfl⟩, rfl, rfl, rfl, rfl, rfl, rfl, rfl, ⟨50, _, _, _, rfl, X 50 _ rfl, rfl, rfl⟩⟩ rfl rfl ‹_ = #[]›)))
