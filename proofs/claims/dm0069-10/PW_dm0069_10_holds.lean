import PyProof.Rows.All
import Wide.All
import OpenK.AllK
import Wide.FinOn
import PySem.Challenge.RW_dm0069_10
set_option Elab.async false
set_option maxRecDepth 100000
set_option linter.unusedVariables false
namespace Mine
open PySem PySem.W PyProof.Rows PySem.Calls PySem.Spec

/-- what is said of an object -/
abbrev Asn := Obj → Prop
abbrev Led := List (Addr × Asn)

structure St (base : Heap) (os₀ : OsState) (led : Led) (s : Shared) : Prop where
  keep : ∀ b o, base.get? b = some o → s.heap.get? b = some o
  nd : (led.map (·.1)).Nodup
  has : ∀ p ∈ led, ∃ o, s.heap.get? p.1 = some o ∧ p.2 o
  new : ∀ p ∈ led, base.get? p.1 = none
  gens : s.gens = #[]
  os : s.os = os₀

/-- one entry of the ledger changes what is said of it -/
inductive Up (a : Addr) (P P' : Asn) : Led → Led → Prop
  | head {l} : Up a P P' ((a, P) :: l) ((a, P') :: l)
  | tail {q l l'} : Up a P P' l l' → Up a P P' (q :: l) (q :: l')

namespace Up
variable {a : Addr} {P P' : Asn} {l l' : Led}
theorem keys (u : Up a P P' l l') : l'.map (·.1) = l.map (·.1) := by
  induction u with
  | head => rfl
  | tail _ ih => simp [ih]
theorem mem (u : Up a P P' l l') : (a, P) ∈ l := by
  induction u with
  | head => exact .head _
  | tail _ ih => exact .tail _ ih
theorem split (u : Up a P P' l l') (nd : (l.map (·.1)).Nodup) : ∀ p ∈ l', (p.1 = a ∧ p = (a, P')) ∨ (p.1 ≠ a ∧ p ∈ l) := by
  induction u with
  | head =>
    intro p hp
    simp only [List.map_cons, List.nodup_cons] at nd
    rcases List.mem_cons.mp hp with rfl | hp
    · exact .inl ⟨rfl, rfl⟩
    · exact .inr ⟨fun e => nd.1 (e ▸ List.mem_map_of_mem hp), .tail _ hp⟩
  | @tail q l l' u ih =>
    intro p hp
    simp only [List.map_cons, List.nodup_cons] at nd
    rcases List.mem_cons.mp hp with rfl | hp
    · refine .inr ⟨fun e => nd.1 ?_, .head _⟩
      rw [e]; exact List.mem_map_of_mem (f := (·.1)) u.mem
    · rcases ih nd.2 p hp with h | h
      · exact .inl h
      · exact .inr ⟨h.1, .tail _ h.2⟩
end Up

section
variable {base : Heap} {os₀ : OsState} {led led' : Led} {s : Shared} {a : Addr} {P P' : Asn}

theorem St.ext (H : St base os₀ led s) {h' : Heap} {tk : Nat} (hk : ∀ b o, s.heap.get? b = some o → h'.get? b = some o) : St base os₀ led { s with heap := h', toks := tk } where
  keep := fun b o e => hk b o (H.keep b o e)
  nd := H.nd
  has := fun p hp => let ⟨o, ho, hP⟩ := H.has p hp; ⟨o, hk _ _ ho, hP⟩
  new := H.new
  gens := H.gens
  os := H.os
theorem St.tok (H : St base os₀ led s) {tk : Nat} : St base os₀ led { s with toks := tk } := H.ext fun _ _ e => e
theorem St.newAt (H : St base os₀ led s) {n : Nat} (hn : s.heap.objs.size ≤ n) : base.get? n = none := by
  cases e : base.get? n with
  | none => rfl
  | some o => exact absurd (Heap.lt_size (H.keep _ _ e)) (Nat.not_lt.mpr hn)
/-- a new object behind a heap that has grown -/
theorem St.more (H : St base os₀ led s) {h' : Heap} {tk n : Nat} {o : Obj} (hk : ∀ b o, s.heap.get? b = some o → h'.get? b = some o) (hn : s.heap.objs.size ≤ n) (ho : h'.get? n = some o) (hp : P o) :
    St base os₀ ((n, P) :: led) { s with heap := h', toks := tk } where
  keep := fun b o e => hk b o (H.keep b o e)
  nd := by
    simp only [List.map_cons, List.nodup_cons]
    refine ⟨fun h => ?_, H.nd⟩
    obtain ⟨p, hp', e⟩ := List.mem_map.mp h
    obtain ⟨o', ho', _⟩ := H.has p hp'
    have := Heap.lt_size ho'
    rw [e] at this
    exact absurd this (Nat.not_lt.mpr hn)
  has := fun p hp' => by
    rcases List.mem_cons.mp hp' with rfl | hp'
    · exact ⟨o, ho, hp⟩
    · obtain ⟨o', ho', hP⟩ := H.has p hp'; exact ⟨o', hk _ _ ho', hP⟩
  new := fun p hp' => by
    rcases List.mem_cons.mp hp' with rfl | hp'
    · exact H.newAt hn
    · exact H.new p hp'
  gens := H.gens
  os := H.os
theorem St.push (H : St base os₀ led s) {tk : Nat} {o : Obj} (hf : o.isFreed = false) (hp : P o) : St base os₀ ((s.heap.objs.size, P) :: led) { s with heap := s.heap.push o, toks := tk } :=
  H.more (fun _ _ e => Heap.get?_push_of_some _ e) (Nat.le_refl _) (Heap.get?_push_size _ hf) hp
/-- an entry changed, the heap grown perhaps -/
theorem St.upd (H : St base os₀ led s) (U : Up a P P' led led') {h' : Heap} {tk : Nat} (hx : Heap.ExtBut a s.heap h') (hp : ∃ o, h'.get? a = some o ∧ P' o) : St base os₀ led' { s with heap := h', toks := tk } where
  keep := fun b o e => hx b o (fun q => by have := H.new _ U.mem; rw [← q, e] at this; cases this) (H.keep b o e)
  nd := U.keys ▸ H.nd
  has := fun p hp' => by
    rcases U.split H.nd p hp' with ⟨_, rfl⟩ | ⟨hne, hm⟩
    · exact hp
    · obtain ⟨o, ho, hP⟩ := H.has p hm; exact ⟨o, hx _ _ hne ho, hP⟩
  new := fun p hp' => by
    rcases U.split H.nd p hp' with ⟨_, rfl⟩ | ⟨_, hm⟩
    · exact H.new (a, P) U.mem
    · exact H.new p hm
  gens := H.gens
  os := H.os
theorem St.sub (H : St base os₀ led s) (h : led'.Sublist led) : St base os₀ led' s where
  keep := H.keep
  nd := H.nd.sublist (h.map _)
  has := fun p hp => H.has p (h.subset hp)
  new := fun p hp => H.new p (h.subset hp)
  gens := H.gens
  os := H.os
theorem St.perm (H : St base os₀ led s) (h : led'.Perm led) : St base os₀ led' s where
  keep := H.keep
  nd := (h.map _).nodup_iff.mpr H.nd
  has := fun p hp => H.has p (h.mem_iff.mp hp)
  new := fun p hp => H.new p (h.mem_iff.mp hp)
  gens := H.gens
  os := H.os
theorem St.get (H : St base os₀ led s) (hm : (a, P) ∈ led) : ∃ o, s.heap.get? a = some o ∧ P o := H.has _ hm
theorem St.ne {b : Addr} {R : Asn} (H : St base os₀ ((a, P) :: led) s) (hm : (b, R) ∈ led) : b ≠ a := fun e => by
  have := H.nd
  simp only [List.map_cons, List.nodup_cons] at this
  exact this.1 (e ▸ List.mem_map_of_mem (f := (·.1)) hm)
end

/-! the kinds of objects -/
def nsA (m : Str → Option Value) : Asn := fun o => ∃ es ep, o.data = .dict es ep ∧ StrKeys es ∧ ∀ n, nsFind es n = m n
def lstA (vs : List Value) : Asn := fun o => ∃ n, o = { cls := .type "list", data := .seq vs.toArray n }
def tupA (vs : List Value) : Asn := fun o => ∃ n, o = { cls := .type "tuple", data := .seq vs.toArray n }
def celA (v : Option Value) : Asn := fun o => o.data = .cell v
def objA (o₀ : Obj) : Asn := fun o => o = o₀
section
variable {prog : Program} {w : World} {K : Type} [DecidableEq K]
def dctA (knd : KeyKind prog w K) (kvs : List (K × Value)) : Asn := fun o => ∃ es ep, o.ExactDict ∧ o.data = .dict es ep ∧ KeysOf knd es ∧ Pairs knd es.toList kvs ∧ (kvs.map (·.1)).Nodup
end

section
variable {base : Heap} {os₀ : OsState} {led led' : Led} {s : Shared} {a : Addr}
theorem St.ns (H : St base os₀ led s) {m : Str → Option Value} (hm : (a, nsA m) ∈ led) : s.heap.Ns a m := by
  obtain ⟨o, ho, es, ep, r⟩ := H.get hm; exact ⟨o, es, ep, ho, r⟩
theorem nsA_of {h : Heap} {m : Str → Option Value} (x : h.Ns a m) : ∃ o, h.get? a = some o ∧ nsA m o := by
  obtain ⟨o, es, ep, ho, r⟩ := x; exact ⟨o, ho, es, ep, r⟩
theorem St.isList (H : St base os₀ led s) {vs : List Value} (hm : (a, lstA vs) ∈ led) : s.heap.IsList a vs.toArray := by
  obtain ⟨o, ho, n, rfl⟩ := H.get hm; exact ⟨_, ho, rfl, n, rfl⟩
theorem St.isTup (H : St base os₀ led s) {vs : List Value} (hm : (a, tupA vs) ∈ led) : IsTup s.heap a vs.toArray := by
  obtain ⟨o, ho, n, rfl⟩ := H.get hm; exact ⟨_, ho, rfl, n, rfl⟩
theorem St.isDict {prog : Program} {w : World} {K : Type} [DecidableEq K] {knd : KeyKind prog w K} {kvs : List (K × Value)} (H : St base os₀ led s) (hm : (a, dctA knd kvs) ∈ led) : s.heap.DictOf knd a kvs := by
  obtain ⟨o, ho, es, ep, r⟩ := H.get hm; exact ⟨o, es, ep, ho, r⟩
theorem dctA_of {prog : Program} {w : World} {K : Type} [DecidableEq K] {knd : KeyKind prog w K} {kvs : List (K × Value)} {h : Heap} (x : h.DictOf knd a kvs) : ∃ o, h.get? a = some o ∧ dctA knd kvs o := by
  obtain ⟨o, es, ep, ho, r⟩ := x; exact ⟨o, ho, es, ep, r⟩
theorem St.isCell (H : St base os₀ led s) {v : Option Value} (hm : (a, celA v) ∈ led) : s.heap.IsCell a v := by
  obtain ⟨o, ho, r⟩ := H.get hm; exact ⟨o, ho, r⟩
end

section
variable {M : Model} {A : Around} {E : Value → Shared → Prop} {s : Shared} {env : Env} {base : Heap} {os₀ : OsState} {led led' : Led} {x : Str} {v : Value} {pos : Pos} {k : Nat}

theorem nm_l {Q : Value → Shared → Prop} {m : Str → Option Value} (H : St base os₀ led s) (hm : (env.locals, nsA m) ∈ led) (hv : m x = some v) (h : Q v s)
    (hk : env.scope.kind = .function := by rfl) (hx : env.kindOf x = some .local := by rfl) (hd : (x == ("__debug__" : Str)) = false := by decide) :
    wpAny M A (eval (.Name x pos) env) Q E s := wpAny_Name (wpAny_loadName_local hk hx (H.ns hm) hv h) hd
theorem nm_c {Q : Value → Shared → Prop} {c : Addr} (H : St base os₀ led s) (hc : env.cells.lookup x = some c) (hm : (c, celA (some v)) ∈ led) (h : Q v s)
    (hk : env.scope.kind = .function := by rfl) (hx : env.kindOf x = some .cell := by rfl) (hd : (x == ("__debug__" : Str)) = false := by decide) :
    wpAny M A (eval (.Name x pos) env) Q E s := wpAny_Name (wpAny_loadName_cell hk hx hc (H.isCell hm) h) hd
theorem nm_f {Q : Value → Shared → Prop} {c : Addr} (H : St base os₀ led s) (hc : env.cells.lookup x = some c) (hm : (c, celA (some v)) ∈ led) (h : Q v s)
    (hk : env.scope.kind = .function := by rfl) (hx : env.kindOf x = some .free := by rfl) (hd : (x == ("__debug__" : Str)) = false := by decide) (hn : (x == ("__classdict__" : Str)) = false := by decide) :
    wpAny M A (eval (.Name x pos) env) Q E s := wpAny_Name (wpAny_loadName_free hk hx hc (H.isCell hm) h hn) hd
theorem nm_g {Q : Value → Shared → Prop} {mg : Str → Option Value} (H : St base os₀ led s) (hg : base.Ns env.globals mg) (hv : mg x = some v) (h : Q v s)
    (hk : env.scope.kind = .function := by rfl) (hx : env.kindOf x = some .globalImplicit := by rfl) (hd : (x == ("__debug__" : Str)) = false := by decide) :
    wpAny M A (eval (.Name x pos) env) Q E s := Name_function_global hk hx (loadGlobal_global (hg.keeps H.keep) hv h) hd
theorem nm_b {Q : Value → Shared → Prop} {mg mb : Str → Option Value} (H : St base os₀ led s) (hg : base.Ns env.globals mg) (hb : base.Ns env.builtins mb) (hv : mg x = none) (hvb : mb x = some v) (h : Q v s)
    (hk : env.scope.kind = .function := by rfl) (hx : env.kindOf x = some .globalImplicit := by rfl) (hd : (x == ("__debug__" : Str)) = false := by decide) :
    wpAny M A (eval (.Name x pos) env) Q E s := Name_function_global hk hx (loadGlobal_builtin (hg.keeps H.keep) hv (hb.keeps H.keep) hvb h) hd

theorem st_l {Q : Unit → Shared → Prop} {m : Str → Option Value} (H : St base os₀ led s) (U : Up env.locals (nsA m) (nsA fun y => if y = x then some v else m y) led led')
    (h : ∀ s', St base os₀ led' s' → Q () s')
    (hk : env.scope.kind = .function := by rfl) (hx : env.kindOf x = some .local := by rfl) :
    wpAny M A (storeName env x v) Q E s :=
  wpAny_storeName_local hx (H.ns U.mem) (fun h' hn hs => h _ (H.upd U hs.extBut (nsA_of hn))) (by rw [hk]; rfl)
theorem st_c {Q : Unit → Shared → Prop} {c : Addr} {v₀ : Option Value} (H : St base os₀ led s) (hc : env.cells.lookup x = some c) (U : Up c (celA v₀) (celA (some v)) led led')
    (h : ∀ s', St base os₀ led' s' → Q () s')
    (hk : env.scope.kind = .function := by rfl) (hx : env.kindOf x = some .cell := by rfl) :
    wpAny M A (storeName env x v) Q E s :=
  wpAny_storeName_cell hk hx hc (H.isCell U.mem) fun h' hv hs => h _ (H.upd (tk := s.toks) U hs.extBut (let ⟨o, ho, hd⟩ := hv; ⟨o, ho, hd⟩))

theorem c_int {Q : Value → Shared → Prop} {i : Int} (H : St base os₀ led s) (h : ∀ t s', St base os₀ led s' → Q (.int i t) s') : wpAny M A (eval (.Constant (.int i) k pos) env) Q E s :=
  wpAny_Constant_int (h _ _ H.tok)
theorem c_str {Q : Value → Shared → Prop} (H : St base os₀ led s) (h : ∀ t s', St base os₀ led s' → Q (.str x t) s') : wpAny M A (eval (.Constant (.str x) k pos) env) Q E s :=
  wpAny_Constant_str (h _ _ H.tok)

theorem new_list {Q : Value → Shared → Prop} {vs : List Value} (H : St base os₀ led s) (h : ∀ a s', St base os₀ ((a, lstA vs) :: led) s' → Q (.ref a) s') (hsz : vs.length ≤ sizeLine := by size_fits) :
    wpAny M A (newList vs) Q E s := wpAny_newObj_type (h _ _ (H.push rfl ⟨_, rfl⟩)) (by show vs.toArray.size ≤ sizeLine; rw [List.size_toArray]; exact hsz)
theorem new_tuple {Q : Value → Shared → Prop} {vs : List Value} (H : St base os₀ led s) (h : ∀ a s', St base os₀ ((a, tupA vs) :: led) s' → Q (.ref a) s') (hsz : vs.length ≤ sizeLine := by size_fits) :
    wpAny M A (newTuple vs) Q E s := wpAny_newObj_type (h _ _ (H.push rfl ⟨_, rfl⟩)) (by show vs.toArray.size ≤ sizeLine; rw [List.size_toArray]; exact hsz)
end
end Mine

namespace Mine
open PySem PySem.W PyProof.Rows PySem.Calls PySem.Spec
section
variable {prog : Program} {w : World} {A : Around} {E : Value → Shared → Prop} {s : Shared}
theorem dictPut_new {d : Addr} {od : Obj} {es : Array DictEntry} {ed : Nat} {k : Str} {e : DictEntry} {Q : Unit → Shared → Prop}
    (hd : s.heap.get? d = some od) (hdd : od.data = .dict es ed) (hcd : od.ExactDict) (hk : KeysOf (strKind prog w) es) (he : (strKind prog w).is k e.key = true) (hh : e.hash = (strKind prog w).hash k)
    (hn : es.findIdx? (fun e => (strKind prog w).is k e.key) = none) (hz : es.size ≤ sizeLine)
    (h : ∀ h', Heap.SameBut d s.heap h' → (∃ o ep', h'.get? d = some o ∧ o.ExactDict ∧ o.data = .dict (es.push e) ep') → Q () { s with heap := h' }) :
    wpAny (model prog w) A (dictPut d e.hash e.key e.val) Q E s := by
  unfold dictPut
  rw [hh]
  refine wpAny_bind (wpAny_dictFind_of he hd hdd hk ?_)
  rw [hn]
  refine wpAny_updateDictKeys hd hdd (h _ (Heap.SameBut.update ..) ⟨_, ed + 1, Heap.get?_update_self _ hd (Obj.isFreed_of_dict (Obj.data_mapDictKeys hdd _)), hcd.mapDictKeys _, ?_⟩) hz
  rw [Obj.data_mapDictKeys hdd, ← hh]
theorem merge_raw {a d : Addr} {oa od : Obj} {es : Array DictEntry} {ep ed : Nat} {kvs : List (Str × Value)} {Q : Unit → Shared → Prop} (ha : s.heap.get? a = some oa) (hda : oa.data = .dict es ep) (hca : oa.ExactDict)
    (hd : s.heap.get? d = some od) (hdd : od.data = .dict #[] ed) (hcd : od.ExactDict) (hne : a ≠ d) (hk : KeysOf (strKind prog w) es) (hp : Pairs (strKind prog w) es.toList kvs) (hnd : (kvs.map (·.1)).Nodup) (hsys : (a == sysModules) = false)
    (hz : kvs.length ≤ sizeLine)
    (h : ∀ h', Heap.SameBut d s.heap h' → (∃ o ep', h'.get? d = some o ∧ o.ExactDict ∧ o.data = .dict es ep') → Q () { s with heap := h' }) :
    wpAny (model prog w) A (mergeMapping d (.ref a) true) Q E s := by
  have hT : s.TypeIs (.ref a) "dict" := ⟨oa, ha, hca.1⟩
  unfold mergeMapping
  refine wpAny_bind (wpAny_isInstance hT (b := true) (by kernel_rfl) ?_)
  simp only [if_true]
  refine wpAny_bind (wpAny_specialOf hT PySem.F.slot_dict_iter.lookup (wpAny_bind (wpAny_pure ?_)))
  simp only [beq_self_eq_true, hsys, Bool.false_eq_true, if_false]
  refine wpAny_bind (wpAny_dictEntries hd hdd ?_)
  simp only [Array.isEmpty_empty, if_true]
  refine wpAny_bind (wpAny_dictEntries ha hda ?_)
  have hloop : (forIn es PUnit.unit fun (e : DictEntry) (__s : PUnit) =>
      (match e.key with
      | Value.ref _ => do
        let __do_lift ← specialOf e.key (Str.ofString "__eq__")
        if (__do_lift != some (Value.builtin "object.__eq__")) = true then
            if (Array.filter (fun x => x.hash == e.hash) es).size > 1 then do
              unsupported "dict.merge-into-an-empty-dict:keys-of-equal-hash"
              pure (ForInStep.yield PUnit.unit)
            else pure (ForInStep.yield PUnit.unit)
          else pure (ForInStep.yield PUnit.unit)
      | _ => pure (ForInStep.yield PUnit.unit) : Sem (ForInStep PUnit))) = pure PUnit.unit := by
    rw [← Array.forIn_toList]
    refine forIn_yield_id _ fun e he c => ?_
    obtain ⟨k, h1, _⟩ := hk e (by simpa using he)
    obtain ⟨t, ht⟩ := Value.isStrOf_shape h1
    rw [ht]
  refine wpAny_bind (wpAny_of_eq hloop ?_)
  refine wpAny_bind (wpAny_dictEntries ha hda ?_)
  refine wpAny_bind (wpAny_dictEpoch ha hda ?_)
  have hlen : es.size = kvs.length := by have := hp.length; simpa using this
  refine wpAny_bind (wpAny_forIn_list _ (fun rest _ s' => ∃ i h', rest = List.range' i (es.size - i) ∧ i ≤ es.size ∧ s' = { s with heap := h' } ∧ Heap.SameBut d s.heap h' ∧
    ∃ o ep', h'.get? d = some o ∧ o.ExactDict ∧ o.data = .dict (es.extract 0 i) ep') _ ?_ ?_ _ _ ⟨0, s.heap, by rw [List.range_eq_range', Nat.sub_zero], Nat.zero_le _, rfl, Heap.SameBut.refl .., od, ed, hd, hcd, by rw [hdd]; simp⟩)
  · rintro x rest _ s' ⟨i, h', hr, hi, rfl, hs, o, ep', ho, hoc, hod⟩
    have hlt : i < es.size := by
      rcases Nat.lt_or_ge i es.size with q | q
      · exact q
      · rw [Nat.sub_eq_zero_of_le q] at hr; cases hr
    obtain ⟨m, hm⟩ : ∃ m, es.size - i = m + 1 := ⟨es.size - i - 1, by omega⟩
    rw [hm, List.range'_succ] at hr
    injection hr with hx hr
    subst hx
    have ha' : h'.get? a = some oa := (hs.2 a hne).trans ha
    refine wpAny_bind (wpAny_dictEntries (s := { s with heap := h' }) ha' hda ?_)
    rw [Array.getElem?_eq_getElem hlt]
    refine wpAny_bind (wpAny_holding ?_)
    obtain ⟨k, hk1, hk2⟩ := hk es[x] (Array.getElem_mem hlt)
    have hkx : KeysOf (strKind prog w) (es.extract 0 x) := fun e he => hk e (by
      obtain ⟨j, hj, rfl⟩ := Array.mem_iff_getElem.mp he
      rw [Array.getElem_extract]; exact Array.getElem_mem _)
    have hnone : (es.extract 0 x).findIdx? (fun e => (strKind prog w).is k e.key) = none := by
      rw [Array.findIdx?_eq_none_iff]
      intro e he
      obtain ⟨j, hj, rfl⟩ := Array.mem_iff_getElem.mp he
      rw [Array.getElem_extract]
      have hj' : j < x := by simp at hj; omega
      have hjl : j < es.size := by omega
      cases q : (strKind prog w).is k (es[0 + j]'(by omega)).key with
      | false => rfl
      | true =>
        exfalso
        have h1 := (hp.get? (i := x) (e := es[x]) (by simp [hlt]) (k := (kvs[x]'(by omega)).1) (v := (kvs[x]'(by omega)).2) (by simp [hlen ▸ hlt])).1
        have h2 := (hp.get? (i := j) (e := es[j]) (by simp [hjl]) (k := (kvs[j]'(by omega)).1) (v := (kvs[j]'(by omega)).2) (by simp [hlen ▸ hjl])).1
        have q' : (strKind prog w).is k es[j].key = true := by simpa using q
        have e1 := (strKind prog w).inj _ _ _ h1 hk1
        have e2 := (strKind prog w).inj _ _ _ h2 q'
        refine List.pairwise_iff_getElem.mp hnd j x (by simp; omega) (by simp; omega) hj' ?_
        simp [e1, e2]
    have hzx : (es.extract 0 x).size ≤ sizeLine := by simp; omega
    show wpAny _ _ (dictFind d es[x].key es[x].hash >>= _) _ _ _
    rw [hk2]
    refine wpAny_bind (wpAny_dictFind_of (s := { s with heap := h' }) hk1 ho hod hkx ?_)
    rw [hnone]
    simp only [Option.isSome_none, Bool.false_eq_true, if_false]
    rw [← hk2]
    refine dictPut_new (s := { s with heap := h' }) ho hod hoc hkx hk1 hk2 hnone hzx fun h'' hs'' ho'' => ?_
    refine wpAny_bind (wpAny_dictEpoch (s := { s with heap := h'' }) ((hs''.2 a hne).trans ha') hda ?_)
    simp only [bne_self_eq_false, Bool.false_eq_true, if_false]
    refine wpAny_pure ⟨x + 1, h'', ?_, hlt, rfl, hs.trans hs'', ?_⟩
    · rw [hr]; congr 1; omega
    · obtain ⟨o', ep'', h1, h2, h3⟩ := ho''
      refine ⟨o', ep'', h1, h2, ?_⟩
      rw [h3]
      congr 1
      apply Array.ext'
      simp [List.take_add_one, hlt]
  · rintro _ s' ⟨i, h', hr, hi, rfl, hs, o, ep', ho, hoc, hod⟩
    have : i = es.size := by
      rcases Nat.lt_or_ge i es.size with q | q
      · obtain ⟨m, hm⟩ : ∃ m, es.size - i = m + 1 := ⟨es.size - i - 1, by omega⟩
        rw [hm, List.range'_succ] at hr; cases hr
      · omega
    subst this
    exact wpAny_pure (h h' hs ⟨o, ep', ho, hoc, by rw [hod]; simp⟩)

theorem callWith_fn {f : Addr} {first : List Value} {pos : Pos} {Q : Value → Shared → Prop} {args : List (Bool × Sem Value)} {kws : List (Option Str × Sem Value)}
    (h : wpAny (model prog w) A (evalArgs (.ref f) true args kws) (fun a s₁ => (∃ o fd, s₁.heap.get? f = some o ∧ o.data = .func fd) ∧ wpAny (model prog w) A (call (.ref f) (first ++ a.pos) a.kw) Q E s₁) E s) :
    wpAny (model prog w) A (callWith pos (.ref f) first args kws) Q E s := by
  unfold callWith
  refine wpAny_bind (wpAny_holding (wpAny_mono h (fun a s₁ h₁ => wpAny_bind (wpAny_standAt ?_)) fun _ _ x => x))
  obtain ⟨⟨o, fd, ho, hd⟩, h₁⟩ := h₁
  have hk : ∀ {Q' : Keeper → Shared → Prop}, Q' .frame s₁ → wpAny (model prog w) A (keeperOf (.ref f)) Q' E s₁ := fun q => by
    unfold keeperOf
    refine wpAny_bind (wpAny_load ho ?_)
    rw [hd]
    exact wpAny_pure q
  refine wpAny_bind (hk ?_)
  have tail : ∀ {t : Sem Value}, wpAny (model prog w) A t Q E s₁ → wpAny (model prog w) A (t >>= fun r => holding [r] point >>= fun _ => pure r) Q E s₁ :=
    fun ht => wpAny_bind (wpAny_mono ht (fun r s₂ hr => wpAny_bind (wpAny_holding (wpAny_point (wpAny_pure hr)))) fun _ _ x => x)
  have marked (mk : Value) : wpAny (model prog w) A (callMarked mk (.ref f) (first ++ a.pos) a.kw) Q E s₁ := by unfold callMarked; exact Calls.wpAny_keep h₁
  cases hst : (args.any (·.1) || kws.any (·.1.isNone)) with
  | true => exact tail (marked _)
  | false =>
    dsimp only
    split
    · exact tail h₁
    · exact tail (marked _)

theorem evalArgs_star {f : Value} {x : Sem Value} {rest : List (Bool × Sem Value)} {kws : List (Option Str × Sem Value)} {Q : Args → Shared → Prop} (hk : kws.all (·.1.isSome) = false)
    (h : wpAny (model prog w) A (spliced ((false, x) :: rest)) (fun vs s₁ => wpAny (model prog w) A (mergedKeywords f kws) (fun d s₂ => wpAny (model prog w) A (keywordsIn f d) (fun kw s₃ => Q ⟨vs, kw⟩ s₃) E s₂) E s₁) E s) :
    wpAny (model prog w) A (evalArgs f true ((false, x) :: rest) kws) Q E s := by
  unfold evalArgs
  show wpAny (model prog w) A (spliced ((false, x) :: rest) >>= _) Q E s
  refine wpAny_bind (wpAny_mono h (fun vs s₁ h₁ => ?_) fun _ _ x => x)
  refine wpAny_bind (wpAny_pure ?_)
  refine wpAny_holding ?_
  simp only [hk, Bool.false_eq_true, if_false]
  refine wpAny_bind (wpAny_mono h₁ (fun d s₂ h₂ => ?_) fun _ _ x => x)
  refine wpAny_bind (wpAny_pure ?_)
  exact wpAny_bind (wpAny_holding (wpAny_mono h₂ (fun kw s₃ h₃ => wpAny_pure h₃) fun _ _ x => x))

variable {base : Heap} {os₀ : OsState} {led led' : Led}
theorem St.notSys (H : St base os₀ led s) {a : Addr} {P : Asn} (hm : (a, P) ∈ led) {o : Obj} (hs : base.get? sysModules = some o) : (a == sysModules) = false := by
  cases q : a == sysModules with
  | false => rfl
  | true =>
    have e := eq_of_beq q
    have := H.new _ hm
    rw [show ((a, P) : Addr × Asn).1 = sysModules from e, hs] at this
    cases this

theorem merged1 {f : Value} {x : Sem Value} {a : Addr} {kvs : List (Str × Value)} {o₀ : Obj} {Q : Addr → Shared → Prop} (H : St base os₀ led s) (hs : base.get? sysModules = some o₀)
    (hx : ∀ d s₁, St base os₀ ((d, dctA (strKind prog w) []) :: led) s₁ → wpAny (model prog w) A x (fun v s₂ => s₂ = s₁ ∧ v = .ref a) E s₁) (hm : (a, dctA (strKind prog w) kvs) ∈ led) (hz : kvs.length ≤ sizeLine)
    (h : ∀ d s', St base os₀ ((d, dctA (strKind prog w) kvs) :: led) s' → Q d s') : wpAny (model prog w) A (mergedKeywords f [(none, x)]) Q E s := by
  delta mergedKeywords
  refine wpAny_bind (wpAny_alloc ?_)
  have H₁ : St base os₀ ((s.heap.objs.size, dctA (strKind prog w) []) :: led) { s with heap := s.heap.push { cls := .type "dict", data := .dict #[] } } :=
    H.push (tk := s.toks) rfl ⟨#[], 0, ⟨rfl, rfl, rfl⟩, rfl, fun e he => by simp at he, .nil, .nil⟩
  refine wpAny_bind (wpAny_holding ?_)
  refine wpAny_bind ?_
  show wpAny (model prog w) A (Sem.bind (Sem.bind x _) _) _ _ _
  refine wpAny_bind (wpAny_bind (wpAny_mono (hx _ _ H₁) (fun v s₂ h₂ => ?_) fun _ _ q => q))
  obtain ⟨rfl, rfl⟩ := h₂
  obtain ⟨oa, hoa, es, ep, hex, hda, hka, hpa, hna⟩ := H.get hm
  have hoa' := Heap.get?_push_of_some { cls := Value.type "dict", data := Data.dict #[] } hoa
  have hne : a ≠ s.heap.objs.size := H₁.ne hm
  refine wpAny_bind (wpAny_onRaise (wpAny_holding (wpAny_tryCatch (wpAny_onRaise (merge_raw (kvs := kvs) hoa' hda hex (Heap.get?_push_size _ rfl) rfl ⟨rfl, rfl, rfl⟩ hne hka hpa hna (H.notSys hm hs) hz fun h' hsb hd' => ?_)))))
  refine wpAny_pure ?_
  show wpAny _ _ (pure []) _ _ _
  refine wpAny_pure ?_
  show wpAny _ _ (pure ()) _ _ _
  refine wpAny_pure (wpAny_pure ?_)
  obtain ⟨o', ep', h1, h2, h3⟩ := hd'
  exact h _ _ (H₁.upd (tk := s.toks) Up.head hsb.extBut ⟨o', h1, es, ep', h2, h3, hka, hpa, hna⟩)

theorem kwIn {f : Value} {d : Addr} {kvs : List (Str × Value)} {Q : List (Str × Value) → Shared → Prop} (H : St base os₀ led s) (hm : (d, dctA (strKind prog w) kvs) ∈ led) (h : Q kvs s) :
    wpAny (model prog w) A (keywordsIn f d) Q E s := by
  obtain ⟨o, ho, es, ep, hex, hd, hk, hp, hn⟩ := H.get hm
  delta keywordsIn
  refine wpAny_bind (wpAny_dictEntries ho hd ?_)
  refine wpAny_bind ?_
  rw [← Array.forIn_toList]
  refine wpAny_forIn_list _ (fun rest b s' => s' = s ∧ ∃ done kr, kvs = done ++ kr ∧ b = done ∧ Pairs (strKind prog w) rest kr) _ ?_ ?_ _ _ ⟨rfl, [], kvs, rfl, rfl, hp⟩
  · rintro e rest b s' ⟨rfl, done, kr, rfl, rfl, hpr⟩
    cases hpr with
    | @cons _ kv _ kvs' h1 h2 h3 =>
      obtain ⟨t, ht⟩ := Value.isStrOf_shape h1
      obtain ⟨eh, ek, ev⟩ := e
      dsimp only at ht h2
      subst ht h2
      exact wpAny_pure ⟨rfl, b ++ [kv], kvs', by simp, rfl, h3⟩
  · rintro b s' ⟨rfl, done, kr, rfl, rfl, hpr⟩
    cases hpr
    rw [List.append_nil] at h
    exact wpAny_pure h

/-- a str key put by nsSet behind the others -/
theorem nsSet_push {d : Addr} {kvs : List (Str × Value)} {k : Str} {v : Value} {Q : Unit → Shared → Prop} (hm : s.heap.DictOf (strKind prog w) d kvs) (hk : k ∉ kvs.map (·.1))
    (h : ∀ h', h'.DictOf (strKind prog w) d (kvs ++ [(k, v)]) → Heap.SameBut d s.heap h' → Q () { s with heap := h', toks := s.toks + 1 }) :
    wpAny (model prog w) A (nsSet d k v) Q E s := by
  obtain ⟨o, es, ep, ho, hex, hd, hko, hp, hn⟩ := hm
  have hany : es.any (·.refKey) = false := by
    rw [Array.any_eq_false']; intro e he; obtain ⟨n, h1, _⟩ := hko e he; obtain ⟨t, ht⟩ := Value.isStrOf_shape h1; simp [DictEntry.refKey, ht]
  have hstr : ∀ e ∈ es, e.key.isStr k = (strKind prog w).is k e.key := fun e he => by
    obtain ⟨n, h1, _⟩ := hko e he
    obtain ⟨t, ht⟩ := Value.isStrOf_shape h1
    have := (strKind prog w).strs k k 0 e.key (by show Value.isStrOf k (.str k 0) = true; simp [Value.isStrOf])
    exact this.symm
  have hnone : es.findIdx? (fun e => e.key.isStr k) = none := by
    rw [Array.findIdx?_eq_none_iff]
    intro e he
    rw [hstr e he]
    cases q : (strKind prog w).is k e.key with
    | false => rfl
    | true =>
      exfalso
      have := hp.findIdx k
      obtain ⟨j, hj, rfl⟩ := Array.mem_iff_getElem.mp he
      have h2 : (es.toList.findIdx? fun e => (strKind prog w).is k e.key) ≠ none := by
        rw [Ne, List.findIdx?_eq_none_iff]
        intro hh
        have := hh es[j] (by simp)
        rw [q] at this; cases this
      rw [this, Ne, List.findIdx?_eq_none_iff] at h2
      apply h2
      intro kv hkv
      exact decide_eq_false fun e => hk (e ▸ List.mem_map_of_mem hkv)
  intro Γ p hΓ
  simp only [nsSet, strHash, Sem.wp_bind', Sem.wp_cmd_ask, Sem.wp_pure', Sem.wp_cmd_mkText]
  rw [Sem.wp_loadPart_of _ Γ _ p { s with toks := s.toks + 1 } (o := o) _ ho]
  simp only [hd, aRefKeyMayBeTheName_eq, aRefKeyMayBeTheNameByArray, hany, Bool.and_false, Bool.false_eq_true, if_false, Sem.wp_cmd_updatePart]
  obtain ⟨oc, odd, odt, osl⟩ := o
  dsimp only at hd
  subst hd
  have hput : ∀ hsh key, Obj.putName k hsh key v ⟨oc, odd, .dict es ep, osl⟩ = ⟨oc, odd, .dict (es.push ⟨hsh, key, v⟩) (ep + 1), osl⟩ := fun hsh key => by
    simp only [Obj.putName_eq, Obj.putNameByArray, hnone]
  have hsn : ∀ {l : List DictEntry} {kv : List (Str × Value)} {e : DictEntry}, Pairs (strKind prog w) l kv → (strKind prog w).is k e.key = true → e.val = v → Pairs (strKind prog w) (l ++ [e]) (kv ++ [(k, v)]) := fun hl h1 h2 => by
    induction hl with
    | nil => exact .cons h1 h2 .nil
    | cons q1 q2 _ ih => exact .cons q1 q2 ih
  have hkk : (strKind prog w).is k (.str k s.toks) = true := by show Value.isStrOf k (.str k s.toks) = true; simp [Value.isStrOf]
  refine ⟨by rw [ho]; rfl, h _ ⟨⟨oc, odd, .dict (es.push ⟨hashStr w k, .str k s.toks, v⟩) (ep + 1), osl⟩, es.push ⟨hashStr w k, .str k s.toks, v⟩, ep + 1, (Heap.get?_update_self _ ho (by rw [hput]; rfl)).trans (by rw [hput]; rfl), hex, rfl, hko.push hkk v, ?_, ?_⟩ (Heap.SameBut.update ..)⟩
  · rw [Array.toList_push]; exact hsn hp hkk rfl
  · rw [List.map_append, List.nodup_append]
    refine ⟨hn, by simp, ?_⟩
    intro y hy z hz
    simp only [List.map_cons, List.map_nil, List.mem_singleton] at hz
    subst hz
    exact fun e => hk (e ▸ hy)

theorem nsSets {d : Addr} {f : Str × Value → PUnit → Sem (ForInStep PUnit)} (hf : ∀ n v u, f (n, v) u = (do nsSet d n v; pure (.yield ⟨⟩))) :
    ∀ (kws kvs : List (Str × Value)) (s : Shared) (Q : PUnit → Shared → Prop), s.heap.DictOf (strKind prog w) d kvs → (∀ k ∈ kws.map (·.1), k ∉ kvs.map (·.1)) → (kws.map (·.1)).Nodup →
      (∀ h' tk, h'.DictOf (strKind prog w) d (kvs ++ kws) → Heap.SameBut d s.heap h' → Q ⟨⟩ { s with heap := h', toks := tk }) → wpAny (model prog w) A (forIn kws ⟨⟩ f) Q E s
  | [], kvs, s, Q, hm, _, _, h => by rw [List.forIn_nil]; exact wpAny_pure (h s.heap s.toks (by rwa [List.append_nil]) (Heap.SameBut.refl ..))
  | (n, v) :: r, kvs, s, Q, hm, hk, hn, h => by
    rw [List.forIn_cons, hf]
    refine wpAny_bind (wpAny_bind (nsSet_push hm (hk n (.head _)) fun h' hm' hs' => wpAny_pure ?_))
    simp only [List.map_cons, List.nodup_cons] at hn
    refine nsSets hf r (kvs ++ [(n, v)]) _ Q hm' (fun k hkr => ?_) hn.2 fun h'' tk hm'' hs'' => h h'' tk (by rwa [List.append_assoc] at hm'') (hs'.trans hs'')
    rw [List.map_append, List.mem_append]
    rintro (q | q)
    · exact hk k (.tail _ hkr) q
    · simp only [List.map_cons, List.map_nil, List.mem_singleton] at q
      subst q; exact hn.1 hkr
end
end Mine

namespace Mine
open PySem PySem.W PyProof.Rows PySem.Calls PySem.Spec
section
variable {prog : Program} {w : World} {A : Around} {E : Value → Shared → Prop} {s : Shared} {base : Heap} {os₀ : OsState} {led led' : Led}
theorem lookup_zip_some : ∀ (names : List Str) (vs : List Value), vs.length = names.length → ∀ n ∈ names, ((names.zip vs).lookup n).isSome = true
  | [], _, _, _, h => nomatch h
  | a :: r, v :: vs, hl, n, h => by
    rw [List.zip_cons_cons, List.lookup_cons]
    cases q : n == a with
    | true => rfl
    | false =>
      refine lookup_zip_some r vs (by simpa using hl) n ?_
      rcases List.mem_cons.mp h with rfl | h
      · simp at q
      · exact h
theorem filterMap_zip : ∀ (names : List Str) (vs : List Value), vs.length = names.length → names.Nodup → (names.filterMap fun n => ((names.zip vs).lookup n).map (n, ·)) = names.zip vs
  | [], _, _, _ => by simp
  | a :: r, v :: vs, hl, hn => by
    rw [List.nodup_cons] at hn
    have ih := filterMap_zip r vs (by simpa using hl) hn.2
    rw [List.zip_cons_cons, List.filterMap_cons]
    simp only [List.lookup_cons, beq_self_eq_true, Option.map_some]
    congr 1
    have cong : ∀ (l : List Str) (f g : Str → Option (Str × Value)), (∀ x ∈ l, f x = g x) → l.filterMap f = l.filterMap g := fun l f g hfg => by
      induction l with
      | nil => rfl
      | cons x l ih' => rw [List.filterMap_cons, List.filterMap_cons, hfg x (.head _), ih' fun y hy => hfg y (.tail _ hy)]
    refine (cong r _ _ fun n hnr => ?_).trans ih
    have : (n == a) = false := by
      cases q : n == a with
      | false => rfl
      | true => exact absurd (eq_of_beq q ▸ hnr) hn.1
    simp only [this]
theorem bind_kw {fd : FuncData} {normal : List Str} {kwa : Arg} {vs : List Value} {kws : List (Str × Value)} {Q : List (Str × Value) → Shared → Prop}
    (hpo : fd.params.posonlyargs = []) (hn : fd.params.args.map (·.arg) = normal) (hko : fd.params.kwonlyargs = []) (hva : fd.params.vararg = none) (hkw : fd.params.kwarg = some kwa) (hdf : fd.defaults = .none)
    (hlen : vs.length = normal.length) (hnd : normal.Nodup) (hdis : ∀ k ∈ kws.map (·.1), k ∉ normal) (hkn : (kws.map (·.1)).Nodup) (hz : kws.length ≤ sizeLine + 1) (H : St base os₀ led s)
    (h : ∀ d s', St base os₀ ((d, dctA (strKind prog w) kws) :: led) s' → Q (normal.zip vs ++ [(kwa.arg, .ref d)]) s') :
    wpAny (model prog w) A (bindArgs fd ⟨vs, kws⟩) Q E s := by
  unfold bindArgs
  simp only [hpo, hn, hko, hva, hkw, hdf, List.map_nil, List.nil_append, List.append_nil]
  refine wpAny_bind ?_
  refine wpAny_forIn_list _ (fun rest b s' => s' = s ∧ ∃ done, kws = done ++ rest ∧ b = (normal.zip vs, done)) _ ?_ ?_ _ _ ⟨rfl, [], rfl, rfl⟩
  · rintro ⟨k, v⟩ rest b s' ⟨rfl, done, rfl, rfl⟩
    have hc : normal.contains k = false := by
      cases q : normal.contains k with
      | false => rfl
      | true => exact absurd (List.contains_iff_mem.mp q) (hdis k (by simp))
    simp only [hc, List.contains_nil, Bool.or_self, Bool.false_eq_true, if_false, Option.isSome_some, if_true]
    exact wpAny_pure ⟨rfl, done ++ [(k, v)], by simp, rfl⟩
  · rintro b s' ⟨rfl, done, hd, rfl⟩
    rw [List.append_nil] at hd
    subst hd
    show wpAny _ _ (pure none >>= _) _ _ _
    refine wpAny_bind (wpAny_pure ?_)
    have hgt : decide (vs.length > normal.length) = false := decide_eq_false (by omega)
    have hmiss : (normal.filter fun n => ((normal.zip vs).lookup n).isNone) = [] := by
      rw [List.filter_eq_nil_iff]
      intro n hnn
      have := lookup_zip_some normal vs hlen n hnn
      cases q : (normal.zip vs).lookup n with
      | none => rw [q] at this; cases this
      | some _ => simp
    simp only [Option.getD_none, List.drop_nil, List.length_nil, Nat.sub_zero, List.take_length, hmiss, hgt, Bool.false_and, Bool.false_eq_true, if_false, List.isEmpty_nil, Bool.not_true, List.zip_nil_right, List.forIn_nil]
    refine wpAny_bind (wpAny_pure (wpAny_bind (wpAny_pure ?_)))
    simp only [List.isEmpty_nil, Bool.not_true, Bool.false_eq_true, if_false, if_neg (Nat.not_lt.mpr hz), filterMap_zip normal vs hlen hnd]
    refine wpAny_bind (wpAny_alloc ?_)
    refine wpAny_bind (nsSets (fun n v u => rfl) kws [] _ _ ⟨_, #[], 0, Heap.get?_push_size _ rfl, ⟨rfl, rfl, rfl⟩, rfl, fun e he => by simp at he, .nil, .nil⟩ (fun _ _ => by simp) hkn fun h' tk hm' hs' => wpAny_pure ?_)
    rw [List.nil_append] at hm'
    refine h _ _ (H.more (fun b o e => ?_) (Nat.le_refl _) (dctA_of hm').choose_spec.1 (dctA_of hm').choose_spec.2)
    exact (hs'.2 b (Nat.ne_of_lt (Heap.lt_size e))).trans (Heap.get?_push_of_some _ e)

/-- a call of a def without cells of its own -/
theorem fn_enter {f : Addr} {o : Obj} {fd : FuncData} {body : List Stmt} {args : Args} {Q : Value → Shared → Prop} (H : St base os₀ led s) (hroom : A.depth < recursionLimit) (hlim : base.NoLimit)
    (ho : s.heap.get? f = some o) (hdata : o.data = .func fd) (hcd : s.heap.CodeRec fd.code fd.qualname) (hbody : fd.body = .stmts body)
    (hcell : ∀ x ∈ fd.scope.names, x.2 ≠ .cell)
    (h : wpAny (model prog w) A.in1 (bindArgs fd args) (fun binds s₁ => ∃ led₁, St base os₀ led₁ s₁ ∧ (∀ x ∈ binds, fd.scope.names.lookup x.1 = some .local) ∧
      ∀ L s₂, St base os₀ ((L, nsA fun x => binds.reverse.lookup x) :: led₁) s₂ →
        wpAny (model prog w) (A.deeper (callEnv fd L f)) (execs body (callEnv fd L f)) (fun fl s' => Q (match fl with | .ret v => v | _ => .none) s')
          (fun e s' => wpAny (model prog w) (A.deeper (callEnv fd L f)) (leaving (callEnv fd L f) e) (fun _ s'' => E e s'') (fun e' s'' => E e' s'') s') s₂) E s)
    (hco : fd.scope.isCoroutine = false := by rfl) (hgen : fd.scope.isGenerator = false := by rfl) (hk : fd.scope.kind = .function := by rfl) :
    wpAny (model prog w) A (call (.ref f) args.pos args.kw) Q E s := by
  refine wpAny_call (codeAny_call_function hroom ho hdata hco hgen hbody hcd (wpAny_mono h (fun binds s₁ h₁ => ?_) fun _ _ x => x))
  obtain ⟨led₁, H₁, hl, h₁⟩ := h₁
  refine wpAny_newFunctionEnv hcell hl (fun h' hns hsb => ?_) hk
  have H₂ : St base os₀ ((s₁.heap.objs.size, nsA fun x => binds.reverse.lookup x) :: led₁) { s₁ with heap := h', toks := s₁.toks + binds.length } := by
    obtain ⟨o', ho', hp'⟩ := nsA_of hns
    exact H₁.more (fun b o e => hsb.extBut b o (Nat.ne_of_lt (Heap.lt_size e)) (Heap.get?_push_of_some _ e)) (Nat.le_refl _) ho' hp'
  exact ⟨hlim.keeps H₂.keep, codeAny_func (h₁ _ _ H₂)⟩

/-- a call of a lambda -/
theorem lam_enter {f : Addr} {o : Obj} {fd : FuncData} {body : Expr} {args : Args} {Q : Value → Shared → Prop} (H : St base os₀ led s) (hroom : A.depth < recursionLimit) (hlim : base.NoLimit)
    (ho : s.heap.get? f = some o) (hdata : o.data = .func fd) (hcd : s.heap.CodeRec fd.code fd.qualname) (hbody : fd.body = .expr body)
    (hcell : ∀ x ∈ fd.scope.names, x.2 ≠ .cell)
    (h : wpAny (model prog w) A.in1 (bindArgs fd args) (fun binds s₁ => ∃ led₁, St base os₀ led₁ s₁ ∧ (∀ x ∈ binds, fd.scope.names.lookup x.1 = some .local) ∧
      ∀ L s₂, St base os₀ ((L, nsA fun x => binds.reverse.lookup x) :: led₁) s₂ →
        wpAny (model prog w) (A.deeper (callEnv fd L f)) (eval body (callEnv fd L f)) Q
          (fun e s' => wpAny (model prog w) (A.deeper (callEnv fd L f)) (leaving (callEnv fd L f) e) (fun _ s'' => E e s'') (fun e' s'' => E e' s'') s') s₂) E s)
    (hco : fd.scope.isCoroutine = false := by rfl) (hgen : fd.scope.isGenerator = false := by rfl) (hk : fd.scope.kind = .function := by rfl) :
    wpAny (model prog w) A (call (.ref f) args.pos args.kw) Q E s := by
  refine wpAny_call (kla_callFunE hroom ho hdata hco hgen hbody hcd (wpAny_mono h (fun binds s₁ h₁ => ?_) fun _ _ x => x))
  obtain ⟨led₁, H₁, hl, h₁⟩ := h₁
  refine wpAny_newFunctionEnv hcell hl (fun h' hns hsb => ?_) hk
  have H₂ : St base os₀ ((s₁.heap.objs.size, nsA fun x => binds.reverse.lookup x) :: led₁) { s₁ with heap := h', toks := s₁.toks + binds.length } := by
    obtain ⟨o', ho', hp'⟩ := nsA_of hns
    exact H₁.more (fun b o e => hsb.extBut b o (Nat.ne_of_lt (Heap.lt_size e)) (Heap.get?_push_of_some _ e)) (Nat.le_refl _) ho' hp'
  exact ⟨hlim.keeps H₂.keep, kla_codeExpr (h₁ _ _ H₂)⟩

/-- the cells of a frame, as entries -/
def cellLed (kindOf : Str → Option NameKind) (binds : List (Str × Value)) (cs : List (Str × Addr)) : Led := cs.map fun p => (p.2, celA (bindC kindOf binds (fun _ => none) p.1))

theorem lookup_of_mem {cs : List (Str × Addr)} (hn : (cs.map (·.1)).Nodup) {n : Str} {c : Addr} (h : (n, c) ∈ cs) : cs.lookup n = some c := by
  induction cs with
  | nil => cases h
  | cons p r ih =>
    obtain ⟨m, d⟩ := p
    simp only [List.map_cons, List.nodup_cons] at hn
    rw [List.lookup_cons]
    rcases List.mem_cons.mp h with e | h
    · cases e; simp
    · have : (n == m) = false := by
        cases q : n == m with
        | false => rfl
        | true => exact absurd (eq_of_beq q ▸ List.mem_map_of_mem (f := (·.1)) h) hn.1
      simp only [this]
      exact ih hn.2 h

/-- a call of a def that has cells and closes over nothing -/
theorem fn_enterC {f : Addr} {o : Obj} {fd : FuncData} {body : List Stmt} {args : Args} {Q : Value → Shared → Prop} (H : St base os₀ led s) (hroom : A.depth < recursionLimit) (hlim : base.NoLimit)
    (ho : s.heap.get? f = some o) (hdata : o.data = .func fd) (hcd : s.heap.CodeRec fd.code fd.qualname) (hbody : fd.body = .stmts body) (hclo : fd.closure = [])
    (hnd : ∀ n, ((cellsFrom n fd.scope.names []).map (·.1)).Nodup)
    (h : wpAny (model prog w) A.in1 (bindArgs fd args) (fun binds s₁ => ∃ led₁, St base os₀ led₁ s₁ ∧
      (∀ n, ∀ x ∈ binds, fd.scope.names.lookup x.1 = some .local ∨ (fd.scope.names.lookup x.1 = some .cell ∧ ((cellsFrom n fd.scope.names []).lookup x.1).isSome = true)) ∧
      ∀ L s₂, St base os₀ (cellLed (callEnvC fd L f).kindOf binds (cellsFrom (L + 1) fd.scope.names []) ++ (L, nsA (bindL (callEnvC fd L f).kindOf binds fun _ => none)) :: led₁) s₂ →
        wpAny (model prog w) (A.deeper (callEnvC fd L f)) (execs body (callEnvC fd L f)) (fun fl s' => Q (match fl with | .ret v => v | _ => .none) s')
          (fun e s' => wpAny (model prog w) (A.deeper (callEnvC fd L f)) (leaving (callEnvC fd L f) e) (fun _ s'' => E e s'') (fun e' s'' => E e' s'') s') s₂) E s)
    (hco : fd.scope.isCoroutine = false := by rfl) (hgen : fd.scope.isGenerator = false := by rfl) (hk : fd.scope.kind = .function := by rfl) :
    wpAny (model prog w) A (call (.ref f) args.pos args.kw) Q E s := by
  refine wpAny_call (codeAny_call_function hroom ho hdata hco hgen hbody hcd (wpAny_mono h (fun binds s₁ h₁ => ?_) fun _ _ x => x))
  obtain ⟨led₁, H₁, hkind, h₁⟩ := h₁
  rw [hclo]
  refine wpAny_newFunctionEnv_cells hk (hkind _) fun env he s₂ x => ?_
  subst he
  obtain ⟨h', tk, rfl⟩ := x.toInCall.same
  have hns := x.toInCall.ns
  have hkeep := x.toInCall.keep
  have hcell := x.cell
  have happ := x.apart
  have habv := x.above
  have H₂ : St base os₀ ((s₁.heap.objs.size, nsA (bindL (callEnvC fd s₁.heap.objs.size f).kindOf binds fun _ => none)) :: led₁) { s₁ with heap := h', toks := tk } := by
    obtain ⟨o', ho', hp'⟩ := nsA_of hns
    exact H₁.more hkeep (Nat.le_refl _) ho' hp'
  have H₃ : St base os₀ (cellLed (callEnvC fd s₁.heap.objs.size f).kindOf binds (cellsFrom (s₁.heap.objs.size + 1) fd.scope.names []) ++ (s₁.heap.objs.size, nsA (bindL (callEnvC fd s₁.heap.objs.size f).kindOf binds fun _ => none)) :: led₁) { s₁ with heap := h', toks := tk } := by
    have hbig : ∀ p ∈ cellsFrom (s₁.heap.objs.size + 1) fd.scope.names [], s₁.heap.objs.size < p.2 := fun p hp => habv p.1 p.2 hp
    refine ⟨H₂.keep, ?_, fun p hp => ?_, fun p hp => ?_, H₂.gens, H₂.os⟩
    · rw [List.map_append, List.nodup_append]
      refine ⟨?_, H₂.nd, ?_⟩
      · unfold cellLed
        rw [List.map_map]
        exact List.pairwise_map.mpr (happ.imp fun h => h)
      · intro a ha b hb e
        subst e
        obtain ⟨p, hp, rfl⟩ := List.mem_map.mp ha
        obtain ⟨q, hq, rfl⟩ := List.mem_map.mp hp
        have hlt := hbig q hq
        obtain ⟨r, hr, er⟩ := List.mem_map.mp hb
        rcases List.mem_cons.mp hr with rfl | hr
        · exact absurd hlt (by simp only at er; rw [← er]; exact Nat.lt_irrefl _)
        · obtain ⟨o', ho', _⟩ := H₁.has r hr
          have := Heap.lt_size ho'
          rw [er] at this
          exact absurd this (Nat.not_lt.mpr (Nat.le_of_lt hlt))
    · rcases List.mem_append.mp hp with hp | hp
      · obtain ⟨q, hq, rfl⟩ := List.mem_map.mp hp
        exact hcell q.1 q.2 (lookup_of_mem (hnd _) hq)
      · exact H₂.has p hp
    · rcases List.mem_append.mp hp with hp | hp
      · obtain ⟨q, hq, rfl⟩ := List.mem_map.mp hp
        exact H₁.newAt (Nat.le_of_lt (hbig q hq))
      · exact H₂.new p hp
  exact ⟨hlim.keeps H₃.keep, codeAny_func (h₁ _ _ H₃)⟩
end
end Mine

namespace Mine
open PySem PySem.W PyProof.Rows PySem.Calls PySem.Spec
section
variable {prog : Program} {w : World} {A : Around} {E : Value → Shared → Prop} {s : Shared} {base : Heap} {os₀ : OsState} {led led' : Led} {e : Addr} {cls : String} {env : Env}

end
end Mine

namespace Mine
open PySem PySem.W PyProof.Rows PySem.Calls PySem.Spec
def tabA (ps : Array Value) : Asn := fun o => o = tabObj ps
def codeA (qual : Str) : Asn := fun o => ∃ vs t, o.data = .fields vs ∧ vs[1]? = some (.str qual t)
/-- what the top gives -/
structure Gr (base : Heap) (mg mb : Str → Option Value) : Prop where
  g : base.Ns mainGlobals mg
  b : base.Ns builtinsNs mb
  lim : base.NoLimit
  sys : ∃ o, base.get? sysModules = some o
  bmain : ∃ bm ob, mg "__builtins__" = some (.ref bm) ∧ bm ≠ builtinsNs ∧ base.get? bm = some ob ∧ ob.cls = .type "module" ∧ ob.dict = some builtinsNs ∧ ob.data = .plain
section
variable {M : Model} {A : Around} {E : Value → Shared → Prop} {s : Shared} {base : Heap} {os₀ : OsState} {led : Led} {env : Env} {mg mb : Str → Option Value} {c P : Addr} {ps : Array Value} {pos : Pos} {firstLine : Nat} {name qual : Str} {params : Arguments} {scope : Scope}
  {clos : List (Str × Addr)} {Q : Value → Shared → Prop}

theorem Gr.builtinsAt (G : Gr base mg mb) (H : St base os₀ led s) (hm : (P, tabA ps) ∈ led) : mainGlobals ≠ P ∧ s.heap.BuiltinsAt mg P := by
  obtain ⟨o, ho, rfl⟩ := H.get hm
  obtain ⟨bm, ob, b1, b2, b3, b4, b5, b6⟩ := G.bmain
  have hgP : mainGlobals ≠ P := fun q => by
    obtain ⟨o, es, ep, e, hd, _⟩ := G.g
    have := H.keep _ _ e
    rw [q, ho] at this; cases this; cases hd
  have hbP : bm ≠ P := fun q => by
    have e := H.keep _ _ b3
    rw [q, ho] at e; cases e; cases b4
  have hbG : bm ≠ mainGlobals := fun q => by
    obtain ⟨o, es, ep, e, hd, _⟩ := G.g
    rw [q, e] at b3; cases b3; rw [hd] at b6; cases b6
  exact ⟨hgP, bm, ob, b1, b2, hbG, hbP, H.keep _ _ b3, b4, b5, b6⟩

theorem St.made {h' : Heap} {tk c' : Nat} {o : Obj} {led' : Led} {ps' : Array Value} (H : St base os₀ led s) (U : Up P (tabA ps) (tabA ps') led led') (hx : Heap.ExtBut P s.heap h') (hge : s.heap.objs.size ≤ c') (hlt : c' < h'.objs.size) (hrec : h'.CodeRec (.ref c') qual)
    (hP : h'.get? P = some (tabObj ps')) (hf : o.isFreed = false) : St base os₀ ((h'.objs.size, objA o) :: (c', codeA qual) :: led') { s with heap := h'.push o, toks := tk } := by
  obtain ⟨c₂, oc, vs, t, e2, hoc, hd, hv⟩ := hrec
  cases e2
  have H₁ : St base os₀ led' { s with heap := h', toks := tk } := H.upd U hx ⟨_, hP, rfl⟩
  have hc' : c' ∉ led'.map (·.1) := fun q => by
    rw [U.keys] at q
    obtain ⟨p, hp, e⟩ := List.mem_map.mp q
    obtain ⟨o', ho', _⟩ := H.has p hp
    have := Heap.lt_size ho'
    rw [e] at this
    exact absurd this (Nat.not_lt.mpr hge)
  have H₂ : St base os₀ ((c', codeA qual) :: led') { s with heap := h', toks := tk } := by
    refine ⟨H₁.keep, by simp only [List.map_cons, List.nodup_cons]; exact ⟨hc', H₁.nd⟩, fun p hp => ?_, fun p hp => ?_, H₁.gens, H₁.os⟩
    · rcases List.mem_cons.mp hp with rfl | hp
      · exact ⟨oc, hoc, vs, t, hd, hv⟩
      · exact H₁.has p hp
    · rcases List.mem_cons.mp hp with rfl | hp
      · exact H.newAt hge
      · exact H₁.new p hp
  exact H₂.push (tk := tk) hf rfl

theorem mk_lam_new {body : Expr} {led' : Addr → Led} (H : St base os₀ led s) (G : Gr base mg mb) (C : CodeHd base c P) (hcode : env.code = .ref c) (hge0 : env.globals = mainGlobals) (hcl : closureFor scope env = pure clos)
    (ht : TriplesOk ps.toList) (hnf : codeAmong pos ps.toList = none) (U : ∀ c', Up P (tabA ps) (tabA (ps ++ #[rawInt pos.line, rawInt pos.col, .ref c'])) led (led' c'))
    (h : ∀ f c' ctv s', St base os₀ ((f, objA (kla_obj name qual params body scope clos ((mg "__name__").getD .none) c' ctv)) :: (c', codeA qual) :: led' c') s' → Q (.ref f) s') :
    wpAny M A (makeFunction name qual params (.expr body) scope env [] [] [] pos firstLine) Q E s := by
  have hm := (U 0).mem
  obtain ⟨hgP, hb⟩ := G.builtinsAt H hm
  obtain ⟨o, ho, rfl⟩ := H.get hm
  refine kla_makeFunction (mg := mg) hcl hge0 (G.g.keeps H.keep) hcode (C.keeps H.keep) ho ht hnf hgP hb fun c' ctv h' tk hx hge hlt hrec htb => ?_
  exact h _ c' ctv _ (H.made (U c') hx hge hlt hrec htb rfl)

end
end Mine

namespace Mine
open PySem PySem.W PyProof.Rows PySem.Calls PySem.Spec
section
variable {prog : Program} {w : World} {A : Around} {E : Value → Shared → Prop} {s : Shared} {base : Heap} {os₀ : OsState} {led led' : Led} {env : Env} {e : Addr} {cls : String}

theorem l_append {l : Addr} {vs : List Value} {x : Value} {Q : Value → Shared → Prop} (H : St base os₀ led s) (U : Up l (lstA vs) (lstA (vs ++ [x])) led led') (h : ∀ s', St base os₀ led' s' → Q .none s') (hsz : vs.length ≤ sizeLine := by size_fits) :
    wpAny (model prog w) A (call (.builtin "list.append") [.ref l, x]) Q E s := by
  obtain ⟨o, ho, n, rfl⟩ := H.get U.mem
  exact append_at ho (fun h' hs ho' => h _ (H.upd (tk := s.toks) U hs.extBut ⟨_, ho', n + 1, by rw [List.push_toArray]⟩)) (by rw [List.size_toArray]; exact hsz)

/-- a method of a list, called with one argument -/
theorem l_append_stmt {o a : Expr} {apos pos : Pos} {l : Addr} {pl : Sem Bool} {Q : Value → Shared → Prop}
    (h : wpAny (model prog w) A (eval o env) (fun ov s₁ => ov = .ref l ∧ (∃ ob, s₁.heap.get? l = some ob ∧ ob.cls = .type "list" ∧ ob.dict = none) ∧ wpAny (model prog w) A (eval a env) (fun v s₂ => wpAny (model prog w) A (call (.builtin "list.append") [.ref l, v]) Q E s₂) E s₁) E s)
    (he : eval (.Call (.Attribute o (Str.ofString "append") apos) [a] [] pos) env = (do
      let ov ← eval o env
      standAt apos.atName
      let (f, first) ← holding [ov] (getMethod ov (Str.ofString "append") pl)
      callWith pos f first (backTo pos (starEach [a] env)) (backToKw pos (keywordEach [] env))) := by rfl)
    (ha : starEach [a] env = [(false, eval a env)] := by rfl) :
    wpAny (model prog w) A (eval (.Call (.Attribute o (Str.ofString "append") apos) [a] [] pos) env) Q E s := by
  refine methodCall_KW (pl := pl) (wpAny_mono h (fun ov s₁ h₁ => ?_) fun _ _ x => x) he
  obtain ⟨rfl, ⟨ob, ho, hc, hd⟩, h₁⟩ := h₁
  refine getMethod_list_append ho hc hd ?_
  rw [ha]
  exact callWith_builtin rfl (evalArgs_plain (spliced_cons (wpAny_mono h₁ (fun v s₂ h₂ => spliced_nil h₂) fun _ _ x => x)))
end
end Mine

namespace Mine
open PySem PySem.W PyProof.Rows PySem.Calls PySem.Spec
/-- one entry is taken out of a ledger -/
inductive Pick (a : Addr × Asn) : Led → Led → Prop
  | head {l} : Pick a (a :: l) l
  | tail {b l l'} : Pick a l l' → Pick a (b :: l) (b :: l')
theorem Pick.perm {a : Addr × Asn} {l l' l'' : Led} (h : Pick a l l') (hp : l''.Perm l') : (a :: l'').Perm l := by
  have : (a :: l').Perm l := by
    clear hp
    induction h with
    | head => exact .refl _
    | tail _ ih => exact (List.Perm.swap ..).trans (ih.cons _)
  exact (hp.cons a).trans this
def itA (l : Addr) (i : Nat) : Asn := fun o => o.cls = .type "list_iterator" ∧ o.data = .fields #[.ref l, .int i 0]
section
variable {prog : Program} {w : World} {A : Around} {E : Value → Shared → Prop} {s : Shared} {base : Heap} {os₀ : OsState} {led led' : Led} {env : Env}

theorem item_l {value slice : Expr} {a : Addr} {vs : List Value} {k : Int} {u : Tok} {x : Value} {Q : Value → Shared → Prop} (H : St base os₀ led s) (hm : (a, lstA vs) ∈ led)
    (h0 : 0 ≤ k) (hfit : k < 2 ^ 63) (hx : vs[k.toNat]? = some x) (h : Q x s)
    (hs : subscripted slice false (.ref a) (.int k u) = operate [.ref a, .int k u] (getItem (.ref a) (.int k u)) := by with_unfolding_all rfl) :
    wpAny (model prog w) A (subscriptTail value slice (.ref a) (.int k u)) Q E s :=
  item_listR (H.isList hm) h0 hfit (by simpa using hx) h hs

/-- the loop over a list of the ledger -/
theorem for_turns {R : Result → Shared → Prop} {target : Expr} {body : List Stmt} {I l : Addr} {vs : List Value} (J : Nat → Led → Prop) (hh : A.handled = none)
    (turn : ∀ i v led s E', vs[i]? = some v → J i led → St base os₀ ((I, itA l (i + 1)) :: (l, lstA vs) :: led) s →
      wpAny (model prog w) A (assign target env v) (fun _ s₂ => wpAny (model prog w) A (execs body env) (fun f s₃ => match f with
        | .next | .cont => ∃ led', J (i + 1) led' ∧ St base os₀ ((I, itA l (i + 1)) :: (l, lstA vs) :: led') s₃
        | .brk => R (.ok .next) s₃
        | .ret v => R (.ok (.ret v)) s₃) E' s₂) E' s)
    (fin : ∀ led s, J vs.length led → St base os₀ ((l, lstA vs) :: led) s → R (.ok .next) s)
    (H : St base os₀ ((I, itA l 0) :: (l, lstA vs) :: led) s) (h0 : J 0 led)
    (ht : ∀ v, letOwnedTupleGo target (.ref I) v = pure () := by intro _; rfl) :
    codeAny (model prog w) A (.forLoop target (.ref I) body [] env) R s := by
  refine codeAny_forLoop (fun k s' => ∃ i led', k = vs.length + 1 - i ∧ i ≤ vs.length ∧ J i led' ∧ St base os₀ ((I, itA l i) :: (l, lstA vs) :: led') s') ?_ (vs.length + 1) ⟨0, led, rfl, Nat.zero_le _, h0, H⟩ ht
  rintro k s' ⟨i, led', rfl, hi, hJ, H'⟩
  have hl := H'.isList (vs := vs) (a := l) (.tail _ (.head _))
  obtain ⟨oi, hoi, hic, hid⟩ := H'.get (.head _)
  have hit : s'.heap.IsListIter I l i := ⟨oi, hoi, hic, hid⟩
  by_cases hlt : i < vs.length
  · refine wpAny_pyNext_list_item hit hl (x := vs[i]) (by simp [hlt]) fun h' hit' hs' => ?_
    obtain ⟨oi', hoi', hic', hid'⟩ := hit'
    have H₁ : St base os₀ ((I, itA l (i + 1)) :: (l, lstA vs) :: led') { s' with heap := h' } := H'.upd (tk := s'.toks) .head hs'.extBut ⟨oi', hoi', hic', hid'⟩
    refine wpAny_mono (turn i vs[i] led' _ _ (by simp [hlt]) hJ H₁) (fun _ s₂ h₂ => wpAny_mono h₂ (fun f s₃ h₃ => ?_) fun _ _ x => x) fun _ _ x => x
    cases f with
    | next => obtain ⟨led'', hJ', H''⟩ := h₃; exact ⟨vs.length + 1 - (i + 1), by omega, i + 1, led'', rfl, hlt, hJ', H''⟩
    | cont => obtain ⟨led'', hJ', H''⟩ := h₃; exact ⟨vs.length + 1 - (i + 1), by omega, i + 1, led'', rfl, hlt, hJ', H''⟩
    | brk => exact h₃
    | ret v => exact h₃
  · have hin : i = vs.length := by omega
    subst hin
    refine wpAny_pyNext_list_end hh hit hl (by simp) fun h' he' => wpAny_execs_nil (fin led' _ hJ ?_)
    have H₁ : St base os₀ ((l, lstA vs) :: led') s' := H'.sub (.cons _ (.refl _))
    refine ⟨fun b o e => he' b o (fun q => ?_) (H'.keep b o e), H₁.nd, fun p hp => ?_, H₁.new, H₁.gens, H₁.os⟩
    · have := H'.new _ (.head _)
      simp only at this
      rw [← q, e] at this; cases this
    · obtain ⟨o, ho, hP⟩ := H₁.has p hp
      exact ⟨o, he' _ _ (H'.ne hp) ho, hP⟩

theorem for_list {target iter : Expr} {body : List Stmt} {pos : Pos} {Q : Flow → Shared → Prop} (J : Nat → Led → Prop) (hh : A.handled = none)
    (h : wpAny (model prog w) A (eval iter env) (fun x s₁ => ∃ l vs led, x = .ref l ∧ St base os₀ ((l, lstA vs) :: led) s₁ ∧ J 0 led ∧
      (∀ I i v led s E', vs[i]? = some v → J i led → St base os₀ ((I, itA l (i + 1)) :: (l, lstA vs) :: led) s →
        wpAny (model prog w) A (assign target env v) (fun _ s₂ => wpAny (model prog w) A (execs body env) (fun f s₃ => match f with
          | .next | .cont => ∃ led', J (i + 1) led' ∧ St base os₀ ((I, itA l (i + 1)) :: (l, lstA vs) :: led') s₃
          | .brk => Q .next s₃
          | .ret v => Q (.ret v) s₃) E' s₂) E' s) ∧
      (∀ led s, J vs.length led → St base os₀ ((l, lstA vs) :: led) s → Q .next s)) E s)
    (hs : ∀ x, foldedSetIterable iter env x = pure x := by intro _; rfl)
    (ht : ∀ I v, letOwnedTupleGo target (.ref I) v = pure () := by intro _ _; rfl) :
    wpAny (model prog w) A (exec (.For target iter body [] pos) env) Q E s := by
  refine wpAny_For (wpAny_mono h (fun x s₁ h₁ => ?_) fun _ _ x => x) hs
  obtain ⟨l, vs, led, rfl, H, h0, turn, fin⟩ := h₁
  refine wpAny_pyIter_list (H.isList (.head _)) ?_
  exact for_turns J hh (fun i v led s E' hv hJ H' => turn _ i v led s E' hv hJ H') fin (H.push (tk := s₁.toks) rfl ⟨rfl, rfl⟩) h0 (ht _)

theorem set_item {d : Addr} {kvs : List (Str × Value)} {k : Str} {t : Tok} {v : Value} {Q : Unit → Shared → Prop} (H : St base os₀ led s) (U : Up d (dctA (strKind prog w) kvs) (dctA (strKind prog w) (stored kvs k v)) led led')
    (h : ∀ s', St base os₀ led' s' → Q () s') (hsz : kvs.length ≤ sizeLine := by size_fits) : wpAny (model prog w) A (setItem (.ref d) (.str k t) v) Q E s :=
  wpAny_setItem_pairs (knd := strKind prog w) (strKind_is prog w k t) (H.isDict U.mem) (fun h' hm' hs' => h _ (H.upd U hs'.extBut (dctA_of hm'))) hsz

/-- room for all that the laws do -/
structure Room (prog : Program) (w : World) (A : Around) (base : Heap) : Prop where
  depth : A.depth + 200 < recursionLimit
  units : A.units + 64 < cLine
  handled : A.handled = none
  pylong : ∀ s : Shared, (∀ b o, base.get? b = some o → s.heap.get? b = some o) → PylongRoom (model prog w) A s

theorem i_fdiv {a b : Int} {t u : Tok} {Q : Value → Shared → Prop} (R : Room prog w A base) (H : St base os₀ led s) (hb : b ≠ 0) (h : ∀ t' s', St base os₀ led s' → Q (.int (a.fdiv b) t') s') :
    wpAny (model prog w) A (binaryOp .FloorDiv (.int a t) (.int b u)) Q E s :=
  PyProof.Rows.floordiv_int hb (h _ _ H.tok) (.inr (R.pylong s H.keep))
theorem i_mod {a b : Int} {t u : Tok} {Q : Value → Shared → Prop} (H : St base os₀ led s) (hb : b ≠ 0) (h : ∀ t' s', St base os₀ led s' → Q (.int (a.fmod b) t') s') :
    wpAny (model prog w) A (binaryOp .Mod (.int a t) (.int b u)) Q E s :=
  PyProof.Rows.mod_int hb (h _ _ H.tok)

/-! equality in one world -/
def EqW (prog : Program) (w : World) (A : Around) (s : Shared) (x y : Value) (b : Bool) : Prop :=
  ∀ (E : Value → Shared → Prop) (Q : Bool → Shared → Prop), Q b s → wpAny (model prog w) A (eqBool x y) Q E s
theorem EqW.self (v : Value) : EqW prog w A s v v true := fun E Q h => SeqAt.EqAt.same v prog w E Q h
theorem EqW.of {x y : Value} {b : Bool} (h : SeqAt.EqAt A s x y b) : EqW prog w A s x y b := fun E Q hq => h prog w E Q hq
theorem EqW.refs {l b : Addr} {k : Bool} (hne : l ≠ b) (h : ∀ (E : Value → Shared → Prop) (Q : Value → Shared → Prop), Q (.bool k) s → wpAny (model prog w) A (richCompare .Eq (.ref l) (.ref b)) Q E s) : EqW prog w A s (.ref l) (.ref b) k := fun E Q hq => by
  unfold eqBool
  refine wpAny_holding ?_
  refine wpAny_ite_split (fun hab => absurd (by have := eq_of_beq hab; injection this) hne) (fun _ => ?_)
  exact wpAny_bind (h E _ (wpAny_truthy_bool hq))
end
end Mine

namespace Mine
open PySem PySem.W PyProof.Rows PySem.Calls PySem.Spec
open AutoSeq1 (wpAny_loadPart')
section
variable {prog : Program} {w : World} {A : Around} {E : Value → Shared → Prop} {s : Shared} {base : Heap} {os₀ : OsState} {led led' : Led} {env : Env}

theorem tup_eq_same {t u : Addr} {vs us : List Value} {Q : Value → Shared → Prop} (ht : IsTup s.heap t vs.toArray) (hu : IsTup s.heap u us.toArray) (hlen : vs.length = us.length) (hur : A.units < cLine)
    (he : ∀ p ∈ vs.zip us, EqW prog w A.in1 s p.1 p.2 true) (h : Q (.bool true) s) : wpAny (model prog w) A (richCompare .Eq (.ref t) (.ref u)) Q E s := by
  obtain ⟨⟨cls, dd, data, sl⟩, ho, hc, n, hd⟩ := ht
  obtain ⟨⟨cls2, dd2, data2, sl2⟩, ho2, hc2, n2, hd2⟩ := hu
  simp only at hc hd hc2 hd2
  subst hc hd hc2 hd2
  have hT : s.TypeIs (.ref t) "tuple" := ⟨_, ho, rfl⟩
  refine wpAny_richCompare_same_room (op := .Eq) hT ⟨_, ho2, rfl⟩ PySem.F.slot_tuple_eq (wpAny_call_entry PySem.F.slot_tuple_eq hT PySem.F.entry_tuple_eq ?_ (PySem.F.args_tuple_eq_2 _ _)) hur
  obtain ⟨hp, g, d, tk, os⟩ := s
  have f2 := AutoSeq1.sub_tuple_tuple
  wp_walk using wpAny_loadPart' ho, wpAny_loadPart' ho2, wpAny_forIn_list _ (fun rest b s' => b.1 = none ∧ s' = ⟨hp, g, d, tk, os⟩ ∧ ∀ p ∈ rest, EqW prog w A.in1 ⟨hp, g, d, tk, os⟩ p.1 p.2 true) _
  case turn =>
    rintro ⟨y, x⟩ rest b s' ⟨hb', rfl, hz⟩
    refine wpAny_bind (hz (y, x) (.head _) _ _ ?_)
    wp_walk
    exact ⟨rfl, rfl, fun p hp => hz p (.tail _ hp)⟩
  case fin =>
    rintro ⟨b1, b2⟩ s' ⟨hb', rfl, hz⟩
    simp only at hb'
    subst hb'
    wp_walk
    exact ⟨_, rfl, (fun x => nomatch x), by simpa [Builtin.Tuple.tupleCompareSizes, hlen] using h⟩
  case h =>
    exact ⟨rfl, rfl, he⟩
theorem EqW.tups {t u : Addr} {vs us : List Value} (hne : t ≠ u) (ht : IsTup s.heap t vs.toArray) (hu : IsTup s.heap u us.toArray) (hlen : vs.length = us.length) (hur : A.units < cLine)
    (he : ∀ p ∈ vs.zip us, EqW prog w A.in1 s p.1 p.2 true) : EqW prog w A s (.ref t) (.ref u) true := EqW.refs hne fun E Q hq => tup_eq_same ht hu hlen hur he hq

/-- the loop of the comparison of two lists of one length -/
theorem list_loop_same {l b : Addr} {vs us : List Value} {n n2 : Nat} {dd dd2 : Option Addr} {sl sl2 : Array (Option Value)} {R : Result → Shared → Prop} {op : Int} {r : Bool} (hop : op = 2 ∧ r = true ∨ op = 3 ∧ r = false) (hlen : vs.length = us.length)
    (ho : s.heap.get? l = some { cls := .type "list", dict := dd, data := .seq vs.toArray n, slots := sl }) (ho2 : s.heap.get? b = some { cls := .type "list", dict := dd2, data := .seq us.toArray n2, slots := sl2 })
    (he : ∀ p ∈ vs.zip us, EqW prog w A.in1 s p.1 p.2 true) (h : R (.ok (.ret (.bool r))) s) :
    ∀ k i : Nat, vs.length - i = k → codeAny (model prog w) A (.builtin "list.__eq__.loop" ⟨[.ref l, .ref b, rawInt i, rawInt op], []⟩) R s := by
  intro k
  induction k with
  | zero =>
    intro i hk
    refine codeAny_builtin MeetsSeq3.entry_eq_loop ?_
    rw [Around.under_plainId MeetsSeq3.plain_eq_loop _]
    obtain ⟨hp, g, d, tk, os⟩ := s
    have hi1 : vs.toArray[((i : Nat) : Int).toNat]? = none := by simp; omega
    have hi2 : us.toArray[((i : Nat) : Int).toNat]? = none := by simp; omega
    rcases hop with ⟨rfl, rfl⟩ | ⟨rfl, rfl⟩
    · wp_walk using wpAny_loadPart' ho, wpAny_loadPart' ho2
      rw [hi1, hi2]
      wp_walk using wpAny_loadPart' ho, wpAny_loadPart' ho2
      show R (.ok (.ret (.bool (vs.toArray.size == us.toArray.size)))) _
      simpa [hlen] using h
    · wp_walk using wpAny_loadPart' ho, wpAny_loadPart' ho2
      rw [hi1, hi2]
      wp_walk using wpAny_loadPart' ho, wpAny_loadPart' ho2
      show R (.ok (.ret (.bool (vs.toArray.size != us.toArray.size)))) _
      simpa [hlen] using h
  | succ k ih =>
    intro i hk
    refine codeAny_builtin MeetsSeq3.entry_eq_loop ?_
    rw [Around.under_plainId MeetsSeq3.plain_eq_loop _]
    have hlt : i < vs.length := by omega
    have hlt2 : i < us.length := by omega
    have hi1 : vs.toArray[((i : Nat) : Int).toNat]? = some vs[i] := by simp [hlt]
    have hi2 : us.toArray[((i : Nat) : Int).toNat]? = some us[i] := by simp [hlt2]
    have hc : ((i : Int) + 1) = ((i + 1 : Nat) : Int) := by push_cast; rfl
    have hz : EqW prog w A.in1 s vs[i] us[i] true := he (vs[i], us[i]) (List.mem_of_getElem? (i := i) (by simp [List.getElem?_zip_eq_some, hlt, hlt2]))
    have hn := ih (i + 1) (by omega)
    obtain ⟨hp, g, d, tk, os⟩ := s
    rcases hop with ⟨rfl, rfl⟩ | ⟨rfl, rfl⟩
    · wp_walk using wpAny_loadPart' ho, wpAny_loadPart' ho2
      rw [hi1, hi2]
      refine wpAny_bind (hz _ _ ?_)
      wp_walk
      rw [hc]
      exact ⟨plainId_quiet MeetsSeq3.plain_eq_loop _, hn⟩
    · wp_walk using wpAny_loadPart' ho, wpAny_loadPart' ho2
      rw [hi1, hi2]
      refine wpAny_bind (hz _ _ ?_)
      wp_walk
      rw [hc]
      exact ⟨plainId_quiet MeetsSeq3.plain_eq_loop _, hn⟩
end
end Mine

namespace Mine
open PySem PySem.W PyProof.Rows PySem.Calls PySem.Spec
/-- an iterator in the ledger -/
structure Iter (prog : Program) (w : World) (A : Around) (base : Heap) (os₀ : OsState) (I : Addr) (n : Nat) (P : Nat → Value → Prop) (itP : Nat → Asn) (side : Led) : Prop where
  item : ∀ i led s (Q : Option Value → Shared → Prop) (E : Value → Shared → Prop), i < n → St base os₀ ((I, itP i) :: (side ++ led)) s → (∀ v s', P i v → St base os₀ ((I, itP (i + 1)) :: (side ++ led)) s' → Q (some v) s') → wpAny (model prog w) A (pyNext (.ref I)) Q E s
  done : ∀ led s (Q : Option Value → Shared → Prop) (E : Value → Shared → Prop), St base os₀ ((I, itP n) :: (side ++ led)) s → (∀ s', St base os₀ (side ++ led) s' → Q none s') → wpAny (model prog w) A (pyNext (.ref I)) Q E s
  self : ∀ led s (Q : Value → Shared → Prop) (E : Value → Shared → Prop), St base os₀ ((I, itP 0) :: (side ++ led)) s → Q (.ref I) s → wpAny (model prog w) A (pyIter (.ref I)) Q E s
section
variable {prog : Program} {w : World} {A : Around} {E : Value → Shared → Prop} {s : Shared} {base : Heap} {os₀ : OsState} {led led' : Led} {env : Env} {I l : Addr} {vs : List Value}

theorem St.gone {P : Asn} (H : St base os₀ ((I, P) :: led) s) {h' : Heap} {tk : Nat} (he : ∀ b o, b ≠ I → s.heap.get? b = some o → h'.get? b = some o) : St base os₀ led { s with heap := h', toks := tk } where
  keep := fun b o e => he b o (fun q => by have := H.new _ (.head _); simp only at this; rw [← q, e] at this; cases this) (H.keep b o e)
  nd := (H.sub (.cons _ (.refl _))).nd
  has := fun p hp => by obtain ⟨o, ho, hP⟩ := H.has p (.tail _ hp); exact ⟨o, he _ _ (H.ne hp) ho, hP⟩
  new := fun p hp => H.new p (.tail _ hp)
  gens := H.gens
  os := H.os

def rngA (n i : Nat) : Asn := fun o => o = { cls := .type "range_iterator", dict := none, data := .fields #[rawInt (0 + (i : Nat) * 1), rawInt ((n : Int) - (i : Nat)), rawInt 1], slots := #[] }
theorem Iter.range {n : Nat} (hh : A.handled = none) : Iter prog w A base os₀ I n (fun i v => ∃ t, v = .int i t) (rngA n) [] where
  item := fun i led s Q E hi H h => by
    obtain ⟨oi, hoi, rfl⟩ := H.get (.head _)
    refine (Walks.range (prog := prog) (w := w) hh I 0 1 n).item i s Q E hi hoi fun v h' tk hv hit hk => h v _ ?_ ?_
    · obtain ⟨t, rfl⟩ := hv; exact ⟨t, by congr 1; omega⟩
    · exact H.upd .head (fun b o hb e => hk b o (by simpa using hb) e) ⟨_, hit, rfl⟩
  done := fun led s Q E H h => by
    obtain ⟨oi, hoi, rfl⟩ := H.get (.head _)
    exact (Walks.range (prog := prog) (w := w) hh I 0 1 n).done s Q E hoi fun h' tk hk => h _ (H.gone (fun b o hb e => hk b o (by simpa using hb) e))
  self := fun led s Q E H h => by
    obtain ⟨oi, hoi, rfl⟩ := H.get (.head _)
    exact (Walks.range (prog := prog) (w := w) hh I 0 1 n).self 0 s Q E hoi h

theorem r_new {n : Nat} {t : Tok} {Q : Value → Shared → Prop} (H : St base os₀ led s) (h : ∀ r s', (∃ t1 t2, St base os₀ ((r, objA { cls := .type "range", data := .fields #[.int 0 t1, .int n t, .int 1 t2] }) :: led) s') → Q (.ref r) s') :
    wpAny (model prog w) A (call (.type "range") [.int n t]) Q E s := call_range_1 (h _ _ ⟨_, _, H.push (tk := s.toks + 1 + 1) rfl rfl⟩)
theorem r_iter {r : Addr} {n : Nat} {t1 t t2 : Tok} {Q : Value → Shared → Prop} (hn : (n : Int) < 2 ^ 62) (H : St base os₀ ((r, objA { cls := .type "range", data := .fields #[.int 0 t1, .int n t, .int 1 t2] }) :: led) s)
    (h : ∀ I s', St base os₀ ((I, rngA n 0) :: led) s' → Q (.ref I) s') : wpAny (model prog w) A (pyIter (.ref r)) Q E s := by
  obtain ⟨o, ho, rfl⟩ := H.get (.head _)
  refine wpAny_pyIter_range ho (small_one (by decide) (by decide) (by omega) hn) (h _ _ ?_)
  have e : Builtin.Range.rangeSize 0 n 1 = (n : Int) := by rw [rangeSize_one]; split <;> omega
  rw [e]
  refine (H.push (tk := s.toks) (P := rngA n 0) rfl ?_).sub (.cons_cons _ (.cons _ (.refl _)))
  show _ = _
  simp
end
end Mine

namespace Mine
open PySem PySem.W PyProof.Rows PySem.Calls PySem.Spec
theorem St.grown {base : Heap} {os₀ : OsState} {led : Led} {s : Shared} (H : St base os₀ led s) {h' : Heap} {tk : Nat} (hx : Heap.ExtBut s.heap.objs.size s.heap h') : St base os₀ led { s with heap := h', toks := tk } :=
  H.ext fun b o e => hx b o (Nat.ne_of_lt (Heap.lt_size e)) e
section
variable {prog : Program} {w : World} {A : Around} {E : Value → Shared → Prop} {s : Shared} {base : Heap} {os₀ : OsState} {led tl : Led} {m : Str → Option Value} {a : Addr} {vs : List Value}
theorem St.push2 (H : St base os₀ led s) {tk : Nat} {o₁ o : Obj} {P : Asn} (hf₁ : o₁.isFreed = false) (hf : o.isFreed = false) (hp : P o) : St base os₀ ((s.heap.objs.size + 1, P) :: led) { s with heap := (s.heap.push o₁).push o, toks := tk } := by
  have H₁ := H.push (tk := tk) (P := fun _ => True) hf₁ trivial
  have H₂ := H₁.push (tk := tk) (P := P) hf hp
  have e : (s.heap.push o₁).objs.size = s.heap.objs.size + 1 := Heap.size_push ..
  simp only [e] at H₂
  exact H₂.sub (.cons_cons _ (.cons _ (.refl _)))
def AllInt (vs : List Value) : Prop := ∀ v ∈ vs, ∃ n t, v = Value.int n t
theorem l_add {l b : Addr} {vs us : List Value} {Q : Value → Shared → Prop} (H : St base os₀ led s) (h1 : (l, lstA vs) ∈ led) (h2 : (b, lstA us) ∈ led) (hsz : vs.length + us.length ≤ sizeLine)
    (h : ∀ r s', St base os₀ ((r, lstA (vs ++ us)) :: led) s' → Q (.ref r) s') : wpAny (model prog w) A (binaryOp .Add (.ref l) (.ref b)) Q E s := by
  obtain ⟨o, ho, n, rfl⟩ := H.get h1
  obtain ⟨o', ho', n', rfl⟩ := H.get h2
  exact PySem.P.add_list ho ho' (h _ _ (H.push (tk := s.toks) rfl ⟨0, by simp⟩)) (by simpa using hsz)
theorem l_set {l : Addr} {vs : List Value} {k : Int} {t : Tok} {v : Value} {led' : Led} {Q : Unit → Shared → Prop} (H : St base os₀ led s) (U : Up l (lstA vs) (lstA (vs.set k.toNat v)) led led') (h0 : 0 ≤ k) (hfit : k < 2 ^ 63) (hn : k < vs.length)
    (h : ∀ s', St base os₀ led' s' → Q () s') : wpAny (model prog w) A (setItem (.ref l) (.int k t) v) Q E s := by
  obtain ⟨o, ho, n, rfl⟩ := H.get U.mem
  refine ki_setAt (n := n) ho h0 hfit (by simpa using hn) (h _ (H.upd (tk := s.toks) U (Heap.SameBut.update ..).extBut ?_))
  have := PySem.IsL.update (n := n) ho (·.setIfInBounds k.toNat v)
  simp only [List.setIfInBounds_toArray] at this
  exact ⟨_, this, _, rfl⟩
end
theorem allInt_of {vs : List Value} {ns : List Int} (h : IntsAre vs ns) : AllInt vs ∧ vs.length = ns.length := by
  induction h with
  | nil => exact ⟨fun v hv => (by cases hv), rfl⟩
  | cons n t _ ih =>
    refine ⟨fun v hv => ?_, by simp [ih.2]⟩
    rcases List.mem_cons.mp hv with rfl | hv
    · exact ⟨n, t, rfl⟩
    · exact ih.1 v hv
theorem good_true {l : OpenLaw} {cl : Str → Option Addr} {mean : ExcName → Option Value} {args : List WData} {s₁ s' : Shared} (hk : ∀ b o, s₁.heap.get? b = some o → s'.heap.get? b = some o) (ho : s'.os = s₁.os) (hg : s'.gens = #[]) :
    GoodW l.row.claim cl mean args s₁ (.ok (.ret (.bool true))) s' :=
  ⟨.inl ⟨.bool true, .bool true, [], rfl, fun _ => rfl, .bool true, by with_unfolding_all rfl, fun _ => ⟨.nil, fun a h => by cases h⟩⟩, hk, ho, hg⟩
theorem ghost_seer {h₁ : Heap} {tabs : List (Addr × Addr)} (hT : TabsAt tabs h₁) (S : h₁.NoSeer) : (ghostOf h₁ tabs).NoSeer := by
  obtain ⟨⟨mc, x1, r1⟩, ⟨mm, x2, r2⟩, ⟨mb, x3, r3⟩, ⟨mg, bm, ob, x4, r4, x5, r5, r6⟩⟩ := S
  exact ⟨⟨mc, ghost_ns hT x1, r1⟩, ⟨mm, ghost_ns hT x2, r2⟩, ⟨mb, ghost_ns hT x3, r3⟩, ⟨mg, bm, ob, ghost_ns hT x4, r4, ghost_get hT x5 (fun e => by rw [e] at r5; cases r5), r5, r6⟩⟩
theorem gr_of {p : Program} {loose : List Str} {mean : ExcName → Option Value} {mg mb : Str → Option Value} {h : Heap} (T : Top p loose mean mg mb h) (S : h.NoSeer) : Gr h mg mb := by
  obtain ⟨mm, ⟨o, es, ep, ho, _⟩, _⟩ := S.mods
  exact ⟨T.g, T.b, T.nolimit, ⟨o, ho⟩, T.bmain⟩
theorem room_of {prog : Program} {w : World} {base : Heap} {env : Env} {p : Program} {loose : List Str} {mean : ExcName → Option Value} {mg mb : Str → Option Value} (T : Top p loose mean mg mb base) (S : base.NoSeer) (ht : prog.given.tree = none) (h1 : env.scope.isGenerator = false) (h2 : env.scope.isCoroutine = false) (h3 : env.builtins = builtinsNs) (h4 : env.globals = mainGlobals) : Room prog w (callerA.deeper env) base where
  depth := of_decide_eq_true (by with_unfolding_all rfl)
  units := of_decide_eq_true (by with_unfolding_all rfl)
  handled := rfl
  pylong := fun s hk => PylongRoom.of (T.nolimit.keeps hk) (of_decide_eq_true (by with_unfolding_all rfl)) (PySem.SeerAt.of (S.keeps hk) ht rfl h1 h2 h3 h4)
end Mine

namespace Mine
open PySem PySem.W PyProof.Rows PySem.Calls PySem.Spec
section
variable {prog : Program} {w : World} {A : Around} {E : Value → Shared → Prop} {s : Shared} {base : Heap} {os₀ : OsState} {led led' : Led} {env : Env} {I l : Addr} {vs : List Value}
end
end Mine

namespace Mine
open PySem PySem.W PyProof.Rows PySem.Calls PySem.Spec
/-! sorting a few pairs by their first text -/
def kev {α : Type} : KasT α → (Nat → Nat → Bool) → α
  | .ret a, _ => a
  | .ask i j k, lt => kev (k (lt i j)) lt
def kok {α : Type} (n : Nat) : KasT α → (Nat → Nat → Bool) → Bool
  | .ret _, _ => true
  | .ask i j k, lt => decide (i < n) && decide (j < n) && kok n (k (lt i j)) lt
theorem kev_wp {α : Type} {cmp : Nat → Nat → (Bool → Shared → Prop) → Shared → Prop} {n : Nat} {lt : Nat → Nat → Bool} {s : Shared} (hc : ∀ i j C, i < n → j < n → C (lt i j) s → cmp i j C s) {G : α → Shared → Prop} :
    ∀ t : KasT α, kok n t lt = true → G (kev t lt) s → t.kasWp cmp G s
  | .ret _, _, h => h
  | .ask i j k, hk, h => by
    simp only [kok, Bool.and_eq_true, decide_eq_true_eq] at hk
    exact hc i j _ hk.1.1 hk.1.2 (kev_wp hc (k (lt i j)) hk.2 h)
def rankLt (rs : List Nat) (i j : Nat) : Bool := decide (rs.getD i 9 < rs.getD j 9)
def rankings : List (List Nat) :=
  let two := (List.range 4).flatMap fun a => (List.range 4).filterMap fun b => if a = b then none else some [a, b]
  let three := two.flatMap fun l => (List.range 4).filterMap fun c => if l.contains c then none else some (l ++ [c])
  let four := three.flatMap fun l => (List.range 4).filterMap fun c => if l.contains c then none else some (l ++ [c])
  two ++ three ++ four
/-- the orders in which some of four may stand -/
def allRanks : List (List Nat) := [] :: (List.range 4).map (fun a => [a]) ++ rankings
theorem ranks_sorts : ∀ rs ∈ allRanks, (2 ≤ rs.length → kok rs.length (kas_sort rs.length) (rankLt rs) = true) ∧ ((if rs.length < 2 then List.range rs.length else (kev (kas_sort rs.length) (rankLt rs)).toList).map fun i => rs.getD i 9) = (List.range 4).filter rs.contains := by decide +kernel
theorem ranks_lt : ∀ rs ∈ allRanks, (∀ r ∈ rs, r < 4) ∧ rs.Nodup ∧ rs.length ≤ 4 := by decide +kernel
theorem ranks_add : ∀ rs ∈ allRanks, ∀ k ∈ List.range 4, rs.contains k = false → rs ++ [k] ∈ allRanks := by decide +kernel
theorem ranks_del : ∀ rs ∈ allRanks, ∀ k ∈ List.range 4, rs.erase k ∈ allRanks := by decide +kernel
section
variable {prog : Program} {w : World} {A : Around} {E : Value → Shared → Prop} {s : Shared} {base : Heap} {os₀ : OsState} {led : Led}

def sortOut (vs : List Value) (lt : Nat → Nat → Bool) : List Value := if vs.length < 2 then vs else (kev (kas_sort vs.length) lt).toList.map fun i => vs.getD i Value.none
theorem sort_body {a : Addr} {vs fs : List Value} {n : Nat} {lt : Nat → Nat → Bool} {P : PySem.Fin → Shared → Prop} (ho : s.heap.get? a = some (seqObj "list" vs.toArray n)) (h64 : vs.length < 64) (hfl : fs.length = vs.length) (hfs : ∀ v ∈ fs, ∃ x t, v = Value.str x t)
    (hk : ∀ h', (∀ b o, b ≠ a → s.heap.get? b = some o → h'.get? b = some o) → KatTups h' vs fs ∧ ∀ i j C, i < vs.length → j < vs.length → C (lt i j) { s with heap := h' } → wpAny (model prog w) A (keyLt' (tuples' true) (vs.getD i Value.none) (vs.getD j Value.none)) C (fun _ _ => False) { s with heap := h' })
    (hok : 2 ≤ vs.length → kok vs.length (kas_sort vs.length) lt = true)
    (hP : ∀ h' c, (∀ b o, b ≠ a → s.heap.get? b = some o → h'.get? b = some o) → h'.get? a = some (seqObj "list" (sortOut vs lt).toArray c) → P (.done (.ret .none)) { s with heap := h' }) :
    wpAny (model prog w) A (Builtin.«list.sort» ⟨[.ref a], []⟩) P E s := by
  have ha : a < s.heap.objs.size := Heap.lt_size ho
  have s1 := Heap.SameBut.update s.heap a (Obj.mapSeq fun _ => (#[] : Array Value))
  obtain ⟨e1, ho1⟩ : ∃ e1, (s.heap.update a (Obj.mapSeq fun _ => (#[] : Array Value))).get? a = some (seqObj "list" #[] e1) := ⟨_, get?_update_seq ho fun _ => #[]⟩
  rw [list_sort_plain]
  refine wpAny_bind (listItems_at ho rfl ?_)
  refine wpAny_bind (listUpdate_at ho rfl ?_ (by rw [List.size_toArray, sizeLine_eq]; omega) (Nat.zero_le _))
  refine wpAny_bind (seqEpoch_at ho1 rfl ?_)
  refine wpAny_bind (wpAny_newTuple ?_ (by show vs.length ≤ _; rw [sizeLine_eq]; omega))
  refine wpAny_bind (wpAny_newList ?_ (Nat.zero_le _))
  refine wpAny_holding ?_
  show wpAny (model prog w) A _ P E { s with heap := ((s.heap.update a (Obj.mapSeq fun _ => (#[] : Array Value))).push (seqObj "tuple" vs.toArray 0)).push (seqObj "list" #[] 0) }
  dsimp only
  have keep : ∀ b o, b ≠ a → s.heap.get? b = some o → (((s.heap.update a (Obj.mapSeq fun _ => (#[] : Array Value))).push (seqObj "tuple" vs.toArray 0)).push (seqObj "list" #[] 0)).get? b = some o := fun b o hb e =>
    Heap.get?_push_of_some _ (Heap.get?_push_of_some _ (s1.extBut b o hb e))
  have hoA : (((s.heap.update a (Obj.mapSeq fun _ => (#[] : Array Value))).push (seqObj "tuple" vs.toArray 0)).push (seqObj "list" #[] 0)).get? a = some (seqObj "list" #[] e1) := Heap.get?_push_of_some _ (Heap.get?_push_of_some _ ho1)
  generalize ((s.heap.update a (Obj.mapSeq fun _ => (#[] : Array Value))).push (seqObj "tuple" vs.toArray 0)).push (seqObj "list" #[] 0) = H at keep hoA ⊢
  have fin : ∀ (out : List Value) (st : SortSt), out.length ≤ 64 → (arrOf st).map (·.2) = out.toArray → failedOf st = none → out = sortOut vs lt → wpAny (model prog w) A (do
      let touched := (← seqEpoch a) != e1
      Builtin.List.listUpdate (.ref a) fun _ => (arrOf st).map (·.2)
      if let some e := failedOf st then rule "list.sort.comparison-raised"; throw e
      if touched then rule "list.sort.modified"; raiseError "ValueError" "list modified during sort"
      ret .none) P E { s with heap := H } := fun out st hlen hout hf he => by
    subst he
    rw [hout]
    refine wpAny_bind (seqEpoch_at hoA rfl ?_)
    refine wpAny_bind (listUpdate_at hoA rfl ?_ (Nat.zero_le _) (by rw [List.size_toArray, sizeLine_eq]; omega))
    rw [hf]
    simp only [bne_self_eq_false, Bool.false_eq_true, if_false]
    have s2 := Heap.SameBut.update H a (Obj.mapSeq fun _ => (sortOut vs lt).toArray)
    exact wpAny_pure (hP _ _ (fun b o hb e => s2.extBut b o hb (keep b o hb e)) (get?_update_seq hoA fun _ => (sortOut vs lt).toArray))
  by_cases h2 : 2 ≤ vs.length
  · have hn2 : ¬ vs.toArray.size < 2 := by rw [List.size_toArray]; omega
    rw [if_neg hn2, if_neg hn2]
    obtain ⟨t, hcmp⟩ := hk H keep
    refine wpAny_bind (kat_kind (T := .type "str") t (by omega) (fun v hv => ?_) (by decide) ?_)
    · obtain ⟨x, t, rfl⟩ := hfs v hv
      exact Looks.of_pure rfl
    refine wpAny_bind (wpAny_mono (kat_run (Q := fun st' s' => s' = { s with heap := H } ∧ ∃ p : Array Nat, p = kev (kas_sort vs.length) lt ∧ p.size = vs.length ∧ arrOf st' = p.map (kas_item (vs.toArray.zip vs.toArray)) ∧ failedOf st' = none) (G := fun p s' => s' = { s with heap := H } ∧ p = kev (kas_sort vs.length) lt)
      rfl h2 h64 (fun p' st' s' a1 a2 a3 a4 => ⟨a4.1, p', a4.2, a1, a2, a3⟩) (kev_wp (n := vs.length) (lt := lt) (fun i j C hi hj hC => hcmp i j C hi hj hC) _ (hok h2) ⟨rfl, rfl⟩)) ?_ fun _ _ e => e)
    rintro ⟨⟨⟩, st'⟩ s' ⟨rfl, p, hp, hsz, har, hf⟩
    dsimp only
    refine fin (p.toList.map fun i => vs.getD i Value.none) st' (by rw [List.length_map, Array.length_toList, hsz]; omega) (kat_snds rfl har) hf ?_
    unfold sortOut
    rw [if_neg (by omega), hp]
  · have hn2 : vs.toArray.size < 2 := by rw [List.size_toArray]; omega
    rw [if_pos hn2, if_pos hn2]
    refine wpAny_bind (wpAny_pure (wpAny_bind (wpAny_pure ?_)))
    dsimp only
    refine fin vs _ (by omega) ?_ rfl (by unfold sortOut; rw [if_pos (by omega)])
    show (vs.toArray.zip vs.toArray).map (·.2) = vs.toArray
    apply Array.toList_inj.mp
    simp [List.map_snd_zip]
end
end Mine

namespace Mine
open PySem PySem.W PyProof.Rows PySem.Calls PySem.Spec
/-- a pair that a dict's items gave: where it stands, the key, its token, the value -/
abbrev Tup2 := Addr × Str × Tok × Value
abbrev tupLed (tl : List Tup2) : Led := tl.map fun x => (x.1, tupA [.str x.2.1 x.2.2.1, x.2.2.2])
theorem valueAt_get {K : Type} [DecidableEq K] : ∀ {kvs : List (K × Value)} {j : Nat} {k : K} {v : Value}, (kvs.map (·.1)).Nodup → kvs[j]? = some (k, v) → valueAt kvs k = some v
  | [], _, _, _, _, h => by simp at h
  | (k', v') :: r, 0, k, v, _, h => by
    simp only [List.getElem?_cons_zero, Option.some.injEq, Prod.mk.injEq] at h
    obtain ⟨rfl, rfl⟩ := h
    simp [valueAt]
  | (k', v') :: r, j + 1, k, v, hn, h => by
    simp only [List.map_cons, List.nodup_cons] at hn
    simp only [List.getElem?_cons_succ] at h
    have hm : k ∈ r.map (·.1) := List.mem_map_of_mem (f := (·.1)) (List.mem_of_getElem? h)
    have : k' ≠ k := fun e => hn.1 (e ▸ hm)
    have ih := valueAt_get hn.2 h
    simp only [valueAt] at ih ⊢
    rw [List.find?_cons_of_neg (by simpa using this)]
    exact ih
section
variable {prog : Program} {w : World} {A : Around} {E : Value → Shared → Prop} {s : Shared} {base : Heap} {os₀ : OsState} {led : Led}

theorem St.tups : ∀ (tl : List Tup2) {h' : Heap} {tk : Nat}, St base os₀ led s → (∀ b o, s.heap.get? b = some o → h'.get? b = some o) → (tl.map (·.1)).Pairwise (· < ·) → (∀ x ∈ tl, s.heap.objs.size ≤ x.1 ∧ h'.get? x.1 = some { cls := .type "tuple", data := .seq #[.str x.2.1 x.2.2.1, x.2.2.2] }) →
    St base os₀ (tupLed tl ++ led) { s with heap := h', toks := tk } := by
  intro tl h' tk H hk hr hx
  refine ⟨fun b o e => hk b o (H.keep b o e), ?_, fun p hp => ?_, fun p hp => ?_, H.gens, H.os⟩
  · rw [List.map_append, List.nodup_append]
    refine ⟨?_, H.nd, ?_⟩
    · rw [List.map_map]
      exact (List.pairwise_map.mp hr).imp (fun h => Nat.ne_of_lt h) |> List.pairwise_map.mpr
    · intro a ha b hb e
      subst e
      rw [List.map_map] at ha
      obtain ⟨x, hx', rfl⟩ := List.mem_map.mp ha
      obtain ⟨q, hq, e⟩ := List.mem_map.mp hb
      obtain ⟨o, ho, _⟩ := H.has q hq
      have h1 := Heap.lt_size ho
      have h2 := (hx x hx').1
      rw [e] at h1
      exact absurd h1 (Nat.not_lt.mpr h2)
  · rcases List.mem_append.mp hp with hp | hp
    · obtain ⟨x, hx', rfl⟩ := List.mem_map.mp hp
      exact ⟨_, (hx x hx').2, 0, rfl⟩
    · obtain ⟨o, ho, q⟩ := H.has p hp; exact ⟨o, hk _ _ ho, q⟩
  · rcases List.mem_append.mp hp with hp | hp
    · obtain ⟨x, hx', rfl⟩ := List.mem_map.mp hp
      exact H.newAt (hx x hx').1
    · exact H.new p hp

/-- what the collecting gave, as rows -/
theorem rows_of {kvs : List (Str × Value)} {lo : Addr} {h : Heap} {as : List Addr} (g : KdxG (strKind prog w) kvs lo h as) (hl : as.length = kvs.length) :
    ∃ tl : List Tup2, tl.map (·.1) = as ∧ tl.map (fun x => (x.2.1, x.2.2.2)) = kvs ∧ ∀ x ∈ tl, h.get? x.1 = some { cls := .type "tuple", data := .seq #[.str x.2.1 x.2.2.1, x.2.2.2] } := by
  have key : ∀ (as : List Addr) (kvs : List (Str × Value)), as.length = kvs.length → (∀ (j : Nat) (a : Addr), as[j]? = some a → ∃ key k x, kvs[j]? = some (k, x) ∧ (strKind prog w).is k key = true ∧ h.get? a = some { cls := .type "tuple", data := .seq #[key, x] }) →
      ∃ tl : List Tup2, tl.map (·.1) = as ∧ tl.map (fun x => (x.2.1, x.2.2.2)) = kvs ∧ ∀ x ∈ tl, h.get? x.1 = some { cls := .type "tuple", data := .seq #[.str x.2.1 x.2.2.1, x.2.2.2] } := by
    intro as
    induction as with
    | nil =>
      intro kvs hl _
      cases kvs with
      | nil => exact ⟨[], rfl, rfl, fun x hx => by cases hx⟩
      | cons _ _ => simp at hl
    | cons a r ih =>
      intro kvs hl hp
      cases kvs with
      | nil => simp at hl
      | cons kv kr =>
        obtain ⟨key, k, x, e1, e2, e3⟩ := hp 0 a rfl
        simp only [List.getElem?_cons_zero, Option.some.injEq] at e1
        subst e1
        obtain ⟨t, rfl⟩ := Value.isStrOf_shape e2
        obtain ⟨tl, h1, h2, h3⟩ := ih kr (by simpa using hl) fun j b hb => hp (j + 1) b (by simpa using hb)
        exact ⟨(a, k, t, x) :: tl, by simp [h1], by simp [h2], fun y hy => by
          rcases List.mem_cons.mp hy with rfl | hy
          · exact e3
          · exact h3 y hy⟩
  exact key as kvs hl g.pairs

theorem katTups_of {h : Heap} : ∀ (tl : List Tup2), (∀ x ∈ tl, ∃ n, h.get? x.1 = some { cls := .type "tuple", data := .seq #[.str x.2.1 x.2.2.1, x.2.2.2] n }) → KatTups h (tl.map fun x => Value.ref x.1) (tl.map fun x => Value.str x.2.1 x.2.2.1)
  | [], _ => KatTups.nil
  | x :: r, hx => let ⟨_, e⟩ := hx x (.head _); KatTups.cons e rfl rfl rfl (katTups_of r fun y hy => hx y (.tail _ hy))
theorem pair_lt {x y : Tup2} {lt : Bool} {C : Bool → Shared → Prop} {n k : Nat} (hx : s.heap.get? x.1 = some { cls := .type "tuple", data := .seq #[.str x.2.1 x.2.2.1, x.2.2.2] n }) (hy : s.heap.get? y.1 = some { cls := .type "tuple", data := .seq #[.str y.2.1 y.2.2.1, y.2.2.2] k })
    (he : x = y ∧ lt = false ∨ (x.2.1 == y.2.1) = false ∧ lt = decide (x.2.1.cps.toList < y.2.1.cps.toList)) (hC : C lt s) : wpAny (model prog w) A (keyLt' (tuples' true) (.ref x.1) (.ref y.1)) C (fun _ _ => False) s := by
  refine kat_lt hx rfl hy rfl ?_
  rcases he with ⟨rfl, rfl⟩ | ⟨hne, rfl⟩
  · exact kat_cons (SeqAt.EqAt.same _ prog w _ _ (kat_yes (kat_cons (SeqAt.EqAt.same _ prog w _ _ (kat_yes (kat_nil hC))))))
  · refine kat_cons (SeqAt.EqAt.str_str _ _ _ _ prog w _ _ ?_)
    rw [hne]
    refine kat_no ?_
    show wpAny (model prog w) A (oneLt' true _ _) C _ s
    exact oneLt_str hC

theorem sorted_items {v d : Addr} {kvs : List (Str × Value)} {key : Nat → Str} {rs : List Nat} {Q : Value → Shared → Prop} (hrs : rs ∈ allRanks) (hkey : kvs.map (·.1) = rs.map key)
    (hord : ∀ a ∈ List.range 4, ∀ b ∈ List.range 4, (key a == key b) = (a == b) ∧ (a ≠ b → decide ((key a).cps.toList < (key b).cps.toList) = decide (a < b)))
    (H : St base os₀ led s) (hv : (v, objA { cls := .type "dict_items", data := .fields #[.ref d] }) ∈ led) (hd : (d, dctA (strKind prog w) kvs) ∈ led) (hh : A.handled = none)
    (h : ∀ D (tl tl' : List Tup2) s', (∀ x ∈ tl', x ∈ tl) → tl'.map (fun x => (x.2.1, x.2.2.2)) = ((List.range 4).filter rs.contains).map (fun r => (key r, (valueAt kvs (key r)).getD .none)) → St base os₀ ((D, lstA (tl'.map fun x => .ref x.1)) :: (tupLed tl ++ led)) s' → Q (.ref D) s') :
    wpAny (model prog w) A (call (.builtin "sorted") [.ref v]) Q E s := by
  obtain ⟨hlt4, hnd, hl4⟩ := ranks_lt rs hrs
  obtain ⟨hok, hsort⟩ := ranks_sorts rs hrs
  have hlen : kvs.length = rs.length := by have := congrArg List.length hkey; simpa using this
  have hnk : (kvs.map (·.1)).Nodup := by obtain ⟨_, _, _, _, _, _, _, _, hn⟩ := H.isDict hd; exact hn
  obtain ⟨ov, hov, rfl⟩ := H.get hv
  obtain ⟨od, es, ep, hod, hex, hdd, hke, hpe, hne⟩ := H.isDict hd
  refine call_function_entry kind_sorted plain_sorted entry_sorted (args_sorted1 _) ?_
  unfold Builtin.«sorted»
  refine wpAny_bind (m := checkCount "sorted" 1 1 _) (wpAny_pure ?_)
  refine wpAny_bind (kdx_collect (A := A.in1) (knd := strKind prog w) (kvs := kvs) (ep := ep) hh ⟨_, hov, rfl, rfl⟩ ⟨od, es, hod, hex, hdd, hke, hpe, hne⟩ (by rw [hlen]; exact Nat.le_trans hl4 (by decide)) fun h' tk as hk hl hG => ?_)
  obtain ⟨tl, ha, hkv, htl⟩ := rows_of hG hl
  have H₁ : St base os₀ (tupLed tl ++ led) { s with heap := h', toks := tk } := by
    refine St.tups tl H hk (by rw [ha]; exact hG.rise) fun x hx => ⟨Nat.le_of_lt (hG.above x.1 ?_), htl x hx⟩
    rw [← ha]; exact List.mem_map_of_mem hx
  have hlt : tl.length = rs.length := by have := congrArg List.length hkv; simp only [List.length_map] at this; omega
  have eas : as.map Value.ref = tl.map fun x => Value.ref x.1 := by rw [← ha, List.map_map]; rfl
  rw [eas]
  refine wpAny_bind (new_list H₁ (fun D s₂ H₂ => ?_) (by rw [List.length_map, hlt]; exact Nat.le_trans hl4 (by decide)))
  obtain ⟨oD, hoD, nD, rfl⟩ := H₂.get (.head _)
  have hne' : ∀ x ∈ tl, x.1 ≠ D := fun x hx => H₂.ne (R := tupA [.str x.2.1 x.2.2.1, x.2.2.2]) (List.mem_append_left _ (List.mem_map_of_mem hx))
  have htl₂ : ∀ x ∈ tl, ∃ n, s₂.heap.get? x.1 = some { cls := .type "tuple", data := .seq #[.str x.2.1 x.2.2.1, x.2.2.2] n } := fun x hx => by
    obtain ⟨o, ho, n, rfl⟩ := H₂.get (a := x.1) (P := tupA [.str x.2.1 x.2.2.1, x.2.2.2]) (.tail _ (List.mem_append_left _ (List.mem_map_of_mem (f := fun x : Tup2 => (x.1, tupA [.str x.2.1 x.2.2.1, x.2.2.2])) hx)))
    exact ⟨n, ho⟩
  have hvl : (tl.map fun x => Value.ref x.1).length = rs.length := by rw [List.length_map, hlt]
  have hkeyat : ∀ (i : Nat) (x : Tup2), tl[i]? = some x → ∃ r, rs[i]? = some r ∧ x.2.1 = key r := fun i x hx => by
    have e1 : (tl.map fun x : Tup2 => (x.2.1, x.2.2.2))[i]? = some (x.2.1, x.2.2.2) := by rw [List.getElem?_map, hx]; rfl
    rw [hkv] at e1
    have e2 : (kvs.map (·.1))[i]? = some x.2.1 := by rw [List.getElem?_map, e1]; rfl
    rw [hkey, List.getElem?_map] at e2
    cases e : rs[i]? with
    | none => rw [e] at e2; cases e2
    | some r => rw [e] at e2; exact ⟨r, rfl, (Option.some.inj e2).symm⟩
  refine wpAny_bind (wpAny_holding (wpAny_call_entry slot_list_sort ⟨_, hoD, rfl⟩ entry_list_sort (sort_body (fs := tl.map fun x => Value.str x.2.1 x.2.2.1) (lt := rankLt rs) hoD (by rw [hvl]; omega) (by simp) (fun v hv => ?_) (fun h₃ hk₃ => ⟨?_, fun i j C hi hj hC => ?_⟩) (fun h2 => by rw [hvl] at h2 ⊢; exact hok h2) fun h₃ c₃ hk₃ ho₃ => ?_) (args_list_sort _)))
  · obtain ⟨x, _, rfl⟩ := List.mem_map.mp hv
    exact ⟨_, _, rfl⟩
  · exact katTups_of tl fun x hx => let ⟨n, e⟩ := htl₂ x hx; ⟨n, hk₃ _ _ (hne' x hx) e⟩
  · rw [hvl] at hi hj
    obtain ⟨x, hx⟩ : ∃ x, tl[i]? = some x := ⟨_, List.getElem?_eq_getElem (by omega)⟩
    obtain ⟨y, hy⟩ : ∃ y, tl[j]? = some y := ⟨_, List.getElem?_eq_getElem (by omega)⟩
    have ex : (tl.map fun x => Value.ref x.1).getD i Value.none = .ref x.1 := by rw [List.getD_eq_getElem?_getD, List.getElem?_map, hx]; rfl
    have ey : (tl.map fun x => Value.ref x.1).getD j Value.none = .ref y.1 := by rw [List.getD_eq_getElem?_getD, List.getElem?_map, hy]; rfl
    rw [ex, ey]
    have mx := List.mem_of_getElem? hx
    have my := List.mem_of_getElem? hy
    obtain ⟨n1, g1⟩ := htl₂ x mx
    obtain ⟨n2, g2⟩ := htl₂ y my
    obtain ⟨r1, q1, k1⟩ := hkeyat i x hx
    obtain ⟨r2, q2, k2⟩ := hkeyat j y hy
    have b1 := hlt4 r1 (List.mem_of_getElem? q1)
    have b2 := hlt4 r2 (List.mem_of_getElem? q2)
    have er : rankLt rs i j = decide (r1 < r2) := by unfold rankLt; rw [List.getD_eq_getElem?_getD, List.getD_eq_getElem?_getD, q1, q2]; rfl
    refine pair_lt (s := { s₂ with heap := h₃ }) (hk₃ _ _ (hne' x mx) g1) (hk₃ _ _ (hne' y my) g2) (lt := rankLt rs i j) ?_ hC
    obtain ⟨o1, o2⟩ := hord r1 (List.mem_range.mpr b1) r2 (List.mem_range.mpr b2)
    by_cases hr : r1 = r2
    · refine .inl ⟨?_, by rw [er, hr]; simp⟩
      have hij : i = j := by
        have h1 : rs[i]? = rs[j]? := by rw [q1, q2, hr]
        exact (List.getElem?_inj (by omega) hnd).mp h1
      subst hij
      rw [hx] at hy; exact Option.some.inj hy
    · refine .inr ⟨by rw [k1, k2, o1]; simpa using hr, ?_⟩
      rw [er, k1, k2]; exact (o2 hr).symm
  · refine ⟨_, rfl, wpAny_pure ⟨_, rfl, ?_⟩⟩
    obtain ⟨idx, hidx⟩ : ∃ idx, idx = (if rs.length < 2 then List.range rs.length else (kev (kas_sort rs.length) (rankLt rs)).toList) := ⟨_, rfl⟩
    rw [← hidx] at hsort
    have hin : ∀ i ∈ idx, i < rs.length := fun i hi => by
      have hm : rs.getD i 9 ∈ (List.range 4).filter rs.contains := by rw [← hsort]; exact List.mem_map_of_mem (f := fun i => rs.getD i 9) hi
      have h4 := List.mem_range.mp (List.mem_filter.mp hm).1
      rcases Nat.lt_or_ge i rs.length with q | q
      · exact q
      · rw [List.getD_eq_getElem?_getD, List.getElem?_eq_none q] at h4; exact absurd h4 (by decide)
    have hget : ∀ i ∈ idx, ∃ x, tl[i]? = some x ∧ tl.getD i ((0, Str.ofString "", 0, .none) : Tup2) = x := fun i hi => by
      have := hin i hi
      have e : tl[i]? = some tl[i] := List.getElem?_eq_getElem (by omega)
      exact ⟨_, e, by rw [List.getD_eq_getElem?_getD, e]; rfl⟩
    have hout : sortOut (tl.map fun x => Value.ref x.1) (rankLt rs) = (idx.map fun i => tl.getD i ((0, Str.ofString "", 0, .none) : Tup2)).map fun x => Value.ref x.1 := by
      unfold sortOut
      rw [hvl, List.map_map]
      have e1 : (if rs.length < 2 then (tl.map fun x => Value.ref x.1) else (kev (kas_sort rs.length) (rankLt rs)).toList.map fun i => (tl.map fun x => Value.ref x.1).getD i Value.none) = idx.map fun i => (tl.map fun x => Value.ref x.1).getD i Value.none := by
        rw [hidx]
        split
        · refine List.ext_getElem? fun i => ?_
          rw [List.getElem?_map, List.getElem?_map]
          by_cases hi : i < rs.length
          · rw [List.getElem?_range hi, List.getElem?_eq_getElem (by omega : i < tl.length)]
            simp only [Option.map_some, List.getD_eq_getElem?_getD, List.getElem?_map]
            rw [List.getElem?_eq_getElem (by omega : i < tl.length)]
            rfl
          · rw [List.getElem?_eq_none (by omega : tl.length ≤ i), List.getElem?_eq_none (by simp; omega)]
            rfl
        · rfl
      rw [e1]
      refine List.map_congr_left fun i hi => ?_
      obtain ⟨x, hx, hg⟩ := hget i hi
      show _ = Value.ref (tl.getD i ((0, Str.ofString "", 0, .none) : Tup2)).1
      rw [hg, List.getD_eq_getElem?_getD, List.getElem?_map, hx]
      rfl
    rw [hout] at ho₃
    refine h D tl (idx.map fun i => tl.getD i ((0, Str.ofString "", 0, .none) : Tup2)) _ (fun x hx => ?_) ?_ (H₂.upd (tk := s₂.toks) .head (fun b o hb e => hk₃ b o hb e) ⟨_, ho₃, c₃, rfl⟩)
    · obtain ⟨i, hi, rfl⟩ := List.mem_map.mp hx
      obtain ⟨x, hx, hg⟩ := hget i hi
      rw [hg]; exact List.mem_of_getElem? hx
    · rw [← hsort, List.map_map, List.map_map]
      refine List.map_congr_left fun i hi => ?_
      obtain ⟨x, hx, hg⟩ := hget i hi
      obtain ⟨r, hr, hkr⟩ := hkeyat i x hx
      have e1 : kvs[i]? = some (x.2.1, x.2.2.2) := by rw [← hkv, List.getElem?_map, hx]; rfl
      have e2 := valueAt_get hnk e1
      show ((tl.getD i ((0, Str.ofString "", 0, .none) : Tup2)).2.1, (tl.getD i ((0, Str.ofString "", 0, .none) : Tup2)).2.2.2) = (key (rs.getD i 9), (valueAt kvs (key (rs.getD i 9))).getD .none)
      rw [hg, List.getD_eq_getElem?_getD, hr]
      show (x.2.1, x.2.2.2) = (key r, (valueAt kvs (key r)).getD .none)
      rw [← hkr, e2]
      rfl
end
end Mine

namespace Mine
open PySem PySem.W PyProof.Rows PySem.Calls PySem.Spec
section
variable {prog : Program} {w : World} {A : Around} {E : Value → Shared → Prop} {s : Shared} {base : Heap} {os₀ : OsState} {led led' : Led} {env : Env} {o₀ : Obj} {d : Addr} {kvs : List (Str × Value)} {pos : Pos}

theorem d_get {t u : Sem Value} {Q : Value → Shared → Prop} (H : St base os₀ led s) (hs : base.get? sysModules = some o₀) (hd : (d, dctA (strKind prog w) kvs) ∈ led)
    (h : wpAny (model prog w) A t (fun key s₁ => wpAny (model prog w) A u (fun dflt s₂ => ∃ k tk, key = .str k tk ∧ St base os₀ led s₂ ∧ ∀ s', St base os₀ led s' → Q ((valueAt kvs k).getD dflt) s') E s₁) E s) :
    MethodOn prog w A "get" pos (.ref d) [(false, t), (false, u)] Q E s :=
  ⟨"dict", "dict.get", PySem.F.plainAttrs_dict, PySem.F.slot_dict_get, PySem.F.type_dict_get, (H.isDict hd).typeIs, (H.isDict hd).mapOf.noDict,
    wpAny_dict_get2 (knd := strKind prog w) (H.notSys hd hs) (wpAny_mono h (fun key s₁ h₁ => wpAny_mono h₁ (fun dflt s₂ ⟨k, tk, hk, H₂, hq⟩ => ⟨k, _, by rw [hk]; exact strKind_is prog w k tk, (H₂.isDict hd).mapOf, hq _ H₂.tok⟩) fun _ _ e => e) fun _ _ e => e)⟩
theorem d_items {Q : Value → Shared → Prop} (H : St base os₀ led s) (hs : base.get? sysModules = some o₀) (hd : (d, dctA (strKind prog w) kvs) ∈ led)
    (h : ∀ v s', St base os₀ ((v, objA { cls := .type "dict_items", data := .fields #[.ref d] }) :: led) s' → Q (.ref v) s') :
    MethodOn prog w A "items" pos (.ref d) [] Q E s :=
  ⟨"dict", "dict.items", PySem.F.plainAttrs_dict, PySem.F.slot_dict_items, PySem.F.type_dict_items, (H.isDict hd).typeIs, (H.isDict hd).mapOf.noDict,
    callWith_builtin rfl (PySem.evalArgs_none (call_meetsIn PySem.F.slot_dict_items (H.isDict hd).typeIs PySem.F.entry_dict_items (PySem.F.args_dict_items_1 _) (meets_dict_items (strKind prog w) d (H.notSys hd hs)) ⟨⟨kvs, H.isDict hd⟩, h _ _ (H.push (tk := s.toks) rfl rfl)⟩))⟩
theorem d_pop {t : Sem Value} {Q : Value → Shared → Prop} (H : St base os₀ led s) (hs : base.get? sysModules = some o₀) (hd : (d, dctA (strKind prog w) kvs) ∈ led) (hsz : kvs.length ≤ sizeLine)
    (h : wpAny (model prog w) A t (fun key s₁ => ∃ k tk v led', key = .str k tk ∧ St base os₀ led s₁ ∧ valueAt kvs k = some v ∧ Up d (dctA (strKind prog w) kvs) (dctA (strKind prog w) (without kvs k)) led led' ∧ ∀ s', St base os₀ led' s' → Q v s') E s) :
    MethodOn prog w A "pop" pos (.ref d) [(false, t)] Q E s :=
  ⟨"dict", "dict.pop", PySem.F.plainAttrs_dict, PySem.F.slot_dict_pop, PySem.F.type_dict_pop, (H.isDict hd).typeIs, (H.isDict hd).mapOf.noDict,
    callWith_builtin rfl (evalArgs_plain (spliced_cons (wpAny_mono h (fun key s₁ ⟨k, tk, v, led', hk, H₁, hv, U, hq⟩ => spliced_nil (by
      subst hk
      exact call_meetsIn PySem.F.slot_dict_pop (H₁.isDict hd).typeIs PySem.F.entry_dict_pop (PySem.F.args_dict_pop_2 _ _) (meets_dict_pop_there (strKind prog w) d (strKind_is prog w k tk) [] (.inl rfl) rfl)
        ⟨kvs, v, H₁.isDict hd, hsz, hv, fun h' hm' hs' => hq _ (H₁.upd U hs'.extBut (dctA_of hm'))⟩)) fun _ _ e => e)))⟩
theorem d_in {k : Str} {tk : Tok} {Q : Value → Shared → Prop} (H : St base os₀ led s) (hs : base.get? sysModules = some o₀) (hd : (d, dctA (strKind prog w) kvs) ∈ led) (h : ∀ s', St base os₀ led s' → Q (.bool (valueAt kvs k).isSome) s') :
    wpAny (model prog w) A (compareOp .In (.str k tk) (.ref d)) Q E s := wpAny_in_of (strKind_is prog w k tk) (H.notSys hd hs) (H.isDict hd).mapOf (h _ H.tok)
theorem d_item {k : Str} {tk : Tok} {v : Value} {Q : Value → Shared → Prop} {value slice : Expr} (H : St base os₀ led s) (hd : (d, dctA (strKind prog w) kvs) ∈ led) (hv : valueAt kvs k = some v) (h : ∀ s', St base os₀ led s' → Q v s')
    (hsu : subscripted slice false (.ref d) (.str k tk) = operate [.ref d, .str k tk] (getItem (.ref d) (.str k tk)) := by with_unfolding_all rfl) :
    wpAny (model prog w) A (subscriptTail value slice (.ref d) (.str k tk)) Q E s :=
  subscriptTail_builtinR (H.isDict hd).typeIs slot_dict_getitem.lookup (wpAny_getItem_of (strKind_is prog w k tk) (H.isDict hd).mapOf hv ⟨rfl, h _ H.tok⟩) hsu

/-- while, with a measure -/
theorem while_led {test : Expr} {body : List Stmt} {Q : Flow → Shared → Prop} (J : Nat → Led → Prop) {n : Nat} (H : St base os₀ led s) (h0 : J n led)
    (turn : ∀ n led s E', J n led → St base os₀ led s → wpAny (model prog w) A (isTrue test env (eval test env)) (fun b s₂ =>
      if b then wpAny (model prog w) A (execs body env) (fun f s₃ => match f with
          | .next | .cont => ∃ m led', m < n ∧ J m led' ∧ St base os₀ led' s₃
          | .brk => Q .next s₃
          | .ret v => Q (.ret v) s₃) E' s₂
      else Q .next s₂) E' s) :
    wpAny (model prog w) A (exec (.While test body [] pos) env) Q E s := by
  refine wpAny_While (codeAny_whileLoop (fun n s' => ∃ led', J n led' ∧ St base os₀ led' s') ?_ n ⟨led, h0, H⟩)
  rintro n s' ⟨led', hJ, H'⟩
  refine wpAny_mono (turn n led' s' _ hJ H') (fun b s₂ h₂ => ?_) fun _ _ x => x
  cases b with
  | true =>
    simp only [if_true] at h₂ ⊢
    refine wpAny_mono h₂ (fun f s₃ h₃ => ?_) fun _ _ x => x
    cases f with
    | next => obtain ⟨m, led'', h1, h2, h3⟩ := h₃; exact ⟨m, h1, led'', h2, h3⟩
    | cont => obtain ⟨m, led'', h1, h2, h3⟩ := h₃; exact ⟨m, h1, led'', h2, h3⟩
    | brk => exact h₃
    | ret v => exact h₃
  | false =>
    simp only [Bool.false_eq_true, if_false] at h₂ ⊢
    exact wpAny_execs_nil h₂
theorem s_add {x y : Str} {t u : Tok} {Q : Value → Shared → Prop} (H : St base os₀ led s) (h : ∀ t' s', St base os₀ led s' → Q (.str (x ++ y) t') s') (hsz : x.length + y.length ≤ sizeLine) :
    wpAny (model prog w) A (binaryOp .Add (.str x t) (.str y u)) Q E s := PyProof.Rows.add_str (fun t' tk => h t' _ H.tok) hsz
theorem s_int {a : Int} {t : Tok} {Q : Value → Shared → Prop} (H : St base os₀ led s) (ha : a.natAbs.log2 < 1920) (h : ∀ t' s', St base os₀ led s' → Q (.str (toString a) t') s') :
    wpAny (model prog w) A (call (.type "str") [.int a t]) Q E s := PySem.P.str_of_int ha (h _ _ H.tok)
end
end Mine

namespace Mine
open PySem PySem.W PyProof.Rows PySem.Calls PySem.Spec
section
variable {prog : Program} {w : World} {A : Around} {E : Value → Shared → Prop} {s : Shared} {base : Heap} {os₀ : OsState} {led : Led} {env : Env}

theorem comp_loop {R : Result → Shared → Prop} {elt iter : Expr} {x : Str} {px : Pos} {ifs : List Expr} {scope : Scope} {pos : Pos} {ce : Env} {I C D : Addr} {n : Nat} {P : Nat → Value → Prop} {itP : Nat → Asn} {side : Led} {mC₀ : Str → Option Value}
    (W : Iter prog w A base os₀ I n P itP side) (hsz : n ≤ sizeLine) (hC : ce.locals = C) (hkind : ce.scope.kind = .function) (hx : ce.kindOf x = some .local) (J : Nat → List Value → Led → Prop)
    (turn : ∀ i v ys mC led s E', i < n → P i v → J i ys led → mC x = some v → St base os₀ ((C, nsA mC) :: (D, lstA ys) :: (I, itP (i + 1)) :: (side ++ led)) s →
      wpAny (model prog w) A (forIn ifs true fun c r => if r = true then do let ok ← isTrue c ce (eval c ce); pure (ForInStep.yield ok) else pure (ForInStep.yield r)) (fun ok s₂ =>
        if ok = true then wpAny (model prog w) A (eval elt ce) (fun y s₃ => ∃ led', J (i + 1) (ys ++ [y]) led' ∧ St base os₀ ((C, nsA mC) :: (D, lstA ys) :: (I, itP (i + 1)) :: (side ++ led')) s₃) E' s₂
        else ∃ led', J (i + 1) ys led' ∧ St base os₀ ((C, nsA mC) :: (D, lstA ys) :: (I, itP (i + 1)) :: (side ++ led')) s₂) E' s)
    (fin : ∀ mC ys led s, J n ys led → ys.length ≤ n → St base os₀ ((C, nsA mC) :: (D, lstA ys) :: (side ++ led)) s → R (.ok .next) s)
    (H : St base os₀ ((C, nsA mC₀) :: (D, lstA []) :: (I, itP 0) :: (side ++ led)) s) (h0 : J 0 [] led) :
    codeAny (model prog w) A (.compLoop (.ListComp elt [⟨.Name x px, iter, ifs, 0⟩] scope pos) 0 (.ref I) (.ref D) ce) R s := by
  subst hC
  refine codeAny_compLoop_tests (fun k s' => ∃ i ys led' m, k = n + 1 - i ∧ i ≤ n ∧ ys.length ≤ i ∧ J i ys led' ∧ St base os₀ ((ce.locals, nsA m) :: (D, lstA ys) :: (I, itP i) :: (side ++ led')) s') ?_ (n + 1) ⟨0, [], led, _, rfl, Nat.zero_le _, Nat.le_refl _, h0, H⟩
  rintro k s' ⟨i, ys, led', m, rfl, hi, hlen, hJ, H'⟩
  have p1 : ((I, itP i) :: (side ++ ((ce.locals, nsA m) :: (D, lstA ys) :: led'))).Perm ((ce.locals, nsA m) :: (D, lstA ys) :: (I, itP i) :: (side ++ led')) := by
    refine (List.Perm.cons _ (List.perm_append_comm_assoc side [_, _] led')).trans ?_
    exact (List.perm_middle (l₁ := [_, _])).symm
  by_cases hlt : i < n
  · refine W.item i _ s' _ _ hlt (H'.perm p1) fun v s₁ hv H₁ => ?_
    have H₂ : St base os₀ ((ce.locals, nsA m) :: (D, lstA ys) :: (I, itP (i + 1)) :: (side ++ led')) s₁ := by
      refine H₁.perm ?_
      refine (List.perm_middle (l₁ := [_, _])).trans ?_
      exact List.Perm.cons _ (List.perm_append_comm_assoc side [_, _] led').symm
    refine wpAny_assign_Name (st_l (env := ce) H₂ .head (fun s₂ H₃ => ?_) hkind hx)
    refine wpAny_mono (turn i v ys _ led' s₂ _ hlt hv hJ (if_pos rfl) H₃) (fun ok s₃ h₃ => ?_) fun _ _ x => x
    cases ok with
    | true =>
      simp only [if_true] at h₃ ⊢
      refine wpAny_mono h₃ (fun y s₄ h₄ => ?_) fun _ _ x => x
      obtain ⟨led'', hJ', H₄⟩ := h₄
      refine l_append H₄ (.tail .head) (fun s₅ H₅ => ⟨n + 1 - (i + 1), by omega, i + 1, ys ++ [y], led'', _, rfl, hlt, by simp; omega, hJ', H₅⟩) (by omega)
    | false =>
      simp only [Bool.false_eq_true, if_false] at h₃ ⊢
      obtain ⟨led'', hJ', H₄⟩ := h₃
      exact ⟨n + 1 - (i + 1), by omega, i + 1, ys, led'', _, rfl, hlt, by omega, hJ', H₄⟩
  · have hin : i = n := by omega
    subst hin
    refine W.done _ s' _ _ (H'.perm p1) fun s₁ H₁ => ?_
    exact fin m ys led' s₁ hJ hlen (H₁.perm (List.perm_append_comm_assoc side [_, _] led').symm)

/-- [elt for x in iter if ..], with names of the outer frame -/
theorem comp_free {elt iter : Expr} {x : Str} {px : Pos} {ifs : List Expr} {scope : Scope} {cl : List (Str × Addr)} {pos : Pos} {Q : Value → Shared → Prop} (hclos : closureFor scope env = pure cl)
    (h : wpAny (model prog w) A (eval iter env) (fun xv s₁ => wpAny (model prog w) A (pyIter xv) (fun it s₂ => ∃ I n P itP side led, ∃ J : Nat → List Value → Led → Prop, it = .ref I ∧ Iter prog w A base os₀ I n P itP side ∧ n ≤ sizeLine ∧ St base os₀ ((I, itP 0) :: (side ++ led)) s₂ ∧ J 0 [] led ∧
      (∀ C D i v ys mC led s E', i < n → P i v → J i ys led → mC x = some v → St base os₀ ((C, nsA mC) :: (D, lstA ys) :: (I, itP (i + 1)) :: (side ++ led)) s →
        wpAny (model prog w) A (forIn ifs true fun c r => if r = true then do let ok ← isTrue c (compEnvC scope cl C env) (eval c (compEnvC scope cl C env)); pure (ForInStep.yield ok) else pure (ForInStep.yield r)) (fun ok s₂ =>
          if ok = true then wpAny (model prog w) A (eval elt (compEnvC scope cl C env)) (fun y s₃ => ∃ led', J (i + 1) (ys ++ [y]) led' ∧ St base os₀ ((C, nsA mC) :: (D, lstA ys) :: (I, itP (i + 1)) :: (side ++ led')) s₃) E' s₂
          else ∃ led', J (i + 1) ys led' ∧ St base os₀ ((C, nsA mC) :: (D, lstA ys) :: (I, itP (i + 1)) :: (side ++ led')) s₂) E' s) ∧
      (∀ D ys led s, J n ys led → St base os₀ ((D, lstA ys) :: (side ++ led)) s → Q (.ref D) s)) E s₁) E s)
    (hcell : ∀ y ∈ scope.names, y.2 ≠ .cell) (hkind : scope.kind = .function)
    (hnames : ∀ y ∈ scope.names, y.2 = .local → scope.names.lookup y.1 = some .local) (hx : scope.names.lookup x = some .local)
    (hs : ∀ x, foldedSetIterable iter env x = pure x := by intro _; rfl) :
    wpAny (model prog w) A (eval (.ListComp elt [⟨.Name x px, iter, ifs, 0⟩] scope pos) env) Q E s := by
  rw [eval_ListComp]
  refine wpAny_comprehension_free (use := none) rfl hs hclos hkind hnames (wpAny_mono h (fun xv s₁ h₁ => wpAny_mono h₁ (fun it s₂ h₂ => ?_) fun _ _ e => e) fun _ _ e => e)
  obtain ⟨I, n, P, itP, side, led, J, rfl, W, hsz, H, h0, turn, fin⟩ := h₂
  refine new_list H fun D s₃ H₃ => ?_
  refine wpAny_newFunctionEnv hcell (by intro y hy; simp at hy) (fun h₁ hns₁ hsb₁ => ?_) hkind
  have H₄ : St base os₀ ((s₃.heap.objs.size, nsA fun x => ([] : List (Str × Value)).reverse.lookup x) :: (D, lstA []) :: (I, itP 0) :: (side ++ led)) { s₃ with heap := h₁, toks := s₃.toks + ([] : List (Str × Value)).length } := by
    obtain ⟨o', ho', hp'⟩ := nsA_of hns₁
    exact H₃.more (fun b o e => hsb₁.extBut b o (Nat.ne_of_lt (Heap.lt_size e)) (Heap.get?_push_of_some _ e)) (Nat.le_refl _) ho' hp'
  generalize s₃.heap.objs.size = C at H₄ ⊢
  generalize ({ s₃ with heap := h₁, toks := s₃.toks + ([] : List (Str × Value)).length } : Shared) = s₄ at H₄ ⊢
  have loop : codeAny (model prog w) A (.compLoop (.ListComp elt [⟨.Name x px, iter, ifs, 0⟩] scope pos) 0 (.ref I) (.ref D) (compEnvC scope cl C env)) (compPost (model prog w) A E none Q (.ref D) C) s₄ :=
    comp_loop (ce := compEnvC scope cl C env) W hsz rfl hkind (lookup_relabel_local hx) J (fun i v ys mC led s E' hi hv hJ hm H' => turn C D i v ys mC led s E' hi hv hJ hm H')
      (fun mC ys led s hJ hl H' => ⟨mC, H'.ns (.head _), fun h' hs' => fin D ys led _ hJ (H'.gone (tk := s.toks) fun b o hb e => hs'.extBut b o hb e)⟩) H₄ h0
  exact codeAny_compStart_list loop (W.self _ _ _ _ (H₄.perm (led' := (I, itP 0) :: (side ++ ((C, nsA fun x => ([] : List (Str × Value)).reverse.lookup x) :: (D, lstA []) :: led))) (by
    refine (List.Perm.cons _ (List.perm_append_comm_assoc side [_, _] led)).trans ?_
    exact (List.perm_middle (l₁ := [_, _])).symm)) loop)
end
end Mine

namespace Mine
open PySem PySem.W PyProof.Rows PySem.Calls PySem.Spec
def nth (n : Nat) (l : List Stmt) : Stmt := match n, l with
  | 0, s :: _ => s
  | n + 1, _ :: r => nth n r
  | _, [] => .Pass default
def fnBody : Stmt → List Stmt | .FunctionDef _ _ b _ _ _ _ _ _ _ => b | _ => []
def fnPar : Stmt → Arguments | .FunctionDef _ a _ _ _ _ _ _ _ _ => a | _ => default
def fnScope : Stmt → Scope | .FunctionDef _ _ _ _ _ _ s _ _ _ => s | _ => default
def gniStmt : Stmt := nth 3 PySem.Challenge.pw_dm0069_10.main.body
/-- what is known of a def of the top -/
structure IsDef (base : Heap) (f : Addr) (st : Stmt) (fd : FuncData) : Prop where
  obj : ∃ o, base.get? f = some o ∧ o.data = .func fd
  body : fd.body = .stmts (fnBody st)
  par : fd.params = fnPar st
  scope : fd.scope = fnScope st
  clo : fd.closure = []
  glob : fd.globals = mainGlobals
  bi : fd.builtins = builtinsNs
  dflt : fd.defaults = .none
  code : base.CodeRec fd.code fd.qualname

section
variable {prog : Program} {w : World} {A : Around} {E : Value → Shared → Prop} {s : Shared} {base : Heap} {os₀ : OsState} {led : Led}

theorem gni_none {f u : Addr} {fd : FuncData} {mg : Str → Option Value} {v : Value} {kws : List (Str × Value)} {Q : Value → Shared → Prop} (D : IsDef base f gniStmt fd) (hlim : base.NoLimit) (hg : base.Ns mainGlobals mg) (hu : mg (Str.ofString "UNKNOWN") = some (.ref u))
    (H : St base os₀ led s) (hroom : A.depth < recursionLimit) (hk1 : ∀ k ∈ kws.map (·.1), k ∉ [Str.ofString "name_index", Str.ofString "get_name"]) (hk2 : (kws.map (·.1)).Nodup) (hk3 : kws.length ≤ sizeLine + 1)
    (h : ∀ a t s', St base os₀ ((a, tupA [.ref u, .str (Str.ofString "") t]) :: led) s' → Q (.ref a) s') :
    wpAny (model prog w) A (call (.ref f) [v, .none] kws) Q E s := by
  obtain ⟨⟨o, ho, hd⟩, hb, hp, hsc, hc, hgl, hbi, hdf, hcd⟩ := D
  obtain ⟨fname, fqual, fpar, fbody, fscope, fglob, fclo, fdef, fkwd, fdoc, fmod, fann, fcode, fct, fbui⟩ := fd
  simp only at hb hp hsc hc hgl hbi hdf hcd
  subst hb hp hsc hc hgl hbi hdf
  refine fn_enter (args := ⟨[v, .none], kws⟩) H hroom hlim (H.keep _ _ ho) hd (hcd.keeps H.keep) rfl (by show ∀ x ∈ (fnScope gniStmt).names, x.2 ≠ NameKind.cell; decide) ?_
  refine bind_kw (normal := [Str.ofString "name_index", Str.ofString "get_name"]) rfl rfl rfl rfl rfl rfl rfl (by decide) hk1 hk2 hk3 H fun d s₁ H₁ => ?_
  refine ⟨_, H₁, ?_, fun L s₂ H₂ => ?_⟩
  · intro x hx
    simp only [List.zip_cons_cons, List.zip_nil_right, List.cons_append, List.nil_append, List.mem_cons, List.not_mem_nil, or_false] at hx
    rcases hx with rfl | rfl | rfl <;> rfl
  refine wpAny_execs_cons (wpAny_If (wpAny_isTrue_Compare1 (nm_l H₂ (.head _) rfl (wpAny_Constant_none (isNot_none (wpAny_truthy_bool ?_))))))
  refine ite_neg (by decide) ?_
  refine wpAny_execs_cons (wpAny_Return_some (Tuple_ (wpAny_items_cons (nm_g H₂ hg hu (wpAny_items_cons (c_str H₂ fun t s₃ H₃ => wpAny_items_nil (new_tuple H₃ fun a s₄ H₄ => ?_)))))))
  exact h a t s₄ (H₄.sub (.cons_cons _ (.cons _ (.cons _ (.refl _)))))

/-- with a lookup: what the lookup does is the caller's to say -/
theorem gni_call {f g : Addr} {fd : FuncData} {o₀ : Obj} {v : Value} {kws : List (Str × Value)} {Q : Value → Shared → Prop} (D : IsDef base f gniStmt fd) (hlim : base.NoLimit) (hsys : base.get? sysModules = some o₀)
    (H : St base os₀ led s) (hroom : A.depth < recursionLimit) (hk1 : ∀ k ∈ kws.map (·.1), k ∉ [Str.ofString "name_index", Str.ofString "get_name"]) (hk2 : (kws.map (·.1)).Nodup) (hk3 : kws.length ≤ sizeLine)
    (h : ∀ env L m d₁ d₂ s₁, env = callEnv fd L f → St base os₀ ((d₂, dctA (strKind prog w) kws) :: (L, nsA m) :: (d₁, dctA (strKind prog w) kws) :: led) s₁ →
      (∃ o gd, s₁.heap.get? g = some o ∧ o.data = .func gd) ∧
      wpAny (model prog w) (A.deeper env) (call (.ref g) [v] kws) (fun r s₂ => ∃ front led₂, St base os₀ (front ++ (L, nsA m) :: led₂) s₂ ∧ ∀ a s₃, St base os₀ ((a, tupA [r, r]) :: led₂) s₃ → Q (.ref a) s₃)
        (fun e s₂ => wpAny (model prog w) (A.deeper env) (leaving env e) (fun _ s₃ => E e s₃) (fun e' s₃ => E e' s₃) s₂) s₁) :
    wpAny (model prog w) A (call (.ref f) [v, .ref g] kws) Q E s := by
  obtain ⟨⟨o, ho, hd⟩, hb, hp, hsc, hc, hgl, hbi, hdf, hcd⟩ := D
  obtain ⟨fname, fqual, fpar, fbody, fscope, fglob, fclo, fdef, fkwd, fdoc, fmod, fann, fcode, fct, fbui⟩ := fd
  simp only at hb hp hsc hc hgl hbi hdf hcd
  subst hb hp hsc hc hgl hbi hdf
  refine fn_enter (args := ⟨[v, .ref g], kws⟩) H hroom hlim (H.keep _ _ ho) hd (hcd.keeps H.keep) rfl (by show ∀ x ∈ (fnScope gniStmt).names, x.2 ≠ NameKind.cell; decide) ?_
  refine bind_kw (normal := [Str.ofString "name_index", Str.ofString "get_name"]) rfl rfl rfl rfl rfl rfl rfl (by decide) hk1 hk2 (Nat.le_succ_of_le hk3) H fun d s₁ H₁ => ?_
  refine ⟨_, H₁, ?_, fun L s₂ H₂ => ?_⟩
  · intro x hx
    simp only [List.zip_cons_cons, List.zip_nil_right, List.cons_append, List.nil_append, List.mem_cons, List.not_mem_nil, or_false] at hx
    rcases hx with rfl | rfl | rfl <;> rfl
  refine wpAny_execs_cons (wpAny_If (wpAny_isTrue_Compare1 (nm_l H₂ (.head _) rfl (wpAny_Constant_none (isNot_none (wpAny_truthy_bool ?_))))))
  refine ite_pos (by simp) ?_
  refine wpAny_execs_cons (wpAny_Assign_Name (wpAny_Call_ofName (nm_l H₂ (.head _) rfl (callWith_fn (evalArgs_star rfl (spliced_cons (nm_l H₂ (.head _) rfl (spliced_nil (merged1 H₂ hsys ?_ (.tail _ (.head _)) hk3 fun d₂ s₃ H₃ => kwIn H₃ (.head _) ?_)))))))))
  · exact fun d' s' H' => wpAny_bind (nm_l H' (.tail _ (.head _)) rfl (wpAny_bind (wpAny_standAt (wpAny_pure ⟨rfl, rfl⟩))))
  obtain ⟨hgo, hcall⟩ := h _ L _ _ _ s₃ rfl H₃
  refine ⟨hgo, wpAny_mono hcall (fun r s₄ h₄ => ?_) fun _ _ x => x⟩
  obtain ⟨front, led₂, H₄, h₄⟩ := h₄
  have H₅ := H₄.sub (List.sublist_append_right _ _)
  refine st_l H₅ .head fun s₆ H₆ => ?_
  refine wpAny_execs_cons (wpAny_Return_some (Tuple_ (wpAny_items_cons (nm_l H₆ (.head _) rfl (wpAny_items_cons (nm_l H₆ (.head _) rfl (wpAny_items_nil (new_tuple H₆ fun a s₇ H₇ => ?_))))))))
  exact h₄ a s₇ (H₇.sub (.cons_cons _ (.cons _ (.refl _))))
end
end Mine

namespace Mine
open PySem PySem.W PyProof.Rows PySem.Calls PySem.Spec
/-! the plain law: registers g, a step by a number n -/
abbrev Regs := Nat → Option Int
def put (g : Regs) (k : Nat) (v : Option Int) : Regs := fun i => if i = k then v else g i
def deedOf (n : Int) : Int := n.fmod 5
def mineOf (n : Int) : Nat := ((n.fdiv 5).fmod 4).toNat
def otherOf (n : Int) : Nat := ((n.fdiv 20).fmod 4).toNat
def stepG (n : Int) (g : Regs) : Regs :=
  if deedOf n = 0 then put g (mineOf n) (some ((n.fdiv 80).fmod 1000))
  else if deedOf n = 1 then put g (mineOf n) none
  else if deedOf n = 2 then put g (mineOf n) (some ((g (mineOf n)).getD 1 + (g (otherOf n)).getD 1))
  else if deedOf n = 3 then g
  else if (g (mineOf n)).isSome ∧ (g (otherOf n)).isSome then put (put g (mineOf n) (g (otherOf n))) (otherOf n) (g (mineOf n)) else g
def stepAt (n : Int) (at' : Nat) : Nat := if deedOf n = 3 then at' + 2 else at' + 1
theorem mine_lt (n : Int) : mineOf n < 4 ∧ ((mineOf n : Nat) : Int) = (n.fdiv 5).fmod 4 := by
  have h1 : 0 ≤ (n.fdiv 5).fmod 4 := Int.fmod_nonneg_of_pos _ (by decide)
  have h2 : (n.fdiv 5).fmod 4 < 4 := Int.fmod_lt_of_pos _ (by decide)
  unfold mineOf
  omega
theorem other_lt (n : Int) : otherOf n < 4 ∧ ((otherOf n : Nat) : Int) = (n.fdiv 20).fmod 4 := by
  have h1 : 0 ≤ (n.fdiv 20).fmod 4 := Int.fmod_nonneg_of_pos _ (by decide)
  have h2 : (n.fdiv 20).fmod 4 < 4 := Int.fmod_lt_of_pos _ (by decide)
  unfold otherOf
  omega
/-- the run from a place: what is left, the places gone through -/
def runG (ns : List Int) : Nat → Nat → Regs → Regs × List Nat
  | 0, _, g => (g, [])
  | fuel + 1, p, g => match ns[p]? with
    | none => (g, [])
    | some n => let r := runG ns fuel (stepAt n p) (stepG n g); (r.1, p :: r.2)
/-- enough fuel gives one answer -/
theorem runG_fuel (ns : List Int) : ∀ (f f' p : Nat) (g : Regs), ns.length - p ≤ f → ns.length - p ≤ f' → runG ns f p g = runG ns f' p g
  | 0, 0, _, _, _, _ => rfl
  | 0, f' + 1, p, g, h, _ => by
    have : ns[p]? = none := List.getElem?_eq_none (by omega)
    simp [runG, this]
  | f + 1, 0, p, g, _, h => by
    have : ns[p]? = none := List.getElem?_eq_none (by omega)
    simp [runG, this]
  | f + 1, f' + 1, p, g, h, h' => by
    cases e : ns[p]? with
    | none => simp [runG, e]
    | some n =>
      have hp : p < ns.length := by
        rcases Nat.lt_or_ge p ns.length with q | q
        · exact q
        · rw [List.getElem?_eq_none q] at e; cases e
      have hs : p + 1 ≤ stepAt n p := by unfold stepAt; split <;> omega
      have ih := runG_fuel ns f f' (stepAt n p) (stepG n g) (by omega) (by omega)
      simp only [runG, e, ih]
def rkey (k : Nat) : Str := Str.ofString "r" ++ Str.ofString (toString (k : Int))
/-- the further words bear the registers -/
structure KV (kvs : List (Str × Value)) (g : Regs) (rs : List Nat) : Prop where
  mem : rs ∈ allRanks
  keys : kvs.map (·.1) = rs.map rkey
  vals : ∀ k, k < 4 → match g k with | none => valueAt kvs (rkey k) = none | some x => ∃ t, valueAt kvs (rkey k) = some (.int x t)
theorem rkey_inj : ∀ a ∈ List.range 4, ∀ b ∈ List.range 4, (rkey a == rkey b) = (a == b) ∧ (a ≠ b → decide ((rkey a).cps.toList < (rkey b).cps.toList) = decide (a < b)) := by decide
theorem rkey_not : ∀ a ∈ List.range 4, rkey a ∉ [Str.ofString "name_index", Str.ofString "get_name", Str.ofString "at"] := by decide
end Mine

namespace Mine
open PySem PySem.W PyProof.Rows PySem.Calls PySem.Spec
section
variable {K : Type} [DecidableEq K]
theorem va_cons (k : K) (v : Value) (r : List (K × Value)) (k' : K) : valueAt ((k, v) :: r) k' = if k = k' then some v else valueAt r k' := by
  unfold valueAt
  by_cases h : k = k'
  · simp [h]
  · rw [List.find?_cons_of_neg (by simpa using h), if_neg h]
theorem va_some_iff {kvs : List (K × Value)} {k : K} : (valueAt kvs k).isSome = true ↔ k ∈ kvs.map (·.1) := by
  induction kvs with
  | nil => simp [valueAt]
  | cons p r ih =>
    obtain ⟨k', v⟩ := p
    rw [va_cons]
    by_cases h : k' = k
    · simp [h]
    · rw [if_neg h, ih]; simp [Ne.symm h]
theorem va_app {kvs : List (K × Value)} {k k' : K} {v : Value} (h : k ∉ kvs.map (·.1)) : valueAt (kvs ++ [(k, v)]) k' = if k' = k then some v else valueAt kvs k' := by
  induction kvs with
  | nil =>
    show valueAt [(k, v)] k' = _
    rw [va_cons]
    by_cases e : k = k'
    · rw [if_pos e, if_pos e.symm]
    · rw [if_neg e, if_neg (Ne.symm e)]
  | cons p r ih =>
    obtain ⟨k₀, v₀⟩ := p
    simp only [List.map_cons, List.mem_cons, not_or] at h
    show valueAt ((k₀, v₀) :: (r ++ [(k, v)])) k' = _
    rw [va_cons, va_cons, ih h.2]
    by_cases e : k₀ = k'
    · rw [if_pos e, if_pos e, if_neg]; rw [← e]; exact Ne.symm h.1
    · rw [if_neg e, if_neg e]
theorem va_map {kvs : List (K × Value)} {k k' : K} {v : Value} : valueAt (kvs.map fun kv => if kv.1 = k then (kv.1, v) else kv) k' = if k' = k ∧ (valueAt kvs k).isSome = true then some v else valueAt kvs k' := by
  induction kvs with
  | nil => simp [valueAt]
  | cons p r ih =>
    obtain ⟨k₀, v₀⟩ := p
    rw [List.map_cons]
    by_cases e : k₀ = k
    · subst e
      simp only [if_true]
      rw [va_cons, va_cons, va_cons, ih]
      by_cases e2 : k₀ = k'
      · subst e2; simp
      · simp [e2, Ne.symm e2]
    · simp only [if_neg e]
      rw [va_cons, va_cons, va_cons, ih]
      by_cases e2 : k₀ = k'
      · subst e2; simp [e]
      · simp only [if_neg e2, if_neg e]
theorem va_stored {kvs : List (K × Value)} {k k' : K} {v : Value} : valueAt (stored kvs k v) k' = if k' = k then some v else valueAt kvs k' := by
  unfold stored
  split
  · rename_i h
    rw [va_map]
    have hs : (valueAt kvs k).isSome = true := by rw [valueAt_isSome_eq_any]; exact h
    simp [hs]
  · rename_i h
    have hn : k ∉ kvs.map (·.1) := fun q => h (by rw [← valueAt_isSome_eq_any]; exact va_some_iff.mpr q)
    exact va_app hn
theorem keys_stored {kvs : List (K × Value)} {k : K} {v : Value} : (stored kvs k v).map (·.1) = if k ∈ kvs.map (·.1) then kvs.map (·.1) else kvs.map (·.1) ++ [k] := by
  unfold stored
  by_cases h : k ∈ kvs.map (·.1)
  · rw [if_pos (by rw [← valueAt_isSome_eq_any]; exact va_some_iff.mpr h), if_pos h, List.map_map]
    refine List.map_congr_left fun p _ => ?_
    show (if p.1 = k then (p.1, v) else p).1 = p.1
    split <;> rfl
  · rw [if_neg (fun q => h (va_some_iff.mp (by rw [valueAt_isSome_eq_any]; exact q))), if_neg h, List.map_append]
    rfl
theorem va_without {kvs : List (K × Value)} {k k' : K} : valueAt (without kvs k) k' = if k' = k then none else valueAt kvs k' := by
  unfold without
  induction kvs with
  | nil => simp [valueAt]
  | cons p r ih =>
    obtain ⟨k₀, v₀⟩ := p
    rw [List.filter_cons]
    by_cases e : k₀ = k
    · subst e
      simp only [ne_eq, not_true_eq_false, decide_false, Bool.false_eq_true, if_false]
      rw [ih, va_cons]
      by_cases e2 : k' = k₀
      · rw [if_pos e2, if_pos e2]
      · rw [if_neg e2, if_neg e2, if_neg (Ne.symm e2)]
    · simp only [ne_eq, e, not_false_eq_true, decide_true, if_true]
      rw [va_cons, va_cons, ih]
      by_cases e2 : k₀ = k'
      · rw [if_pos e2, if_pos e2, if_neg]; rw [← e2]; exact e
      · rw [if_neg e2, if_neg e2]
theorem keys_without {kvs : List (K × Value)} {k : K} : (without kvs k).map (·.1) = (kvs.map (·.1)).filter fun x => decide (x ≠ k) := by
  unfold without
  rw [List.filter_map]; rfl
end
theorem rkey_eq {a b : Nat} (ha : a < 4) (hb : b < 4) : rkey a = rkey b ↔ a = b := by
  have := (rkey_inj a (List.mem_range.mpr ha) b (List.mem_range.mpr hb)).1
  constructor
  · intro e; rw [e] at this; simpa using this.symm
  · rintro rfl; rfl
theorem KV.has {kvs : List (Str × Value)} {g : Regs} {rs : List Nat} (h : KV kvs g rs) {k : Nat} (hk : k < 4) : rkey k ∈ kvs.map (·.1) ↔ k ∈ rs := by
  rw [h.keys]
  constructor
  · intro q
    obtain ⟨r, hr, e⟩ := List.mem_map.mp q
    exact ((rkey_eq ((ranks_lt rs h.mem).1 r hr) hk).mp e) ▸ hr
  · exact fun q => List.mem_map_of_mem q
theorem KV.some_iff {kvs : List (Str × Value)} {g : Regs} {rs : List Nat} (h : KV kvs g rs) {k : Nat} (hk : k < 4) : (valueAt kvs (rkey k)).isSome = (g k).isSome := by
  have := h.vals k hk
  cases e : g k with
  | none => rw [e] at this; rw [this]; rfl
  | some x => rw [e] at this; obtain ⟨t, q⟩ := this; rw [q]; rfl
theorem KV.set {kvs : List (Str × Value)} {g : Regs} {rs : List Nat} (h : KV kvs g rs) {k : Nat} (hk : k < 4) (x : Int) (t : Tok) : ∃ rs', KV (stored kvs (rkey k) (.int x t)) (put g k (some x)) rs' := by
  have hv : ∀ k', k' < 4 → match put g k (some x) k' with | none => valueAt (stored kvs (rkey k) (.int x t)) (rkey k') = none | some x' => ∃ t', valueAt (stored kvs (rkey k) (.int x t)) (rkey k') = some (.int x' t') := fun k' hk' => by
    rw [va_stored]
    unfold put
    by_cases e : k' = k
    · subst e; rw [if_pos rfl, if_pos rfl]; exact ⟨t, rfl⟩
    · rw [if_neg e, if_neg (fun q => e ((rkey_eq hk' hk).mp q))]; exact h.vals k' hk'
  by_cases hm : k ∈ rs
  · exact ⟨rs, h.mem, by rw [keys_stored, if_pos ((h.has hk).mpr hm)]; exact h.keys, hv⟩
  · refine ⟨rs ++ [k], ranks_add rs h.mem k (List.mem_range.mpr hk) (by simpa using hm), ?_, hv⟩
    rw [keys_stored, if_neg (fun q => hm ((h.has hk).mp q)), h.keys, List.map_append]
    rfl
theorem KV.del {kvs : List (Str × Value)} {g : Regs} {rs : List Nat} (h : KV kvs g rs) {k : Nat} (hk : k < 4) : ∃ rs', KV (without kvs (rkey k)) (put g k none) rs' := by
  refine ⟨rs.erase k, ranks_del rs h.mem k (List.mem_range.mpr hk), ?_, fun k' hk' => ?_⟩
  · rw [keys_without, h.keys, List.filter_map, ((ranks_lt rs h.mem).2.1).erase_eq_filter]
    congr 1
    refine List.filter_congr fun r hr => ?_
    have := rkey_eq ((ranks_lt rs h.mem).1 r hr) hk
    by_cases e : r = k
    · subst e; simp
    · have h1 : rkey r ≠ rkey k := fun q => e (this.mp q)
      simp [e, h1]
  · rw [va_without]
    unfold put
    by_cases e : k' = k
    · subst e; rw [if_pos rfl, if_pos rfl]
    · rw [if_neg e, if_neg (fun q => e ((rkey_eq hk' hk).mp q))]; exact h.vals k' hk'
theorem KV.start : KV [] (fun _ => none) [] := ⟨by decide, rfl, fun k _ => rfl⟩
theorem KV.len {kvs : List (Str × Value)} {g : Regs} {rs : List Nat} (h : KV kvs g rs) : kvs.length ≤ sizeLine := by
  have e : kvs.length = rs.length := by have := congrArg List.length h.keys; simpa using this
  rw [e]; exact Nat.le_trans (ranks_lt rs h.mem).2.2 (by decide)
theorem KV.nodup {kvs : List (Str × Value)} {g : Regs} {rs : List Nat} (h : KV kvs g rs) : (kvs.map (·.1)).Nodup := by
  rw [h.keys]
  refine List.pairwise_map.mpr (((ranks_lt rs h.mem).2.1).imp_of_mem fun {a b} ha hb hab e => ?_)
  exact hab ((rkey_eq ((ranks_lt rs h.mem).1 a ha) ((ranks_lt rs h.mem).1 b hb)).mp e)
theorem KV.apart {kvs : List (Str × Value)} {g : Regs} {rs : List Nat} (h : KV kvs g rs) (l : List Str) (hl : ∀ x ∈ l, x ∈ [Str.ofString "name_index", Str.ofString "get_name", Str.ofString "at"]) : ∀ k ∈ kvs.map (·.1), k ∉ l := by
  rw [h.keys]
  intro k hk hkl
  obtain ⟨r, hr, rfl⟩ := List.mem_map.mp hk
  exact rkey_not r (List.mem_range.mpr ((ranks_lt rs h.mem).1 r hr)) (hl _ hkl)
end Mine

namespace Mine
open PySem PySem.W PyProof.Rows PySem.Calls PySem.Spec
section
variable {prog : Program} {w : World} {A : Around} {E : Value → Shared → Prop} {s : Shared} {base : Heap} {os₀ : OsState} {led : Led} {env : Env}
/-- a store of a local name; what else the names are stays -/
theorem st_g {x : Str} {v : Value} {m : Str → Option Value} {led' : (Str → Option Value) → Led} {Q : Unit → Shared → Prop} (H : St base os₀ led s) (U : ∀ m', Up env.locals (nsA m) (nsA m') led (led' m'))
    (h : ∀ m' s', m' x = some v → (∀ y, y ≠ x → m' y = m y) → St base os₀ (led' m') s' → Q () s') (hk : env.scope.kind = .function := by rfl) (hx : env.kindOf x = some .local := by rfl) :
    wpAny (model prog w) A (storeName env x v) Q E s :=
  st_l H (U _) (fun s' H' => h _ s' (if_pos rfl) (fun y hy => if_neg hy) H') hk hx
theorem ld_l {x : Str} {v : Value} {m : Str → Option Value} {Q : Value → Shared → Prop} (H : St base os₀ led s) (hm : (env.locals, nsA m) ∈ led) (hv : m x = some v) (h : Q v s)
    (hk : env.scope.kind = .function := by rfl) (hx : env.kindOf x = some .local := by rfl) : wpAny (model prog w) A (loadName env x) Q E s := wpAny_loadName_local hk hx (H.ns hm) hv h
end
theorem up_head {a : Addr} {P : Asn} {P' : Asn} {l : Led} : Up a P P' ((a, P) :: l) ((a, P') :: l) := .head
def plainStmt : Stmt := nth 5 PySem.Challenge.pw_dm0069_10.main.body
def stepStmt : Stmt := nth 6 PySem.Challenge.pw_dm0069_10.main.body
def lawStmt10 : Stmt := nth 7 PySem.Challenge.pw_dm0069_10.main.body
abbrev stepEnv (fname fqual : Str) (fkwd fdoc fmod : Value) (fann : Option Addr) (fcode fct : Value) (L fF : Addr) : Env :=
  callEnv { name := fname, qualname := fqual, params := fnPar stepStmt, body := .stmts (fnBody stepStmt), scope := fnScope stepStmt, globals := mainGlobals, closure := [], defaults := .none, kwdefaults := fkwd, doc := fdoc, pyModule := fmod, annotations := fann, code := fcode, closureTuple := fct, builtins := builtinsNs } L fF
def ifElse : Stmt → List Stmt | .If _ _ e _ => e | _ => []
def els1 : List Stmt := ifElse (nth 7 (fnBody stepStmt))
def els2 : List Stmt := ifElse (nth 0 els1)
theorem put_same {g : Regs} {k : Nat} (h : g k = none) : put g k none = g := by
  funext i; unfold put; split
  · rename_i e; rw [e, h]
  · rfl
section
variable {prog : Program} {w : World} {A : Around} {E : Value → Shared → Prop} {s : Shared} {base : Heap} {os₀ : OsState} {led : Led} {mg mb : Str → Option Value} {L fF dW : Addr} {kvs : List (Str × Value)} {g : Regs} {rs : List Nat} {m : Str → Option Value} {n : Int} {p : Nat} {Q : Flow → Shared → Prop}
  {fname fqual : Str} {fkwd fdoc fmod : Value} {fann : Option Addr} {fcode fct : Value}

theorem s_words {tn td tm to tp : Tok} (R : Room prog w A base) (G : Gr base mg mb) (K : KV kvs g rs)
    (hw : m (Str.ofString "words") = some (.ref dW)) (hn : m (Str.ofString "n") = some (.int n tn)) (hd : m (Str.ofString "deed") = some (.int (deedOf n) td)) (hmi : m (Str.ofString "mine") = some (.str (rkey (mineOf n)) tm)) (hot : m (Str.ofString "other") = some (.str (rkey (otherOf n)) to)) (hat : m (Str.ofString "at") = some (.int (p : Nat) tp))
    (H : St base os₀ ((L, nsA m) :: (dW, dctA (strKind prog w) kvs) :: led) s)
    (h : ∀ m' kvs' rs' t' s', KV kvs' (stepG n g) rs' → (∀ y, y ≠ Str.ofString "at" → y ≠ Str.ofString "held" → m' y = m y) → m' (Str.ofString "at") = some (.int ((stepAt n p : Nat) - 1 : Int) t') → St base os₀ ((L, nsA m') :: (dW, dctA (strKind prog w) kvs') :: led) s' →
      wpAny (model prog w) A (execs ((fnBody stepStmt).drop 8) (stepEnv fname fqual fkwd fdoc fmod fann fcode fct L fF)) Q E s') :
    wpAny (model prog w) A (execs ((fnBody stepStmt).drop 7) (stepEnv fname fqual fkwd fdoc fmod fann fcode fct L fF)) Q E s := by
  obtain ⟨o₀, hsys⟩ := G.sys
  obtain ⟨hm4, hme⟩ := mine_lt n
  obtain ⟨ho4, hoe⟩ := other_lt n
  have hlo : 0 ≤ deedOf n := Int.fmod_nonneg_of_pos _ (by decide)
  have hhi : deedOf n < 5 := Int.fmod_lt_of_pos _ (by decide)
  have hat' : ∀ {q : Nat}, q = stepAt n p → ((q : Nat) - 1 : Int) = ((stepAt n p : Nat) - 1 : Int) := fun e => by rw [e]
  have same : deedOf n ≠ 3 → m (Str.ofString "at") = some (.int ((stepAt n p : Nat) - 1 : Int) tp) := fun hne => by
    rw [hat]; unfold stepAt; rw [if_neg hne]; congr 2; push_cast; omega
  have dl : ∀ {kvs' : List (Str × Value)} {m' : Str → Option Value} {s' : Shared}, (dW, dctA (strKind prog w) kvs') ∈ ((L, nsA m') :: (dW, dctA (strKind prog w) kvs') :: led) := .tail _ (.head _)
  have rest2 : ∀ s₂ (E' : Value → Shared → Prop) (QQ : Flow → Shared → Prop), St base os₀ ((L, nsA m) :: (dW, dctA (strKind prog w) kvs) :: led) s₂ → deedOf n ≠ 0 → (deedOf n = 1 → g (mineOf n) = none) → (∀ s', wpAny (model prog w) A (execs ((fnBody stepStmt).drop 8) (stepEnv fname fqual fkwd fdoc fmod fann fcode fct L fF)) Q E s' → QQ .next s') →
      wpAny (model prog w) A (execs els2 (stepEnv fname fqual fkwd fdoc fmod fann fcode fct L fF)) QQ E' s₂ := fun s₂ E' QQ H₂ hne0 hd1 hQQ => by
    refine wpAny_execs_cons (wpAny_If (wpAny_isTrue_Compare1 (nm_l H₂ (.head _) hd (c_int H₂ fun u1 s₃ H₃ => PyProof.Rows.eq_int (wpAny_truthy_bool ?_)))))
    by_cases h2 : deedOf n = 2
    · refine ite_pos (by rw [h2]; decide) ?_
      refine wpAny_execs_cons (wpAny_Assign_Subscript (wpAny_BinOp (wpAny_Call_method2_late rfl rfl rfl (nm_l H₃ (.head _) hw (d_get H₃ hsys (.tail _ (.head _)) (nm_l H₃ (.head _) hmi (c_int H₃ fun u2 s₄ H₄ => ⟨_, _, rfl, H₄, fun s₅ H₅ => ?_⟩)))))))
      refine wpAny_Call_method2_late rfl rfl rfl (nm_l H₅ (.head _) hw (d_get H₅ hsys (.tail _ (.head _)) (nm_l H₅ (.head _) hot (c_int H₅ fun u3 s₆ H₆ => ⟨_, _, rfl, H₆, fun s₇ H₇ => ?_⟩))))
      have val : ∀ k, k < 4 → ∀ u : Tok, ∃ t, (valueAt kvs (rkey k)).getD (.int 1 u) = .int ((g k).getD 1) t := fun k hk u => by
        have := K.vals k hk
        cases e : g k with
        | none => rw [e] at this; rw [this]; exact ⟨u, rfl⟩
        | some x => rw [e] at this; obtain ⟨t, q⟩ := this; rw [q]; exact ⟨t, rfl⟩
      obtain ⟨t1, e1⟩ := val _ hm4 u2
      obtain ⟨t2, e2⟩ := val _ ho4 u3
      rw [e1, e2]
      refine PyProof.Rows.add_int ?_
      have H₈ : St base os₀ _ { s₇ with toks := s₇.toks + 1 } := H₇.tok
      refine nm_l H₈ (.head _) hw (nm_l H₈ (.head _) hmi (set_item H₈ (.tail .head) (fun s₉ H₉ => wpAny_execs_nil (wpAny_execs_nil ?_)) K.len))
      obtain ⟨rs', K'⟩ := K.set hm4 ((g (mineOf n)).getD 1 + (g (otherOf n)).getD 1) s₇.toks
      refine hQQ _ (h m _ rs' tp s₉ ?_ (fun y _ _ => rfl) (same (by rw [h2]; decide)) H₉)
      unfold stepG; rw [if_neg hne0, if_neg (by rw [h2]; decide), if_pos h2]; exact K'
    refine ite_neg (by simpa using h2) (wpAny_execs_cons (wpAny_If (wpAny_isTrue_Compare1 (nm_l H₃ (.head _) hd (c_int H₃ fun u2 s₄ H₄ => PyProof.Rows.eq_int (wpAny_truthy_bool ?_))))))
    by_cases h3 : deedOf n = 3
    · refine ite_pos (by rw [h3]; decide) ?_
      refine wpAny_execs_cons (wpAny_AugAssign_Name (ld_l H₄ (.head _) hat (c_int H₄ fun u3 s₅ H₅ => PyProof.Rows.iadd_int ?_)))
      have H₆ : St base os₀ _ { s₅ with toks := s₅.toks + 1 } := H₅.tok
      refine st_g H₆ (fun _ => up_head) fun m' s₆ e k H₇ => wpAny_execs_nil (wpAny_execs_nil (wpAny_execs_nil ?_))
      refine hQQ _ (h m' kvs rs s₅.toks s₆ ?_ (fun y hy _ => k y hy) ?_ H₇)
      · unfold stepG; rw [if_neg hne0, if_neg (by rw [h3]; decide), if_neg h2, if_pos h3]; exact K
      · rw [e]; unfold stepAt; rw [if_pos h3]; congr 2; push_cast; omega
    refine ite_neg (by simpa using h3) (wpAny_execs_cons (wpAny_If (wpAny_isTrue_BoolOp (wpAny_allTrue_And_cons (wpAny_isTrue_Compare1 (nm_l H₄ (.head _) hd (c_int H₄ fun u3 s₅ H₅ => PyProof.Rows.eq_int (wpAny_truthy_bool ?_))))))))
    have nothing : ∀ s', St base os₀ ((L, nsA m) :: (dW, dctA (strKind prog w) kvs) :: led) s' → stepG n g = g → QQ .next s' := fun s' H' hg => hQQ _ (h m kvs rs tp s' (by rw [hg]; exact K) (fun y _ _ => rfl) (same h3) H')
    by_cases h4 : deedOf n = 4
    · refine ite_pos (by rw [h4]; decide) ?_
      have hstep : stepG n g = if (g (mineOf n)).isSome ∧ (g (otherOf n)).isSome then put (put g (mineOf n) (g (otherOf n))) (otherOf n) (g (mineOf n)) else g := by
        unfold stepG; rw [if_neg hne0, if_neg (by rw [h4]; decide), if_neg h2, if_neg h3]
      refine wpAny_allTrue_And_cons (wpAny_isTrue_Compare1 (nm_l H₅ (.head _) hmi (nm_l H₅ (.head _) hw (d_in H₅ hsys (.tail _ (.head _)) fun s₆ H₆ => wpAny_truthy_bool ?_))))
      rw [K.some_iff hm4]
      by_cases hmS : (g (mineOf n)).isSome = true
      · refine ite_pos hmS (wpAny_allTrue_And_cons (wpAny_isTrue_Compare1 (nm_l H₆ (.head _) hot (nm_l H₆ (.head _) hw (d_in H₆ hsys (.tail _ (.head _)) fun s₇ H₇ => wpAny_truthy_bool ?_)))))
        rw [K.some_iff ho4]
        by_cases hoS : (g (otherOf n)).isSome = true
        · refine ite_pos hoS (wpAny_allTrue_And_nil (ite_pos rfl ?_))
          obtain ⟨x, hx⟩ := Option.isSome_iff_exists.mp hmS
          obtain ⟨y, hy⟩ := Option.isSome_iff_exists.mp hoS
          obtain ⟨tx, vx⟩ : ∃ t, valueAt kvs (rkey (mineOf n)) = some (.int x t) := by have := K.vals _ hm4; rw [hx] at this; exact this
          obtain ⟨ty, vy⟩ : ∃ t, valueAt kvs (rkey (otherOf n)) = some (.int y t) := by have := K.vals _ ho4; rw [hy] at this; exact this
          refine wpAny_execs_cons (wpAny_Assign_Name (Subscript_ (nm_l H₇ (.head _) hw (nm_l H₇ (.head _) hmi (d_item H₇ (.tail _ (.head _)) vx fun s₈ H₈ => st_g H₈ (fun _ => up_head) fun m' s₉ e k H₉ => ?_)))))
          have hw' := (k (Str.ofString "words") (by decide)).trans hw
          have hmi' := (k (Str.ofString "mine") (by decide)).trans hmi
          have hot' := (k (Str.ofString "other") (by decide)).trans hot
          refine wpAny_execs_cons (wpAny_Assign_Subscript (Subscript_ (nm_l H₉ (.head _) hw' (nm_l H₉ (.head _) hot' (d_item H₉ (.tail _ (.head _)) vy fun s₁₀ H₁₀ => nm_l H₁₀ (.head _) hw' (nm_l H₁₀ (.head _) hmi' (set_item H₁₀ (.tail .head) (fun s₁₁ H₁₁ => ?_) K.len)))))))
          obtain ⟨rs1, K1⟩ := K.set hm4 y ty
          refine wpAny_execs_cons (wpAny_Assign_Subscript (nm_l H₁₁ (.head _) e (nm_l H₁₁ (.head _) hw' (nm_l H₁₁ (.head _) hot' (set_item H₁₁ (.tail .head) (fun s₁₂ H₁₂ => wpAny_execs_nil (wpAny_execs_nil (wpAny_execs_nil (wpAny_execs_nil ?_)))) K1.len)))))
          obtain ⟨rs2, K2⟩ := K1.set ho4 x tx
          refine hQQ _ (h m' _ rs2 tp s₁₂ ?_ (fun y _ hy => k y hy) ((k _ (by decide)).trans (same h3)) H₁₂)
          rw [hstep, if_pos ⟨hmS, hoS⟩, hx, hy]; exact K2
        · refine ite_neg hoS (ite_neg (by decide) (wpAny_execs_nil (wpAny_execs_nil (wpAny_execs_nil (wpAny_execs_nil (nothing _ H₇ ?_))))))
          rw [hstep, if_neg (fun q => hoS q.2)]
      · refine ite_neg hmS (ite_neg (by decide) (wpAny_execs_nil (wpAny_execs_nil (wpAny_execs_nil (wpAny_execs_nil (nothing _ H₆ ?_))))))
        rw [hstep, if_neg (fun q => hmS q.1)]
    · have h1 : deedOf n = 1 := by omega
      refine ite_neg (by simpa using h4) (ite_neg (by decide) (wpAny_execs_nil (wpAny_execs_nil (wpAny_execs_nil (wpAny_execs_nil (nothing _ H₅ ?_))))))
      unfold stepG; rw [if_neg hne0, if_pos h1]; exact put_same (hd1 h1)
  refine wpAny_execs_cons (wpAny_If (wpAny_isTrue_Compare1 (nm_l H (.head _) hd (c_int H fun u1 s₁ H₁ => PyProof.Rows.eq_int (wpAny_truthy_bool ?_)))))
  by_cases h0 : deedOf n = 0
  · refine ite_pos (by rw [h0]; decide) ?_
    refine wpAny_execs_cons (wpAny_Assign_Subscript (wpAny_BinOp (wpAny_BinOp (nm_l H₁ (.head _) hn (c_int H₁ fun u2 s₂ H₂ => i_fdiv R H₂ (by decide) fun u3 s₃ H₃ => c_int H₃ fun u4 s₄ H₄ => i_mod H₄ (by decide) fun u5 s₅ H₅ => nm_l H₅ (.head _) hw (nm_l H₅ (.head _) hmi (set_item H₅ (.tail .head) (fun s₆ H₆ => wpAny_execs_nil ?_) K.len)))))))
    obtain ⟨rs', K'⟩ := K.set hm4 ((n.fdiv 80).fmod 1000) u5
    refine h m _ rs' tp s₆ ?_ (fun y _ _ => rfl) (same (by rw [h0]; decide)) H₆
    unfold stepG; rw [if_pos h0]; exact K'
  refine ite_neg (by simpa using h0) (wpAny_execs_cons (wpAny_If (wpAny_isTrue_BoolOp (wpAny_allTrue_And_cons (wpAny_isTrue_Compare1 (nm_l H₁ (.head _) hd (c_int H₁ fun u2 s₂ H₂ => PyProof.Rows.eq_int (wpAny_truthy_bool ?_))))))))
  by_cases h1 : deedOf n = 1
  · refine ite_pos (by rw [h1]; decide) ?_
    refine wpAny_allTrue_And_cons (wpAny_isTrue_Compare1 (nm_l H₂ (.head _) hmi (nm_l H₂ (.head _) hw (d_in H₂ hsys (.tail _ (.head _)) fun s₃ H₃ => wpAny_truthy_bool ?_))))
    rw [K.some_iff hm4]
    by_cases hmS : (g (mineOf n)).isSome = true
    · refine ite_pos hmS (wpAny_allTrue_And_nil (ite_pos rfl ?_))
      obtain ⟨v, hv⟩ : ∃ v, valueAt kvs (rkey (mineOf n)) = some v := Option.isSome_iff_exists.mp (by rw [K.some_iff hm4]; exact hmS)
      refine wpAny_execs_cons (wpAny_Expr_any (wpAny_Call_method1_late rfl rfl rfl (nm_l H₃ (.head _) hw (d_pop H₃ hsys (.tail _ (.head _)) K.len (nm_l H₃ (.head _) hmi ⟨_, _, v, _, rfl, H₃, hv, .tail .head, fun s₄ H₄ => wpAny_execs_nil (wpAny_execs_nil ?_)⟩)))))
      obtain ⟨rs', K'⟩ := K.del hm4
      refine h m _ rs' tp s₄ ?_ (fun y _ _ => rfl) (same (by rw [h1]; decide)) H₄
      unfold stepG; rw [if_neg h0, if_pos h1]; exact K'
    · refine ite_neg hmS (ite_neg (by decide) (rest2 _ _ _ H₃ h0 (fun _ => ?_) fun s' q => wpAny_execs_nil q))
      cases e : g (mineOf n) with
      | none => rfl
      | some x => rw [e] at hmS; exact absurd rfl hmS
  · exact ite_neg (by simpa using h1) (ite_neg (by decide) (rest2 _ _ _ H₂ h0 (fun q => absurd q h1) fun s' q => wpAny_execs_nil q))
end
end Mine

namespace Mine
open PySem PySem.W PyProof.Rows PySem.Calls PySem.Spec
structure G10 (base : Heap) (mg mb : Str → Option Value) (fG fS fP u : Addr) (gd sd pd : FuncData) : Prop where
  gr : Gr base mg mb
  dg : IsDef base fG gniStmt gd
  ds : IsDef base fS stepStmt sd
  dp : IsDef base fP plainStmt pd
  hg : mg (Str.ofString "_get_name_info") = some (.ref fG)
  hs : mg (Str.ofString "_law_step") = some (.ref fS)
  hp : mg (Str.ofString "_law_plain") = some (.ref fP)
  hu : mg (Str.ofString "UNKNOWN") = some (.ref u)
  n1 : mg (Str.ofString "len") = none
  n2 : mg (Str.ofString "sorted") = none
  n3 : mg (Str.ofString "str") = none
  n4 : mg (Str.ofString "range") = none
  b1 : mb (Str.ofString "len") = some (.builtin "len")
  b2 : mb (Str.ofString "sorted") = some (.builtin "sorted")
  b3 : mb (Str.ofString "str") = some (.type "str")
  b4 : mb (Str.ofString "range") = some (.type "range")
def lamOf : Stmt → Expr | .Expr (.Call _ (e :: _) _ _) _ => e | _ => default
def lamPar : Expr → Arguments | .Lambda a _ _ _ => a | _ => default
def lamBody : Expr → Expr | .Lambda _ b _ _ => b | _ => default
def lamScope : Expr → Scope | .Lambda _ _ s _ => s | _ => default
def lamE : Expr := lamOf (nth 2 (fnBody lawStmt10))
abbrev lamObj (qual : Str) (cS : Addr) (pm : Value) (c' : Addr) (ctv : Value) : Obj := kla_obj (Str.ofString "<lambda>") qual (lamPar lamE) (lamBody lamE) (lamScope lamE) [(Str.ofString "state", cS)] pm c' ctv
abbrev core10 (S pr pl fa la lam cS c' : Addr) (lo : Obj) (qual : Str) (pv vpl vla : List Value) : Led :=
  [(pl, lstA vpl), (la, lstA vla), (S, lstA [.ref pr, .ref pl, .ref fa, .ref la, .ref lam]), (pr, lstA pv), (fa, lstA []), (lam, objA lo), (cS, celA (some (.ref S))), (c', codeA qual)]
/-- the names in _law_step's frame -/
structure Ns10 (m : Str → Option Value) (S pr pl fa la dW : Addr) : Prop where
  s : m (Str.ofString "state") = some (.ref S)
  w : m (Str.ofString "words") = some (.ref dW)
  pr : m (Str.ofString "program") = some (.ref pr)
  pl : m (Str.ofString "places") = some (.ref pl)
  fa : m (Str.ofString "faults") = some (.ref fa)
  la : m (Str.ofString "last") = some (.ref la)
theorem Ns10.of {m m' : Str → Option Value} {S pr pl fa la dW : Addr} (h : Ns10 m S pr pl fa la dW) (hk : ∀ y ∈ [Str.ofString "state", Str.ofString "words", Str.ofString "program", Str.ofString "places", Str.ofString "faults", Str.ofString "last"], m' y = m y) : Ns10 m' S pr pl fa la dW :=
  ⟨(hk _ (by decide)).trans h.s, (hk _ (by decide)).trans h.w, (hk _ (by decide)).trans h.pr, (hk _ (by decide)).trans h.pl, (hk _ (by decide)).trans h.fa, (hk _ (by decide)).trans h.la⟩
theorem Ns10.set {m m' : Str → Option Value} {S pr pl fa la dW : Addr} {x : Str} (h : Ns10 m S pr pl fa la dW) (hk : ∀ y, y ≠ x → m' y = m y) (hx : x ∉ [Str.ofString "state", Str.ofString "words", Str.ofString "program", Str.ofString "places", Str.ofString "faults", Str.ofString "last"] := by decide) : Ns10 m' S pr pl fa la dW :=
  h.of fun y hy => hk y fun e => hx (e ▸ hy)
section
variable {prog : Program} {w : World} {A : Around} {E : Value → Shared → Prop} {s : Shared} {base : Heap} {os₀ : OsState} {led : Led} {mg mb : Str → Option Value}
  {S pr pl fa la lam cS c' fG fS fP u dW : Addr} {lo : Obj} {qual : Str} {pv vpl vla : List Value} {gd sd pd : FuncData} {Q : Value → Shared → Prop} {kvs : List (Str × Value)} {p : Nat} {t : Tok}

/-- into _law_step, behind its first row -/
theorem step_in (G : G10 base mg mb fG fS fP u gd sd pd) (hroom : A.depth < recursionLimit) (hh : A.handled = none)
    (H : St base os₀ ((dW, dctA (strKind prog w) kvs) :: (core10 S pr pl fa la lam cS c' lo qual pv vpl vla ++ led)) s)
    (h : ∀ fname fqual fkwd fdoc fmod fann fcode fct L m s', Ns10 m S pr pl fa la dW → m (Str.ofString "at") = some (.int (p : Nat) t) → St base os₀ ((L, nsA m) :: (dW, dctA (strKind prog w) kvs) :: (core10 S pr pl fa la lam cS c' lo qual pv vpl vla ++ led)) s' →
      wpAny (model prog w) (A.deeper (stepEnv fname fqual fkwd fdoc fmod fann fcode fct L fS)) (execs ((fnBody stepStmt).drop 1) (stepEnv fname fqual fkwd fdoc fmod fann fcode fct L fS)) (fun fl s'' => Q (match fl with | .ret v => v | _ => .none) s'')
        (fun e s'' => wpAny (model prog w) (A.deeper (stepEnv fname fqual fkwd fdoc fmod fann fcode fct L fS)) (leaving (stepEnv fname fqual fkwd fdoc fmod fann fcode fct L fS) e) (fun _ s₃ => E e s₃) (fun e' s₃ => E e' s₃) s'') s') :
    wpAny (model prog w) A (call (.ref fS) [.ref S, .int (p : Nat) t, .ref dW] []) Q E s := by
  obtain ⟨⟨o, ho, hd⟩, hb, hpar, hsc, hc, hgl, hbi, hdf, hcd⟩ := G.ds
  obtain ⟨fname, fqual, fpar, fbody, fscope, fglob, fclo, fdef, fkwd, fdoc, fmod, fann, fcode, fct, fbui⟩ := sd
  simp only at hb hpar hsc hc hgl hbi hdf hcd
  subst hb hpar hsc hc hgl hbi hdf
  refine fn_enter (args := ⟨[.ref S, .int (p : Nat) t, .ref dW], []⟩) H hroom G.gr.lim (H.keep _ _ ho) hd (hcd.keeps H.keep) rfl (by show ∀ x ∈ (fnScope stepStmt).names, x.2 ≠ NameKind.cell; decide) ?_
  refine wpAny_of_eq (a := [(Str.ofString "state", .ref S), (Str.ofString "at", .int (p : Nat) t), (Str.ofString "words", .ref dW)]) rfl ?_
  refine ⟨_, H, ?_, fun L s₁ H₁ => ?_⟩
  · intro x hx
    simp only [List.mem_cons, List.not_mem_nil, or_false] at hx
    rcases hx with rfl | rfl | rfl <;> rfl
  have m1 : ∀ (x y : Addr × Asn), (S, lstA [.ref pr, .ref pl, .ref fa, .ref la, .ref lam]) ∈ (x :: y :: (core10 S pr pl fa la lam cS c' lo qual pv vpl vla ++ led)) := fun x y => .tail _ (.tail _ (.tail _ (.tail _ (.head _))))
  refine wpAny_execs_cons (Assign_Tuple (Tuple_ (wpAny_items_cons (Subscript_ (nm_l H₁ (.head _) rfl (c_int H₁ fun t1 s₂ H₂ => item_l H₂ (m1 _ _) (by decide) (by decide) rfl (wpAny_items_cons (Subscript_ (nm_l H₂ (.head _) rfl (c_int H₂ fun t2 s₃ H₃ => item_l H₃ (m1 _ _) (by decide) (by decide) rfl
    (wpAny_items_cons (Subscript_ (nm_l H₃ (.head _) rfl (c_int H₃ fun t3 s₄ H₄ => item_l H₄ (m1 _ _) (by decide) (by decide) rfl (wpAny_items_cons (Subscript_ (nm_l H₄ (.head _) rfl (c_int H₄ fun t4 s₅ H₅ => item_l H₅ (m1 _ _) (by decide) (by decide) rfl (wpAny_items_nil (new_tuple H₅ fun T s₆ H₆ => ?_))))))))))))))))))))
  refine assign_Tuple_tuple (items := #[.ref pr, .ref pl, .ref fa, .ref la]) hh (H₆.isTup (vs := [.ref pr, .ref pl, .ref fa, .ref la]) (.head _)) rfl rfl fun h' hx' => ?_
  have H₇ := (H₆.sub (.cons _ (.refl _))).grown (tk := s₆.toks) hx'
  refine assignInOrder_cons (wpAny_assign_Name (st_g H₇ (fun _ => up_head) fun m₁ s₇ e₁ k₁ H₈ => assignInOrder_cons (wpAny_assign_Name (st_g H₈ (fun _ => up_head) fun m₂ s₈ e₂ k₂ H₉ => assignInOrder_cons (wpAny_assign_Name (st_g H₉ (fun _ => up_head) fun m₃ s₉ e₃ k₃ H₁₀ => assignInOrder_cons (wpAny_assign_Name (st_g H₁₀ (fun _ => up_head) fun m₄ s₁₀ e₄ k₄ H₁₁ => assignInOrder_nil ?_))))))))
  have back : ∀ y, y ≠ Str.ofString "program" → y ≠ Str.ofString "places" → y ≠ Str.ofString "faults" → y ≠ Str.ofString "last" → m₄ y = [(Str.ofString "state", Value.ref S), (Str.ofString "at", .int (p : Nat) t), (Str.ofString "words", .ref dW)].reverse.lookup y :=
    fun y a b c d => (k₄ y d).trans ((k₃ y c).trans ((k₂ y b).trans (k₁ y a)))
  exact h fname fqual fkwd fdoc fmod fann fcode fct L m₄ s₁₀ ⟨(back _ (by decide) (by decide) (by decide) (by decide)).trans rfl, (back _ (by decide) (by decide) (by decide) (by decide)).trans rfl, (k₄ _ (by decide)).trans ((k₃ _ (by decide)).trans ((k₂ _ (by decide)).trans e₁)), (k₄ _ (by decide)).trans ((k₃ _ (by decide)).trans e₂), (k₄ _ (by decide)).trans e₃, e₄⟩
    ((back _ (by decide) (by decide) (by decide) (by decide)).trans rfl) H₁₁
end
end Mine

namespace Mine
open PySem PySem.W PyProof.Rows PySem.Calls PySem.Spec
theorem Up.app {a : Addr} {P P' : Asn} {l l' : Led} (u : Up a P P' l l') : ∀ x : Led, Up a P P' (x ++ l) (x ++ l')
  | [] => u
  | _ :: r => .tail (Up.app u r)
/-- the sorted words are the registers -/
def TL (tl : List Tup2) (g : Regs) : Prop := ∃ tf : Nat → Tok, tl.map (fun x => (x.2.1, x.2.2.2)) = ((List.range 4).filter fun r => (g r).isSome).map fun r => (rkey r, .int ((g r).getD 0) (tf r))
theorem KV.out {kvs : List (Str × Value)} {g : Regs} {rs : List Nat} (h : KV kvs g rs) {tl : List Tup2} (e : tl.map (fun x => (x.2.1, x.2.2.2)) = ((List.range 4).filter rs.contains).map (fun r => (rkey r, (valueAt kvs (rkey r)).getD .none))) : TL tl g := by
  have ht : ∀ r, ∃ t, r < 4 → (g r).isSome = true → (valueAt kvs (rkey r)).getD .none = .int ((g r).getD 0) t := fun r => by
    by_cases hr : r < 4
    · have := h.vals r hr
      cases e : g r with
      | none => exact ⟨0, fun _ q => by cases q⟩
      | some x => rw [e] at this; obtain ⟨t, q⟩ := this; exact ⟨t, fun _ _ => by rw [q]; rfl⟩
    · exact ⟨0, fun q => absurd q hr⟩
  refine ⟨fun r => (ht r).choose, e.trans ?_⟩
  have ef : (List.range 4).filter rs.contains = (List.range 4).filter fun r => (g r).isSome := by
    refine List.filter_congr fun r hr => ?_
    have hr := List.mem_range.mp hr
    have h1 := h.some_iff hr
    have h2 := h.has hr
    have h3 := va_some_iff (kvs := kvs) (k := rkey r)
    rw [← h1]
    by_cases q : r ∈ rs
    · rw [h3.mpr (h2.mpr q)]; simpa using q
    · have : ¬ (valueAt kvs (rkey r)).isSome = true := fun x => q (h2.mp (h3.mp x))
      rw [Bool.eq_false_iff.mpr this]; simpa using q
  rw [ef]
  refine List.map_congr_left fun r hr => ?_
  obtain ⟨hr1, hr2⟩ := List.mem_filter.mp hr
  rw [(ht r).choose_spec (List.mem_range.mp hr1) hr2]
section
variable {prog : Program} {w : World} {A : Around} {E : Value → Shared → Prop} {s : Shared} {base : Heap} {os₀ : OsState} {led : Led} {mg mb : Str → Option Value}
  {S pr pl fa la lam cS c' fG fS fP u dW L : Addr} {lo : Obj} {qual : Str} {pv vpl vla : List Value} {gd sd pd : FuncData} {Q : Flow → Shared → Prop} {kvs : List (Str × Value)} {p : Nat} {t : Tok} {m : Str → Option Value} {g : Regs} {rs : List Nat}
  {fname fqual : Str} {fkwd fdoc fmod : Value} {fann : Option Addr} {fcode fct : Value}

/-- behind the last row -/
theorem step_end (R : Room prog w A base) (G : G10 base mg mb fG fS fP u gd sd pd) (K : KV kvs g rs) (hN : Ns10 m S pr pl fa la dW) (hat : m (Str.ofString "at") = some (.int (p : Nat) t)) (hp : pv.length ≤ p) (hpv : pv.length < 1000)
    (H : St base os₀ ((L, nsA m) :: (dW, dctA (strKind prog w) kvs) :: (core10 S pr pl fa la lam cS c' lo qual pv vpl [] ++ led)) s)
    (h : ∀ D tl tl' s', (∀ x ∈ tl', x ∈ tl) → TL tl' g → St base os₀ ((D, lstA (tl'.map fun x => .ref x.1)) :: (tupLed tl ++ (core10 S pr pl fa la lam cS c' lo qual pv vpl [.ref D] ++ led))) s' → Q (.ret (.ref D)) s') :
    wpAny (model prog w) A (execs ((fnBody stepStmt).drop 1) (stepEnv fname fqual fkwd fdoc fmod fann fcode fct L fS)) Q E s := by
  obtain ⟨o₀, hsys⟩ := G.gr.sys
  have hpl := H.isList (a := pr) (vs := pv) (.tail _ (.tail _ (.tail _ (.tail _ (.tail _ (.head _))))))
  refine wpAny_execs_cons (wpAny_If (wpAny_isTrue_BoolOp (wpAny_allTrue_Or_cons (wpAny_isTrue_Compare1 (nm_l H (.head _) hat (wpAny_Call_ofName (nm_b H G.gr.g G.gr.b G.n1 G.b1 (callWith_builtin rfl (evalArgs_plain (spliced_cons (nm_l H (.head _) hN.pr (spliced_nil (PyProof.Rows.len_list hpl (by rw [List.size_toArray]; omega) ?_)))))))))))))
  have H₁ : St base os₀ _ { s with toks := s.toks + 1 + 1 } := H.tok
  refine PyProof.Rows.ge_int (wpAny_truthy_bool (ite_pos (by rw [List.size_toArray]; simpa using (by omega : (pv.length : Int) ≤ (p : Int))) (ite_pos rfl ?_)))
  refine wpAny_execs_cons (wpAny_Expr (l_append_stmt (l := la) (nm_l H₁ (.head _) hN.la ⟨rfl, ?_, ?_⟩)))
  · obtain ⟨ol, hol, n, rfl⟩ := H₁.get (a := la) (P := lstA []) (.tail _ (.tail _ (.tail _ (.head _)))); exact ⟨_, hol, rfl, rfl⟩
  refine wpAny_Call_ofName (nm_b H₁ G.gr.g G.gr.b G.n2 G.b2 (callWith_builtin rfl (evalArgs_plain (spliced_cons (wpAny_Call_method0_late rfl rfl (nm_l H₁ (.head _) hN.w (d_items H₁ hsys (.tail _ (.head _)) fun v s₂ H₂ => spliced_nil ?_)))))))
  refine sorted_items (key := rkey) K.mem K.keys rkey_inj H₂ (.head _) (.tail _ (.tail _ (.head _))) R.handled fun D tl tl' s₃ hsub hout H₃ => ?_
  refine l_append H₃ (.tail (Up.app (.tail (.tail (.tail (.tail .head)))) (tupLed tl))) (fun s₄ H₄ => ?_) (by decide)
  have mL : ∀ (x : Addr × Asn), (L, nsA m) ∈ (x :: (tupLed tl ++ ((v, objA { cls := .type "dict_items", data := .fields #[.ref dW] }) :: (L, nsA m) :: (dW, dctA (strKind prog w) kvs) :: (core10 S pr pl fa la lam cS c' lo qual pv vpl ([] ++ [.ref D]) ++ led)))) := fun x => .tail _ (List.mem_append_right _ (.tail _ (.head _)))
  refine wpAny_execs_cons (wpAny_Return_some (Subscript_ (nm_l H₄ (mL _) hN.la (c_int H₄ fun u1 s₅ H₅ => item_l (x := .ref D) H₅ (.tail _ (List.mem_append_right _ (.tail _ (.tail _ (.tail _ (.tail _ (.head _))))))) (by decide) (by decide) rfl ?_))))
  exact h D tl tl' s₅ hsub (K.out hout) (H₅.sub (.cons_cons _ (List.Sublist.append (.refl _) (.cons _ (.cons _ (.cons _ (.refl _)))))))
end
end Mine

namespace Mine
open PySem PySem.W PyProof.Rows PySem.Calls PySem.Spec
theorem small4 {a : Int} (h0 : 0 ≤ a) (h4 : a < 4) : a.natAbs.log2 < 1920 ∧ (Str.ofString "r").length + (Str.ofString (toString a)).length ≤ sizeLine := by
  have : a = 0 ∨ a = 1 ∨ a = 2 ∨ a = 3 := by omega
  rcases this with rfl | rfl | rfl | rfl <;> decide
section
variable {prog : Program} {w : World} {A : Around} {E : Value → Shared → Prop} {s : Shared} {base : Heap} {os₀ : OsState} {led : Led} {mg mb : Str → Option Value}
  {S pr pl fa la lam cS c' fG fS fP u dW L : Addr} {lo : Obj} {qual : Str} {pv vpl vla : List Value} {gd sd pd : FuncData} {Q : Flow → Shared → Prop} {kvs : List (Str × Value)} {p : Nat} {t tn : Tok} {m : Str → Option Value} {g : Regs} {rs : List Nat} {n : Int}
  {fname fqual : Str} {fkwd fdoc fmod : Value} {fann : Option Addr} {fcode fct : Value}

/-- a row: its place is kept, its deed is done on the words -/
theorem step_row (R : Room prog w A base) (G : G10 base mg mb fG fS fP u gd sd pd) (K : KV kvs g rs) (hN : Ns10 m S pr pl fa la dW) (hat : m (Str.ofString "at") = some (.int (p : Nat) t)) (hp : pv[p]? = some (.int n tn)) (hpv : pv.length < 1000) (hvp : vpl.length ≤ 99)
    (H : St base os₀ ((L, nsA m) :: (dW, dctA (strKind prog w) kvs) :: (core10 S pr pl fa la lam cS c' lo qual pv vpl [] ++ led)) s)
    (h : ∀ m' kvs' rs' t' s', Ns10 m' S pr pl fa la dW → KV kvs' (stepG n g) rs' → m' (Str.ofString "at") = some (.int ((stepAt n p : Nat) - 1 : Int) t') → St base os₀ ((L, nsA m') :: (dW, dctA (strKind prog w) kvs') :: (core10 S pr pl fa la lam cS c' lo qual pv (vpl ++ [.int (p : Nat) t]) [] ++ led)) s' →
      wpAny (model prog w) A (execs ((fnBody stepStmt).drop 8) (stepEnv fname fqual fkwd fdoc fmod fann fcode fct L fS)) Q E s') :
    wpAny (model prog w) A (execs ((fnBody stepStmt).drop 1) (stepEnv fname fqual fkwd fdoc fmod fann fcode fct L fS)) Q E s := by
  have hplt : p < pv.length := by
    rcases Nat.lt_or_ge p pv.length with q | q
    · exact q
    · rw [List.getElem?_eq_none q] at hp; cases hp
  have hprl := H.isList (a := pr) (vs := pv) (.tail _ (.tail _ (.tail _ (.tail _ (.tail _ (.head _))))))
  refine wpAny_execs_cons (wpAny_If (wpAny_isTrue_BoolOp (wpAny_allTrue_Or_cons (wpAny_isTrue_Compare1 (nm_l H (.head _) hat (wpAny_Call_ofName (nm_b H G.gr.g G.gr.b G.n1 G.b1 (callWith_builtin rfl (evalArgs_plain (spliced_cons (nm_l H (.head _) hN.pr (spliced_nil (PyProof.Rows.len_list hprl (by rw [List.size_toArray]; omega) ?_)))))))))))))
  have H₁ : St base os₀ _ { s with toks := s.toks + 1 + 1 } := H.tok
  refine PyProof.Rows.ge_int (wpAny_truthy_bool (ite_neg (by rw [List.size_toArray]; simpa using (by omega : (p : Int) < (pv.length : Int))) ?_))
  have hpll := H₁.isList (a := pl) (vs := vpl) (.tail _ (.tail _ (.head _)))
  refine wpAny_allTrue_Or_cons (wpAny_isTrue_Compare1 (wpAny_Call_ofName (nm_b H₁ G.gr.g G.gr.b G.n1 G.b1 (callWith_builtin rfl (evalArgs_plain (spliced_cons (nm_l H₁ (.head _) hN.pl (spliced_nil (PyProof.Rows.len_list hpll (by rw [List.size_toArray]; omega) ?_)))))))))
  have H₂ : St base os₀ _ { ({ s with toks := s.toks + 1 + 1 } : Shared) with toks := s.toks + 1 + 1 + 1 + 1 } := H₁.tok
  refine c_int H₂ fun u1 s₃ H₃ => PyProof.Rows.gt_int (wpAny_truthy_bool (ite_neg (by rw [List.size_toArray]; simpa using (by omega : (vpl.length : Int) ≤ 99)) (wpAny_allTrue_Or_nil (ite_neg (by decide) (wpAny_execs_nil ?_)))))
  refine wpAny_execs_cons (wpAny_Expr (l_append_stmt (l := pl) (nm_l H₃ (.head _) hN.pl ⟨rfl, ?_, nm_l H₃ (.head _) hat (l_append H₃ (.tail (.tail .head)) (fun s₄ H₄ => ?_) (Nat.le_trans hvp (by decide)))⟩)))
  · obtain ⟨ol, hol, k, rfl⟩ := H₃.get (a := pl) (P := lstA vpl) (.tail _ (.tail _ (.head _))); exact ⟨_, hol, rfl, rfl⟩
  refine wpAny_execs_cons (wpAny_Assign_Name (Subscript_ (nm_l H₄ (.head _) hN.pr (nm_l H₄ (.head _) hat (item_l H₄ (.tail _ (.tail _ (.tail _ (.tail _ (.tail _ (.head _)))))) (by omega) (by omega) (by simpa using hp) (st_g H₄ (fun _ => up_head) fun m₁ s₅ e₁ k₁ H₅ => ?_))))))
  refine wpAny_execs_cons (wpAny_Assign_Name (wpAny_BinOp (nm_l H₅ (.head _) e₁ (c_int H₅ fun u2 s₆ H₆ => i_mod H₆ (by decide) fun td s₇ H₇ => st_g H₇ (fun _ => up_head) fun m₂ s₈ e₂ k₂ H₈ => ?_))))
  have hn₂ := (k₂ (Str.ofString "n") (by decide)).trans e₁
  obtain ⟨hm4, hme⟩ := mine_lt n
  obtain ⟨ho4, hoe⟩ := other_lt n
  obtain ⟨l1, l2⟩ := small4 (a := (n.fdiv 5).fmod 4) (by omega) (by omega)
  obtain ⟨l3, l4⟩ := small4 (a := (n.fdiv 20).fmod 4) (by omega) (by omega)
  refine wpAny_execs_cons (wpAny_Assign_Name (wpAny_BinOp (c_str H₈ fun u3 s₉ H₉ => wpAny_Call_ofName (nm_b H₉ G.gr.g G.gr.b G.n3 G.b3 (callWith_excType rfl (evalArgs_plain (spliced_cons (wpAny_BinOp (wpAny_BinOp (nm_l H₉ (.head _) hn₂ (c_int H₉ fun u4 s₁₀ H₁₀ => i_fdiv R H₁₀ (by decide) fun u5 s₁₁ H₁₁ => c_int H₁₁ fun u6 s₁₂ H₁₂ => i_mod H₁₂ (by decide) fun u7 s₁₃ H₁₃ =>
    spliced_nil (s_int H₁₃ l1 fun u8 s₁₄ H₁₄ => s_add H₁₄ (fun tm s₁₅ H₁₅ => st_g H₁₅ (fun _ => up_head) fun m₃ s₁₆ e₃ k₃ H₁₆ => ?_) l2))))))))))))
  have hn₃ := (k₃ (Str.ofString "n") (by decide)).trans hn₂
  refine wpAny_execs_cons (wpAny_Assign_Name (wpAny_BinOp (c_str H₁₆ fun v3 s₉ H₉ => wpAny_Call_ofName (nm_b H₉ G.gr.g G.gr.b G.n3 G.b3 (callWith_excType rfl (evalArgs_plain (spliced_cons (wpAny_BinOp (wpAny_BinOp (nm_l H₉ (.head _) hn₃ (c_int H₉ fun v4 s₁₀ H₁₀ => i_fdiv R H₁₀ (by decide) fun v5 s₁₁ H₁₁ => c_int H₁₁ fun v6 s₁₂ H₁₂ => i_mod H₁₂ (by decide) fun v7 s₁₃ H₁₃ =>
    spliced_nil (s_int H₁₃ l3 fun v8 s₁₄ H₁₄ => s_add H₁₄ (fun to s₁₅ H₁₅ => st_g H₁₅ (fun _ => up_head) fun m₄ s₁₇ e₄ k₄ H₁₇ => ?_) l4))))))))))))
  rw [← hme] at e₃
  rw [← hoe] at e₄
  have hN₄ := (((hN.set k₁).set k₂).set k₃).set k₄
  refine s_words (tn := tn) (td := td) (tm := tm) (to := to) (tp := t) R G.gr K hN₄.w ((k₄ _ (by decide)).trans hn₃) ((k₄ _ (by decide)).trans ((k₃ _ (by decide)).trans e₂)) ((k₄ _ (by decide)).trans e₃) e₄ ((k₄ _ (by decide)).trans ((k₃ _ (by decide)).trans ((k₂ _ (by decide)).trans ((k₁ _ (by decide)).trans hat)))) H₁₇ fun m' kvs' rs' t' s' K' hk' hat' H' => ?_
  refine h m' kvs' rs' t' s' (hN₄.of fun y hy => hk' y (fun e => ?_) fun e => ?_) K' hat' H'
  · subst e; revert hy; decide
  · subst e; revert hy; decide
end
end Mine

namespace Mine
open PySem PySem.W PyProof.Rows PySem.Calls PySem.Spec
theorem room_deeper {prog : Program} {w : World} {base : Heap} {A : Around} {env : Env} {fs : List Env} (S : base.NoSeer) (lim : base.NoLimit) (ht : prog.given.tree = none) (hfr : A.frames = some fs) (hh : A.handled = none) (hd : A.depth + 201 < recursionLimit) (hu : A.units + 67 < cLine)
    (h1 : env.scope.isGenerator = false) (h2 : env.scope.isCoroutine = false) (h3 : env.builtins = builtinsNs) (h4 : env.globals = mainGlobals) : Room prog w (A.deeper env) base where
  depth := by show A.depth + 1 + 200 < _; omega
  units := by show A.units + 3 + 64 < _; omega
  handled := hh
  pylong := fun s hk => PylongRoom.of (lim.keeps hk) (by show A.depth + 1 + Builtin.pylongFrames < _; unfold Builtin.pylongFrames; omega) (PySem.SeerAt.of (S.keeps hk) ht (Around.frames_deeper hfr) h1 h2 h3 h4)
section
variable {prog : Program} {w : World} {A : Around} {E : Value → Shared → Prop} {s : Shared} {base : Heap} {os₀ : OsState} {led : Led} {mg mb : Str → Option Value}
  {S pr pl fa la lam cS c' fG fS fP u dW L : Addr} {lo : Obj} {qual : Str} {pv vpl vla : List Value} {gd sd pd : FuncData} {Q : Flow → Shared → Prop} {kvs : List (Str × Value)} {p' : Nat} {t : Tok} {m : Str → Option Value} {g gf : Regs} {rs vis : List Nat}
  {fname fqual : Str} {fkwd fdoc fmod : Value} {fann : Option Addr} {fcode fct : Value}

/-- behind the deed: asked without a lookup, then handed on -/
theorem step_tail (R : Room prog w A base) (G : G10 base mg mb fG fS fP u gd sd pd) (K : KV kvs g rs) (hN : Ns10 m S pr pl fa la dW) (hat : m (Str.ofString "at") = some (.int ((p' : Nat) - 1 : Int) t))
    (H : St base os₀ ((L, nsA m) :: (dW, dctA (strKind prog w) kvs) :: (core10 S pr pl fa la lam cS c' lo qual pv vpl [] ++ led)) s)
    (IH : ∀ (s' : Shared) (led' : Led) (t' : Tok) (E' : Value → Shared → Prop) (Q' : Value → Shared → Prop), St base os₀ (core10 S pr pl fa la lam cS c' lo qual pv vpl [] ++ led') s' →
      (∀ a D tl tl' vv s'', (∀ x ∈ tl', x ∈ tl) → TL tl' gf → IntsAre vv (vis.map fun i : Nat => (i : Int)) → St base os₀ ((a, tupA [.ref D, .ref D]) :: (D, lstA (tl'.map fun x => .ref x.1)) :: (tupLed tl ++ (core10 S pr pl fa la lam cS c' lo qual pv (vpl ++ vv) [.ref D] ++ led'))) s'' → Q' (.ref a) s'') →
      wpAny (model prog w) A (call (.ref fG) [.int (p' : Nat) t', .ref lam] kvs) Q' E' s')
    (h : ∀ D tl tl' vv s', (∀ x ∈ tl', x ∈ tl) → TL tl' gf → IntsAre vv (vis.map fun i : Nat => (i : Int)) → St base os₀ ((D, lstA (tl'.map fun x => .ref x.1)) :: (tupLed tl ++ (core10 S pr pl fa la lam cS c' lo qual pv (vpl ++ vv) [.ref D] ++ led))) s' → Q (.ret (.ref D)) s') :
    wpAny (model prog w) A (execs ((fnBody stepStmt).drop 8) (stepEnv fname fqual fkwd fdoc fmod fann fcode fct L fS)) Q E s := by
  obtain ⟨o₀, hsys⟩ := G.gr.sys
  have hdep := R.depth
  obtain ⟨og, hog, hdg⟩ := G.dg.obj
  have hp1 : ((p' : Nat) - 1 : Int) + 1 = ((p' : Nat) : Int) := by omega
  refine wpAny_execs_cons (wpAny_Assign_Name (wpAny_Call_ofName (nm_g H G.gr.g G.hg (callWith_fn (evalArgs_star rfl (spliced_cons (wpAny_BinOp (nm_l H (.head _) hat (c_int H fun u1 s₁ H₁ => PyProof.Rows.add_int ?_)))))))))
  have H₂ : St base os₀ _ { s₁ with toks := s₁.toks + 1 } := H₁.tok
  refine spliced_cons (wpAny_Constant_none (k := 0) (pos := ⟨64, 35, 64, 39⟩) (spliced_nil (merged1 H₂ hsys ?_ (.tail _ (.head _)) K.len fun d₂ s₃ H₃ => kwIn H₃ (.head _) ⟨⟨og, gd, H₃.keep _ _ hog, hdg⟩, ?_⟩)))
  · exact fun d' s' H' => wpAny_bind (nm_l H' (.tail _ (.head _)) hN.w (wpAny_bind (wpAny_standAt (wpAny_pure ⟨rfl, rfl⟩))))
  refine gni_none G.dg G.gr.lim G.gr.g G.hu (H₃.sub (.cons _ (.refl _))) (by omega) (K.apart _ (by decide)) K.nodup (Nat.le_succ_of_le K.len) fun a t₁ s₄ H₄ => ?_
  refine st_g H₄ (fun _ => .tail .head) fun m₁ s₅ e₁ k₁ H₅ => ?_
  have hN₁ := hN.set k₁
  have ht := H₅.isTup (a := a) (vs := [.ref u, .str (Str.ofString "") t₁]) (.head _)
  refine wpAny_execs_cons (wpAny_If (wpAny_isTrue_BoolOp (wpAny_allTrue_Or_cons (wpAny_isTrue_Compare1 (wpAny_Call_ofName (nm_b H₅ G.gr.g G.gr.b G.n1 G.b1 (callWith_builtin rfl (evalArgs_plain (spliced_cons (nm_l H₅ (.tail _ (.head _)) e₁ (spliced_nil (PyProof.Rows.len_tuple ht (by show (2 : Int) < _; decide) ?_))))))))))))
  have H₆ : St base os₀ _ { s₅ with toks := s₅.toks + 1 + 1 } := H₅.tok
  refine c_int H₆ fun u2 s₆ H₇ => PyProof.Rows.ne_int (wpAny_truthy_bool (ite_neg (by show ¬ ((2 : Int) != 2) = true; decide) ?_))
  refine wpAny_allTrue_Or_cons (wpAny_isTrue_Compare1 (Subscript_ (nm_l H₇ (.tail _ (.head _)) e₁ (c_int H₇ fun u3 s₇ H₈ => item_tupleL (l := [.ref u, .str (Str.ofString "") t₁]) (H₈.isTup (.head _)) (by decide) (by decide) (j := 0) rfl rfl (nm_g H₈ G.gr.g G.hu (wpAny_isNot_ref_self (wpAny_truthy_bool (ite_neg (by decide) ?_))))))))
  refine wpAny_allTrue_Or_cons (wpAny_isTrue_Compare1 (Subscript_ (nm_l H₈ (.tail _ (.head _)) e₁ (c_int H₈ fun u4 s₈ H₉ => item_tupleL (l := [.ref u, .str (Str.ofString "") t₁]) (H₉.isTup (.head _)) (by decide) (by decide) (j := 1) rfl rfl (c_str H₉ fun u5 s₉ H₁₀ => PyProof.Rows.ne_str (wpAny_truthy_bool (ite_neg (by decide) (wpAny_allTrue_Or_nil (ite_neg (by decide) (wpAny_execs_nil ?_))))))))))
  have H₁₁ := H₁₀.sub (List.Sublist.cons _ (.refl _))
  have hat₁ := (k₁ (Str.ofString "at") (by decide)).trans hat
  refine wpAny_execs_cons (wpAny_Assign_Name (wpAny_Call_ofName (nm_g H₁₁ G.gr.g G.hg (callWith_fn (evalArgs_star rfl (spliced_cons (wpAny_BinOp (nm_l H₁₁ (.head _) hat₁ (c_int H₁₁ fun v1 s₁₀ H₁₂ => PyProof.Rows.add_int ?_)))))))))
  have H₁₃ : St base os₀ _ { s₁₀ with toks := s₁₀.toks + 1 } := H₁₂.tok
  rw [hp1]
  refine spliced_cons (Subscript_ (nm_l H₁₃ (.head _) hN₁.s (c_int H₁₃ fun v2 s₁₁ H₁₄ => item_l H₁₄ (.tail _ (.tail _ (.tail _ (.tail _ (.head _))))) (by decide) (by decide) rfl (spliced_nil (merged1 H₁₄ hsys ?_ (.tail _ (.head _)) K.len fun d₃ s₁₂ H₁₅ => kwIn H₁₅ (.head _) ⟨⟨og, gd, H₁₅.keep _ _ hog, hdg⟩, ?_⟩)))))
  · exact fun d' s' H' => wpAny_bind (nm_l H' (.tail _ (.head _)) hN₁.w (wpAny_bind (wpAny_standAt (wpAny_pure ⟨rfl, rfl⟩))))
  refine IH _ _ _ _ _ ((H₁₅.sub (.cons _ (.refl _))).perm (List.perm_append_comm_assoc (core10 S pr pl fa la lam cS c' lo qual pv vpl []) [(L, nsA m₁), (dW, dctA (strKind prog w) kvs)] led)) fun b D tl tl' vv s₁₃ hsub hTL hvv H₁₆ => ?_
  have mL : ∀ (m' : Str → Option Value) (x y : Addr × Asn), (L, nsA m') ∈ (x :: y :: (tupLed tl ++ (core10 S pr pl fa la lam cS c' lo qual pv (vpl ++ vv) [.ref D] ++ ((L, nsA m') :: (dW, dctA (strKind prog w) kvs) :: led)))) := fun m' x y => .tail _ (.tail _ (List.mem_append_right _ (List.mem_append_right _ (.head _))))
  refine st_g H₁₆ (fun m' => .tail (.tail (Up.app (Up.app (.head (P' := nsA m')) _) _))) fun m₂ s₁₄ e₂ k₂ H₁₇ => ?_
  have hN₂ := hN₁.set k₂
  have mA : ∀ (x y : Addr × Asn), (la, lstA [.ref D]) ∈ (x :: y :: (tupLed tl ++ (core10 S pr pl fa la lam cS c' lo qual pv (vpl ++ vv) [.ref D] ++ ((L, nsA m₂) :: (dW, dctA (strKind prog w) kvs) :: led)))) := fun x y => .tail _ (.tail _ (List.mem_append_right _ (List.mem_append_left _ (.tail _ (.head _)))))
  refine wpAny_execs_cons (wpAny_If (wpAny_isTrue_BoolOp (wpAny_allTrue_Or_cons (wpAny_isTrue_Compare1 (wpAny_Call_ofName (nm_b H₁₇ G.gr.g G.gr.b G.n1 G.b1 (callWith_builtin rfl (evalArgs_plain (spliced_cons (nm_l H₁₇ (mL _ _ _) e₂ (spliced_nil (PyProof.Rows.len_tuple (H₁₇.isTup (vs := [.ref D, .ref D]) (.head _)) (by show (2 : Int) < _; decide) ?_))))))))))))
  have H₁₈ : St base os₀ _ { s₁₄ with toks := s₁₄.toks + 1 + 1 } := H₁₇.tok
  refine c_int H₁₈ fun v3 s₁₅ H₁₉ => PyProof.Rows.ne_int (wpAny_truthy_bool (ite_neg (by show ¬ ((2 : Int) != 2) = true; decide) ?_))
  refine wpAny_allTrue_Or_cons (wpAny_isTrue_Compare1 (Subscript_ (nm_l H₁₉ (mL _ _ _) e₂ (c_int H₁₉ fun v4 s₁₆ H₂₀ => item_tupleL (l := [.ref D, .ref D]) (H₂₀.isTup (.head _)) (by decide) (by decide) (j := 0) rfl rfl (Subscript_ (nm_l H₂₀ (mL _ _ _) e₂ (c_int H₂₀ fun v5 s₁₇ H₂₁ => item_tupleL (l := [.ref D, .ref D]) (H₂₁.isTup (.head _)) (by decide) (by decide) (j := 1) rfl rfl (wpAny_isNot_ref_self (wpAny_truthy_bool (ite_neg (by decide) ?_))))))))))
  refine wpAny_allTrue_Or_cons (wpAny_isTrue_Compare1 (wpAny_Call_ofName (nm_b H₂₁ G.gr.g G.gr.b G.n1 G.b1 (callWith_builtin rfl (evalArgs_plain (spliced_cons (nm_l H₂₁ (mL _ _ _) hN₂.la (spliced_nil (PyProof.Rows.len_list (H₂₁.isList (mA _ _)) (by show (1 : Int) < _; decide) ?_)))))))))
  have H₂₂ : St base os₀ _ { s₁₇ with toks := s₁₇.toks + 1 + 1 } := H₂₁.tok
  refine c_int H₂₂ fun v6 s₁₈ H₂₃ => PyProof.Rows.ne_int (wpAny_truthy_bool (ite_neg (by show ¬ ((1 : Int) != 1) = true; decide) ?_))
  refine wpAny_allTrue_Or_cons (wpAny_isTrue_Compare1 (Subscript_ (nm_l H₂₃ (mL _ _ _) e₂ (c_int H₂₃ fun v7 s₁₉ H₂₄ => item_tupleL (l := [.ref D, .ref D]) (H₂₄.isTup (.head _)) (by decide) (by decide) (j := 0) rfl rfl (Subscript_ (nm_l H₂₄ (mL _ _ _) hN₂.la (c_int H₂₄ fun v8 s₂₀ H₂₅ => item_l H₂₅ (mA _ _) (by decide) (by decide) (x := .ref D) rfl (wpAny_isNot_ref_self (wpAny_truthy_bool (ite_neg (by decide) (wpAny_allTrue_Or_nil (ite_neg (by decide) (wpAny_execs_nil ?_)))))))))))))
  refine wpAny_execs_cons (wpAny_Return_some (Subscript_ (nm_l H₂₅ (mL _ _ _) e₂ (c_int H₂₅ fun v9 s₂₁ H₂₆ => item_tupleL (l := [.ref D, .ref D]) (H₂₆.isTup (.head _)) (by decide) (by decide) (j := 0) rfl rfl ?_))))
  exact h D tl tl' vv s₂₁ hsub hTL hvv (H₂₆.sub (.cons _ (.cons_cons _ (List.Sublist.append (.refl _) (List.Sublist.append (.refl _) (.cons _ (.cons _ (.refl _))))))))
end
end Mine

namespace Mine
open PySem PySem.W PyProof.Rows PySem.Calls PySem.Spec
section
variable {prog : Program} {w : World} {base : Heap} {os₀ : OsState} {mg mb : Str → Option Value}
  {S pr pl fa la lam cS c' fG fS fP u : Addr} {pm ctv : Value} {qual : Str} {pv : List Value} {gd sd pd : FuncData} {ns : List Int}

/-- down to the call of _law_step -/
theorem down10 {A : Around} {E : Value → Shared → Prop} {s : Shared} {led : Led} {vpl vla : List Value} {v : Value} {kvs : List (Str × Value)} {g : Regs} {rs : List Nat} {Q : Value → Shared → Prop} (G : G10 base mg mb fG fS fP u gd sd pd) (K : KV kvs g rs)
    (H : St base os₀ (core10 S pr pl fa la lam cS c' (lamObj qual cS pm c' ctv) qual pv vpl vla ++ led) s) (hroom : A.depth + 2 < recursionLimit)
    (h : ∀ envG envL L m d₁ d₂ L' m' d s₁, St base os₀ ((d, dctA (strKind prog w) kvs) :: (core10 S pr pl fa la lam cS c' (lamObj qual cS pm c' ctv) qual pv vpl vla ++ ((L', nsA m') :: (d₂, dctA (strKind prog w) kvs) :: (L, nsA m) :: (d₁, dctA (strKind prog w) kvs) :: led))) s₁ →
      ∀ E', wpAny (model prog w) ((A.deeper envG).deeper envL) (call (.ref fS) [.ref S, v, .ref d] []) (fun r s₂ => ∃ front led₂, St base os₀ (front ++ (L, nsA m) :: led₂) s₂ ∧ ∀ a s₃, St base os₀ ((a, tupA [r, r]) :: led₂) s₃ → Q (.ref a) s₃) E' s₁) :
    wpAny (model prog w) A (call (.ref fG) [v, .ref lam] kvs) Q E s := by
  obtain ⟨o₀, hsys⟩ := G.gr.sys
  refine gni_call (v := v) (g := lam) G.dg G.gr.lim hsys H (by omega) (K.apart _ (by decide)) K.nodup K.len fun env L m d₁ d₂ s₁ he H₁ => ⟨?_, ?_⟩
  · obtain ⟨o, ho, rfl⟩ := H₁.get (P := objA (lamObj qual cS pm c' ctv)) (a := lam) (by k_mem); exact ⟨_, _, ho, rfl⟩
  obtain ⟨o, ho, rfl⟩ := H₁.get (P := objA (lamObj qual cS pm c' ctv)) (a := lam) (by k_mem)
  obtain ⟨oc, hoc, cvs, ct, hcd, hcv⟩ := H₁.get (P := codeA qual) (a := c') (by k_mem)
  refine lam_enter (args := ⟨[v], kvs⟩) H₁ (by show A.depth + 1 < _; omega) G.gr.lim ho rfl ⟨c', oc, cvs, ct, rfl, hoc, hcd, hcv⟩ rfl (by show ∀ x ∈ (lamScope lamE).names, x.2 ≠ NameKind.cell; decide) ?_
  refine bind_kw (normal := [Str.ofString "at"]) rfl rfl rfl rfl rfl rfl rfl (by decide) (K.apart _ (by decide)) K.nodup (Nat.le_succ_of_le K.len) H₁ fun d s₂ H₂ => ?_
  refine ⟨_, H₂, ?_, fun L' s₃ H₃ => ?_⟩
  · intro x hx
    simp only [List.zip_cons_cons, List.zip_nil_right, List.cons_append, List.nil_append, List.mem_cons, List.not_mem_nil, or_false] at hx
    rcases hx with rfl | rfl <;> rfl
  refine wpAny_Call_ofName (nm_g H₃ G.gr.g G.hs (callWith_fn (evalArgs_plain (spliced_cons (nm_f H₃ rfl (by k_mem) (spliced_cons (nm_l H₃ (.head _) rfl (spliced_cons (nm_l H₃ (.head _) rfl (spliced_nil ⟨?_, ?_⟩))))))))))
  · obtain ⟨o, ho, hd⟩ := G.ds.obj; exact ⟨o, sd, H₃.keep _ _ ho, hd⟩
  obtain ⟨m', H₄⟩ : ∃ m', St base os₀ ((L', nsA m') :: (d, dctA (strKind prog w) kvs) :: (d₂, dctA (strKind prog w) kvs) :: (L, nsA m) :: (d₁, dctA (strKind prog w) kvs) :: (core10 S pr pl fa la lam cS c' (lamObj qual cS pm c' ctv) qual pv vpl vla ++ led)) s₃ := ⟨_, H₃⟩
  refine h env _ L m d₁ d₂ L' m' d s₃ (H₄.perm ?_) _
  refine (List.Perm.cons _ (List.perm_append_comm_assoc (core10 S pr pl fa la lam cS c' (lamObj qual cS pm c' ctv) qual pv vpl vla) [(L', nsA m'), (d₂, dctA (strKind prog w) kvs), (L, nsA m), (d₁, dctA (strKind prog w) kvs)] led)).trans ?_
  exact .swap ..

theorem ints_get {pv : List Value} {ns : List Int} (h : IntsAre pv ns) : ∀ {p : Nat} {n : Int}, ns[p]? = some n → ∃ t, pv[p]? = some (.int n t) := by
  induction h with
  | nil => intro p n e; simp at e
  | cons k t _ ih =>
    intro p n e
    cases p with
    | zero => simp at e; subst e; exact ⟨t, rfl⟩
    | succ p => simpa using ih (by simpa using e)
/-- back through the frames -/
theorem back10 {s : Shared} {led : Led} {vpl vv : List Value} {Q : Value → Shared → Prop} {L L' d₁ d₂ D : Addr} {m m' : Str → Option Value} {kvs : List (Str × Value)} {tl tl' : List Tup2} {gf : Regs} {vis : List Nat}
    (h : ∀ a D tl tl' vv s', (∀ x ∈ tl', x ∈ tl) → TL tl' gf → IntsAre vv (vis.map fun i : Nat => (i : Int)) → St base os₀ ((a, tupA [.ref D, .ref D]) :: (D, lstA (tl'.map fun x => .ref x.1)) :: (tupLed tl ++ (core10 S pr pl fa la lam cS c' (lamObj qual cS pm c' ctv) qual pv (vpl ++ vv) [.ref D] ++ led))) s' → Q (.ref a) s')
    (H : St base os₀ ((D, lstA (tl'.map fun x => .ref x.1)) :: (tupLed tl ++ (core10 S pr pl fa la lam cS c' (lamObj qual cS pm c' ctv) qual pv (vpl ++ vv) [.ref D] ++ ((L', nsA m') :: (d₂, dctA (strKind prog w) kvs) :: (L, nsA m) :: (d₁, dctA (strKind prog w) kvs) :: led)))) s)
    (hTL : TL tl' gf) (hvv : IntsAre vv (vis.map fun i : Nat => (i : Int))) (hsub : ∀ x ∈ tl', x ∈ tl) :
    ∃ front led₂, St base os₀ (front ++ (L, nsA m) :: led₂) s ∧ ∀ a s₃, St base os₀ ((a, tupA [.ref D, .ref D]) :: led₂) s₃ → Q (.ref a) s₃ := by
  refine ⟨[], (D, lstA (tl'.map fun x => .ref x.1)) :: (tupLed tl ++ (core10 S pr pl fa la lam cS c' (lamObj qual cS pm c' ctv) qual pv (vpl ++ vv) [.ref D] ++ led)), ?_, fun a s₃ H₃ => h a D tl tl' vv s₃ hsub hTL hvv H₃⟩
  have H₁ := H.sub (led' := (D, lstA (tl'.map fun x => .ref x.1)) :: (tupLed tl ++ (core10 S pr pl fa la lam cS c' (lamObj qual cS pm c' ctv) qual pv (vpl ++ vv) [.ref D] ++ ((L, nsA m) :: led)))) (.cons_cons _ (List.Sublist.append (.refl _) (List.Sublist.append (.refl _) (.cons _ (.cons _ (.cons_cons _ (.cons _ (.refl _))))))))
  refine H₁.perm ?_
  refine (List.Perm.swap ..).trans (List.Perm.cons _ ?_)
  refine (List.perm_middle (l₁ := tupLed tl)).symm.trans (List.Perm.append_left _ ?_)
  exact List.perm_append_comm_assoc [(L, nsA m)] (core10 S pr pl fa la lam cS c' (lamObj qual cS pm c' ctv) qual pv (vpl ++ vv) [.ref D]) led

theorem ask10 (G : G10 base mg mb fG fS fP u gd sd pd) (hS : base.NoSeer) (ht : prog.given.tree = none) (hpv : IntsAre pv ns) (hlen : pv.length ≤ 26) : ∀ (k : Nat) {A : Around} {E : Value → Shared → Prop} {s : Shared} {led : Led} {vpl : List Value} {p : Nat} {t : Tok} {kvs : List (Str × Value)} {g : Regs} {rs : List Nat} {fs : List Env} {Q : Value → Shared → Prop},
    pv.length - p ≤ k → KV kvs g rs → vpl.length + k ≤ 90 → A.depth + 3 * k + 210 < recursionLimit → A.units + 9 * k + 100 < cLine → A.handled = none → A.frames = some fs →
    St base os₀ (core10 S pr pl fa la lam cS c' (lamObj qual cS pm c' ctv) qual pv vpl [] ++ led) s →
    (∀ a D tl tl' vv s', (∀ x ∈ tl', x ∈ tl) → TL tl' (runG ns k p g).1 → IntsAre vv ((runG ns k p g).2.map fun i : Nat => (i : Int)) → St base os₀ ((a, tupA [.ref D, .ref D]) :: (D, lstA (tl'.map fun x => .ref x.1)) :: (tupLed tl ++ (core10 S pr pl fa la lam cS c' (lamObj qual cS pm c' ctv) qual pv (vpl ++ vv) [.ref D] ++ led))) s' → Q (.ref a) s') →
    wpAny (model prog w) A (call (.ref fG) [.int (p : Nat) t, .ref lam] kvs) Q E s := by
  intro k
  induction k with
  | zero =>
    intro A E s led vpl p t kvs g rs fs Q hk K hv hd hu hh hfr H h
    refine down10 G K H (by omega) fun envG envL L m d₁ d₂ L' m' d s₁ H₁ E' => ?_
    refine step_in (p := p) (t := t) G (by show A.depth + 1 + 1 < _; omega) hh H₁ fun fname fqual fkwd fdoc fmod fann fcode fct L₂ m₂ s₂ hN hat H₂ => ?_
    refine step_end (room_deeper hS G.gr.lim ht (Around.frames_deeper (Around.frames_deeper hfr)) hh (by show A.depth + 1 + 1 + 201 < _; omega) (by show A.units + 3 + 3 + 67 < _; omega) rfl rfl rfl rfl) G K hN hat (by omega) (by omega) H₂ fun D tl tl' s₃ hsub hTL H₃ => ?_
    have H₄ := H₃
    rw [← List.append_nil vpl] at H₄
    exact back10 h H₄ hTL .nil hsub
  | succ k ih =>
    intro A E s led vpl p t kvs g rs fs Q hk K hv hd hu hh hfr H h
    refine down10 G K H (by omega) fun envG envL L m d₁ d₂ L' m' d s₁ H₁ E' => ?_
    refine step_in (p := p) (t := t) G (by show A.depth + 1 + 1 < _; omega) hh H₁ fun fname fqual fkwd fdoc fmod fann fcode fct L₂ m₂ s₂ hN hat H₂ => ?_
    have R : ∀ env : Env, env.scope.isGenerator = false → env.scope.isCoroutine = false → env.builtins = builtinsNs → env.globals = mainGlobals → Room prog w (((A.deeper envG).deeper envL).deeper env) base := fun env a b c d =>
      room_deeper hS G.gr.lim ht (Around.frames_deeper (Around.frames_deeper hfr)) hh (by show A.depth + 1 + 1 + 201 < _; omega) (by show A.units + 3 + 3 + 67 < _; omega) a b c d
    cases e : ns[p]? with
    | none =>
      have hp : pv.length ≤ p := by
        rw [(allInt_of hpv).2]
        rcases Nat.lt_or_ge p ns.length with q | q
        · rw [List.getElem?_eq_getElem q] at e; cases e
        · exact q
      have er : runG ns (k + 1) p g = (g, []) := by simp [runG, e]
      rw [er] at h
      refine step_end (R _ rfl rfl rfl rfl) G K hN hat hp (by omega) H₂ fun D tl tl' s₃ hsub hTL H₃ => ?_
      have H₄ := H₃
      rw [← List.append_nil vpl] at H₄
      exact back10 h H₄ hTL .nil hsub
    | some n =>
      obtain ⟨tn, hpn⟩ := ints_get hpv e
      have er : runG ns (k + 1) p g = ((runG ns k (stepAt n p) (stepG n g)).1, p :: (runG ns k (stepAt n p) (stepG n g)).2) := by simp [runG, e]
      rw [er] at h
      have hplt : p < pv.length := by
        rcases Nat.lt_or_ge p pv.length with q | q
        · exact q
        · rw [List.getElem?_eq_none q] at hpn; cases hpn
      have hs1 : p + 1 ≤ stepAt n p := by unfold stepAt; split <;> omega
      refine step_row (R _ rfl rfl rfl rfl) G K hN hat hpn (by omega) (by omega) H₂ fun m₃ kvs₃ rs₃ t₃ s₃ hN₃ K₃ hat₃ H₃ => ?_
      refine step_tail (gf := (runG ns k (stepAt n p) (stepG n g)).1) (vis := (runG ns k (stepAt n p) (stepG n g)).2) (R _ rfl rfl rfl rfl) G K₃ hN₃ hat₃ H₃ (fun s' led' t' E'' Q' H' h' => ?_) fun D tl tl' vv s₄ hsub hTL hvv H₄ => ?_
      · exact ih (by omega) K₃ (by simp; omega) (by show A.depth + 1 + 1 + 1 + 3 * k + 210 < _; omega) (by show A.units + 3 + 3 + 3 + 9 * k + 100 < _; omega) hh (Around.frames_deeper (Around.frames_deeper (Around.frames_deeper hfr))) H' h'
      · rw [List.append_assoc] at H₄
        exact back10 h H₄ hTL (vv := .int (p : Nat) t :: vv) (.cons _ t hvv) hsub
end
end Mine

namespace Mine
open PySem PySem.W PyProof.Rows PySem.Calls PySem.Spec
section
variable {prog : Program} {w : World} {A : Around} {E : Value → Shared → Prop} {s : Shared} {base : Heap} {os₀ : OsState} {led : Led}
/-- two lists of one length whose items are equal are equal -/
theorem list_eq_same {l b : Addr} {vs us : List Value} {Q : Value → Shared → Prop} (hl : s.heap.IsList l vs.toArray) (hb : s.heap.IsList b us.toArray) (hlen : vs.length = us.length) (hur : A.units < cLine)
    (he : ∀ p ∈ vs.zip us, EqW prog w A.in1 s p.1 p.2 true) (h : Q (.bool true) s) : wpAny (model prog w) A (richCompare .Eq (.ref l) (.ref b)) Q E s := by
  obtain ⟨⟨cls, dd, data, sl⟩, ho, hc, n, hd⟩ := hl
  obtain ⟨⟨cls2, dd2, data2, sl2⟩, ho2, hc2, n2, hd2⟩ := hb
  simp only at hc hd hc2 hd2
  subst hc hd hc2 hd2
  have hT : s.TypeIs (.ref l) "list" := ⟨_, ho, rfl⟩
  refine wpAny_richCompare_same_room (op := .Eq) hT ⟨_, ho2, rfl⟩ PySem.F.slot_list_eq ?_ hur
  refine wpAny_call (codeAny_call_builtin PySem.F.slot_list_eq.plain PySem.F.entry_list_eq (PySem.F.slot_list_eq.check _ _ _ _ _ _ _ _ hT (PySem.F.args_list_eq_2 _ _) ?_))
  have f3 := AutoSeq1.sub_list_list
  have hne : ¬ (vs.toArray.size != us.toArray.size) = true := by simp [hlen]
  have hloop := list_loop_same (prog := prog) (w := w) (A := A) (R := fun r s' => match r with | .ok (.ret v) => v ≠ .notImplemented ∧ Q v s' | .ok _ => False | .error e => E e s') (.inl ⟨rfl, rfl⟩) hlen ho ho2 he ⟨(fun x => nomatch x), h⟩ _ 0 rfl
  obtain ⟨hp, g, d, tk, os⟩ := s
  wp_walk using AutoSeq1.wpAny_loadPart' ho, AutoSeq1.wpAny_loadPart' ho2
  exact ⟨plainId_quiet MeetsSeq3.plain_eq_loop _, hloop⟩
/-- a list times a number -/
theorem l_mul {l : Addr} {vs : List Value} {x : Int} {u : Tok} {Q : Value → Shared → Prop} (H : St base os₀ led s) (hm : (l, lstA vs) ∈ led) (h0 : 0 ≤ x) (hx : x < 2 ^ 24) (hsz : vs.length * x.toNat ≤ 2 ^ 24)
    (h : ∀ r s', St base os₀ ((r, lstA (List.replicate x.toNat vs).flatten) :: led) s' → Q (.ref r) s') : wpAny (model prog w) A (binaryOp .Mult (.ref l) (.int x u)) Q E s := by
  obtain ⟨o, ho, n, rfl⟩ := H.get hm
  have hs' : vs.toArray.size * x.toNat ≤ 2 ^ 24 := by rw [List.size_toArray]; exact hsz
  have fin : Q (.ref s.heap.objs.size) { s with heap := s.heap.push { cls := .type "list", data := .seq (List.foldl (fun x1 x2 => x1 ++ x2) #[] (List.replicate (if vs.toArray.isEmpty = true then 0 else x.toNat) vs.toArray)) } } :=
    h _ _ (H.push (tk := s.toks) rfl ⟨0, by rw [listMul_foldl_if]⟩)
  exact wpAny_binaryOp_repeat_ref (T := "list") (U := "int") (by decide) ⟨_, ho, rfl⟩ (fun s' => typeIs_int s' x u) noFill_list_mul PySem.F.fills_int_mul PySem.F.slot_int_rmul repeat_list PySem.F.slot_int_index.lookup
    (call_meets PySem.F.slot_int_rmul (typeIs_int s x u) PySem.F.entry_int_rmul (PySem.F.args_int_rmul_2 _ _) (int___rmul___int_list x u l vs.toArray n)
      ⟨ho, rfl, ⟨_, ho, rfl⟩, call_meets PySem.F.slot_list_mul ⟨_, ho, rfl⟩ PySem.F.entry_list_mul (PySem.F.args_list_mul_2 _ _)
        (AutoListH.list___mul___list_int_3 l vs.toArray n x u (by simp [Builtin.List.listFitsIndex]; omega) (by omega) (by simp [Builtin.List.listTooLong, sizeLine]; omega))
        ⟨ho, fin⟩⟩)
end
end Mine

namespace Mine
open PySem PySem.W PyProof.Rows PySem.Calls PySem.Spec
/-- a value of a register: None or a number -/
def RVal (o : Option Int) (v : Value) : Prop := match o with | none => v = .none | some x => ∃ t, v = .int x t
/-- the registers as a list of four -/
def RV (vr : List Value) (g : Regs) : Prop := vr.length = 4 ∧ ∀ k, k < 4 → ∃ v, vr[k]? = some v ∧ RVal (g k) v
theorem RV.set {vr : List Value} {g : Regs} (h : RV vr g) {k : Nat} (hk : k < 4) {o : Option Int} {v : Value} (hv : RVal o v) : RV (vr.set k v) (put g k o) := by
  refine ⟨by simp [h.1], fun i hi => ?_⟩
  rw [List.getElem?_set]
  unfold put
  by_cases e : k = i
  · subst e
    rw [if_pos rfl, if_pos (by rw [h.1]; exact hk), if_pos rfl]
    exact ⟨v, rfl, hv⟩
  · rw [if_neg e, if_neg (Ne.symm e)]
    exact h.2 i hi
theorem RV.start : RV (List.replicate 4 [Value.none]).flatten (fun _ => none) := by
  refine ⟨rfl, fun k hk => ⟨.none, ?_, rfl⟩⟩
  have : k = 0 ∨ k = 1 ∨ k = 2 ∨ k = 3 := by omega
  rcases this with rfl | rfl | rfl | rfl <;> rfl
theorem RVal.isNone {o : Option Int} {v : Value} (h : RVal o v) : (v == Value.none) = o.isNone := by
  cases o with
  | none => have : v = .none := h; rw [this]; rfl
  | some x => obtain ⟨t, rfl⟩ : ∃ t, v = Value.int x t := h; rfl
end Mine

namespace Mine
open PySem PySem.W PyProof.Rows PySem.Calls PySem.Spec
def whileBody : Stmt → List Stmt | .While _ b _ _ => b | _ => []
def rowB : List Stmt := whileBody (nth 3 (fnBody plainStmt))
abbrev plainEnv (fname fqual : Str) (fkwd fdoc fmod : Value) (fann : Option Addr) (fcode fct : Value) (L fF : Addr) : Env :=
  callEnvC { name := fname, qualname := fqual, params := fnPar plainStmt, body := .stmts (fnBody plainStmt), scope := fnScope plainStmt, globals := mainGlobals, closure := [], defaults := .none, kwdefaults := fkwd, doc := fdoc, pyModule := fmod, annotations := fann, code := fcode, closureTuple := fct, builtins := builtinsNs } L fF
section
variable {prog : Program} {w : World} {A : Around} {E : Value → Shared → Prop} {s : Shared} {base : Heap} {os₀ : OsState} {led : Led} {mg mb : Str → Option Value} {L fP rg : Addr} {vr : List Value} {g : Regs} {m : Str → Option Value} {n : Int} {p : Nat} {Q : Flow → Shared → Prop}
  {fname fqual : Str} {fkwd fdoc fmod : Value} {fann : Option Addr} {fcode fct : Value}
theorem RV.item {vr : List Value} {g : Regs} (h : RV vr g) {n : Int} {k : Nat} (hk : k < 4) (e : (k : Int) = n) : ∃ v, vr[n.toNat]? = some v ∧ RVal (g k) v := by
  have := h.2 k hk
  rw [← e]; simpa using this

def pels1 : List Stmt := ifElse (nth 5 rowB)
def pels2 : List Stmt := ifElse (nth 0 pels1)
def pels3 : List Stmt := ifElse (nth 0 pels2)

/-- the deed on the registers -/
theorem p_deeds {tn td tm to tp : Tok} (R : Room prog w A base) (K : RV vr g)
    (hn : m (Str.ofString "n") = some (.int n tn)) (hd : m (Str.ofString "deed") = some (.int (deedOf n) td)) (hmi : m (Str.ofString "mine") = some (.int ((n.fdiv 5).fmod 4) tm)) (hot : m (Str.ofString "other") = some (.int ((n.fdiv 20).fmod 4) to)) (hat : m (Str.ofString "at") = some (.int (p : Nat) tp))
    (H : St base os₀ ((L, nsA m) :: (rg, lstA vr) :: (L + 1, celA (some (.ref rg))) :: led) s)
    (h : ∀ m' vr' t' s', RV vr' (stepG n g) → (∀ y, y ≠ Str.ofString "at" → y ≠ Str.ofString "total" → y ≠ Str.ofString "value" → m' y = m y) → m' (Str.ofString "at") = some (.int ((stepAt n p : Nat) - 1 : Int) t') →
      St base os₀ ((L, nsA m') :: (rg, lstA vr') :: (L + 1, celA (some (.ref rg))) :: led) s' →
      wpAny (model prog w) A (execs (rowB.drop 6) (plainEnv fname fqual fkwd fdoc fmod fann fcode fct L fP)) Q E s') :
    wpAny (model prog w) A (execs (rowB.drop 5) (plainEnv fname fqual fkwd fdoc fmod fann fcode fct L fP)) Q E s := by
  obtain ⟨hm4, hme⟩ := mine_lt n
  obtain ⟨ho4, hoe⟩ := other_lt n
  have em : ((n.fdiv 5).fmod 4).toNat = mineOf n := rfl
  have eo : ((n.fdiv 20).fmod 4).toNat = otherOf n := rfl
  have hlo : 0 ≤ deedOf n := Int.fmod_nonneg_of_pos _ (by decide)
  have hhi : deedOf n < 5 := Int.fmod_lt_of_pos _ (by decide)
  have same : deedOf n ≠ 3 → m (Str.ofString "at") = some (.int ((stepAt n p : Nat) - 1 : Int) tp) := fun hne => by
    rw [hat]; unfold stepAt; rw [if_neg hne]; congr 2; push_cast; omega
  obtain ⟨vm, hvm, rm⟩ := K.item hm4 hme
  obtain ⟨vo, hvo, ro⟩ := K.item ho4 hoe
  have rest3 : ∀ s₂ (E' : Value → Shared → Prop) (QQ : Flow → Shared → Prop), St base os₀ ((L, nsA m) :: (rg, lstA vr) :: (L + 1, celA (some (.ref rg))) :: led) s₂ → deedOf n ≠ 0 → deedOf n ≠ 1 → deedOf n ≠ 2 → (∀ s', wpAny (model prog w) A (execs (rowB.drop 6) (plainEnv fname fqual fkwd fdoc fmod fann fcode fct L fP)) Q E s' → QQ .next s') →
      wpAny (model prog w) A (execs pels3 (plainEnv fname fqual fkwd fdoc fmod fann fcode fct L fP)) QQ E' s₂ := fun s₂ E' QQ H₂ hne0 hne1 hne2 hQQ => by
    refine wpAny_execs_cons (wpAny_If (wpAny_isTrue_Compare1 (nm_l H₂ (.head _) hd (c_int H₂ fun u1 s₃ H₃ => PyProof.Rows.eq_int (wpAny_truthy_bool ?_)))))
    by_cases h3 : deedOf n = 3
    · refine ite_pos (by rw [h3]; decide) ?_
      refine wpAny_execs_cons (wpAny_AugAssign_Name (ld_l H₃ (.head _) hat (c_int H₃ fun u3 s₅ H₅ => PyProof.Rows.iadd_int ?_)))
      have H₆ : St base os₀ _ { s₅ with toks := s₅.toks + 1 } := H₅.tok
      refine st_g H₆ (fun _ => up_head) fun m' s₆ e k H₇ => wpAny_execs_nil (wpAny_execs_nil ?_)
      refine hQQ _ (h m' vr s₅.toks s₆ ?_ (fun y hy _ _ => k y hy) ?_ H₇)
      · unfold stepG; rw [if_neg hne0, if_neg hne1, if_neg hne2, if_pos h3]; exact K
      · rw [e]; unfold stepAt; rw [if_pos h3]; congr 2; push_cast; omega
    have h4 : deedOf n = 4 := by omega
    have hstep : stepG n g = if (g (mineOf n)).isSome ∧ (g (otherOf n)).isSome then put (put g (mineOf n) (g (otherOf n))) (otherOf n) (g (mineOf n)) else g := by
      unfold stepG; rw [if_neg hne0, if_neg hne1, if_neg hne2, if_neg h3]
    have nothing : ∀ s', St base os₀ ((L, nsA m) :: (rg, lstA vr) :: (L + 1, celA (some (.ref rg))) :: led) s' → stepG n g = g → QQ .next s' := fun s' H' hg => hQQ _ (h m vr tp s' (by rw [hg]; exact K) (fun y _ _ _ => rfl) (same h3) H')
    refine ite_neg (by simpa using h3) (wpAny_execs_cons (wpAny_If (wpAny_isTrue_BoolOp (wpAny_allTrue_And_cons (wpAny_isTrue_Compare1 (Subscript_ (nm_c H₃ rfl (.tail _ (.tail _ (.head _))) (nm_l H₃ (.head _) hmi (item_l H₃ (.tail _ (.head _)) (by omega) (by omega) hvm (wpAny_Constant_none (isNot_none (wpAny_truthy_bool ?_))))))))))))
    rw [rm.isNone]
    cases hgm : g (mineOf n) with
    | none =>
      refine ite_neg (by simp) (ite_neg (by decide) (wpAny_execs_nil (wpAny_execs_nil (wpAny_execs_nil (nothing _ H₃ ?_)))))
      rw [hstep, if_neg (fun q => by rw [hgm] at q; cases q.1)]
    | some x =>
      refine ite_pos (by simp) (wpAny_allTrue_And_cons (wpAny_isTrue_Compare1 (Subscript_ (nm_c H₃ rfl (.tail _ (.tail _ (.head _))) (nm_l H₃ (.head _) hot (item_l H₃ (.tail _ (.head _)) (by omega) (by omega) hvo (wpAny_Constant_none (isNot_none (wpAny_truthy_bool ?_)))))))))
      rw [ro.isNone]
      cases hgo : g (otherOf n) with
      | none =>
        refine ite_neg (by simp) (ite_neg (by decide) (wpAny_execs_nil (wpAny_execs_nil (wpAny_execs_nil (nothing _ H₃ ?_)))))
        rw [hstep, if_neg (fun q => by rw [hgo] at q; cases q.2)]
      | some y =>
        refine ite_pos (by simp) (wpAny_allTrue_And_nil (ite_pos rfl ?_))
        refine wpAny_execs_cons (Assign_Tuple (Tuple_ (wpAny_items_cons (Subscript_ (nm_c H₃ rfl (.tail _ (.tail _ (.head _))) (nm_l H₃ (.head _) hot (item_l H₃ (.tail _ (.head _)) (by omega) (by omega) hvo (wpAny_items_cons (Subscript_ (nm_c H₃ rfl (.tail _ (.tail _ (.head _))) (nm_l H₃ (.head _) hmi (item_l H₃ (.tail _ (.head _)) (by omega) (by omega) hvm (wpAny_items_nil (new_tuple H₃ fun T s₆ H₆ => ?_))))))))))))))
        refine assign_Tuple_tuple (items := #[vo, vm]) R.handled (H₆.isTup (vs := [vo, vm]) (.head _)) rfl rfl fun h' hx' => ?_
        have H₇ := (H₆.sub (.cons _ (.refl _))).grown (tk := s₆.toks) hx'
        refine assignInOrder_cons (kas_sub (nm_c H₇ rfl (.tail _ (.tail _ (.head _))) (nm_l H₇ (.head _) hmi (l_set H₇ (.tail .head) (by omega) (by omega) (by rw [K.1]; omega) fun s₈ H₈ => assignInOrder_cons (kas_sub (nm_c H₈ rfl (.tail _ (.tail _ (.head _))) (nm_l H₈ (.head _) hot (l_set H₈ (.tail .head) (by omega) (by omega) (by rw [List.length_set, K.1]; omega) fun s₉ H₉ => assignInOrder_nil ?_))))))))
        refine wpAny_execs_nil (wpAny_execs_nil (wpAny_execs_nil (hQQ _ (h m _ tp s₉ ?_ (fun y _ _ _ => rfl) (same h3) H₉))))
        rw [hstep, if_pos ⟨by rw [hgm]; rfl, by rw [hgo]; rfl⟩, em, eo]
        exact (K.set hm4 ro).set ho4 rm
  refine wpAny_execs_cons (wpAny_If (wpAny_isTrue_Compare1 (nm_l H (.head _) hd (c_int H fun u1 s₁ H₁ => PyProof.Rows.eq_int (wpAny_truthy_bool ?_)))))
  by_cases h0 : deedOf n = 0
  · refine ite_pos (by rw [h0]; decide) ?_
    refine wpAny_execs_cons (wpAny_Assign_Subscript (wpAny_BinOp (wpAny_BinOp (nm_l H₁ (.head _) hn (c_int H₁ fun u2 s₂ H₂ => i_fdiv R H₂ (by decide) fun u3 s₃ H₃ => c_int H₃ fun u4 s₄ H₄ => i_mod H₄ (by decide) fun u5 s₅ H₅ => nm_c H₅ rfl (.tail _ (.tail _ (.head _))) (nm_l H₅ (.head _) hmi (l_set H₅ (.tail .head) (by omega) (by omega) (by rw [K.1]; omega) fun s₆ H₆ => wpAny_execs_nil (h m _ tp _ ?_ (fun y _ _ _ => rfl) (same (by rw [h0]; decide)) H₆))))))))
    rw [em]
    unfold stepG; rw [if_pos h0]
    exact K.set hm4 ⟨u5, rfl⟩
  refine ite_neg (by simpa using h0) (wpAny_execs_cons (wpAny_If (wpAny_isTrue_Compare1 (nm_l H₁ (.head _) hd (c_int H₁ fun u2 s₂ H₂ => PyProof.Rows.eq_int (wpAny_truthy_bool ?_))))))
  by_cases h1 : deedOf n = 1
  · refine ite_pos (by rw [h1]; decide) ?_
    refine wpAny_execs_cons (wpAny_Assign_Subscript (wpAny_Constant_none (nm_c H₂ rfl (.tail _ (.tail _ (.head _))) (nm_l H₂ (.head _) hmi (l_set H₂ (.tail .head) (by omega) (by omega) (by rw [K.1]; omega) fun s₆ H₆ => wpAny_execs_nil (wpAny_execs_nil (h m _ tp _ ?_ (fun y _ _ _ => rfl) (same (by rw [h1]; decide)) H₆)))))))
    rw [em]
    unfold stepG; rw [if_neg h0, if_pos h1]
    exact K.set hm4 rfl
  refine ite_neg (by simpa using h1) (wpAny_execs_cons (wpAny_If (wpAny_isTrue_Compare1 (nm_l H₂ (.head _) hd (c_int H₂ fun u3 s₃ H₃ => PyProof.Rows.eq_int (wpAny_truthy_bool ?_))))))
  by_cases h2 : deedOf n = 2
  rotate_left
  · exact ite_neg (by simpa using h2) (rest3 _ _ _ H₃ h0 h1 h2 fun s' q => wpAny_execs_nil (wpAny_execs_nil q))
  refine ite_pos (by rw [h2]; decide) ?_
  refine wpAny_execs_cons (wpAny_Assign_Name (c_int H₃ fun u4 s₄ H₄ => st_g H₄ (fun _ => up_head) fun m₁ s₅ e₁ k₁ H₅ => ?_))
  have hmi₁ := (k₁ (Str.ofString "mine") (by decide)).trans hmi
  have hot₁ := (k₁ (Str.ofString "other") (by decide)).trans hot
  refine wpAny_execs_cons (for_list (base := base) (os₀ := os₀) (fun i l => ∃ m' t, m' (Str.ofString "total") = some (.int (if i = 0 then 0 else if i = 1 then (g (mineOf n)).getD 1 else (g (mineOf n)).getD 1 + (g (otherOf n)).getD 1) t) ∧ (∀ y, y ≠ Str.ofString "total" → y ≠ Str.ofString "value" → m' y = m y) ∧
      l = (L, nsA m') :: (rg, lstA vr) :: (L + 1, celA (some (.ref rg))) :: led) R.handled ?_)
  refine List_ (wpAny_items_cons (Subscript_ (nm_c H₅ rfl (.tail _ (.tail _ (.head _))) (nm_l H₅ (.head _) hmi₁ (item_l H₅ (.tail _ (.head _)) (by omega) (by omega) hvm (wpAny_items_cons (Subscript_ (nm_c H₅ rfl (.tail _ (.tail _ (.head _))) (nm_l H₅ (.head _) hot₁ (item_l H₅ (.tail _ (.head _)) (by omega) (by omega) hvo (wpAny_items_nil (new_list H₅ fun ll s₆ H₆ => ?_))))))))))))
  refine ⟨ll, [vm, vo], _, rfl, H₆, ⟨m₁, u4, by rw [e₁, if_pos rfl], fun y hy _ => k₁ y hy, rfl⟩, ?_, ?_⟩
  · rintro I i v l s₇ E' hv ⟨m₂, t₂, e₂, k₂, rfl⟩ H₇
    obtain ⟨o, ho, hsum⟩ : ∃ o : Option Int, RVal o v ∧ (if i + 1 = 0 then 0 else if i + 1 = 1 then (g (mineOf n)).getD 1 else (g (mineOf n)).getD 1 + (g (otherOf n)).getD 1) = (if i = 0 then 0 else if i = 1 then (g (mineOf n)).getD 1 else (g (mineOf n)).getD 1 + (g (otherOf n)).getD 1) + o.getD 1 := by
      match i, hv with
      | 0, hv => cases hv; exact ⟨g (mineOf n), rm, by simp⟩
      | 1, hv => cases hv; exact ⟨g (otherOf n), ro, by simp⟩
      | i + 2, hv => simp at hv
    refine wpAny_assign_Name (st_g H₇ (fun _ => .tail (.tail .head)) fun m₃ s₈ e₃ k₃ H₈ => ?_)
    have e₂' := (k₃ (Str.ofString "total") (by decide)).trans e₂
    refine wpAny_execs_cons (wpAny_If (wpAny_isTrue_Compare1 (nm_l H₈ (.tail _ (.tail _ (.head _))) e₃ (wpAny_Constant_none (is_none (wpAny_truthy_bool ?_))))))
    rw [ho.isNone]
    have fin : ∀ (s₉ : Shared) (tt : Tok) (E'' : Value → Shared → Prop) (QQ : Unit → Shared → Prop), St base os₀ ((I, itA ll (i + 1)) :: (ll, lstA [vm, vo]) :: (L, nsA m₃) :: (rg, lstA vr) :: (L + 1, celA (some (.ref rg))) :: led) s₉ →
        (∀ s', (∃ led', (∃ m' t, m' (Str.ofString "total") = some (.int (if i + 1 = 0 then 0 else if i + 1 = 1 then (g (mineOf n)).getD 1 else (g (mineOf n)).getD 1 + (g (otherOf n)).getD 1) t) ∧ (∀ y, y ≠ Str.ofString "total" → y ≠ Str.ofString "value" → m' y = m y) ∧ led' = (L, nsA m') :: (rg, lstA vr) :: (L + 1, celA (some (.ref rg))) :: led) ∧
          St base os₀ ((I, itA ll (i + 1)) :: (ll, lstA [vm, vo]) :: led') s') → QQ () s') →
        wpAny (model prog w) A (storeName (plainEnv fname fqual fkwd fdoc fmod fann fcode fct L fP) (Str.ofString "total") (.int ((if i = 0 then 0 else if i = 1 then (g (mineOf n)).getD 1 else (g (mineOf n)).getD 1 + (g (otherOf n)).getD 1) + o.getD 1) tt)) QQ E'' s₉ := fun s₉ tt E'' QQ H₉ hQQ => by
      refine st_g H₉ (fun _ => .tail (.tail .head)) fun m₄ s₁₀ e₄ k₄ H₁₀ => hQQ _ ⟨_, ⟨m₄, tt, by rw [e₄, hsum], fun y hy hy' => (k₄ y hy).trans ((k₃ y hy').trans (k₂ y hy hy')), rfl⟩, H₁₀⟩
    cases o with
    | none =>
      refine ite_pos rfl ?_
      refine wpAny_execs_cons (wpAny_AugAssign_Name (ld_l H₈ (.tail _ (.tail _ (.head _))) e₂' (c_int H₈ fun w1 s₉ H₉ => PyProof.Rows.iadd_int ?_)))
      have H₁₀ : St base os₀ _ { s₉ with toks := s₉.toks + 1 } := H₉.tok
      exact fin _ _ _ _ H₁₀ fun s' q => wpAny_execs_nil (wpAny_execs_nil q)
    | some x =>
      obtain ⟨tx, rfl⟩ : ∃ t, v = Value.int x t := ho
      refine ite_neg (by simp) ?_
      refine wpAny_execs_cons (wpAny_AugAssign_Name (ld_l H₈ (.tail _ (.tail _ (.head _))) e₂' (nm_l H₈ (.tail _ (.tail _ (.head _))) e₃ (PyProof.Rows.iadd_int ?_))))
      have H₁₀ : St base os₀ _ { s₈ with toks := s₈.toks + 1 } := H₈.tok
      exact fin _ _ _ _ H₁₀ fun s' q => wpAny_execs_nil (wpAny_execs_nil q)
  · rintro l s₇ ⟨m₂, t₂, e₂, k₂, rfl⟩ H₇
    have H₈ := H₇.sub (List.Sublist.cons _ (.refl _))
    have e₂' : m₂ (Str.ofString "total") = some (.int ((g (mineOf n)).getD 1 + (g (otherOf n)).getD 1) t₂) := by rw [e₂]; rfl
    refine wpAny_execs_cons (wpAny_Assign_Subscript (nm_l H₈ (.head _) e₂' (nm_c H₈ rfl (.tail _ (.tail _ (.head _))) (nm_l H₈ (.head _) ((k₂ _ (by decide) (by decide)).trans hmi) (l_set H₈ (.tail .head) (by omega) (by omega) (by rw [K.1]; omega) fun s₉ H₉ => wpAny_execs_nil (wpAny_execs_nil (wpAny_execs_nil (h m₂ _ tp _ ?_ (fun y _ h2 h3 => k₂ y h2 h3) ((k₂ _ (by decide) (by decide)).trans (same (by rw [h2]; decide))) H₉))))))))
    rw [em]
    unfold stepG; rw [if_neg h0, if_neg h1, if_pos h2]
    exact K.set hm4 ⟨t₂, rfl⟩
end
end Mine

namespace Mine
open PySem PySem.W PyProof.Rows PySem.Calls PySem.Spec
section
variable {prog : Program} {w : World} {A : Around} {E : Value → Shared → Prop} {s : Shared} {base : Heap} {os₀ : OsState} {led : Led} {mg mb : Str → Option Value} {L fP rg pr pl : Addr} {vr pv vpl : List Value} {g : Regs} {m : Str → Option Value} {n : Int} {p : Nat} {tp tn : Tok} {Q : Flow → Shared → Prop}
  {fname fqual : Str} {fkwd fdoc fmod : Value} {fann : Option Addr} {fcode fct : Value}
/-- a row gone through by the plain loop -/
theorem p_row (R : Room prog w A base) (K : RV vr g) (hpr : m (Str.ofString "program") = some (.ref pr)) (hpl : m (Str.ofString "places") = some (.ref pl)) (hat : m (Str.ofString "at") = some (.int (p : Nat) tp)) (hp : pv[p]? = some (.int n tn)) (hpv : pv.length < 1000) (hvp : vpl.length < 1000) (hmem : (pr, lstA pv) ∈ led)
    (H : St base os₀ ((L, nsA m) :: (rg, lstA vr) :: (L + 1, celA (some (.ref rg))) :: (pl, lstA vpl) :: led) s)
    (h : ∀ m' vr' t' s', RV vr' (stepG n g) → m' (Str.ofString "program") = some (.ref pr) → m' (Str.ofString "places") = some (.ref pl) → m' (Str.ofString "at") = some (.int (stepAt n p : Nat) t') →
      St base os₀ ((L, nsA m') :: (rg, lstA vr') :: (L + 1, celA (some (.ref rg))) :: (pl, lstA (vpl ++ [.int (p : Nat) tp])) :: led) s' → Q .next s') :
    wpAny (model prog w) A (execs rowB (plainEnv fname fqual fkwd fdoc fmod fann fcode fct L fP)) Q E s := by
  have hplt : p < pv.length := by
    rcases Nat.lt_or_ge p pv.length with q | q
    · exact q
    · rw [List.getElem?_eq_none q] at hp; cases hp
  refine wpAny_execs_cons (wpAny_Expr (l_append_stmt (l := pl) (nm_l H (.head _) hpl ⟨rfl, ?_, nm_l H (.head _) hat (l_append H (.tail (.tail (.tail .head))) (fun s₄ H₄ => ?_) (Nat.le_trans (Nat.le_of_lt hvp) (by decide)))⟩)))
  · obtain ⟨ol, hol, k, rfl⟩ := H.get (a := pl) (P := lstA vpl) (.tail _ (.tail _ (.tail _ (.head _)))); exact ⟨_, hol, rfl, rfl⟩
  refine wpAny_execs_cons (wpAny_Assign_Name (Subscript_ (nm_l H₄ (.head _) hpr (nm_l H₄ (.head _) hat (item_l H₄ (.tail _ (.tail _ (.tail _ (.tail _ hmem)))) (by omega) (by omega) (by simpa using hp) (st_g H₄ (fun _ => up_head) fun m₁ s₅ e₁ k₁ H₅ => ?_))))))
  refine wpAny_execs_cons (wpAny_Assign_Name (wpAny_BinOp (nm_l H₅ (.head _) e₁ (c_int H₅ fun u2 s₆ H₆ => i_mod H₆ (by decide) fun td s₇ H₇ => st_g H₇ (fun _ => up_head) fun m₂ s₈ e₂ k₂ H₈ => ?_))))
  have hn₂ := (k₂ (Str.ofString "n") (by decide)).trans e₁
  refine wpAny_execs_cons (wpAny_Assign_Name (wpAny_BinOp (wpAny_BinOp (nm_l H₈ (.head _) hn₂ (c_int H₈ fun u3 s₉ H₉ => i_fdiv R H₉ (by decide) fun u4 s₁₀ H₁₀ => c_int H₁₀ fun u5 s₁₁ H₁₁ => i_mod H₁₁ (by decide) fun tm s₁₂ H₁₂ => st_g H₁₂ (fun _ => up_head) fun m₃ s₁₃ e₃ k₃ H₁₃ => ?_)))))
  have hn₃ := (k₃ (Str.ofString "n") (by decide)).trans hn₂
  refine wpAny_execs_cons (wpAny_Assign_Name (wpAny_BinOp (wpAny_BinOp (nm_l H₁₃ (.head _) hn₃ (c_int H₁₃ fun u6 s₉ H₉ => i_fdiv R H₉ (by decide) fun u7 s₁₀ H₁₀ => c_int H₁₀ fun u8 s₁₁ H₁₁ => i_mod H₁₁ (by decide) fun to s₁₂ H₁₂ => st_g H₁₂ (fun _ => up_head) fun m₄ s₁₄ e₄ k₄ H₁₄ => ?_)))))
  have bk : ∀ y, y ≠ Str.ofString "n" → y ≠ Str.ofString "deed" → y ≠ Str.ofString "mine" → y ≠ Str.ofString "other" → m₄ y = m y := fun y a b c d => (k₄ y d).trans ((k₃ y c).trans ((k₂ y b).trans (k₁ y a)))
  refine p_deeds (tn := tn) (td := td) (tm := tm) (to := to) (tp := tp) R K ((k₄ _ (by decide)).trans hn₃) ((k₄ _ (by decide)).trans ((k₃ _ (by decide)).trans e₂)) ((k₄ _ (by decide)).trans e₃) e₄ ((bk _ (by decide) (by decide) (by decide) (by decide)).trans hat) H₁₄ fun m₅ vr' t' s₁₅ K' hk' hat' H₁₅ => ?_
  refine wpAny_execs_cons (wpAny_AugAssign_Name (ld_l H₁₅ (.head _) hat' (c_int H₁₅ fun u9 s₁₆ H₁₆ => PyProof.Rows.iadd_int ?_)))
  have H₁₇ : St base os₀ _ { s₁₆ with toks := s₁₆.toks + 1 } := H₁₆.tok
  refine st_g H₁₇ (fun _ => up_head) fun m₆ s₁₇ e₆ k₆ H₁₈ => wpAny_execs_nil ?_
  have bk' : ∀ y, y ≠ Str.ofString "at" → y ≠ Str.ofString "total" → y ≠ Str.ofString "value" → y ≠ Str.ofString "n" → y ≠ Str.ofString "deed" → y ≠ Str.ofString "mine" → y ≠ Str.ofString "other" → m₆ y = m y := fun y a b c d e f g => (k₆ y a).trans ((hk' y a b c).trans (bk y d e f g))
  refine h m₆ vr' s₁₆.toks s₁₇ K' ((bk' _ (by decide) (by decide) (by decide) (by decide) (by decide) (by decide) (by decide)).trans hpr) ((bk' _ (by decide) (by decide) (by decide) (by decide) (by decide) (by decide) (by decide)).trans hpl) ?_ H₁₈
  rw [e₆]; congr 2; omega
end
end Mine

namespace Mine
open PySem PySem.W PyProof.Rows PySem.Calls PySem.Spec
theorem run_step {ns : List Int} (h26 : ns.length ≤ 26) {p : Nat} {n : Int} (e : ns[p]? = some n) (g : Regs) : runG ns 26 p g = ((runG ns 26 (stepAt n p) (stepG n g)).1, p :: (runG ns 26 (stepAt n p) (stepG n g)).2) := by
  have hs : p + 1 ≤ stepAt n p := by unfold stepAt; split <;> omega
  rw [runG_fuel ns 26 25 (stepAt n p) (stepG n g) (by omega) (by omega)]
  show runG ns (25 + 1) p g = _
  simp only [runG, e]
theorem run_end {ns : List Int} {p : Nat} (e : ns[p]? = none) (g : Regs) : runG ns 26 p g = (g, []) := by
  show runG ns (25 + 1) p g = _
  simp only [runG, e]
theorem ints_snoc {vs : List Value} {ns : List Int} (h : IntsAre vs ns) (n : Int) (t : Tok) : IntsAre (vs ++ [.int n t]) (ns ++ [n]) := by
  induction h with
  | nil => exact .cons n t .nil
  | cons k t' _ ih => exact .cons k t' ih
section
variable {prog : Program} {w : World} {A : Around} {E : Value → Shared → Prop} {s : Shared} {base : Heap} {os₀ : OsState} {led : Led} {mg mb : Str → Option Value} {fG fS fP u pr : Addr} {pv : List Value} {gd sd pd : FuncData} {ns : List Int} {Q : Value → Shared → Prop}

/-- into _law_plain, up to behind its loop -/
theorem plain_loop {fs : List Env} (G : G10 base mg mb fG fS fP u gd sd pd) (hS : base.NoSeer) (ht : prog.given.tree = none) (hpv : IntsAre pv ns) (hlen : pv.length ≤ 26) (hroom : A.depth + 210 < recursionLimit) (hu : A.units + 100 < cLine) (hh : A.handled = none) (hfr : A.frames = some fs)
    (H : St base os₀ led s) (hmem : (pr, lstA pv) ∈ led)
    (h : ∀ fname fqual fkwd fdoc fmod fann fcode fct L rg pl vr vv m s', Room prog w (A.deeper (plainEnv fname fqual fkwd fdoc fmod fann fcode fct L fP)) base → RV vr (runG ns 26 0 fun _ => none).1 → IntsAre vv ((runG ns 26 0 fun _ => none).2.map fun i : Nat => (i : Int)) → m (Str.ofString "places") = some (.ref pl) →
      St base os₀ ((L, nsA m) :: (rg, lstA vr) :: (L + 1, celA (some (.ref rg))) :: (pl, lstA vv) :: led) s' →
      ∀ E', wpAny (model prog w) (A.deeper (plainEnv fname fqual fkwd fdoc fmod fann fcode fct L fP)) (execs ((fnBody plainStmt).drop 4) (plainEnv fname fqual fkwd fdoc fmod fann fcode fct L fP)) (fun fl s'' => Q (match fl with | .ret v => v | _ => .none) s'') E' s') :
    wpAny (model prog w) A (call (.ref fP) [.ref pr] []) Q E s := by
  obtain ⟨⟨o, ho, hd⟩, hb, hpar, hsc, hc, hgl, hbi, hdf, hcd⟩ := G.dp
  obtain ⟨fname, fqual, fpar, fbody, fscope, fglob, fclo, fdef, fkwd, fdoc, fmod, fann, fcode, fct, fbui⟩ := pd
  simp only at hb hpar hsc hc hgl hbi hdf hcd
  subst hb hpar hsc hc hgl hbi hdf
  refine fn_enterC (args := ⟨[.ref pr], []⟩) H (by omega) G.gr.lim (H.keep _ _ ho) hd (hcd.keeps H.keep) rfl rfl (by intro n; show ([Str.ofString "registers"] : List Str).Nodup; decide) ?_
  refine wpAny_of_eq (a := [(Str.ofString "program", .ref pr)]) rfl ?_
  refine ⟨_, H, kindsX rfl, fun L s₁ H₁ => ?_⟩
  obtain ⟨m, hm, H₂⟩ : ∃ m, m (Str.ofString "program") = some (.ref pr) ∧ St base os₀ ((L + 1, celA none) :: (L, nsA m) :: led) s₁ := ⟨_, rfl, H₁⟩
  clear H₁
  have R : Room prog w (A.deeper (plainEnv fname fqual fkwd fdoc fmod fann fcode fct L fP)) base := room_deeper hS G.gr.lim ht hfr hh (by omega) (by omega) rfl rfl rfl rfl
  refine wpAny_execs_cons (wpAny_Assign_Name (wpAny_BinOp (List_ (wpAny_items_cons (wpAny_Constant_none (k := 0) (pos := ⟨15, 17, 15, 21⟩) (wpAny_items_nil (new_list H₂ fun l0 s₂ H₃ => c_int H₃ fun u1 s₃ H₄ => l_mul H₄ (.head _) (by decide) (by decide) (by decide) fun rg s₄ H₅ => st_c H₅ rfl (.tail (.tail .head)) fun s₅ H₆ => ?_)))))))
  refine wpAny_execs_cons (wpAny_Assign_Name (List_ (wpAny_items_nil (new_list H₆ fun pl s₆ H₇ => st_g H₇ (fun _ => .tail (.tail (.tail (.tail .head)))) fun m₁ s₇ e₁ k₁ H₈ => ?_))))
  refine wpAny_execs_cons (wpAny_Assign_Name (c_int H₈ fun u2 s₈ H₉ => st_g H₉ (fun _ => .tail (.tail (.tail (.tail .head)))) fun m₂ s₉ e₂ k₂ H₁₀ => ?_))
  have H₁₁ : St base os₀ ((L, nsA m₂) :: (rg, lstA (List.replicate (4 : Int).toNat [Value.none]).flatten) :: (L + 1, celA (some (.ref rg))) :: (pl, lstA []) :: led) s₉ := by
    have Ha := H₁₀.perm (led' := (l0, lstA [.none]) :: (L, nsA m₂) :: (rg, lstA (List.replicate (4 : Int).toNat [Value.none]).flatten) :: (L + 1, celA (some (.ref rg))) :: (pl, lstA []) :: led) (by
      repeat (first | exact List.Perm.refl _ | refine Pick.perm (by (repeat (first | exact Pick.head | apply Pick.tail))) ?_))
    exact Ha.sub (.cons _ (.refl _))
  have hns : ns.length = pv.length := (allInt_of hpv).2.symm
  have hpr₂ : m₂ (Str.ofString "program") = some (.ref pr) := (k₂ _ (by decide)).trans ((k₁ _ (by decide)).trans hm)
  have hpl₂ : m₂ (Str.ofString "places") = some (.ref pl) := (k₂ _ (by decide)).trans e₁
  refine wpAny_execs_cons (while_led (base := base) (os₀ := os₀) (n := ns.length) (fun k l => ∃ m p t vr vv g vis, m (Str.ofString "program") = some (.ref pr) ∧ m (Str.ofString "places") = some (.ref pl) ∧ m (Str.ofString "at") = some (.int (p : Nat) t) ∧ RV vr g ∧ IntsAre vv (vis.map fun i : Nat => (i : Int)) ∧ vis.length ≤ p ∧ k = ns.length - p ∧
      runG ns 26 0 (fun _ => none) = ((runG ns 26 p g).1, vis ++ (runG ns 26 p g).2) ∧ l = (L, nsA m) :: (rg, lstA vr) :: (L + 1, celA (some (.ref rg))) :: (pl, lstA vv) :: led) H₁₁
      ⟨m₂, 0, u2, _, [], _, [], hpr₂, hpl₂, e₂, RV.start, .nil, Nat.le_refl _, rfl, rfl, rfl⟩ ?_)
  rintro k l s₁₀ E' ⟨m₃, p, t, vr, vv, g, vis, hpr₃, hpl₃, hat₃, K, hvv, hvl, rfl, hrun, rfl⟩ H₁₂
  have hprl := H₁₂.isList (a := pr) (vs := pv) (.tail _ (.tail _ (.tail _ (.tail _ hmem))))
  refine wpAny_isTrue_Compare1 (nm_l H₁₂ (.head _) hat₃ (wpAny_Call_ofName (nm_b H₁₂ G.gr.g G.gr.b G.n1 G.b1 (callWith_builtin rfl (evalArgs_plain (spliced_cons (nm_l H₁₂ (.head _) hpr₃ (spliced_nil (PyProof.Rows.len_list hprl (by rw [List.size_toArray]; omega) ?_)))))))))
  have H₁₃ : St base os₀ _ { s₁₀ with toks := s₁₀.toks + 1 + 1 } := H₁₂.tok
  refine PyProof.Rows.lt_int (wpAny_truthy_bool ?_)
  have hvvl : vv.length = vis.length := by rw [(allInt_of hvv).2, List.length_map]
  by_cases hp : p < pv.length
  · refine ite_pos (by rw [List.size_toArray]; simpa using (by omega : (p : Int) < (pv.length : Int))) ?_
    obtain ⟨n, hn⟩ : ∃ n, ns[p]? = some n := ⟨_, List.getElem?_eq_getElem (by omega)⟩
    obtain ⟨tn, hpn⟩ := ints_get hpv hn
    have hs : p + 1 ≤ stepAt n p := by unfold stepAt; split <;> omega
    refine p_row R K hpr₃ hpl₃ hat₃ hpn (by omega) (by omega) hmem H₁₃ fun m₄ vr' t' s₁₁ K' hpr₄ hpl₄ hat₄ H₁₄ => ?_
    refine ⟨ns.length - stepAt n p, _, by omega, ⟨m₄, stepAt n p, t', vr', _, stepG n g, vis ++ [p], hpr₄, hpl₄, hat₄, K', ?_, by simp; omega, rfl, ?_, rfl⟩, H₁₄⟩
    · rw [List.map_append]; exact ints_snoc hvv _ _
    · rw [hrun, run_step (by omega) hn g]; simp
  · refine ite_neg (by rw [List.size_toArray]; simpa using (by omega : (pv.length : Int) ≤ (p : Int))) ?_
    have hn : ns[p]? = none := List.getElem?_eq_none (by omega)
    rw [run_end hn g] at hrun
    have e1 : (runG ns 26 0 fun _ => none).1 = g := by rw [hrun]
    have e2 : (runG ns 26 0 fun _ => none).2 = vis := by rw [hrun]; simp
    exact h fname fqual fkwd fdoc fmod fann fcode fct L rg pl vr vv m₃ _ R (by rw [e1]; exact K) (by rw [e2]; exact hvv) hpl₃ H₁₃ _
end
end Mine

namespace Mine
open PySem PySem.W PyProof.Rows PySem.Calls PySem.Spec
/-- the pairs of the registers up to i -/
def TLi (tl : List Tup2) (g : Regs) (i : Nat) : Prop := ∃ tf : Nat → Tok, tl.map (fun x => (x.2.1, x.2.2.2)) = ((List.range i).filter fun r => (g r).isSome).map fun r => (rkey r, .int ((g r).getD 0) (tf r))
theorem TLi.none {tl : List Tup2} {g : Regs} {i : Nat} (h : TLi tl g i) (e : g i = none) : TLi tl g (i + 1) := by
  obtain ⟨tf, q⟩ := h
  refine ⟨tf, ?_⟩
  rw [List.range_succ, List.filter_append, q]
  simp [e]
theorem TLi.some {tl : List Tup2} {g : Regs} {i : Nat} {x : Int} (h : TLi tl g i) (e : g i = some x) (a : Addr) (t tx : Tok) : TLi (tl ++ [(a, rkey i, t, .int x tx)]) g (i + 1) := by
  obtain ⟨tf, q⟩ := h
  refine ⟨fun r => if r = i then tx else tf r, ?_⟩
  rw [List.range_succ, List.filter_append, List.map_append, List.map_append, q]
  congr 1
  · refine List.map_congr_left fun r hr => ?_
    have : r < i := List.mem_range.mp (List.mem_filter.mp hr).1
    show _ = (rkey r, Value.int ((g r).getD 0) (if r = i then tx else tf r))
    rw [if_neg (by omega)]
  · simp [e]
section
variable {prog : Program} {w : World} {A : Around} {E : Value → Shared → Prop} {s : Shared} {base : Heap} {os₀ : OsState} {led : Led} {mg mb : Str → Option Value} {fG fS fP u pr L rg pl : Addr} {pv vr vv : List Value} {gd sd pd : FuncData} {g : Regs} {m : Str → Option Value} {Q : Flow → Shared → Prop}
  {fname fqual : Str} {fkwd fdoc fmod : Value} {fann : Option Addr} {fcode fct : Value}
theorem plain_end (R : Room prog w A base) (G : G10 base mg mb fG fS fP u gd sd pd) (K : RV vr g) (hpl : m (Str.ofString "places") = some (.ref pl))
    (H : St base os₀ ((L, nsA m) :: (rg, lstA vr) :: (L + 1, celA (some (.ref rg))) :: (pl, lstA vv) :: led) s)
    (h : ∀ T D tl nl s', TLi tl g 4 → (∀ x ∈ tl, (x.1, tupA [.str x.2.1 x.2.2.1, x.2.2.2]) ∈ nl) → St base os₀ ((T, tupA [.ref D, .ref pl]) :: (D, lstA (tl.map fun x => .ref x.1)) :: (nl ++ ((pl, lstA vv) :: led))) s' → Q (.ret (.ref T)) s') :
    wpAny (model prog w) A (execs ((fnBody plainStmt).drop 4) (plainEnv fname fqual fkwd fdoc fmod fann fcode fct L fP)) Q E s := by
  refine wpAny_execs_cons (wpAny_Return_some (Tuple_ (wpAny_items_cons (comp_free (base := base) (os₀ := os₀) (cl := [(Str.ofString "registers", L + 1)]) rfl ?_ (by decide) rfl (by decide) rfl))))
  refine wpAny_Call_ofName (nm_b H G.gr.g G.gr.b G.n4 G.b4 (callWith_excType rfl (evalArgs_plain (spliced_cons (c_int (k := 0) (pos := ⟨41, 57, 41, 58⟩) H fun u1 s₁ H₁ => spliced_nil (r_new (n := 4) H₁ fun r s₂ H₂ => ?_))))))
  obtain ⟨v1, v2, H₂⟩ := H₂
  refine r_iter (by decide) H₂ fun I s₃ H₃ => ?_
  refine ⟨I, 4, _, rngA 4, [], _, fun i ys led' => ∃ (tl : List Tup2) (nl : Led), led' = nl ++ ((L, nsA m) :: (rg, lstA vr) :: (L + 1, celA (some (.ref rg))) :: (pl, lstA vv) :: led) ∧ ys = tl.map (fun x : Tup2 => Value.ref x.1) ∧ (∀ x ∈ tl, (x.1, tupA [.str x.2.1 x.2.2.1, x.2.2.2]) ∈ nl) ∧ TLi tl g i, rfl, Iter.range R.handled, by decide, H₃, ⟨[], [], rfl, rfl, fun x hx => absurd hx List.not_mem_nil, fun _ => 0, rfl⟩, ?_, ?_⟩
  · rintro C D i v ys mC led' s₄ E' hi ⟨ti, rfl⟩ ⟨tl, nl, rfl, rfl, hnl, hTL⟩ hmC H₄
    obtain ⟨v, hv, hr⟩ := K.2 i hi
    have mR : ∀ (x y z : Addr × Asn) (nl' : Led), (rg, lstA vr) ∈ (x :: y :: z :: ([] ++ (nl' ++ ((L, nsA m) :: (rg, lstA vr) :: (L + 1, celA (some (.ref rg))) :: (pl, lstA vv) :: led)))) := fun x y z nl' => .tail _ (.tail _ (.tail _ (List.mem_append_right [] (List.mem_append_right nl' (.tail _ (.head _))))))
    have mC' : ∀ (x y z : Addr × Asn) (nl' : Led), (L + 1, celA (some (.ref rg))) ∈ (x :: y :: z :: ([] ++ (nl' ++ ((L, nsA m) :: (rg, lstA vr) :: (L + 1, celA (some (.ref rg))) :: (pl, lstA vv) :: led)))) := fun x y z nl' => .tail _ (.tail _ (.tail _ (List.mem_append_right [] (List.mem_append_right nl' (.tail _ (.tail _ (.head _)))))))
    refine wpAny_tests_one (wpAny_isTrue_Compare1 (Subscript_ (nm_c H₄ rfl (mC' _ _ _ _) (nm_l H₄ (.head _) hmC (item_l H₄ (mR _ _ _ _) (by omega) (by omega) (by simpa using hv) (wpAny_Constant_none (isNot_none (wpAny_truthy_bool ?_))))))))
    rw [hr.isNone]
    cases hg : g i with
    | none =>
      refine ite_neg (by simp) ⟨_, ⟨tl, nl, rfl, rfl, hnl, hTL.none hg⟩, H₄⟩
    | some x =>
      rw [hg] at hr
      obtain ⟨tx, rfl⟩ : ∃ t, v = Value.int x t := hr
      refine ite_pos (by simp) ?_
      obtain ⟨l1, l2⟩ := small4 (a := (i : Int)) (by omega) (by omega)
      refine Tuple_ (wpAny_items_cons (wpAny_BinOp (c_str H₄ fun w1 s₅ H₅ => wpAny_Call_ofName (nm_b H₅ G.gr.g G.gr.b G.n3 G.b3 (callWith_excType rfl (evalArgs_plain (spliced_cons (nm_l H₅ (.head _) hmC (spliced_nil (s_int H₅ l1 fun w2 s₆ H₆ => s_add H₆ (fun tk s₇ H₇ => ?_) l2))))))))))
      refine wpAny_items_cons (Subscript_ (nm_c H₇ rfl (mC' _ _ _ _) (nm_l H₇ (.head _) hmC (item_l H₇ (mR _ _ _ _) (by omega) (by omega) (by simpa using hv) (wpAny_items_nil (new_tuple H₇ fun a s₈ H₈ => ?_))))))
      refine ⟨(a, tupA [.str (rkey i) tk, .int x tx]) :: (nl ++ ((L, nsA m) :: (rg, lstA vr) :: (L + 1, celA (some (.ref rg))) :: (pl, lstA vv) :: led)), ⟨tl ++ [(a, rkey i, tk, .int x tx)], (a, tupA [.str (rkey i) tk, .int x tx]) :: nl, rfl, by simp, fun y hy => ?_, hTL.some hg a tk tx⟩, H₈.perm (List.perm_middle (l₁ := [_, _, _]))⟩
      rcases List.mem_append.mp hy with hy | hy
      · exact .tail _ (hnl y hy)
      · rw [List.mem_singleton] at hy; subst hy; exact .head _
  · rintro D ys led' s₄ ⟨tl, nl, rfl, rfl, hnl, hTL⟩ H₄
    refine wpAny_items_cons (nm_l H₄ (.tail _ (List.mem_append_right [] (List.mem_append_right nl (.head _)))) hpl (wpAny_items_nil (new_tuple H₄ fun T s₅ H₅ => h T D tl nl s₅ hTL hnl (H₅.sub ?_))))
    exact .cons_cons _ (.cons_cons _ (show List.Sublist (nl ++ ((pl, lstA vv) :: led)) (nl ++ ((L, nsA m) :: (rg, lstA vr) :: (L + 1, celA (some (.ref rg))) :: (pl, lstA vv) :: led)) from List.Sublist.append (.refl _) (.cons _ (.cons _ (.cons _ (.refl _))))))
end
end Mine

namespace Mine
open PySem PySem.W PyProof.Rows PySem.Calls PySem.Spec
section
variable {prog : Program} {w : World} {A : Around} {E : Value → Shared → Prop} {s : Shared} {base : Heap} {os₀ : OsState} {led : Led} {mg mb : Str → Option Value} {fG fS fP u pr : Addr} {pv : List Value} {gd sd pd : FuncData} {ns : List Int} {Q : Value → Shared → Prop}
/-- the contract of _law_plain -/
theorem plain_ok {fs : List Env} (G : G10 base mg mb fG fS fP u gd sd pd) (hS : base.NoSeer) (ht : prog.given.tree = none) (hpv : IntsAre pv ns) (hlen : pv.length ≤ 26) (hroom : A.depth + 210 < recursionLimit) (hu : A.units + 100 < cLine) (hh : A.handled = none) (hfr : A.frames = some fs)
    (H : St base os₀ led s) (hmem : (pr, lstA pv) ∈ led)
    (h : ∀ T D pl vv tl nl s', IntsAre vv ((runG ns 26 0 fun _ => none).2.map fun i : Nat => (i : Int)) → TLi tl (runG ns 26 0 fun _ => none).1 4 → (∀ x ∈ tl, (x.1, tupA [.str x.2.1 x.2.2.1, x.2.2.2]) ∈ nl) →
      St base os₀ ((T, tupA [.ref D, .ref pl]) :: (D, lstA (tl.map fun x => .ref x.1)) :: (nl ++ ((pl, lstA vv) :: led))) s' → Q (.ref T) s') :
    wpAny (model prog w) A (call (.ref fP) [.ref pr] []) Q E s :=
  plain_loop G hS ht hpv hlen hroom hu hh hfr H hmem fun fname fqual fkwd fdoc fmod fann fcode fct L rg pl vr vv m s' R K hvv hpl H' E' =>
    plain_end R G K hpl H' fun T D tl nl s'' hTL hnl H'' => h T D pl vv tl nl s'' hvv hTL hnl H''
end
end Mine

namespace Mine
open PySem PySem.W PyProof.Rows PySem.Calls PySem.Spec
theorem ints_take {vs : List Value} {ns : List Int} (h : IntsAre vs ns) : ∀ k, IntsAre (vs.take k) (ns.take k) := by
  induction h with
  | nil => intro k; simp; exact .nil
  | cons n t _ ih =>
    intro k
    cases k with
    | zero => exact .nil
    | succ k => exact .cons n t (ih k)
abbrev lawEnv10 (nam : Str) (L fA : Addr) (cd : Value) : Env := envOfC nam (fnScope lawStmt10) L fA cd
section
variable {prog : Program} {w : World} {A : Around} {E : Value → Shared → Prop} {s : Shared} {base : Heap} {os₀ : OsState} {led : Led} {mg mb : Str → Option Value}
  {fG fS fP u L fA P c a : Addr} {nam : Str} {gd sd pd : FuncData} {m : Str → Option Value} {Q : Flow → Shared → Prop} {vs : List Value} {ns : List Int}
/-- a slice up to a number -/
theorem l_upto {env : Env} {x : Str} {k : Nat} {i : Int} {b : Nat} {p1 p2 p3 p4 : Pos} {Q : Value → Shared → Prop} (H : St base os₀ led s) (hm : (env.locals, nsA m) ∈ led) (hv : m x = some (.ref a)) (hl : base.IsList a vs.toArray) (hsz : vs.length ≤ sizeLine)
    (h : ∀ r s', St base os₀ ((r, lstA (vs.take b)) :: led) s' → Q (.ref r) s') (hib : i = (b : Nat) := by rfl)
    (hk : env.scope.kind = .function := by rfl) (hx : env.kindOf x = some .local := by rfl) (hd : (x == ("__debug__" : Str)) = false := by decide) :
    wpAny (model prog w) A (eval (.Subscript (.Name x p1) (.Slice none (some (.Constant (.int i) k p2)) none p3) p4) env) Q E s := by
  subst hib
  refine wpAny_Subscript_list_slice (nm_l H hm hv (evalPart_none_step (evalPart_some_step (c_int H fun t s₁ H₁ => ⟨a, vs.toArray, none, some (b : Nat), rfl, ?_, by simpa using hsz, .none, .int (b : Nat) t, ?_⟩))) hk hx hd)
  · obtain ⟨o, ho, r⟩ := hl; exact ⟨o, H₁.keep _ _ ho, r⟩
  · exact h _ _ (H₁.push2 (tk := s₁.toks) rfl rfl ⟨0, by rw [slicePick_upto']⟩)

theorem setup10 (G : G10 base mg mb fG fS fP u gd sd pd) (C : CodeHd base c P) (hm : m (Str.ofString "script") = some (.ref a)) (hl : base.IsList a vs.toArray) (hi : IntsAre vs ns) (hsz : vs.length ≤ 63)
    (H : St base os₀ [(L, nsA m), (L + 1, celA none), (P, tabA #[])] s)
    (h : ∀ m' S pr pl fa la lam c' ctv pv ns' ps s', m' (Str.ofString "program") = some (.ref pr) → IntsAre pv ns' → pv.length ≤ 26 →
      St base os₀ (core10 S pr pl fa la lam (L + 1) c' (lamObj ((lawEnv10 nam L fA (.ref c)).qual ++ "<lambda>") (L + 1) ((mg "__name__").getD .none) c' ctv) ((lawEnv10 nam L fA (.ref c)).qual ++ "<lambda>") pv [] [] ++ [(L, nsA m'), (P, tabA ps)]) s' →
      wpAny (model prog w) A (execs ((fnBody lawStmt10).drop 3) (lawEnv10 nam L fA (.ref c))) Q E s') :
    wpAny (model prog w) A (execs (fnBody lawStmt10) (lawEnv10 nam L fA (.ref c))) Q E s := by
  refine wpAny_execs_cons (wpAny_Assign_Name (wpAny_BinOp (List_ (wpAny_items_cons (c_int (k := 0) (pos := ⟨72, 15, 72, 18⟩) H fun t1 s₁ H₁ => wpAny_items_cons (c_int (k := 0) (pos := ⟨72, 20, 72, 23⟩) H₁ fun t2 s₂ H₂ => wpAny_items_nil (new_list H₂ fun l0 s₃ H₃ =>
    l_upto (b := 24) H₃ (.tail _ (.head _)) hm hl (Nat.le_trans hsz (by decide)) fun r s₄ H₄ => l_add H₄ (.tail _ (.head _)) (.head _) (by simp only [List.length_take, List.length_cons, List.length_nil]; exact Nat.le_trans (by omega : _ ≤ 26) (by decide)) fun pr s₅ H₅ => st_g H₅ (fun _ => .tail (.tail (.tail .head))) fun m₁ s₆ e₁ k₁ H₆ => ?_)))))))
  have H₇ : St base os₀ [(pr, lstA ([.int 560 t1, .int 725 t2] ++ vs.take 24)), (L, nsA m₁), (L + 1, celA none), (P, tabA #[])] s₆ := H₆.sub (.cons_cons _ (.cons _ (.cons _ (.refl _))))
  clear H₆ H₅ H₄ H₃
  refine wpAny_execs_cons (wpAny_Assign_Name (List_ (wpAny_items_cons (nm_l H₇ (.tail _ (.head _)) e₁ (wpAny_items_cons (List_ (wpAny_items_nil (new_list H₇ fun pl s₇ H₈ => wpAny_items_cons (List_ (wpAny_items_nil (new_list H₈ fun fa s₈ H₉ => wpAny_items_cons (List_ (wpAny_items_nil (new_list H₉ fun la s₉ H₁₀ => wpAny_items_nil (new_list H₁₀ fun S s₁₀ H₁₁ =>
    st_c H₁₁ rfl (.tail (.tail (.tail (.tail (.tail (.tail .head)))))) fun s₁₁ H₁₂ => ?_)))))))))))))))
  refine wpAny_execs_cons (wpAny_Expr (l_append_stmt (l := S) (nm_c H₁₂ rfl (by k_mem) ⟨rfl, ?_, ?_⟩)))
  · obtain ⟨ol, hol, n, rfl⟩ := H₁₂.get (.head _); exact ⟨_, hol, rfl, rfl⟩
  refine kla_eval rfl (mk_lam_new (ps := #[]) H₁₂ G.gr C rfl rfl rfl trivial rfl (fun c' => .tail (.tail (.tail (.tail (.tail (.tail (.tail .head))))))) fun lam c' ctv s₁₂ H₁₃ => ?_)
  refine l_append H₁₃ (.tail (.tail .head)) (fun s₁₃ H₁₄ => ?_) (by show 4 ≤ sizeLine; decide)
  refine h m₁ S pr pl fa la lam c' ctv ([.int 560 t1, .int 725 t2] ++ vs.take 24) (560 :: 725 :: ns.take 24) (#[] ++ #[rawInt ((74 : Nat) : Int), rawInt ((17 : Nat) : Int), .ref c']) s₁₃ e₁ (.cons _ _ (.cons _ _ (ints_take hi 24))) (by simp; omega) (H₁₄.perm ?_)
  repeat (first | exact List.Perm.refl _ | refine Pick.perm (by (repeat (first | exact Pick.head | apply Pick.tail))) ?_)
end
end Mine

namespace Mine
open PySem PySem.W PyProof.Rows PySem.Calls PySem.Spec
section
variable {prog : Program} {w : World} {A : Around} {E : Value → Shared → Prop} {s : Shared} {base : Heap} {os₀ : OsState} {rest : Led} {mg mb : Str → Option Value}
  {S pr pl fa la lam c' fG fS fP u L fA : Addr} {pm ctv cd : Value} {qual nam : Str} {gd sd pd : FuncData} {m : Str → Option Value} {Q : Flow → Shared → Prop} {pv : List Value} {ns : List Int} {fs : List Env}

/-- the words and the registers are equal -/
theorem told_eq {led : Led} {tl tl2 : List Tup2} {g : Regs} (h1 : TL tl g) (h2 : TLi tl2 g 4) (H : St base os₀ led s) (m1 : ∀ x ∈ tl, (x.1, tupA [.str x.2.1 x.2.2.1, x.2.2.2]) ∈ led) (m2 : ∀ x ∈ tl2, (x.1, tupA [.str x.2.1 x.2.2.1, x.2.2.2]) ∈ led) (hu : A.units < cLine) :
    (tl.map fun x => Value.ref x.1).length = (tl2.map fun x => Value.ref x.1).length ∧ ∀ p ∈ (tl.map fun x => Value.ref x.1).zip (tl2.map fun x => Value.ref x.1), EqW prog w A s p.1 p.2 true := by
  obtain ⟨tf, q1⟩ := h1
  obtain ⟨tf2, q2⟩ := h2
  constructor
  · have l1 := congrArg List.length q1
    have l2 := congrArg List.length q2
    simp only [List.length_map] at l1 l2 ⊢
    omega
  · intro p hp
    obtain ⟨i, hi⟩ := List.mem_iff_getElem?.mp hp
    obtain ⟨a1, a2⟩ := List.getElem?_zip_eq_some.mp hi
    rw [List.getElem?_map] at a1 a2
    obtain ⟨x, hx, ex⟩ := Option.map_eq_some_iff.mp a1
    obtain ⟨y, hy, ey⟩ := Option.map_eq_some_iff.mp a2
    have b1 := congrArg (fun l : List (Str × Value) => l[i]?) q1
    have b2 := congrArg (fun l : List (Str × Value) => l[i]?) q2
    simp only [List.getElem?_map, hx, hy, Option.map_some] at b1 b2
    obtain ⟨r, hr, er⟩ := Option.map_eq_some_iff.mp b1.symm
    obtain ⟨r2, hr2, er2⟩ := Option.map_eq_some_iff.mp b2.symm
    rw [hr] at hr2
    cases hr2
    rw [← ex, ← ey]
    by_cases hne : x.1 = y.1
    · rw [hne]; exact EqW.self _
    · have mx := H.isTup (m1 x (List.mem_of_getElem? hx))
      have my := H.isTup (m2 y (List.mem_of_getElem? hy))
      simp only [Prod.mk.injEq] at er er2
      refine EqW.tups (vs := [.str x.2.1 x.2.2.1, x.2.2.2]) (us := [.str y.2.1 y.2.2.1, y.2.2.2]) hne mx my rfl hu fun p hp => ?_
      simp only [List.zip_cons_cons, List.zip_nil_right, List.mem_cons, List.not_mem_nil, or_false] at hp
      rcases hp with rfl | rfl
      · have := SeqAt.EqAt.str_str (A := A.in1) (s := s) x.2.1 x.2.2.1 y.2.1 y.2.2.1
        rw [← er.1, ← er2.1] at this ⊢
        rw [beq_self_eq_true] at this
        exact EqW.of this
      · have := SeqAt.EqAt.int_int (A := A.in1) (s := s) ((g r).getD 0) (tf r) ((g r).getD 0) (tf2 r)
        rw [beq_self_eq_true] at this
        show EqW prog w A.in1 s x.2.2.2 y.2.2.2 true
        rw [← er.2, ← er2.2]
        exact EqW.of this

theorem tail10 (R : Room prog w A base) (G : G10 base mg mb fG fS fP u gd sd pd) (hS : base.NoSeer) (ht : prog.given.tree = none) (hfr : A.frames = some fs) (hd : A.depth + 300 < recursionLimit) (hun : A.units + 400 < cLine)
    (hpr : m (Str.ofString "program") = some (.ref pr)) (hpv : IntsAre pv ns) (hlen : pv.length ≤ 26)
    (H : St base os₀ (core10 S pr pl fa la lam (L + 1) c' (lamObj qual (L + 1) pm c' ctv) qual pv [] [] ++ (L, nsA m) :: rest) s)
    (h : ∀ s', St base os₀ rest s' → Q (.ret (.bool true)) s') :
    wpAny (model prog w) A (execs ((fnBody lawStmt10).drop 3) (lawEnv10 nam L fA cd)) Q E s := by
  obtain ⟨og, hog, hdg⟩ := G.dg.obj
  obtain ⟨op, hop, hdp⟩ := G.dp.obj
  refine wpAny_execs_cons (wpAny_Assign_Name (wpAny_Call_ofName (nm_g H G.gr.g G.hg (callWith_fn (evalArgs_plain (spliced_cons (c_int (k := 0) (pos := ⟨75, 26, 75, 27⟩) H fun t0 s₁ H₁ => spliced_cons (Subscript_ (nm_c H₁ rfl (by k_mem) (c_int H₁ fun t1 s₂ H₂ => item_l (vs := [.ref pr, .ref pl, .ref fa, .ref la, .ref lam]) H₂ (by k_mem) (by decide) (by decide) rfl (spliced_nil ⟨⟨og, gd, H₂.keep _ _ hog, hdg⟩, ?_⟩)))))))))))
  refine ask10 (p := 0) (kvs := []) G hS ht hpv hlen 26 (by omega) KV.start (by simp) (by omega) (by omega) R.handled hfr H₂ fun a D tl tl' vv s₃ hsub hTL hvv H₃ => ?_
  have H₄ : St base os₀ ((L, nsA m) :: (a, tupA [.ref D, .ref D]) :: (D, lstA (tl'.map fun x => .ref x.1)) :: (core10 S pr pl fa la lam (L + 1) c' (lamObj qual (L + 1) pm c' ctv) qual pv vv [.ref D] ++ (tupLed tl ++ rest))) s₃ := by
    refine H₃.perm ?_
    refine (List.perm_middle (l₁ := [(a, tupA [.ref D, .ref D]), (D, lstA (tl'.map fun x => Value.ref x.1))])).symm.trans (List.Perm.cons _ (List.Perm.cons _ ?_))
    refine (List.Perm.cons _ (List.perm_append_comm_assoc (core10 S pr pl fa la lam (L + 1) c' (lamObj qual (L + 1) pm c' ctv) qual pv vv [.ref D]) (tupLed tl) rest)).trans ?_
    refine (List.perm_middle (l₁ := tupLed tl)).symm.trans (List.Perm.append_left _ ?_)
    exact (List.perm_middle (l₁ := core10 S pr pl fa la lam (L + 1) c' (lamObj qual (L + 1) pm c' ctv) qual pv vv [.ref D])).symm
  clear H₃
  refine st_g H₄ (fun _ => up_head) fun m₁ s₄ e₁ k₁ H₅ => ?_
  have mS : ∀ (x y z : Addr × Asn), (S, lstA [.ref pr, .ref pl, .ref fa, .ref la, .ref lam]) ∈ (x :: y :: z :: (core10 S pr pl fa la lam (L + 1) c' (lamObj qual (L + 1) pm c' ctv) qual pv vv [.ref D] ++ (tupLed tl ++ rest))) := fun x y z => by k_mem
  have mC : ∀ (x y z : Addr × Asn), (L + 1, celA (some (.ref S))) ∈ (x :: y :: z :: (core10 S pr pl fa la lam (L + 1) c' (lamObj qual (L + 1) pm c' ctv) qual pv vv [.ref D] ++ (tupLed tl ++ rest))) := fun x y z => by k_mem
  refine wpAny_execs_cons (Assign_Tuple_swapped (names := [Str.ofString "places", Str.ofString "faults", Str.ofString "last"]) (Tuple_ (wpAny_items_cons (Subscript_ (nm_c H₅ rfl (mC _ _ _) (c_int H₅ fun t2 s₅ H₆ => item_l H₆ (mS _ _ _) (by decide) (by decide) rfl (wpAny_items_cons (Subscript_ (nm_c H₆ rfl (mC _ _ _) (c_int H₆ fun t3 s₆ H₇ => item_l H₇ (mS _ _ _) (by decide) (by decide) rfl
    (wpAny_items_cons (Subscript_ (nm_c H₇ rfl (mC _ _ _) (c_int H₇ fun t4 s₇ H₈ => item_l H₈ (mS _ _ _) (by decide) (by decide) rfl (wpAny_items_nil (new_tuple H₈ fun T s₈ H₉ => ?_))))))))))))))))
  refine unpackItems_tuple (items := #[.ref pl, .ref fa, .ref la]) R.handled (H₉.isTup (vs := [.ref pl, .ref fa, .ref la]) (.head _)) fun h' hx' => ?_
  have H₁₀ := (H₉.sub (.cons _ (.refl _))).grown (tk := s₈.toks) hx'
  refine assignInOrder_cons (bindName_ (st_g H₁₀ (fun _ => up_head) fun m₂ s₉ e₂ k₂ H₁₁ => assignInOrder_cons (bindName_ (st_g H₁₁ (fun _ => up_head) fun m₃ s₁₀ e₃ k₃ H₁₂ => assignInOrder_cons (bindName_ (st_g H₁₂ (fun _ => up_head) fun m₄ s₁₁ e₄ k₄ H₁₃ => assignInOrder_nil ?_))))))
  have hpr₄ : m₄ (Str.ofString "program") = some (.ref pr) := (k₄ _ (by decide)).trans ((k₃ _ (by decide)).trans ((k₂ _ (by decide)).trans ((k₁ _ (by decide)).trans hpr)))
  refine wpAny_execs_cons (Assign_Tuple (wpAny_Call_ofName (nm_g H₁₃ G.gr.g G.hp (callWith_fn (evalArgs_plain (spliced_cons (nm_l H₁₃ (.head _) hpr₄ (spliced_nil ⟨⟨op, pd, H₁₃.keep _ _ hop, hdp⟩, ?_⟩))))))))
  refine plain_ok G hS ht hpv hlen (by omega) (by omega) R.handled hfr H₁₃ (pr := pr) (by k_mem) fun T₂ D₂ pl₂ vv₂ tl₂ nl s₁₂ hvv₂ hTL₂ hnl H₁₄ => ?_
  have H₁₅ : St base os₀ ((L, nsA m₄) :: (T₂, tupA [.ref D₂, .ref pl₂]) :: (D₂, lstA (tl₂.map fun x => .ref x.1)) :: (pl₂, lstA vv₂) :: (a, tupA [.ref D, .ref D]) :: (D, lstA (tl'.map fun x => .ref x.1)) :: (core10 S pr pl fa la lam (L + 1) c' (lamObj qual (L + 1) pm c' ctv) qual pv vv [.ref D] ++ (nl ++ (tupLed tl ++ rest)))) s₁₂ := by
    refine H₁₄.perm ?_
    refine (List.perm_append_comm_assoc ((L, nsA m₄) :: (T₂, tupA [.ref D₂, .ref pl₂]) :: (D₂, lstA (tl₂.map fun x => .ref x.1)) :: (pl₂, lstA vv₂) :: (a, tupA [.ref D, .ref D]) :: (D, lstA (tl'.map fun x => .ref x.1)) :: core10 S pr pl fa la lam (L + 1) c' (lamObj qual (L + 1) pm c' ctv) qual pv vv [.ref D]) nl (tupLed tl ++ rest)).trans ?_
    refine List.Perm.trans (List.Perm.append_left nl ?_) (List.perm_append_comm_assoc nl [(T₂, tupA [.ref D₂, .ref pl₂]), (D₂, lstA (tl₂.map fun x => Value.ref x.1))] _)
    show ((L, nsA m₄) :: (T₂, tupA [.ref D₂, .ref pl₂]) :: (D₂, lstA (tl₂.map fun x => .ref x.1)) :: (pl₂, lstA vv₂) :: ((a, tupA [.ref D, .ref D]) :: (D, lstA (tl'.map fun x => .ref x.1)) :: (core10 S pr pl fa la lam (L + 1) c' (lamObj qual (L + 1) pm c' ctv) qual pv vv [.ref D] ++ (tupLed tl ++ rest)))).Perm ((T₂, tupA [.ref D₂, .ref pl₂]) :: (D₂, lstA (tl₂.map fun x => .ref x.1)) :: (pl₂, lstA vv₂) :: (L, nsA m₄) :: _)
    refine Pick.perm (.tail (.tail (.tail .head))) ?_
    exact .refl _
  clear H₁₄
  refine assign_Tuple_tuple (items := #[.ref D₂, .ref pl₂]) R.handled (H₁₅.isTup (vs := [.ref D₂, .ref pl₂]) (.tail _ (.head _))) rfl rfl fun h₂ hx₂ => ?_
  have H₁₆ := H₁₅.grown (tk := s₁₂.toks) hx₂
  refine assignInOrder_cons (wpAny_assign_Name (st_g H₁₆ (fun _ => up_head) fun m₅ s₁₃ e₅ k₅ H₁₇ => assignInOrder_cons (wpAny_assign_Name (st_g H₁₇ (fun _ => up_head) fun m₆ s₁₄ e₆ k₆ H₁₈ => assignInOrder_nil ?_))))
  have hpair : m₆ (Str.ofString "pair") = some (.ref a) := (k₆ _ (by decide)).trans ((k₅ _ (by decide)).trans ((k₄ _ (by decide)).trans ((k₃ _ (by decide)).trans ((k₂ _ (by decide)).trans e₁))))
  have hlas : m₆ (Str.ofString "last") = some (.ref la) := (k₆ _ (by decide)).trans ((k₅ _ (by decide)).trans ((k₄ _ (by decide)).trans ((k₃ _ (by decide)).trans e₂)))
  have hfas : m₆ (Str.ofString "faults") = some (.ref fa) := (k₆ _ (by decide)).trans ((k₅ _ (by decide)).trans ((k₄ _ (by decide)).trans e₃))
  have hpls : m₆ (Str.ofString "places") = some (.ref pl) := (k₆ _ (by decide)).trans ((k₅ _ (by decide)).trans e₄)
  have htold : m₆ (Str.ofString "told") = some (.ref D₂) := (k₆ _ (by decide)).trans e₅
  have mla : ∀ (x x1 x2 x3 x4 x5 : Addr × Asn), (la, lstA [.ref D]) ∈ (x :: x1 :: x2 :: x3 :: x4 :: x5 :: (core10 S pr pl fa la lam (L + 1) c' (lamObj qual (L + 1) pm c' ctv) qual pv vv [.ref D] ++ (nl ++ (tupLed tl ++ rest)))) := fun _ _ _ _ _ _ => by k_mem
  refine wpAny_execs_cons (wpAny_If (wpAny_isTrue_BoolOp (wpAny_allTrue_Or_cons (wpAny_isTrue_value (nm_l H₁₈ (.head _) hfas (wpAny_truthy_list (H₁₈.isList (vs := []) (by k_mem)) (by decide) (ite_neg (by decide) ?_)))))))
  have H₁₉ : St base os₀ _ { s₁₄ with toks := s₁₄.toks + 1 + 1 } := H₁₈.tok
  refine wpAny_allTrue_Or_cons (wpAny_isTrue_Compare1 (wpAny_Call_ofName (nm_b H₁₉ G.gr.g G.gr.b G.n1 G.b1 (callWith_builtin rfl (evalArgs_plain (spliced_cons (nm_l H₁₉ (.head _) hlas (spliced_nil (PyProof.Rows.len_list (H₁₉.isList (vs := [.ref D]) (mla _ _ _ _ _ _)) (by show (1 : Int) < _; decide) ?_)))))))))
  have H₂₀ : St base os₀ _ { s₁₄ with toks := s₁₄.toks + 1 + 1 + 1 + 1 } := H₁₉.tok
  refine c_int H₂₀ fun t5 s₁₅ H₂₁ => PyProof.Rows.ne_int (wpAny_truthy_bool (ite_neg (by show ¬ ((1 : Int) != 1) = true; decide) ?_))
  refine wpAny_allTrue_Or_cons (wpAny_isTrue_Compare1 (Subscript_ (nm_l H₂₁ (.head _) hpair (c_int H₂₁ fun t6 s₁₆ H₂₂ => item_tupleL (l := [.ref D, .ref D]) (H₂₂.isTup (by k_mem)) (by decide) (by decide) (j := 0) rfl rfl (Subscript_ (nm_l H₂₂ (.head _) hlas (c_int H₂₂ fun t7 s₁₇ H₂₃ => item_l (vs := [.ref D]) H₂₃ (mla _ _ _ _ _ _) (by decide) (by decide) rfl (wpAny_isNot_ref_self (wpAny_truthy_bool (ite_neg (by decide) ?_))))))))))
  refine wpAny_allTrue_Or_cons (wpAny_isTrue_Compare1 (Subscript_ (nm_l H₂₃ (.head _) hpair (c_int H₂₃ fun t8 s₁₈ H₂₄ => item_tupleL (l := [.ref D, .ref D]) (H₂₄.isTup (by k_mem)) (by decide) (by decide) (j := 1) rfl rfl (Subscript_ (nm_l H₂₄ (.head _) hlas (c_int H₂₄ fun t9 s₁₉ H₂₅ => item_l (vs := [.ref D]) H₂₅ (mla _ _ _ _ _ _) (by decide) (by decide) rfl (wpAny_isNot_ref_self (wpAny_truthy_bool (ite_neg (by decide) (wpAny_allTrue_Or_nil (ite_neg (by decide) (wpAny_execs_nil ?_)))))))))))))
  refine wpAny_execs_cons (wpAny_Return_some (BoolOp_and (wpAny_Compare1 (Subscript_ (nm_l H₂₅ (.head _) hlas (c_int H₂₅ fun t10 s₂₀ H₂₆ => item_l (vs := [.ref D]) H₂₆ (mla _ _ _ _ _ _) (by decide) (by decide) rfl (nm_l H₂₆ (.head _) htold ?_)))))))
  have htup : ∀ x ∈ tl', (x.1, tupA [.str x.2.1 x.2.2.1, x.2.2.2]) ∈ ((L, nsA m₆) :: (T₂, tupA [.ref D₂, .ref pl₂]) :: (D₂, lstA (tl₂.map fun x => .ref x.1)) :: (pl₂, lstA vv₂) :: (a, tupA [.ref D, .ref D]) :: (D, lstA (tl'.map fun x => .ref x.1)) :: (core10 S pr pl fa la lam (L + 1) c' (lamObj qual (L + 1) pm c' ctv) qual pv vv [.ref D] ++ (nl ++ (tupLed tl ++ rest)))) := fun x hx =>
    .tail _ (.tail _ (.tail _ (.tail _ (.tail _ (.tail _ (List.mem_append_right _ (List.mem_append_right _ (List.mem_append_left _ (List.mem_map_of_mem (f := fun x : Tup2 => (x.1, tupA [.str x.2.1 x.2.2.1, x.2.2.2])) (hsub x hx))))))))))
  have htup₂ : ∀ x ∈ tl₂, (x.1, tupA [.str x.2.1 x.2.2.1, x.2.2.2]) ∈ ((L, nsA m₆) :: (T₂, tupA [.ref D₂, .ref pl₂]) :: (D₂, lstA (tl₂.map fun x => .ref x.1)) :: (pl₂, lstA vv₂) :: (a, tupA [.ref D, .ref D]) :: (D, lstA (tl'.map fun x => .ref x.1)) :: (core10 S pr pl fa la lam (L + 1) c' (lamObj qual (L + 1) pm c' ctv) qual pv vv [.ref D] ++ (nl ++ (tupLed tl ++ rest)))) := fun x hx =>
    .tail _ (.tail _ (.tail _ (.tail _ (.tail _ (.tail _ (List.mem_append_right _ (List.mem_append_left _ (hnl x hx))))))))
  obtain ⟨hl, he⟩ := told_eq (prog := prog) (w := w) (A := A.in1) hTL hTL₂ H₂₆ htup htup₂ (by show A.units + 1 < _; omega)
  refine list_eq_same (H₂₆.isList (by k_mem)) (H₂₆.isList (by k_mem)) hl (by omega) he (wpAny_truthy_bool (ite_pos rfl (BoolOp_one (wpAny_Compare1 (nm_l H₂₆ (.head _) hpls (nm_l H₂₆ (.head _) e₆ (eq_intsK (H₂₆.isList (vs := vv) (by k_mem)) hvv (H₂₆.isList (vs := vv₂) (by k_mem)) hvv₂ (by omega) ?_)))))))
  rw [decide_eq_true rfl]
  refine h _ (H₂₆.sub ?_)
  exact .cons _ (.cons _ (.cons _ (.cons _ (.cons _ (.cons _ (((List.sublist_append_right (tupLed tl) rest).trans (List.sublist_append_right nl _)).trans (List.sublist_append_right (core10 S pr pl fa la lam (L + 1) c' (lamObj qual (L + 1) pm c' ctv) qual pv vv [.ref D]) _)))))))
end
end Mine

namespace Mine
open PySem PySem.W PyProof.Rows PySem.Calls PySem.Spec
theorem st_top1 {base : Heap} {s : Shared} {L P : Addr} {m : Str → Option Value} {ob : Obj} (F : Fr base L s.heap m) (N : News base L s.heap [(L + 1, ob), (P, tabObj #[])]) (hob : ob.data = .cell none) (hg : s.gens = #[]) (hL : base.get? L = none) (hP : P < L) : St base s.os [(L, nsA m), (L + 1, celA none), (P, tabA #[])] s where
  keep := F.keep
  nd := by
    simp only [List.map_cons, List.map_nil, List.nodup_cons, List.mem_cons, List.not_mem_nil, or_false, not_false_eq_true, List.nodup_nil, and_true]
    refine ⟨?_, ?_⟩
    · rintro (e | e)
      · exact absurd e (Nat.ne_of_lt (Nat.lt_succ_self _))
      · exact absurd e (Nat.ne_of_gt hP)
    · exact fun e => absurd e (Nat.ne_of_gt (Nat.lt_succ_of_lt hP))
  has := fun p hp => by
    rcases List.mem_cons.mp hp with rfl | hp
    · exact nsA_of F.ns
    · rcases List.mem_cons.mp hp with rfl | hp
      · exact ⟨_, (N _ (.head _)).1, hob⟩
      · rcases List.mem_cons.mp hp with rfl | hp
        · exact ⟨_, (N _ (.tail _ (.head _))).1, rfl⟩
        · cases hp
  new := fun p hp => by
    rcases List.mem_cons.mp hp with rfl | hp
    · exact hL
    · rcases List.mem_cons.mp hp with rfl | hp
      · exact (N _ (.head _)).2.2
      · rcases List.mem_cons.mp hp with rfl | hp
        · exact (N _ (.tail _ (.head _))).2.2
        · cases hp
  gens := hg
  os := rfl
theorem top10 {prog : Program} {w : World} {K : Frag} {base : Heap} {s s₁ : Shared} {p : Program} {loose : List Str} {mean : ExcName → Option Value} {mg mb : Str → Option Value} {m : Str → Option Value} {nam : Str} {L fA a : Addr} {vs : List Value} {ns : List Int} {E : Value → Shared → Prop}
    {l : OpenLaw} {cl : Str → Option Addr} {mean' : ExcName → Option Value} {args : List WData} {gd sd pd : FuncData} {ob : Obj}
    (T : Top p loose mean mg mb base) (S : base.NoSeer) (F : Fr base L s.heap m) (N : News base L s.heap [(L + 1, ob), (58, tabObj #[])]) (hob : ob.data = .cell none) (hP : 58 < L) (C : CodeHd base 62 58) (hl : base.IsList a vs.toArray) (hi : IntsAre vs ns) (hn : ¬ (63 : Int) < (ns.length : Int)) (hm : m (Str.ofString "script") = some (.ref a)) (X : K.In base)
    (hL : base.get? L = none) (ht : prog.given.tree = none)
    (e1 : nsIn K mainGlobals (Str.ofString "_get_name_info") = some (some (.ref 44))) (e2 : nsIn K mainGlobals (Str.ofString "_law_step") = some (some (.ref 56))) (e3 : nsIn K mainGlobals (Str.ofString "_law_plain") = some (some (.ref 49))) (e4 : nsIn K mainGlobals (Str.ofString "UNKNOWN") = some (some (.ref 37)))
    (n1 : nsIn K mainGlobals (Str.ofString "len") = some none) (n2 : nsIn K mainGlobals (Str.ofString "sorted") = some none) (n3 : nsIn K mainGlobals (Str.ofString "str") = some none) (n5 : nsIn K mainGlobals (Str.ofString "range") = some none)
    (DG : IsDef base 44 gniStmt gd) (DS : IsDef base 56 stepStmt sd) (DP : IsDef base 49 plainStmt pd)
    (hb : s₁.heap = base) (hos : s.os = s₁.os) (hgens : s.gens = #[]) :
    wpAny (model prog w) (callerA.deeper (lawEnv10 nam L fA (.ref 62))) (execs (fnBody lawStmt10) (lawEnv10 nam L fA (.ref 62)))
      (fun f s' => GoodW l.row.claim cl mean' args s₁ (.ok (.ret (match f with | .ret v => v | _ => .none))) s' ∧ GrownAll [(62, 58)] s'.heap) E s := by
  have bt : ∀ (x : Str) v, x ≠ "__name__" → bootBuiltins x = some v → mb x = some v := fun x v hx hv => (T.builtins x hx).trans hv
  have G : G10 base mg mb 44 56 49 37 gd sd pd :=
    ⟨gr_of T S, DG, DS, DP, mg_of X T.g e1, mg_of X T.g e2, mg_of X T.g e3, mg_of X T.g e4, mg_none_of X T.g n1, mg_none_of X T.g n2, mg_none_of X T.g n3, mg_none_of X T.g n5,
      bt _ _ (by decide) (by kernel_rfl), bt _ _ (by decide) (by kernel_rfl), bt _ _ (by decide) (by kernel_rfl), bt _ _ (by decide) (by kernel_rfl)⟩
  obtain ⟨hai, hlen⟩ := allInt_of hi
  have R : Room prog w (callerA.deeper (lawEnv10 nam L fA (.ref 62))) base := room_of T S ht rfl rfl rfl rfl
  refine setup10 G C hm hl hi (by omega) (st_top1 F N hob hgens hL hP) fun m' S' pr pl fa la lam c' ctv pv ns' ps s' hpr hpv hlen' H => ?_
  refine tail10 R G S ht rfl (of_decide_eq_true (by with_unfolding_all rfl)) (of_decide_eq_true (by with_unfolding_all rfl)) hpr hpv hlen' H fun s'' H' => ⟨good_true (fun b o e => H'.keep b o (hb ▸ e)) (H'.os.trans hos) H'.gens, ?_, trivial⟩
  obtain ⟨o, ho, rfl⟩ := H'.get (a := 58) (P := tabA ps) (.head _)
  exact ⟨_, ho⟩
end Mine

open PySem PySem.W PyProof.Rows
set_option maxRecDepth 100000 in
set_option maxHeartbeats 8000000 in
theorem PySem.Challenge.cw_dm0069_10_holds : PySem.Challenge.rw_dm0069_10.Holds := by
  (w_on; o_law; k_head; (case hw => w_witness2); w_strict (k_go0; (
    have X := ‹Frag.In _ (ghostOf _ _)›
    have F := ‹Fr (ghostOf _ _) _ _ _›
    have hL := Heap.get?_none_of_le F.above
    refine Mine.top10 (l := PySem.Challenge.rw_dm0069_10) (K := _) ‹Top _ _ _ _ _ (ghostOf _ _)› (Mine.ghost_seer ‹TabsAt _ _› (Top.seer ‹Top _ (looseW _ _) _ _ _ _› (by decide +kernel))) F ‹News (ghostOf _ _) _ _ _› ‹_ = Data.cell _› ‹58 < _› ‹CodeHd (ghostOf _ _) _ _› ‹Heap.IsList (ghostOf _ _) _ _› ‹IntsAre _ _› (by assumption) rfl X hL rfl
      (by k_is) (by k_is) (by k_is) (by k_is) (by k_is) (by k_is) (by k_is) (by k_is)
      ⟨⟨_, X 44 _ rfl, rfl⟩, rfl, rfl, rfl, rfl, rfl, rfl, rfl, ⟨43, _, _, _, rfl, X 43 _ rfl, rfl, rfl⟩⟩
      ⟨⟨_, X 56 _ rfl, rfl⟩, rfl, rfl, rfl, rfl, rfl, rfl, rfl, ⟨55, _, _, _, rfl, X 55 _ rfl, rfl, rfl⟩⟩
      ⟨⟨_, X 49 _ rfl, rfl⟩, rfl, rfl, rfl, rfl, rfl, rfl, rfl, ⟨48, _, _, _, rfl, X 48 _ rfl, rfl, rfl⟩⟩ rfl rfl ‹_ = #[]›)))
