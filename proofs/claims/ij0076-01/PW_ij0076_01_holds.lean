import PyProof.Rows.All
import Wide.All
import OpenK.AllK
import Wide.FinOn
import KE.KSuperObj
import KE.KNest
import KE.KNestM
import KE.KLam
import KE.KSortAsk
import KE.KSortKey
import KE.LcTurns
import KE.KEqSeq
import KE.KSorted
import Lean
import PySem.Challenge.RW_ij0076_01
open PySem PySem.W PyProof.Rows
set_option Elab.async false
set_option compiler.extract_closed false
section
open PySem PySem.W PyProof.Rows
set_option maxRecDepth 100000
set_option maxHeartbeats 8000000
namespace Mine
open_top hd for PySem.Challenge.rw_ij0076_01
end Mine
end
section
open PySem PySem.W PyProof.Rows PySem.Calls
set_option maxRecDepth 100000
set_option maxHeartbeats 8000000
namespace Mine
section
variable {prog : Program} {w : World} {A : Around} {E : Value → Shared → Prop} {s : Shared}

/-- a text's entry with its token -/
noncomputable abbrev RE := Str × Tok × Value
noncomputable def ren (w : World) (en : RE) : DictEntry := ⟨hashStr w en.1, .str en.1 en.2.1, en.2.2⟩
noncomputable def RawS (w : World) (h : Heap) (d : Addr) (l : List RE) : Prop := ∃ o ep, h.get? d = some o ∧ o.ExactDict ∧ o.data = .dict (l.map (ren w)).toArray ep
noncomputable def RawO (w : World) (o : Obj) (l : List RE) : Prop := ∃ ep, o.ExactDict ∧ o.data = .dict (l.map (ren w)).toArray ep
theorem RawS.obj {h : Heap} {d : Addr} {l : List RE} {o : Obj} (x : RawS w h d l) (ho : h.get? d = some o) : RawO w o l := by
  obtain ⟨o', ep, ho', hc, hd⟩ := x
  rw [ho] at ho'; cases ho'
  exact ⟨ep, hc, hd⟩
theorem RawO.at {h : Heap} {d : Addr} {l : List RE} {o : Obj} (x : RawO w o l) (ho : h.get? d = some o) : RawS w h d l := let ⟨ep, hc, hd⟩ := x; ⟨o, ep, ho, hc, hd⟩
theorem RawS.keeps {h h' : Heap} {d : Addr} {l : List RE} (x : RawS w h d l) (k : ∀ o, h.get? d = some o → h'.get? d = some o) : RawS w h' d l :=
  let ⟨o, ep, ho, r⟩ := x; ⟨o, ep, k o ho, r⟩
theorem RawS.new (h : Heap) : RawS w (h.push { cls := .type "dict", data := .dict #[] }) h.objs.size [] :=
  ⟨_, 0, Heap.get?_push_size _ rfl, ⟨rfl, rfl, rfl⟩, rfl⟩
theorem keysOf_ren (prog : Program) (l : List RE) : KeysOf (PySem.strKind prog w) (l.map (ren w)).toArray := fun e he => by
  obtain ⟨x, _, rfl⟩ := List.mem_map.mp (List.mem_toArray.mp he)
  exact ⟨x.1, strKind_is _ _ _ _, rfl⟩
theorem pairs_ren (prog : Program) : ∀ (l : List RE), Pairs (PySem.strKind prog w) (l.map (ren w)) (l.map fun e => (e.1, e.2.2))
  | [] => .nil
  | e :: r => .cons (strKind_is _ _ _ _) rfl (pairs_ren prog r)
theorem RawS.dictOf {h : Heap} {d : Addr} {l : List RE} (x : RawS w h d l) (hn : (l.map (·.1)).Nodup) : h.DictOf (PySem.strKind prog w) d (l.map fun e => (e.1, e.2.2)) := by
  obtain ⟨o, ep, ho, hc, hd⟩ := x
  exact ⟨o, _, ep, ho, hc, hd, keysOf_ren prog l, by simpa using pairs_ren prog l, by simpa [List.map_map, Function.comp_def] using hn⟩
theorem find_ren {prog : Program} (l : List RE) (x : Str) (hx : x ∉ l.map (·.1)) : ((l.map (ren w)).toArray.findIdx? fun e => (PySem.strKind prog w).is x e.key) = none := by
  simp only [List.findIdx?_toArray, List.findIdx?_eq_none_iff, List.mem_map]
  rintro e ⟨y, hy, rfl⟩
  show Value.isStrOf x (.str y.1 y.2.1) = false
  simp only [Value.isStrOf, beq_eq_false_iff_ne, ne_eq]
  intro he
  exact hx (List.mem_map.mpr ⟨y, hy, by first | exact he.symm | exact he⟩)
theorem raw_push {h : Heap} {d : Addr} {l : List RE} {o : Obj} {ep : Nat} (ho : h.get? d = some o) (hc : o.ExactDict) (hd : o.data = .dict (l.map (ren w)).toArray ep) (e : RE) :
    RawS w (h.update d (Obj.mapDictKeys (·.push (ren w e)))) d (l ++ [e]) :=
  ⟨_, ep + 1, Heap.get?_update_self _ ho (Obj.isFreed_of_dict (Obj.data_mapDictKeys hd _)), hc.mapDictKeys _, by rw [Obj.data_mapDictKeys hd _]; simp⟩
theorem setH_raw {d : Addr} {l : List RE} {x : Str} {t : Tok} {v : Value} {Q : Unit → Shared → Prop} (hm : RawS w s.heap d l) (hx : x ∉ l.map (·.1)) (hz : l.length ≤ sizeLine)
    (hQ : ∀ h', RawS w h' d (l ++ [(x, t, v)]) → Heap.SameBut d s.heap h' → Q () { s with heap := h' }) : wpAny (model prog w) A (dictSetHashed d (.str x t) (hashStr w x) v) Q E s := by
  obtain ⟨o, ep, ho, hc, hd⟩ := hm
  unfold dictSetHashed
  try with_reducible refine wpAny_holding ?_
  refine wpAny_bind (wpAny_dictFind_of (knd := PySem.strKind prog w) (strKind_is _ _ _ _) ho hd (keysOf_ren prog l) ?_)
  rw [find_ren l x hx]
  exact wpAny_bind (wpAny_rule (wpAny_updateDictKeys (hz := by simpa using hz) ho hd (hQ _ (raw_push ho hc hd (x, t, v)) (Heap.SameBut.update ..))))
theorem set_raw {d : Addr} {l : List RE} {x : Str} {t : Tok} {v : Value} {Q : Unit → Shared → Prop} (hm : RawS w s.heap d l) (hx : x ∉ l.map (·.1)) (hz : l.length ≤ sizeLine)
    (hQ : ∀ h', RawS w h' d (l ++ [(x, t, v)]) → Heap.SameBut d s.heap h' → Q () { s with heap := h', toks := s.toks + 1 }) : wpAny (model prog w) A (dictSet d (.str x t) v) Q E s := by
  unfold dictSet
  refine wpAny_holding (wpAny_bind ((PySem.strKind prog w).pyHash (strKind_is _ _ _ _) ?_))
  exact setH_raw hm hx hz hQ
theorem put_raw {d : Addr} {l : List RE} {x : Str} {t : Tok} {v : Value} {Q : Unit → Shared → Prop} (hm : RawS w s.heap d l) (hx : x ∉ l.map (·.1)) (hz : l.length ≤ sizeLine)
    (hQ : ∀ h', RawS w h' d (l ++ [(x, t, v)]) → Heap.SameBut d s.heap h' → Q () { s with heap := h' }) : wpAny (model prog w) A (dictPut d (hashStr w x) (.str x t) v) Q E s := by
  obtain ⟨o, ep, ho, hc, hd⟩ := hm
  unfold dictPut
  refine wpAny_bind (wpAny_dictFind_of (knd := PySem.strKind prog w) (strKind_is _ _ _ _) ho hd (keysOf_ren prog l) ?_)
  rw [find_ren l x hx]
  exact wpAny_updateDictKeys (hz := by simpa using hz) ho hd (hQ _ (raw_push ho hc hd (x, t, v)) (Heap.SameBut.update ..))

theorem merge_raw {d o : Addr} {l : List RE} {Q : Unit → Shared → Prop} (hdo : d ≠ o) (hoS : (o == sysModules) = false) (hn : (l.map (·.1)).Nodup)
    (hd : RawS w s.heap d []) (ho : RawS w s.heap o l) (hsz : l.length ≤ sizeLine)
    (hQ : ∀ h', RawS w h' d l → RawS w h' o l → Heap.SameBut d s.heap h' → Q () { s with heap := h' }) :
    wpAny (model prog w) A (mergeMapping d (.ref o) false) Q E s := by
  have hDO := RawS.dictOf (prog := prog) ho hn
  obtain ⟨od, epd, hod, hcd, hdd⟩ := id hd
  obtain ⟨oo, epo, hoo, hco, hdo'⟩ := id ho
  unfold mergeMapping
  refine wpAny_bind (m := isInstance _ _) (wpAny_isInstance (b := true) hDO.typeIs (by rw [isSubtype_type]; kernel_rfl) ?_)
  dsimp only
  rw [if_pos rfl]
  refine wpAny_bind (wpAny_specialOf hDO.typeIs F.slot_dict_iter.lookup (wpAny_bind (wpAny_pure ?_)))
  rw [beq_self_eq_true]
  dsimp only
  rw [if_neg (by rw [hoS]; exact Bool.false_ne_true)]
  refine wpAny_bind (wpAny_dictEntries hod hdd ?_)
  rw [if_pos (by rfl)]
  refine wpAny_bind (wpAny_dictEntries hoo hdo' (wpAny_bind ?_))
  rw [← Array.forIn_toList]
  refine wpAny_forIn_list _ (fun rest _ s' => s' = s ∧ ∀ e ∈ rest, ∀ a, e.key ≠ .ref a) _ ?_ ?_ _ _ ⟨rfl, fun e he a hk => by
    have he' : e ∈ l.map (ren w) := he
    obtain ⟨y, _, rfl⟩ := List.mem_map.mp he'
    cases hk⟩
  · rintro e rest b s' ⟨rfl, hr⟩
    have h1 := hr e List.mem_cons_self
    have h2 : ∀ e ∈ rest, ∀ a, e.key ≠ .ref a := fun e he => hr e (List.mem_cons_of_mem _ he)
    split
    · rename_i a ha; exact absurd ha (h1 a)
    · exact wpAny_pure ⟨rfl, h2⟩
  rintro b s' ⟨rfl, _⟩
  refine wpAny_bind (wpAny_dictEntries hoo hdo' (wpAny_bind (wpAny_dictEpoch hoo hdo' ?_)))
  have hlen : (l.map (ren w)).toArray.size = l.length := by simp
  rw [List.range_eq_range']
  refine wpAny_bind ?_
  refine wpAny_forIn_list _
      (fun rest _ s'' => ∃ h' i, s'' = { s' with heap := h' } ∧ rest = List.range' i (l.length - i) ∧ i ≤ l.length ∧ RawS w h' d (l.take i) ∧ h'.get? o = some oo ∧ Heap.SameBut d s'.heap h')
      _ ?_ ?_ _ _ ⟨s'.heap, 0, rfl, by simp, Nat.zero_le _, by simpa using hd, hoo, Heap.SameBut.refl _ _⟩
  · rintro x rest b s' ⟨h', i, rfl, hr, hi, hd', hoo', hs'⟩
    have hlt : i < l.length := by
      rcases Nat.lt_or_ge i l.length with h | h
      · exact h
      · rw [Nat.sub_eq_zero_of_le h] at hr; simp at hr
    obtain ⟨rfl, hrest⟩ : x = i ∧ rest = List.range' (i + 1) (l.length - (i + 1)) := by
      have e : l.length - i = (l.length - (i + 1)) + 1 := by omega
      rw [e, List.range'_succ] at hr
      injection hr with h1 h2
      exact ⟨h1, h2⟩
    refine wpAny_bind (wpAny_dictEntries hoo' hdo' ?_)
    have hg : (l.map (ren w)).toArray[x]? = some (ren w l[x]) := by simp [hlt]
    rw [hg]
    dsimp only
    rw [if_neg Bool.false_ne_true]
    have hnx : l[x].1 ∉ (l.take x).map (·.1) := fun hm => by
      have e1 : l = l.take x ++ l[x] :: l.drop (x + 1) := by rw [← List.drop_eq_getElem_cons hlt, List.take_append_drop]
      rw [e1, List.map_append, List.map_cons, List.nodup_append] at hn
      exact hn.2.2 _ hm _ List.mem_cons_self rfl
    refine wpAny_bind (wpAny_holding (put_raw (x := l[x].1) (t := l[x].2.1) (v := l[x].2.2) hd' hnx (by rw [List.length_take]; omega) fun h'' hd'' hs'' => ?_))
    have hoo'' : h''.get? o = some oo := (hs''.2 o (Ne.symm hdo)).trans hoo'
    refine wpAny_bind (wpAny_dictEpoch hoo'' hdo' ?_)
    rw [if_neg (by simp)]
    have et : l.take (x + 1) = l.take x ++ [(l[x].1, l[x].2.1, l[x].2.2)] := by rw [List.take_add_one, List.getElem?_eq_getElem hlt]; rfl
    exact wpAny_pure ⟨h'', x + 1, rfl, hrest, hlt, by rw [et]; exact hd'', hoo'', hs'.trans hs''⟩
  · rintro b s' ⟨h', i, rfl, hr, hi, hd', hoo', hs'⟩
    have hin : i = l.length := by
      rcases Nat.lt_or_ge i l.length with h | h
      · have e : l.length - i = (l.length - (i + 1)) + 1 := by omega
        rw [e, List.range'_succ] at hr; cases hr
      · omega
    subst hin
    rw [List.take_length] at hd'
    exact wpAny_pure (hQ h' hd' ⟨oo, epo, hoo', hco, hdo'⟩ hs')

theorem sub_raw {k1 v1 k2 v2 k3 v3 : Sem Value} {x1 x2 x3 : Str} {t1 t2 t3 : Tok} {y1 y2 y3 : Value} {Q : Addr → Shared → Prop}
    (h12 : x1 ≠ x2) (h13 : x1 ≠ x3) (h23 : x2 ≠ x3)
    (h : wpAny (model prog w) A (evalPairs [(k1, v1), (k2, v2), (k3, v3)]) (fun vs s₁ => vs = [(.str x1 t1, y1), (.str x2 t2, y2), (.str x3 t3, y3)] ∧ s₁.heap = s.heap.push { cls := .type "dict", data := .dict #[] } ∧
      ∀ h', RawS w h' s.heap.objs.size [(x1, t1, y1), (x2, t2, y2), (x3, t3, y3)] → Heap.SameBut s.heap.objs.size s₁.heap h' → Q s.heap.objs.size { s₁ with heap := h', toks := s₁.toks + 1 + 1 + 1 }) E
      { s with heap := s.heap.push { cls := .type "dict", data := .dict #[] } }) :
    wpAny (model prog w) A (subDict [(k1, v1), (k2, v2), (k3, v3)]) Q E s := by
  unfold subDict
  refine wpAny_bind (wpAny_alloc (wpAny_bind (wpAny_holding ?_)))
  rw [if_pos (by simp)]
  refine wpAny_bind (wpAny_mono h (fun vs s₁ h₁ => ?_) fun _ _ e => e)
  obtain ⟨rfl, hh, hQ⟩ := h₁
  refine wpAny_holding (wpAny_bind ?_)
  simp only [List.forIn_cons, List.forIn_nil, bind_assoc, pure_bind]
  have r0 : RawS w s₁.heap s.heap.objs.size [] := hh ▸ RawS.new s.heap
  refine wpAny_bind (set_raw r0 (by simp) (by simp) fun h1 r1 s1 => ?_)
  refine wpAny_bind (set_raw r1 (by simpa using Ne.symm h12) (by simp [sizeLine_eq]) fun h2 r2 s2 => ?_)
  refine wpAny_bind (set_raw r2 (by simpa using ⟨Ne.symm h13, Ne.symm h23⟩) (by simp [sizeLine_eq]) fun h3 r3 s3 => ?_)
  exact wpAny_pure (wpAny_pure (wpAny_pure (hQ h3 r3 ((s1.trans s2).trans s3))))

theorem display_star {v0 k1 v1 k2 v2 k3 v3 : Sem Value} {a0 : Addr} {x1 x2 x3 y1 y2 y3 : Str} {Q : Value → Shared → Prop}
    (g0 : ∀ (Q : Value → Shared → Prop) (E : Value → Shared → Prop) s', (∀ b o, s.heap.get? b = some o → s'.heap.get? b = some o) → Q (.ref a0) s' → wpAny (model prog w) A v0 Q E s')
    (g1 : ∀ (Q : Value → Shared → Prop) (E : Value → Shared → Prop) s', Q (.str x1 s'.toks) { s' with toks := s'.toks + 1 } → wpAny (model prog w) A k1 Q E s')
    (g2 : ∀ (Q : Value → Shared → Prop) (E : Value → Shared → Prop) s', Q (.str x2 s'.toks) { s' with toks := s'.toks + 1 } → wpAny (model prog w) A k2 Q E s')
    (g3 : ∀ (Q : Value → Shared → Prop) (E : Value → Shared → Prop) s', Q (.str x3 s'.toks) { s' with toks := s'.toks + 1 } → wpAny (model prog w) A k3 Q E s')
    (f1 : ∀ (Q : Value → Shared → Prop) (E : Value → Shared → Prop) s', Q (.str y1 s'.toks) { s' with toks := s'.toks + 1 } → wpAny (model prog w) A v1 Q E s')
    (f2 : ∀ (Q : Value → Shared → Prop) (E : Value → Shared → Prop) s', Q (.str y2 s'.toks) { s' with toks := s'.toks + 1 } → wpAny (model prog w) A v2 Q E s')
    (f3 : ∀ (Q : Value → Shared → Prop) (E : Value → Shared → Prop) s', Q (.str y3 s'.toks) { s' with toks := s'.toks + 1 } → wpAny (model prog w) A v3 Q E s')
    (h0 : RawS w s.heap a0 []) (h0S : (a0 == sysModules) = false) (hbig : sysModules < s.heap.objs.size)
    (h12 : x1 ≠ x2) (h13 : x1 ≠ x3) (h23 : x2 ≠ x3)
    (hQ : ∀ h' tk, (∀ b o, s.heap.get? b = some o → h'.get? b = some o) →
      RawS w h' s.heap.objs.size [(x1, s.toks, .str y1 (s.toks + 1)), (x2, s.toks + 1 + 1, .str y2 (s.toks + 1 + 1 + 1)), (x3, s.toks + 1 + 1 + 1 + 1, .str y3 (s.toks + 1 + 1 + 1 + 1 + 1))] →
      s.toks < tk → Q (.ref s.heap.objs.size) { s with heap := h', toks := tk }) :
    wpAny (model prog w) A (dictDisplay [(none, v0), (some k1, v1), (some k2, v2), (some k3, v3)]) Q E s := by
  unfold dictDisplay
  dsimp only
  refine wpAny_bind ?_
  rw [List.forIn_cons]
  simp only [List.isEmpty_nil, if_true]
  refine wpAny_bind (wpAny_bind (wpAny_pure ?_))
  dsimp only
  refine wpAny_bind (wpAny_alloc ?_)
  refine wpAny_bind (wpAny_holding (g0 _ _ _ (fun b o e => Heap.get?_push_of_some _ e) ?_))
  have hne : s.heap.objs.size ≠ a0 := fun e => by
    obtain ⟨o, _, ho, _⟩ := h0
    exact Nat.lt_irrefl _ (e ▸ Heap.lt_size ho)
  refine wpAny_bind (wpAny_onRaise (wpAny_tryCatch (wpAny_onRaise (wpAny_holding (merge_raw (l := []) hne h0S (by simp) (RawS.new s.heap) (h0.keeps fun o e => Heap.get?_push_of_some _ e) (by simp) fun h1 hd1 _ hs1 => ?_)))))
  refine wpAny_pure ?_
  dsimp only
  rw [List.forIn_cons]
  refine wpAny_bind ?_
  dsimp only
  rw [if_neg (by simp)]
  refine wpAny_pure ?_
  dsimp only
  rw [List.forIn_cons]
  refine wpAny_bind ?_
  dsimp only
  rw [if_neg (by simp)]
  refine wpAny_pure ?_
  dsimp only
  rw [List.forIn_cons]
  refine wpAny_bind ?_
  dsimp only
  rw [if_neg (by simp)]
  refine wpAny_pure ?_
  dsimp only
  rw [List.forIn_nil]
  refine wpAny_pure ?_
  dsimp only
  refine wpAny_bind ?_
  rw [if_neg (by simp)]
  have e1 : h1.objs.size = s.heap.objs.size + 1 := by rw [hs1.1, Heap.size_push]
  refine wpAny_bind (wpAny_holding (sub_raw (w := w) (t1 := s.toks) (y1 := .str y1 (s.toks + 1)) (t2 := s.toks + 1 + 1) (y2 := .str y2 (s.toks + 1 + 1 + 1)) (t3 := s.toks + 1 + 1 + 1 + 1) (y3 := .str y3 (s.toks + 1 + 1 + 1 + 1 + 1)) h12 h13 h23 ?_))
  refine evalPairs_cons (g1 _ _ _ (f1 _ _ _ (evalPairs_cons (g2 _ _ _ (f2 _ _ _ (evalPairs_cons (g3 _ _ _ (f3 _ _ _ (evalPairs_nil ?_)))))))))
  refine ⟨rfl, rfl, fun h2 hd2 hs2 => ?_⟩
  have hnz : s.heap.objs.size ≠ h1.objs.size := by rw [e1]; exact Nat.ne_of_lt (Nat.lt_succ_self _)
  refine wpAny_bind (wpAny_onRaise (wpAny_holding (merge_raw (d := s.heap.objs.size) hnz ?_ (by simp [h12, h13, h23]) ?_ hd2 (by simp [sizeLine_eq]) fun h3 hd3 _ hs3 => ?_)))
  · show (h1.objs.size == sysModules) = false
    rw [e1]; exact beq_eq_false_iff_ne.mpr (Nat.ne_of_gt (Nat.lt_succ_of_lt hbig))
  · exact hd1.keeps fun o ho => (hs2.2 _ hnz).trans (Heap.get?_push_of_some _ ho)
  · refine wpAny_pure (wpAny_pure ?_)
    dsimp only
    refine hQ h3 _ (fun b o e => ?_) hd3 (by omega)
    have hb : b < s.heap.objs.size := Heap.lt_size e
    have n1 : b ≠ s.heap.objs.size := Nat.ne_of_lt hb
    have n2 : b ≠ h1.objs.size := by rw [e1]; exact Nat.ne_of_lt (Nat.lt_succ_of_lt hb)
    exact (hs3.2 b n1).trans ((hs2.2 b n2).trans (Heap.get?_push_of_some _ ((hs1.2 b n1).trans (Heap.get?_push_of_some _ e))))

theorem star_eval {h₀ : Heap} {L a : Addr} {m : Str → Option Value} {news : List (Addr × Obj)} {cn : Str} {cs : Scope} {ccd : Value} {nm x1 x2 x3 y1 y2 y3 : Str} {a0 : Addr} {n1 n2 n3 m1 m2 m3 : Nat} {q0 p1 p2 p3 q1 q2 q3 pos : Pos} {Q : Value → Shared → Prop}
    (F : Fr h₀ L s.heap m) (N : News h₀ L s.heap news) (hbig : h₀.NoLimit) (h0 : RawS w h₀ a0 []) (h0S : (a0 == sysModules) = false) (hv : m nm = some (.ref a0))
    (h12 : x1 ≠ x2) (h13 : x1 ≠ x3) (h23 : x2 ≠ x3)
    (hQ : ∀ d h' tk o, Fr h₀ L h' m → News h₀ L h' ((d, o) :: news) → (∀ p ∈ news, p.1 < d) → (d == sysModules) = false →
      RawO w o [(x1, s.toks, .str y1 (s.toks + 1)), (x2, s.toks + 1 + 1, .str y2 (s.toks + 1 + 1 + 1)), (x3, s.toks + 1 + 1 + 1 + 1, .str y3 (s.toks + 1 + 1 + 1 + 1 + 1))] →
      o.IsDictOf (PySem.strKind prog w) [(x1, .str y1 (s.toks + 1)), (x2, .str y2 (s.toks + 1 + 1 + 1)), (x3, .str y3 (s.toks + 1 + 1 + 1 + 1 + 1))] →
      PyProof.V.FlatPairs PyData.str [(x1, .str y1 (s.toks + 1)), (x2, .str y2 (s.toks + 1 + 1 + 1)), (x3, .str y3 (s.toks + 1 + 1 + 1 + 1 + 1))] [(.str x1, .str y1), (.str x2, .str y2), (.str x3, .str y3)] →
      s.toks < tk → Q (.ref d) { s with heap := h', toks := tk })
    (hk : cs.kind = .function := by rfl) (hl : (envOf cn cs L a ccd).kindOf nm = some .local := by rfl)
    (hd : (nm == ("__debug__" : Str)) = false := by decide) :
    wpAny (model prog w) A (eval (.Dict [none, some (.Constant (.str x1) n1 p1), some (.Constant (.str x2) n2 p2), some (.Constant (.str x3) n3 p3)]
      [.Name nm q0, .Constant (.str y1) m1 q1, .Constant (.str y2) m2 q2, .Constant (.str y3) m3 q3] pos) (envOf cn cs L a ccd)) Q E s := by
  rw [arm_eval_Dict]
  have hlow : sysModules < s.heap.objs.size := Nat.lt_of_lt_of_le (modules_low hbig) (Nat.le_trans F.above (Nat.le_of_lt F.ns.lt))
  refine wpAny_bind (wpAny_standAt ?_)
  have hc : ∀ (x : Str) (n : Nat) (p : Pos) (Q : Value → Shared → Prop) (E : Value → Shared → Prop) s', Q (.str x s'.toks) { s' with toks := s'.toks + 1 } → wpAny (model prog w) A (eval (.Constant (.str x) n p) (envOf cn cs L a ccd)) Q E s' :=
    fun x n p Q E s' h => wpAny_Constant_str h
  have hc' : ∀ (x : Str) (n : Nat) (p : Pos) (Q : Value → Shared → Prop) (E : Value → Shared → Prop) s', Q (.str x s'.toks) { s' with toks := s'.toks + 1 } → wpAny (model prog w) A (do let x ← eval (.Constant (.str x) n p) (envOf cn cs L a ccd); standAt pos; pure x) Q E s' :=
    fun x n p Q E s' h => wpAny_bind (wpAny_Constant_str (wpAny_bind (wpAny_standAt (wpAny_pure h))))
  refine display_star (a0 := a0) (x1 := x1) (x2 := x2) (x3 := x3) (y1 := y1) (y2 := y2) (y3 := y3) (fun Q E s' k h => ?_) (hc _ _ _) (hc _ _ _) (hc _ _ _) (hc' _ _ _) (hc' _ _ _) (hc' _ _ _) (h0.keeps (F.keep a0)) h0S hlow h12 h13 h23 (fun h' tk k hd ht => ?_)
  · refine wpAny_bind (wpAny_Name (wpAny_loadName_local hk hl (F.ns.keeps k) hv (wpAny_bind (wpAny_standAt (wpAny_pure h)))) hd)
  · obtain ⟨o, ho, hd'⟩ := Heap.dictOf_iff.mp (RawS.dictOf (prog := prog) hd (by simp [h12, h13, h23]))
    refine hQ _ h' tk o (F.kept k) (fun p hp => ?_) (fun p hp => Heap.lt_size (N p hp).1) (beq_eq_false_iff_ne.mpr (Nat.ne_of_gt hlow)) (hd.obj ho) hd' ?_ ht
    · rcases List.mem_cons.mp hp with rfl | hp
      · exact ⟨ho, Nat.ne_of_gt F.ns.lt, Heap.get?_none_of_le (Nat.le_trans F.above (Nat.le_of_lt F.ns.lt))⟩
      · exact ⟨k _ _ (N p hp).1, (N p hp).2⟩
    · exact .cons (.str _ _) (.cons (.str _ _) (.cons (.str _ _) .nil))
end
end Mine
end
section
open PySem PySem.W PyProof.Rows PySem.Calls
set_option maxRecDepth 100000
set_option maxHeartbeats 8000000
namespace Mine
section
variable {prog : Program} {w : World} {A : Around} {E : Value → Shared → Prop} {s : Shared}

noncomputable def RawDict (h : Heap) (d : Addr) (es : Array DictEntry) (ep : Nat) : Prop := ∃ o, h.get? d = some o ∧ o.ExactDict ∧ o.data = .dict es ep

theorem ownsTup : Builtin.Dict_items.ownsTuple "dict_itemiterator" = true := by decide

theorem rawIter {v d : Addr} {es : Array DictEntry} {ep : Nat} {Q : Value → Shared → Prop} (hv : s.heap.IsItemsView v d) (hm : RawDict s.heap d es ep)
    (hQ : Q (.ref s.heap.objs.size) { s with heap := s.heap.push { cls := .type "dict_itemiterator", data := .fields #[.none, .bool false, .ref d, .int 0 0, .int es.size 0, .int ep 0, .none, .none] } }) :
    wpAny (model prog w) A (pyIter (.ref v)) Q E s := by
  obtain ⟨ov, hov, hcv, hdv⟩ := id hv
  obtain ⟨o, ho, hc, hdat⟩ := id hm
  refine wpAny_pyIter_slot hv.typeIs F.slot_dict_items_iter (wpAny_call_entry F.slot_dict_items_iter hv.typeIs F.entry_dict_items_iter ?_ (F.args_dict_items_iter_1 _))
  unfold Builtin.«dict_items.__iter__»
  refine wpAny_bind (wpAny_pure (wpAny_bind ?_))
  unfold Builtin.Dict_items.dictOf
  refine wpAny_bind (wpAny_field hov hdv (x := .ref d) rfl (wpAny_pure (wpAny_bind ?_)))
  unfold Builtin.Dict_items.newIterator
  refine wpAny_bind (wpAny_dictEntries ho hdat (wpAny_bind (wpAny_dictEpoch ho hdat ?_)))
  simp only [ownsTup, if_true]
  refine wpAny_newObj_type (wpAny_pure ⟨_, rfl, "dict_itemiterator", _, ⟨_, Heap.get?_push_size _ rfl, rfl⟩, F.slot_dict_itemiterator_next.lookup, ?_⟩)
    (by simp only [sizeOk, Builtin.Dict_items.ownedTupleFields, List.size_toArray, List.length_append, List.length_cons, List.length_nil, sizeLine_eq]; omega)
  simpa [rawInt, Builtin.Dict_items.ownedTupleFields] using hQ

theorem rawNext {it d : Addr} {i ep : Nat} {es : Array DictEntry} {en : DictEntry} {ok ov : Value} {Q : Option Value → Shared → Prop} (hit : IsItemIter s.heap it d i es.size ep ok ov)
    (hm : RawDict s.heap d es ep) (hx : es[i]? = some en)
    (hQ : ∀ h', IsItemIterOut h' it d (i + 1) es.size ep en.key en.val s.heap.objs.size →
      h'.get? s.heap.objs.size = some { cls := .type "tuple", data := .seq #[en.key, en.val] } →
      (∀ b o, b ≠ it → s.heap.get? b = some o → h'.get? b = some o) → Q (some (.ref s.heap.objs.size)) { s with heap := h' }) :
    wpAny (model prog w) A (pyNext (.ref it)) Q E s := by
  obtain ⟨hp, g, dr, tk, os⟩ := s
  obtain ⟨od, hod, hcd, hdd⟩ := id hm
  have hT : Shared.TypeIs ⟨hp, g, dr, tk, os⟩ (.ref it) "dict_itemiterator" := ⟨_, hit, rfl⟩
  unfold pyNext
  refine wpAny_bind (wpAny_attempt (wpAny_callSpecial?_slot (name := Str.ofString "__next__") hT F.slot_dict_itemiterator_next
    (wpAny_call_entry F.slot_dict_itemiterator_next hT F.entry_dict_itemiterator_next ?_ (F.args_dict_itemiterator_next_1 _))))
  refine wpAny_bind (wpAny_pure (wpAny_bind (wpAny_bind ?_)))
  refine wpAny_bind (wpAny_typeNameOfWhole_itemiter hT (wpAny_pure ?_))
  refine wpAny_bind (wpAny_fieldsOf hit rfl ?_)
  simp only [ownsTup, if_true]
  show wpAny _ _ (if (Value.ref d == Value.none) = true then _ else _) _ _ _
  rw [if_neg (show ¬ ((Value.ref d == Value.none) = true) from Bool.false_ne_true)]
  refine wpAny_bind (wpAny_pure (wpAny_bind (wpAny_dictEntries hod hdd ?_)))
  rw [if_neg (by simp)]
  refine wpAny_bind (wpAny_pure (wpAny_bind (wpAny_dictEpoch hod hdd ?_)))
  rw [if_neg (by simp)]
  refine wpAny_pure ?_
  simp only [show ¬ ((i : Int) < 0) from by omega, if_false, Int.toNat_natCast, hx]
  refine wpAny_bind ?_
  refine wpAny_bind (wpAny_typeNameOfWhole_itemiter hT (wpAny_pure ?_))
  refine wpAny_bind (wpAny_isOneOf_itemiter hT ?_)
  show wpAny _ _ (setField (.ref it) 3 (rawInt ((i : Int) + 1)) >>= _) _ _ ⟨hp, g, dr, tk, os⟩
  refine wpAny_bind (wpAny_setField_rec hit (by simp) fun h₁ he₁ hs₁ => ?_)
  replace hs₁ : Heap.SameBut it hp h₁ := hs₁
  replace he₁ : IsItemIter h₁ it d (i + 1) es.size ep ok ov := by
    have e : ((i + 1 : Nat) : Int) = (i : Int) + 1 := by omega
    unfold IsItemIter; rw [e]; simpa [rawInt] using he₁
  have hT₁ : Shared.TypeIs ⟨h₁, g, dr, tk, os⟩ (.ref it) "dict_itemiterator" := ⟨_, he₁, rfl⟩
  refine wpAny_bind (wpAny_holding (wpAny_bind (wpAny_isOneOf_itemiter hT₁ (wpAny_bind (wpAny_isOneOf_itemiter hT₁ ?_)))))
  show wpAny _ _ (Builtin.Dict_items.pairFromOwner (.ref it) 6 en.key en.val) _ _ ⟨h₁, g, dr, tk, os⟩
  unfold Builtin.Dict_items.pairFromOwner
  refine wpAny_bind (wpAny_newTuple ?_)
  have he₂ : IsItemIter (h₁.push { cls := .type "tuple", data := .seq #[en.key, en.val] }) it d (i + 1) es.size ep ok ov := Heap.get?_push_of_some _ he₁
  have hz₁ : h₁.objs.size = hp.objs.size := hs₁.1
  have hil : it < hp.objs.size := Heap.lt_size hit
  have ht₂ : (h₁.push { cls := .type "tuple", data := .seq #[en.key, en.val] }).get? hp.objs.size = some { cls := .type "tuple", data := .seq #[en.key, en.val] } := by rw [← hz₁]; exact Heap.get?_push_size _ rfl
  have hk₂ : ∀ b o, b ≠ it → hp.get? b = some o → (h₁.push { cls := .type "tuple", data := .seq #[en.key, en.val] }).get? b = some o := fun b o hb e => Heap.get?_push_of_some _ (hs₁.extBut b o hb e)
  show wpAny _ _ (Builtin.Dict_items.ownedTupleIsFree (.ref it) >>= _) _ _ ⟨h₁.push { cls := .type "tuple", data := .seq #[en.key, en.val] }, g, dr, tk, os⟩
  rw [hz₁]
  generalize h₁.push { cls := .type "tuple", data := .seq #[en.key, en.val] } = h₂ at he₂ ht₂ hk₂
  refine wpAny_bind ?_
  unfold Builtin.Dict_items.ownedTupleIsFree
  refine wpAny_bind (wpAny_field he₂ rfl (x := .none) rfl (wpAny_pure ?_))
  simp only [if_true]
  refine wpAny_bind (wpAny_field he₂ rfl (x := ok) rfl (wpAny_bind (wpAny_field he₂ rfl (x := ov) rfl ?_)))
  refine wpAny_bind (wpAny_setField_rec he₂ (by simp) fun h₃ he₃ hs₃ => ?_)
  replace hs₃ : Heap.SameBut it h₂ h₃ := hs₃
  replace he₃ : IsItemIter h₃ it d (i + 1) es.size ep en.key ov := he₃
  refine wpAny_bind (wpAny_setField_rec he₃ (by simp) fun h₄ he₄ hs₄ => ?_)
  replace hs₄ : Heap.SameBut it h₃ h₄ := hs₄
  replace he₄ : IsItemIter h₄ it d (i + 1) es.size ep en.key en.val := he₄
  refine wpAny_bind (wpAny_setField_rec he₄ (by simp) fun h₅ he₅ hs₅ => ?_)
  replace hs₅ : Heap.SameBut it h₄ h₅ := hs₅
  replace he₅ : IsItemIterOut h₅ it d (i + 1) es.size ep en.key en.val hp.objs.size := he₅
  refine wpAny_bind (wpAny_setField_rec he₅ (by simp) fun h₆ he₆ hs₆ => ?_)
  replace hs₆ : Heap.SameBut it h₅ h₆ := hs₆
  replace he₆ : IsItemIterOut h₆ it d (i + 1) es.size ep en.key en.val hp.objs.size := he₆
  have big : ∀ b o, b ≠ it → h₂.get? b = some o → h₆.get? b = some o := fun b o hb e => hs₆.extBut b o hb (hs₅.extBut b o hb (hs₄.extBut b o hb (hs₃.extBut b o hb e)))
  exact wpAny_bind (wpAny_letGo (wpAny_pure (wpAny_pure ⟨_, rfl, wpAny_pure (hQ h₆ he₆ (big _ _ (Nat.ne_of_gt hil) ht₂) fun b o hb e => big b o hb (hk₂ b o hb e))⟩)))

theorem RawDict.at {h h' : Heap} {d : Addr} {es : Array DictEntry} {ep : Nat} (x : RawDict h d es ep) (k : ∀ o, h.get? d = some o → h'.get? d = some o) : RawDict h' d es ep :=
  let ⟨o, ho, r⟩ := x; ⟨o, k o ho, r⟩

theorem rawTurns {elts : List PySem.Expr} {kk : Nat} {pos : Pos} {kvs : List (Str × Value)} (hh : A.handled = none) (I d : Addr) (hne : d ≠ I) (es : Array DictEntry) (ep : Nat) (hz : kvs.length = es.size) :
    KTurns prog w A (.Tuple elts kk pos) I [I, d] [I] es.size
      (fun i v h => ∃ T en, v = .ref T ∧ es[i]? = some en ∧ h.IsTuple T #[en.key, en.val])
      (fun i v h => ∃ T en ok ov, v = .ref T ∧ es[i]? = some en ∧ h.IsTuple T #[en.key, en.val] ∧ IsItemIterOut h I d (i + 1) es.size ep ok ov T ∧ (RawDict h d es ep ∧ h.DictAt (PySem.strKind prog w) d kvs ep) ∧ T ≠ I)
      (fun i h => (∃ ok ov, IsItemIter h I d i es.size ep ok ov) ∧ RawDict h d es ep ∧ h.DictAt (PySem.strKind prog w) d kvs ep) where
  sub := fun b hb => by simp at hb; simp [hb]
  frame := fun i h h' st hk => by
    obtain ⟨⟨ok, ov, he⟩, hm, hm'⟩ := st
    exact ⟨⟨ok, ov, hk I (by simp) _ he⟩, hm.at fun o e => hk d (by simp) o e, hm'.at' fun o e => hk d (by simp) o e⟩
  item := fun i s Q E hi st hQ => by
    obtain ⟨⟨ok, ov, he⟩, hm, hm'⟩ := st
    have hx : es[i]? = some es[i] := Array.getElem?_eq_getElem hi
    refine rawNext he hm hx fun h' ho hT hk => ?_
    exact hQ (.ref s.heap.objs.size) h' s.toks ⟨s.heap.objs.size, _, _, _, rfl, hx, ⟨_, hT, rfl, _, rfl⟩, ho, ⟨hm.at fun o e => hk d o hne e, hm'.at' fun o e => hk d o hne e⟩, Nat.ne_of_gt (Heap.lt_size he)⟩ fun b o hb e => hk b o (fun h => hb (by simp [h])) e
  go := fun i v s Q E hm hQ => by
    obtain ⟨T, en, ok, ov, rfl, hx, hT, ho, hd, hTI⟩ := hm
    refine wpAny_letOwnedTupleGo_items ho fun h' he hs => ?_
    exact hQ h' ⟨T, en, rfl, hx, hT.at fun o e => hs.extBut T o hTI e⟩ ⟨⟨ok, ov, he⟩, hd.1.at fun o e => hs.extBut d o hne e, hd.2.extBut hs.extBut hne⟩ fun b o hb e => hs.extBut b o (fun h => hb (by simp [h])) e
  done := fun s Q E st hQ => by
    obtain ⟨⟨ok, ov, he⟩, hm, hm'⟩ := st
    rw [← hz] at he
    exact wpAny_pyNext_items_end hh he hm' (by simp [hz]) fun h' hx => hQ h' s.toks fun b o hb e => hx b o (fun h => hb (by simp [h])) e
end
end Mine
end
section
open PySem PySem.W PyProof.Rows PySem.Calls
set_option maxRecDepth 100000
set_option maxHeartbeats 8000000
namespace Mine
noncomputable abbrev Pr : Program := PySem.Challenge.rw_ij0076_01.row.toRowW.prog

structure Cx (w : World) (p : Program) (loose : List Str) (mean : ExcName → Option Value) (mg mb : Str → Option Value) (base : Heap) (A : Around) (outer : List Env) (h : Heap) : Prop where
  X : (hd.heap_39 w.params).In h
  T : Top p loose mean mg mb h
  B : Below A base outer h

noncomputable def Keeps (h h' : Heap) : Prop := ∀ b o, h.get? b = some o → h'.get? b = some o
theorem Keeps.refl (h : Heap) : Keeps h h := fun _ _ e => e
theorem Keeps.trans {h h' h'' : Heap} (a : Keeps h h') (b : Keeps h' h'') : Keeps h h'' := fun x o e => b x o (a x o e)

theorem enter {prog : Program} {w : World} {p : Program} {loose : List Str} {mean : ExcName → Option Value} {mg mb : Str → Option Value} {base : Heap} {A : Around} {outer : List Env} {s : Shared}
    {R : Result → Shared → Prop} {name qual : Str} {params : Arguments} {body : List Stmt} {scope : Scope} {dV kV doc pm cdv ct oc : Value} {an od : Option Addr} {osl : Array (Option Value)} {f : Addr} {args : Args} {binds : List (Str × Value)}
    (C : Cx w p loose mean mg mb base A outer s.heap)
    (ho : (hd.heap_39 w.params).lookup f = some ⟨oc, od, .func (fnOf name qual params body scope dV kV doc pm an cdv ct), osl⟩) (hcd : codeIn (hd.heap_39 w.params) cdv qual = true) (hroom : A.depth < recursionLimit)
    (hbind : BindsTo s (fnOf name qual params body scope dV kV doc pm an cdv ct) args binds) (hloc : ∀ y ∈ binds, scope.names.lookup y.1 = some .local)
    (hcell : ∀ x ∈ scope.names, x.2 ≠ .cell)
    (h : ∀ h₁ tk, 0 < tk → Fr s.heap s.heap.objs.size h₁ (fun y => binds.reverse.lookup y) → News s.heap s.heap.objs.size h₁ [] →
      wpAny (model prog w) (A.deeper (envOf qual scope s.heap.objs.size f cdv)) (execs body (envOf qual scope s.heap.objs.size f cdv))
        (fun fl s' => R (.ok (.ret (match fl with | .ret v => v | _ => .none))) s')
        (fun _ _ => False)
        { s with heap := h₁, toks := tk })
    (hb : 0 < binds.length := by exact Nat.succ_pos _)
    (hco : scope.isCoroutine = false := by rfl) (hgen : scope.isGenerator = false := by rfl) (hk : scope.kind = .function := by rfl) :
    codeAny (model prog w) A (.call (.ref f) args) R s := by
  refine codeAny_call_def (fd := fnOf name qual params body scope dV kV doc pm an cdv ct) (body := body) (binds := binds) hroom (C.X _ _ ho) rfl C.T.nolimit (codeRec_of C.X hcd) rfl hbind hcell hloc (fun h₁ hns hk₁ => ?_) hco hgen hk
  exact wpAny_mono (h h₁ _ (Nat.lt_of_lt_of_le hb (Nat.le_add_left ..)) ⟨hns, hk₁, Nat.le_refl _⟩ News.nil) (fun _ _ x => x) (fun _ _ x => x.elim)

noncomputable def Gave (s : Shared) (P : Value → Prop) (r : Result) (s' : Shared) : Prop := ∃ v h' tk, r = .ok (.ret v) ∧ P v ∧ Keeps s.heap h' ∧ s' = { s with heap := h', toks := tk }
theorem Gave.intro {s : Shared} {P : Value → Prop} {v : Value} {h' : Heap} {tk : Nat} (hP : P v) (hk : Keeps s.heap h') : Gave s P (.ok (.ret v)) { s with heap := h', toks := tk } := ⟨v, h', tk, rfl, hP, hk, rfl⟩

theorem codeAny_weaken {prog : Program} {w : World} {A A' : Around} {c : Code} {R : Result → Shared → Prop} {s : Shared} (h : codeAny (model prog w) A c R s)
    (e1 : A.handled = A'.handled) (e2 : A'.depth ≤ A.depth) (e3 : A.frames = A'.frames) (e4 : A.guards = A'.guards) (e5 : A'.units ≤ A.units) : codeAny (model prog w) A' c R s :=
  fun Γ p hc hΓ => h Γ p hc ⟨hΓ.1.trans e1.symm, Nat.le_trans hΓ.2.1 e2, fun l hl => hΓ.2.2.1 l (e3 ▸ hl), fun g hg => hΓ.2.2.2.1 g (e4 ▸ hg), Nat.le_trans hΓ.2.2.2.2 e5⟩
theorem wpAny_weaken {prog : Program} {w : World} {A A' : Around} {α : Type} {t : Sem α} {Q : α → Shared → Prop} {E : Value → Shared → Prop} {s : Shared} (h : wpAny (model prog w) A t Q E s)
    (e1 : A.handled = A'.handled) (e2 : A'.depth ≤ A.depth) (e3 : A.frames = A'.frames) (e4 : A.guards = A'.guards) (e5 : A'.units ≤ A.units) : wpAny (model prog w) A' t Q E s :=
  fun Γ p hΓ => h Γ p ⟨hΓ.1.trans e1.symm, Nat.le_trans hΓ.2.1 e2, fun l hl => hΓ.2.2.1 l (e3 ▸ hl), fun g hg => hΓ.2.2.2.1 g (e4 ▸ hg), Nat.le_trans hΓ.2.2.2.2 e5⟩

theorem below_at {A₀ A : Around} {base h₀ h : Heap} {outer : List Env} {env : Env} {L : Addr} {m : Str → Option Value} (B : Below A₀ base outer h₀) (F : Fr h₀ L h m) (hA : A.frames = some (env :: outer)) (hf : env.frame = some L) (hke : env.scope.kind = .function) :
    Below A base (env :: outer) h :=
  ⟨hA, fun b o e => F.keep b o (B.stays b o e), .cons (by rw [hke]; decide) hf F.ns (by
    cases hq : base.get? L with
    | none => rfl
    | some o => exact absurd (Nat.lt_of_lt_of_le (Heap.lt_size (B.stays L o hq)) F.above) (Nat.lt_irrefl _)) (B.frames.of_keeps fun b o e _ => ⟨o, F.keep b o e, rfl⟩)⟩

theorem Cx.at {w : World} {p : Program} {loose : List Str} {mean : ExcName → Option Value} {mg mb : Str → Option Value} {base h₀ h : Heap} {A₀ A : Around} {outer : List Env} {env : Env} {L : Addr} {m : Str → Option Value}
    (X : (hd.heap_39 w.params).In h₀) (T : Top p loose mean mg mb h₀) (B : Below A₀ base outer h₀) (F : Fr h₀ L h m) (hA : A.frames = some (env :: outer)) (hf : env.frame = some L) (hke : env.scope.kind = .function) :
    Cx w p loose mean mg mb base A (env :: outer) h := ⟨X.keeps F.keep, T.keeps F.keep, below_at B F hA hf hke⟩

theorem enterC {prog : Program} {w : World} {p : Program} {loose : List Str} {mean : ExcName → Option Value} {mg mb : Str → Option Value} {base : Heap} {A : Around} {outer : List Env} {s : Shared}
    {R : Result → Shared → Prop} {name qual : Str} {params : Arguments} {body : List Stmt} {scope : Scope} {dV kV doc pm cdv ct oc : Value} {an od : Option Addr} {osl : Array (Option Value)} {f : Addr} {args : Args} {binds : List (Str × Value)}
    (C : Cx w p loose mean mg mb base A outer s.heap)
    (ho : (hd.heap_39 w.params).lookup f = some ⟨oc, od, .func (fnOf name qual params body scope dV kV doc pm an cdv ct), osl⟩) (hcd : codeIn (hd.heap_39 w.params) cdv qual = true) (hroom : A.depth < recursionLimit)
    (hbind : BindsTo s (fnOf name qual params body scope dV kV doc pm an cdv ct) args binds) (hkind : (binds.all fun y => scope.names.lookup y.1 == some .local || scope.names.lookup y.1 == some .cell) = true)
    (hnd : ((cellsFrom 0 scope.names []).map (·.1)).Nodup)
    (h : ∀ h₁ tk cells, Fr s.heap s.heap.objs.size h₁ (bindL (envOfC qual scope s.heap.objs.size f cdv).kindOf binds fun _ => none) → News s.heap s.heap.objs.size h₁ cells →
      CellsAre (bindC (envOfC qual scope s.heap.objs.size f cdv).kindOf binds fun _ => none) (cellsFrom (s.heap.objs.size + 1) scope.names []) cells →
      wpAny (model prog w) (A.deeper (envOfC qual scope s.heap.objs.size f cdv)) (execs body (envOfC qual scope s.heap.objs.size f cdv))
        (fun fl s' => R (.ok (.ret (match fl with | .ret v => v | _ => .none))) s')
        (fun _ _ => False)
        { s with heap := h₁, toks := tk })
    (hco : scope.isCoroutine = false := by rfl) (hgen : scope.isGenerator = false := by rfl) (hk : scope.kind = .function := by rfl) :
    codeAny (model prog w) A (.call (.ref f) args) R s := by
  refine codeAny_call_function hroom (C.X _ _ ho) rfl hco hgen rfl (codeRec_of C.X hcd) (hbind _ _ _ _ ?_)
  refine wpAny_newFunctionEnv_cells hk (kindsX hkind _) fun env' he s' x => ?_
  subst he
  refine ⟨C.T.nolimit.keeps x.toInCall.keep, codeAny_func ?_⟩
  obtain ⟨h₁, tk, rfl, _⟩ := x.done
  obtain ⟨cells, NC, Y⟩ := Cl.news (h₀ := s.heap) (Nat.le_refl _) fun n c hm => ⟨x.cell n c (lookup_of_mem_nodup (cellsFrom_names scope.names 0 (s.heap.objs.size + 1) [] [] rfl ▸ hnd) hm), x.above n c hm⟩
  exact wpAny_mono (h h₁ tk cells ⟨x.toInCall.ns, x.toInCall.keep, Nat.le_refl _⟩ NC Y) (fun _ _ x => x) (fun _ _ x => x.elim)

theorem use_spec {prog : Program} {w : World} {p : Program} {loose : List Str} {mean : ExcName → Option Value} {mg mb : Str → Option Value} {base h₀ : Heap} {A₀ A : Around} {outer : List Env} {env : Env} {L : Addr} {m : Str → Option Value} {news : List (Addr × Obj)} {s : Shared}
    {f : Value} {args : List Value} {P : Value → Prop} {Q : Value → Shared → Prop} {E : Value → Shared → Prop}
    (X : (hd.heap_39 w.params).In h₀) (T : Top p loose mean mg mb h₀) (B : Below A₀ base outer h₀) (F : Fr h₀ L s.heap m) (N : News h₀ L s.heap news) (hA : A.frames = some (env :: outer)) (hf : env.frame = some L) (hke : env.scope.kind = .function)
    (spec : Cx w p loose mean mg mb base A (env :: outer) s.heap → codeAny (model prog w) A (.call f ⟨args, []⟩) (Gave s P) s)
    (h : ∀ v h' tk, P v → Fr h₀ L h' m → News h₀ L h' news → Q v { s with heap := h', toks := tk }) : wpAny (model prog w) A (call f args) Q E s :=
  wpAny_call (codeAny_mono (spec (.at X T B F hA hf hke)) fun r s' ⟨v, h', tk, e1, hP, hk, e2⟩ => by
    subst e1 e2
    exact h v h' tk hP (F.kept hk) (N.grown hk))

theorem use_specS {prog : Program} {w : World} {p : Program} {loose : List Str} {mean : ExcName → Option Value} {mg mb : Str → Option Value} {base h₀ : Heap} {A₀ A : Around} {outer : List Env} {env : Env} {L : Addr} {m : Str → Option Value} {news : List (Addr × Obj)} {s : Shared}
    {f : Value} {args : List Value} {y : Str} {Q : Value → Shared → Prop} {E : Value → Shared → Prop}
    (X : (hd.heap_39 w.params).In h₀) (T : Top p loose mean mg mb h₀) (B : Below A₀ base outer h₀) (F : Fr h₀ L s.heap m) (N : News h₀ L s.heap news) (hA : A.frames = some (env :: outer)) (hf : env.frame = some L) (hke : env.scope.kind = .function)
    (spec : Cx w p loose mean mg mb base A (env :: outer) s.heap → codeAny (model prog w) A (.call f ⟨args, []⟩) (Gave s fun v => ∃ t', v = .str y t') s)
    (h : ∀ t' h' tk, Fr h₀ L h' m → News h₀ L h' news → Q (.str y t') { s with heap := h', toks := tk }) : wpAny (model prog w) A (call f args) Q E s :=
  use_spec X T B F N hA hf hke spec fun v h' tk ⟨t', e⟩ F' N' => by subst e; exact h t' h' tk F' N'
theorem use_specI {prog : Program} {w : World} {p : Program} {loose : List Str} {mean : ExcName → Option Value} {mg mb : Str → Option Value} {base h₀ : Heap} {A₀ A : Around} {outer : List Env} {env : Env} {L : Addr} {m : Str → Option Value} {news : List (Addr × Obj)} {s : Shared}
    {f : Value} {args : List Value} {y : Int} {Q : Value → Shared → Prop} {E : Value → Shared → Prop}
    (X : (hd.heap_39 w.params).In h₀) (T : Top p loose mean mg mb h₀) (B : Below A₀ base outer h₀) (F : Fr h₀ L s.heap m) (N : News h₀ L s.heap news) (hA : A.frames = some (env :: outer)) (hf : env.frame = some L) (hke : env.scope.kind = .function)
    (spec : Cx w p loose mean mg mb base A (env :: outer) s.heap → codeAny (model prog w) A (.call f ⟨args, []⟩) (Gave s fun v => ∃ t', v = .int y t') s)
    (h : ∀ t' h' tk, Fr h₀ L h' m → News h₀ L h' news → Q (.int y t') { s with heap := h', toks := tk }) : wpAny (model prog w) A (call f args) Q E s :=
  use_spec X T B F N hA hf hke spec fun v h' tk ⟨t', e⟩ F' N' => by subst e; exact h t' h' tk F' N'

theorem fill : PySem.Challenge.rw_ij0076_01 = PySem.Challenge.rw_ij0076_01 ∧ hd.heap_39 = hd.heap_39 := by
  k_fill
  exact ⟨rfl, rfl⟩
end Mine
end
section
open PySem PySem.W PyProof.Rows PySem.Calls
set_option maxRecDepth 100000
namespace Mine
open PySem.StrLaws

noncomputable def subs (c : Nat) (z : List Nat) (l : List Nat) : List Nat := l.flatMap fun k => if k = c then z else [k]
theorem subs_append (c : Nat) (z a b : List Nat) : subs c z (a ++ b) = subs c z a ++ subs c z b := by simp [subs]
theorem subs_free (c : Nat) (z : List Nat) : ∀ l : List Nat, c ∉ l → subs c z l = l
  | [], _ => rfl
  | k :: r, h => by
    have h1 : ¬ k = c := fun e => h (e ▸ List.mem_cons_self ..)
    have ih := subs_free c z r fun m => h (List.mem_cons_of_mem _ m)
    simp only [subs, List.flatMap_cons, if_neg h1] at ih ⊢
    rw [ih]; rfl
theorem subs_join (c : Nat) (z : Str) : ∀ parts : List Str, (∀ p ∈ parts, c ∉ p.cps.toList) → subs c z.cps.toList (Str.join ⟨#[c]⟩ parts).cps.toList = (Str.join z parts).cps.toList
  | [], _ => rfl
  | [p], h => subs_free c _ _ (h p (List.mem_singleton.mpr rfl))
  | p :: q :: r, h => by
    have ih := subs_join c z (q :: r) fun a ha => h a (List.mem_cons_of_mem _ ha)
    show subs c z.cps.toList (p ++ ⟨#[c]⟩ ++ Str.join ⟨#[c]⟩ (q :: r)).cps.toList = (p ++ z ++ Str.join z (q :: r)).cps.toList
    simp only [Str.cps_append, Array.toList_append]
    rw [subs_append, subs_append, ih, subs_free c _ _ (h p (List.mem_cons_self ..))]
    congr 2
    simp [subs]
theorem replace_subs (x z : Str) (c : Nat) : (Txt.replace x ⟨#[c]⟩ z).cps.toList = subs c z.cps.toList x.cps.toList := by
  rw [replace_one, ← subs_join c z _ (split_free x c), join_split]
theorem subs_subs (c d : Nat) (z y l : List Nat) : subs d y (subs c z l) = l.flatMap fun k => subs d y (if k = c then z else [k]) := by
  simp only [subs, List.flatMap_assoc]
theorem subs_le (c : Nat) (z : List Nat) (m : Nat) (hz : z.length ≤ m) (h1 : 1 ≤ m) : ∀ l : List Nat, (subs c z l).length ≤ l.length * m
  | [] => by simp [subs]
  | k :: r => by
    have ih := subs_le c z m hz h1 r
    simp only [subs, List.flatMap_cons, List.length_append, List.length_cons] at ih ⊢
    have h : (if k = c then z else [k]).length ≤ m := by
      split
      · exact hz
      · exact h1
    have e : (r.length + 1) * m = r.length * m + m := Nat.succ_mul ..
    omega
theorem len_toList (x : Str) : x.length = x.cps.toList.length := by simp [Str.length]
theorem replace_leN {x z y : Str} {c n m k : Nat} (hy : y = ⟨#[c]⟩) (hx : x.length ≤ n) (hz : z.length ≤ m ∧ 1 ≤ m) (hk : n * m ≤ k) : (Txt.replace x y z).length ≤ k := by
  subst hy
  rw [len_toList, replace_subs]
  exact Nat.le_trans (subs_le _ _ m (by rw [← len_toList]; exact hz.1) hz.2 _) (Nat.le_trans (Nat.mul_le_mul_right _ (by rw [← len_toList]; exact hx)) hk)

section
open Builtin Builtin.Str
variable {prog : Program} {w : World} {A : Around} {E : Value → Shared → Prop} {s : Shared} {x y z : Str} {t u v : Tok} {Q : Value → Shared → Prop}
theorem replaceP (hu : u ≠ 0) (hv : v ≠ 0) (huv : u ≠ v) (hyz : (y == z) = false) (hb : x.length + (x.length + 1) * z.length ≤ 16777216)
    (hq : ∀ t' k, s.toks ≤ k → Q (.str (Txt.replace x y z) t') { s with toks := k }) : wpAny (model prog w) A (call (.builtin "str.replace") [.str x t, .str y u, .str z v]) Q E s := by
  have e : (2 : Nat) ^ 24 = 16777216 := by decide
  have hl : tooLong (x.length + (occurrences x y 0 x.length (x.length + 1)).length * z.length) = false := by
    have h1 := StrLaws.occ_length_le x y 0 x.length (x.length + 1)
    have h2 : (occurrences x y 0 x.length (x.length + 1)).length * z.length ≤ (x.length + 1) * z.length := Nat.mul_le_mul_right _ h1
    unfold tooLong sizeLine
    exact decide_eq_false (by omega)
  refine call_gives F.slot_str_replace (typeIs_str _ _ _) F.entry_str_replace (F.args_str_replace_3 _ _ _)
    (gives_str_replace x y z t u v fun _ => ⟨by simp [hu, hv], by simp [huv], hyz, hl⟩) ?_
  unfold Txt.replace at hq
  cases hc : ((occurrences x y 0 x.length (x.length + 1)).isEmpty || (y.length == 0 && z.length == 0))
  · rw [hc] at hq
    simp only [Bool.false_eq_true, if_false] at hq ⊢
    exact ⟨fits_replaced y hb, hq _ _ (Nat.le_succ _)⟩
  · rw [hc] at hq
    simp only [if_true] at hq ⊢
    exact hq t s.toks (Nat.le_refl _)
theorem replaceN {t u v : Nat} (n : Nat) (hx : x.length ≤ n) (hn : n ≤ 1000000) (hz : z.length ≤ 7) (hu : u ≠ 0) (hv : v ≠ 0) (huv : u ≠ v) (hyz : (y == z) = false)
    (hq : ∀ t' k, s.toks ≤ k → Q (.str (Txt.replace x y z) t') { s with toks := k }) : wpAny (model prog w) A (call (.builtin "str.replace") [.str x t, .str y u, .str z v]) Q E s :=
  replaceP hu hv huv hyz (by have h1 : (x.length + 1) * z.length ≤ (x.length + 1) * 7 := Nat.mul_le_mul_left _ hz
                             omega) hq
end
end Mine
end
section
open PySem PySem.W PyProof.Rows PySem.Calls
namespace Mine
theorem resetD1 {prog : Program} {w : World} {A : Around} {E : Value → Shared → Prop} {s : Shared} {b : Bool} : wpAny (model prog w) A (truthy (.bool b)) (fun _ _ => True) E s := by
  w_top off
  walk1
  all_goals trivial
end Mine
end
section
open PySem PySem.W PyProof.Rows PySem.Calls
set_option maxRecDepth 100000
set_option maxHeartbeats 8000000
namespace Mine
theorem fillD : PySem.Challenge.rw_ij0076_01 = PySem.Challenge.rw_ij0076_01 ∧ hd.heap_39 = hd.heap_39 := by
  k_fill
  exact ⟨rfl, rfl⟩

/-- the raw entries of quoteattr's own table -/
structure Ent3 (es : Array DictEntry) : Prop where
  e : ∃ h1 h2 h3 a1 a2 a3 b1 b2 b3, es = #[⟨h1, .str (Str.ofString "\n") a1, .str (Str.ofString "&#10;") b1⟩, ⟨h2, .str (Str.ofString "\u000d") a2, .str (Str.ofString "&#13;") b2⟩, ⟨h3, .str (Str.ofString "\t") a3, .str (Str.ofString "&#9;") b3⟩] ∧
    (a1 ≠ 0 ∧ b1 ≠ 0 ∧ a1 ≠ b1) ∧ (a2 ≠ 0 ∧ b2 ≠ 0 ∧ a2 ≠ b2) ∧ (a3 ≠ 0 ∧ b3 ≠ 0 ∧ a3 ≠ b3)

noncomputable def rep1 (x : Str) : Str := Txt.replace x (Str.ofString "\n") (Str.ofString "&#10;")
noncomputable def rep2 (x : Str) : Str := Txt.replace (rep1 x) (Str.ofString "\u000d") (Str.ofString "&#13;")
noncomputable def rep3 (x : Str) : Str := Txt.replace (rep2 x) (Str.ofString "\t") (Str.ofString "&#9;")
noncomputable def reps (x : Str) : Nat → Str
  | 0 => x
  | 1 => rep1 x
  | 2 => rep2 x
  | _ => rep3 x

theorem rep3_len {x : Str} (hx : x.length ≤ 240) : (rep3 x).length ≤ 24000 := by
  have h1 : (rep1 x).length ≤ 1200 := replace_leN (c := 10) (by rfl) hx (by decide : (Str.ofString "&#10;").length ≤ 5 ∧ 1 ≤ 5) (by decide)
  have h2 : (rep2 x).length ≤ 6000 := replace_leN (c := 13) (by rfl) h1 (by decide : (Str.ofString "&#13;").length ≤ 5 ∧ 1 ≤ 5) (by decide)
  exact replace_leN (c := 9) (by rfl) h2 (by decide : (Str.ofString "&#9;").length ≤ 4 ∧ 1 ≤ 4) (by decide)
theorem reps_len {x : Str} (hx : x.length ≤ 1000) (i : Nat) : (reps x i).length ≤ 180000 := by
  have h1 : (rep1 x).length ≤ 6000 := replace_leN (c := 10) (by rfl) hx (by decide : (Str.ofString "&#10;").length ≤ 5 ∧ 1 ≤ 5) (by decide)
  have h2 : (rep2 x).length ≤ 36000 := replace_leN (c := 13) (by rfl) h1 (by decide : (Str.ofString "&#13;").length ≤ 5 ∧ 1 ≤ 5) (by decide)
  have h3 : (rep3 x).length ≤ 180000 := replace_leN (c := 9) (by rfl) h2 (by decide : (Str.ofString "&#9;").length ≤ 4 ∧ 1 ≤ 4) (by decide)
  match i with
  | 0 => exact Nat.le_trans hx (by decide)
  | 1 => exact Nat.le_trans h1 (by decide)
  | 2 => exact Nat.le_trans h2 (by decide)
  | _ + 3 => exact h3
local macro_rules | `(tactic| walk_at "eval Name") => `(tactic| (k_here; k_dflt (refine' ld ?k1 ?k2 ?_; (case k1 => k_asm); (case k2 => assumption); k_whole)))

theorem drep_spec {w : World} {p : Program} {loose : List Str} {mean : ExcName → Option Value} {mg mb : Str → Option Value} {base : Heap} {outer : List Env} {s : Shared} {g : Option (List Code)} {x : Str} {tk : Tok} {d : Addr} {es : Array DictEntry} {ep : Nat} {kvs : List (Str × Value)}
    {dd uu : Nat} (hroom : dd < recursionLimit)
    (C : Cx w p loose mean mg mb base { handled := none, depth := dd, frames := some outer, guards := g, units := uu } outer s.heap)
    (hE : Ent3 es) (hR : RawDict s.heap d es ep) (hD : s.heap.DictAt (PySem.strKind Pr w) d kvs ep) (hS : (d == sysModules) = false) (hx : x.length ≤ 1000) :
    codeAny (model Pr w) { handled := none, depth := dd, frames := some outer, guards := g, units := uu } (.call (.ref 21) ⟨[.str x tk, .ref d], []⟩)
      (Gave s fun v => ∃ t', v = .str (rep3 x) t') s := by
  obtain ⟨X, T, B⟩ := C
  refine enter ⟨X, T, B⟩ (by k_is) (by k_is) hroom (by first | exact BindsTo.of_eq rfl | exact binds_K (by assumption) rfl (by k_is) rfl rfl rfl) (locs rfl) (by decide) ?_
  intro h₁ tk₀ htk₀ F N
  k_steps
  have hz : kvs.length = es.size := by
    obtain ⟨o, es', ho, _, hd', _, hp, _⟩ := hD
    obtain ⟨o2, ho2, _, hd2⟩ := hR
    rw [ho] at ho2; cases ho2
    rw [hd'] at hd2; cases hd2
    rw [← hp.length]; simp
  have hDO : s.heap.DictOf (PySem.strKind Pr w) d kvs := by
    obtain ⟨o, es', ho, r⟩ := hD; exact ⟨o, es', ep, ho, r⟩
  with_unfolding_all refine For_turns F ?_
  refine MethodCall_ ?_
  refine ld F (by rfl) ?_
  refine getMethod_builtin (hDO.keep F.keep).typeIs PySem.F.plainAttrs_dict PySem.F.slot_dict_items PySem.F.type_dict_items (hDO.keep F.keep).mapOf.noDict ?_
  refine callWith_method0 ?_
  refine call_meetsIn PySem.F.slot_dict_items (hDO.keep F.keep).typeIs PySem.F.entry_dict_items (PySem.F.args_dict_items_1 _) (meets_dict_items (PySem.strKind Pr w) d hS) ⟨⟨kvs, hDO.keep F.keep⟩, ?_⟩
  have F2 := F.push { cls := .type "dict_items", data := .fields #[.ref d] }
  have N2 := News.push F N { cls := .type "dict_items", data := .fields #[.ref d] }
  have hv : (h₁.push { cls := .type "dict_items", data := .fields #[.ref d] }).IsItemsView h₁.objs.size d := ⟨_, Heap.get?_push_size _ rfl, rfl, rfl⟩
  generalize h₁.push { cls := .type "dict_items", data := .fields #[.ref d] } = h₂ at F2 N2 hv
  have R2 := hR.at (F2.keep d)
  have D2 : h₂.DictAt (PySem.strKind Pr w) d kvs ep := hD.at' (F2.keep d)
  refine rawIter hv R2 ?_
  have hdL : d ≠ h₂.objs.size := Nat.ne_of_lt (R2.elim fun o ho => Heap.lt_size ho.1)
  have hds : d < s.heap.objs.size := hR.elim fun o ho => Heap.lt_size ho.1
  have hLs : s.heap.objs.size < h₂.objs.size := F2.ns.lt
  have n1 : s.heap.get? h₂.objs.size = none := Heap.get?_none_of_le (Nat.le_of_lt hLs)
  refine ⟨h₂.objs.size, [h₂.objs.size, d], [h₂.objs.size], es.size, _, _, _, _, [], fun i m news => ∃ t, m (Str.ofString "s") = some (.str (reps x i) t), rfl,
    rawTurns (prog := Pr) (w := w) rfl h₂.objs.size d hdL es ep hz, ?_, ?_, ?_, ⟨⟨.none, .none, Heap.get?_push_size _ rfl⟩, R2.at fun o e => Heap.get?_push_of_some _ e, D2.at' fun o e => Heap.get?_push_of_some _ e⟩, F2.push _, ?_, ?_, ?_, ?_⟩
  · intro hm
    rcases List.mem_cons.mp hm with e | hm
    · exact absurd (show s.heap.objs.size = h₂.objs.size from e) (Nat.ne_of_lt hLs)
    · exact absurd (show s.heap.objs.size = d from List.mem_singleton.mp hm) (Nat.ne_of_gt hds)
  · intro b hb
    rw [List.mem_singleton.mp hb]; exact n1
  · intro p hp; cases hp
  · exact News.nil
  · exact ⟨_, rfl⟩
  · rintro i v m₁ news₁ h₃ tk₃ own hi ⟨T', en, rfl, hen, hT⟩ ⟨t, hm⟩ hnw hown hget hall hst F' N'
    obtain ⟨e1, e2, e3, a1, a2, a3, b1, b2, b3, rfl, ⟨p1, q1, r1⟩, ⟨p2, q2, r2⟩, p3, q3, r3⟩ := hE.e
    have hl := reps_len hx i
    have hT' : IsTup h₃ T' #[en.key, en.val] := hT
    obtain rfl | rfl | rfl : i = 0 ∨ i = 1 ∨ i = 2 := by
      have : i < 3 := hi
      omega
    all_goals (cases hen; k_steps; exact LoopStepU.intro (by assumption) (by assumption) hnw ⟨_, rfl⟩)
  · rintro h' tk' m' news' F' N' _ ⟨t, hm⟩
    have hs3 : es.size = 3 := by obtain ⟨_, _, _, _, _, _, _, _, _, rfl, _⟩ := hE.e; rfl
    have hm' : m' (Str.ofString "s") = some (.str (rep3 x) t) := by rw [hs3] at hm; exact hm
    k_steps
    exact Gave.intro ⟨t, rfl⟩ F'.keep

theorem drep_raw {w : World} {p : Program} {loose : List Str} {mean : ExcName → Option Value} {mg mb : Str → Option Value} {base : Heap} {outer : List Env} {s : Shared} {A : Around} {x : Str} {tk : Tok} {d : Addr} {o : Obj} {a1 a2 a3 b1 b2 b3 : Nat}
    (hh : A.handled = none) (hroom : A.depth < recursionLimit) (hfr : A.frames = some outer)
    (hd' : s.heap.get? d = some o) (hO : RawO w o [(Str.ofString "\n", a1, .str (Str.ofString "&#10;") b1), (Str.ofString "\u000d", a2, .str (Str.ofString "&#13;") b2), (Str.ofString "\t", a3, .str (Str.ofString "&#9;") b3)])
    (p1 : a1 ≠ 0 ∧ b1 ≠ 0 ∧ a1 ≠ b1) (p2 : a2 ≠ 0 ∧ b2 ≠ 0 ∧ a2 ≠ b2) (p3 : a3 ≠ 0 ∧ b3 ≠ 0 ∧ a3 ≠ b3) (hS : (d == sysModules) = false) (hx : x.length ≤ 1000)
    (C : Cx w p loose mean mg mb base A outer s.heap) :
    codeAny (model Pr w) A (.call (.ref 21) ⟨[.str x tk, .ref d], []⟩) (Gave s fun v => ∃ t', v = .str (rep3 x) t') s := by
  obtain ⟨hdl, dd, fr, g, uu⟩ := A
  cases hh; cases hfr
  have r := hO.at hd'
  have D := RawS.dictOf (prog := Pr) r (show [Str.ofString "\n", Str.ofString "\u000d", Str.ofString "\t"].Nodup by decide +kernel)
  obtain ⟨o1, es1, ep1, ho1, c1, d1, k1, pr1, n1⟩ := id D
  obtain ⟨ep, c2, d2⟩ := id hO
  have e1 : o1 = o := Option.some.inj (ho1.symm.trans hd')
  subst e1
  rw [d1] at d2
  cases d2
  exact drep_spec hroom C ⟨⟨_, _, _, _, _, _, _, _, _, rfl, p1, p2, p3⟩⟩ ⟨o1, hd', c1, d1⟩ ⟨o1, _, hd', c1, d1, k1, pr1, n1⟩ hS hx
end Mine
end
section
open PySem PySem.W PyProof.Rows PySem.Calls
namespace Mine
theorem resetE1 {prog : Program} {w : World} {A : Around} {E : Value → Shared → Prop} {s : Shared} {b : Bool} : wpAny (model prog w) A (truthy (.bool b)) (fun _ _ => True) E s := by
  w_top off
  walk1
  all_goals trivial
end Mine
end
section
open PySem PySem.W PyProof.Rows PySem.Calls
set_option maxRecDepth 100000
set_option maxHeartbeats 8000000
namespace Mine
theorem fillT : PySem.Challenge.rw_ij0076_01 = PySem.Challenge.rw_ij0076_01 ∧ hd.heap_39 = hd.heap_39 := by
  k_fill
  exact ⟨rfl, rfl⟩
theorem raw31 {w : World} {h : Heap} (X : (hd.heap_39 w.params).In h) : RawS w h 31 [] := ⟨_, 0, X 31 _ (by k_is), ⟨rfl, rfl, rfl⟩, rfl⟩

theorem gentoks {M : Model} {A : Around} {α : Type} {t : Sem α} {Q : α → Shared → Prop} {E : Value → Shared → Prop} {h : Heap} {g : Array GenState} {d : Drawn} {X n : Nat} {os : OsState}
    (hX : 0 < X + n) (H : ∀ tk, 0 < tk → wpAny M A t Q E ⟨h, g, d, tk, os⟩) : wpAny M A t Q E ⟨h, g, d, X + n, os⟩ := H _ hX
theorem fmt_dq (t u : Tok) : ∀ z : Str, z.length ≤ 1000000 → Meets (Builtin.«str.__mod__» ⟨[.str ⟨#[34, 37, 115, 34]⟩ t, .str z u], []⟩) (fun _ R s => ∀ t' k, R (.ok (.ret (.str (Str.ofString "\"" ++ z ++ Str.ofString "\"") t'))) { s with toks := k }) := by
  kpc_run_s
theorem fmt_sq (t u : Tok) : ∀ z : Str, z.length ≤ 1000000 → Meets (Builtin.«str.__mod__» ⟨[.str ⟨#[39, 37, 115, 39]⟩ t, .str z u], []⟩) (fun _ R s => ∀ t' k, R (.ok (.ret (.str (Str.ofString "'" ++ z ++ Str.ofString "'") t'))) { s with toks := k }) := by
  kpc_run_s
local macro_rules | `(tactic| walk_at "binaryOp Mod str str") => `(tactic| (k_here; (with_reducible show wpAny _ _ (binaryOp Operator.Mod (Value.str _ _) (Value.str _ _)) _ _ _); (refine' KPc.mod_str ?kpcF ?kpcl ?kpcm ?_; (case kpcF => kpc_eq); (case kpcl => kpc_size); (case kpcm => first | exact fmt_dq _ _ | exact fmt_sq _ _)); intro _ _))
local macro_rules | `(tactic| walk_at "execs cons") => `(tactic| (k_here; with_reducible refine gentoks (by first | omega | (simp only [List.length_cons, List.length_nil]; omega)) ?_; intro tkp htkp))
local macro_rules | `(tactic| walk_at "execs nil") => `(tactic| (k_here; with_reducible refine gentoks (by first | omega | (simp only [List.length_cons, List.length_nil]; omega)) ?_; intro tkp htkp))
local macro_rules | `(tactic| walk_at "eval Dict") => `(tactic| (k_here; k_dflt (refine' star_eval ?F ?N ?b ?h0 ?hS ?hv ?h12 ?h13 ?h23 ?_ ?hk ?hl ?hd; (case F => k_asm); (case N => k_asm); (case b => exact Top.nolimit (by k_asm)); (case h0 => exact raw31 (by k_asm)); (case hS => decide); (case hv => rfl); (case h12 => decide +kernel); (case h13 => decide +kernel); (case h23 => decide +kernel); (case hk => rfl); (case hl => rfl); (case hd => decide); intro d' h' tk' o' F' N' l1 lo' hr' hd' hf' ht'; (try dsimp only at hr' hd' hf' ht'); (try k_lt l1))))
local macro_rules | `(tactic| walk_at "call builtin:str.replace") => `(tactic| (k_here; (refine replaceN _ (by assumption) (by decide) (by decide) (by omega) (by omega) (by omega) (by decide) ?_); intro t' k' hk'))
local macro_rules | `(tactic| walk_at "call ref") => `(tactic| (k_here; (with_reducible show wpAny _ _ (call (Value.ref 21) [Value.str _ _, Value.ref _]) _ _ _); k_dflt ((refine' use_specS ?X ?T ?B ?F ?N rfl rfl rfl (fun C => drep_raw rfl ?hroom rfl ?hd ?hO ?p1 ?p2 ?p3 ?hS ?hx C) ?_); (case X => k_asm); (case T => k_asm); (case B => k_asm); (case F => k_asm); (case N => k_asm); (case hroom => exact Nat.le_of_ble_eq_true rfl); (case hO => assumption); (case hd => exact (News.get (by assumption) (by k_mem))); (case p1 => exact ⟨by omega, by omega, by omega⟩); (case p2 => exact ⟨by omega, by omega, by omega⟩); (case p3 => exact ⟨by omega, by omega, by omega⟩); (case hS => assumption); (case hx => assumption); (intro t' h' tk F' N'))))

noncomputable def escd (x : Str) : Str := Txt.replace (Txt.replace (Txt.replace x (Str.ofString "&") (Str.ofString "&amp;")) (Str.ofString ">") (Str.ofString "&gt;")) (Str.ofString "<") (Str.ofString "&lt;")
noncomputable def free (x c : Str) : Bool := (Builtin.Str.occurrences x c 0 x.length 1).isEmpty
noncomputable def ended (y : Str) : Str := if free y (Str.ofString "\"") = true then Str.ofString "\"" ++ y ++ Str.ofString "\"" else
  if free y (Str.ofString "'") = true then Str.ofString "'" ++ y ++ Str.ofString "'" else Str.ofString "\"" ++ Txt.replace y (Str.ofString "\"") (Str.ofString "&quot;") ++ Str.ofString "\""
noncomputable def quoted (x : Str) : Str := ended (rep3 (escd x))
theorem ended_a {y : Str} (h : (Builtin.Str.occurrences y (Str.ofString "\"") 0 y.length 1).isEmpty = true) : Str.ofString "\"" ++ y ++ Str.ofString "\"" = ended y := (if_pos h).symm
theorem ended_b {y : Str} (h : (Builtin.Str.occurrences y (Str.ofString "\"") 0 y.length 1).isEmpty = false) (h' : (Builtin.Str.occurrences y (Str.ofString "'") 0 y.length 1).isEmpty = true) : Str.ofString "'" ++ y ++ Str.ofString "'" = ended y :=
  ((if_neg (fun e => Bool.false_ne_true (h.symm.trans e))).trans (if_pos h')).symm
theorem ended_c {y : Str} (h : (Builtin.Str.occurrences y (Str.ofString "\"") 0 y.length 1).isEmpty = false) (h' : (Builtin.Str.occurrences y (Str.ofString "'") 0 y.length 1).isEmpty = false) :
    Str.ofString "\"" ++ Txt.replace y (Str.ofString "\"") (Str.ofString "&quot;") ++ Str.ofString "\"" = ended y :=
  ((if_neg (fun e => Bool.false_ne_true (h.symm.trans e))).trans (if_neg (fun e => Bool.false_ne_true (h'.symm.trans e)))).symm

theorem quote_spec {w : World} {p : Program} {loose : List Str} {mean : ExcName → Option Value} {mg mb : Str → Option Value} {base : Heap} {outer : List Env} {s : Shared} {g : Option (List Code)} {x : Str} {tk : Tok}
    (hx : x.length ≤ 3)
    (C : Cx w p loose mean mg mb base { handled := none, depth := 500, frames := some outer, guards := g, units := 400 } outer s.heap) :
    codeAny (model Pr w) { handled := none, depth := 500, frames := some outer, guards := g, units := 400 } (.call (.ref 39) ⟨[.str x tk], []⟩)
      (Gave s fun v => ∃ t', v = .str (quoted x) t') s := by
  have x1 : (Txt.replace x (Str.ofString "&") (Str.ofString "&amp;")).length ≤ 15 := replace_leN (c := 38) rfl hx (by decide : (Str.ofString "&amp;").length ≤ 5 ∧ 1 ≤ 5) (by decide)
  have x2 : (Txt.replace (Txt.replace x (Str.ofString "&") (Str.ofString "&amp;")) (Str.ofString ">") (Str.ofString "&gt;")).length ≤ 60 := replace_leN (c := 62) rfl x1 (by decide : (Str.ofString "&gt;").length ≤ 4 ∧ 1 ≤ 4) (by decide)
  have x3 : (Txt.replace (Txt.replace (Txt.replace x (Str.ofString "&") (Str.ofString "&amp;")) (Str.ofString ">") (Str.ofString "&gt;")) (Str.ofString "<") (Str.ofString "&lt;")).length ≤ 240 := replace_leN (c := 60) rfl x2 (by decide : (Str.ofString "&lt;").length ≤ 4 ∧ 1 ≤ 4) (by decide)
  have x4 : (rep3 (Txt.replace (Txt.replace (Txt.replace x (Str.ofString "&") (Str.ofString "&amp;")) (Str.ofString ">") (Str.ofString "&gt;")) (Str.ofString "<") (Str.ofString "&lt;"))).length ≤ 24000 := rep3_len x3
  have x5 : (Txt.replace (rep3 (Txt.replace (Txt.replace (Txt.replace x (Str.ofString "&") (Str.ofString "&amp;")) (Str.ofString ">") (Str.ofString "&gt;")) (Str.ofString "<") (Str.ofString "&lt;"))) (Str.ofString "\"") (Str.ofString "&quot;")).length ≤ 144000 := replace_leN (c := 34) rfl x4 (by decide : (Str.ofString "&quot;").length ≤ 6 ∧ 1 ≤ 6) (by decide)
  have x6 : (Txt.replace (Txt.replace (Txt.replace x (Str.ofString "&") (Str.ofString "&amp;")) (Str.ofString ">") (Str.ofString "&gt;")) (Str.ofString "<") (Str.ofString "&lt;")).length ≤ 1000 := Nat.le_trans x3 (by decide)
  obtain ⟨X, T, B⟩ := C
  refine enter ⟨X, T, B⟩ (by k_is) (by k_is) (by show (500:Nat) < _; decide) (by first | exact BindsTo.of_eq rfl | exact binds_K (by assumption) rfl (by k_is) rfl rfl rfl) (locs rfl) (by decide) ?_
  intro h₁ tk₀ htk₀ F N
  k_steps
  all_goals (dsimp only; first
    | exact Gave.intro ⟨_, congrArg (fun z => Value.str z _) (ended_a (by assumption))⟩ (Fr.keep (by assumption))
    | exact Gave.intro ⟨_, congrArg (fun z => Value.str z _) (ended_b (by assumption) (by assumption))⟩ (Fr.keep (by assumption))
    | exact Gave.intro ⟨_, congrArg (fun z => Value.str z _) (ended_c (by assumption) (by assumption))⟩ (Fr.keep (by assumption)))

theorem quote_at {w : World} {p : Program} {loose : List Str} {mean : ExcName → Option Value} {mg mb : Str → Option Value} {base : Heap} {outer : List Env} {s : Shared} {A : Around} {x : Str} {tk : Tok}
    (hx : x.length ≤ 3) (hh : A.handled = none) (hroom : A.depth ≤ 500) (hu : A.units ≤ 400) (hfr : A.frames = some outer) (C : Cx w p loose mean mg mb base A outer s.heap) :
    codeAny (model Pr w) A (.call (.ref 39) ⟨[.str x tk], []⟩) (Gave s fun v => ∃ t', v = .str (quoted x) t') s :=
  codeAny_weaken (quote_spec (g := A.guards) hx ⟨C.X, C.T, rfl, C.B.stays, C.B.frames⟩) hh.symm hroom hfr.symm rfl hu
end Mine
end
section
open PySem PySem.W PyProof.Rows PySem.Calls
namespace Mine
theorem resetG1 {prog : Program} {w : World} {A : Around} {E : Value → Shared → Prop} {s : Shared} {b : Bool} : wpAny (model prog w) A (truthy (.bool b)) (fun _ _ => True) E s := by
  w_top off
  walk1
  all_goals trivial
end Mine
end
section
open PySem PySem.W PyProof.Rows PySem.Calls
set_option maxRecDepth 100000
set_option maxHeartbeats 8000000
namespace Mine
theorem fillG : PySem.Challenge.rw_ij0076_01 = PySem.Challenge.rw_ij0076_01 ∧ hd.heap_39 = hd.heap_39 := by
  k_fill
  exact ⟨rfl, rfl⟩

noncomputable def StuckG (P : Prop) : Prop := P
theorem stuckG {P : Prop} (h : StuckG P) : P := h
local macro_rules | `(tactic| walk_at "eval ListComp") => `(tactic| (k_here; refine stuckG ?_))

local macro_rules | `(tactic| walk_at "call builtin:sum") => `(tactic| (k_here; k_dflt ((rename Fr _ _ _ _ => F9); (rename News _ _ _ _ => N9); (rename IntsAre _ _ => hi9); (rename Heap.IsList _ _ _ => hl9); (refine sumK rfl F9 N9 (by simpa using hl9) hi9 ?_); clear F9 N9; (intros; (rename Fr _ _ _ _ => F9); (rename News _ _ _ _ => N9)))))

noncomputable def EltPost (F : Value → Value → Prop) (v : Value) (s₃ : Shared) (y : Value) (s₄ : Shared) : Prop := F v y ∧ PySem.Keeps s₃ s₄
noncomputable def wid (c : Nat) : Int := if c = 38 then 5 else if c = 60 then 4 else if c = 62 then 4 else if c = 10 then 5 else if c = 9 then 4 else 1

noncomputable def SignInt (v y : Value) : Prop := ∃ c u t, v = .str ⟨#[c]⟩ u ∧ y = .int (wid c) t

theorem one_eq (c d : Nat) (x : Str) (hx : x = ⟨#[d]⟩) : (x = (⟨#[c]⟩ : Str)) = (c = d) := by
  subst hx
  apply propext
  constructor
  · intro e; injection e with e; simp at e; exact e.symm
  · intro e; rw [e]
theorem wid_look (c : Nat) : (Spec.lookup (.str ⟨#[c]⟩) [(.str (Str.ofString "&"), .int 5), (.str (Str.ofString "<"), .int 4), (.str (Str.ofString ">"), .int 4), (.str (Str.ofString "\n"), .int 5), (.str (Str.ofString "\t"), .int 4)]).getD (.int 1) = .int (wid c) := by
  simp only [Spec.lookup, PyProof.V.same_str, one_eq c 38 (Str.ofString "&") rfl, one_eq c 60 (Str.ofString "<") rfl, one_eq c 62 (Str.ofString ">") rfl, one_eq c 10 (Str.ofString "\n") rfl, one_eq c 9 (Str.ofString "\t") rfl, decide_eq_true_eq, wid]
  repeat' split
  all_goals first | rfl | (exfalso; omega)
theorem signInts : ∀ (vs : List Value) (l : List Nat) (ys : List Value), (∀ (j : Nat) (v : Value), vs[j]? = some v → ∃ (c : Nat) (u : Tok), l[j]? = some c ∧ v = Value.str ⟨#[c]⟩ u) → vs.length = l.length → Paired SignInt vs ys → IntsAre ys (l.map wid) := by
  intro vs
  induction vs with
  | nil =>
    intro l ys _ hl hp
    cases l with
    | cons _ _ => simp at hl
    | nil => cases hp; exact .nil
  | cons v vs ih =>
    intro l ys hP hl hp
    cases l with
    | nil => simp at hl
    | cons c l =>
      cases hp with
      | cons hh hr =>
        obtain ⟨c', u, t, h1, h2⟩ := hh
        obtain ⟨c2, u2, e1, e2⟩ := hP 0 v (by simp)
        have e1' : c = c2 := by simpa using e1
        rw [h1] at e2
        injection e2 with e3
        injection e3 with e4
        simp at e4
        have : c' = c := e4.trans e1'.symm
        subst this
        subst h2
        exact .cons _ _ (ih l _ (fun j v h => hP (j + 1) v (by simpa using h)) (by simpa using hl) hr)

theorem flat_int {v : Value} {n : Int} (h : PyProof.V.Flat v (.int n)) : ∃ t, v = .int n t := by
  cases h default with
  | int => exact ⟨_, rfl⟩
noncomputable def longOf (x : Str) : Int := 2 + (if (Builtin.Str.occurrences x (Str.ofString "'") 0 x.length 1).isEmpty = true then 0 else Txt.count x (Str.ofString "\"") * 5) + (x.cps.toList.map wid).sum
theorem long_spec {w : World} {p : Program} {loose : List Str} {mean : ExcName → Option Value} {mg mb : Str → Option Value} {base : Heap} {outer : List Env} {s : Shared} {g : Option (List Code)} {x : Str} {tk : Tok}
    (hx : x.length ≤ 3)
    (C : Cx w p loose mean mg mb base { handled := none, depth := 500, frames := some outer, guards := g, units := 400 } outer s.heap) :
    codeAny (model Pr w) { handled := none, depth := 500, frames := some outer, guards := g, units := 400 } (.call (.ref 67) ⟨[.str x tk], []⟩)
      (Gave s fun v => ∃ t', v = .int (longOf x) t') s := by
  obtain ⟨X, T, B⟩ := C
  refine enterC ⟨X, T, B⟩ (by k_is) (by k_is) (by show (500:Nat) < _; decide) (by first | exact BindsTo.of_eq rfl | exact binds_K (by assumption) rfl (by k_is) rfl rfl rfl) rfl (by decide +kernel) ?_
  intro h₁ tk₀ cells' F N Y
  k_cells Y
  k_steps
  all_goals (unfold StuckG; refine wpAny_ListComp_free (fun _ => true) SignInt rfl (by decide) rfl (by decide) rfl ?_)
  all_goals k_steps
  all_goals (
    rename Fr _ _ _ _ => F9
    rename News _ _ _ _ => N9
    refine wpAny_pyIter_str fun o9 St9 W9 hst9 => ?_
    refine ⟨_, [_], [_], _, SignAt x, St9, rfl, W9 _ rfl, Nat.le_trans hx (by decide), hst9, ?_, ⟨?_, ?_⟩, ?_⟩
    · intro b hb
      rw [List.mem_singleton.mp hb]
      exact Nat.lt_of_lt_of_eq (Nat.lt_succ_self _) (Heap.size_push _ _).symm
    · intro C i v s₃ m₃ E' hC hP hn hm hk htk
      exact wpAny_tests_nil ⟨rfl, _, _, rfl, fun _ _ e => e⟩
    · rintro C i v s₃ m₃ E' hC ⟨c, u, hc, rfl⟩ _ hn hm hk htk
      have up : ∀ b o, _ → s₃.heap.get? b = some o := fun b o e => hk b o (fun hb => Nat.ne_of_lt (Heap.lt_size e) (List.mem_singleton.mp hb)) (Heap.get?_push_of_some _ e)
      have F3 := F9.kept up
      have N3 := N9.grown up
      obtain ⟨oC, heC, hoC⟩ := LCg.ns_obj hn
      clear F9 N9
      refine wpAny_mono (Q := EltPost SignInt _ s₃) ?_ (fun _ _ h => h) (fun _ _ h => h)
      k_steps
      (rename PyProof.V.Flat _ _ => hfl)
      have hfl2 := hfl
      rw [show Spec.lookup _ (strData _) = Spec.lookup (.str ⟨#[c]⟩) [(.str (Str.ofString "&"), .int 5), (.str (Str.ofString "<"), .int 4), (.str (Str.ofString ">"), .int 4), (.str (Str.ofString "\n"), .int 5), (.str (Str.ofString "\t"), .int 4)] from rfl, wid_look] at hfl2
      obtain ⟨t9, rfl⟩ := flat_int hfl2
      exact ⟨⟨c, u, t9, rfl, rfl⟩, _, _, rfl, fun _ _ e => e⟩
    · intro D h' tk' ys vs hD hl hpl hlen hP hF hk
      have hI : IntsAre ys.toList (x.cps.toList.map wid) := by
        refine signInts vs x.cps.toList ys.toList (fun j v h => ?_) (by simpa using hlen) ?_
        · obtain ⟨c, u, e1, e2⟩ := hP j v h
          exact ⟨c, u, by simpa using e1, e2⟩
        · have e : vs.filter (fun _ => true) = vs := List.filter_eq_self.mpr fun _ _ => rfl
          rw [e] at hF; exact hF
      have up : ∀ b o, _ → h'.get? b = some o := fun b o e => hk b o (fun hb => Nat.ne_of_lt (Heap.lt_size e) (List.mem_singleton.mp hb)) (Heap.get?_push_of_some _ e)
      have F3 := F9.kept up
      have N3 := N9.grown up
      clear F9 N9
      clear hk
      k_steps
      refine Gave.intro (P := fun v => ∃ t', v = .int _ t') ?_ ?_
      · refine ⟨_, congrArg (fun n => Value.int n _) ?_⟩
        (rename (Builtin.Str.occurrences _ _ _ _ _).isEmpty = _ => hq)
        unfold longOf
        first | rw [if_pos hq] | rw [if_neg (by rw [hq]; decide)]
      · (rename Fr _ _ _ _ => F7); exact F7.keep)
theorem long_at {w : World} {p : Program} {loose : List Str} {mean : ExcName → Option Value} {mg mb : Str → Option Value} {base : Heap} {A : Around} {outer : List Env} {s : Shared} {x : Str} {tk : Tok}
    (hx : x.length ≤ 3) (e1 : A.handled = none) (e2 : A.depth ≤ 500) (e5 : A.units ≤ 400) (e3 : A.frames = some outer)
    (C : Cx w p loose mean mg mb base A outer s.heap) :
    codeAny (model Pr w) A (.call (.ref 67) ⟨[.str x tk], []⟩) (Gave s fun v => ∃ t', v = .int (longOf x) t') s :=
  codeAny_weaken (long_spec (w := w) (g := A.guards) hx ⟨C.X, C.T, ⟨rfl, C.B.stays, C.B.frames⟩⟩) e1.symm e2 e3.symm rfl e5
end Mine
end
section
open PySem PySem.W PyProof.Rows PySem.Calls
set_option maxRecDepth 100000
set_option maxHeartbeats 8000000
namespace Mine
variable {prog : Program} {w : World} {A : Around} {E : Value → Shared → Prop} {h : Heap} {g : Array GenState} {d : Drawn} {t : Nat} {os : OsState}

noncomputable def ents (i0 i1 i2 i3 i4 i5 i6 i7 i8 i9 i10 i11 : Int) (u0 u1 u2 u3 u4 u5 u6 u7 u8 u9 u10 u11 : Tok) (v0 v1 v2 v3 v4 v5 v6 v7 v8 v9 v10 v11 : Value) : Array DictEntry :=
  #[⟨i0, .str "__module__" u0, v0⟩, ⟨i1, .str "__qualname__" u1, v1⟩, ⟨i2, .str "__firstlineno__" u2, v2⟩, ⟨i3, .str "__slots__" u3, v3⟩,
    ⟨i4, .str "__init__" u4, v4⟩, ⟨i5, .str "__lt__" u5, v5⟩, ⟨i6, .str "__gt__" u6, v6⟩, ⟨i7, .str "__eq__" u7, v7⟩, ⟨i8, .str "__le__" u8, v8⟩, ⟨i9, .str "__ge__" u9, v9⟩,
    ⟨i10, .str "__hash__" u10, v10⟩, ⟨i11, .str "__static_attributes__" u11, v11⟩]
theorem wpS {M : Model} {A : Around} {α : Type} {t : Sem α} {v : α} {Q : α → Shared → Prop} {E : Value → Shared → Prop} {s : Shared} (e : t = pure v) (hq : Q v s) : wpAny M A t Q E s := wpAny_of_eq e hq
theorem sub_dict_dict : isSubtype (.type "dict") (.type "dict") = pure true := by rw [isSubtype_type]; kernel_rfl
theorem sub_type_type : isSubtype (.type "type") (.type "type") = pure true := by rw [isSubtype_type]; kernel_rfl
theorem sub_tuple_tuple' : isSubtype (.type "tuple") (.type "tuple") = pure true := by rw [isSubtype_type]; kernel_rfl
theorem typeOf_object : typeOf (.type "object") = pure (.type "type") := by kernel_rfl
theorem sub_object_object : isSubtype (.type "object") (.type "object") = pure true := by rw [isSubtype_type]; kernel_rfl
theorem look_dict_iter : typeLookup (.type "dict") "__iter__" = pure (some (.builtin "dict.__iter__")) := by rw [typeLookup_type, builtinLookup_eq_fast]; kernel_rfl
theorem look_type_new : typeLookup (.type "type") "__new__" = pure (some (.builtin "type.__new__")) := by rw [typeLookup_type, builtinLookup_eq_fast]; kernel_rfl
theorem turned_object : Builtin.notOverATurnedClass [.type "object"] = pure () := by unfold Builtin.notOverATurnedClass; simp only [List.forIn_cons, mroOf_type]; kernel_rfl
theorem ext_object : Builtin.extendedBase [.type "object"] = pure (.type "object") := by kernel_rfl
theorem wp_turned {M : Model} {A : Around} {bs : List Value} {Q : Unit → Shared → Prop} {E : Value → Shared → Prop} {s : Shared} (e : bs = [.type "object"]) (hq : Q () s) : wpAny M A (Builtin.notOverATurnedClass bs) Q E s := by subst e; exact wpAny_of_eq turned_object hq
theorem wp_ext {M : Model} {A : Around} {bs : List Value} {Q : Value → Shared → Prop} {E : Value → Shared → Prop} {s : Shared} (e : bs = [.type "object"]) (hq : Q (.type "object") s) : wpAny M A (Builtin.extendedBase bs) Q E s := by subst e; exact wpAny_of_eq ext_object hq
theorem best_object : Builtin.Slots.bestBase [.type "object"] = pure (.type "object") := by kernel_rfl
theorem names_object : Builtin.Slots.slotNamesOf (.type "object") = pure [] := by kernel_rfl
theorem dict_object : Builtin.Slots.givesDict (.type "object") = pure false := by kernel_rfl
theorem weak_object : Builtin.Slots.givesWeak (.type "object") = pure false := by kernel_rfl
theorem var_object : Builtin.Slots.varSize (.type "object") = pure false := by kernel_rfl
local macro_rules | `(tactic| wp_step) => `(tactic| first | with_reducible (first | refine wpS sub_dict_dict ?_ | refine wpS sub_type_type ?_ | refine wpS sub_tuple_tuple' ?_ | refine wpS typeOf_object ?_ | refine wpS sub_object_object ?_ | refine wpS look_dict_iter ?_ | refine wpS best_object ?_ | refine wpS names_object ?_ | refine wpS dict_object ?_ | refine wpS weak_object ?_ | refine wpS var_object ?_) | ((with_reducible refine wp_turned ?he ?hq); (case he => rfl)) | ((with_reducible refine wp_ext ?he ?hq); (case he => rfl)))

theorem wp_collect {Q : List Value → Shared → Prop} {v : Value} {it : Addr} {xs : Array Value} {n : Nat} (e : v = .ref it)
    (ho : h.get? it = some ⟨.type "list", none, .seq xs n, #[]⟩) (hsz : xs.size ≤ sizeLine)
    (hQ : ∀ h', (∀ b o', h.get? b = some o' → h'.get? b = some o') → Q xs.toList ⟨h', g, d, t, os⟩) : wpAny (model prog w) A (collect v) Q E ⟨h, g, d, t, os⟩ := by
  subst e
  exact wpAny_collect_seq (s := ⟨h, g, d, t, os⟩) it (.inl rfl) ho rfl rfl hQ hsz
local macro_rules | `(tactic| wp_step) => `(tactic| ((with_reducible refine' wp_collect ?wc1 ?wc2 ?wc3 ?wc4); (case wc1 => rfl); (case wc2 => assumption); (case wc3 => exact Nat.le_of_ble_eq_true rfl); (intro h' up)))

theorem ident_obj : Builtin.Slots.isIdentifier (Str.ofString "obj") = some true := by decide +kernel
theorem mangle_obj : Builtin.Slots.mangle (Str.ofString "K") (Str.ofString "obj") = Str.ofString "obj" := by decide +kernel
theorem wp_read {Q : Builtin.Slots.Plan → Shared → Prop} {sl : Addr} {i0 i1 i2 i3 i4 i5 i6 i7 i8 i9 i10 i11 : Int} {u0 u1 u2 u3 u4 u5 u6 u7 u8 u9 u10 u11 : Tok} {v0 v1 v2 v4 v5 v6 v7 v8 v9 v10 v11 : Value} {st : Tok} {nl : Nat}
    (hsl : h.get? sl = some ⟨.type "list", none, .seq #[.str "obj" st] nl, #[]⟩)
    (hq : ∀ h', (∀ b o', h.get? b = some o' → h'.get? b = some o') → Q { names := ["obj"], dict := false, weak := false, inherited := [] } ⟨h', g, d, t, os⟩) :
    wpAny (model prog w) A (Builtin.Slots.read "K" [.type "object"] (ents i0 i1 i2 i3 i4 i5 i6 i7 i8 i9 i10 i11 u0 u1 u2 u3 u4 u5 u6 u7 u8 u9 u10 u11 v0 v1 v2 (.ref sl) v4 v5 v6 v7 v8 v9 v10 v11)) Q E ⟨h, g, d, t, os⟩ := by
  unfold Builtin.Slots.read
  repeat (first | wp_step | rw [ident_obj] | rw [mangle_obj] | ((with_reducible apply wpAny_ite_false); focus (kernel_rfl; done)) | ((with_reducible apply wpAny_ite_true); focus (kernel_rfl; done)))
  exact Eq.mpr (congrArg (fun p => Q p _) (show _ = ({ names := ["obj"], dict := false, weak := false, inherited := [] } : Builtin.Slots.Plan) by kernel_rfl)) (hq _ (by assumption))
end Mine
end
section
open PySem PySem.W PyProof.Rows PySem.Calls
set_option maxRecDepth 100000
set_option maxHeartbeats 1000000
namespace Mine
variable {prog : Program} {w : World} {A : Around} {E : Value → Shared → Prop} {h : Heap} {g : Array GenState} {d : Drawn} {t : Nat} {os : OsState}

theorem wp_subK {M : Model} {C : Addr} {oC : Obj} {cd : ClassData} {Q : Bool → Shared → Prop} (hC : h.get? C = some oC) (hd : oC.data = .cls cd) (hm : cd.mro = [.ref C, .type "object"]) (hq : Q true ⟨h, g, d, t, os⟩) :
    wpAny M A (isSubtype (.ref C) (.ref C)) Q E ⟨h, g, d, t, os⟩ := by
  unfold isSubtype mroOf classData
  refine wpAny_bind (wpAny_bind (wpAny_bind (wpAny_load' hC ?_)))
  rw [hd]
  refine wpAny_pure (wpAny_pure ?_)
  rw [hm]
  have e : ([Value.ref C, .type "object"] : List Value).contains (.ref C) = true := by simp
  show wpAny M A (if false = true then _ else pure _) _ _ _
  refine wpAny_ite_false rfl ?_
  rw [e]
  exact wpAny_pure hq

theorem K_super {C : Addr} {oC : Obj} {cd : ClassData} {Q : Value → Shared → Prop} (hC : h.get? C = some oC) (hd : oC.data = .cls cd) (hm : cd.mro = [.ref C, .type "object"])
    (hq : ∀ h', h'.get? h.objs.size = some { cls := .type "super", dict := none, data := .fields #[.ref C, .ref C, .ref C], slots := #[] } → (∀ y o, h.get? y = some o → h'.get? y = some o) → Q (.ref h.objs.size) ⟨h', g, d, t, os⟩) :
    wpAny (model prog w) A (call (.type "super") [.ref C, .ref C]) Q E ⟨h, g, d, t, os⟩ := by
  refine ks_callType_codesW (Q₁ := fun obj s₁ => obj = .ref h.objs.size ∧ s₁ = ⟨h.push { cls := .type "super", data := .fields #[.none, .none, .none] }, g, d, t, os⟩) F.ks_called_super (ks_wpAny_checkTypeCall_super hC hd) F.ks_entry_super_init
    (ks_code_super_new _ _ ⟨rfl, rfl⟩) fun obj s₁ h₁ => ?_
  obtain ⟨rfl, rfl⟩ := h₁
  have up : ∀ y o, h.get? y = some o → (h.push { cls := .type "super", data := .fields #[.none, .none, .none] }).get? y = some o := fun y o e => Heap.get?_push_of_some _ e
  have hso : (h.push { cls := .type "super", data := .fields #[.none, .none, .none] }).get? h.objs.size = some { cls := .type "super", dict := none, data := .fields #[.none, .none, .none], slots := #[] } := Heap.get?_push_at rfl rfl
  have hC' := up _ _ hC
  refine ⟨⟨_, hso, rfl⟩, F.ks_initArgs_super _ _ _, ?_⟩
  unfold Builtin.«super.__init__» noKeywords
  repeat (first | (with_reducible refine ks_wpAny_isType_cls hC' hd ?_) | (with_reducible refine wp_subK hC' hd hm ?_) | (with_reducible refine ks_wpAny_super_set3 hso ?_) | wp_step)
  all_goals first
    | (intro h' e k; exact ⟨rfl, hq h' e fun y o ey => k y o (Nat.ne_of_lt (Heap.lt_size ey)) (up y o ey)⟩)
    | (refine ks_wpAny_super_set3 hso ?_; intro h' e k; exact ⟨rfl, hq h' e fun y o ey => k y o (Nat.ne_of_lt (Heap.lt_size ey)) (up y o ey)⟩)
end Mine
end
section
open PySem PySem.W PyProof.Rows PySem.Calls
set_option maxRecDepth 100000
set_option maxHeartbeats 1000000
namespace Mine
variable {prog : Program} {w : World} {A : Around} {E : Value → Shared → Prop} {h : Heap} {g : Array GenState} {d : Drawn} {t : Nat} {os : OsState}
theorem own_is : builtinOwn "object" "__init_subclass__" = some (.builtin "object.__init_subclass__") := by kernel_rfl
theorem typ_is : typeOf (.builtin "object.__init_subclass__") = pure (.type "classmethod_descriptor") := by kernel_rfl
theorem get_is : typeLookup (.type "classmethod_descriptor") "__get__" = pure (some (.builtin "classmethod_descriptor.__get__")) := by rw [typeLookup_type, builtinLookup_eq_fast]; kernel_rfl
theorem slot_cm_get : Slot "classmethod_descriptor" "__get__" "classmethod_descriptor.__get__" := .of (owner := "classmethod_descriptor") (n := "__get__") get_is (by decide +kernel) (by decide +kernel) (by decide +kernel)
  (by first | exact .inl (by decide +kernel) | exact .inr (by decide +kernel)) (by rw [isSubtype_type]; kernel_rfl)
theorem entry_cm_get : entryFor table "classmethod_descriptor.__get__" = some Builtin.«classmethod_descriptor.__get__» := entryFor_of_tree (by kernel_rfl)
theorem args_cm_get (a b c : Value) : argsOk "classmethod_descriptor.__get__" ⟨[a, b, c], []⟩ := by unfold argsOk; kernel_rfl
theorem drop_self (C : Addr) : (([Value.ref C, .type "object"] : List Value).dropWhile (· != .ref C)).drop 1 = [.type "object"] := by simp

theorem looks_mroK {M : Model} {C : Addr} {oC : Obj} {cd : ClassData} (hC : h.get? C = some oC) (hd : oC.data = .cls cd) (hm : cd.mro = [.ref C, .type "object"]) : ∀ {Q : List Value → Shared → Prop}, Q [.ref C, .type "object"] ⟨h, g, d, t, os⟩ → wpAny M A (mroOf (.ref C)) Q E ⟨h, g, d, t, os⟩ := by
  intro Q hq
  unfold mroOf classData
  refine wpAny_bind (wpAny_bind (wpAny_load' hC ?_))
  rw [hd]
  refine wpAny_pure (wpAny_pure ?_)
  rw [hm]
  exact hq

theorem wp_subKo {M : Model} {C : Addr} {oC : Obj} {cd : ClassData} {T : String} {Q : Bool → Shared → Prop} (hC : h.get? C = some oC) (hd : oC.data = .cls cd) (hm : cd.mro = [.ref C, .type "object"]) (hT : T = "object") (hq : Q true ⟨h, g, d, t, os⟩) :
    wpAny M A (isSubtype (.ref C) (.type T)) Q E ⟨h, g, d, t, os⟩ := by
  subst hT
  unfold isSubtype
  refine wpAny_bind (looks_mroK hC hd hm ?_)
  have e : ([Value.ref C, .type "object"] : List Value).contains (.type "object") = true := by simp
  refine wpAny_ite_false rfl ?_
  rw [e]
  exact wpAny_pure hq

theorem super_ga {so C : Addr} {oC : Obj} {cd : ClassData} {tk : Tok} {Q : PySem.Fin → Shared → Prop}
    (hso : h.get? so = some { cls := .type "super", dict := none, data := .fields #[.ref C, .ref C, .ref C], slots := #[] }) (hno : Looks (model prog w) h (opaqueClassAbove (.ref C)) none)
    (hC : h.get? C = some oC) (hd : oC.data = .cls cd) (hm : cd.mro = [.ref C, .type "object"])
    (hq : Q (.done (.ret (.ref h.objs.size))) ⟨h.push { cls := .type "builtin_function_or_method", data := .fields #[.builtin "object.__init_subclass__", .ref C] }, g, d, t, os⟩) :
    wpAny (model prog w) A (Builtin.«super.__getattribute__» ⟨[.ref so, .str "__init_subclass__" tk], []⟩) Q E ⟨h, g, d, t, os⟩ := by
  have hlk := get_is
  have hTf : (⟨h, g, d, t, os⟩ : Shared).TypeIs (.builtin "object.__init_subclass__") "classmethod_descriptor" := typ_is
  have hdt : ({ cls := .type "super", dict := none, data := .fields #[.ref C, .ref C, .ref C], slots := #[] } : Obj).data = .fields #[.ref C, .ref C, .ref C] := rfl
  have f0 : (#[.ref C, .ref C, .ref C] : Array Value)[0]? = some (.ref C) := rfl
  have f1 : (#[.ref C, .ref C, .ref C] : Array Value)[1]? = some (.ref C) := rfl
  have f2 : (#[.ref C, .ref C, .ref C] : Array Value)[2]? = some (.ref C) := rfl
  have hn : ((Str.ofString "__init_subclass__") == (Str.ofString "__class__")) = false := by decide +kernel
  unfold Builtin.«super.__getattribute__»
  repeat (first
    | (with_reducible refine wpAny_field hso hdt f0 ?_) | (with_reducible refine wpAny_field hso hdt f1 ?_) | (with_reducible refine wpAny_field hso hdt f2 ?_)
    | (with_reducible refine ks_wpAny_notOpaque hno ?_)
    | (with_reducible refine looks_mroK hC hd hm ?_; rw [drop_self])
    | (with_reducible refine wpAny_of_eq typ_is ?_)
    | (with_reducible refine wpAny_of_eq get_is ?_)
    | (with_reducible refine wp_subKo hC hd hm (by kernel_rfl) ?_)
    | (rw [own_is])
    | (rw [List.forIn_cons])
    | (with_reducible refine wpAny_call_entry slot_cm_get hTf entry_cm_get ?_ (args_cm_get _ _ _))
    | (simp only [hn, Bool.or_false, Bool.false_eq_true, if_false])
    | wp_step)
  all_goals (refine ⟨_, rfl, ?_⟩; repeat wp_step)
  all_goals exact hq
end Mine
end
section
open PySem PySem.W PyProof.Rows PySem.Calls PySem.W.X PySem.W.XRun
set_option maxRecDepth 100000
set_option maxHeartbeats 1000000
namespace Mine
variable {prog : Program} {w : World} {A : Around} {E : Value → Shared → Prop} {h : Heap} {g : Array GenState} {d : Drawn} {t : Nat} {os : OsState}
theorem entry_is : entryFor table "object.__init_subclass__" = some Builtin.«object.__init_subclass__» := entryFor_of_tree (by kernel_rfl)
theorem plain_is : plainId "object.__init_subclass__" = true := by decide +kernel

theorem K_getIS {so C : Addr} {oC : Obj} {cd : ClassData} {Q : Value → Shared → Prop}
    (hso : h.get? so = some { cls := .type "super", dict := none, data := .fields #[.ref C, .ref C, .ref C], slots := #[] }) (hno : Looks (model prog w) h (opaqueClassAbove (.ref C)) none)
    (hC : h.get? C = some oC) (hd : oC.data = .cls cd) (hm : cd.mro = [.ref C, .type "object"])
    (hq : Q (.ref h.objs.size) ⟨h.push { cls := .type "builtin_function_or_method", data := .fields #[.builtin "object.__init_subclass__", .ref C] }, g, d, t + 1, os⟩) :
    wpAny (model prog w) A (getAttr (.ref so) "__init_subclass__") Q E ⟨h, g, d, t, os⟩ := by
  have hlk := F.ks_slot_super_ga.lookup
  have hT : ∀ t', (⟨h, g, d, t', os⟩ : Shared).TypeIs (.ref so) "super" := fun _ => ⟨_, hso, rfl⟩
  unfold getAttr getAttrBy
  refine wpAny_bind (wpAny_mkText (wpAny_holding (wpAny_bind (wpAny_typeOf (hT _) (wpAny_bind (wpAny_of_eq hlk ?_))))))
  show wpAny _ _ (getAttrByItsOwn (.ref so) (.str "__init_subclass__" t) (.type "super") (.builtin "super.__getattribute__") true false) _ _ _
  unfold getAttrByItsOwn hookBefore callGetattribute boundAndCalled
  refine wpAny_bind (wpAny_of_eq (show (if onTheHeap (.type "super") then typeLookup (.type "super") "__getattr__" else pure none) = pure none from rfl) ?_)
  refine wpAny_bind (wpAny_attempt (wpAny_holding ?_))
  show wpAny _ _ (bindSpecial (.builtin "super.__getattribute__") (.ref so) >>= _) _ _ _
  refine wpAny_bind (wpAny_of_eq (F.ks_slot_super_ga.bind _) ?_)
  refine wpAny_mono (Q := fun v s' => v = .ref h.objs.size ∧ s' = ⟨h.push { cls := .type "builtin_function_or_method", data := .fields #[.builtin "object.__init_subclass__", .ref C] }, g, d, t + 1, os⟩) (E := fun _ _ => False)
    (wpAny_call_entry F.ks_slot_super_ga (hT _) F.ks_entry_super_ga (super_ga hso hno hC hd hm ⟨_, rfl, rfl, rfl⟩) (F.ks_gaArgs_super _ _)) (fun v s' hv => ?_) fun _ _ z => z.elim
  obtain ⟨rfl, rfl⟩ := hv
  exact wpAny_pure hq

local macro_rules | `(tactic| x_close) => `(tactic| assumption)
theorem K_callIS {b C N : Addr} {sl : Array (Option Value)} {Q : Value → Shared → Prop}
    (hb : h.get? b = some { cls := .type "builtin_function_or_method", dict := none, data := .fields #[.builtin "object.__init_subclass__", .ref C], slots := #[] })
    (hC : h.get? C = some { cls := .type "type", dict := none, data := .cls { name := "K", bases := [.type "object"], mro := [.ref C, .type "object"], ns := N, qualname := "cmp_to_key.<locals>.K", hasDict := false, slotNames := ["obj"] }, slots := sl })
    (hq : Q .none ⟨h, g, d, t, os⟩) : wpAny (model prog w) A (call (.ref b) [] []) Q E ⟨h, g, d, t, os⟩ := by
  x_run
end Mine
end
section
open PySem PySem.W PyProof.Rows PySem.Calls
set_option maxRecDepth 100000
set_option maxHeartbeats 1000000
namespace Mine
variable {prog : Program} {w : World} {A : Around} {E : Value → Shared → Prop} {h : Heap} {g : Array GenState} {d : Drawn} {t : Nat} {os : OsState}
theorem tnew_end {C N : Addr} {sl : Array (Option Value)} {Q : Unit → Shared → Prop}
    (hno : ∀ h', (∀ y o, h.get? y = some o → h'.get? y = some o) → Looks (model prog w) h' (opaqueClassAbove (.ref C)) none)
    (hC : h.get? C = some { cls := .type "type", dict := none, data := .cls { name := "K", bases := [.type "object"], mro := [.ref C, .type "object"], ns := N, qualname := "cmp_to_key.<locals>.K", hasDict := false, slotNames := ["obj"] }, slots := sl })
    (hq : ∀ h' tk, (∀ y o, h.get? y = some o → h'.get? y = some o) → Q () ⟨h', g, d, tk, os⟩) :
    wpAny (model prog w) A (do
      let sup ← call (Value.type "super") [Value.ref C, Value.ref C]
      let f ← holding [sup] (getAttr sup (Str.ofString "__init_subclass__"))
      let _ ← call f [] []
      pure ()) Q E ⟨h, g, d, t, os⟩ := by
  refine wpAny_bind (K_super hC rfl rfl fun h' hs up => ?_)
  refine wpAny_bind (wpAny_holding (K_getIS hs (hno h' up) (up _ _ hC) rfl rfl ?_))
  refine wpAny_bind ?_
  have up2 : ∀ y o, h'.get? y = some o → (h'.push { cls := .type "builtin_function_or_method", data := .fields #[.builtin "object.__init_subclass__", .ref C] }).get? y = some o := fun y o e => Heap.get?_push_of_some _ e
  refine K_callIS (Heap.get?_push_at rfl rfl) (up2 _ _ (up _ _ hC)) ?_
  exact wpAny_pure (hq _ _ fun y o e => up2 _ _ (up _ _ e))
end Mine
end
section
open PySem PySem.W PyProof.Rows PySem.Calls
set_option maxRecDepth 100000
set_option maxHeartbeats 2000000
namespace Mine
variable {prog : Program} {w : World} {A : Around} {E : Value → Shared → Prop} {h : Heap} {g : Array GenState} {d : Drawn} {t : Nat} {os : OsState}
theorem look_type_mro : typeLookup (.type "type") "mro" = pure (some (.builtin "type.mro")) := by rw [typeLookup_type, builtinLookup_eq_fast]; kernel_rfl
theorem lin_object : Builtin.linearize [.type "object"] mroOf = pure [.type "object"] := by kernel_rfl
theorem made_object : Bind.madeBy (.type "object") = pure (some "object.__new__") := by kernel_rfl
theorem wp_lin {M : Model} {A : Around} {bs : List Value} {Q : List Value → Shared → Prop} {E : Value → Shared → Prop} {s : Shared} (e : bs = [.type "object"]) (hq : Q [.type "object"] s) : wpAny M A (Builtin.linearize bs mroOf) Q E s := by subst e; exact wpAny_of_eq lin_object hq
theorem sn_str : typeLookup (.type "str") "__set_name__" = pure none := by rw [typeLookup_type, builtinLookup_eq_fast]; kernel_rfl
theorem sn_int : typeLookup (.type "int") "__set_name__" = pure none := by rw [typeLookup_type, builtinLookup_eq_fast]; kernel_rfl
theorem sn_list : typeLookup (.type "list") "__set_name__" = pure none := by rw [typeLookup_type, builtinLookup_eq_fast]; kernel_rfl
theorem sn_function : typeLookup (.type "function") "__set_name__" = pure none := by rw [typeLookup_type, builtinLookup_eq_fast]; kernel_rfl
theorem sn_NoneType : typeLookup (.type "NoneType") "__set_name__" = pure none := by rw [typeLookup_type, builtinLookup_eq_fast]; kernel_rfl
theorem sn_tuple : typeLookup (.type "tuple") "__set_name__" = pure none := by rw [typeLookup_type, builtinLookup_eq_fast]; kernel_rfl
theorem sn_member_descriptor : typeLookup (.type "member_descriptor") "__set_name__" = pure none := by rw [typeLookup_type, builtinLookup_eq_fast]; kernel_rfl
local macro_rules | `(tactic| wp_step) => `(tactic| with_reducible (first | refine wpS sn_str ?_ | refine wpS sn_int ?_ | refine wpS sn_list ?_ | refine wpS sn_function ?_ | refine wpS sn_NoneType ?_ | refine wpS sn_tuple ?_ | refine wpS sn_member_descriptor ?_))
local macro_rules | `(tactic| wp_step) => `(tactic| first | with_reducible (first | refine wpS sub_dict_dict ?_ | refine wpS sub_type_type ?_ | refine wpS sub_tuple_tuple' ?_ | refine wpS typeOf_object ?_ | refine wpS sub_object_object ?_ | refine wpS look_dict_iter ?_ | refine wpS best_object ?_ | refine wpS names_object ?_ | refine wpS dict_object ?_ | refine wpS weak_object ?_ | refine wpS var_object ?_ | refine wpS look_type_mro ?_ | refine wpS made_object ?_) | ((with_reducible refine wp_lin ?he ?hq); (case he => rfl)) | ((with_reducible refine wp_turned ?he ?hq); (case he => rfl)) | ((with_reducible refine wp_ext ?he ?hq); (case he => rfl)))
noncomputable def Stuck (P : Prop) : Prop := P
theorem stopRead {M : Model} {v : Str} {l : List Value} {e : Array DictEntry} {Q : Builtin.Slots.Plan → Shared → Prop} {s : Shared} (h : Stuck (wpAny M A (Builtin.Slots.read v l e) Q E s)) : wpAny M A (Builtin.Slots.read v l e) Q E s := h

open PySem.W.X in
theorem mem_up {h₀ h : Heap} {chg news : List (Addr × Obj)} (D : Mem h₀ h chg news) {i : Nat} {a : Addr} {o o' : Obj} {f : Obj → Obj} (hi : news[i]? = some (a, o)) (e : f o = o') (hf : o'.isFreed = false) : Mem h₀ (h.update a f) chg (news.set i (a, o')) := e ▸ D.update hi (e ▸ hf)
open PySem.W.X in
theorem go3 {h₀ hh : Heap} {news : List (Addr × Obj)} {α : Type} {T : Sem α} {Q : α → Shared → Prop} {a : Addr} {o o' : Obj} {f1 f2 f3 : Obj → Obj} (D : Mem h₀ hh [] ((a, o) :: news)) (e : f3 (f2 (f1 o)) = o') (hf1 : (f1 o).isFreed = false) (hf2 : (f2 (f1 o)).isFreed = false) (hf : o'.isFreed = false)
    (k : ∀ h2, Mem h₀ h2 [] ((a, o') :: news) → wpAny (model prog w) A T Q E ⟨h2, g, d, t, os⟩) : wpAny (model prog w) A T Q E ⟨((hh.update a f1).update a f2).update a f3, g, d, t, os⟩ := by
  refine k _ ?_
  have D1 := mem_up D (i := 0) (o' := f1 o) (f := f1) rfl rfl hf1
  have D2 := mem_up D1 (i := 0) (o' := f2 (f1 o)) (f := f2) rfl rfl hf2
  exact mem_up D2 (i := 0) (o' := o') (f := f3) rfl e hf
open PySem.W.X in
theorem gen_up {h₀ hh : Heap} {news : List (Addr × Obj)} {α : Type} {T : Sem α} {Q : α → Shared → Prop} {a : Addr} {o o' : Obj} {f : Obj → Obj} (D : Mem h₀ hh [] news) (i : Nat) (hi : news[i]? = some (a, o)) (e : f o = o') (hf : o'.isFreed = false)
    (k : ∀ h2, Mem h₀ h2 [] (news.set i (a, o')) → wpAny (model prog w) A T Q E ⟨h2, g, d, t, os⟩) : wpAny (model prog w) A T Q E ⟨hh.update a f, g, d, t, os⟩ := k _ (mem_up D hi e hf)
theorem filt_self (C : Addr) : List.filter (fun x => x != Value.ref C) [Value.ref C, Value.type "object"] = [Value.type "object"] := by simp
open PySem.W.X in
theorem m_updateCls {h₀ : Heap} {news : List (Addr × Obj)} {Q : Unit → Shared → Prop} {a : Addr} {c : Value} {dd : Option Addr} {cd cd' : ClassData} {sl : Array (Option Value)} {f : ClassData → ClassData} (D : Mem h₀ h [] news) (i : Nat) (hi : news[i]? = some (a, ⟨c, dd, .cls cd, sl⟩)) (e : f cd = cd')
    (hp : (Data.cls cd').pastItsLine = none) (hf : Obj.isFreed ⟨c, dd, .cls cd', sl⟩ = false)
    (k : ∀ h2, Mem h₀ h2 [] (news.set i (a, ⟨c, dd, .cls cd', sl⟩)) → Q () ⟨h2, g, d, t, os⟩) : wpAny (model prog w) A (updateCls a f) Q E ⟨h, g, d, t, os⟩ := by
  subst e
  have hC := D.at i _ _ hi
  unfold updateCls
  repeat wp_step
  rw [show (Obj.mapCls f { cls := c, dict := dd, data := Data.cls cd, slots := sl }).data.pastItsLine = none from hp]
  exact wpAny_pure (k _ (mem_up D hi rfl hf))
open PySem.W.X in
theorem m_setSlot {h₀ : Heap} {news : List (Addr × Obj)} {Q : Unit → Shared → Prop} {a : Addr} {c : Value} {dd : Option Addr} {dt : Data} {sl sl' : Array (Option Value)} {j : Nat} {v : Option Value} (D : Mem h₀ h [] news) (i : Nat) (hi : news[i]? = some (a, ⟨c, dd, dt, sl⟩)) (e : (sl ++ Array.replicate (j + 1 - sl.size) none).setIfInBounds j v = sl') (hj : (decide (j ≥ sizeLine)) = false) (hf : Obj.isFreed ⟨c, dd, dt, sl'⟩ = false)
    (k : ∀ h2, Mem h₀ h2 [] (news.set i (a, ⟨c, dd, dt, sl'⟩)) → Q () ⟨h2, g, d, t, os⟩) : wpAny (model prog w) A (setSlotAt a j v) Q E ⟨h, g, d, t, os⟩ := by
  subst e
  have hC := D.at i _ _ hi
  unfold setSlotAt
  have hj' := of_decide_eq_false hj
  repeat wp_step
  exact k _ (mem_up D hi rfl hf)
theorem wp_lookK {M : Model} {C N : Addr} {c : Value} {dd : Option Addr} {cd : ClassData} {sl : Array (Option Value)} {oN : Obj} {name : Str} {r : Option Value} {Q : Option Value → Shared → Prop} (hC : h.get? C = some ⟨c, dd, .cls cd, sl⟩) (hN : h.get? N = some oN)
    (hm : cd.mro = [.ref C, .type "object"]) (hn : cd.ns = N) (hv : nsLook name oN = pure none) (hob : builtinOwn "object" name = r) (hq : Q r ⟨h, g, d, t, os⟩) : wpAny M A (typeLookup (.ref C) name) Q E ⟨h, g, d, t, os⟩ := by
  subst hob hn
  unfold typeLookup mroOf classData
  refine wpAny_bind (wpAny_bind (wpAny_bind (wpAny_load' hC (wpAny_pure (wpAny_pure ?_)))))
  rw [hm]
  refine wpAny_bind ?_
  rw [List.forIn_cons]
  refine wpAny_bind ?_
  unfold classOwn classData nsGet
  refine wpAny_bind (wpAny_bind (wpAny_bind (wpAny_load' hC (wpAny_pure (wpAny_bind (wpAny_loadPart' hN (wpS hv (wpAny_pure ?_))))))))
  show wpAny M A (forIn [Value.type "object"] ((none : Option (Option Value)), ()) _) _ _ _
  rw [List.forIn_cons]
  refine wpAny_bind (wpAny_bind (wpAny_pure ?_))
  cases hb : builtinOwn "object" name with
  | none =>
    rw [hb] at hq
    refine wpAny_pure ?_
    show wpAny M A (forIn [] ((none : Option (Option Value)), ()) _) _ _ _
    rw [List.forIn_nil]
    exact wpAny_pure (wpAny_pure hq)
  | some v =>
    rw [hb] at hq
    exact wpAny_pure (wpAny_pure (wpAny_pure hq))
noncomputable def ents2 (i0 i2 i3 i4 i5 i6 i7 i8 i9 i10 i11 : Int) (u0 u2 u3 u4 u5 u6 u7 u8 u9 u10 u11 : Tok) (v0 v2 v3 v4 v5 v6 v7 v8 v9 v10 v11 : Value) : Array DictEntry :=
  #[⟨i0, .str "__module__" u0, v0⟩, ⟨i2, .str "__firstlineno__" u2, v2⟩, ⟨i3, .str "__slots__" u3, v3⟩,
    ⟨i4, .str "__init__" u4, v4⟩, ⟨i5, .str "__lt__" u5, v5⟩, ⟨i6, .str "__gt__" u6, v6⟩, ⟨i7, .str "__eq__" u7, v7⟩, ⟨i8, .str "__le__" u8, v8⟩, ⟨i9, .str "__ge__" u9, v9⟩,
    ⟨i10, .str "__hash__" u10, v10⟩, ⟨i11, .str "__static_attributes__" u11, v11⟩]
theorem wp_nsDel {a : Addr} {o : Obj} {name : Str} {Q : Bool → Shared → Prop} (ho : h.get? a = some o) (hh : nsHas name o = pure true) (hq : Q true ⟨h.update a (Obj.dropName name), g, d, t, os⟩) :
    wpAny (model prog w) A (nsDel a name) Q E ⟨h, g, d, t, os⟩ := by
  unfold nsDel
  refine wpAny_bind (wpAny_loadPart' ho ?_)
  refine wpAny_bind (wpS hh ?_)
  refine wpAny_ite_true rfl ?_
  exact wpAny_bind (wpAny_updatePart' ho (wpAny_pure hq))
theorem stopDel {M : Model} {v : Str} {a : Addr} {Q : Bool → Shared → Prop} {s : Shared} (h : Stuck (wpAny M A (nsDel a v) Q E s)) : wpAny M A (nsDel a v) Q E s := h
theorem wp_hash {name : Str} {Q : Int → Shared → Prop} (hq : ∀ i, Q i ⟨h, g, d, t, os⟩) : wpAny (model prog w) A (strHash name) Q E ⟨h, g, d, t, os⟩ := by
  unfold strHash
  exact wpAny_bind (wpAny_askSetting (wpAny_pure (hq _)))
theorem wp_nsSet {N : Addr} {o : Obj} {es : Array DictEntry} {ep : Nat} {name : Str} {v : Value} {Q : Unit → Shared → Prop} (hN : h.get? N = some o) (hd : o.data = .dict es ep) (hk : aRefKeyMayBeTheName name es = false)
    (hq : ∀ i, Q () ⟨h.update N (Obj.putName name i (.str name t) v), g, d, t + 1, os⟩) : wpAny (model prog w) A (nsSet N name v) Q E ⟨h, g, d, t, os⟩ := by
  unfold nsSet
  refine wpAny_bind (wp_hash fun i => wpAny_bind (wpAny_mkText (wpAny_bind (wpAny_loadPart' hN ?_))))
  rw [hd]
  show wpAny _ _ (if aRefKeyMayBeTheName name es = true then _ else _) _ _ _
  rw [hk]
  exact wpAny_updatePart' hN (hq i)
open PySem.W.X in
theorem m_nsSet {h₀ : Heap} {news : List (Addr × Obj)} {N : Addr} {o : Obj} {o' : Int → Obj} {name : Str} {v : Value} {Q : Unit → Shared → Prop} (D : Mem h₀ h [] news) (j : Nat) (hi : news[j]? = some (N, o)) (hk : (match o.data with | .dict es _ => aRefKeyMayBeTheName name es | _ => true) = false)
    (e : ∀ i, Obj.putName name i (.str name t) v o = o' i) (hf : ∀ i, (o' i).isFreed = false)
    (hq : ∀ i h2, Mem h₀ h2 [] (news.set j (N, o' i)) → Q () ⟨h2, g, d, t + 1, os⟩) : wpAny (model prog w) A (nsSet N name v) Q E ⟨h, g, d, t, os⟩ := by
  obtain ⟨c, dd, dt, sl⟩ := o
  cases dt with
  | dict es ep => exact wp_nsSet (D.at j _ _ hi) rfl hk fun i => hq i _ (mem_up D hi (e i) (hf i))
  | _ => cases hk
open PySem.W.X in
theorem m_nsSetV {h₀ : Heap} {news : List (Addr × Obj)} {N : Addr} {o : Obj} {o' : Int → Obj} {name : Str} {v : Value} {Q : Unit → Shared → Prop} (D : Mem h₀ h [] news) (j : Nat) (hi : news[j]? = some (N, o)) (hk : (match o.data with | .dict es _ => aRefKeyMayBeTheName name es || decide (es.size > sizeLine) | _ => true) = false)
    (e : ∀ i, Obj.putName name i (.str name t) v o = o' i) (hf : ∀ i, (o' i).isFreed = false)
    (hq : ∀ i h2, Mem h₀ h2 [] (news.set j (N, o' i)) → Q () ⟨h2, g, d, t + 1, os⟩) : wpAny (model prog w) A (nsSetByValue N name v) Q E ⟨h, g, d, t, os⟩ := by
  obtain ⟨c, dd, dt, sl⟩ := o
  cases dt with
  | dict es ep =>
    have hk2 := (Bool.or_eq_false_iff.mp hk)
    unfold nsSetByValue
    refine wpAny_bind (wpAny_loadPart' (D.at j _ _ hi) ?_)
    refine wpAny_ite_false (by rw [hk2.2]; rfl) ?_
    exact m_nsSet D j hi hk2.1 e hf hq
  | _ => cases hk
noncomputable def ents3 (i0 i2 i3 i4 i5 i6 i7 i8 i9 i10 i11 i12 : Int) (u0 u2 u3 u4 u5 u6 u7 u8 u9 u10 u11 u12 : Tok) (v0 v2 v3 v4 v5 v6 v7 v8 v9 v10 v11 v12 : Value) : Array DictEntry :=
  #[⟨i0, .str "__module__" u0, v0⟩, ⟨i2, .str "__firstlineno__" u2, v2⟩, ⟨i3, .str "__slots__" u3, v3⟩,
    ⟨i4, .str "__init__" u4, v4⟩, ⟨i5, .str "__lt__" u5, v5⟩, ⟨i6, .str "__gt__" u6, v6⟩, ⟨i7, .str "__eq__" u7, v7⟩, ⟨i8, .str "__le__" u8, v8⟩, ⟨i9, .str "__ge__" u9, v9⟩,
    ⟨i10, .str "__hash__" u10, v10⟩, ⟨i11, .str "__static_attributes__" u11, v11⟩, ⟨i12, .str "obj" u12, v12⟩]
open PySem.W.X in
theorem stopSetV {M : Model} {v : Value} {a : Addr} {n : Str} {Q : Unit → Shared → Prop} {s : Shared} (h : Stuck (wpAny M A (nsSetByValue a n v) Q E s)) : wpAny M A (nsSetByValue a n v) Q E s := h
theorem stopUpd {M : Model} {a : Addr} {f : ClassData → ClassData} {Q : Unit → Shared → Prop} {s : Shared} (h : Stuck (wpAny M A (updateCls a f) Q E s)) : wpAny M A (updateCls a f) Q E s := h
open PySem.W.X in
theorem m_install {h₀ : Heap} {Q : Unit → Shared → Prop} {C N : Addr} {sl : Array (Option Value)} {ep : Nat} {i0 i2 i3 i4 i5 i6 i7 i8 i9 i10 i11 : Int} {u0 u2 u3 u4 u5 u6 u7 u8 u9 u10 u11 : Tok} {v0 v2 v3 v4 v5 v6 v7 v8 v9 v10 v11 : Value}
    (D : Mem h₀ h [] [(C, { cls := .type "type", data := .cls { name := "K", bases := [.type "object"], mro := [.ref C, .type "object"], ns := N, qualname := "cmp_to_key.<locals>.K" }, slots := sl }), (N, ⟨.type "dict", none, .dict (ents2 i0 i2 i3 i4 i5 i6 i7 i8 i9 i10 i11 u0 u2 u3 u4 u5 u6 u7 u8 u9 u10 u11 v0 v2 v3 v4 v5 v6 v7 v8 v9 v10 v11) ep, #[]⟩)])
    (k : ∀ P i h2, Mem h₀ h2 [] [(P, ⟨.type "member_descriptor", none, .fields #[.str "obj" t, .ref C, .builtin "proto.slot", .builtin "proto.slot#set", rawInt 0], #[]⟩), (C, { cls := .type "type", data := .cls { name := "K", bases := [.type "object"], mro := [.ref C, .type "object"], ns := N, qualname := "cmp_to_key.<locals>.K", hasDict := false, slotNames := ["obj"] }, slots := sl }), (N, ⟨.type "dict", none, .dict (ents3 i0 i2 i3 i4 i5 i6 i7 i8 i9 i10 i11 i u0 u2 u3 u4 u5 u6 u7 u8 u9 u10 u11 (t + 1) v0 v2 v3 v4 v5 v6 v7 v8 v9 v10 v11 (.ref P)) (ep + 1), #[]⟩)] →
      Q () ⟨h2, g, d, t + 2, os⟩) : wpAny (model prog w) A (Builtin.Slots.install (.ref C) N [.type "object"] { names := ["obj"], dict := false, weak := false, inherited := [] }) Q E ⟨h, g, d, t, os⟩ := by
  have hC := D.at 0 _ _ rfl
  have hN := D.at 1 _ _ rfl
  unfold Builtin.Slots.install
  repeat (first | (with_reducible refine stopSetV ?_) | wp_step | ((with_reducible apply wpAny_ite_false); focus (kernel_rfl; done)) | ((with_reducible apply wpAny_ite_true); focus (kernel_rfl; done)))
  unfold Stuck
  have D1 := D.alloc (o := ⟨.type "member_descriptor", none, .fields #[.str "obj" t, .ref C, .builtin "proto.slot", .builtin "proto.slot#set", rawInt 0], #[]⟩) rfl
  refine m_nsSetV D1 2 rfl (o' := fun i => ⟨.type "dict", none, .dict (ents3 i0 i2 i3 i4 i5 i6 i7 i8 i9 i10 i11 i u0 u2 u3 u4 u5 u6 u7 u8 u9 u10 u11 (t + 1) v0 v2 v3 v4 v5 v6 v7 v8 v9 v10 v11 (.ref h.objs.size)) (ep + 1), #[]⟩) (by kernel_rfl) (fun i => by kernel_rfl) (fun _ => rfl) ?_
  intro i h2 D2
  repeat (first | (with_reducible refine stopSetV ?_) | (with_reducible refine stopUpd ?_) | wp_step | ((with_reducible apply wpAny_ite_false); focus (kernel_rfl; done)) | ((with_reducible apply wpAny_ite_true); focus (kernel_rfl; done)))
  unfold Stuck
  refine m_updateCls D2 1 rfl (cd' := { name := "K", bases := [.type "object"], mro := [.ref C, .type "object"], ns := N, qualname := "cmp_to_key.<locals>.K", hasDict := false, slotNames := ["obj"] }) (by kernel_rfl) (by kernel_rfl) rfl ?_
  intro h3 D3
  exact k _ _ _ D3
theorem stopSet {M : Model} {a : Addr} {n : Str} {v : Value} {Q : Unit → Shared → Prop} {s : Shared} (h : Stuck (wpAny M A (nsSet a n v) Q E s)) : wpAny M A (nsSet a n v) Q E s := h
noncomputable def ents4 (i0 i2 i3 i4 i5 i6 i7 i8 i9 i10 i11 i12 i13 : Int) (u0 u2 u3 u4 u5 u6 u7 u8 u9 u10 u11 u12 u13 : Tok) (v0 v2 v3 v4 v5 v6 v7 v8 v9 v10 v11 v12 v13 : Value) : Array DictEntry :=
  #[⟨i0, .str "__module__" u0, v0⟩, ⟨i2, .str "__firstlineno__" u2, v2⟩, ⟨i3, .str "__slots__" u3, v3⟩,
    ⟨i4, .str "__init__" u4, v4⟩, ⟨i5, .str "__lt__" u5, v5⟩, ⟨i6, .str "__gt__" u6, v6⟩, ⟨i7, .str "__eq__" u7, v7⟩, ⟨i8, .str "__le__" u8, v8⟩, ⟨i9, .str "__ge__" u9, v9⟩,
    ⟨i10, .str "__hash__" u10, v10⟩, ⟨i11, .str "__static_attributes__" u11, v11⟩, ⟨i12, .str "obj" u12, v12⟩, ⟨i13, .str "__doc__" u13, v13⟩]
theorem stopEnts {M : Model} {a : Addr} {p : Option Value} {Q : Array DictEntry → Shared → Prop} {s : Shared} (h : Stuck (wpAny M A (dictEntries a p) Q E s)) : wpAny M A (dictEntries a p) Q E s := h
theorem stopTry {M : Model} {α : Type} {m : Sem α} {k : Value → Sem α} {Q : α → Shared → Prop} {s : Shared} (h : Stuck (wpAny M A (m.tryCatch k) Q E s)) : wpAny M A (m.tryCatch k) Q E s := h
theorem stopSuper {M : Model} {l : List Value} {Q : Value → Shared → Prop} {s : Shared} (h : Stuck (wpAny M A (call (.type "super") l) Q E s)) : wpAny M A (call (.type "super") l) Q E s := h
theorem wp_all {M : Model} {β : Type} {f : DictEntry → β → Sem (ForInStep β)} (es : Array DictEntry) {b : β} {Q : β → Shared → Prop} {s : Shared} (hb : ∀ e ∈ es.toList, wpAny M A (f e b) (fun r s' => r = .yield b ∧ s' = s) E s) (hq : Q b s) : wpAny M A (forIn es b f) Q E s := by
  rw [← Array.forIn_toList]
  refine wpAny_forIn_list f (fun rest b' s' => b' = b ∧ s' = s ∧ ∀ e ∈ rest, e ∈ es.toList) Q ?_ ?_ _ b ⟨rfl, rfl, fun _ h => h⟩
  · rintro x rest b' s' ⟨rfl, rfl, hm⟩
    refine wpAny_mono (hb x (hm x (List.mem_cons_self ..))) ?_ (fun _ _ z => z)
    rintro r s'' ⟨rfl, rfl⟩
    exact ⟨rfl, rfl, fun e he => hm e (List.mem_cons_of_mem _ he)⟩
  · rintro b' s' ⟨rfl, rfl, _⟩
    exact hq
theorem stopInst {M : Model} {v : Value} {a : Addr} {l : List Value} {p : Builtin.Slots.Plan} {Q : Unit → Shared → Prop} {s : Shared} (h : Stuck (wpAny M A (Builtin.Slots.install v a l p) Q E s)) : wpAny M A (Builtin.Slots.install v a l p) Q E s := h
theorem tnew {Q : PySem.Fin → Shared → Prop} {nsA bt sl : Addr} {nt qt mt st : Tok} {n nb nl : Nat} {i0 i1 i2 i3 i4 i5 i6 i7 i8 i9 i10 i11 : Int} {u0 u1 u2 u3 u4 u5 u6 u7 u8 u9 u10 u11 : Tok} {fl : Int} {ft : Tok} {f4 f5 f6 f7 f8 f9 sa : Addr} {df4 df5 df6 df7 df8 df9 : Option Addr} {dt4 dt5 dt6 dt7 dt8 dt9 : Data} {sl4 sl5 sl6 sl7 sl8 sl9 : Array (Option Value)} {as : Array Value} {na : Nat}
    (hns : h.get? nsA = some ⟨.type "dict", none, .dict (ents i0 i1 i2 i3 i4 i5 i6 i7 i8 i9 i10 i11 u0 u1 u2 u3 u4 u5 u6 u7 u8 u9 u10 u11 (.str "cpy313.functools" mt) (.str "cmp_to_key.<locals>.K" qt) (.int fl ft) (.ref sl) (.ref f4) (.ref f5) (.ref f6) (.ref f7) (.ref f8) (.ref f9) .none (.ref sa)) n, #[]⟩)
    (hbt : h.get? bt = some ⟨.type "tuple", none, .seq #[.type "object"] nb, #[]⟩)
    (hsl : h.get? sl = some ⟨.type "list", none, .seq #[.str "obj" st] nl, #[]⟩)
    (hsa : h.get? sa = some ⟨.type "tuple", none, .seq as na, #[]⟩)
    (hf4 : h.get? f4 = some ⟨.type "function", df4, dt4, sl4⟩) (hf5 : h.get? f5 = some ⟨.type "function", df5, dt5, sl5⟩) (hf6 : h.get? f6 = some ⟨.type "function", df6, dt6, sl6⟩)
    (hf7 : h.get? f7 = some ⟨.type "function", df7, dt7, sl7⟩) (hf8 : h.get? f8 = some ⟨.type "function", df8, dt8, sl8⟩) (hf9 : h.get? f9 = some ⟨.type "function", df9, dt9, sl9⟩)
    (h1s : nsA ≠ sysModules)
    (hno : ∀ h', (∀ y o, h.get? y = some o → h'.get? y = some o) → ∀ C, Looks (model prog w) h' (opaqueClassAbove (.ref C)) none)
    (hq : ∀ C N P iP iD h8 h' tk, X.Mem h h8 [] [(P, ⟨.type "member_descriptor", none, .fields #[.str "obj" t, .ref C, .builtin "proto.slot", .builtin "proto.slot#set", rawInt 0], #[]⟩),
        (C, { cls := .type "type", dict := none, data := .cls { name := "K", bases := [.type "object"], mro := [.ref C, .type "object"], ns := N, qualname := "cmp_to_key.<locals>.K", hasDict := false, slotNames := ["obj"] }, slots := #[some (.ref bt), none, some (.str "K" nt), some (.str "cmp_to_key.<locals>.K" qt), some (.builtin "object.__new__"), some (.bool false)] }),
        (N, ⟨.type "dict", none, .dict (ents4 i0 i2 i3 i4 i5 i6 i7 i8 i9 i10 i11 iP iD u0 u2 u3 u4 u5 u6 u7 u8 u9 u10 u11 (t + 1) (t + 2) (.str "cpy313.functools" mt) (.int fl ft) (.ref sl) (.ref f4) (.ref f5) (.ref f6) (.ref f7) (.ref f8) (.ref f9) .none (.ref sa) (.ref P) .none) 3, #[]⟩)] →
      (∀ y o, h8.get? y = some o → h'.get? y = some o) → Q (.done (.ret (.ref C))) ⟨h', g, d, tk, os⟩) :
    wpAny (model prog w) A (Builtin.«type.__new__» ⟨[.type "type", .str "K" nt, .ref bt, .ref nsA], []⟩) Q E ⟨h, g, d, t, os⟩ := by
  unfold Builtin.«type.__new__»
  repeat (first | (with_reducible refine stopRead ?_) | wp_step)
  unfold Stuck
  refine wp_read hsl ?_
  intro h1 up1
  have hns1 := up1 _ _ hns
  have hbt1 := up1 _ _ hbt
  repeat (first | (with_reducible refine stopDel ?_) | wp_step | ((with_reducible apply wpAny_ite_false); focus (kernel_rfl; done)) | ((with_reducible apply wpAny_ite_true); focus (kernel_rfl; done)))
  unfold Stuck
  have D1 : X.Mem h h1 [] [] := ⟨fun b o e _ => up1 b o e, fun _ hp => (nomatch hp), List.nodup_nil, fun _ hp => (nomatch hp), List.Pairwise.nil⟩
  have D2 := (D1.alloc (o := { cls := .type "dict", data := .dict (ents i0 i1 i2 i3 i4 i5 i6 i7 i8 i9 i10 i11 u0 u1 u2 u3 u4 u5 u6 u7 u8 u9 u10 u11 (.str "cpy313.functools" mt) (.str "cmp_to_key.<locals>.K" qt) (.int fl ft) (.ref sl) (.ref f4) (.ref f5) (.ref f6) (.ref f7) (.ref f8) (.ref f9) .none (.ref sa)) }) rfl)
  have D3 := (D2.alloc (o := { cls := .type "type", data := .cls { name := "K", bases := [.type "object"], mro := [], ns := h1.objs.size, qualname := "cmp_to_key.<locals>.K" } }) rfl)
  refine go3 D3 (o' := { cls := .type "type", data := .cls { name := "K", bases := [.type "object"], mro := [], ns := h1.objs.size, qualname := "cmp_to_key.<locals>.K" }, slots := #[some (.ref bt), none, some (.str "K" nt), some (.str "cmp_to_key.<locals>.K" qt)] }) (by kernel_rfl) (by kernel_rfl) (by kernel_rfl) (by kernel_rfl) ?_
  intro h2 D4
  clear D1 D2 D3
  generalize (h1.push _).objs.size = C at D4 ⊢
  generalize h1.objs.size = N at D4 ⊢
  have hC := D4.at 0 _ _ rfl
  have hN := D4.at 1 _ _ rfl
  have hCN : C ≠ N := D4.ne 0 1 _ _ _ _ rfl rfl rfl
  refine wp_nsDel hN (by kernel_rfl) ?_
  refine gen_up D4 1 rfl (o' := ⟨.type "dict", none, .dict (ents2 i0 i2 i3 i4 i5 i6 i7 i8 i9 i10 i11 u0 u2 u3 u4 u5 u6 u7 u8 u9 u10 u11 (.str "cpy313.functools" mt) (.int fl ft) (.ref sl) (.ref f4) (.ref f5) (.ref f6) (.ref f7) (.ref f8) (.ref f9) .none (.ref sa)) 1, #[]⟩) (by kernel_rfl) rfl ?_
  intro h3 D5
  clear D4 hC hN
  have hC := D5.at 0 _ _ rfl
  have hN := D5.at 1 _ _ rfl
  repeat (first | wp_step | ((with_reducible apply wpAny_ite_false); focus (kernel_rfl; done)) | ((with_reducible apply wpAny_ite_true); focus (kernel_rfl; done)))
  rw [filt_self]
  refine wpS (v := false) (by kernel_rfl) ?_
  refine wpAny_bind ?_
  refine m_updateCls D5 0 rfl (cd' := { name := "K", bases := [.type "object"], mro := [.ref C, .type "object"], ns := N, qualname := "cmp_to_key.<locals>.K" }) (by kernel_rfl) (by kernel_rfl) rfl ?_
  intro h4 D6
  clear D5 hC hN
  refine wpAny_bind (wpS made_object ?_)
  refine wpAny_bind ?_
  refine m_setSlot D6 0 rfl (sl' := #[some (.ref bt), none, some (.str "K" nt), some (.str "cmp_to_key.<locals>.K" qt), some (.builtin "object.__new__")]) (by kernel_rfl) (by decide +kernel) rfl ?_
  intro h5 D7
  clear D6
  have hC := D7.at 0 _ _ rfl
  have hN := D7.at 1 _ _ rfl
  repeat (first | (with_reducible refine stopInst ?_) | wp_step | ((with_reducible apply wpAny_ite_false); focus (kernel_rfl; done)) | ((with_reducible apply wpAny_ite_true); focus (kernel_rfl; done)))
  refine wp_lookK hC hN rfl rfl (by kernel_rfl) (r := some (.builtin "object.__new__")) (by kernel_rfl) ?_
  repeat (first | (with_reducible refine stopInst ?_) | wp_step | ((with_reducible apply wpAny_ite_false); focus (kernel_rfl; done)) | ((with_reducible apply wpAny_ite_true); focus (kernel_rfl; done)))
  unfold Stuck
  refine m_install (sl := #[some (.ref bt), none, some (.str "K" nt), some (.str "cmp_to_key.<locals>.K" qt), some (.builtin "object.__new__")]) D7 ?_
  intro P iP h6 D8
  clear D7 hC hN
  refine wpAny_bind (wpS weak_object ?_)
  refine wpAny_bind ?_
  refine m_setSlot D8 1 rfl (sl' := #[some (.ref bt), none, some (.str "K" nt), some (.str "cmp_to_key.<locals>.K" qt), some (.builtin "object.__new__"), some (.bool false)]) (by kernel_rfl) (by decide +kernel) rfl ?_
  intro h7 D9
  clear D8
  have hC := D9.at 1 _ _ rfl
  have hN := D9.at 2 _ _ rfl
  have hP := D9.at 0 _ _ rfl
  repeat (first | (with_reducible refine stopSet ?_) | wp_step | ((with_reducible apply wpAny_ite_false); focus (kernel_rfl; done)) | ((with_reducible apply wpAny_ite_true); focus (kernel_rfl; done)))
  unfold Stuck
  refine m_nsSet D9 2 rfl (o' := fun i => ⟨.type "dict", none, .dict (ents4 i0 i2 i3 i4 i5 i6 i7 i8 i9 i10 i11 iP i u0 u2 u3 u4 u5 u6 u7 u8 u9 u10 u11 (t + 1) (t + 2) (.str "cpy313.functools" mt) (.int fl ft) (.ref sl) (.ref f4) (.ref f5) (.ref f6) (.ref f7) (.ref f8) (.ref f9) .none (.ref sa) (.ref P) .none) 3, #[]⟩) (by kernel_rfl) (fun i => by kernel_rfl) (fun _ => rfl) ?_
  intro iD h8 D10
  clear D9 hC hN hP
  have hC := D10.at 1 _ _ rfl
  have hN := D10.at 2 _ _ rfl
  have hP := D10.at 0 _ _ rfl
  have hsl8 := D10.keep _ _ hsl rfl
  have hsa8 := D10.keep _ _ hsa rfl
  have hf48 := D10.keep _ _ hf4 rfl
  have hf58 := D10.keep _ _ hf5 rfl
  have hf68 := D10.keep _ _ hf6 rfl
  have hf78 := D10.keep _ _ hf7 rfl
  have hf88 := D10.keep _ _ hf8 rfl
  have hf98 := D10.keep _ _ hf9 rfl
  repeat (first | (with_reducible refine stopTry ?_) | (with_reducible refine stopEnts ?_) | wp_step | ((with_reducible apply wpAny_ite_false); focus (kernel_rfl; done)) | ((with_reducible apply wpAny_ite_true); focus (kernel_rfl; done)))
  unfold Stuck
  refine wpAny_tryCatch (m := holding _ _) ?_
  refine wpAny_holding ?_
  refine wpAny_bind ?_
  refine wpAny_dictEntries hN rfl ?_
  refine wpAny_bind ?_
  refine wp_all _ ?_ ?_
  · intro e he
    simp only [ents4, List.mem_cons, List.not_mem_nil, or_false] at he
    rcases he with rfl | rfl | rfl | rfl | rfl | rfl | rfl | rfl | rfl | rfl | rfl | rfl | rfl
    all_goals clear D10 hns hbt hsl hsa hf4 hf5 hf6 hf7 hf8 hf9 hns1 hbt1 hC hN hP hsl8 hsa8 hf48 hf58 hf68 hf78 hf88 hf98
    all_goals exact wpAny_bind (wpAny_pure (wpAny_ite_false rfl (wpAny_pure ⟨rfl, rfl⟩)))
  repeat (first | (with_reducible refine stopEnts ?_) | (with_reducible refine stopSuper ?_) | wp_step | ((with_reducible apply wpAny_ite_false); focus (kernel_rfl; done)) | ((with_reducible apply wpAny_ite_true); focus (kernel_rfl; done)))
  unfold Stuck
  refine wpAny_dictEntries hN rfl ?_
  refine wpAny_bind ?_
  refine wp_all _ ?_ ?_
  · intro e he
    simp only [ents4, List.mem_cons, List.not_mem_nil, or_false] at he
    rcases he with rfl | rfl | rfl | rfl | rfl | rfl | rfl | rfl | rfl | rfl | rfl | rfl | rfl
    all_goals clear D10 hns hbt hsl hsa hf4 hf5 hf6 hf7 hf8 hf9 hns1 hbt1
    all_goals refine wpAny_ite_false (by first | rfl | kernel_rfl) ?_
    all_goals refine wpAny_bind ?_
    all_goals first
      | exact wpAny_specialOf_val rfl sn_str (wpAny_pure ⟨rfl, rfl⟩)
      | exact wpAny_specialOf_val rfl sn_int (wpAny_pure ⟨rfl, rfl⟩)
      | exact wpAny_specialOf_val rfl sn_NoneType (wpAny_pure ⟨rfl, rfl⟩)
      | exact wpAny_specialOf ⟨_, hsl8, rfl⟩ sn_list (wpAny_pure ⟨rfl, rfl⟩)
      | exact wpAny_specialOf ⟨_, hsa8, rfl⟩ sn_tuple (wpAny_pure ⟨rfl, rfl⟩)
      | exact wpAny_specialOf ⟨_, hP, rfl⟩ sn_member_descriptor (wpAny_pure ⟨rfl, rfl⟩)
      | exact wpAny_specialOf ⟨_, hf48, rfl⟩ sn_function (wpAny_pure ⟨rfl, rfl⟩)
      | exact wpAny_specialOf ⟨_, hf58, rfl⟩ sn_function (wpAny_pure ⟨rfl, rfl⟩)
      | exact wpAny_specialOf ⟨_, hf68, rfl⟩ sn_function (wpAny_pure ⟨rfl, rfl⟩)
      | exact wpAny_specialOf ⟨_, hf78, rfl⟩ sn_function (wpAny_pure ⟨rfl, rfl⟩)
      | exact wpAny_specialOf ⟨_, hf88, rfl⟩ sn_function (wpAny_pure ⟨rfl, rfl⟩)
      | exact wpAny_specialOf ⟨_, hf98, rfl⟩ sn_function (wpAny_pure ⟨rfl, rfl⟩)
  refine tnew_end (fun h' up => hno h' (fun y o e => up y o (D10.keep _ _ e (Bool.or_true _))) C) hC fun h' tk up => ?_
  exact wpAny_pure (hq _ _ _ _ _ _ _ _ D10 up)
end Mine
end
section
open PySem PySem.W PyProof.Rows PySem.Calls
set_option maxRecDepth 100000
set_option maxHeartbeats 2000000
namespace Mine
variable {prog : Program} {w : World} {A : Around} {E : Value → Shared → Prop} {h : Heap} {g : Array GenState} {d : Drawn} {t : Nat} {os : OsState}
noncomputable def fScope : Scope := { kind := .function, names := [("mycmp", .cell), ("K", .local), ("object", .globalImplicit)], isGenerator := false, isCoroutine := false }
noncomputable def cScope : Scope := { kind := .class, names := [("__module__", .local), ("__slots__", .local), ("__init__", .local), ("__lt__", .local), ("__gt__", .local), ("__eq__", .local), ("__le__", .local), ("__ge__", .local), ("__hash__", .local), ("mycmp", .free)], isGenerator := false, isCoroutine := false }
noncomputable abbrev fEnv (L : Addr) : Env := envOfC "cmp_to_key" fScope L 46 (.ref 45)
noncomputable def Stuck' (P : Prop) : Prop := P
theorem stopBC {M : Model} {nm q : Str} {gv : List Value} {kw : List (Str × Value)} {b : List Stmt} {sc : Scope} {st : List Str} {fl : Nat} {e : Env} {p : Pos} {tp : Option Value} {Q : Value → Shared → Prop} {s : Shared} (h : Stuck' (wpAny M A (buildClass nm q gv kw b sc st fl e p tp) Q E s)) : wpAny M A (buildClass nm q gv kw b sc st fl e p tp) Q E s := h

theorem wp_nsAt {M : Model} {a b : Addr} {m : Str → Option Value} {name : Str} {v : Option Value} {Q : Option Value → Shared → Prop} (hn : h.Ns b m) (e : a = b) (hv : m name = v) (hq : Q v ⟨h, g, d, t, os⟩) : wpAny M A (nsGet a name) Q E ⟨h, g, d, t, os⟩ := by
  subst e hv
  exact wpAny_nsGet hn hq
theorem shell1 {body : List Stmt} {L : Addr} {mg mb : Str → Option Value} {Q : Flow → Shared → Prop} {p1 pos : Pos}
    (hB : h.Ns builtinsNs mb) (hb1 : mb "__build_class__" = some (.builtin "__build_class__")) (hb2 : mb "object" = some (.type "object"))
    (hG : h.Ns mainGlobals mg) (hg2 : mg "object" = none)
    (hq : wpAny (model prog w) A (buildClass "K" "cmp_to_key.<locals>.K" [.type "object"] [] body cScope ["obj"] pos.line (fEnv L) pos none) (fun c s' => wpAny (model prog w) A (bindName (fEnv L) "K" c) (fun _ s'' => Q .next s'') E s') E ⟨h, g, d, t, os⟩) :
    wpAny (model prog w) A (exec (.ClassDef "K" [.Name "object" p1] [] body [] [] cScope none "K" ["obj"] pos) (fEnv L)) Q E ⟨h, g, d, t, os⟩ := by
  rw [arm_exec_ClassDef]
  refine wpAny_bind (wpS (v := []) rfl ?_)
  refine wpAny_bind (wpAny_standAt ?_)
  unfold buildClassGuard
  refine wpAny_bind (wpAny_bind (wpAny_nsGet hB ?_))
  rw [hb1]
  refine wpAny_pure ?_
  refine wpAny_bind (wpAny_holding ?_)
  repeat (first | (with_reducible refine stopBC ?_) | ((with_reducible refine wp_nsAt hG ?e hg2 ?_); (case e => rfl)) | ((with_reducible refine wp_nsAt hB ?e hb2 ?_); (case e => rfl)) | wp_step)
  refine wpAny_mono hq (fun c s' hc => ?_) (fun _ _ x => x)
  refine wpAny_bind (wpS (v := c) rfl ?_)
  exact wpAny_bind (wpAny_standAt (wpAny_bind (wpAny_mono hc (fun _ _ x => wpAny_pure x) fun _ _ x => x)))

end Mine
end
section
open PySem PySem.W PyProof.Rows PySem.Calls PySem.W.X PySem.W.XRun
set_option maxRecDepth 100000
set_option maxHeartbeats 2000000
namespace Mine
variable {prog : Program} {w : World} {A : Around} {E : Value → Shared → Prop} {h : Heap} {g : Array GenState} {d : Drawn} {t : Nat} {os : OsState}
theorem wpS' {M : Model} {A : Around} {α : Type} {t : Sem α} {v : α} {Q : α → Shared → Prop} {E : Value → Shared → Prop} {s : Shared} (e : t = pure v) (hq : Q v s) : wpAny M A t Q E s := wpAny_of_eq e hq
theorem ga_type : typeLookup (.type "type") "__getattribute__" = pure (some (.builtin "type.__getattribute__")) := by rw [typeLookup_type, builtinLookup_eq_fast]; kernel_rfl
theorem ty_type : typeOf (.type "type") = pure (.type "type") := by kernel_rfl
local macro_rules | `(tactic| x_close) => do
  let hq := Lean.mkIdent `hq
  `(tactic| (rename Mem _ _ _ _ => D; exact $hq _ _ _ (Eq.mp (congrArg (Mem _ _ _) (by kernel_rfl)) D)))
theorem P_ga {tk : Tok} {Q : Value → Shared → Prop} (hq : ∀ a h' t', Mem h h' [] [(a, { cls := .type "builtin_function_or_method", data := .fields #[.builtin "type.__prepare__", .type "type"] })] → Q (.ref a) ⟨h', g, d, t', os⟩) :
    wpAny (model prog w) A (call (.builtin "type.__getattribute__") [.type "type", .str "__prepare__" tk]) Q E ⟨h, g, d, t, os⟩ := by
  x_run
theorem P_prep {Q : Option Value → Shared → Prop} (hq : ∀ a h' t', Mem h h' [] [(a, { cls := .type "builtin_function_or_method", data := .fields #[.builtin "type.__prepare__", .type "type"] })] → Q (some (.ref a)) ⟨h', g, d, t', os⟩) :
    wpAny (model prog w) A (getAttr? (.type "type") "__prepare__") Q E ⟨h, g, d, t, os⟩ := by
  unfold getAttr? getAttrBy? getAttrBy
  refine wpAny_bind (wpAny_mkText (wpAny_bind (wpAny_attempt (wpAny_holding (wpAny_bind (wpS' ty_type (wpAny_bind (wpS' ga_type ?_))))))))
  show wpAny _ _ (getAttrByItsOwn (.type "type") (.str "__prepare__" t) (.type "type") (.builtin "type.__getattribute__") false false) _ _ _
  unfold getAttrByItsOwn hookBefore callGetattribute boundAndCalled
  refine wpAny_bind (wpS' (v := none) rfl ?_)
  refine wpAny_bind (wpAny_attempt (wpAny_holding ?_))
  show wpAny _ _ (bindSpecial (.builtin "type.__getattribute__") (.type "type") >>= _) _ _ _
  refine wpAny_bind (wpAny_of_eq (KF.slot_tga.bind _) ?_)
  show wpAny _ _ (call (.builtin "type.__getattribute__") [.type "type", .str "__prepare__" t]) _ _ _
  refine P_ga fun a h' t' D => ?_
  exact wpAny_pure (wpAny_pure (hq a h' t' D))
theorem slot_type_init : Slot "type" "__init__" "type.__init__" := .of (owner := "type") (n := "__init__") (by rw [typeLookup_type, builtinLookup_eq_fast]; kernel_rfl) (by decide +kernel) (by decide +kernel) (by decide +kernel)
  (by first | exact .inl (by decide +kernel) | exact .inr (by decide +kernel)) (by rw [isSubtype_type]; kernel_rfl)
local macro_rules | `(tactic| x_close) => do
  let hq := Lean.mkIdent `hq
  `(tactic| exact $hq _)
theorem P_init {C N bt nsA : Addr} {nt : Tok} {sl : Array (Option Value)} {Q : Value → Shared → Prop}
    (hC : h.get? C = some { cls := .type "type", dict := none, data := .cls { name := "K", bases := [.type "object"], mro := [.ref C, .type "object"], ns := N, qualname := "cmp_to_key.<locals>.K", hasDict := false, slotNames := ["obj"] }, slots := sl })
    (hq : ∀ t', Q .none ⟨h, g, d, t', os⟩) : wpAny (model prog w) A (call (.builtin "type.__init__") [.ref C, .str "K" nt, .ref bt, .ref nsA] []) Q E ⟨h, g, d, t, os⟩ := by
  x_run
end Mine
end
section
open PySem PySem.W PyProof.Rows PySem.Calls
namespace Mine
local macro_rules | `(tactic| walk_at "qs") => `(tactic| (first
  | with_reducible (first | refine wpS typeOf_object ?_ | refine wpS ty_type ?_ | refine wpS sub_type_type ?_)
  | with_reducible (first
      | refine wpAny_pure ?_ | refine wpAny_bind ?_ | refine wpAny_holding ?_ | refine wpAny_standAt ?_ | refine wpAny_point ?_ | refine wpAny_rule ?_
      | refine wpAny_mkInt' ?_ | refine wpAny_fresh' ?_ | refine wpAny_alloc' ?_ | refine wpAny_attempt ?_ | refine wpAny_onRaise ?_)
  | ((with_reducible refine wpAny_ite_false ?e1 ?_); case e1 => (rfl; done))
  | ((with_reducible refine wpAny_ite_true ?e1 ?_); case e1 => (rfl; done))
  | wp_delta
  | with_reducible_and_instances refine wpAny_pure ?_
  | with_reducible_and_instances refine wpAny_bind ?_))
section
open PySem PySem.W PyProof.Rows PySem.Calls
set_option maxRecDepth 100000
set_option maxHeartbeats 2000000
section
variable {prog : Program} {w : World} {A : Around} {E : Value → Shared → Prop} {h : Heap} {g : Array GenState} {d : Drawn} {t : Nat} {os : OsState}
theorem entry_prep : entryFor table "type.__prepare__" = some Builtin.«type.__prepare__» := entryFor_of_tree (by kernel_rfl)
theorem plain_prep : plainId "type.__prepare__" = true := by decide +kernel
theorem stopCB {M : Model} {n : String} {a : Args} {Q : Unit → Shared → Prop} {s : Shared} (h : (wpAny M A (checkBoundCall n a) Q E s)) : wpAny M A (checkBoundCall n a) Q E s := h
noncomputable def Stuck2 (P : Prop) : Prop := P
theorem stopCB' {M : Model} {n : String} {a : Args} {Q : Unit → Shared → Prop} {s : Shared} (h : Stuck2 (wpAny M A (checkBoundCall n a) Q E s)) : wpAny M A (checkBoundCall n a) Q E s := h
theorem cb_prep (a b : Value) : checkBoundCall "type.__prepare__" ⟨[.type "type", a, b], []⟩ = pure () := by kernel_rfl
theorem P_call2 {b : Addr} {nt : Tok} {bs : Addr} {Q : Value → Shared → Prop} (hb : h.get? b = some { cls := .type "builtin_function_or_method", dict := none, data := .fields #[.builtin "type.__prepare__", .type "type"], slots := #[] })
    (hq : Q (.ref h.objs.size) ⟨h.push { cls := .type "dict", data := .dict #[] 0 }, g, d, t, os⟩) :
    wpAny (model prog w) A (call (.ref b) [.str "K" nt, .ref bs] []) Q E ⟨h, g, d, t, os⟩ := by
  refine wpAny_call (codeAny_of_tree ?_)
  show wpAny _ A.in1 (callAny (.ref b) _) _ _ _
  unfold callAny
  refine wpAny_bind (wpAny_load hb ?_)
  repeat (first | (with_reducible refine stopCB' ?_) | walk_at "qs")
  unfold Stuck2
  refine wpS' (cb_prep _ _) ?_
  refine wpAny_pure ⟨plainId_quiet plain_prep _, codeAny_builtin entry_prep ?_⟩
  unfold Builtin.«type.__prepare__»
  repeat walk_at "qs"
  exact hq
end
end
section
open PySem PySem.W PyProof.Rows PySem.Calls
set_option maxRecDepth 100000
set_option maxHeartbeats 2000000
section
variable {prog : Program} {w : World} {A : Around} {E : Value → Shared → Prop} {h : Heap} {g : Array GenState} {d : Drawn} {t : Nat} {os : OsState}

noncomputable def kEnv (L nsA cK fr : Addr) : Env := { scope := cScope, locals := nsA, globals := mainGlobals, qual := ("cmp_to_key.<locals>.K" : Str) ++ ("." : Str), code := .ref cK, frame := some fr, builtins := builtinsNs, cells := [("mycmp", L + 1)] }

theorem wp_nsSetRaw {N : Addr} {es : Array DictEntry} {es' : Int → Array DictEntry} {n n' : Nat} {name : Str} {v : Value} {Q : Unit → Shared → Prop} (hN : h.get? N = some ⟨.type "dict", none, .dict es n, #[]⟩) (hk : aRefKeyMayBeTheName name es = false)
    (e : ∀ i, Obj.putName name i (.str name t) v ⟨.type "dict", none, .dict es n, #[]⟩ = ⟨.type "dict", none, .dict (es' i) n', #[]⟩)
    (hq : ∀ i h', Heap.SameBut N h h' → h'.get? N = some ⟨.type "dict", none, .dict (es' i) n', #[]⟩ → Q () ⟨h', g, d, t + 1, os⟩) : wpAny (model prog w) A (nsSet N name v) Q E ⟨h, g, d, t, os⟩ :=
  wp_nsSet hN rfl hk fun i => hq i _ (Heap.SameBut.update ..) ((Heap.get?_update_self _ hN (by rw [e i]; rfl)).trans (by rw [e i]))

theorem wp_st {L nsA cK fr : Addr} {es : Array DictEntry} {es' : Int → Array DictEntry} {n n' : Nat} {name : Str} {v : Value} {Q : Unit → Shared → Prop} (hN : h.get? nsA = some ⟨.type "dict", none, .dict es n, #[]⟩)
    (hs : storeName (kEnv L nsA cK fr) name v = localSet (kEnv L nsA cK fr) name v) (hk : aRefKeyMayBeTheName name es = false)
    (e : ∀ i, Obj.putName name i (.str name t) v ⟨.type "dict", none, .dict es n, #[]⟩ = ⟨.type "dict", none, .dict (es' i) n', #[]⟩)
    (hq : ∀ i h', Heap.SameBut nsA h h' → h'.get? nsA = some ⟨.type "dict", none, .dict (es' i) n', #[]⟩ → Q () ⟨h', g, d, t + 1, os⟩) : wpAny (model prog w) A (storeName (kEnv L nsA cK fr) name v) Q E ⟨h, g, d, t, os⟩ := by
  rw [hs]
  unfold localSet
  exact wpAny_bind (wpAny_load hN (wpAny_ite_true rfl (wp_nsSetRaw hN hk e hq)))

structure Bk (h : Heap) (mg mb : Str → Option Value) : Prop where
  G : h.Ns mainGlobals mg
  B : h.Ns builtinsNs mb
  lim : h.NoLimit
  bm : ∃ bm ob, mg "__builtins__" = some (.ref bm) ∧ bm ≠ builtinsNs ∧ bm ≠ mainGlobals ∧ h.get? bm = some ob ∧ ob.cls = .type "module" ∧ ob.dict = some builtinsNs ∧ ob.data = .plain

structure CS (base : Heap) (nsA cK PK : Addr) (h : Heap) (p4 : Array Value) (es : Array DictEntry) (n : Nat) (ps : Array Value) : Prop where
  ext : Heap.ExtBut 41 base h
  p41 : h.get? 41 = some (tabObj p4)
  n41 : PK ≠ 41
  ns : h.get? nsA = some ⟨.type "dict", none, .dict es n, #[]⟩
  nsf : base.get? nsA = none
  code : CodeHd h cK PK
  tab : h.get? PK = some (tabObj ps)

section
variable {base h' : Heap} {nsA cK PK : Addr} {p4 : Array Value} {es es' : Array DictEntry} {n n' : Nat} {ps ps' : Array Value} {mg mb : Str → Option Value}
theorem CS.nP (X : CS base nsA cK PK h p4 es n ps) : PK ≠ nsA := fun e => by have a := X.tab; rw [e, X.ns] at a; cases a
theorem CS.n4 (X : CS base nsA cK PK h p4 es n ps) : nsA ≠ 41 := fun e => by have a := X.p41; rw [← e, X.ns] at a; cases a
theorem CS.nc (X : CS base nsA cK PK h p4 es n ps) : cK ≠ nsA := fun e => by
  obtain ⟨o, _, _, _, _, _, _, _, _, a, b, c, _⟩ := X.code
  rw [e, X.ns] at a; cases a; cases c
theorem CS.bn (X : CS base nsA cK PK h p4 es n ps) {b : Addr} {o : Obj} (e : base.get? b = some o) : b ≠ nsA := fun q => by rw [q, X.nsf] at e; cases e
theorem ns_ne41 {m : Str → Option Value} {a : Addr} {h : Heap} {p4 : Array Value} (hN : h.Ns a m) (h4 : h.get? 41 = some (tabObj p4)) : a ≠ 41 := fun e => by
  obtain ⟨o, es, ep, ho, hd, _⟩ := hN
  rw [e, h4] at ho; cases ho; cases hd
/-- what only the namespace's dict has changed -/
theorem CS.put (X : CS base nsA cK PK h p4 es n ps) (hs : Heap.SameBut nsA h h') (hn : h'.get? nsA = some ⟨.type "dict", none, .dict es' n', #[]⟩) : CS base nsA cK PK h' p4 es' n' ps where
  ext := fun b o hb e => (hs.2 b (X.bn e)).trans (X.ext b o hb e)
  p41 := (hs.2 _ (Ne.symm X.n4)).trans X.p41
  n41 := X.n41
  ns := hn
  nsf := X.nsf
  code := by
    obtain ⟨o, vs, file, tf, flags, tg, inF, text, tt, e, r⟩ := X.code
    exact ⟨o, vs, file, tf, flags, tg, inF, text, tt, (hs.2 _ X.nc).trans e, r⟩
  tab := (hs.2 _ X.nP).trans X.tab
/-- everything stands, more was made -/
theorem CS.more (X : CS base nsA cK PK h p4 es n ps) (k : ∀ b o, h.get? b = some o → h'.get? b = some o) : CS base nsA cK PK h' p4 es n ps :=
  ⟨fun b o hb e => k _ _ (X.ext b o hb e), k _ _ X.p41, X.n41, k _ _ X.ns, X.nsf, X.code.keeps k, k _ _ X.tab⟩
/-- the class's code table has grown -/
theorem CS.grow (X : CS base nsA cK PK h p4 es n ps) (hf : base.get? PK = none) (k : Heap.ExtBut PK h h') (ht : h'.get? PK = some (tabObj ps')) : CS base nsA cK PK h' p4 es n ps' where
  ext := fun b o hb e => k b o (fun q => by rw [q, hf] at e; cases e) (X.ext b o hb e)
  p41 := k _ _ (Ne.symm X.n41) X.p41
  n41 := X.n41
  ns := k _ _ (Ne.symm X.nP) X.ns
  nsf := X.nsf
  code := by
    obtain ⟨o, vs, file, tf, flags, tg, inF, text, tt, e, r⟩ := X.code
    have hc := r.2.2.2.2.2.2.2.2
    exact ⟨o, vs, file, tf, flags, tg, inF, text, tt, k _ _ hc e, r⟩
  tab := ht
theorem Bk.at (Y : Bk base mg mb) {p4 : Array Value} (h4 : base.get? 41 = some (tabObj p4)) (k : Heap.ExtBut 41 base h) : Bk h mg mb where
  G := Y.G.extBut k (ns_ne41 Y.G h4)
  B := Y.B.extBut k (ns_ne41 Y.B h4)
  lim := let ⟨mc, a, b⟩ := Y.lim; ⟨mc, a.extBut k (ns_ne41 a h4), b⟩
  bm := by
    obtain ⟨bm, ob, a1, a2, a3, a4, a5, r⟩ := Y.bm
    exact ⟨bm, ob, a1, a2, a3, k _ _ (fun q => by rw [q, h4] at a4; cases a4; cases a5) a4, a5, r⟩
theorem Bk.bat (Y : Bk h mg mb) {P : Addr} {pp : Array Value} (hP : h.get? P = some (tabObj pp)) : h.BuiltinsAt mg P := by
  obtain ⟨bm, ob, a1, a2, a3, a4, a5, r⟩ := Y.bm
  exact ⟨bm, ob, a1, a2, a3, fun q => (by rw [q, hP] at a4; cases a4; cases a5), a4, a5, r⟩

/-- a def in the class body, its code made -/
theorem def_miss {L fr : Addr} {nm qual : Str} {params : Arguments} {fb : List Stmt} {fs : Scope} {pos : Pos} {clos : List (Str × Addr)} {n2 : Nat} {Q : Flow → Shared → Prop} {p40 : Array Value}
    (Y : Bk base mg mb) (h4 : base.get? 41 = some (tabObj p40)) (X : CS base nsA cK PK h p4 es n ps) (hf : base.get? PK = none) (hd0 : params.defaults = []) (hk0 : params.kw_defaults = []) (ha : annTrees params none (kEnv L nsA cK fr) = [])
    (hcl : closureFor fs (kEnv L nsA cK fr) = pure clos) (htr : TriplesOk ps.toList) (hnf : codeAmong pos ps.toList = none) (hqn : qualnameIn (kEnv L nsA cK fr) nm nm = qual)
    (hs : ∀ v, storeName (kEnv L nsA cK fr) nm v = localSet (kEnv L nsA cK fr) nm v) (hkk : aRefKeyMayBeTheName nm es = false)
    (e : ∀ v i t, Obj.putName nm i (.str nm t) v ⟨.type "dict", none, .dict es n, #[]⟩ = ⟨.type "dict", none, .dict (es.push ⟨i, .str nm t, v⟩) n2, #[]⟩)
    (hq : ∀ f c' ctv doc i u h' tk, CS base nsA cK PK h' p4 (es.push ⟨i, .str nm u, .ref f⟩) n2 (ps ++ #[rawInt pos.line, rawInt pos.col, .ref c']) → h'.get? f = some (fnMade nm qual params fb fs clos doc ((mg "__name__").getD .none) c' ctv) →
      h'.CodeRec (.ref c') qual → h.get? f = none → h.get? c' = none → (∀ b o, b ≠ PK → b ≠ nsA → h.get? b = some o → h'.get? b = some o) → Q .next ⟨h', g, d, tk, os⟩) :
    wpAny (model prog w) A (exec (.FunctionDef nm params fb [] none [] fs none nm pos) (kEnv L nsA cK fr)) Q E ⟨h, g, d, t, os⟩ := by
  have Yh := Y.at h4 X.ext
  have hgP : mainGlobals ≠ PK := fun q => by obtain ⟨o, _, _, ho, hd, _⟩ := Yh.G; rw [q, X.tab] at ho; cases ho; cases hd
  refine nestDef_K hd0 hk0 ha ?_
  rw [hqn]
  refine makeFunction_K hcl rfl Yh.G rfl X.code X.tab htr hnf hgP (Yh.bat X.tab) fun c' ctv doc h2 tk hx hge hlt hrec htb => ?_
  have hx : Heap.ExtBut PK h h2 := hx
  have X2 := (X.grow hf hx htb).more (h' := h2.push (fnMade nm qual params fb fs clos doc ((mg "__name__").getD .none) c' ctv)) fun b o e => Heap.get?_push_of_some _ e
  refine wp_st X2.ns (hs _) hkk (fun i => e _ i _) fun i h3 hsb hn => ?_
  have hNl : nsA < h.objs.size := Heap.lt_size X.ns
  have hNf : h2.objs.size ≠ nsA := Nat.ne_of_gt (Nat.lt_trans hNl (Nat.lt_of_le_of_lt hge hlt))
  obtain ⟨c2, oc, vs, tv, ec, hoc, hdc, hvs⟩ := hrec
  cases ec
  refine hq _ c' ctv doc i _ h3 _ (X2.put hsb hn) ((hsb.2 _ hNf).trans (Heap.get?_push_size _ rfl)) ⟨c', oc, vs, tv, rfl, (hsb.2 _ (Nat.ne_of_gt (Nat.lt_of_lt_of_le hNl hge))).trans (Heap.get?_push_of_some _ hoc), hdc, hvs⟩
    (Heap.get?_none_of_le (Nat.le_of_lt (Nat.lt_of_le_of_lt hge hlt))) (Heap.get?_none_of_le hge) fun b o hb1 hb2 hb => (hsb.2 _ hb2).trans (Heap.get?_push_of_some _ (hx b o hb1 hb))

/-- a def in the class body, its code found -/
theorem def_hit {L fr : Addr} {nm qual : Str} {params : Arguments} {fb : List Stmt} {fs : Scope} {pos : Pos} {clos : List (Str × Addr)} {n2 : Nat} {Q : Flow → Shared → Prop} {p40 : Array Value} {c' : Addr}
    (Y : Bk base mg mb) (h4 : base.get? 41 = some (tabObj p40)) (X : CS base nsA cK PK h p4 es n ps) (hd0 : params.defaults = []) (hk0 : params.kw_defaults = []) (ha : annTrees params none (kEnv L nsA cK fr) = [])
    (hcl : closureFor fs (kEnv L nsA cK fr) = pure clos) (htr : TriplesOk ps.toList) (hnf : codeAmong pos ps.toList = some (.ref c')) (hqn : qualnameIn (kEnv L nsA cK fr) nm nm = qual)
    (hs : ∀ v, storeName (kEnv L nsA cK fr) nm v = localSet (kEnv L nsA cK fr) nm v) (hkk : aRefKeyMayBeTheName nm es = false)
    (e : ∀ v i t, Obj.putName nm i (.str nm t) v ⟨.type "dict", none, .dict es n, #[]⟩ = ⟨.type "dict", none, .dict (es.push ⟨i, .str nm t, v⟩) n2, #[]⟩)
    (hq : ∀ f ctv doc i u h' tk, CS base nsA cK PK h' p4 (es.push ⟨i, .str nm u, .ref f⟩) n2 ps → h'.get? f = some (fnMade nm qual params fb fs clos doc ((mg "__name__").getD .none) c' ctv) →
      h.get? f = none → (∀ b o, b ≠ nsA → h.get? b = some o → h'.get? b = some o) → Q .next ⟨h', g, d, tk, os⟩) :
    wpAny (model prog w) A (exec (.FunctionDef nm params fb [] none [] fs none nm pos) (kEnv L nsA cK fr)) Q E ⟨h, g, d, t, os⟩ := by
  have Yh := Y.at h4 X.ext
  refine nestDef_K hd0 hk0 ha ?_
  rw [hqn]
  refine makeFunction_hit hcl rfl Yh.G rfl X.code X.tab htr hnf (Yh.bat X.tab) fun ctv doc h2 tk hx hsz => ?_
  have hx : ∀ b o, h.get? b = some o → h2.get? b = some o := hx
  have X2 := (X.more hx).more (h' := h2.push (fnMade nm qual params fb fs clos doc ((mg "__name__").getD .none) c' ctv)) fun b o e => Heap.get?_push_of_some _ e
  refine wp_st X2.ns (hs _) hkk (fun i => e _ i _) fun i h3 hsb hn => ?_
  have hNl : nsA < h.objs.size := Heap.lt_size X.ns
  have hNf : h2.objs.size ≠ nsA := Nat.ne_of_gt (Nat.lt_of_lt_of_le hNl hsz)
  exact hq _ ctv doc i _ h3 _ (X2.put hsb hn) ((hsb.2 _ hNf).trans (Heap.get?_push_size _ rfl))
    (Heap.get?_none_of_le hsz) fun b o hb2 hb => (hsb.2 _ hb2).trans (Heap.get?_push_of_some _ (hx b o hb))
end
end
end
section
open PySem PySem.W PyProof.Rows PySem.Calls
set_option maxRecDepth 100000
set_option maxHeartbeats 2000000
section
variable {prog : Program} {w : World} {A : Around} {E : Value → Shared → Prop} {h : Heap} {g : Array GenState} {d : Drawn} {t : Nat} {os : OsState}
noncomputable abbrev Pg : Program := PySem.Challenge.rw_ij0076_01.row.toRowW.prog
noncomputable def ctkDef : Stmt := Pg.main.body.getD 5 default
noncomputable def kStmt : Stmt := match ctkDef with | .FunctionDef _ _ (k :: _) .. => k | _ => default
noncomputable def kBody : List Stmt := match kStmt with | .ClassDef _ _ _ b .. => b | _ => []
structure FD where
  P : Arguments
  B : List Stmt
  S : Scope
  q : Pos
noncomputable def fdOf (s : Stmt) : FD := match s with | .FunctionDef _ P B _ _ _ S _ _ q => ⟨P, B, S, q⟩ | s => ⟨default, [], default, default⟩
noncomputable def kF (i : Nat) : FD := fdOf (kBody.getD (i + 2) default)
noncomputable def FD.stmt (nm : Str) (f : FD) : Stmt := .FunctionDef nm f.P f.B [] none [] f.S none nm f.q
noncomputable def kPos (i : Nat) : Pos := match kBody.getD i default with | .Assign _ _ p => p | _ => default
noncomputable def kNm (i : Nat) : Pos := match kBody.getD i default with | .Assign [.Name _ p] _ _ => p | _ => default
noncomputable def kVal (i : Nat) : PySem.Expr := match kBody.getD i default with | .Assign _ v _ => v | _ => default
noncomputable def kV0 : Pos := match kVal 0 with | .Constant _ _ p => p | _ => default
noncomputable def kV1 : Pos := match kVal 1 with | .List _ p => p | _ => default
noncomputable def kV1a : Pos := match kVal 1 with | .List [.Constant _ _ p] _ => p | _ => default
noncomputable def kV8 : Pos := match kVal 8 with | .Constant _ _ p => p | _ => default
theorem kBody_eq : kBody = [.Assign [.Name "__module__" (kNm 0)] (.Constant (.str "cpy313.functools") 0 kV0) (kPos 0), .Assign [.Name "__slots__" (kNm 1)] (.List [.Constant (.str "obj") 0 kV1a] kV1) (kPos 1),
  (kF 0).stmt "__init__", (kF 1).stmt "__lt__", (kF 2).stmt "__gt__", (kF 3).stmt "__eq__", (kF 4).stmt "__le__", (kF 5).stmt "__ge__", .Assign [.Name "__hash__" (kNm 8)] (.Constant .none 0 kV8) (kPos 8)] := by kernel_rfl
end
end
section
open PySem PySem.W PyProof.Rows PySem.Calls
set_option maxRecDepth 100000
set_option maxHeartbeats 2000000
section
variable {prog : Program} {w : World} {A : Around} {E : Value → Shared → Prop} {h : Heap} {g : Array GenState} {d : Drawn} {t : Nat} {os : OsState}
variable {base h' : Heap} {nsA cK PK : Addr} {p4 : Array Value} {es es' : Array DictEntry} {n n' : Nat} {ps ps' : Array Value} {mg mb : Str → Option Value}
theorem st_mod {L fr : Addr} {es2 : Value → Nat → Array DictEntry} {n2 : Nat} {nm : Str} {x : Str} {p1 p2 p3 : Pos} {Q : Flow → Shared → Prop}
    (X : CS base nsA cK PK h p4 es n ps) (hs : ∀ v, storeName (kEnv L nsA cK fr) nm v = localSet (kEnv L nsA cK fr) nm v) (hkk : aRefKeyMayBeTheName nm es = false)
    (hsw : swapsWith (.Constant (.str x) 0 p2) (some (.Name nm p1)) p3.line (kEnv L nsA cK fr) = pure false)
    (e : ∀ v t i, Obj.putName nm i (.str nm t) v ⟨.type "dict", none, .dict es n, #[]⟩ = ⟨.type "dict", none, .dict (es2 v t) n2, #[]⟩)
    (hq : ∀ h' tk, CS base nsA cK PK h' p4 (es2 (.str x t) (t + 1)) n2 ps → (∀ b o, b ≠ nsA → h.get? b = some o → h'.get? b = some o) → Q .next ⟨h', g, d, tk, os⟩) :
    wpAny (model prog w) A (exec (.Assign [.Name nm p1] (.Constant (.str x) 0 p2) p3) (kEnv L nsA cK fr)) Q E ⟨h, g, d, t, os⟩ := by
  refine wpAny_Assign_Name ?_ hsw
  refine wpAny_Constant_str ?_
  exact wp_st X.ns (hs _) hkk (fun i => e _ _ i) fun i h3 hsb hn => hq h3 _ (X.put hsb hn) fun b o hb e => (hsb.2 _ hb).trans e
theorem st_hash {L fr : Addr} {es2 : Int → Nat → Array DictEntry} {n2 : Nat} {nm : Str} {p1 p2 p3 : Pos} {Q : Flow → Shared → Prop}
    (X : CS base nsA cK PK h p4 es n ps) (hs : ∀ v, storeName (kEnv L nsA cK fr) nm v = localSet (kEnv L nsA cK fr) nm v) (hkk : aRefKeyMayBeTheName nm es = false)
    (hsw : swapsWith (.Constant .none 0 p2) (some (.Name nm p1)) p3.line (kEnv L nsA cK fr) = pure false)
    (e : ∀ t i, Obj.putName nm i (.str nm t) .none ⟨.type "dict", none, .dict es n, #[]⟩ = ⟨.type "dict", none, .dict (es2 i t) n2, #[]⟩)
    (hq : ∀ i h' tk, CS base nsA cK PK h' p4 (es2 i t) n2 ps → (∀ b o, b ≠ nsA → h.get? b = some o → h'.get? b = some o) → Q .next ⟨h', g, d, tk, os⟩) :
    wpAny (model prog w) A (exec (.Assign [.Name nm p1] (.Constant .none 0 p2) p3) (kEnv L nsA cK fr)) Q E ⟨h, g, d, t, os⟩ := by
  refine wpAny_Assign_Name ?_ hsw
  refine wpAny_Constant_none ?_
  exact wp_st X.ns (hs _) hkk (fun i => e _ i) fun i h3 hsb hn => hq i h3 _ (X.put hsb hn) fun b o hb e => (hsb.2 _ hb).trans e
theorem st_slots {L fr : Addr} {es2 : Int → Value → Nat → Array DictEntry} {n2 : Nat} {nm : Str} {x : Str} {p1 p2 p2' p3 : Pos} {Q : Flow → Shared → Prop}
    (X : CS base nsA cK PK h p4 es n ps) (hs : ∀ v, storeName (kEnv L nsA cK fr) nm v = localSet (kEnv L nsA cK fr) nm v) (hkk : aRefKeyMayBeTheName nm es = false)
    (hsw : swapsWith (.List [.Constant (.str x) 0 p2] p2') (some (.Name nm p1)) p3.line (kEnv L nsA cK fr) = pure false)
    (e : ∀ v t i, Obj.putName nm i (.str nm t) v ⟨.type "dict", none, .dict es n, #[]⟩ = ⟨.type "dict", none, .dict (es2 i v t) n2, #[]⟩)
    (hq : ∀ i sl h' tk, CS base nsA cK PK h' p4 (es2 i (.ref sl) (t + 1)) n2 ps → h'.get? sl = some ⟨.type "list", none, .seq #[.str x t] 0, #[]⟩ → h.get? sl = none → (∀ b o, b ≠ nsA → h.get? b = some o → h'.get? b = some o) → Q .next ⟨h', g, d, tk, os⟩) :
    wpAny (model prog w) A (exec (.Assign [.Name nm p1] (.List [.Constant (.str x) 0 p2] p2') p3) (kEnv L nsA cK fr)) Q E ⟨h, g, d, t, os⟩ := by
  refine wpAny_Assign_Name ?_ hsw
  refine wpAny_List ?_
  repeat walk_at "qs"
  refine ⟨Nat.le_of_ble_eq_true rfl, ?_⟩
  have X2 := X.more (h' := h.push { cls := .type "list", data := .seq #[.str x t] }) fun b o e => Heap.get?_push_of_some _ e
  refine wp_st X2.ns (hs _) hkk (fun i => e _ _ i) fun i h3 hsb hn => ?_
  have hne : h.objs.size ≠ nsA := Nat.ne_of_gt (Heap.lt_size X.ns)
  exact hq i _ h3 _ (X2.put hsb hn) ((hsb.2 _ hne).trans (Heap.get?_push_size _ rfl)) (Heap.get?_none_of_le (Nat.le_refl _)) fun b o hb e => (hsb.2 _ hb).trans (Heap.get?_push_of_some _ e)
end
end
section
open PySem PySem.W PyProof.Rows PySem.Calls
set_option maxRecDepth 100000
set_option maxHeartbeats 2000000
section
variable {prog : Program} {w : World} {A : Around} {E : Value → Shared → Prop} {h : Heap} {g : Array GenState} {d : Drawn} {t : Nat} {os : OsState}
variable {base h' : Heap} {nsA cK PK : Addr} {p4 : Array Value} {es es' : Array DictEntry} {n n' : Nat} {ps ps' : Array Value} {mg mb : Str → Option Value}
theorem CS.fresh (X : CS base nsA cK PK h p4 es n ps) {a : Addr} (e : h.get? a = none) : base.get? a = none := by
  cases q : base.get? a with
  | none => rfl
  | some o =>
    by_cases h4 : a = 41
    · rw [h4, X.p41] at e; cases e
    · rw [X.ext _ _ h4 q] at e; cases e
noncomputable def qn (nm : Str) : Str := "cmp_to_key.<locals>.K." ++ nm
noncomputable def clo (L : Addr) : List (Str × Addr) := [("mycmp", L + 1)]
structure FnOk (h : Heap) (base : Heap) (nsA PK : Addr) (fd : FD) (nm : Str) (clos : List (Str × Addr)) (pm : Value) (f c' : Addr) : Prop where
  fn : ∃ doc ctv, h.get? f = some (fnMade nm (qn nm) fd.P fd.B fd.S clos doc pm c' ctv)
  rc : h.CodeRec (.ref c') (qn nm)
  nf : f ≠ nsA ∧ f ≠ PK
  nc : c' ≠ nsA ∧ c' ≠ PK
  bf : base.get? f = none
theorem FnOk.keep {fd : FD} {nm : Str} {clos : List (Str × Addr)} {pm : Value} {f c' : Addr} (F : FnOk h base nsA PK fd nm clos pm f c') (k : ∀ b o, b ≠ PK → b ≠ nsA → h.get? b = some o → h'.get? b = some o) : FnOk h' base nsA PK fd nm clos pm f c' := by
  obtain ⟨⟨doc, ctv, e⟩, ⟨c2, oc, vs, tv, ec, hoc, r⟩, nf, nc, bf⟩ := F
  cases ec
  exact ⟨⟨doc, ctv, k _ _ nf.2 nf.1 e⟩, ⟨_, oc, vs, tv, rfl, k _ _ nc.2 nc.1 hoc, r⟩, nf, nc, bf⟩
theorem FnOk.made {fd : FD} {nm : Str} {clos : List (Str × Addr)} {pm doc ctv : Value} {f c' : Addr} {es2 : Array DictEntry} {n2 : Nat} {ps2 : Array Value} (X : CS base nsA cK PK h p4 es n ps) (X2 : CS base nsA cK PK h' p4 es2 n2 ps2)
    (e : h'.get? f = some (fnMade nm (qn nm) fd.P fd.B fd.S clos doc pm c' ctv)) (rc : h'.CodeRec (.ref c') (qn nm)) (e1 : h.get? f = none) (e2 : c' ≠ nsA ∧ c' ≠ PK) : FnOk h' base nsA PK fd nm clos pm f c' :=
  ⟨⟨doc, ctv, e⟩, rc, ⟨fun q => (by rw [q, X.ns] at e1; cases e1), fun q => (by rw [q, X.tab] at e1; cases e1)⟩, e2, X.fresh e1⟩
theorem CS.ne2 (X : CS base nsA cK PK h p4 es n ps) {c' : Addr} (e : h.get? c' = none) : c' ≠ nsA ∧ c' ≠ PK := ⟨fun q => (by rw [q, X.ns] at e; cases e), fun q => (by rw [q, X.tab] at e; cases e)⟩

noncomputable def ent3 (i0 i1 i2 : Int) (u0 u1 u2 : Tok) (v0 v1 v2 : Value) : Array DictEntry := #[⟨i0, .str "__module__" u0, v0⟩, ⟨i1, .str "__qualname__" u1, v1⟩, ⟨i2, .str "__firstlineno__" u2, v2⟩]
noncomputable def ent11 (i0 i1 i2 i3 i4 i5 i6 i7 i8 i9 i10 : Int) (u0 u1 u2 u3 u4 u5 u6 u7 u8 u9 u10 : Tok) (v0 v1 v2 v3 v4 v5 v6 v7 v8 v9 v10 : Value) : Array DictEntry :=
  #[⟨i0, .str "__module__" u0, v0⟩, ⟨i1, .str "__qualname__" u1, v1⟩, ⟨i2, .str "__firstlineno__" u2, v2⟩, ⟨i3, .str "__slots__" u3, v3⟩,
    ⟨i4, .str "__init__" u4, v4⟩, ⟨i5, .str "__lt__" u5, v5⟩, ⟨i6, .str "__gt__" u6, v6⟩, ⟨i7, .str "__eq__" u7, v7⟩, ⟨i8, .str "__le__" u8, v8⟩, ⟨i9, .str "__ge__" u9, v9⟩, ⟨i10, .str "__hash__" u10, v10⟩]
noncomputable def tab6 (c4 c5 c6 c7 c8 c9 : Addr) : Array Value := #[rawInt (kF 0).q.line, rawInt (kF 0).q.col, .ref c4, rawInt (kF 1).q.line, rawInt (kF 1).q.col, .ref c5, rawInt (kF 2).q.line, rawInt (kF 2).q.col, .ref c6,
  rawInt (kF 3).q.line, rawInt (kF 3).q.col, .ref c7, rawInt (kF 4).q.line, rawInt (kF 4).q.col, .ref c8, rawInt (kF 5).q.line, rawInt (kF 5).q.col, .ref c9]

theorem CS.tabEq (X : CS base nsA cK PK h p4 es n ps) (e : ps = ps') : CS base nsA cK PK h p4 es n ps' := e ▸ X
/-- what the class body leaves -/
structure BodyEnd (base : Heap) (L nsA cK PK : Addr) (p4 : Array Value) (pm : Value) (h' : Heap) (sl f4 f5 f6 f7 f8 f9 c4 c5 c6 c7 c8 c9 : Addr) (ent : Array DictEntry) (n : Nat) : Prop where
  cs : CS base nsA cK PK h' p4 ent n (tab6 c4 c5 c6 c7 c8 c9)
  x4 : FnOk h' base nsA PK (kF 0) "__init__" [] pm f4 c4
  x5 : FnOk h' base nsA PK (kF 1) "__lt__" (clo L) pm f5 c5
  x6 : FnOk h' base nsA PK (kF 2) "__gt__" (clo L) pm f6 c6
  x7 : FnOk h' base nsA PK (kF 3) "__eq__" (clo L) pm f7 c7
  x8 : FnOk h' base nsA PK (kF 4) "__le__" (clo L) pm f8 c8
  x9 : FnOk h' base nsA PK (kF 5) "__ge__" (clo L) pm f9 c9
  lst : ∃ st, h'.get? sl = some ⟨.type "list", none, .seq #[.str "obj" st] 0, #[]⟩

theorem body_miss {L fr : Addr} {p40 : Array Value} {Q : Flow → Shared → Prop} {i0 i1 i2 : Int} {u0 u1 u2 : Tok} {v0 v1 v2 : Value}
    (Y : Bk base mg mb) (hp41 : base.get? 41 = some (tabObj p40)) (X : CS base nsA cK PK h p4 (ent3 i0 i1 i2 u0 u1 u2 v0 v1 v2) 3 #[]) (hf : base.get? PK = none)
    (hq : ∀ mt sl f4 f5 f6 f7 f8 f9 c4 c5 c6 c7 c8 c9 i3 i4 i5 i6 i7 i8 i9 i10 u3 u4 u5 u6 u7 u8 u9 u10 h' tk, BodyEnd base L nsA cK PK p4 ((mg "__name__").getD .none) h' sl f4 f5 f6 f7 f8 f9 c4 c5 c6 c7 c8 c9
      (ent11 i0 i1 i2 i3 i4 i5 i6 i7 i8 i9 i10 u0 u1 u2 u3 u4 u5 u6 u7 u8 u9 u10 (.str "cpy313.functools" mt) v1 v2 (.ref sl) (.ref f4) (.ref f5) (.ref f6) (.ref f7) (.ref f8) (.ref f9) .none) 11 →
      (∀ b o, b ≠ PK → b ≠ nsA → h.get? b = some o → h'.get? b = some o) → (∀ c ∈ [c4, c5, c6, c7, c8, c9], base.get? c = none) → Q .next ⟨h', g, d, tk, os⟩) :
    wpAny (model prog w) A (execs kBody (kEnv L nsA cK fr)) Q E ⟨h, g, d, t, os⟩ := by
  rw [kBody_eq]
  refine wpAny_execs_cons (st_mod (es2 := fun v _ => ent3 i0 i1 i2 u0 u1 u2 v v1 v2) (n2 := 3) X (fun _ => rfl) (by kernel_rfl) rfl (fun _ _ _ => by kernel_rfl) fun h1 t1 X1 k1 => ?_)
  refine wpAny_execs_cons (st_slots (es2 := fun i v u => (ent3 i0 i1 i2 u0 u1 u2 (.str "cpy313.functools" t) v1 v2).push ⟨i, .str "__slots__" u, v⟩) (n2 := 4) X1 (fun _ => rfl) (by kernel_rfl) rfl (fun _ _ _ => by kernel_rfl) fun i3 sl h3 t3 X3 hsl hsf k3 => ?_)
  refine wpAny_execs_cons (def_miss (n2 := 5) (clos := []) (qual := qn "__init__") Y hp41 X3 hf rfl rfl rfl rfl (of_eq_true (by kernel_rfl)) (by kernel_rfl) (by kernel_rfl) (fun _ => rfl) (by kernel_rfl) (fun _ _ _ => by kernel_rfl) fun f4 c4 ct4 doc4 i4 u4 h4 t4 X4_0 e4 r4 ff4 fc4 k4 => ?_)
  have X4 := X4_0.tabEq (show _ = #[rawInt (kF 0).q.line, rawInt (kF 0).q.col, .ref c4] by kernel_rfl)
  have F4 : FnOk h4 base nsA PK (kF 0) "__init__" ([]) _ f4 c4 := FnOk.made X3 X4 e4 r4 ff4 (X3.ne2 fc4)
  refine wpAny_execs_cons (def_miss (n2 := 6) (clos := clo L) (qual := qn "__lt__") Y hp41 X4 hf rfl rfl rfl rfl (of_eq_true (by kernel_rfl)) (by kernel_rfl) (by kernel_rfl) (fun _ => rfl) (by kernel_rfl) (fun _ _ _ => by kernel_rfl) fun f5 c5 ct5 doc5 i5 u5 h5 t5 X5_0 e5 r5 ff5 fc5 k5 => ?_)
  have X5 := X5_0.tabEq (show _ = #[rawInt (kF 0).q.line, rawInt (kF 0).q.col, .ref c4, rawInt (kF 1).q.line, rawInt (kF 1).q.col, .ref c5] by kernel_rfl)
  have F5 : FnOk h5 base nsA PK (kF 1) "__lt__" (clo L) _ f5 c5 := FnOk.made X4 X5 e5 r5 ff5 (X4.ne2 fc5)
  refine wpAny_execs_cons (def_miss (n2 := 7) (clos := clo L) (qual := qn "__gt__") Y hp41 X5 hf rfl rfl rfl rfl (of_eq_true (by kernel_rfl)) (by kernel_rfl) (by kernel_rfl) (fun _ => rfl) (by kernel_rfl) (fun _ _ _ => by kernel_rfl) fun f6 c6 ct6 doc6 i6 u6 h6 t6 X6_0 e6 r6 ff6 fc6 k6 => ?_)
  have X6 := X6_0.tabEq (show _ = #[rawInt (kF 0).q.line, rawInt (kF 0).q.col, .ref c4, rawInt (kF 1).q.line, rawInt (kF 1).q.col, .ref c5, rawInt (kF 2).q.line, rawInt (kF 2).q.col, .ref c6] by kernel_rfl)
  have F6 : FnOk h6 base nsA PK (kF 2) "__gt__" (clo L) _ f6 c6 := FnOk.made X5 X6 e6 r6 ff6 (X5.ne2 fc6)
  refine wpAny_execs_cons (def_miss (n2 := 8) (clos := clo L) (qual := qn "__eq__") Y hp41 X6 hf rfl rfl rfl rfl (of_eq_true (by kernel_rfl)) (by kernel_rfl) (by kernel_rfl) (fun _ => rfl) (by kernel_rfl) (fun _ _ _ => by kernel_rfl) fun f7 c7 ct7 doc7 i7 u7 h7 t7 X7_0 e7 r7 ff7 fc7 k7 => ?_)
  have X7 := X7_0.tabEq (show _ = #[rawInt (kF 0).q.line, rawInt (kF 0).q.col, .ref c4, rawInt (kF 1).q.line, rawInt (kF 1).q.col, .ref c5, rawInt (kF 2).q.line, rawInt (kF 2).q.col, .ref c6, rawInt (kF 3).q.line, rawInt (kF 3).q.col, .ref c7] by kernel_rfl)
  have F7 : FnOk h7 base nsA PK (kF 3) "__eq__" (clo L) _ f7 c7 := FnOk.made X6 X7 e7 r7 ff7 (X6.ne2 fc7)
  refine wpAny_execs_cons (def_miss (n2 := 9) (clos := clo L) (qual := qn "__le__") Y hp41 X7 hf rfl rfl rfl rfl (of_eq_true (by kernel_rfl)) (by kernel_rfl) (by kernel_rfl) (fun _ => rfl) (by kernel_rfl) (fun _ _ _ => by kernel_rfl) fun f8 c8 ct8 doc8 i8 u8 h8 t8 X8_0 e8 r8 ff8 fc8 k8 => ?_)
  have X8 := X8_0.tabEq (show _ = #[rawInt (kF 0).q.line, rawInt (kF 0).q.col, .ref c4, rawInt (kF 1).q.line, rawInt (kF 1).q.col, .ref c5, rawInt (kF 2).q.line, rawInt (kF 2).q.col, .ref c6, rawInt (kF 3).q.line, rawInt (kF 3).q.col, .ref c7, rawInt (kF 4).q.line, rawInt (kF 4).q.col, .ref c8] by kernel_rfl)
  have F8 : FnOk h8 base nsA PK (kF 4) "__le__" (clo L) _ f8 c8 := FnOk.made X7 X8 e8 r8 ff8 (X7.ne2 fc8)
  refine wpAny_execs_cons (def_miss (n2 := 10) (clos := clo L) (qual := qn "__ge__") Y hp41 X8 hf rfl rfl rfl rfl (of_eq_true (by kernel_rfl)) (by kernel_rfl) (by kernel_rfl) (fun _ => rfl) (by kernel_rfl) (fun _ _ _ => by kernel_rfl) fun f9 c9 ct9 doc9 i9 u9 h9 t9 X9 e9 r9 ff9 fc9 k9 => ?_)
  have F9 : FnOk h9 base nsA PK (kF 5) "__ge__" (clo L) _ f9 c9 := FnOk.made X8 X9 e9 r9 ff9 (X8.ne2 fc9)
  have X9' := X9.tabEq (show _ = tab6 c4 c5 c6 c7 c8 c9 by kernel_rfl)
  refine wpAny_execs_cons (st_hash (es2 := fun i u => (ent11 i0 i1 i2 i3 i4 i5 i6 i7 i8 i9 i u0 u1 u2 (t1 + 1) u4 u5 u6 u7 u8 u9 u (.str "cpy313.functools" t) v1 v2 (.ref sl) (.ref f4) (.ref f5) (.ref f6) (.ref f7) (.ref f8) (.ref f9) .none)) (n2 := 11) X9' (fun _ => rfl) (by kernel_rfl) rfl (fun _ _ => by kernel_rfl) fun i10 h10 t10 X10 k10 => ?_)
  refine wpAny_execs_nil ?_
  have nsl : sl ≠ nsA ∧ sl ≠ PK := X1.ne2 hsf
  have hsl4 := k4 _ _ nsl.2 nsl.1 hsl
  have hsl5 := k5 _ _ nsl.2 nsl.1 hsl4
  have hsl6 := k6 _ _ nsl.2 nsl.1 hsl5
  have hsl7 := k7 _ _ nsl.2 nsl.1 hsl6
  have hsl8 := k8 _ _ nsl.2 nsl.1 hsl7
  have hsl9 := k9 _ _ nsl.2 nsl.1 hsl8
  have hsl10 := k10 _ _ nsl.1 hsl9
  have kk10 : ∀ b o, b ≠ PK → b ≠ nsA → h9.get? b = some o → h10.get? b = some o := fun b o _ hb e => k10 b o hb e
  exact hq t sl f4 f5 f6 f7 f8 f9 c4 c5 c6 c7 c8 c9 i3 i4 i5 i6 i7 i8 i9 i10 (t1 + 1) u4 u5 u6 u7 u8 u9 t9 h10 t10 ⟨X10, (((((F4.keep k5).keep k6).keep k7).keep k8).keep k9).keep kk10, ((((F5.keep k6).keep k7).keep k8).keep k9).keep kk10,
    (((F6.keep k7).keep k8).keep k9).keep kk10, ((F7.keep k8).keep k9).keep kk10, (F8.keep k9).keep kk10, F9.keep kk10, ⟨_, hsl10⟩⟩ (fun b o b1 b2 e => kk10 b o b1 b2 (k9 b o b1 b2 (k8 b o b1 b2 (k7 b o b1 b2 (k6 b o b1 b2 (k5 b o b1 b2 (k4 b o b1 b2 (k3 b o b2 (k1 b o b2 e))))))))) (by
    intro c hc
    simp only [List.mem_cons, List.not_mem_nil, or_false] at hc
    rcases hc with rfl | rfl | rfl | rfl | rfl | rfl
    · exact X3.fresh fc4
    · exact X4.fresh fc5
    · exact X5.fresh fc6
    · exact X6.fresh fc7
    · exact X7.fresh fc8
    · exact X8.fresh fc9)
end
end
section
open PySem PySem.W PyProof.Rows PySem.Calls
set_option maxRecDepth 100000
set_option maxHeartbeats 2000000
section
variable {prog : Program} {w : World} {A : Around} {E : Value → Shared → Prop} {h : Heap} {g : Array GenState} {d : Drawn} {t : Nat} {os : OsState}
variable {base h' : Heap} {nsA cK PK : Addr} {p4 : Array Value} {es es' : Array DictEntry} {n n' : Nat} {ps ps' : Array Value} {mg mb : Str → Option Value}
theorem rec_ne {c4 c5 c6 c7 c8 c9 c' : Addr} {q : Str} (X : CS base nsA cK PK h p4 es n (tab6 c4 c5 c6 c7 c8 c9)) (r : h.CodeRec (.ref c') q) : c' ≠ nsA ∧ c' ≠ PK := by
  obtain ⟨c2, oc, vs, tv, ec, hoc, hd, hv⟩ := r
  cases ec
  refine ⟨fun q => ?_, fun q => ?_⟩
  · rw [q, X.ns] at hoc; cases hoc; cases hd
  · rw [q, X.tab] at hoc; cases hoc; cases hd; cases hv
theorem rec_up {c4 c5 c6 c7 c8 c9 c' : Addr} {q : Str} (X : CS base nsA cK PK h p4 es n (tab6 c4 c5 c6 c7 c8 c9)) (r : h.CodeRec (.ref c') q) (k : ∀ b o, b ≠ nsA → h.get? b = some o → h'.get? b = some o) : h'.CodeRec (.ref c') q := by
  have ne := rec_ne X r
  obtain ⟨c2, oc, vs, tv, ec, hoc, r⟩ := r
  cases ec
  exact ⟨_, oc, vs, tv, rfl, k _ _ ne.1 hoc, r⟩
theorem body_hit {L fr : Addr} {p40 : Array Value} {Q : Flow → Shared → Prop} {i0 i1 i2 : Int} {u0 u1 u2 : Tok} {v0 v1 v2 : Value} {c4 c5 c6 c7 c8 c9 : Addr}
    (Y : Bk base mg mb) (hp41 : base.get? 41 = some (tabObj p40)) (X : CS base nsA cK PK h p4 (ent3 i0 i1 i2 u0 u1 u2 v0 v1 v2) 3 (tab6 c4 c5 c6 c7 c8 c9))
    (r4 : h.CodeRec (.ref c4) (qn "__init__")) (r5 : h.CodeRec (.ref c5) (qn "__lt__")) (r6 : h.CodeRec (.ref c6) (qn "__gt__")) (r7 : h.CodeRec (.ref c7) (qn "__eq__")) (r8 : h.CodeRec (.ref c8) (qn "__le__")) (r9 : h.CodeRec (.ref c9) (qn "__ge__"))
    (hq : ∀ mt sl f4 f5 f6 f7 f8 f9 i3 i4 i5 i6 i7 i8 i9 i10 u3 u4 u5 u6 u7 u8 u9 u10 h' tk, BodyEnd base L nsA cK PK p4 ((mg "__name__").getD .none) h' sl f4 f5 f6 f7 f8 f9 c4 c5 c6 c7 c8 c9
      (ent11 i0 i1 i2 i3 i4 i5 i6 i7 i8 i9 i10 u0 u1 u2 u3 u4 u5 u6 u7 u8 u9 u10 (.str "cpy313.functools" mt) v1 v2 (.ref sl) (.ref f4) (.ref f5) (.ref f6) (.ref f7) (.ref f8) (.ref f9) .none) 11 →
      (∀ b o, b ≠ nsA → h.get? b = some o → h'.get? b = some o) → Q .next ⟨h', g, d, tk, os⟩) :
    wpAny (model prog w) A (execs kBody (kEnv L nsA cK fr)) Q E ⟨h, g, d, t, os⟩ := by
  rw [kBody_eq]
  refine wpAny_execs_cons (st_mod (es2 := fun v _ => ent3 i0 i1 i2 u0 u1 u2 v v1 v2) (n2 := 3) X (fun _ => rfl) (by kernel_rfl) rfl (fun _ _ _ => by kernel_rfl) fun h1 t1 X1 k1 => ?_)
  refine wpAny_execs_cons (st_slots (es2 := fun i v u => (ent3 i0 i1 i2 u0 u1 u2 (.str "cpy313.functools" t) v1 v2).push ⟨i, .str "__slots__" u, v⟩) (n2 := 4) X1 (fun _ => rfl) (by kernel_rfl) rfl (fun _ _ _ => by kernel_rfl) fun i3 sl h3 t3 X3 hsl hsf k3 => ?_)
  have q4_3 := rec_up X1 (rec_up X r4 k1) k3
  have q5_3 := rec_up X1 (rec_up X r5 k1) k3
  have q6_3 := rec_up X1 (rec_up X r6 k1) k3
  have q7_3 := rec_up X1 (rec_up X r7 k1) k3
  have q8_3 := rec_up X1 (rec_up X r8 k1) k3
  have q9_3 := rec_up X1 (rec_up X r9 k1) k3
  refine wpAny_execs_cons (def_hit (n2 := 5) (clos := []) (qual := qn "__init__") Y hp41 X3 rfl rfl rfl rfl (of_eq_true (by kernel_rfl)) (c' := c4) (by kernel_rfl) (by kernel_rfl) (fun _ => rfl) (by kernel_rfl) (fun _ _ _ => by kernel_rfl) fun f4 ct4 doc4 i4 u4 h4 t4 X4 e4 ff4 k4 => ?_)
  have q4_4 := rec_up X3 q4_3 k4
  have q5_4 := rec_up X3 q5_3 k4
  have q6_4 := rec_up X3 q6_3 k4
  have q7_4 := rec_up X3 q7_3 k4
  have q8_4 := rec_up X3 q8_3 k4
  have q9_4 := rec_up X3 q9_3 k4
  have F4 : FnOk h4 base nsA PK (kF 0) "__init__" ([]) _ f4 c4 := FnOk.made X3 X4 e4 q4_4 ff4 (rec_ne X3 q4_3)
  have k4' : ∀ b o, b ≠ PK → b ≠ nsA → h3.get? b = some o → h4.get? b = some o := fun b o _ hb e => k4 b o hb e
  refine wpAny_execs_cons (def_hit (n2 := 6) (clos := clo L) (qual := qn "__lt__") Y hp41 X4 rfl rfl rfl rfl (of_eq_true (by kernel_rfl)) (c' := c5) (by kernel_rfl) (by kernel_rfl) (fun _ => rfl) (by kernel_rfl) (fun _ _ _ => by kernel_rfl) fun f5 ct5 doc5 i5 u5 h5 t5 X5 e5 ff5 k5 => ?_)
  have q4_5 := rec_up X4 q4_4 k5
  have q5_5 := rec_up X4 q5_4 k5
  have q6_5 := rec_up X4 q6_4 k5
  have q7_5 := rec_up X4 q7_4 k5
  have q8_5 := rec_up X4 q8_4 k5
  have q9_5 := rec_up X4 q9_4 k5
  have F5 : FnOk h5 base nsA PK (kF 1) "__lt__" (clo L) _ f5 c5 := FnOk.made X4 X5 e5 q5_5 ff5 (rec_ne X4 q5_4)
  have k5' : ∀ b o, b ≠ PK → b ≠ nsA → h4.get? b = some o → h5.get? b = some o := fun b o _ hb e => k5 b o hb e
  refine wpAny_execs_cons (def_hit (n2 := 7) (clos := clo L) (qual := qn "__gt__") Y hp41 X5 rfl rfl rfl rfl (of_eq_true (by kernel_rfl)) (c' := c6) (by kernel_rfl) (by kernel_rfl) (fun _ => rfl) (by kernel_rfl) (fun _ _ _ => by kernel_rfl) fun f6 ct6 doc6 i6 u6 h6 t6 X6 e6 ff6 k6 => ?_)
  have q4_6 := rec_up X5 q4_5 k6
  have q5_6 := rec_up X5 q5_5 k6
  have q6_6 := rec_up X5 q6_5 k6
  have q7_6 := rec_up X5 q7_5 k6
  have q8_6 := rec_up X5 q8_5 k6
  have q9_6 := rec_up X5 q9_5 k6
  have F6 : FnOk h6 base nsA PK (kF 2) "__gt__" (clo L) _ f6 c6 := FnOk.made X5 X6 e6 q6_6 ff6 (rec_ne X5 q6_5)
  have k6' : ∀ b o, b ≠ PK → b ≠ nsA → h5.get? b = some o → h6.get? b = some o := fun b o _ hb e => k6 b o hb e
  refine wpAny_execs_cons (def_hit (n2 := 8) (clos := clo L) (qual := qn "__eq__") Y hp41 X6 rfl rfl rfl rfl (of_eq_true (by kernel_rfl)) (c' := c7) (by kernel_rfl) (by kernel_rfl) (fun _ => rfl) (by kernel_rfl) (fun _ _ _ => by kernel_rfl) fun f7 ct7 doc7 i7 u7 h7 t7 X7 e7 ff7 k7 => ?_)
  have q4_7 := rec_up X6 q4_6 k7
  have q5_7 := rec_up X6 q5_6 k7
  have q6_7 := rec_up X6 q6_6 k7
  have q7_7 := rec_up X6 q7_6 k7
  have q8_7 := rec_up X6 q8_6 k7
  have q9_7 := rec_up X6 q9_6 k7
  have F7 : FnOk h7 base nsA PK (kF 3) "__eq__" (clo L) _ f7 c7 := FnOk.made X6 X7 e7 q7_7 ff7 (rec_ne X6 q7_6)
  have k7' : ∀ b o, b ≠ PK → b ≠ nsA → h6.get? b = some o → h7.get? b = some o := fun b o _ hb e => k7 b o hb e
  refine wpAny_execs_cons (def_hit (n2 := 9) (clos := clo L) (qual := qn "__le__") Y hp41 X7 rfl rfl rfl rfl (of_eq_true (by kernel_rfl)) (c' := c8) (by kernel_rfl) (by kernel_rfl) (fun _ => rfl) (by kernel_rfl) (fun _ _ _ => by kernel_rfl) fun f8 ct8 doc8 i8 u8 h8 t8 X8 e8 ff8 k8 => ?_)
  have q4_8 := rec_up X7 q4_7 k8
  have q5_8 := rec_up X7 q5_7 k8
  have q6_8 := rec_up X7 q6_7 k8
  have q7_8 := rec_up X7 q7_7 k8
  have q8_8 := rec_up X7 q8_7 k8
  have q9_8 := rec_up X7 q9_7 k8
  have F8 : FnOk h8 base nsA PK (kF 4) "__le__" (clo L) _ f8 c8 := FnOk.made X7 X8 e8 q8_8 ff8 (rec_ne X7 q8_7)
  have k8' : ∀ b o, b ≠ PK → b ≠ nsA → h7.get? b = some o → h8.get? b = some o := fun b o _ hb e => k8 b o hb e
  refine wpAny_execs_cons (def_hit (n2 := 10) (clos := clo L) (qual := qn "__ge__") Y hp41 X8 rfl rfl rfl rfl (of_eq_true (by kernel_rfl)) (c' := c9) (by kernel_rfl) (by kernel_rfl) (fun _ => rfl) (by kernel_rfl) (fun _ _ _ => by kernel_rfl) fun f9 ct9 doc9 i9 u9 h9 t9 X9 e9 ff9 k9 => ?_)
  have q4_9 := rec_up X8 q4_8 k9
  have q5_9 := rec_up X8 q5_8 k9
  have q6_9 := rec_up X8 q6_8 k9
  have q7_9 := rec_up X8 q7_8 k9
  have q8_9 := rec_up X8 q8_8 k9
  have q9_9 := rec_up X8 q9_8 k9
  have F9 : FnOk h9 base nsA PK (kF 5) "__ge__" (clo L) _ f9 c9 := FnOk.made X8 X9 e9 q9_9 ff9 (rec_ne X8 q9_8)
  have k9' : ∀ b o, b ≠ PK → b ≠ nsA → h8.get? b = some o → h9.get? b = some o := fun b o _ hb e => k9 b o hb e
  refine wpAny_execs_cons (st_hash (es2 := fun i u => (ent11 i0 i1 i2 i3 i4 i5 i6 i7 i8 i9 i u0 u1 u2 (t1 + 1) u4 u5 u6 u7 u8 u9 u (.str "cpy313.functools" t) v1 v2 (.ref sl) (.ref f4) (.ref f5) (.ref f6) (.ref f7) (.ref f8) (.ref f9) .none)) (n2 := 11) X9 (fun _ => rfl) (by kernel_rfl) rfl (fun _ _ => by kernel_rfl) fun i10 h10 t10 X10 k10 => ?_)
  refine wpAny_execs_nil ?_
  have nsl : sl ≠ nsA := (X1.ne2 hsf).1
  have hsl10 := k10 _ _ nsl (k9 _ _ nsl (k8 _ _ nsl (k7 _ _ nsl (k6 _ _ nsl (k5 _ _ nsl (k4 _ _ nsl hsl))))))
  have kk10 : ∀ b o, b ≠ PK → b ≠ nsA → h9.get? b = some o → h10.get? b = some o := fun b o _ hb e => k10 b o hb e
  exact hq t sl f4 f5 f6 f7 f8 f9 i3 i4 i5 i6 i7 i8 i9 i10 (t1 + 1) u4 u5 u6 u7 u8 u9 t9 h10 t10 ⟨X10, (((((F4.keep k5').keep k6').keep k7').keep k8').keep k9').keep kk10, ((((F5.keep k6').keep k7').keep k8').keep k9').keep kk10,
    (((F6.keep k7').keep k8').keep k9').keep kk10, ((F7.keep k8').keep k9').keep kk10, (F8.keep k9').keep kk10, F9.keep kk10, ⟨_, hsl10⟩⟩ fun b o b2 e => k10 b o b2 (k9 b o b2 (k8 b o b2 (k7 b o b2 (k6 b o b2 (k5 b o b2 (k4 b o b2 (k3 b o b2 (k1 b o b2 e))))))))
end
end
section
open PySem PySem.W PyProof.Rows PySem.Calls
set_option maxRecDepth 100000
set_option maxHeartbeats 2000000
section
variable {prog : Program} {w : World} {A : Around} {E : Value → Shared → Prop} {h : Heap} {g : Array GenState} {d : Drawn} {t : Nat} {os : OsState}
variable {base h' : Heap} {nsA cK PK : Addr} {p4 : Array Value} {es es' : Array DictEntry} {n n' : Nat} {ps ps' : Array Value} {mg mb : Str → Option Value}
theorem stopCC {M : Model} {nm q : Str} {sc : Scope} {fl : Nat} {e : Env} {p : Pos} {Q : Value → Shared → Prop} {s : Shared} (h : Stuck' (wpAny M A (classCode e p fl nm q sc) Q E s)) : wpAny M A (classCode e p fl nm q sc) Q E s := h
theorem stopGA {M : Model} {v : Value} {n : Str} {Q : Option Value → Shared → Prop} {s : Shared} (h : Stuck' (wpAny M A (getAttr? v n) Q E s)) : wpAny M A (getAttr? v n) Q E s := h
theorem stopCall {M : Model} {v : Value} {l : List Value} {k : List (Str × Value)} {Q : Value → Shared → Prop} {s : Shared} (h : Stuck' (wpAny M A (call v l k) Q E s)) : wpAny M A (call v l k) Q E s := h
theorem stopEF {M : Model} {k : Nat} {Q : Unit → Shared → Prop} {s : Shared} (h : Stuck' (wpAny M A (enterFrame k) Q E s)) : wpAny M A (enterFrame k) Q E s := h
theorem stopSt {M : Model} {e : Env} {nm : Str} {v : Value} {Q : Unit → Shared → Prop} {s : Shared} (h : Stuck' (wpAny M A (storeName e nm v) Q E s)) : wpAny M A (storeName e nm v) Q E s := h
theorem stopLn {M : Model} {e : Env} {nm : Str} {Q : Value → Shared → Prop} {s : Shared} (h : Stuck' (wpAny M A (loadName e nm) Q E s)) : wpAny M A (loadName e nm) Q E s := h
theorem stopRun {M : Model} {c : Code} {k : Option Value} {Q : Flow → Shared → Prop} {s : Shared} (h : Stuck' (wpAny M A (run c k) Q E s)) : wpAny M A (run c k) Q E s := h
theorem stopBF {M : Model} {a b : Addr} {Q : Addr → Shared → Prop} {s : Shared} (h : Stuck' (wpAny M A (builtinsFor a b) Q E s)) : wpAny M A (builtinsFor a b) Q E s := h
theorem dict_getitem : typeLookup (.type "dict") "__getitem__" = pure (some (.builtin "dict.__getitem__")) := by rw [typeLookup_type, builtinLookup_eq_fast]; kernel_rfl
theorem wp_specD {v : Value} {a : Addr} {es : Array DictEntry} {n : Nat} {Q : Option Value → Shared → Prop} (ev : v = .ref a) (hn : h.get? a = some ⟨.type "dict", none, .dict es n, #[]⟩) (hq : Q (some (.builtin "dict.__getitem__")) ⟨h, g, d, t, os⟩) :
    wpAny (model prog w) A (specialOf v "__getitem__") Q E ⟨h, g, d, t, os⟩ := by
  subst ev
  exact wpAny_specialOf ⟨_, hn, rfl⟩ dict_getitem hq
theorem cc_hit {L : Addr} {pos : Pos} {fl : Nat} {nm q : Str} {sc : Scope} {cv : Value} {Q : Value → Shared → Prop} (C : CodeHd h 45 41) (h4 : h.get? 41 = some (tabObj p4)) (hf : codeAmong pos p4.toList = some cv) (hq : Q cv ⟨h, g, d, t, os⟩) :
    wpAny (model prog w) A (classCode (fEnv L) pos fl nm q sc) Q E ⟨h, g, d, t, os⟩ := by
  obtain ⟨o, vs, file, tf, flags, tg, inF, text, tt, e1, e2, e3, e4, e5, _⟩ := C
  unfold classCode codeAt
  refine wpAny_ite_false rfl ?_
  refine wpAny_bind (wpAny_fieldsOf e1 e3 ?_)
  rw [e5]
  refine wpAny_bind (wpAny_fieldsOf h4 rfl ?_)
  rw [hf]
  exact wpAny_pure hq
theorem cc_miss {L : Addr} {pos : Pos} {fl : Nat} {nm q : Str} {sc : Scope} {Q : Value → Shared → Prop} (C : CodeHd h 45 41) (h4 : h.get? 41 = some (tabObj #[]))
    (hq : ∀ c P h' tk, Heap.ExtBut 41 h h' → h.get? c = none → h.get? P = none → CodeHd h' c P → h'.get? P = some (tabObj #[]) → h'.get? 41 = some (tabObj #[rawInt pos.line, rawInt pos.col, .ref c]) → Q (.ref c) ⟨h', g, d, tk, os⟩) :
    wpAny (model prog w) A (classCode (fEnv L) pos fl nm q sc) Q E ⟨h, g, d, t, os⟩ := by
  obtain ⟨o, vs, file, tf, flags, tg, inF, text, tt, e1, e2, e3, e4, e5, e6, e7, e8, e9, e10⟩ := C
  unfold classCode codeAt
  refine wpAny_ite_false rfl ?_
  refine wpAny_bind (wpAny_fieldsOf e1 e3 ?_)
  rw [e5]
  refine wpAny_bind (wpAny_fieldsOf h4 rfl ?_)
  show wpAny _ _ (match (vs.getD 18 .none, vs.getD 7 .none, vs.getD 9 .none, vs.getD 10 .none) with | _ => _) _ _ _
  rw [e6, e7, e8, e9]
  refine wpAny_bind (wpAny_newCodeX fun c P h' tk hk hc hP hcode htab hrec => ?_)
  have hc : h.objs.size ≤ c := hc
  have hP : h.objs.size ≤ P := hP
  have hk : ∀ b o, h.get? b = some o → h'.get? b = some o := hk
  have h4' := hk _ _ h4
  refine wpAny_bind (wpAny_updateFieldsOfTheText h4' rfl ?_)
  have hg : (h'.update 41 (Obj.mapFields fun vs => if (codeAmong pos vs.toList).isSome = true then vs else vs ++ #[rawInt pos.line, rawInt pos.col, .ref c])).get? 41 = some (tabObj #[rawInt pos.line, rawInt pos.col, .ref c]) :=
    Heap.get?_update_self _ h4' rfl
  have hsb := Heap.SameBut.update h' 41 (Obj.mapFields fun vs => if (codeAmong pos vs.toList).isSome = true then vs else vs ++ #[rawInt pos.line, rawInt pos.col, .ref c])
  refine wpAny_bind (wpAny_fieldsOf hg rfl ?_)
  have hca : codeAmong pos [rawInt pos.line, rawInt pos.col, .ref c] = some (.ref c) := by
    show (if ((pos.line : Int) == pos.line && (pos.col : Int) == pos.col) = true then some (Value.ref c) else codeAmong pos []) = _
    rw [if_pos (by simp)]
  rw [hca]
  have nc : c ≠ 41 := fun q => by rw [q] at hc; exact absurd (Heap.lt_size h4) (Nat.not_lt.mpr hc)
  have nP : P ≠ 41 := fun q => by rw [q] at hP; exact absurd (Heap.lt_size h4) (Nat.not_lt.mpr hP)
  have hcd := CodeHd.of hcode htab
  refine wpAny_pure (hq c P _ _ (fun b o hb e => (hsb.2 _ hb).trans (hk _ _ e)) (Heap.get?_none_of_le hc) (Heap.get?_none_of_le hP) ?_ ((hsb.2 _ nP).trans htab.2) hg)
  obtain ⟨o2, vs2, file2, tf2, flags2, tg2, inF2, text2, tt2, e, r⟩ := hcd
  exact ⟨o2, vs2, file2, tf2, flags2, tg2, inF2, text2, tt2, (hsb.2 _ nc).trans e, r⟩
end
end
section
open PySem PySem.W PyProof.Rows PySem.Calls
set_option maxRecDepth 100000
set_option maxHeartbeats 2000000
section
variable {prog : Program} {w : World} {A : Around} {E : Value → Shared → Prop} {h : Heap} {g : Array GenState} {d : Drawn} {t : Nat} {os : OsState}
theorem made_type : Bind.madeBy (.type "type") = pure (some "type.__new__") := by kernel_rfl
theorem mro_type : mroOf (.type "type") = pure [.type "type", .type "object"] := by rw [mroOf_type]; kernel_rfl
theorem init_type : typeLookup (.type "type") "__init__" = pure (some (.builtin "type.__init__")) := by rw [typeLookup_type, builtinLookup_eq_fast]; kernel_rfl
theorem ctc_type (a b c : Value) : checkTypeCall "type" ⟨[a, b, c], []⟩ = pure () := by kernel_rfl
theorem stopCall' {M : Model} {v : Value} {l : List Value} {k : List (Str × Value)} {Q : Value → Shared → Prop} {s : Shared} (h : Stuck' (wpAny M A (call v l k) Q E s)) : wpAny M A (call v l k) Q E s := h
theorem stopCTC {M : Model} {n : String} {a : Args} {Q : Unit → Shared → Prop} {s : Shared} (h : Stuck' (wpAny M A (checkTypeCall n a) Q E s)) : wpAny M A (checkTypeCall n a) Q E s := h
local macro_rules | `(tactic| walk_at "qs") => `(tactic| with_reducible (first | refine wpS made_type ?_ | refine wpS mro_type ?_ | refine wpS init_type ?_))
theorem newCall_type (a b c : Value) : checkBuiltinCall "type.__new__" ⟨[.type "type", a, b, c], []⟩ = pure () := by kernel_rfl
theorem plain_tnew : plainId "type.__new__" = true := by decide +kernel
theorem entry_tnew : entryFor table "type.__new__" = some Builtin.«type.__new__» := entryFor_of_tree (by kernel_rfl)
theorem stopCS {M : Model} {v : Value} {n : Str} {l : List Value} {k : List (Str × Value)} {Q : Option Value → Shared → Prop} {s : Shared} (h : Stuck' (wpAny M A (callSpecial? v n l k) Q E s)) : wpAny M A (callSpecial? v n l k) Q E s := h
theorem tcall {Q : Value → Shared → Prop} {nsA bt sl : Addr} {nt qt mt st : Tok} {n nb nl : Nat} {i0 i1 i2 i3 i4 i5 i6 i7 i8 i9 i10 i11 : Int} {u0 u1 u2 u3 u4 u5 u6 u7 u8 u9 u10 u11 : Tok} {fl : Int} {ft : Tok} {f4 f5 f6 f7 f8 f9 sa : Addr} {df4 df5 df6 df7 df8 df9 : Option Addr} {dt4 dt5 dt6 dt7 dt8 dt9 : Data} {sl4 sl5 sl6 sl7 sl8 sl9 : Array (Option Value)} {as : Array Value} {na : Nat}
    (hns : h.get? nsA = some ⟨.type "dict", none, .dict (ents i0 i1 i2 i3 i4 i5 i6 i7 i8 i9 i10 i11 u0 u1 u2 u3 u4 u5 u6 u7 u8 u9 u10 u11 (.str "cpy313.functools" mt) (.str "cmp_to_key.<locals>.K" qt) (.int fl ft) (.ref sl) (.ref f4) (.ref f5) (.ref f6) (.ref f7) (.ref f8) (.ref f9) .none (.ref sa)) n, #[]⟩)
    (hbt : h.get? bt = some ⟨.type "tuple", none, .seq #[.type "object"] nb, #[]⟩)
    (hsl : h.get? sl = some ⟨.type "list", none, .seq #[.str "obj" st] nl, #[]⟩)
    (hsa : h.get? sa = some ⟨.type "tuple", none, .seq as na, #[]⟩)
    (hf4 : h.get? f4 = some ⟨.type "function", df4, dt4, sl4⟩) (hf5 : h.get? f5 = some ⟨.type "function", df5, dt5, sl5⟩) (hf6 : h.get? f6 = some ⟨.type "function", df6, dt6, sl6⟩)
    (hf7 : h.get? f7 = some ⟨.type "function", df7, dt7, sl7⟩) (hf8 : h.get? f8 = some ⟨.type "function", df8, dt8, sl8⟩) (hf9 : h.get? f9 = some ⟨.type "function", df9, dt9, sl9⟩)
    (h1s : nsA ≠ sysModules)
    (hno : ∀ h', (∀ y o, h.get? y = some o → h'.get? y = some o) → ∀ C, Looks (model prog w) h' (opaqueClassAbove (.ref C)) none)
    (hq : ∀ C N P iP iD h8 h' tk, X.Mem h h8 [] [(P, ⟨.type "member_descriptor", none, .fields #[.str "obj" t, .ref C, .builtin "proto.slot", .builtin "proto.slot#set", rawInt 0], #[]⟩),
        (C, { cls := .type "type", dict := none, data := .cls { name := "K", bases := [.type "object"], mro := [.ref C, .type "object"], ns := N, qualname := "cmp_to_key.<locals>.K", hasDict := false, slotNames := ["obj"] }, slots := #[some (.ref bt), none, some (.str "K" nt), some (.str "cmp_to_key.<locals>.K" qt), some (.builtin "object.__new__"), some (.bool false)] }),
        (N, ⟨.type "dict", none, .dict (ents4 i0 i2 i3 i4 i5 i6 i7 i8 i9 i10 i11 iP iD u0 u2 u3 u4 u5 u6 u7 u8 u9 u10 u11 (t + 1) (t + 2) (.str "cpy313.functools" mt) (.int fl ft) (.ref sl) (.ref f4) (.ref f5) (.ref f6) (.ref f7) (.ref f8) (.ref f9) .none (.ref sa) (.ref P) .none) 3, #[]⟩)] →
      (∀ y o, h8.get? y = some o → h'.get? y = some o) → Q (.ref C) ⟨h', g, d, tk, os⟩) :
    wpAny (model prog w) A (call (.type "type") [.str "K" nt, .ref bt, .ref nsA] []) Q E ⟨h, g, d, t, os⟩ := by
  refine wpAny_call (codeAny_of_tree ?_)
  show wpAny _ _ (callAny (.type "type") _) _ _ _
  refine wpAny_pure ⟨Code.quiet_builtin _ (by decide +kernel), codeAny_builtin F.entry_type_call ?_⟩
  rw [Around.under_plain (weight_type_call_type "type" [.str "K" nt, .ref bt, .ref nsA] []) rfl]
  unfold Builtin.«type.__call__»
  repeat (first | (with_reducible refine stopCTC ?_) | walk_at "qs" | ((with_reducible refine wpAny_ite_false ?e1 ?_); case e1 => (decide +kernel)))
  unfold Stuck'
  refine wpS (ctc_type _ _ _) ?_
  repeat (first | (with_reducible refine stopCall' ?_) | walk_at "qs" | ((with_reducible refine wpAny_ite_false ?e1 ?_); case e1 => (decide +kernel)))
  unfold Stuck'
  refine wpAny_call (codeAny_of_tree ?_)
  show wpAny _ _ (do checkBuiltinCall "type.__new__" ⟨[.type "type", .str "K" nt, .ref bt, .ref nsA], []⟩; again (.builtin "type.__new__" ⟨[.type "type", .str "K" nt, .ref bt, .ref nsA], []⟩)) _ _ _
  refine wpAny_bind (wpS (newCall_type _ _ _) (wpAny_pure ⟨plainId_quiet plain_tnew _, codeAny_builtin entry_tnew ?_⟩))
  rw [Around.under_plainId plain_tnew _]
  refine tnew hns hbt hsl hsa hf4 hf5 hf6 hf7 hf8 hf9 h1s hno fun C N P iP iD h8 h' tk D8 up8 => ?_
  have hC := up8 _ _ (D8.at 1 _ _ rfl)
  repeat (first | (with_reducible refine stopCS ?_) | (with_reducible refine wpAny_loadPart' hC ?_) | (with_reducible refine wpAny_load' hC ?_) | walk_at "qs")
  unfold Stuck' callSpecial?
  refine wpAny_bind (wpAny_specialOf ⟨_, hC, rfl⟩ init_type (wpAny_holding ?_))
  refine wpAny_bind (wpAny_of_eq (slot_type_init.bind _) ?_)
  refine wpAny_bind ?_
  show wpAny _ _ (call (.builtin "type.__init__") [.ref C, .str "K" nt, .ref bt, .ref nsA] []) _ _ _
  refine P_init hC fun t' => ?_
  repeat walk_at "qs"
  exact hq C N P iP iD h8 h' t' D8 up8
end
end
section
open PySem PySem.W PyProof.Rows PySem.Calls
set_option maxRecDepth 100000
set_option maxHeartbeats 2000000
section
variable {prog : Program} {w : World} {A : Around} {E : Value → Shared → Prop} {h : Heap} {g : Array GenState} {d : Drawn} {t : Nat} {os : OsState}
variable {base h' : Heap} {nsA cK PK : Addr} {p4 : Array Value} {es es' : Array DictEntry} {n n' : Nat} {ps ps' : Array Value} {mg mb : Str → Option Value}
theorem BodyEnd.up {L : Addr} {pm : Value} {sl f4 f5 f6 f7 f8 f9 c4 c5 c6 c7 c8 c9 : Addr} {es2 : Array DictEntry} {n2 : Nat} {h2 : Heap} (Z : BodyEnd base L nsA cK PK p4 pm h sl f4 f5 f6 f7 f8 f9 c4 c5 c6 c7 c8 c9 es n)
    (k : ∀ b o, h.get? b = some o → h'.get? b = some o) (hs : Heap.SameBut nsA h' h2) (hn : h2.get? nsA = some ⟨.type "dict", none, .dict es2 n2, #[]⟩) (hsl : sl ≠ nsA) : BodyEnd base L nsA cK PK p4 pm h2 sl f4 f5 f6 f7 f8 f9 c4 c5 c6 c7 c8 c9 es2 n2 := by
  have kk : ∀ b o, b ≠ PK → b ≠ nsA → h.get? b = some o → h2.get? b = some o := fun b o _ hb e => (hs.2 _ hb).trans (k _ _ e)
  obtain ⟨st, e⟩ := Z.lst
  exact ⟨(Z.cs.more k).put hs hn, Z.x4.keep kk, Z.x5.keep kk, Z.x6.keep kk, Z.x7.keep kk, Z.x8.keep kk, Z.x9.keep kk, st, (hs.2 _ hsl).trans (k _ _ e)⟩
noncomputable def IsC (C N : Addr) (o : Obj) : Prop := ∃ bt nt qt, o = { cls := .type "type", dict := none, data := .cls { name := "K", bases := [.type "object"], mro := [.ref C, .type "object"], ns := N, qualname := "cmp_to_key.<locals>.K", hasDict := false, slotNames := ["obj"] }, slots := #[some (.ref bt), none, some (.str "K" nt), some (.str "cmp_to_key.<locals>.K" qt), some (.builtin "object.__new__"), some (.bool false)] }
noncomputable def IsN (P f4 f5 : Addr) (o : Obj) : Prop := ∃ i0 i2 i3 i4 i5 i6 i7 i8 i9 i10 i11 i12 i13 u0 u2 u3 u4 u5 u6 u7 u8 u9 u10 u11 u12 u13 v0 v2 v3 v6 v7 v8 v9 v10 v11 v13 n,
  o = ⟨.type "dict", none, .dict (ents4 i0 i2 i3 i4 i5 i6 i7 i8 i9 i10 i11 i12 i13 u0 u2 u3 u4 u5 u6 u7 u8 u9 u10 u11 u12 u13 v0 v2 v3 (.ref f4) (.ref f5) v6 v7 v8 v9 v10 v11 (.ref P) v13) n, #[]⟩
noncomputable def IsP (C : Addr) (o : Obj) : Prop := ∃ ot, o = ⟨.type "member_descriptor", none, .fields #[.str "obj" ot, .ref C, .builtin "proto.slot", .builtin "proto.slot#set", rawInt 0], #[]⟩
noncomputable def IsFn (nm : Str) (fd : FD) (clos : List (Str × Addr)) (pm : Value) (c' : Addr) (o : Obj) : Prop := ∃ doc ctv, o = fnMade nm (qn nm) fd.P fd.B fd.S clos doc pm c' ctv
/-- what the class statement leaves: the class -/
structure KCls (base : Heap) (L : Addr) (pm : Value) (h : Heap) (C N P f4 f5 c4 c5 : Addr) : Prop where
  cls : ∃ o, h.get? C = some o ∧ IsC C N o
  ns : ∃ o, h.get? N = some o ∧ IsN P f4 f5 o
  desc : ∃ o, h.get? P = some o ∧ IsP C o
  fn4 : ∃ o, h.get? f4 = some o ∧ IsFn "__init__" (kF 0) [] pm c4 o
  fn5 : ∃ o, h.get? f5 = some o ∧ IsFn "__lt__" (kF 1) (clo L) pm c5 o
  fr : ∀ a ∈ [C, N, P, f4, f5], base.get? a = none
structure KTab (h : Heap) (pos : Pos) (cK PK c4 c5 c6 c7 c8 c9 : Addr) : Prop where
  p41 : h.get? 41 = some (tabObj #[rawInt pos.line, rawInt pos.col, .ref cK])
  n41 : PK ≠ 41
  code : CodeHd h cK PK
  tab : h.get? PK = some (tabObj (tab6 c4 c5 c6 c7 c8 c9))
  r4 : h.CodeRec (.ref c4) (qn "__init__")
  r5 : h.CodeRec (.ref c5) (qn "__lt__")
  r6 : h.CodeRec (.ref c6) (qn "__gt__")
  r7 : h.CodeRec (.ref c7) (qn "__eq__")
  r8 : h.CodeRec (.ref c8) (qn "__le__")
  r9 : h.CodeRec (.ref c9) (qn "__ge__")
theorem ln_name {L nsA cK fr : Addr} {nmV : Value} {Q : Value → Shared → Prop} (hns : h.get? nsA = some ⟨.type "dict", none, .dict #[] 0, #[]⟩) (G : h.Ns mainGlobals mg) (hnm : mg "__name__" = some nmV) (hq : Q nmV ⟨h, g, d, t, os⟩) :
    wpAny (model prog w) A (loadName (kEnv L nsA cK fr) "__name__") Q E ⟨h, g, d, t, os⟩ := by
  have e1 : loadName (kEnv L nsA cK fr) "__name__" = (do
      if let some v ← localGet (kEnv L nsA cK fr) "__name__" then return v
      loadGlobal (kEnv L nsA cK fr) "__name__") := rfl
  rw [e1]
  unfold localGet loadGlobal
  refine wpAny_bind (wpAny_bind (wpAny_load hns (wpAny_ite_true rfl ?_)))
  unfold nsGet
  refine wpAny_bind (wpAny_bind (wpAny_loadPart' hns (wpAny_pure ?_)))
  refine wpS (v := none) (by kernel_rfl) ?_
  exact wpAny_bind (wp_nsAt G rfl hnm (wpAny_pure hq))
theorem clo_K (L : Addr) : closureFor cScope (fEnv L) = (pure [(("mycmp" : Str), L + 1)] : Sem (List (Str × Addr))) := by kernel_rfl
theorem bc_gen {L : Addr} {Q : Value → Shared → Prop} {p1 pos : Pos} {nmV : Value} {fl : Nat} {q41 ps : Array Value} {FK : Addr → Addr → Prop} {FC : Addr → Addr → Addr → Addr → Addr → Addr → Prop}
    (Y : Bk h mg mb) (C : CodeHd h 45 41) (h4 : h.get? 41 = some (tabObj q41)) (hdep : A.depth < recursionLimit) (hnm : mg "__name__" = some nmV)
    (ho : ∀ h', Heap.ExtBut 41 h h' → ∀ C, Looks (model prog w) h' (opaqueClassAbove (.ref C)) none)
    (hcc : ∀ {A' : Around} {E' Q' : Value → Shared → Prop} {h3 : Heap} {t3 : Nat} {nm q : Str} {sc : Scope}, (∀ b o, h.get? b = some o → h3.get? b = some o) → (∃ o, h3.get? h.objs.size = some o) →
      (∀ cK PK h5 t5, Heap.ExtBut 41 h3 h5 → FK cK PK → PK ≠ 41 → h.objs.size ≠ PK → CodeHd h5 cK PK → h5.get? PK = some (tabObj ps) → h5.get? 41 = some (tabObj #[rawInt pos.line, rawInt pos.col, .ref cK]) → Q' (.ref cK) ⟨h5, g, d, t5, os⟩) →
      wpAny (model prog w) A' (classCode (fEnv L) pos fl nm q sc) Q' E' ⟨h3, g, d, t3, os⟩)
    (hbody : ∀ {A' : Around} {E' : Value → Shared → Prop} {Q' : Flow → Shared → Prop} {nsA cK PK fr : Addr} {h9 : Heap} {t9 : Nat} {i0 i1 i2 : Int} {u0 u1 u2 : Tok} {v0 v1 v2 : Value}, FK cK PK →
      CS h nsA cK PK h9 #[rawInt pos.line, rawInt pos.col, .ref cK] (ent3 i0 i1 i2 u0 u1 u2 v0 v1 v2) 3 ps →
      (∀ mt sl f4 f5 f6 f7 f8 f9 c4 c5 c6 c7 c8 c9 i3 i4 i5 i6 i7 i8 i9 i10 u3 u4 u5 u6 u7 u8 u9 u10 h' tk, BodyEnd h L nsA cK PK #[rawInt pos.line, rawInt pos.col, .ref cK] ((mg "__name__").getD .none) h' sl f4 f5 f6 f7 f8 f9 c4 c5 c6 c7 c8 c9
        (ent11 i0 i1 i2 i3 i4 i5 i6 i7 i8 i9 i10 u0 u1 u2 u3 u4 u5 u6 u7 u8 u9 u10 (.str "cpy313.functools" mt) v1 v2 (.ref sl) (.ref f4) (.ref f5) (.ref f6) (.ref f7) (.ref f8) (.ref f9) .none) 11 →
        (∀ b o, b ≠ PK → b ≠ nsA → h9.get? b = some o → h'.get? b = some o) → FC c4 c5 c6 c7 c8 c9 → Q' .next ⟨h', g, d, tk, os⟩) →
      wpAny (model prog w) A' (execs kBody (kEnv L nsA cK fr)) Q' E' ⟨h9, g, d, t9, os⟩)
    (hq : ∀ C N P f4 f5 cK PK c4 c5 c6 c7 c8 c9 h' tk, Heap.ExtBut 41 h h' → KTab h' pos cK PK c4 c5 c6 c7 c8 c9 → KCls h L nmV h' C N P f4 f5 c4 c5 → FK cK PK → FC c4 c5 c6 c7 c8 c9 → Q (.ref C) ⟨h', g, d, tk, os⟩) :
    wpAny (model prog w) A (buildClass "K" "cmp_to_key.<locals>.K" [.type "object"] [] kBody cScope ["obj"] fl (fEnv L) pos none) Q E ⟨h, g, d, t, os⟩ := by
  unfold buildClass
  repeat (first | (with_reducible refine stopCC ?_) | (with_reducible refine stopGA ?_) | walk_at "qs")
  unfold Stuck'
  refine P_prep fun b h2 t2 D => ?_
  repeat (first | (with_reducible refine stopCC ?_) | (with_reducible refine stopCall ?_) | walk_at "qs")
  unfold Stuck'
  have hb := D.at 0 _ _ rfl
  have hbt1 : (h.push { cls := .type "tuple", data := .seq #[.type "object"] }).get? h.objs.size = some ⟨.type "tuple", none, .seq #[.type "object"] 0, #[]⟩ := Heap.get?_push_size _ rfl
  have hbt2 := D.keep _ _ hbt1 rfl
  refine P_call2 hb ?_
  obtain ⟨nsA, enA⟩ : ∃ x, x = h2.objs.size := ⟨_, rfl⟩
  obtain ⟨h3, eh3⟩ : ∃ x, x = h2.push { cls := .type "dict", data := .dict #[] 0 } := ⟨_, rfl⟩
  obtain ⟨t3, et3⟩ : ∃ x, x = t2 := ⟨_, rfl⟩
  rw [← enA, ← eh3, ← et3]
  have hns3 : h3.get? nsA = some ⟨.type "dict", none, .dict #[] 0, #[]⟩ := by rw [eh3, enA]; exact Heap.get?_push_size _ rfl
  have k3 : ∀ b o, h2.get? b = some o → h3.get? b = some o := fun b o e => by rw [eh3]; exact Heap.get?_push_of_some _ e
  have up2 : ∀ b o, h.get? b = some o → h2.get? b = some o := fun b o e => D.keep _ _ (Heap.get?_push_of_some _ e) (Bool.or_true _)
  have up3 : ∀ b o, h.get? b = some o → h3.get? b = some o := fun b o e => k3 _ _ (up2 _ _ e)
  have nsf2 : h2.get? nsA = none := by rw [enA]; exact Heap.get?_none_of_le (Nat.le_refl _)
  have hnsf : h.get? nsA = none := by
    cases q : h.get? nsA with
    | none => rfl
    | some o => rw [up2 _ _ q] at nsf2; cases nsf2
  have hne1 : (nsA == sysModules) = false := by
    obtain ⟨o, _, _, e, _⟩ := Y.G
    have l : 3 < h2.objs.size := Heap.lt_size (up2 _ _ e)
    exact beq_eq_false_iff_ne.mpr fun q => by rw [← enA, q] at l; exact absurd l (by decide)
  repeat (first | (with_reducible refine stopCC ?_) | ((with_reducible refine wp_specD ?e hns3 ?_); (case e => rfl)) | ((with_reducible refine wpAny_ite_false ?e1 ?_); case e1 => (rw [hne1]; rfl)) | walk_at "qs")
  unfold Stuck'
  refine hcc up3 ⟨_, k3 _ _ hbt2⟩ fun cK PK h5 t5 hx5 fK n4 nbP C5 hP5 h45 => ?_
  have Y5 : Bk h5 mg mb := (Y.at h4 fun b o _ e => up3 b o e).at (up3 _ _ h4) hx5
  repeat (first | (with_reducible refine stopBF ?_) | walk_at "qs")
  unfold Stuck'
  obtain ⟨bm, ob, a1, a2, a3, a4, a5, a6, a7⟩ := Y5.bm
  refine wpAny_builtinsFor Y5.G a1 a2 a4 a5 a6 a7 ?_
  refine wpAny_bind (wpAny_bind (wp_nsAt Y5.G rfl hnm (wpAny_alloc' ?_)))
  refine wpAny_bind (wpS (clo_K L) ?_)
  refine wpAny_holding ?_
  have up6 : ∀ b o, h5.get? b = some o → (h5.push { cls := .type "frame", slots := #[some (.ref cK), some (.ref mainGlobals), some (.ref nsA), none, some nmV, none, some (.ref builtinsNs)] }).get? b = some o := fun b o e => Heap.get?_push_of_some _ e
  have Y6 := Y5.at h45 fun b o _ e => up6 b o e
  have hns6 := up6 _ _ (hx5 _ _ (fun q => by rw [q, up3 _ _ h4] at hns3; cases hns3) hns3)
  refine wpAny_bind (wpAny_enterFrame Y6.lim hdep ?_)
  repeat (first | (with_reducible refine stopLn ?_) | walk_at "qs")
  unfold Stuck'
  refine ln_name (cK := cK) (L := L) (fr := h5.objs.size) hns6 Y6.G hnm ?_
  refine wpAny_bind ?_
  refine wp_st (L := L) (cK := cK) (fr := h5.objs.size) (es' := fun i => #[⟨i, .str "__module__" t5, nmV⟩]) (n' := 1) hns6 rfl (by kernel_rfl) (fun _ => by kernel_rfl) fun i0 h7 s7 hns7 => ?_
  refine wpAny_bind (wpAny_mkText (wpAny_bind ?_))
  refine wp_st (L := L) (cK := cK) (fr := h5.objs.size) (es' := fun i => #[⟨i0, .str "__module__" t5, nmV⟩, ⟨i, .str "__qualname__" (t5 + 1 + 1), .str "cmp_to_key.<locals>.K" (t5 + 1)⟩]) (n' := 2) hns7 rfl (by kernel_rfl) (fun _ => by kernel_rfl) fun i1 h8 s8 hns8 => ?_
  refine wpAny_bind (wpAny_mkInt' (wpAny_bind ?_))
  refine wp_st (L := L) (cK := cK) (fr := h5.objs.size) (es' := fun i => ent3 i0 i1 i t5 (t5 + 1 + 1) (t5 + 1 + 1 + 1 + 1) nmV (.str "cmp_to_key.<locals>.K" (t5 + 1)) (.int fl (t5 + 1 + 1 + 1))) (n' := 3) hns8 rfl (by kernel_rfl) (fun _ => by kernel_rfl) fun i2 h9 s9 hns9 => ?_
  have X6 : CS h nsA cK PK _ _ _ _ _ := ⟨fun b o hb e => up6 _ _ (hx5 _ _ hb (up3 _ _ e)), up6 _ _ h45, n4, hns6, hnsf, C5.keeps up6, up6 _ _ hP5⟩
  have X9 := ((X6.put s7 hns7).put s8 hns8).put s9 hns9
  refine wpAny_pure ?_
  refine wpAny_bind (wpAny_run (codeAny_body (by kernel_rfl) (by kernel_rfl) ?_))
  refine hbody (fr := h5.objs.size) fK X9 fun mt sl f4 f5 f6 f7 f8 f9 c4 c5 c6 c7 c8 c9 i3 i4 i5 i6 i7 i8 i9 i10 u3 u4 u5 u6 u7 u8 u9 u10 h10 t10 Z k10 fr6 => ?_
  repeat (first | (with_reducible refine stopSt ?_) | walk_at "qs")
  unfold Stuck'
  have up10 : ∀ b o, h10.get? b = some o → (h10.push { cls := .type "tuple", data := .seq #[.str "obj" t10] }).get? b = some o := fun b o e => Heap.get?_push_of_some _ e
  have nN10 := up10 _ _ Z.cs.ns
  refine wp_st (L := L) (cK := cK) (fr := h5.objs.size) (es' := fun i => ents i0 i1 i2 i3 i4 i5 i6 i7 i8 i9 i10 i t5 (t5 + 1 + 1) (t5 + 1 + 1 + 1 + 1) u3 u4 u5 u6 u7 u8 u9 u10 (t10 + 1) (.str "cpy313.functools" mt) (.str "cmp_to_key.<locals>.K" (t5 + 1)) (.int fl (t5 + 1 + 1 + 1)) (.ref sl) (.ref f4) (.ref f5) (.ref f6) (.ref f7) (.ref f8) (.ref f9) .none (.ref h10.objs.size)) (n' := 12) nN10 rfl (by kernel_rfl) (fun _ => by kernel_rfl) fun i11 h11 s11 hns11 => ?_
  repeat (first | (with_reducible refine stopCall ?_) | walk_at "qs")
  unfold Stuck'
  have nsl : sl ≠ nsA := fun q => by
    obtain ⟨st, e⟩ := Z.lst
    rw [q, Z.cs.ns] at e
    have z := congrArg Obj.cls (Option.some.inj e)
    injection z with z
    exact absurd z (by decide)
  have Z11 := Z.up up10 s11 hns11 nsl
  have hbt3 := k3 _ _ hbt2
  have nb4 : h.objs.size ≠ 41 := Nat.ne_of_gt (Heap.lt_size h4)
  have nbN : h.objs.size ≠ nsA := fun q => by rw [← q, hbt2] at nsf2; cases nsf2
  have hbt11 := (s11.2 _ nbN).trans (up10 _ _ (k10 _ _ nbP nbN ((s9.2 _ nbN).trans ((s8.2 _ nbN).trans ((s7.2 _ nbN).trans (up6 _ _ (hx5 _ _ nb4 hbt3)))))))
  have nsaN : h10.objs.size ≠ nsA := Nat.ne_of_gt (Heap.lt_size Z.cs.ns)
  have hsa11 := (s11.2 _ nsaN).trans (Heap.get?_push_size (o := { cls := .type "tuple", data := .seq #[.str "obj" t10] }) _ rfl)
  obtain ⟨st, hsl11⟩ := Z11.lst
  obtain ⟨dc4, ct4, e4⟩ := Z11.x4.fn
  obtain ⟨dc5, ct5, e5⟩ := Z11.x5.fn
  obtain ⟨dc6, ct6, e6⟩ := Z11.x6.fn
  obtain ⟨dc7, ct7, e7⟩ := Z11.x7.fn
  obtain ⟨dc8, ct8, e8⟩ := Z11.x8.fn
  obtain ⟨dc9, ct9, e9⟩ := Z11.x9.fn
  refine tcall hns11 hbt11 hsl11 hsa11 e4 e5 e6 e7 e8 e9 (beq_eq_false_iff_ne.mp hne1) (fun h' up => ho h' fun b o hb e => up _ _ (Z11.cs.ext b o hb e)) fun C N P iP iD h8 h' tk D8 up8 => ?_
  repeat walk_at "qs"
  have up' : ∀ b o, h11.get? b = some o → h'.get? b = some o := fun b o e => up8 _ _ (D8.keep _ _ e (Bool.or_true _))
  have Z' := Z11.cs.more up'
  have kk' : ∀ b o, b ≠ PK → b ≠ nsA → h11.get? b = some o → h'.get? b = some o := fun b o _ _ e => up' b o e
  have hnm' : (mg "__name__").getD .none = nmV := by rw [hnm]; rfl
  refine hq C N P f4 f5 cK PK c4 c5 c6 c7 c8 c9 h' tk Z'.ext ⟨Z'.p41, n4, Z'.code, Z'.tab, (Z11.x4.keep kk').rc, (Z11.x5.keep kk').rc, (Z11.x6.keep kk').rc, (Z11.x7.keep kk').rc, (Z11.x8.keep kk').rc, (Z11.x9.keep kk').rc⟩
    ⟨⟨_, up8 _ _ (D8.at 1 _ _ rfl), _, _, _, rfl⟩, ⟨_, up8 _ _ (D8.at 2 _ _ rfl), _, _, _, _, _, _, _, _, _, _, _, _, _, _, _, _, _, _, _, _, _, _, _, _, _, _, _, _, _, _, _, _, _, _, _, _, _, rfl⟩, ⟨_, up8 _ _ (D8.at 0 _ _ rfl), _, rfl⟩,
      ⟨_, up' _ _ e4, dc4, ct4, by rw [hnm']⟩, ⟨_, up' _ _ e5, dc5, ct5, by rw [hnm']⟩, ?_⟩ fK fr6
  · intro a ha
    simp only [List.mem_cons, List.not_mem_nil, or_false] at ha
    rcases ha with rfl | rfl | rfl | rfl | rfl
    · exact Z11.cs.fresh (D8.nw _ (.tail _ (.head _))).2
    · exact Z11.cs.fresh (D8.nw _ (.tail _ (.tail _ (.head _)))).2
    · exact Z11.cs.fresh (D8.nw _ (.head _)).2
    · exact Z11.x4.bf
    · exact Z11.x5.bf
theorem bc_miss {L : Addr} {Q : Value → Shared → Prop} {p1 pos : Pos} {nmV : Value} {fl : Nat}
    (Y : Bk h mg mb) (C : CodeHd h 45 41) (h4 : h.get? 41 = some (tabObj #[])) (hdep : A.depth < recursionLimit) (hnm : mg "__name__" = some nmV)
    (ho : ∀ h', Heap.ExtBut 41 h h' → ∀ C, Looks (model prog w) h' (opaqueClassAbove (.ref C)) none)
    (hq : ∀ C N P f4 f5 cK PK c4 c5 c6 c7 c8 c9 h' tk, Heap.ExtBut 41 h h' → KTab h' pos cK PK c4 c5 c6 c7 c8 c9 → KCls h L nmV h' C N P f4 f5 c4 c5 → (∀ c ∈ [cK, PK, c4, c5, c6, c7, c8, c9], h.get? c = none) → Q (.ref C) ⟨h', g, d, tk, os⟩) :
    wpAny (model prog w) A (buildClass "K" "cmp_to_key.<locals>.K" [.type "object"] [] kBody cScope ["obj"] fl (fEnv L) pos none) Q E ⟨h, g, d, t, os⟩ := by
  refine bc_gen (p1 := p1) (pos := pos) (ps := #[]) (FK := fun cK PK => h.get? cK = none ∧ h.get? PK = none) (FC := fun c4 c5 c6 c7 c8 c9 => ∀ c ∈ [c4, c5, c6, c7, c8, c9], h.get? c = none) Y C h4 hdep hnm ho ?_ ?_ ?_
  · intro A' E' Q' h3 t3 nm q sc up3 hb k
    refine cc_miss (C.keeps up3) (up3 _ _ h4) fun cK PK h5 t5 hx5 fcK fPK C5 hP5 h45 => ?_
    have fr : ∀ a, h3.get? a = none → h.get? a = none := fun a e => by
      cases q : h.get? a with
      | none => rfl
      | some o => rw [up3 _ _ q] at e; cases e
    exact k cK PK h5 t5 hx5 ⟨fr _ fcK, fr _ fPK⟩ (fun q => by rw [q, up3 _ _ h4] at fPK; cases fPK) (fun q => by obtain ⟨o, e⟩ := hb; rw [← q, e] at fPK; cases fPK) C5 hP5 h45
  · intro A' E' Q' nsA cK PK fr h9 t9 i0 i1 i2 u0 u1 u2 v0 v1 v2 fK X9 k
    exact body_miss (L := L) (fr := fr) Y h4 X9 fK.2 k
  · intro C N P f4 f5 cK PK c4 c5 c6 c7 c8 c9 h' tk e1 e2 e3 fK fC
    exact hq C N P f4 f5 cK PK c4 c5 c6 c7 c8 c9 h' tk e1 e2 e3 fun c hc => by
      rcases List.mem_cons.mp hc with rfl | hc
      · exact fK.1
      · rcases List.mem_cons.mp hc with rfl | hc
        · exact fK.2
        · exact fC c hc
end
end
section
open PySem PySem.W PyProof.Rows PySem.Calls
set_option maxRecDepth 100000
set_option maxHeartbeats 2000000
section
variable {prog : Program} {w : World} {A : Around} {E : Value → Shared → Prop} {h : Heap} {g : Array GenState} {d : Drawn} {t : Nat} {os : OsState}
variable {base h' : Heap} {nsA cK PK : Addr} {p4 : Array Value} {es es' : Array DictEntry} {n n' : Nat} {ps ps' : Array Value} {mg mb : Str → Option Value}
theorem bc_hit {L : Addr} {Q : Value → Shared → Prop} {p1 pos : Pos} {nmV : Value} {cK PK c4 c5 c6 c7 c8 c9 : Addr} {fl : Nat}
    (Y : Bk h mg mb) (C : CodeHd h 45 41) (T : KTab h pos cK PK c4 c5 c6 c7 c8 c9) (hdep : A.depth < recursionLimit) (hnm : mg "__name__" = some nmV)
    (ho : ∀ h', Heap.ExtBut 41 h h' → ∀ C, Looks (model prog w) h' (opaqueClassAbove (.ref C)) none)
    (hq : ∀ C N P f4 f5 h' tk, Heap.ExtBut 41 h h' → KTab h' pos cK PK c4 c5 c6 c7 c8 c9 → KCls h L nmV h' C N P f4 f5 c4 c5 → Q (.ref C) ⟨h', g, d, tk, os⟩) :
    wpAny (model prog w) A (buildClass "K" "cmp_to_key.<locals>.K" [.type "object"] [] kBody cScope ["obj"] fl (fEnv L) pos none) Q E ⟨h, g, d, t, os⟩ := by
  have h4 := T.p41
  have hca : codeAmong pos [rawInt pos.line, rawInt pos.col, .ref cK] = some (.ref cK) := by
    show (if ((pos.line : Int) == pos.line && (pos.col : Int) == pos.col) = true then some (Value.ref cK) else codeAmong pos []) = _
    rw [if_pos (by simp)]
  refine bc_gen (p1 := p1) (pos := pos) (ps := tab6 c4 c5 c6 c7 c8 c9) (FK := fun x y => x = cK ∧ y = PK) (FC := fun x4 x5 x6 x7 x8 x9 => x4 = c4 ∧ x5 = c5 ∧ x6 = c6 ∧ x7 = c7 ∧ x8 = c8 ∧ x9 = c9) Y C h4 hdep hnm ho ?_ ?_ ?_
  · intro A' E' Q' h3 t3 nm q sc up3 hb k
    refine cc_hit (C.keeps up3) (up3 _ _ h4) hca ?_
    exact k cK PK h3 t3 (fun b o _ e => e) ⟨rfl, rfl⟩ T.n41 (Nat.ne_of_gt (Heap.lt_size T.tab)) (T.code.keeps up3) (up3 _ _ T.tab) (up3 _ _ T.p41)
  · intro A' E' Q' nsA x y fr h9 t9 i0 i1 i2 u0 u1 u2 v0 v1 v2 fK X9 k
    obtain ⟨rfl, rfl⟩ := fK
    have rup : ∀ {c : Addr} {q : Str}, h.CodeRec (.ref c) q → h9.CodeRec (.ref c) q := fun {c q} r => by
      obtain ⟨c2, oc, vs, tv, ec, hoc, ed, r⟩ := r
      cases ec
      refine ⟨_, oc, vs, tv, rfl, X9.ext _ _ (fun z => ?_) hoc, ed, r⟩
      rw [z, h4] at hoc
      cases hoc
      cases ed
      cases r
    exact body_hit (L := L) (fr := fr) Y h4 X9 (rup T.r4) (rup T.r5) (rup T.r6) (rup T.r7) (rup T.r8) (rup T.r9) fun mt sl f4 f5 f6 f7 f8 f9 i3 i4 i5 i6 i7 i8 i9 i10 u3 u4 u5 u6 u7 u8 u9 u10 h10 t10 Z k10 =>
      k mt sl f4 f5 f6 f7 f8 f9 _ _ _ _ _ _ i3 i4 i5 i6 i7 i8 i9 i10 u3 u4 u5 u6 u7 u8 u9 u10 h10 t10 Z (fun b o _ hb e => k10 b o hb e) ⟨rfl, rfl, rfl, rfl, rfl, rfl⟩
  · intro C N P f4 f5 x y x4 x5 x6 x7 x8 x9 h' tk e1 e2 e3 fK fC
    obtain ⟨rfl, rfl⟩ := fK
    obtain ⟨rfl, rfl, rfl, rfl, rfl, rfl⟩ := fC
    exact hq C N P f4 f5 h' tk e1 e2 e3
end
end
end Mine
end
section
open PySem PySem.W PyProof.Rows PySem.Calls
set_option maxRecDepth 100000
set_option maxHeartbeats 2000000
namespace Mine
theorem fillN : PySem.Challenge.rw_ij0076_01 = PySem.Challenge.rw_ij0076_01 ∧ hd.heap_39 = hd.heap_39 := by
  k_fill
  exact ⟨rfl, rfl⟩
noncomputable def ctkP : Arguments := match ctkDef with | .FunctionDef _ P .. => P | _ => default
noncomputable def kSP : Pos := match kStmt with | .ClassDef _ _ _ _ _ _ _ _ _ _ p => p | _ => default
noncomputable def kOP : Pos := match kStmt with | .ClassDef _ [.Name _ p] .. => p | _ => default
noncomputable def kRet : Stmt := match ctkDef with | .FunctionDef _ _ [_, r] .. => r | _ => default
noncomputable def kRp : Pos := match kRet with | .Return (some (.Name _ p)) _ => p | _ => default
noncomputable def kRq : Pos := match kRet with | .Return _ p => p | _ => default
noncomputable abbrev cBody : List Stmt := [.ClassDef "K" [.Name "object" kOP] [] kBody [] [] cScope none "K" ["obj"] kSP, .Return (some (.Name "K" kRp)) kRq]
theorem obj46 (P : Params) : (hd.heap_39 P).lookup 46 = some ⟨.type "function", none, .func (fnOf "cmp_to_key" "cmp_to_key" ctkP cBody fScope .none .none .none (.str "cpy313.functools" 215) none (.ref 45) .none), #[]⟩ := by kernel_rfl
theorem cod45 (P : Params) : codeIn (hd.heap_39 P) (.ref 45) "cmp_to_key" = true := by kernel_rfl
theorem hd45 (P : Params) : codeHdIn (hd.heap_39 P) 45 41 = true := by kernel_rfl
theorem bind46 (v : Value) (pm : Value) : bindArgs (fnOf "cmp_to_key" "cmp_to_key" ctkP cBody fScope .none .none .none pm none (.ref 45) .none) ⟨[v], []⟩ = (pure [((("mycmp" : Str)), v)] : Sem (List (Str × Value))) := by kernel_rfl

theorem bk_of {p : Program} {loose : List Str} {mean : ExcName → Option Value} {mg mb : Str → Option Value} {h : Heap} (T : Top p loose mean mg mb h) : Bk h mg mb := by
  obtain ⟨bm, ob, b1, b2, b3, b4, b5, b6⟩ := T.bmain
  refine ⟨T.g, T.b, T.nolimit, bm, ob, b1, b2, fun q => ?_, b3, b4, b5, b6⟩
  obtain ⟨o, es, ep, e, hd, _⟩ := T.g
  rw [q, e] at b3; cases b3; rw [hd] at b6; cases b6
theorem opq_of {prog : Program} {w : World} {h h' : Heap} (X : (hd.heap_39 w.params).In h) (k : Heap.ExtBut 41 h h') (C : Addr) : Looks (model prog w) h' (opaqueClassAbove (.ref C)) none := by
  have X' : (hd.heap_39 w.params).In h' := fun a o e => k a o (fun q => by
    have e2 : (hd.heap_39 w.params).lookup 41 = none := by kernel_rfl
    rw [q, e2] at e; cases e) (X a o e)
  exact looks_opaque X' (by kernel_rfl)
theorem nm_in (P : Params) : nsIn (hd.heap_39 P) mainGlobals "__name__" = some (some (.str "law_ij0076_01" 239)) := by kernel_rfl
theorem nm_ob (P : Params) : nsIn (hd.heap_39 P) mainGlobals "object" = some none := by kernel_rfl

theorem mg_no {K : Frag} {h : Heap} {mg : Str → Option Value} {n : Str} (X : K.In h) (G : h.Ns mainGlobals mg) (e : nsIn K mainGlobals n = some none) : mg n = none := by
  obtain ⟨o, es, ep, ho, hd, _, hf⟩ := G
  unfold nsIn at e
  split at e
  · rename_i c d es' n' sl q
    have := X _ _ q
    rw [ho] at this
    cases this
    cases hd
    split at e
    · cases e
    · rename_i he
      rw [← hf]
      unfold nsFind findBy
      rw [← Array.find?_toList, he]
      rfl
  · cases e
theorem ns_apart {h : Heap} {L a : Addr} {m : Str → Option Value} {o : Obj} {vs : Array Value} (hL : h.Ns L m) (e : h.get? a = some o) (hd : o.data = .fields vs) : a ≠ L := fun q => by
  obtain ⟨o2, es, ep, ho, hd2, _⟩ := hL
  rw [q, ho] at e; cases e; rw [hd2] at hd; cases hd
theorem rec_store {h h' : Heap} {L c : Addr} {q : Str} {m : Str → Option Value} (hL : h.Ns L m) (hs : Heap.SameBut L h h') (r : h.CodeRec (.ref c) q) : h'.CodeRec (.ref c) q := by
  obtain ⟨c2, oc, vs, tv, ec, hoc, hd, r⟩ := r
  cases ec
  exact ⟨_, oc, vs, tv, rfl, (hs.2 _ (ns_apart hL hoc hd)).trans hoc, hd, r⟩
theorem KTab.store {h h' : Heap} {L : Addr} {m : Str → Option Value} {pos : Pos} {cK PK c4 c5 c6 c7 c8 c9 : Addr} (T : KTab h pos cK PK c4 c5 c6 c7 c8 c9) (hL : h.Ns L m) (hs : Heap.SameBut L h h') : KTab h' pos cK PK c4 c5 c6 c7 c8 c9 where
  p41 := (hs.2 _ (ns_apart hL T.p41 rfl)).trans T.p41
  n41 := T.n41
  code := by
    obtain ⟨o, vs, file, tf, flags, tg, inF, text, tt, e, e2, e3, r⟩ := T.code
    exact ⟨o, vs, file, tf, flags, tg, inF, text, tt, (hs.2 _ (ns_apart hL e e3)).trans e, e2, e3, r⟩
  tab := (hs.2 _ (ns_apart hL T.tab rfl)).trans T.tab
  r4 := rec_store hL hs T.r4
  r5 := rec_store hL hs T.r5
  r6 := rec_store hL hs T.r6
  r7 := rec_store hL hs T.r7
  r8 := rec_store hL hs T.r8
  r9 := rec_store hL hs T.r9
theorem KCls.store {base base' h h' : Heap} {L L' : Addr} {pm : Value} {C N P f4 f5 c4 c5 : Addr} (K : KCls base L' pm h C N P f4 f5 c4 c5) (hL : ∃ o, base.get? L = some o) (hs : Heap.SameBut L h h') (hb : ∀ a, base.get? a = none → base'.get? a = none) :
    KCls base' L' pm h' C N P f4 f5 c4 c5 := by
  have ne : ∀ a ∈ [C, N, P, f4, f5], a ≠ L := fun a ha q => by
    obtain ⟨o, e⟩ := hL
    have := K.fr a ha
    rw [q, e] at this; cases this
  obtain ⟨o1, e1, r1⟩ := K.cls
  obtain ⟨o2, e2, r2⟩ := K.ns
  obtain ⟨o3, e3, r3⟩ := K.desc
  obtain ⟨o4, e4, r4⟩ := K.fn4
  obtain ⟨o5, e5, r5⟩ := K.fn5
  exact ⟨⟨o1, (hs.2 _ (ne _ (by simp))).trans e1, r1⟩, ⟨o2, (hs.2 _ (ne _ (by simp))).trans e2, r2⟩, ⟨o3, (hs.2 _ (ne _ (by simp))).trans e3, r3⟩, ⟨o4, (hs.2 _ (ne _ (by simp))).trans e4, r4⟩,
    ⟨o5, (hs.2 _ (ne _ (by simp))).trans e5, r5⟩, fun a ha => hb a (K.fr a ha)⟩

theorem ctk_miss {w : World} {p : Program} {loose : List Str} {mean : ExcName → Option Value} {mg mb : Str → Option Value} {base : Heap} {outer : List Env} {s : Shared} {g : Option (List Code)} {lam : Addr} {R : Result → Shared → Prop}
    (C : Cx w p loose mean mg mb base { handled := none, depth := 500, frames := some outer, guards := g, units := 400 } outer s.heap)
    (hP : s.heap.get? 41 = some (tabObj #[]))
    (hR : ∀ C N P f4 f5 cK PK c4 c5 c6 c7 c8 c9 L oc h' tk, Heap.ExtBut 41 s.heap h' → KTab h' kSP cK PK c4 c5 c6 c7 c8 c9 → KCls s.heap L (.str "law_ij0076_01" 239) h' C N P f4 f5 c4 c5 → (∀ c ∈ [cK, PK, c4, c5, c6, c7, c8, c9], s.heap.get? c = none) →
      h'.get? (L + 1) = some oc → oc.data = .cell (some (.ref lam)) → s.heap.get? (L + 1) = none → R (.ok (.ret (.ref C))) { s with heap := h', toks := tk }) :
    codeAny (model Pr w) { handled := none, depth := 500, frames := some outer, guards := g, units := 400 } (.call (.ref 46) ⟨[.ref lam], []⟩) R s := by
  obtain ⟨X, T, B⟩ := C
  refine enterC ⟨X, T, B⟩ (obj46 _) (cod45 _) (by show (500:Nat) < _; decide) (BindsTo.of_eq (bind46 _ _)) (by kernel_rfl) (by decide +kernel) ?_
  intro h₁ tk₀ cells' F N Y
  k_cells Y
  rename_i oc hoc
  have Y1 : Bk h₁ mg mb := (bk_of T).at hP fun b o _ e => F.keep b o e
  have C1 := (codeHd_of_K X (hd45 _)).keeps F.keep
  have b1 : mb "__build_class__" = some (.builtin "__build_class__") := (T.builtins _ (by decide)).trans (by kernel_rfl)
  have b2 : mb "object" = some (.type "object") := (T.builtins _ (by decide)).trans (by kernel_rfl)
  have g2 : mg "object" = none := mg_no X T.g (nm_ob _)
  have hcell := (N _ (.head _)).1
  have hL4 : s.heap.objs.size ≠ 41 := Nat.ne_of_gt (Heap.lt_size hP)
  obtain ⟨oL, esL, epL, hoL, _⟩ := id F.ns
  refine wpAny_execs_cons (shell1 (L := s.heap.objs.size) Y1.B b1 b2 Y1.G g2 ?_)
  refine bc_miss (p1 := kSP) (pos := kSP) Y1 C1 (F.keep _ _ hP) (by show (500:Nat) + 1 < _; decide) (mg_of X T.g (nm_in _)) (fun h' k C => opq_of X (fun b o hb e => k b o hb (F.keep _ _ e)) C) fun C N P f4 f5 cK PK c4 c5 c6 c7 c8 c9 h2 t2 hx KT KC fr => ?_
  have ns2 := F.ns.extBut hx hL4
  refine wpAny_bindName (wpAny_storeName_local rfl ns2 fun h3 ns3 hs3 => ?_)
  refine wpAny_execs_cons (wpAny_Return_some (wpAny_Name (wpAny_loadName_local rfl rfl ns3 (by rfl) ?_)))
  have hb : ∀ a, h₁.get? a = none → s.heap.get? a = none := fun a e => by
    cases q : s.heap.get? a with
    | none => rfl
    | some o => rw [F.keep _ _ q] at e; cases e
  have hc41 : s.heap.objs.size + 1 ≠ 41 := Nat.ne_of_gt (Nat.lt_succ_of_lt (Heap.lt_size hP))
  exact hR C N P f4 f5 cK PK c4 c5 c6 c7 c8 c9 s.heap.objs.size oc h3 _ (fun b o hb e => (hs3.2 b (Nat.ne_of_lt (Heap.lt_size e))).trans (hx b o hb (F.keep _ _ e))) (KT.store ns2 hs3) (KC.store ⟨oL, hoL⟩ hs3 hb)
    (fun c hc => hb _ (fr c hc)) ((hs3.2 _ (Nat.succ_ne_self _)).trans (hx _ _ hc41 hcell)) hoc (Heap.get?_none_of_le (Nat.le_succ _))

theorem ctk_hit {w : World} {p : Program} {loose : List Str} {mean : ExcName → Option Value} {mg mb : Str → Option Value} {base : Heap} {outer : List Env} {s : Shared} {g : Option (List Code)} {lam : Addr} {R : Result → Shared → Prop}
    {cK PK c4 c5 c6 c7 c8 c9 : Addr}
    (C : Cx w p loose mean mg mb base { handled := none, depth := 500, frames := some outer, guards := g, units := 400 } outer s.heap)
    (KT0 : KTab s.heap kSP cK PK c4 c5 c6 c7 c8 c9)
    (hR : ∀ C N P f4 f5 L oc h' tk, (∀ b o, s.heap.get? b = some o → h'.get? b = some o) → KCls s.heap L (.str "law_ij0076_01" 239) h' C N P f4 f5 c4 c5 →
      h'.get? (L + 1) = some oc → oc.data = .cell (some (.ref lam)) → s.heap.get? (L + 1) = none → R (.ok (.ret (.ref C))) { s with heap := h', toks := tk }) :
    codeAny (model Pr w) { handled := none, depth := 500, frames := some outer, guards := g, units := 400 } (.call (.ref 46) ⟨[.ref lam], []⟩) R s := by
  have hP := KT0.p41
  obtain ⟨X, T, B⟩ := C
  refine enterC ⟨X, T, B⟩ (obj46 _) (cod45 _) (by show (500:Nat) < _; decide) (BindsTo.of_eq (bind46 _ _)) (by kernel_rfl) (by decide +kernel) ?_
  intro h₁ tk₀ cells' F N Y
  k_cells Y
  rename_i oc hoc
  have Y1 : Bk h₁ mg mb := (bk_of T).at hP fun b o _ e => F.keep b o e
  have C1 := (codeHd_of_K X (hd45 _)).keeps F.keep
  have b1 : mb "__build_class__" = some (.builtin "__build_class__") := (T.builtins _ (by decide)).trans (by kernel_rfl)
  have b2 : mb "object" = some (.type "object") := (T.builtins _ (by decide)).trans (by kernel_rfl)
  have g2 : mg "object" = none := mg_no X T.g (nm_ob _)
  have hcell := (N _ (.head _)).1
  have hL4 : s.heap.objs.size ≠ 41 := Nat.ne_of_gt (Heap.lt_size hP)
  obtain ⟨oL, esL, epL, hoL, _⟩ := id F.ns
  have rup : ∀ {c : Addr} {q : Str}, s.heap.CodeRec (.ref c) q → h₁.CodeRec (.ref c) q := fun {c q} r => by
    obtain ⟨c2, oc, vs, tv, ec, hoc, r⟩ := r
    cases ec
    exact ⟨_, oc, vs, tv, rfl, F.keep _ _ hoc, r⟩
  have KT1 : KTab h₁ kSP cK PK c4 c5 c6 c7 c8 c9 := ⟨F.keep _ _ KT0.p41, KT0.n41, KT0.code.keeps F.keep, F.keep _ _ KT0.tab, rup KT0.r4, rup KT0.r5, rup KT0.r6, rup KT0.r7, rup KT0.r8, rup KT0.r9⟩
  refine wpAny_execs_cons (shell1 (L := s.heap.objs.size) Y1.B b1 b2 Y1.G g2 ?_)
  refine bc_hit (p1 := kSP) (pos := kSP) Y1 C1 KT1 (by show (500:Nat) + 1 < _; decide) (mg_of X T.g (nm_in _)) (fun h' k C => opq_of X (fun b o hb e => k b o hb (F.keep _ _ e)) C) fun C N P f4 f5 h2 t2 hx KT KC => ?_
  have ns2 := F.ns.extBut hx hL4
  refine wpAny_bindName (wpAny_storeName_local rfl ns2 fun h3 ns3 hs3 => ?_)
  refine wpAny_execs_cons (wpAny_Return_some (wpAny_Name (wpAny_loadName_local rfl rfl ns3 (by rfl) ?_)))
  have hb : ∀ a, h₁.get? a = none → s.heap.get? a = none := fun a e => by
    cases q : s.heap.get? a with
    | none => rfl
    | some o => rw [F.keep _ _ q] at e; cases e
  have hc41 : s.heap.objs.size + 1 ≠ 41 := Nat.ne_of_gt (Nat.lt_succ_of_lt (Heap.lt_size hP))
  have KT3 := KT.store ns2 hs3
  refine hR C N P f4 f5 s.heap.objs.size oc h3 _ (fun b o e => ?_) (KC.store ⟨oL, hoL⟩ hs3 hb)
    ((hs3.2 _ (Nat.succ_ne_self _)).trans (hx _ _ hc41 hcell)) hoc (Heap.get?_none_of_le (Nat.le_succ _))
  by_cases h41 : b = 41
  · rw [h41, hP] at e; cases e; rw [h41]; exact KT3.p41
  · exact (hs3.2 b (Nat.ne_of_lt (Heap.lt_size e))).trans (hx b o h41 (F.keep _ _ e))
end Mine
end
section
open PySem PySem.W PyProof.Rows PySem.Calls
set_option maxRecDepth 100000
set_option maxHeartbeats 2000000
namespace Mine
/-- a written part that bears the class -/
structure KW (K : Frag) (L : Addr) (pm : Value) (C N P f4 f5 c4 c5 : Addr) : Prop where
  lC : ∃ o, K.lookup C = some o ∧ IsC C N o
  lN : ∃ o, K.lookup N = some o ∧ IsN P f4 f5 o
  lP : ∃ o, K.lookup P = some o ∧ IsP C o
  l4 : ∃ o, K.lookup f4 = some o ∧ IsFn "__init__" (kF 0) [] pm c4 o
  l5 : ∃ o, K.lookup f5 = some o ∧ IsFn "__lt__" (kF 1) (clo L) pm c5 o
noncomputable def kfrag (C N P f4 f5 : Addr) (oC oN oP o4 o5 : Obj) : Frag := [(C, oC), (N, oN), (P, oP), (f4, o4), (f5, o5)]
theorem look_in {C N P f4 f5 : Addr} {oC oN oP o4 o5 : Obj} {h : Heap} (e1 : h.get? C = some oC) (e2 : h.get? N = some oN) (e3 : h.get? P = some oP) (e4 : h.get? f4 = some o4) (e5 : h.get? f5 = some o5) : (kfrag C N P f4 f5 oC oN oP o4 o5).In h := by
  intro a o e
  unfold kfrag at e
  simp only [List.lookup] at e
  split at e
  · rename_i q; cases e; rw [eq_of_beq q]; exact e1
  split at e
  · rename_i q; cases e; rw [eq_of_beq q]; exact e2
  split at e
  · rename_i q; cases e; rw [eq_of_beq q]; exact e3
  split at e
  · rename_i q; cases e; rw [eq_of_beq q]; exact e4
  split at e
  · rename_i q; cases e; rw [eq_of_beq q]; exact e5
  · cases e
theorem isN_all {P f4 f5 : Addr} {o : Obj} (q : IsN P f4 f5 o) : (∃ es n, o.data = .dict es n) ∧ ∀ (K : Frag) (N : Addr), K.lookup N = some o → nsIn K N "__init__" = some (some (.ref f4)) ∧ nsIn K N "__lt__" = some (some (.ref f5)) ∧ nsIn K N "obj" = some (some (.ref P)) ∧ nsIn K N "__setattr__" = some (none) ∧ nsIn K N "__getattribute__" = some (none) ∧ nsIn K N "__getattr__" = some (none) := by
  obtain ⟨_, _, _, _, _, _, _, _, _, _, _, _, _, _, _, _, _, _, _, _, _, _, _, _, _, _, _, _, _, _, _, _, _, _, _, _, _, _, rfl⟩ := q
  refine ⟨⟨_, _, rfl⟩, fun K N hN => ?_⟩
  unfold nsIn; rw [hN]; exact ⟨by kernel_rfl, by kernel_rfl, by kernel_rfl, by kernel_rfl, by kernel_rfl, by kernel_rfl⟩
theorem look_of {base : Heap} {L : Addr} {pm : Value} {h : Heap} {C N P f4 f5 c4 c5 : Addr} (X : KCls base L pm h C N P f4 f5 c4 c5) : ∃ oC oN oP o4 o5, (h.get? C = some oC ∧ h.get? N = some oN ∧ h.get? P = some oP ∧ h.get? f4 = some o4 ∧ h.get? f5 = some o5) ∧ KW (kfrag C N P f4 f5 oC oN oP o4 o5) L pm C N P f4 f5 c4 c5 := by
  obtain ⟨oC, e1, r1⟩ := X.cls
  obtain ⟨oN, e2, r2⟩ := X.ns
  obtain ⟨oP, e3, r3⟩ := X.desc
  obtain ⟨o4, e4, r4⟩ := X.fn4
  obtain ⟨o5, e5, r5⟩ := X.fn5
  have d1 : ∃ cd, oC.data = .cls cd := by obtain ⟨_, _, _, rfl⟩ := r1; exact ⟨_, rfl⟩
  have d2 : ∃ es n, oN.data = .dict es n := (isN_all r2).1
  have d3 : ∃ vs, oP.data = .fields vs := by obtain ⟨_, rfl⟩ := r3; exact ⟨_, rfl⟩
  have d4 : ∃ fd, oP.data ≠ o4.data ∧ o4.data = .func fd ∧ fd.name = "__init__" := by obtain ⟨_, rfl⟩ := r3; obtain ⟨_, _, rfl⟩ := r4; exact ⟨_, fun z => (by cases z), rfl, rfl⟩
  have d5 : ∃ fd, o5.data = .func fd ∧ fd.name = "__lt__" := by obtain ⟨_, _, rfl⟩ := r5; exact ⟨_, rfl, rfl⟩
  obtain ⟨cd, d1⟩ := d1
  obtain ⟨es, n, d2⟩ := d2
  obtain ⟨vs, d3⟩ := d3
  obtain ⟨fd4, _, d4, n4⟩ := d4
  obtain ⟨fd5, d5, n5⟩ := d5
  have ne : ∀ {a b : Addr} {o o' : Obj}, h.get? a = some o → h.get? b = some o' → o.data ≠ o'.data → (a == b) = false := fun {a b o o'} ea eb hd => beq_eq_false_iff_ne.mpr fun q => hd (by rw [q, eb] at ea; cases ea; rfl)
  have nNC := ne e2 e1 (by rw [d1, d2]; exact fun z => by cases z)
  have nPC := ne e3 e1 (by rw [d1, d3]; exact fun z => by cases z)
  have nPN := ne e3 e2 (by rw [d2, d3]; exact fun z => by cases z)
  have n4C := ne e4 e1 (by rw [d1, d4]; exact fun z => by cases z)
  have n4N := ne e4 e2 (by rw [d2, d4]; exact fun z => by cases z)
  have n4P := ne e4 e3 (by rw [d3, d4]; exact fun z => by cases z)
  have n5C := ne e5 e1 (by rw [d1, d5]; exact fun z => by cases z)
  have n5N := ne e5 e2 (by rw [d2, d5]; exact fun z => by cases z)
  have n5P := ne e5 e3 (by rw [d3, d5]; exact fun z => by cases z)
  have n54 := ne e5 e4 (by rw [d4, d5]; intro z; injection z with z; rw [z, n4] at n5; exact absurd n5 (by decide))
  refine ⟨oC, oN, oP, o4, o5, ⟨e1, e2, e3, e4, e5⟩, ⟨oC, ?_, r1⟩, ⟨oN, ?_, r2⟩, ⟨oP, ?_, r3⟩, ⟨o4, ?_, r4⟩, ⟨o5, ?_, r5⟩⟩
  all_goals simp only [kfrag, List.lookup, beq_self_eq_true, nNC, nPC, nPN, n4C, n4N, n4P, n5C, n5N, n5P, n54]

section
variable {K : Frag} {L : Addr} {pm : Value} {C N P f4 f5 c4 c5 : Addr} (W : KW K L pm C N P f4 f5 c4 c5)
include W
theorem KW.own {name : Str} {v : Value} (e : nsIn K N name = some (some v)) : findIn K (.ref C) name = some (some v) := by
  obtain ⟨o, hC, _, _, _, rfl⟩ := W.lC
  unfold findIn
  dsimp only
  rw [hC]
  show alongIn K name [.ref C, .type "object"] = _
  unfold alongIn ownIn
  dsimp only
  rw [hC]
  dsimp only
  rw [e]
theorem KW.obj {name : Str} {r : Option Value} (e : nsIn K N name = some none) (e2 : fastBuiltinOwn "object" name = r) : findIn K (.ref C) name = some r := by
  obtain ⟨o, hC, _, _, _, rfl⟩ := W.lC
  unfold findIn
  dsimp only
  rw [hC]
  show alongIn K name [.ref C, .type "object"] = _
  unfold alongIn ownIn
  dsimp only
  rw [hC]
  dsimp only
  rw [e]
  dsimp only
  unfold alongIn ownIn
  dsimp only
  rw [e2]
  cases r <;> rfl
theorem KW.nInit : nsIn K N "__init__" = some (some (.ref f4)) :=
  let ⟨_, hN, q⟩ := W.lN
  ((isN_all q).2 _ _ hN).1
theorem KW.nLt : nsIn K N "__lt__" = some (some (.ref f5)) :=
  let ⟨_, hN, q⟩ := W.lN
  (((isN_all q).2 _ _ hN).2).1
theorem KW.nObj : nsIn K N "obj" = some (some (.ref P)) :=
  let ⟨_, hN, q⟩ := W.lN
  ((((isN_all q).2 _ _ hN).2).2).1
theorem KW.nSet : nsIn K N "__setattr__" = some (none) :=
  let ⟨_, hN, q⟩ := W.lN
  (((((isN_all q).2 _ _ hN).2).2).2).1
theorem KW.nGa : nsIn K N "__getattribute__" = some (none) :=
  let ⟨_, hN, q⟩ := W.lN
  ((((((isN_all q).2 _ _ hN).2).2).2).2).1
theorem KW.nGet : nsIn K N "__getattr__" = some (none) :=
  let ⟨_, hN, q⟩ := W.lN
  ((((((isN_all q).2 _ _ hN).2).2).2).2).2
theorem KW.tP : typeIn K (.ref P) = some (.type "member_descriptor") := by
  obtain ⟨o, hP, _, rfl⟩ := W.lP
  unfold typeIn; dsimp only; rw [hP]; rfl
theorem KW.t4 : typeIn K (.ref f4) = some (.type "function") := by
  obtain ⟨o, hP, _, _, rfl⟩ := W.l4
  unfold typeIn; dsimp only; rw [hP]; rfl
theorem KW.t5 : typeIn K (.ref f5) = some (.type "function") := by
  obtain ⟨o, hP, _, _, rfl⟩ := W.l5
  unfold typeIn; dsimp only; rw [hP]; rfl
theorem KW.tC : typeIn K (.ref C) = some (.type "type") := by
  obtain ⟨o, hP, _, _, _, rfl⟩ := W.lC
  unfold typeIn; dsimp only; rw [hP]; rfl
theorem KW.fInit : findIn K (.ref C) "__init__" = some (some (.ref f4)) := W.own W.nInit
theorem KW.fLt : findIn K (.ref C) "__lt__" = some (some (.ref f5)) := W.own W.nLt
theorem KW.fObj : findIn K (.ref C) "obj" = some (some (.ref P)) := W.own W.nObj
theorem KW.fSet : findIn K (.ref C) "__setattr__" = some (some (.builtin "object.__setattr__")) := W.obj W.nSet (by kernel_rfl)
theorem KW.fGa : findIn K (.ref C) "__getattribute__" = some (some (.builtin "object.__getattribute__")) := W.obj W.nGa (by kernel_rfl)
theorem KW.fGet : findIn K (.ref C) "__getattr__" = some none := W.obj W.nGet (by kernel_rfl)
theorem KW.takes : takesIn K (.ref P) = some true := by
  have h1 : specialIn K (.ref P) "__set__" = some (some (.builtin "member_descriptor.__set__")) := by unfold specialIn; rw [W.tP]; kernel_rfl
  unfold takesIn; rw [h1]
theorem KW.plain : plainOver K C = true := by
  obtain ⟨o, hC, _, _, _, rfl⟩ := W.lC
  unfold plainOver clsIn; rw [hC]; rfl
theorem KW.taker : takerIn K C "obj" = some (some (.ref P)) := by
  unfold takerIn; rw [W.fObj]; show (takesIn K (.ref P)).map _ = _; rw [W.takes]; rfl
theorem KW.mro0 : ([Value.ref C, .type "object"] : List Value).contains (.ref C) = true := by simp
theorem KW.slot : slotIn K P C = some 0 := by
  obtain ⟨o, hC, _, _, _, rfl⟩ := W.lC
  obtain ⟨o, hP, _, rfl⟩ := W.lP
  unfold slotIn recIn clsIn; rw [hC, hP]
  show (if (_ && _ && _ && ([Value.ref C, .type "object"] : List Value).contains (.ref C) && _) = true then _ else none) = _
  rw [show ([Value.ref C, .type "object"] : List Value).contains (.ref C) = true from by simp]
  kernel_rfl
theorem KW.getP : specialIn K (.ref P) "__get__" = some (some (.builtin "member_descriptor.__get__")) := by unfold specialIn; rw [W.tP]; kernel_rfl
theorem KW.found (od : Option Obj) : findObj K C od "obj" = some (.bind (.builtin "member_descriptor.__get__") (.ref P)) := by
  have hc : ∃ cd, clsIn K C = some cd := by
    obtain ⟨o, hC, _, _, _, rfl⟩ := W.lC
    exact ⟨_, by unfold clsIn; rw [hC]⟩
  obtain ⟨cd, hc⟩ := hc
  unfold findObj
  rw [hc, W.fObj]
  show Option.bind (specialIn K (.ref P) "__get__") _ = _
  rw [W.getP]
  show Option.bind (takesIn K (.ref P)) _ = _
  rw [W.takes]
  rfl
theorem KW.makes : makesIn K C = true := by
  have h1 : specialIn K (.ref C) "__call__" = some (some (.builtin "type.__call__")) := by unfold specialIn; rw [W.tC]; kernel_rfl
  have h2 : instIn K (.ref C) (.type "type") = some true := by unfold instIn; rw [W.tC]; kernel_rfl
  obtain ⟨o, hC, _, _, _, rfl⟩ := W.lC
  unfold makesIn
  rw [hC]
  dsimp only
  rw [h1, h2]
  simp
theorem KW.isF5 : isFn K (.ref f5) = true := by unfold isFn; rw [W.t5]; rfl
end
end Mine
end
section
open PySem PySem.W PyProof.Rows PySem.Calls
set_option maxRecDepth 100000
set_option maxHeartbeats 2000000
namespace Mine
noncomputable def iA : Stmt := (kF 0).B.getD 0 default
noncomputable def iP (k : Nat) : Pos := match iA, k with
  | .Assign [.Attribute (.Name _ p) _ _] _ _, 0 => p
  | .Assign [.Attribute _ _ p] _ _, 1 => p
  | .Assign _ (.Name _ p) _, 2 => p
  | .Assign _ _ p, 3 => p
  | _, _ => default
theorem initB_eq : (kF 0).B = [.Assign [.Attribute (.Name "self" (iP 0)) "obj" (iP 1)] (.Name "obj" (iP 2)) (iP 3)] := by kernel_rfl
noncomputable def iScope : Scope := { kind := .function, names := [("self", .local), ("obj", .local)], isGenerator := false, isCoroutine := false }
theorem initS_eq : (kF 0).S = iScope := by kernel_rfl
theorem initBind (nm qual : Str) (doc pm : Value) (c4 : Addr) (ctv a b : Value) : bindArgs (fnX nm qual (kF 0).P (kF 0).B (kF 0).S [] .none .none doc pm none (.ref c4) ctv) ⟨[a, b], []⟩ = (pure [(("self" : Str), a), ("obj", b)] : Sem (List (Str × Value))) := by kernel_rfl
noncomputable abbrev instO (C dx : Addr) (x : Str) (tk : Tok) : Obj := { cls := .ref C, dict := some dx, data := .plain, slots := #[some (.str x tk)] }

theorem inst_spec {prog : Program} {w : World} {s : Shared} {A : Around} {K : Frag} {L : Addr} {pm : Value} {C N P f4 f5 c4 c5 : Addr} {x : Str} {tk : Tok} {R : Result → Shared → Prop}
    (X : K.In s.heap) (W : KW K L pm C N P f4 f5 c4 c5) (r4 : s.heap.CodeRec (.ref c4) (qn "__init__")) (hlim : s.heap.NoLimit)
    (hd : (A.under (.builtin "type.__call__" ⟨.ref C :: [.str x tk], []⟩)).depth < recursionLimit)
    (hR : ∀ i dx h' tk', (∀ b o, s.heap.get? b = some o → h'.get? b = some o) → s.heap.get? i = none → s.heap.get? dx = none → i ≠ dx → h'.get? i = some (instO C dx x tk) → h'.get? dx = some emptyDict → R (.ok (.ret (.ref i))) { s with heap := h', toks := tk' }) :
    codeAny (model prog w) A (.call (.ref C) ⟨[.str x tk], []⟩) R s := by
  obtain ⟨hh, g, d, t, os⟩ := s
  dsimp only at X r4 hlim hR
  refine make_core (makes_of X W.makes) (looks_findIn X W.fInit) (fun self => bind_fn X self W.t4) (.inl rfl) ?_
  obtain ⟨o4, e4, doc, ctv, ho4⟩ := W.l4
  have k1 : ∀ b o, hh.get? b = some o → ((hh.push emptyDict).push (instObj C hh.objs.size)).get? b = some o := fun b o e => Heap.get?_push_of_some _ (Heap.get?_push_of_some _ e)
  have hx : ((hh.push emptyDict).push (instObj C hh.objs.size)).get? (hh.objs.size + 1) = some (instObj C hh.objs.size) := by heap_get
  have hdx : ((hh.push emptyDict).push (instObj C hh.objs.size)).get? hh.objs.size = some emptyDict := by heap_get
  have hsz : ((hh.push emptyDict).push (instObj C hh.objs.size)).objs.size = hh.objs.size + 2 := by rw [Heap.size_push, Heap.size_push]
  generalize ((hh.push emptyDict).push (instObj C hh.objs.size)) = h1 at k1 hx hdx hsz ⊢
  have hf4 := k1 _ _ (X _ _ e4)
  rw [ho4] at hf4
  have r4' : h1.CodeRec (.ref c4) (qn "__init__") := by
    obtain ⟨c2, oc, vs, tv, ec, hoc, r⟩ := r4
    exact ⟨c2, oc, vs, tv, ec, k1 _ _ hoc, r⟩
  refine codeAny_call_def (s := ⟨h1, g, d, t, os⟩) (body := (kF 0).B) (binds := [(("self" : Str), .ref (hh.objs.size + 1)), ("obj", .str x tk)]) hd hf4 rfl (hlim.keeps k1) r4' rfl (BindsTo.of_eq (initBind _ _ _ _ _ _ _ _)) (by rw [show (fnX _ _ _ _ _ _ _ _ _ _ _ _ _ : FuncData).scope = (kF 0).S from rfl, initS_eq]; decide) (locs (by kernel_rfl)) (fun h2 hns hk => ?_) (by kernel_rfl) (by kernel_rfl) (by kernel_rfl)
  have hns : h2.Ns h1.objs.size (fun y => List.lookup y [(("self" : Str), Value.ref (hh.objs.size + 1)), ("obj", .str x tk)].reverse) := hns
  have hk : ∀ b o, h1.get? b = some o → h2.get? b = some o := hk
  have F2 : Fr hh h1.objs.size h2 _ := ⟨hns, fun b o e => hk _ _ (k1 _ _ e), by omega⟩
  have n1 : hh.get? (hh.objs.size + 1) = none := Heap.get?_none_of_le (Nat.le_succ _)
  have n0 : hh.get? hh.objs.size = none := Heap.get?_none_of_le (Nat.le_refl _)
  have N2 : News hh h1.objs.size h2 ([] ++ (hh.objs.size + 1, instObj C hh.objs.size) :: [(hh.objs.size, emptyDict)]) := by
    intro p hp
    simp only [List.nil_append, List.mem_cons, List.not_mem_nil, or_false] at hp
    rcases hp with rfl | rfl
    · exact ⟨hk _ _ hx, by show hh.objs.size + 1 ≠ _; omega, n1⟩
    · exact ⟨hk _ _ hdx, by show hh.objs.size ≠ _; omega, n0⟩
  have X2 : K.In h2 := (X.keeps k1).keeps hk
  have I : InstAt h2 (hh.objs.size + 1) (instObj C hh.objs.size) C (some emptyDict) := ⟨hk _ _ hx, rfl, rfl, hk _ _ hdx⟩
  rw [initB_eq]
  refine wpAny_execs_cons (plainObj_wpAny_Assign_Attribute (ldc (by kernel_rfl) (by kernel_rfl) hns rfl (ldc (by kernel_rfl) (by kernel_rfl) hns rfl ?_)) rfl)
  refine set_plain X2 I W.fSet ?_
  refine osa_descr KF.slot_mset X2 I W.plain W.taker W.tP ?_
  refine slot_set (pre := []) (post := [(hh.objs.size, emptyDict)]) (ox' := instO C hh.objs.size x tk) F2 N2 X2 I W.slot (by decide) (fun _ h => nomatch h) (fun p hp => ?_) rfl rfl fun h3 F3 N3 => ?_
  · rw [List.mem_singleton.mp hp]; exact Nat.ne_of_lt (Nat.lt_succ_self _)
  refine wpAny_execs_nil ?_
  refine ⟨rfl, hR _ _ h3 _ F3.keep n1 n0 (Nat.succ_ne_self _) ?_ ?_⟩
  · exact (N3 (hh.objs.size + 1, instO C hh.objs.size x tk) (by simp)).1
  · exact (N3 (hh.objs.size, emptyDict) (by simp)).1
end Mine
end
section
open PySem PySem.W PyProof.Rows PySem.Calls
set_option maxRecDepth 100000
set_option maxHeartbeats 2000000
namespace Mine
theorem obj_get {prog : Program} {w : World} {A : Around} {E : Value → Shared → Prop} {s : Shared} {K : Frag} {L : Addr} {pm : Value} {C N P f4 f5 c4 c5 i dx : Addr} {x : Str} {tk : Tok} {Q : Value → Shared → Prop} {e : Bool}
    (X : K.In s.heap) (W : KW K L pm C N P f4 f5 c4 c5) (hi : s.heap.get? i = some (instO C dx x tk)) (hd : s.heap.get? dx = some emptyDict)
    (h : Q (.str x tk) { s with toks := s.toks + 1 }) : wpAny (model prog w) A (getAttr (.ref i) "obj" e) Q E s := by
  have I : InstAt s.heap i (instO C dx x tk) C (some emptyDict) := ⟨hi, rfl, rfl, hd⟩
  refine get_bind X I W.fGa (W.found _) W.fGet (wpAny_call (slot_get X I W.slot rfl ?_))
  show wpAny _ _ (handedOut (.str x tk)) _ _ _
  rw [handedOut_of (v := .str x tk) rfl]
  exact wpAny_pure h

theorem enterX {prog : Program} {w : World} {A : Around} {s : Shared}
    {R : Result → Shared → Prop} {name qual : Str} {params : Arguments} {body : List Stmt} {scope : Scope} {cl : List (Str × Addr)} {dV kV doc pm cdv ct : Value} {an : Option Addr} {fo : Obj} {f : Addr} {args : Args} {binds : List (Str × Value)}
    (hlim : s.heap.NoLimit) (ho : s.heap.get? f = some fo) (hd : fo.data = .func (fnX name qual params body scope cl dV kV doc pm an cdv ct)) (hcd : s.heap.CodeRec cdv qual) (hroom : A.depth < recursionLimit)
    (hbind : bindArgs (fnX name qual params body scope cl dV kV doc pm an cdv ct) args = pure binds) (hloc : ∀ y ∈ binds, scope.names.lookup y.1 = some .local)
    (hcell : ∀ x ∈ scope.names, x.2 ≠ .cell)
    (h : ∀ h₁ tk, Fr s.heap s.heap.objs.size h₁ (fun y => binds.reverse.lookup y) →
      wpAny (model prog w) (A.deeper (envX qual scope s.heap.objs.size f cdv cl)) (execs body (envX qual scope s.heap.objs.size f cdv cl))
        (fun fl s' => R (.ok (.ret (match fl with | .ret v => v | _ => .none))) s') (fun _ _ => False) { s with heap := h₁, toks := tk })
    (hco : scope.isCoroutine = false := by rfl) (hgen : scope.isGenerator = false := by rfl) (hk : scope.kind = .function := by rfl) :
    codeAny (model prog w) A (.call (.ref f) args) R s := by
  refine codeAny_call_def (fd := fnX name qual params body scope cl dV kV doc pm an cdv ct) (body := body) (binds := binds) hroom ho hd hlim hcd rfl (BindsTo.of_eq hbind) hcell hloc (fun h₁ hns hk₁ => ?_) hco hgen hk
  exact wpAny_mono (h h₁ _ ⟨hns, hk₁, Nat.le_refl _⟩) (fun _ _ x => x) (fun _ _ x => x.elim)

noncomputable abbrev ltBody (lP : Nat → Pos) : List Stmt := [.Return (some (.Compare (.Call (.Name "mycmp" (lP 0)) [.Attribute (.Name "self" (lP 1)) "obj" (lP 2), .Attribute (.Name "other" (lP 3)) "obj" (lP 4)] [] (lP 5)) [.Lt] [.Constant (.int 0) 0 (lP 6)] (lP 7))) (lP 8)]
theorem ltB_eq : ∃ P, (kF 1).B = ltBody P := ⟨fun n => [_, _, _, _, _, _, _, _, _].getD n default, rfl⟩
noncomputable def lScope : Scope := { kind := .function, names := [("self", .local), ("other", .local), ("mycmp", .free)], isGenerator := false, isCoroutine := false }
theorem ltS_eq : (kF 1).S = lScope := by kernel_rfl
theorem ltBind (nm qual : Str) (cl : List (Str × Addr)) (doc pm : Value) (c4 : Addr) (ctv a b : Value) : bindArgs (fnX nm qual (kF 1).P (kF 1).B lScope cl .none .none doc pm none (.ref c4) ctv) ⟨[a, b], []⟩ = (pure [(("self" : Str), a), ("other", b)] : Sem (List (Str × Value))) := by kernel_rfl

/-- what a comparison of two texts gives -/
noncomputable def CmpSays (w : World) (p : Program) (loose : List Str) (mean : ExcName → Option Value) (mg mb : Str → Option Value) (base : Heap) (lam : Addr) (f : Str → Str → Int) (h : Heap) : Prop :=
  ∀ (A : Around) (outer : List Env) (s : Shared) (x1 x2 : Str) (t1 t2 : Tok), Cx w p loose mean mg mb base A outer s.heap → A.handled = none → A.depth ≤ 480 → A.units ≤ 300 → A.frames = some outer → x1.length ≤ 3 → x2.length ≤ 3 →
    (∀ b o, h.get? b = some o → s.heap.get? b = some o) → codeAny (model Pr w) A (.call (.ref lam) ⟨[.str x1 t1, .str x2 t2], []⟩) (Gave s fun v => ∃ t', v = .int (f x1 x2) t') s

theorem lt_spec {w : World} {p : Program} {loose : List Str} {mean : ExcName → Option Value} {mg mb : Str → Option Value} {base : Heap} {A : Around} {outer : List Env} {s : Shared} {K : Frag} {L : Addr} {pm : Value} {C N P f4 f5 c4 c5 i1 i2 d1 d2 lam : Addr} {x1 x2 : Str} {t1 t2 : Tok} {f : Str → Str → Int} {oc : Obj}
    (CX : Cx w p loose mean mg mb base A outer s.heap) (hh : A.handled = none) (hdep : A.depth ≤ 470) (hu : A.units ≤ 280) (hfr : A.frames = some outer)
    (X : K.In s.heap) (W : KW K L pm C N P f4 f5 c4 c5) (r5 : s.heap.CodeRec (.ref c5) (qn "__lt__"))
    (h1 : s.heap.get? i1 = some (instO C d1 x1 t1)) (h1d : s.heap.get? d1 = some emptyDict) (h2 : s.heap.get? i2 = some (instO C d2 x2 t2)) (h2d : s.heap.get? d2 = some emptyDict) (l1 : x1.length ≤ 3) (l2 : x2.length ≤ 3)
    (hc : s.heap.get? (L + 1) = some oc) (hcd : oc.data = .cell (some (.ref lam))) (hlf : FnAt lam s.heap) (HL : CmpSays w p loose mean mg mb base lam f s.heap) :
    codeAny (model Pr w) A (.call (.ref f5) ⟨[.ref i1, .ref i2], []⟩) (Gave s fun v => v = .bool (decide (f x1 x2 < 0))) s := by
  obtain ⟨o5, e5, doc, ctv, ho5⟩ := W.l5
  have hf5 := X _ _ e5
  rw [ho5, ltS_eq] at hf5
  refine enterX (scope := lScope) CX.T.nolimit hf5 rfl r5 (Nat.lt_of_le_of_lt hdep (by decide)) (ltBind _ _ _ _ _ _ _ _ _) (locs (by kernel_rfl)) (by decide) ?_ 
  intro ha tk F
  obtain ⟨P, eP⟩ := ltB_eq
  rw [eP]
  refine wpAny_execs_cons (wpAny_Return_some (wpAny_Compare1 ?_))
  have k1 : ∀ b o, s.heap.get? b = some o → ha.get? b = some o := F.keep
  have Xa := X.keeps k1
  obtain ⟨q1, q2, q3, q4, hlo⟩ := id hlf
  have hlf' : FnAt lam ha := ⟨q1, q2, q3, q4, k1 _ _ hlo⟩
  refine wpAny_Call_Name_kw (wpAny_Name (wpAny_loadName_free (c := L + 1) rfl rfl rfl ⟨oc, k1 _ _ hc, hcd⟩ ?_))
  refine callWith_F hlf' (args_cons (Attribute_name (wpAny_Name (wpAny_loadName_local rfl rfl F.ns rfl ?_))))
  refine obj_get Xa W (k1 _ _ h1) (k1 _ _ h1d) ?_
  refine args_cons (Attribute_name (wpAny_Name (wpAny_loadName_local rfl rfl F.ns rfl ?_)))
  refine obj_get Xa W (k1 _ _ h2) (k1 _ _ h2d) ?_
  refine args_nil ⟨hlf', ?_⟩
  refine wpAny_call (codeAny_mono (HL _ _ _ x1 x2 t1 t2 (Cx.at CX.X CX.T CX.B F (by show A.frames.map _ = _; rw [hfr]; rfl) rfl rfl) hh (Nat.le_trans (Nat.succ_le_succ hdep) (by decide)) (Nat.le_trans (Nat.add_le_add_right hu 3) (by decide)) (by show A.frames.map _ = _; rw [hfr]; rfl) l1 l2 k1) fun r s' z => ?_)
  obtain ⟨v, h', tk', e1, ⟨t', hv⟩, hk, e2⟩ := z
  subst e1 e2 hv
  refine wpAny_Constant_int ?_
  refine lt_int ?_
  exact ⟨_, h', _, rfl, rfl, fun b o e => hk b o (k1 b o e), rfl⟩
end Mine
end
section
open PySem PySem.W PyProof.Rows
namespace Mine
noncomputable def Wp {α : Type} (lt : Nat → Nat → Bool) (N : Nat) : KasT α → (α → Prop) → Prop
  | .ret a, G => G a
  | .ask i j k, G => i < N ∧ j < N ∧ Wp lt N (k (lt i j)) G
theorem Wp.mono {α : Type} {lt : Nat → Nat → Bool} {N : Nat} {G G' : α → Prop} (hg : ∀ a, G a → G' a) : ∀ {t : KasT α}, Wp lt N t G → Wp lt N t G'
  | .ret _, h => hg _ h
  | .ask _ _ _, h => ⟨h.1, h.2.1, Wp.mono hg h.2.2⟩
theorem Wp.bind {α β : Type} {lt : Nat → Nat → Bool} {N : Nat} {G : β → Prop} {f : α → KasT β} : ∀ {t : KasT α}, Wp lt N t (fun a => Wp lt N (f a) G) → Wp lt N (t.bind f) G
  | .ret _, h => h
  | .ask _ _ _, h => ⟨h.1, h.2.1, Wp.bind h.2.2⟩

section
variable (key : Nat → Int)
noncomputable def R (a b : Nat) : Prop := key a < key b ∨ (key a = key b ∧ a < b)
theorem R.trans {a b c : Nat} (h1 : R key a b) (h2 : R key b c) : R key a c := by unfold R at *; omega
noncomputable abbrev ltK (i j : Nat) : Bool := decide (key i < key j)
noncomputable abbrev g (p : Array Nat) (i : Nat) : Nat := p.getD i 0
structure St (N n : Nat) (p : Array Nat) : Prop where
  sz : p.size = N
  pm : p.toList.Perm (List.range N)
  hi : ∀ i, n ≤ i → i < N → g p i = i
theorem g_some {p : Array Nat} {i : Nat} (hi : i < p.size) : p[i]? = some (g p i) := by simp [g, Array.getD, hi]
theorem g_of {p q : Array Nat} {i j : Nat} (h : p[i]? = q[j]?) (hs : i < p.size) : g p i = g q j := by
  have e1 := g_some hs
  have hj : j < q.size := by
    rw [e1] at h
    exact (Array.getElem?_eq_some_iff.mp h.symm).1
  rw [g_some hs, g_some hj] at h
  exact Option.some.inj h
theorem St.mem {N n : Nat} {p : Array Nat} (X : St N n p) {i : Nat} (h : i < N) : g p i < N := by
  have h1 : g p i ∈ p.toList := by
    have := g_some (p := p) (i := i) (by rw [X.sz]; exact h)
    rw [← Array.getElem?_toList] at this
    exact List.mem_of_getElem? this
  exact List.mem_range.mp (X.pm.mem_iff.mp h1)
theorem St.inj {N n : Nat} {p : Array Nat} (X : St N n p) {i j : Nat} (hi : i < N) (hj : j < N) (e : g p i = g p j) : i = j := by
  have nd : p.toList.Nodup := X.pm.nodup_iff.mpr List.nodup_range
  have l : p.toList.length = N := by rw [Array.length_toList]; exact X.sz
  have e1 := g_some (p := p) (i := i) (by rw [X.sz]; exact hi)
  have e2 := g_some (p := p) (i := j) (by rw [X.sz]; exact hj)
  rw [← Array.getElem?_toList] at e1 e2
  rw [e, ← e2] at e1
  exact (List.getElem?_inj (by rw [l]; exact hi) nd).mp e1
theorem St.lo {N n : Nat} {p : Array Nat} (X : St N n p) {i : Nat} (h : i < n) (hN : i < N) : g p i < n := by
  rcases Nat.lt_or_ge (g p i) n with q | q
  · exact q
  · have e := X.hi (g p i) q (X.mem hN)
    have := X.inj (X.mem hN) hN e
    omega
end
theorem rev_g {N : Nat} {p : Array Nat} (hs : p.size = N) {i j : Nat} (hj : j ≤ N) {k : Nat} (hk : k < N) : g (kas_rev p i j) k = if i ≤ k ∧ k < j then g p (i + j - 1 - k) else g p k := by
  have e := getElem?_mirror_all (xs := p) (i := i) (j := j) (by rw [hs]; exact hj) k
  have hz : (kas_rev p i j).size = p.size := mirror_size _ _ _ _
  split at e
  · rename_i q
    rw [if_pos q]; exact g_of e (by rw [hz, hs]; exact hk)
  · rename_i q
    rw [if_neg q]; exact g_of e (by rw [hz, hs]; exact hk)
theorem bub_g {N : Nat} {p : Array Nat} (hs : p.size = N) {s d : Nat} (hsN : s < N) (hd : d ≤ s) {k : Nat} (hk : k < N) : g (bubble p s d) k = if k = s - d then g p s else if s - d < k ∧ k ≤ s then g p (k - 1) else g p k := by
  have e := getElem?_bubble (xs := p) (src := s) (by rw [hs]; exact hsN) d hd k
  have hz : (bubble p s d).size = p.size := bubble_size _ _ _
  have hk' : k < (bubble p s d).size := by rw [hz, hs]; exact hk
  split at e
  · rename_i q; rw [if_pos q]; exact g_of e hk'
  · rename_i q
    rw [if_neg q]
    split at e
    · rename_i q2; rw [if_pos q2]; exact g_of e hk'
    · rename_i q2; rw [if_neg q2]; exact g_of e hk'
theorem rev_st {N n : Nat} {p : Array Nat} (X : St N n p) {i : Nat} (hn : n ≤ N) : St N n (kas_rev p i n) where
  sz := (mirror_size _ _ _ _).trans X.sz
  pm := (Array.perm_iff_toList_perm.mp (mirror_perm _ _ _ _)).trans X.pm
  hi := fun k h1 h2 => by rw [rev_g X.sz hn h2, if_neg (by omega)]; exact X.hi k h1 h2

section
variable (key : Nat → Int) {N : Nat}
noncomputable def S (p : Array Nat) (n : Nat) : Prop := ∀ i j, i < j → j < n → R key (g p i) (g p j)
noncomputable def D (p : Array Nat) (n : Nat) : Prop := ∀ i j, i < j → j < n → R key (g p j) (g p i)

theorem wp_asc : ∀ (f n : Nat) (p : Array Nat), n + f = N → 1 ≤ n → St N n p → S key p n →
    Wp (ltK key) N (kas_asc p f n) fun m => n ≤ m ∧ m ≤ N ∧ S key p m ∧ (m < N → key (g p m) < key (g p (m - 1)))
  | 0, n, p, hf, _, _, hs => ⟨Nat.le_refl _, by omega, hs, fun h => by omega⟩
  | f + 1, n, p, hf, h1, X, hs => by
    have hn : n < N := by omega
    refine ⟨X.mem hn, X.mem (by omega), ?_⟩
    show Wp _ _ (if ltK key (g p n) (g p (n - 1)) = true then KasT.ret n else kas_asc p f (n + 1)) _
    by_cases q : key (g p n) < key (g p (n - 1))
    · rw [if_pos (decide_eq_true q)]
      exact ⟨Nat.le_refl _, by omega, hs, fun _ => q⟩
    · rw [if_neg (by rw [decide_eq_true_eq]; exact q)]
      have l := X.lo (i := n - 1) (by omega) (by omega)
      have e := X.hi n (Nat.le_refl _) hn
      have r : R key (g p (n - 1)) (g p n) := by unfold R; omega
      refine (wp_asc f (n + 1) p (by omega) (by omega) ⟨X.sz, X.pm, fun i a b => X.hi i (by omega) b⟩ fun i j hij hj => ?_).mono fun m h => ⟨by omega, h.2.1, h.2.2⟩
      rcases Nat.lt_or_ge j n with hjn | hjn
      · exact hs i j hij hjn
      · obtain rfl : j = n := by omega
        rcases Nat.lt_or_ge i (j - 1) with hi | hi
        · exact (hs i (j - 1) hi (by omega)).trans key r
        · obtain rfl : i = j - 1 := by omega
          exact r

structure Dn (p : Array Nat) (n q : Nat) : Prop where
  st : St N (n - (q + 1)) p
  qn : q + 1 ≤ n
  le : n ≤ N
  i1 : ∀ i j, i < j → j < n - (q + 1) → R key (g p j) (g p i)
  i2 : ∀ i j, i < n - (q + 1) → n - (q + 1) ≤ j → j < n → key (g p j) < key (g p i)
  i3 : ∀ j, n - (q + 1) ≤ j → j < n → key (g p j) = key (g p (n - 1))

theorem dn_turn {p : Array Nat} {n q : Nat} (X : Dn key (N := N) p n q) : D key (kas_rev p (n - (q + 1)) n) n ∧ St N n (kas_rev p (n - (q + 1)) n) := by
  have hq := X.qn
  have hn := X.le
  have Xn : St N n p := ⟨X.st.sz, X.st.pm, fun i a b => X.st.hi i (by omega) b⟩
  refine ⟨fun i j hij hj => ?_, rev_st Xn hn⟩
  rw [rev_g X.st.sz hn (by omega : i < N), rev_g X.st.sz hn (by omega : j < N)]
  by_cases a : n - (q + 1) ≤ i
  · rw [if_pos (by omega : n - (q + 1) ≤ j ∧ j < n), if_pos (by omega : n - (q + 1) ≤ i ∧ i < n)]
    have k1 := X.i3 (n - (q + 1) + n - 1 - i) (by omega) (by omega)
    have k2 := X.i3 (n - (q + 1) + n - 1 - j) (by omega) (by omega)
    have e1 := X.st.hi (n - (q + 1) + n - 1 - i) (by omega) (by omega)
    have e2 := X.st.hi (n - (q + 1) + n - 1 - j) (by omega) (by omega)
    exact .inr ⟨k2.trans k1.symm, by omega⟩
  · by_cases b : n - (q + 1) ≤ j
    · rw [if_pos (by omega : n - (q + 1) ≤ j ∧ j < n), if_neg (by omega : ¬ (n - (q + 1) ≤ i ∧ i < n))]
      exact .inl (X.i2 i _ (by omega) (by omega) (by omega))
    · rw [if_neg (by omega : ¬ (n - (q + 1) ≤ j ∧ j < n)), if_neg (by omega : ¬ (n - (q + 1) ≤ i ∧ i < n))]
      exact X.i1 i j hij (by omega)
theorem dn_zero {p : Array Nat} {n : Nat} (X : Dn key (N := N) p n 0) : D key p n ∧ St N n p := by
  have hq := X.qn
  have hn := X.le
  refine ⟨fun i j hij hj => ?_, ⟨X.st.sz, X.st.pm, fun i a b => X.st.hi i (by omega) b⟩⟩
  rcases Nat.lt_or_ge j (n - 1) with h | h
  · exact X.i1 i j hij (by omega)
  · exact .inl (X.i2 i j (by omega) (by omega) hj)
theorem dn_start {p : Array Nat} {n : Nat} (hD : D key p n) (X : St N n p) (h1 : 1 ≤ n) (hn : n < N) (hk : key (g p n) < key (g p (n - 1))) : Dn key (N := N) p (n + 1) 0 where
  st := ⟨X.sz, X.pm, fun i a b => X.hi i (by omega) b⟩
  qn := by omega
  le := by omega
  i1 := fun i j hij hj => hD i j hij (by omega)
  i2 := fun i j hi hj hj2 => by
    obtain rfl : j = n := by omega
    rcases Nat.lt_or_ge i (j - 1) with h | h
    · have := hD i (j - 1) h (by omega)
      unfold R at this; omega
    · obtain rfl : i = j - 1 := by omega
      exact hk
  i3 := fun j h1 h2 => by
    obtain rfl : j = n := by omega
    rfl
theorem wp_desc : ∀ (f n q : Nat) (p : Array Nat), n + f = N → Dn key (N := N) p n q →
    Wp (ltK key) N (kas_desc f p n q) fun r => Dn key (N := N) r.1 r.2.1 r.2.2
  | 0, n, q, p, hf, X => X
  | f + 1, n, q, p, hf, X => by
    have hn : n < N := by omega
    have hq := X.qn
    refine ⟨X.st.mem hn, X.st.mem (by omega), ?_⟩
    show Wp _ _ (if ltK key (g p n) (g p (n - 1)) = true then (if q > 0 then kas_desc f (kas_rev p (n - (q + 1)) n) (n + 1) 0 else kas_desc f p (n + 1) 0)
      else .ask (g p (n - 1)) (g p n) fun d => if d = true then .ret (p, n, q) else kas_desc f p (n + 1) (q + 1)) _
    by_cases c : key (g p n) < key (g p (n - 1))
    · rw [if_pos (decide_eq_true c)]
      by_cases q0 : q > 0
      · rw [if_pos q0]
        obtain ⟨d1, s1⟩ := dn_turn key X
        refine wp_desc f (n + 1) 0 _ (by omega) (dn_start key d1 s1 (by omega) hn ?_)
        rw [rev_g X.st.sz (by omega) hn, if_neg (by omega), rev_g X.st.sz (by omega) (by omega : n - 1 < N), if_pos (by omega)]
        rw [X.i3 (n - (q + 1) + n - 1 - (n - 1)) (by omega) (by omega)]
        exact c
      · rw [if_neg q0]
        obtain rfl : q = 0 := by omega
        obtain ⟨d1, s1⟩ := dn_zero key X
        exact wp_desc f (n + 1) 0 _ (by omega) (dn_start key d1 s1 (by omega) hn c)
    · rw [if_neg (by rw [decide_eq_true_eq]; exact c)]
      refine ⟨X.st.mem (by omega), X.st.mem hn, ?_⟩
      show Wp _ _ (if ltK key (g p (n - 1)) (g p n) = true then .ret (p, n, q) else kas_desc f p (n + 1) (q + 1)) _
      by_cases d : key (g p (n - 1)) < key (g p n)
      · rw [if_pos (decide_eq_true d)]; exact X
      · rw [if_neg (by rw [decide_eq_true_eq]; exact d)]
        have e : key (g p n) = key (g p (n - 1)) := by omega
        have ew : n + 1 - (q + 1 + 1) = n - (q + 1) := by omega
        refine wp_desc f (n + 1) (q + 1) p (by omega) ⟨by rw [ew]; exact X.st, by omega, by omega, fun i j hij hj => X.i1 i j hij (by omega), fun i j hi hj hj2 => ?_, fun j hj hj2 => ?_⟩
        · rcases Nat.lt_or_ge j n with h | h
          · exact X.i2 i j (by omega) (by omega) h
          · obtain rfl : j = n := by omega
            rw [e]; exact X.i2 i (j - 1) (by omega) (by omega) (by omega)
        · show key (g p j) = key (g p n)
          rcases Nat.lt_or_ge j n with h | h
          · rw [e]; exact X.i3 j (by omega) h
          · obtain rfl : j = n := by omega
            rfl

noncomputable abbrev Cnt (r : Nat × Array Nat) : Prop := 1 ≤ r.1 ∧ r.1 ≤ N ∧ St N r.1 r.2 ∧ S key r.2 r.1
theorem wp_tail3 {n : Nat} {p : Array Nat} (hD : D key p n) (X : St N n p) (h1 : 1 ≤ n) (hn : n ≤ N) : Wp (ltK key) N (kas_tail3 n N p) (Cnt key (N := N)) := by
  have hS : S key (kas_rev p 0 n) n := fun i j hij hj => by
    rw [rev_g X.sz hn (by omega : i < N), rev_g X.sz hn (by omega : j < N), if_pos (by omega), if_pos (by omega)]
    exact hD _ _ (by omega) (by omega)
  have X2 := rev_st X (i := 0) hn
  refine Wp.bind ((wp_asc key (N - n) n _ (by omega) h1 X2 hS).mono fun m hm => ?_)
  exact ⟨Nat.le_trans h1 hm.1, hm.2.1, ⟨X2.sz, X2.pm, fun i a b => X2.hi i (Nat.le_trans hm.1 a) b⟩, hm.2.2.1⟩
theorem wp_descPart {n : Nat} {p : Array Nat} (hD : D key p n) (X : St N n p) (h1 : 1 ≤ n) (hn : n < N) (hk : key (g p n) < key (g p (n - 1))) : Wp (ltK key) N (kas_descPart n N p) (Cnt key (N := N)) := by
  refine Wp.bind ((wp_desc key (N - (n + 1)) (n + 1) 0 p (by omega) (dn_start key hD X h1 hn hk)).mono fun r hr => ?_)
  have hq := hr.qn
  have hle := hr.le
  by_cases q : r.2.2 > 0
  · rw [if_pos q]
    obtain ⟨a, b⟩ := dn_turn key hr
    exact wp_tail3 key a b (by omega) hle
  · rw [if_neg q]
    have q0 : r.2.2 = 0 := by omega
    obtain ⟨p2, n2, q2⟩ := r
    dsimp only at q0 hq hle
    subst q0
    obtain ⟨a, b⟩ := dn_zero key hr
    exact wp_tail3 key a b (by omega) hle
theorem wp_count {p : Array Nat} (X : ∀ n, St N n p) (h2 : 2 ≤ N) : Wp (ltK key) N (kas_count N p) (Cnt key (N := N)) := by
  refine Wp.bind ((wp_asc key (N - 1) 1 p (by omega) (Nat.le_refl _) (X 1) fun i j hij hj => by omega).mono fun n hn => ?_)
  obtain ⟨h1, hN, hS, hlt⟩ := hn
  by_cases e : n = N
  · rw [if_pos (beq_iff_eq.mpr e)]
    exact ⟨h1, hN, X n, hS⟩
  · rw [if_neg (by rw [beq_iff_eq]; exact e)]
    have hl : n < N := by omega
    have hk := hlt hl
    by_cases m : n > 1
    · rw [if_pos m]
      refine ⟨(X 1).mem (by omega), (X 1).mem (by omega), ?_⟩
      show Wp _ _ (if ltK key (g p 0) (g p (n - 1)) = true then KasT.ret (n, p) else kas_descPart n N (kas_rev p 0 n)) _
      by_cases c : key (g p 0) < key (g p (n - 1))
      · rw [if_pos (decide_eq_true c)]; exact ⟨h1, hN, X n, hS⟩
      · rw [if_neg (by rw [decide_eq_true_eq]; exact c)]
        refine wp_descPart key (fun i j hij hj => ?_) (rev_st (X n) hN) h1 hl ?_
        · rw [rev_g (X n).sz hN (by omega : i < N), rev_g (X n).sz hN (by omega : j < N), if_pos (by omega), if_pos (by omega)]
          exact hS _ _ (by omega) (by omega)
        · rw [rev_g (X n).sz hN hl, if_neg (by omega), rev_g (X n).sz hN (by omega : n - 1 < N), if_pos (by omega)]
          have e0 : 0 + n - 1 - (n - 1) = 0 := by omega
          rw [e0]
          omega
    · rw [if_neg m]
      obtain rfl : n = 1 := by omega
      exact wp_descPart key (fun i j hij hj => by omega) (X 1) h1 hl hk

theorem wp_place {p : Array Nat} {k : Nat} (X : St N k p) (hk : k < N) : ∀ (f l r : Nat), r - l ≤ f → l ≤ r → r ≤ k → S key p k → (∀ i, i < l → key (g p i) ≤ key (g p k)) → (∀ i, r ≤ i → i < k → key (g p k) < key (g p i)) →
    Wp (ltK key) N (kas_place p k f l r) fun m => m ≤ k ∧ (∀ i, i < m → key (g p i) ≤ key (g p k)) ∧ (∀ i, m ≤ i → i < k → key (g p k) < key (g p i))
  | 0, l, r, hf, hlr, hr, _, a, b => ⟨by omega, a, fun i h1 h2 => b i (by omega) h2⟩
  | f + 1, l, r, hf, hlr, hr, hS, a, b => by
    unfold kas_place
    by_cases q : l ≥ r
    · rw [if_pos q]; exact ⟨by omega, a, fun i h1 h2 => b i (by omega) h2⟩
    · rw [if_neg q]
      have hm : (l + r) / 2 < r := by omega
      have hm2 : l ≤ (l + r) / 2 := by omega
      refine ⟨X.mem hk, X.mem (by omega), ?_⟩
      show Wp _ _ (if ltK key (g p k) (g p ((l + r) / 2)) = true then kas_place p k f l ((l + r) / 2) else kas_place p k f ((l + r) / 2 + 1) r) _
      have mono : ∀ i j, i ≤ j → j < k → key (g p i) ≤ key (g p j) := fun i j hij hj => by
        rcases Nat.lt_or_ge i j with h | h
        · have := hS i j h hj; unfold R at this; omega
        · obtain rfl : i = j := by omega
          exact Int.le_refl _
      by_cases c : key (g p k) < key (g p ((l + r) / 2))
      · rw [if_pos (decide_eq_true c)]
        refine wp_place X hk f l _ (by omega) hm2 (by omega) hS a fun i h1 h2 => ?_
        have := mono _ i h1 h2; omega
      · rw [if_neg (by rw [decide_eq_true_eq]; exact c)]
        refine wp_place X hk f _ r (by omega) (by omega) hr hS (fun i hi => ?_) b
        have := mono i ((l + r) / 2) (by omega) (by omega); omega
theorem wp_bin : ∀ (f k : Nat) (p : Array Nat), k + f = N → St N k p → S key p k → Wp (ltK key) N (kas_bin f p k) fun p' => St N N p' ∧ S key p' N
  | 0, k, p, hf, X, hS => by
    obtain rfl : k = N := by omega
    exact ⟨X, hS⟩
  | f + 1, k, p, hf, X, hS => by
    have hk : k < N := by omega
    refine Wp.bind ((wp_place key X hk k 0 k (by omega) (Nat.zero_le _) (Nat.le_refl _) hS (fun i h => by omega) fun i h1 h2 => by omega).mono fun l hl => ?_)
    obtain ⟨hlk, a, b⟩ := hl
    have ek := X.hi k (Nat.le_refl _) hk
    have ew : k - (k - l) = l := by omega
    refine wp_bin f (k + 1) _ (by omega) ⟨(bubble_size _ _ _).trans X.sz, (Array.perm_iff_toList_perm.mp (bubble_perm _ _ _)).trans X.pm, fun i h1 h2 => ?_⟩ fun i j hij hj => ?_
    · rw [bub_g X.sz hk (by omega) h2, ew, if_neg (by omega), if_neg (by omega)]
      exact X.hi i (by omega) h2
    · have hiN : i < N := by omega
      have hjN : j < N := by omega
      rw [bub_g X.sz hk (by omega) hiN, bub_g X.sz hk (by omega) hjN, ew]
      by_cases i1 : i = l
      · subst i1
        rw [if_pos rfl, if_neg (by omega), if_pos (by omega)]
        exact .inl (b (j - 1) (by omega) (by omega))
      · rw [if_neg i1]
        by_cases i2 : l < i ∧ i ≤ k
        · rw [if_pos i2, if_neg (by omega), if_pos (by omega)]
          exact hS _ _ (by omega) (by omega)
        · rw [if_neg i2]
          have hil : i < l := by omega
          by_cases j1 : j = l
          · subst j1
            rw [if_pos rfl]
            have h1 := a i hil
            have h2 := X.lo (i := i) (by omega) hiN
            unfold R; omega
          · rw [if_neg j1]
            by_cases j2 : l < j ∧ j ≤ k
            · rw [if_pos j2]; exact hS _ _ (by omega) (by omega)
            · rw [if_neg j2]; exact hS _ _ hij (by omega)

theorem start_st (n : Nat) : St N n (List.toArray (List.range N)) where
  sz := by simp
  pm := by simp
  hi := fun i _ h => by simp [g, Array.getD, h]
theorem wp_sort (h2 : 2 ≤ N) : Wp (ltK key) N (kas_sort N) fun p => St N N p ∧ S key p N := by
  refine Wp.bind ((wp_count key (fun n => start_st n) h2).mono fun r hr => ?_)
  obtain ⟨h1, hN, X, hS⟩ := hr
  by_cases q : r.1 < N
  · rw [if_pos q]
    have e : max r.1 1 = r.1 := by omega
    rw [e]
    exact wp_bin key _ _ _ (by omega) X hS
  · rw [if_neg q]
    obtain e : r.1 = N := by omega
    rw [e] at X hS
    exact ⟨X, hS⟩
end
end Mine
end
section
open PySem PySem.W PyProof.Rows PySem.Calls
set_option maxRecDepth 100000
set_option maxHeartbeats 2000000
namespace Mine
/-- the class stands ready, its comparison known -/
structure Rdy (w : World) (p : Program) (loose : List Str) (mean : ExcName → Option Value) (mg mb : Str → Option Value) (base : Heap) (outer : List Env) (K : Frag) (L : Addr) (pm : Value) (C N P f4 f5 c4 c5 lam : Addr) (f : Str → Str → Int) (h : Heap) : Prop where
  X39 : (hd.heap_39 w.params).In h
  T : Top p loose mean mg mb h
  stays : ∀ b o, base.get? b = some o → h.get? b = some o
  B : ∀ A : Around, A.frames = some outer → Below A base outer h
  X : K.In h
  W : KW K L pm C N P f4 f5 c4 c5
  r4 : h.CodeRec (.ref c4) (qn "__init__")
  r5 : h.CodeRec (.ref c5) (qn "__lt__")
  cell : ∃ oc, h.get? (L + 1) = some oc ∧ oc.data = .cell (some (.ref lam))
  fn : FnAt lam h
  says : CmpSays w p loose mean mg mb base lam f h
theorem rec_keep {h h' : Heap} {c : Addr} {q : Str} (k : Keeps h h') (r : h.CodeRec (.ref c) q) : h'.CodeRec (.ref c) q := by
  obtain ⟨c2, oc, vs, tv, ec, hoc, r⟩ := r
  exact ⟨c2, oc, vs, tv, ec, k _ _ hoc, r⟩
section
variable {w : World} {p : Program} {loose : List Str} {mean : ExcName → Option Value} {mg mb : Str → Option Value} {base : Heap} {outer : List Env} {K : Frag} {L : Addr} {pm : Value} {C N P f4 f5 c4 c5 lam : Addr} {f : Str → Str → Int} {h h' : Heap}
theorem Rdy.up (Y : Rdy w p loose mean mg mb base outer K L pm C N P f4 f5 c4 c5 lam f h) (k : Keeps h h') : Rdy w p loose mean mg mb base outer K L pm C N P f4 f5 c4 c5 lam f h' where
  X39 := Y.X39.keeps k
  T := Y.T.keeps k
  stays := fun b o e => k _ _ (Y.stays b o e)
  B := fun A hA => ⟨hA, fun b o e => k _ _ (Y.stays b o e), (Y.B A hA).frames.of_keeps fun b o e _ => ⟨o, k _ _ e, rfl⟩⟩
  X := Y.X.keeps k
  W := Y.W
  r4 := rec_keep k Y.r4
  r5 := rec_keep k Y.r5
  cell := let ⟨oc, e, d⟩ := Y.cell; ⟨oc, k _ _ e, d⟩
  fn := let ⟨a, b, c, d, e⟩ := Y.fn; ⟨a, b, c, d, k _ _ e⟩
  says := fun A o s x1 x2 t1 t2 CX a1 a2 a3 a4 a5 a6 kk => Y.says A o s x1 x2 t1 t2 CX a1 a2 a3 a4 a5 a6 fun b o e => kk _ _ (k _ _ e)
noncomputable def InstOk (C : Addr) (h : Heap) (x : Str × Tok) (i : Addr × Addr) : Prop := h.get? i.1 = some (instO C i.2 x.1 x.2) ∧ h.get? i.2 = some emptyDict
theorem lt_at {A : Around} {s : Shared} {x1 x2 : Str × Tok} {i1 i2 : Addr × Addr} {Q : Bool → Shared → Prop} {E : Value → Shared → Prop}
    (Y : Rdy w p loose mean mg mb base outer K L pm C N P f4 f5 c4 c5 lam f s.heap) (hh : A.handled = none) (hdep : A.depth ≤ 470) (hu : A.units ≤ 280) (hfr : A.frames = some outer)
    (h1 : InstOk C s.heap x1 i1) (h2 : InstOk C s.heap x2 i2) (l1 : x1.1.length ≤ 3) (l2 : x2.1.length ≤ 3)
    (hq : ∀ h' tk, Keeps s.heap h' → Q (decide (f x1.1 x2.1 < 0)) { s with heap := h', toks := tk }) : wpAny (model Pr w) A (keyLt' oneType' (.ref i1.1) (.ref i2.1)) Q E s := by
  obtain ⟨oc, hc, hcd⟩ := Y.cell
  rw [keyLt'_oneType, oneLt'_eq]
  simp only [if_true]
  refine wpAny_bind (wpAny_cRoomFor (Nat.lt_of_le_of_lt hu (by decide)) ?_)
  refine wpAny_bind (ifBound_K (od := some emptyDict) Y.X ⟨h1.1, rfl, rfl, h1.2⟩ Y.W.fLt Y.W.isF5 ?_)
  refine wpAny_call (codeAny_mono (lt_spec ⟨Y.X39, Y.T, Y.B A hfr⟩ hh hdep hu hfr Y.X Y.W Y.r5 h1.1 h1.2 h2.1 h2.2 l1 l2 hc hcd Y.fn Y.says) fun r s' z => ?_)
  obtain ⟨v, h', tk, e1, hv, hk, e2⟩ := z
  subst e1 e2 hv
  exact wpAny_truthy_bool (hq _ _ hk)
end
theorem kas_run {α : Type} {lt : Nat → Nat → Bool} {n : Nat} {cmp : Nat → Nat → (Bool → Shared → Prop) → Shared → Prop} {I : Shared → Prop} {G : α → Prop} (hcmp : ∀ i j (C : Bool → Shared → Prop) s, i < n → j < n → I s → (∀ s', I s' → C (lt i j) s') → cmp i j C s) :
    ∀ {t : KasT α} {s : Shared}, Wp lt n t G → I s → t.kasWp cmp (fun a s' => G a ∧ I s') s
  | .ret _, _, hg, hi => ⟨hg, hi⟩
  | .ask i j _, s, hg, hi => hcmp i j _ s hg.1 hg.2.1 hi fun _ hi' => kas_run hcmp hg.2.2 hi'

section
variable {w : World} {p : Program} {loose : List Str} {mean : ExcName → Option Value} {mg mb : Str → Option Value} {base : Heap} {outer : List Env} {K : Frag} {L : Addr} {pm : Value} {C N P f4 f5 c4 c5 lam : Addr} {f : Str → Str → Int} {h h' : Heap}
variable {A : Around} {E : Value → Shared → Prop} {s : Shared}
theorem type_weight (C : Addr) (l : List Value) : (Code.builtin "type.__call__" ⟨.ref C :: l, []⟩).weight ≤ 1 := by
  show (if (Code.builtin "type.__call__" ⟨.ref C :: l, []⟩).isGuard then 1 else 0) + _ ≤ _
  exact Nat.le_of_ble_eq_true rfl
/-- K(text), as the sort and the lambdas call it -/
theorem mk_at {x : Str × Tok} {Q : Value → Shared → Prop}
    (Y : Rdy w p loose mean mg mb base outer K L pm C N P f4 f5 c4 c5 lam f s.heap) (hdep : A.depth ≤ 480)
    (hq : ∀ i h' tk, Keeps s.heap h' → InstOk C h' x i → Q (.ref i.1) { s with heap := h', toks := tk }) : wpAny (model Pr w) A (call (.ref C) [.str x.1 x.2]) Q E s :=
  wpAny_call (inst_spec Y.X Y.W Y.r4 Y.T.nolimit (by
    show A.depth + (Code.builtin "type.__call__" ⟨.ref C :: [.str x.1 x.2], []⟩).weight < _
    have := type_weight C [.str x.1 x.2]
    unfold recursionLimit; omega) fun i dx h' tk' k _ _ _ e1 e2 => hq (i, dx) h' tk' k ⟨e1, e2⟩)

/-- a list's items in the object -/
noncomputable abbrev lst (a : Addr) (xs : Array Value) (n : Nat) (h : Heap) : Prop := h.get? a = some (seqObj "list" xs n)
theorem inst_ne {a i : Addr} {xs : Array Value} {n : Nat} {o : Obj} (ha : h.get? a = some (seqObj "list" xs n)) (hi : h.get? i = some o) (hd : ∀ ys m, o.data ≠ .seq ys m) : i ≠ a := fun q => by
  rw [q, ha] at hi; cases hi; exact hd _ _ rfl
theorem InstOk.same {a : Addr} {xs : Array Value} {n : Nat} {x : Str × Tok} {i : Addr × Addr} (I : InstOk C h x i) (ha : h.get? a = some (seqObj "list" xs n)) (hs : Heap.SameBut a h h') : InstOk C h' x i :=
  ⟨(hs.2 _ (inst_ne ha I.1 fun _ _ => Data.noConfusion)).trans I.1, (hs.2 _ (inst_ne ha I.2 fun _ _ => Data.noConfusion)).trans I.2⟩
theorem InstOk.up {x : Str × Tok} {i : Addr × Addr} (I : InstOk C h x i) (k : Keeps h h') : InstOk C h' x i := ⟨k _ _ I.1, k _ _ I.2⟩
theorem upd_list {a : Addr} {xs : Array Value} {n : Nat} (g : Array Value → Array Value) (ha : h.get? a = some (seqObj "list" xs n)) : ∃ c, (h.update a (Obj.mapSeq g)).get? a = some (seqObj "list" (g xs) c) := ⟨_, get?_update_seq ha g⟩
noncomputable def valOf (x : Str × Tok) : Value := .str x.1 x.2

/-- the state while the sort is on: what stood stands, the two lists, the instances made -/
structure Srt (h₀ : Heap) (C a kS : Addr) (e1 : Nat) (xs : List (Str × Tok)) (is : List (Addr × Addr)) (h : Heap) : Prop where
  keep : Keeps h₀ h
  a0 : h₀.get? a = none
  k0 : h₀.get? kS = none
  ne : kS ≠ a
  la : h.get? a = some (seqObj "list" #[] e1)
  lk : ∃ e, h.get? kS = some (seqObj "list" (List.toArray (is.map fun i => Value.ref i.1)) e)
  ins : ∀ (j : Nat) (x : Str × Tok) (i : Addr × Addr), xs[j]? = some x → is[j]? = some i → InstOk C h x i
theorem Srt.up {h₀ : Heap} {a kS : Addr} {e1 : Nat} {xs : List (Str × Tok)} {is : List (Addr × Addr)} (X : Srt h₀ C a kS e1 xs is h) (k : Keeps h h') : Srt h₀ C a kS e1 xs is h' :=
  ⟨fun b o e => k _ _ (X.keep b o e), X.a0, X.k0, X.ne, k _ _ X.la, let ⟨e, q⟩ := X.lk; ⟨e, k _ _ q⟩, fun j x i a b => (X.ins j x i a b).up k⟩

theorem Srt.add {h₀ : Heap} {a kS : Addr} {e1 : Nat} {xs : List (Str × Tok)} {is : List (Addr × Addr)} {x : Str × Tok} {i : Addr × Addr} (X : Srt h₀ C a kS e1 xs is h) (hx : xs[is.length]? = some x) (I : InstOk C h x i) :
    Srt h₀ C a kS e1 xs (is ++ [i]) (h.update kS (Obj.mapSeq (·.push (.ref i.1)))) := by
  obtain ⟨e, lk⟩ := X.lk
  have hs := Heap.SameBut.update h kS (Obj.mapSeq (·.push (Value.ref i.1)))
  obtain ⟨c, hc⟩ := upd_list (·.push (Value.ref i.1)) lk
  refine ⟨fun b o q => (hs.2 b (fun z => by rw [z, X.k0] at q; cases q)).trans (X.keep b o q), X.a0, X.k0, X.ne, (hs.2 _ (Ne.symm X.ne)).trans X.la, ⟨c, by rw [hc]; simp⟩, fun j y q hj hq => ?_⟩
  rcases Nat.lt_or_ge j is.length with hl | hl
  · rw [List.getElem?_append_left hl] at hq
    exact (X.ins j y q hj hq).same lk hs
  · rw [List.getElem?_append_right hl] at hq
    obtain rfl : j = is.length := by
      rcases Nat.lt_or_ge is.length j with h1 | h1
      · have e2 : j - is.length = (j - is.length - 1) + 1 := by omega
        rw [e2] at hq; cases hq
      · omega
    rw [Nat.sub_self] at hq
    cases hq
    rw [hx] at hj
    cases hj
    exact I.same lk hs

theorem key_kind {is : List (Addr × Addr)} {xs : List (Str × Tok)} {Q : SortKind → Shared → Prop} (h2 : 2 ≤ is.length) (hl : is.length = xs.length) (hi : ∀ (j : Nat) (x : Str × Tok) (i : Addr × Addr), xs[j]? = some x → is[j]? = some i → InstOk C s.heap x i)
    (hq : Q oneType' s) : wpAny (model Pr w) A (keyKind' (List.toArray (is.map fun i => Value.ref i.1))) Q E s := by
  refine kas_kind (T := .ref C) (by rw [List.length_map]; exact h2) (fun v hv => ?_) rfl (by simp) hq
  obtain ⟨i, hm, rfl⟩ := List.mem_map.mp hv
  obtain ⟨j, hj⟩ := List.getElem?_of_mem hm
  have hjl := (List.getElem?_eq_some_iff.mp hj).1
  obtain ⟨x, hx⟩ : ∃ x, xs[j]? = some x := ⟨_, List.getElem?_eq_getElem (by omega)⟩
  have I := hi j x i hx hj
  exact (Looks.ld I.1).andThen .now

theorem sort_end {h₀ : Heap} {a kS Pd : Addr} {e1 : Nat} {xs : List (Str × Tok)} {is : List (Addr × Addr)} {key : Nat → Int} {P : PySem.Fin → Shared → Prop}
    (Y : Rdy w p loose mean mg mb base outer K L pm C N Pd f4 f5 c4 c5 lam f h₀) (X : Srt h₀ C a kS e1 xs is s.heap) (hl : is.length = xs.length) (hh : A.handled = none) (hdep : A.depth ≤ 470) (hu : A.units ≤ 280) (hfr : A.frames = some outer)
    (h2 : 2 ≤ xs.length) (h64 : xs.length < 64) (hx : ∀ x ∈ xs, x.1.length ≤ 3)
    (hk : ∀ (i j : Nat) (x y : Str × Tok), xs[i]? = some x → xs[j]? = some y → decide (f x.1 y.1 < 0) = ltK key i j)
    (hq : ∀ c p' h' tk, Keeps h₀ h' → St xs.length xs.length p' → S key p' xs.length → h'.get? a = some (seqObj "list" (List.toArray (p'.toList.map fun i => (xs.map valOf).getD i .none)) c) → P (.done (.ret .none)) { s with heap := h', toks := tk }) :
    wpAny (model Pr w) A (ksk_end a false (xs.map valOf).toArray e1 (.ref kS) (List.toArray (is.map fun i => Value.ref i.1))) P E s := by
  unfold ksk_end
  have hlt : ¬ (xs.map valOf).toArray.size < 2 := by rw [List.size_toArray, List.length_map]; omega
  simp only [Bool.false_eq_true, if_false]
  rw [if_neg hlt, if_neg hlt]
  refine wpAny_bind (key_kind (by omega) hl X.ins ?_)
  have hzs : ((List.toArray (is.map fun i => Value.ref i.1)).zip (xs.map valOf).toArray).size = xs.length := by
    rw [Array.size_zip, List.size_toArray, List.size_toArray, List.length_map, List.length_map, hl, Nat.min_self]
  have est : SortSt.mk' oneType' ((List.toArray (is.map fun i => Value.ref i.1)).zip (xs.map valOf).toArray) #[] 7 none = kas_st oneType' ((List.toArray (is.map fun i => Value.ref i.1)).zip (xs.map valOf).toArray) (List.toArray (List.range xs.length)) := by
    have e := kas_range ((List.toArray (is.map fun i => Value.ref i.1)).zip (xs.map valOf).toArray)
    rw [hzs] at e
    show _ = SortSt.mk' oneType' ((List.toArray (List.range xs.length)).map (kas_item _)) #[] 7 none
    rw [e]
  rw [est]
  generalize hit : (List.toArray (is.map fun i => Value.ref i.1)).zip (xs.map valOf).toArray = it at hzs ⊢
  have item : ∀ (i : Nat) (x : Str × Tok) (q : Addr × Addr), xs[i]? = some x → is[i]? = some q → kas_item it i = (Value.ref q.1, valOf x) := fun i x q hx hq => by
    have e : it.toList[i]? = some (Value.ref q.1, valOf x) := by
      rw [← hit, ksk_zip, List.toList_toArray, List.getElem?_zip_eq_some, List.getElem?_map, List.getElem?_map, hx, hq]
      exact ⟨rfl, rfl⟩
    rw [Array.getElem?_toList] at e
    show it.getD i _ = _
    rw [Array.getD_eq_getD_getElem?, e]; rfl
  have gets : ∀ i, i < xs.length → ∃ x q, xs[i]? = some x ∧ is[i]? = some q := fun i hi => ⟨_, _, List.getElem?_eq_getElem hi, List.getElem?_eq_getElem (by omega)⟩
  have ask : (kas_sort xs.length).kasWp (kas_cmp Pr w A oneType' it) (fun p' s' => (St xs.length xs.length p' ∧ S key p' xs.length) ∧ ∃ h' tk, s' = { s with heap := h', toks := tk } ∧ Keeps s.heap h') s := by
    refine kas_run (lt := ltK key) (n := xs.length) (fun i j Cq s' hi hj hI hC => ?_) (wp_sort key h2) ⟨s.heap, s.toks, rfl, Keeps.refl _⟩
    obtain ⟨h', tk, rfl, k'⟩ := hI
    obtain ⟨x, q, hx1, hq1⟩ := gets i hi
    obtain ⟨y, r, hy1, hr1⟩ := gets j hj
    show wpAny (model Pr w) A (keyLt' oneType' (kas_item it i).1 (kas_item it j).1) Cq _ _
    rw [item i x q hx1 hq1, item j y r hy1 hr1]
    refine lt_at (s := { s with heap := h', toks := tk }) (x1 := x) (x2 := y) ((Y.up X.keep).up k') hh hdep hu hfr ((X.ins i x q hx1 hq1).up k') ((X.ins j y r hy1 hr1).up k') (hx x (List.mem_of_getElem? hx1)) (hx y (List.mem_of_getElem? hy1)) fun h2 tk2 k2 => ?_
    rw [hk i j x y hx1 hy1]
    exact hC _ ⟨h2, tk2, rfl, k'.trans k2⟩
  have run := kas_runs (E := E) (Q := fun _ st' s' => ∃ p' : Array Nat, p'.size = xs.length ∧ arrOf st' = p'.map (kas_item it) ∧ failedOf st' = none ∧ (St xs.length xs.length p' ∧ S key p' xs.length) ∧ ∃ h' tk, s' = { s with heap := h', toks := tk } ∧ Keeps s.heap h')
    h2 h64 (fun p' st' s' a1 a2 a3 a4 => ⟨p', a1, a2, a3, a4⟩) ask
  refine wpAny_bind (wpAny_mono run ?_ fun _ _ e => e)
  rintro ⟨⟨⟩, st'⟩ s' ⟨p', hsz, harr, hfail, ⟨hSt, hSS⟩, h', tk, rfl, k'⟩
  dsimp only
  have X' := X.up k'
  obtain ⟨e, lk⟩ := X'.lk
  have hout : (arrOf st').map (·.2) = List.toArray (p'.toList.map fun i => (xs.map valOf).getD i .none) := by
    apply Array.toList_inj.mp
    rw [harr, Array.map_map, Array.toList_map]
    refine List.map_congr_left fun i hi => ?_
    have hi2 : i < xs.length := List.mem_range.mp (hSt.pm.mem_iff.mp hi)
    obtain ⟨x, q, hx1, hq1⟩ := gets i hi2
    show (kas_item it i).2 = _
    rw [item i x q hx1 hq1, List.getD_eq_getElem?_getD, List.getElem?_map, hx1]; rfl
  have s1 := Heap.SameBut.update h' kS (Obj.mapSeq fun _ => (#[] : Array Value))
  have la := (s1.2 _ (Ne.symm X.ne)).trans X'.la
  have s2 := Heap.SameBut.update (h'.update kS (Obj.mapSeq fun _ => (#[] : Array Value))) a (Obj.mapSeq fun _ => (arrOf st').map (·.2))
  obtain ⟨c2, hc2⟩ := upd_list (fun _ => (arrOf st').map (·.2)) la
  have hz2 : ((arrOf st').map (·.2)).size = xs.length := by rw [Array.size_map, harr, Array.size_map, hsz]
  unfold ksk_tail
  refine wpAny_bind (listUpdate_at lk rfl ?_ (by rw [List.size_toArray, List.length_map, sizeLine_eq]; omega) (Nat.zero_le _))
  refine wpAny_bind (wpAny_letGo ?_)
  refine wpAny_bind (seqEpoch_at la rfl ?_)
  simp only [Bool.false_eq_true, if_false]
  refine wpAny_bind (listUpdate_at la rfl ?_ (Nat.zero_le _) (by rw [hz2, sizeLine_eq]; omega))
  rw [hfail]
  simp only [bne_self_eq_false, Bool.false_eq_true, if_false]
  have hc3 := hc2.trans (congrArg (fun z => some (seqObj "list" z c2)) hout)
  exact wpAny_pure (hq c2 p' _ _ (fun b o q => (s2.2 b (fun z => by rw [z, X.a0] at q; cases q)).trans ((s1.2 b (fun z => by rw [z, X.k0] at q; cases q)).trans (X'.keep b o q))) hSt hSS hc3)

theorem sort_rest {h₀ : Heap} {a kS Pd : Addr} {e1 : Nat} {xs : List (Str × Tok)} {key : Nat → Int} {P : PySem.Fin → Shared → Prop}
    (Y : Rdy w p loose mean mg mb base outer K L pm C N Pd f4 f5 c4 c5 lam f h₀) (X : Srt h₀ C a kS e1 xs [] s.heap) (hh : A.handled = none) (hdep : A.depth ≤ 470) (hu : A.units ≤ 280) (hfr : A.frames = some outer)
    (h2 : 2 ≤ xs.length) (h64 : xs.length < 64) (hx : ∀ x ∈ xs, x.1.length ≤ 3)
    (hk : ∀ (i j : Nat) (x y : Str × Tok), xs[i]? = some x → xs[j]? = some y → decide (f x.1 y.1 < 0) = ltK key i j)
    (hq : ∀ c p' h' tk, Keeps h₀ h' → St xs.length xs.length p' → S key p' xs.length → h'.get? a = some (seqObj "list" (List.toArray (p'.toList.map fun i => (xs.map valOf).getD i .none)) c) → P (.done (.ret .none)) { s with heap := h', toks := tk }) :
    wpAny (model Pr w) A (ksk_rest a (.ref C) false (xs.map valOf).toArray e1 (.ref kS)) P E s := by
  unfold ksk_rest
  refine wpAny_bind (wpAny_rule ?_)
  rw [← Array.forIn_toList, List.toList_toArray]
  refine wpAny_bind (ksk_fold (fun i s' => ∃ h' tk is, s' = { s with heap := h', toks := tk } ∧ is.length = i ∧ Srt h₀ C a kS e1 xs is h') (xs.map valOf) 0 s ⟨s.heap, s.toks, [], rfl, rfl, X⟩ ?step ?done)
  case step =>
    rintro j v s' hv ⟨h', tk, is, rfl, hi, X'⟩
    rw [List.getElem?_map] at hv
    obtain ⟨x, hx1, rfl⟩ := Option.map_eq_some_iff.mp hv
    have hj : j < xs.length := (List.getElem?_eq_some_iff.mp hx1).1
    rw [Nat.zero_add] at hi
    refine wpAny_bind (wpAny_attempt (mk_at (s := { s with heap := h', toks := tk }) (x := x) (Y.up X'.keep) (Nat.le_trans hdep (by decide)) fun i h2 tk2 k2 I => ?_))
    dsimp only
    have X2 := X'.up k2
    obtain ⟨e, lk⟩ := X2.lk
    refine wpAny_bind (listUpdate_at lk rfl ?_ (by rw [List.size_toArray, List.length_map, sizeLine_eq]; omega) (by rw [Array.size_push, List.size_toArray, List.length_map, sizeLine_eq]; omega))
    refine wpAny_pure ⟨rfl, _, _, is ++ [i], rfl, by rw [List.length_append]; simp [hi], X2.add (by rw [hi]; exact hx1) I⟩
  case done =>
    rintro s' ⟨h', tk, is, rfl, hi, X'⟩
    rw [Nat.zero_add, List.length_map] at hi
    obtain ⟨e, lk⟩ := X'.lk
    refine wpAny_bind (listItems_at lk rfl ?_)
    exact sort_end (s := { s with heap := h', toks := tk }) Y X' hi hh hdep hu hfr h2 h64 hx hk fun c p' h2 tk2 a1 a2 a3 a4 => hq c p' h2 tk2 a1 a2 a3 a4

theorem sort_at {l Pd : Addr} {xs : List (Str × Tok)} {key : Nat → Int} {Q : Value → Shared → Prop}
    (Y : Rdy w p loose mean mg mb base outer K L pm C N Pd f4 f5 c4 c5 lam f s.heap) (hh : A.handled = none) (hdep : A.depth ≤ 470) (hu : A.units ≤ 270) (hfr : A.frames = some outer)
    (hl : s.heap.IsList l (xs.map valOf).toArray) (h2 : 2 ≤ xs.length) (h64 : xs.length < 64) (hx : ∀ x ∈ xs, x.1.length ≤ 3)
    (hk : ∀ (i j : Nat) (x y : Str × Tok), xs[i]? = some x → xs[j]? = some y → decide (f x.1 y.1 < 0) = ltK key i j)
    (hq : ∀ a c p' h' tk, Keeps s.heap h' → s.heap.get? a = none → St xs.length xs.length p' → S key p' xs.length → h'.get? a = some (seqObj "list" (List.toArray (p'.toList.map fun i => (xs.map valOf).getD i .none)) c) → Q (.ref a) { s with heap := h', toks := tk }) :
    wpAny (model Pr w) A (call (.builtin "sorted") [.ref l] [("key", .ref C)]) Q E s := by
  refine call_function_entry_kw kind_sorted plain_sorted entry_sorted (ksk_s1 _ _) ?_
  unfold Builtin.«sorted»
  refine wpAny_bind (m := checkCount "sorted" 1 1 _) (wpAny_pure ?_)
  refine wpAny_bind (collect_list hl ?_ (by rw [List.length_map, sizeLine_eq]; omega))
  refine wpAny_bind (wpAny_newList ?_ (by rw [List.length_map, sizeLine_eq]; omega))
  have keep : Keeps s.heap (((s.heap.push (seqObj "list" #[] 0)).update s.heap.objs.size (Obj.mapSeq (· ++ (xs.map valOf).toArray))).push { cls := .type "list", data := .seq (xs.map valOf).toArray }) := fun b o q => by
    refine Heap.get?_push_of_some _ ?_
    rw [Heap.get?_update_ne _ _ _ _ (Nat.ne_of_lt (Heap.lt_size q))]
    exact Heap.get?_push_of_some _ q
  have hsz : ((s.heap.push (seqObj "list" #[] 0)).update s.heap.objs.size (Obj.mapSeq (· ++ (xs.map valOf).toArray))).objs.size = s.heap.objs.size + 1 := by
    rw [Heap.size_update, Heap.size_push]
  dsimp only
  rw [hsz]
  have hoa : (((s.heap.push (seqObj "list" #[] 0)).update s.heap.objs.size (Obj.mapSeq (· ++ (xs.map valOf).toArray))).push { cls := .type "list", data := .seq (xs.map valOf).toArray }).get? (s.heap.objs.size + 1) = some (seqObj "list" (xs.map valOf).toArray 0) := by
    rw [← hsz]; exact Heap.get?_push_size _ rfl
  have ha0 : s.heap.get? (s.heap.objs.size + 1) = none := Heap.get?_none_of_le (Nat.le_succ _)
  have hge : s.heap.objs.size ≤ (((s.heap.push (seqObj "list" #[] 0)).update s.heap.objs.size (Obj.mapSeq (· ++ (xs.map valOf).toArray))).push { cls := .type "list", data := .seq (xs.map valOf).toArray }).objs.size := by
    rw [Heap.size_push, hsz]; omega
  generalize (((s.heap.push (seqObj "list" #[] 0)).update s.heap.objs.size (Obj.mapSeq (· ++ (xs.map valOf).toArray))).push { cls := .type "list", data := .seq (xs.map valOf).toArray }) = h1 at keep hoa hge ⊢
  generalize s.heap.objs.size + 1 = a at hoa ha0 ⊢
  refine wpAny_bind (wpAny_holding (wpAny_call_entry_kw slot_list_sort ⟨_, hoa, rfl⟩ entry_list_sort ?body (ksk_l1 _ _)))
  case body =>
    show wpAny (model Pr w) A.in1.in1 (Builtin.«list.sort» ⟨[.ref a], [("key", .ref C)]⟩) _ _ _
    rw [ksk_t1]
    unfold ksk_tree
    refine wpAny_bind (listItems_at hoa rfl ?_)
    refine wpAny_bind (listUpdate_at hoa rfl ?_ (by rw [List.size_toArray, List.length_map, sizeLine_eq]; omega) (Nat.zero_le _))
    have s1 := Heap.SameBut.update h1 a (Obj.mapSeq fun _ => (#[] : Array Value))
    obtain ⟨e1, la⟩ := upd_list (fun _ => (#[] : Array Value)) hoa
    refine wpAny_bind (seqEpoch_at la rfl ?_)
    refine wpAny_bind (wpAny_newTuple ?_ (by rw [List.toList_toArray, List.length_map, sizeLine_eq]; omega))
    refine wpAny_bind (wpAny_newList ?_ (Nat.zero_le _))
    refine wpAny_holding ?_
    dsimp only
    have hka : (((h1.update a (Obj.mapSeq fun _ => (#[] : Array Value))).push { cls := .type "tuple", data := .seq (xs.map valOf).toArray.toList.toArray }).objs.size) ≠ a := Nat.ne_of_gt (by rw [Heap.size_push, Heap.size_update]; exact Nat.lt_succ_of_lt (Heap.lt_size hoa))
    have kk : Keeps s.heap (h1.update a (Obj.mapSeq fun _ => (#[] : Array Value))) := fun b o q => (s1.2 b (fun z => by rw [z, ha0] at q; cases q)).trans (keep b o q)
    refine sort_rest (s := { s with heap := ((h1.update a (Obj.mapSeq fun _ => (#[] : Array Value))).push { cls := .type "tuple", data := .seq (xs.map valOf).toArray.toList.toArray }).push { cls := .type "list", data := .seq ([] : List Value).toArray } }) Y
      ⟨fun b o q => Heap.get?_push_of_some _ (Heap.get?_push_of_some _ (kk b o q)), ha0, Heap.get?_none_of_le (by rw [Heap.size_push, Heap.size_update]; exact Nat.le_succ_of_le hge), hka, Heap.get?_push_of_some _ (Heap.get?_push_of_some _ la), ⟨0, Heap.get?_push_size _ rfl⟩, fun j x i _ hi => by cases hi⟩ hh hdep (Nat.le_trans (Nat.add_le_add_right hu 2) (by decide)) hfr h2 h64 hx hk fun c p' h' tk a1 a2 a3 a4 => ⟨_, rfl, wpAny_pure ⟨_, rfl, hq a c p' h' tk a1 ha0 a2 a3 a4⟩⟩
end
end Mine
end
section
open PySem PySem.W PyProof.Rows PySem.Calls
namespace Mine
theorem resetN18 {prog : Program} {w : World} {A : Around} {E : Value → Shared → Prop} {s : Shared} {b : Bool} : wpAny (model prog w) A (truthy (.bool b)) (fun _ _ => True) E s := by
  w_top off
  walk1
  all_goals trivial
end Mine
end
section
open PySem PySem.W PyProof.Rows PySem.Calls
set_option maxRecDepth 100000
set_option maxHeartbeats 8000000
namespace Mine
theorem fillL : PySem.Challenge.rw_ij0076_01 = PySem.Challenge.rw_ij0076_01 ∧ hd.heap_39 = hd.heap_39 := by
  k_fill
  exact ⟨rfl, rfl⟩
theorem enterL {prog : Program} {w : World} {A : Around} {s : Shared}
    {R : Result → Shared → Prop} {name qual : Str} {params : Arguments} {body : PySem.Expr} {scope : Scope} {cl : List (Str × Addr)} {pm ctv : Value} {c' f : Addr} {args : Args} {binds : List (Str × Value)}
    (hlim : s.heap.NoLimit) (ho : s.heap.get? f = some (kla_obj name qual params body scope cl pm c' ctv)) (hcd : s.heap.CodeRec (.ref c') qual) (hroom : A.depth < recursionLimit)
    (hbind : bindArgs (kla_fn name qual params body scope cl pm (.ref c') ctv) args = pure binds) (hloc : ∀ y ∈ binds, scope.names.lookup y.1 = some .local)
    (hcell : ∀ x ∈ scope.names, x.2 ≠ .cell)
    (h : ∀ h₁ tk, Fr s.heap s.heap.objs.size h₁ (fun y => binds.reverse.lookup y) →
      wpAny (model prog w) (A.deeper (envX qual scope s.heap.objs.size f (.ref c') cl)) (eval body (envX qual scope s.heap.objs.size f (.ref c') cl))
        (fun v s' => R (.ok (.ret v)) s') (fun _ _ => False) { s with heap := h₁, toks := tk })
    (hco : scope.isCoroutine = false := by rfl) (hgen : scope.isGenerator = false := by rfl) (hk : scope.kind = .function := by rfl) :
    codeAny (model prog w) A (.call (.ref f) args) R s := by
  refine kla_callFunE hroom ho rfl hco hgen rfl hcd ?_
  rw [hbind]
  refine wpAny_pure (wpAny_newFunctionEnv hcell hloc (fun h₁ hns hsb => ⟨hlim.fresh _ hsb, ?_⟩) hk)
  show codeAny _ _ (.expr body (envX qual scope s.heap.objs.size f (.ref c') cl)) _ _
  have hk₁ : ∀ b o, s.heap.get? b = some o → h₁.get? b = some o := fun b o e => hsb.extBut b o (Nat.ne_of_lt (Heap.lt_size e)) (Heap.get?_push_of_some _ e)
  exact kla_codeExpr (wpAny_mono (h h₁ _ ⟨hns, hk₁, Nat.le_refl _⟩) (fun _ _ x => x) (fun _ _ x => x.elim))

noncomputable def lawDef : Stmt := Pg.main.body.getLast?.getD default
noncomputable def lawBody : List Stmt := match lawDef with | .FunctionDef _ _ b .. => b | _ => []
structure LD where
  P : Arguments
  B : PySem.Expr
  S : Scope
  q : Pos
noncomputable def ldOf : PySem.Expr → LD
  | .Lambda P B S q => ⟨P, B, S, q⟩
  | e => ⟨default, e, default, default⟩
noncomputable def lamOf : Stmt → LD
  | .Assign _ (.Call _ (l :: _) _ _) _ => ldOf l
  | _ => ldOf default
noncomputable def lam1 : LD := lamOf (lawBody.getD 1 default)
noncomputable def lam2 : LD := lamOf (lawBody.getD 2 default)
noncomputable def lam3 : LD := lamOf (lawBody.getD 7 default)
noncomputable def lam4 : LD := lamOf (lawBody.getD 8 default)
noncomputable def two : Scope := { kind := .function, names := [("one", .local), ("other", .local), ("len", .globalImplicit), ("quoteattr", .globalImplicit)], isGenerator := false, isCoroutine := false }
noncomputable def qPos : PySem.Expr → Nat → Pos
  | .Call (.Name _ p) _ _ _, 0 => p
  | .Call _ [.Call (.Name _ p) _ _ _] _ _, 1 => p
  | .Call _ [.Call _ [.Name _ p] _ _] _ _, 2 => p
  | .Call _ [.Call _ _ _ p] _ _, 3 => p
  | .Call _ _ _ p, 4 => p
  | _, _ => default
noncomputable def bSide : PySem.Expr → Bool → PySem.Expr
  | .BinOp a _ _ _, false => a
  | .BinOp _ _ b _, true => b
  | e, _ => e
noncomputable def bPos : PySem.Expr → Pos
  | .BinOp _ _ _ p => p
  | _ => default
noncomputable abbrev lenQ (x : Str) (p0 p1 p2 p3 p4 : Pos) : PySem.Expr := .Call (.Name "len" p0) [.Call (.Name "quoteattr" p1) [.Name x p2] [] p3] [] p4
noncomputable def lq (l : LD) (b : Bool) (x : Str) : PySem.Expr := lenQ x (qPos (bSide l.B b) 0) (qPos (bSide l.B b) 1) (qPos (bSide l.B b) 2) (qPos (bSide l.B b) 3) (qPos (bSide l.B b) 4)
theorem lam1_eq : lam1.B = .BinOp (lq lam1 false "one") .Sub (lq lam1 true "other") (bPos lam1.B) := by kernel_rfl
theorem lam2_eq : lam2.B = .BinOp (lq lam2 false "other") .Sub (lq lam2 true "one") (bPos lam2.B) := by kernel_rfl
theorem lam1_S : lam1.S = two := by kernel_rfl
theorem lam2_S : lam2.S = two := by kernel_rfl
theorem lam_bind (l : LD) (hl : l = lam1 ∨ l = lam2) (nm qual : Str) (b : PySem.Expr) (cl : List (Str × Addr)) (pm : Value) (c4 : Addr) (ctv a c : Value) : bindArgs (kla_fn nm qual l.P b two cl pm (.ref c4) ctv) ⟨[a, c], []⟩ = (pure [(("one" : Str), a), ("other", c)] : Sem (List (Str × Value))) := by
  rcases hl with rfl | rfl <;> kernel_rfl

local macro_rules | `(tactic| walk_at "call ref") => `(tactic| (k_here; (with_reducible show wpAny _ _ (call (Value.ref 39) [Value.str _ _]) _ _ _); k_dflt ((refine' use_specS ?X ?T ?B ?F ?N rfl rfl rfl (fun C => quote_at ?hx rfl ?hroom ?hu rfl C) ?_); (case X => k_asm); (case T => k_asm); (case B => k_asm); (case F => k_asm); (case N => k_asm); (case hroom => exact Nat.le_of_ble_eq_true rfl); (case hu => exact Nat.le_of_ble_eq_true rfl); (case hx => assumption); (intro t' h' tk F' N'))))

local macro_rules | `(tactic| walk_at "eval Name") => `(tactic| (k_here; refine wpAny_Name (wpAny_loadName_local rfl rfl (Fr.ns (by assumption)) (by assumption) ?_)))
noncomputable def qlen (x : Str) : Int := ((quoted x).length : Int)
theorem app_len (x y : Str) : (x ++ y).length = x.length + y.length := by
  show (x.cps ++ y.cps).size = _
  rw [Array.size_append]; rfl
theorem quoted_le {x : Str} (hx : x.length ≤ 3) : (quoted x).length ≤ 200000 := by
  have x1 : (Txt.replace x (Str.ofString "&") (Str.ofString "&amp;")).length ≤ 15 := replace_leN (c := 38) rfl hx (by decide : (Str.ofString "&amp;").length ≤ 5 ∧ 1 ≤ 5) (by decide)
  have x2 : (Txt.replace (Txt.replace x (Str.ofString "&") (Str.ofString "&amp;")) (Str.ofString ">") (Str.ofString "&gt;")).length ≤ 60 := replace_leN (c := 62) rfl x1 (by decide : (Str.ofString "&gt;").length ≤ 4 ∧ 1 ≤ 4) (by decide)
  have x3 : (escd x).length ≤ 240 := replace_leN (c := 60) rfl x2 (by decide : (Str.ofString "&lt;").length ≤ 4 ∧ 1 ≤ 4) (by decide)
  have x4 : (rep3 (escd x)).length ≤ 24000 := rep3_len x3
  have x5 : (Txt.replace (rep3 (escd x)) (Str.ofString "\"") (Str.ofString "&quot;")).length ≤ 144000 := replace_leN (c := 34) rfl x4 (by decide : (Str.ofString "&quot;").length ≤ 6 ∧ 1 ≤ 6) (by decide)
  have e1 : (Str.ofString "\"").length = 1 := by decide
  have e2 : (Str.ofString "'").length = 1 := by decide
  unfold quoted ended
  split
  · rw [app_len, app_len, e1]; omega
  · split
    · rw [app_len, app_len, e2]; omega
    · rw [app_len, app_len, e1]; omega
local macro_rules | `(tactic| walk_at "call builtin:len") => `(tactic| (k_here; refine PyProof.Rows.len_str (by have := quoted_le (by assumption); omega) ?_))
theorem side_spec {w : World} {p : Program} {loose : List Str} {mean : ExcName → Option Value} {mg mb : Str → Option Value} {base h₀ : Heap} {outer : List Env} {s : Shared} {g : Option (List Code)} {x : Str} {tk : Tok} {L f : Addr} {qual : Str} {cd : Value} {m : Str → Option Value} {nm : Str} {p0 p1 p2 p3 p4 : Pos} {Q : Value → Shared → Prop} {E : Value → Shared → Prop}
    (hn : nm = "one" ∨ nm = "other") (hx : x.length ≤ 3) (X : (hd.heap_39 w.params).In h₀) (T : Top p loose mean mg mb h₀) {A₀ : Around} (B : Below A₀ base outer h₀) (F : Fr h₀ L s.heap m) (hm : m nm = some (.str x tk))
    (h : ∀ t' h' tk', Fr h₀ L h' m → Q (.int (qlen x) t') { s with heap := h', toks := tk' }) :
    wpAny (model Pr w) { handled := none, depth := 481, frames := some (envX qual two L f cd [] :: outer), guards := g, units := 303 } (eval (lenQ nm p0 p1 p2 p3 p4) (envX qual two L f cd [])) Q E s := by
  have N : News h₀ L s.heap [] := News.nil
  rcases hn with rfl | rfl
  · k_steps
    (rename Fr _ _ _ _ => F9); exact h _ _ _ F9
  · k_steps
    (rename Fr _ _ _ _ => F9); exact h _ _ _ F9

theorem says1 {w : World} {p : Program} {loose : List Str} {mean : ExcName → Option Value} {mg mb : Str → Option Value} {base : Heap} {lam c' : Addr} {nm qual : Str} {pm ctv : Value} {h : Heap}
    (ho : h.get? lam = some (kla_obj nm qual lam1.P lam1.B two [] pm c' ctv)) (hcd : h.CodeRec (.ref c') qual) : CmpSays w p loose mean mg mb base lam (fun x y => qlen x - qlen y) h := by
  intro A outer s x1 x2 t1 t2 C hh hdep hu hfr l1 l2 kk
  refine codeAny_weaken (A := { handled := none, depth := 480, frames := some outer, guards := A.guards, units := 300 }) ?_ hh.symm hdep hfr.symm rfl hu
  refine enterL C.T.nolimit (kk _ _ ho) (rec_keep kk hcd) (by show (480:Nat) < _; decide) (lam_bind lam1 (by simp) _ _ _ _ _ _ _ _ _) (locs (by kernel_rfl)) (by decide) ?_
  intro h1 tk F
  rw [lam1_eq]
  refine wpAny_BinOp (side_spec (.inl rfl) l1 C.X C.T C.B F rfl fun t3 h3 k3 F3 => side_spec (s := { s with heap := h3, toks := k3 }) (.inr rfl) l2 C.X C.T C.B F3 rfl fun t4 h4 k4 F4 => ?_)
  refine sub_int ?_
  exact Gave.intro (P := fun v => ∃ t', v = .int _ t') ⟨_, rfl⟩ F4.keep
theorem says2 {w : World} {p : Program} {loose : List Str} {mean : ExcName → Option Value} {mg mb : Str → Option Value} {base : Heap} {lam c' : Addr} {nm qual : Str} {pm ctv : Value} {h : Heap}
    (ho : h.get? lam = some (kla_obj nm qual lam2.P lam2.B two [] pm c' ctv)) (hcd : h.CodeRec (.ref c') qual) : CmpSays w p loose mean mg mb base lam (fun x y => qlen y - qlen x) h := by
  intro A outer s x1 x2 t1 t2 C hh hdep hu hfr l1 l2 kk
  refine codeAny_weaken (A := { handled := none, depth := 480, frames := some outer, guards := A.guards, units := 300 }) ?_ hh.symm hdep hfr.symm rfl hu
  refine enterL C.T.nolimit (kk _ _ ho) (rec_keep kk hcd) (by show (480:Nat) < _; decide) (lam_bind lam2 (by simp) _ _ _ _ _ _ _ _ _) (locs (by kernel_rfl)) (by decide) ?_
  intro h1 tk F
  rw [lam2_eq]
  refine wpAny_BinOp (side_spec (.inr rfl) l2 C.X C.T C.B F rfl fun t3 h3 k3 F3 => side_spec (s := { s with heap := h3, toks := k3 }) (.inl rfl) l1 C.X C.T C.B F3 rfl fun t4 h4 k4 F4 => ?_)
  refine sub_int ?_
  exact Gave.intro (P := fun v => ∃ t', v = .int _ t') ⟨_, rfl⟩ F4.keep
end Mine
end
section
open PySem PySem.W PyProof.Rows PySem.Calls
namespace Mine
theorem resetR2 {prog : Program} {w : World} {A : Around} {E : Value → Shared → Prop} {s : Shared} {b : Bool} : wpAny (model prog w) A (truthy (.bool b)) (fun _ _ => True) E s := by
  w_top off
  walk1
  all_goals trivial
end Mine
end
section
open PySem PySem.W PyProof.Rows PySem.Calls
set_option maxRecDepth 100000
set_option maxHeartbeats 8000000
namespace Mine
theorem fillR : PySem.Challenge.rw_ij0076_01 = PySem.Challenge.rw_ij0076_01 ∧ hd.heap_39 = hd.heap_39 := by
  k_fill
  exact ⟨rfl, rfl⟩
theorem isl_keep {h h' : Heap} {a : Addr} {items : Array Value} (x : h.IsList a items) (k : ∀ b o, h.get? b = some o → h'.get? b = some o) : h'.IsList a items := let ⟨o, ho, r⟩ := x; ⟨o, k _ _ ho, r⟩
noncomputable abbrev lit (l : Addr) (i : Nat) : Obj := { cls := .type "list_iterator", data := .fields #[.ref l, .int i 0] }
theorem lit_at {h : Heap} {it l : Addr} {i : Nat} (e : h.get? it = some (lit l i)) : h.IsListIter it l i := ⟨_, e, rfl, rfl⟩
theorem iter_args (a : Value) : argsOk "iter" ⟨[a], []⟩ := by unfold argsOk; kernel_rfl
theorem next_args (a : Value) : argsOk "next" ⟨[a], []⟩ := by unfold argsOk; kernel_rfl
theorem iter_entry : entryFor table "iter" = some Builtin.«iter» := entryFor_of_tree (by kernel_rfl)
theorem next_entry : entryFor table "next" = some Builtin.«next» := entryFor_of_tree (by kernel_rfl)
section
variable {prog : Program} {w : World} {A : Around} {E : Value → Shared → Prop} {s : Shared} {h₀ : Heap} {L l it : Addr} {m : Str → Option Value} {news : List (Addr × Obj)} {items : Array Value} {Q : Value → Shared → Prop}
theorem iterK (F : Fr h₀ L s.heap m) (N : News h₀ L s.heap news) (hl : s.heap.IsList l items) (h : ∀ it h', Fr h₀ L h' m → News h₀ L h' ((it, lit l 0) :: news) → Q (.ref it) { s with heap := h' }) :
    wpAny (model prog w) A (call (.builtin "iter") [.ref l]) Q E s := by
  refine call_function_entry (by decide +kernel) (by decide +kernel) iter_entry (iter_args _) ?_
  unfold Builtin.«iter»
  refine wpAny_bind (m := someArgs "iter" 1 2 _) (wpAny_of_eq (a := [Value.ref l]) (by kernel_rfl) ?_)
  exact wpAny_bind (wpAny_pyIter_list hl (wpAny_pure ⟨_, rfl, h _ _ (F.push _) (N.push F (lit l 0) rfl)⟩))
theorem nextK {i : Nat} {x : Value} (F : Fr h₀ L s.heap m) (N : News h₀ L s.heap ((it, lit l i) :: news)) (hn : ∀ p ∈ news, p.1 ≠ it) (hl : s.heap.IsList l items) (hx : items[i]? = some x)
    (h : ∀ h', Fr h₀ L h' m → News h₀ L h' ((it, lit l (i + 1)) :: news) → Q x { s with heap := h' }) :
    wpAny (model prog w) A (call (.builtin "next") [.ref it]) Q E s := by
  have hm := N _ (.head _)
  have hit := lit_at hm.1
  obtain ⟨o, ho, hc, hd⟩ := id hit
  obtain ⟨ol, hol, _, nl, hdl⟩ := hl
  refine call_function_entry (by decide +kernel) (by decide +kernel) next_entry (next_args _) ?_
  unfold Builtin.«next»
  refine wpAny_bind (m := someArgs "next" 1 2 _) (wpAny_of_eq (a := [Value.ref it]) (by kernel_rfl) ?_)
  dsimp only
  refine wpAny_bind (wpAny_specialOf (name := Str.ofString "__next__") hit.typeIs slot_listiter_next.lookup ?_)
  refine wpAny_ite_split (fun hab => absurd hab (by decide)) (fun _ => ?_)
  refine wpAny_bind (wpAny_callSpecial?_slot (name := Str.ofString "__next__") hit.typeIs slot_listiter_next
    (wpAny_call_entry slot_listiter_next hit.typeIs entry_listiter_next ?_ (args_listiter_next _)))
  show wpAny _ _ (field (.ref it) 0 >>= _) _ _ s
  refine wpAny_bind (wpAny_field ho hd (x := .ref l) rfl ?_)
  show wpAny _ _ (if (Value.ref l == Value.none) = true then _ else _) _ _ s
  rw [if_neg (show ¬ ((Value.ref l == Value.none) = true) from Bool.false_ne_true)]
  show wpAny _ _ (field (.ref it) 1 >>= _) _ _ s
  refine wpAny_bind (wpAny_field ho hd (x := .int i 0) rfl ?_)
  show wpAny _ _ (seqItems? (.ref l) >>= _) _ _ s
  refine wpAny_bind (wpAny_seqItems hol hdl ?_)
  simp only [Int.toNat_natCast, hx]
  have hs := Heap.SameBut.update s.heap it (Obj.mapFields (·.setIfInBounds 1 (rawInt ((i : Int) + 1))))
  have e : (s.heap.update it (Obj.mapFields (·.setIfInBounds 1 (rawInt ((i : Int) + 1))))).get? it = some (lit l (i + 1)) := Heap.get?_update_self _ hm.1 rfl
  refine wpAny_bind (wpAny_setField ho hd (by simp) (wpAny_pure ⟨x, rfl, wpAny_pure ⟨_, rfl, h _ (F.change hs hm.2.1 hm.2.2) (fun p hp => ?_)⟩⟩))
  rcases List.mem_cons.mp hp with rfl | hp
  · exact ⟨e, hm.2⟩
  · exact ⟨(hs.2 _ (hn p hp)).trans (N p (.tail _ hp)).1, (N p (.tail _ hp)).2⟩
end
local macro_rules | `(tactic| walk_at "call builtin:iter") => `(tactic| (k_here; (refine iterK (by assumption) (by assumption) (isl_keep (by assumption) (Fr.keep (by assumption))) ?_; intro it' h' F' N')))
local macro_rules | `(tactic| walk_at "call builtin:next") => `(tactic| (k_here; (refine nextK (x := Value.str _ _) (by assumption) (by assumption) (by intro p hp; cases hp) (isl_keep (by assumption) (Fr.keep (by assumption))) (by assumption) ?_; intro h' F' N')))
noncomputable abbrev forOf (p0 p1 p2 p3 p4 p5 p6 p7 p8 : Pos) : Stmt := .For (.Name "element" p0) (.Name "it" p1) [.Assign [.Name "value" p2] (.Call (.Name "function" p3) [.Name "value" p4, .Name "element" p5] [] p6) p7] [] p8
/-- what a step of a fold over texts gives -/
noncomputable def StepSays (w : World) (p : Program) (loose : List Str) (mean : ExcName → Option Value) (mg mb : Str → Option Value) (base : Heap) (lam : Addr) (φ : Str → Str → Str) (Inv : Nat → Str → Prop) (h : Heap) : Prop :=
  ∀ (A : Around) (outer : List Env) (s : Shared) (i : Nat) (y x : Str) (t1 t2 : Tok), Cx w p loose mean mg mb base A outer s.heap → A.handled = none → A.depth ≤ 460 → A.units ≤ 270 → A.frames = some outer → Inv i y → x.length ≤ 3 → i < 64 →
    (∀ b o, h.get? b = some o → s.heap.get? b = some o) → codeAny (model Pr w) A (.call (.ref lam) ⟨[.str y t1, .str x t2], []⟩) (Gave s fun v => ∃ t', v = .str (φ y x) t') s

noncomputable def foldTo (φ : Str → Str → Str) (y0 : Str) (xs : List (Str × Tok)) : Str := xs.foldl (fun y x => φ y x.1) y0
theorem red_loop {w : World} {p : Program} {loose : List Str} {mean : ExcName → Option Value} {mg mb : Str → Option Value} {base h₀ : Heap} {A A₀ : Around} {outer : List Env} {s : Shared} {L lam l it : Addr} {m : Str → Option Value} {E : Value → Shared → Prop} {Q : Flow → Shared → Prop}
    {φ : Str → Str → Str} {Inv : Nat → Str → Prop} {xs : List (Str × Tok)} {y0 : Str} {t0 : Tok} {i0 : Nat} {a : Addr} {cd : Value} {p0 p1 p2 p3 p4 p5 p6 p7 p8 : Pos} {sc : Scope}
    (X : (hd.heap_39 w.params).In h₀) (T : Top p loose mean mg mb h₀) (B : Below A₀ base outer h₀) (F : Fr h₀ L s.heap m) (N : News h₀ L s.heap [(it, lit l i0)]) (hA : A.frames = some (envOf "reduce" sc L a cd :: outer))
    (hh : A.handled = none) (hdep : A.depth ≤ 460) (hu : A.units ≤ 270) (hl : h₀.IsList l (xs.map valOf).toArray) (hx : ∀ x ∈ xs, x.1.length ≤ 3) (hlen : xs.length < 64)
    (hm1 : m "value" = some (.str y0 t0)) (hm2 : m "function" = some (.ref lam)) (hm3 : m "it" = some (.ref it)) (hfn : FnAt lam h₀)
    (sk : sc.kind = .function) (sl : ∀ x : Str, x = "value" ∨ x = "it" ∨ x = "function" ∨ x = "element" → sc.names.lookup x = some .local) (step : StepSays w p loose mean mg mb base lam φ Inv h₀) (inv0 : Inv i0 y0) (invS : ∀ i y x, Inv i y → x.length ≤ 3 → Inv (i + 1) (φ y x)) (hi0 : i0 ≤ xs.length)
    (hq : ∀ t h' tk m', Fr h₀ L h' m' → m' "value" = some (.str (foldTo φ y0 (xs.drop i0)) t) → Q .next { s with heap := h', toks := tk }) :
    wpAny (model Pr w) A (exec (forOf p0 p1 p2 p3 p4 p5 p6 p7 p8) (envOf "reduce" sc L a cd)) Q E s := by
  have nit := N _ (.head _)
  refine wpAny_For (wpAny_Name (wpAny_loadName_local sk (sl _ (by simp)) F.ns hm3 (wpAny_pyIter_listiter (lit_at nit.1) ?_)))
  refine codeAny_forLoop (fun n s' => ∃ i y t h' tk m', s' = { s with heap := h', toks := tk } ∧ n = xs.length - i ∧ i ≤ xs.length ∧ Inv i y ∧ foldTo φ y (xs.drop i) = foldTo φ y0 (xs.drop i0) ∧ Fr h₀ L h' m' ∧ h'.IsListIter it l i ∧ m' "value" = some (.str y t) ∧ m' "function" = some (.ref lam)) ?_ (xs.length - i0)
    ⟨i0, y0, t0, s.heap, s.toks, m, rfl, rfl, hi0, inv0, rfl, F, lit_at nit.1, hm1, hm2⟩
  rintro n s' ⟨i, y, t, h', tk, m', rfl, rfl, hi, hI, hf, F', hit, e1, e2⟩
  have hl' := isl_keep hl F'.keep
  rcases Nat.lt_or_ge i xs.length with hlt | hge
  · obtain ⟨x, hx1⟩ : ∃ x, xs[i]? = some x := ⟨_, List.getElem?_eq_getElem hlt⟩
    refine wpAny_pyNext_list_item (s := { s with heap := h', toks := tk }) hit hl' (x := .str x.1 x.2) (by rw [List.getElem?_toArray, List.getElem?_map, hx1]; rfl) fun h2 hit2 hs2 => ?_
    dsimp only
    have F2 := F'.change hs2 nit.2.1 nit.2.2
    refine wpAny_assign_Name (wpAny_storeName_local (sl _ (by simp)) F2.ns (fun h3 ns3 hs3 => ?_) (by rw [show (envOf "reduce" sc L a cd).scope.kind = .function from sk]; rfl))
    have F3 := F2.set ns3 hs3
    have hit3 := hit2.extBut hs3.extBut nit.2.1
    have fn3 : FnAt lam h3 := let ⟨a, b, c, d, e⟩ := hfn; ⟨a, b, c, d, F3.keep _ _ e⟩
    refine wpAny_execs_cons (wpAny_Assign_Name (wpAny_Call_Name_kw (wpAny_Name (wpAny_loadName_local sk (sl _ (by simp)) F3.ns e2 ?_))))
    refine callWith_F fn3 (args_cons (wpAny_Name (wpAny_loadName_local sk (sl _ (by simp)) F3.ns e1 ?_)))
    refine args_cons (wpAny_Name (wpAny_loadName_local sk (sl _ (by simp)) F3.ns (by rfl) (args_nil ⟨fn3, ?_⟩)))
    refine wpAny_call (codeAny_mono (step _ _ _ i y x.1 t x.2 (Cx.at X T B F3 hA rfl sk) hh hdep hu hA hI (hx x (List.mem_of_getElem? hx1)) (Nat.lt_trans hlt hlen) F3.keep) fun r s' z => ?_)
    obtain ⟨v, h4, tk4, q1, ⟨t4, q2⟩, hk4, q3⟩ := z
    subst q1 q3 q2
    have F4 := F3.kept hk4
    refine wpAny_storeName_local (sl _ (by simp)) F4.ns (fun h5 ns5 hs5 => ?_) (by rw [show (envOf "reduce" sc L a cd).scope.kind = .function from sk]; rfl)
    have F5 := F4.set ns5 hs5
    have hit4 : h4.IsListIter it l (i + 1) := let ⟨o, ho, r⟩ := hit3; ⟨o, hk4 _ _ ho, r⟩
    have hit5 := hit4.extBut hs5.extBut nit.2.1
    refine wpAny_execs_nil ⟨xs.length - (i + 1), by omega, i + 1, φ y x.1, t4, h5, _, _, rfl, rfl, hlt, invS i y x.1 hI (hx x (List.mem_of_getElem? hx1)), ?_, F5, hit5, by rfl, ?_⟩
    · rw [← hf, List.drop_eq_getElem_cons hlt]
      have hx2 : xs[i] = x := Option.some.inj ((List.getElem?_eq_getElem hlt).symm.trans hx1)
      rw [hx2]; rfl
    · exact e2
  · obtain rfl : i = xs.length := by omega
    refine wpAny_pyNext_list_end (s := { s with heap := h', toks := tk }) hh hit hl' (by rw [List.getElem?_toArray, List.getElem?_map]; simp) fun h2 hs2 => ?_
    dsimp only
    refine wpAny_execs_nil ?_
    have F2 : Fr h₀ L h2 m' := ⟨F'.ns.extBut hs2 (Ne.symm nit.2.1), fun b o e => hs2 b o (fun z => by rw [z, nit.2.2] at e; cases e) (F'.keep b o e), F'.above⟩
    refine hq t h2 tk m' F2 ?_
    rw [e1, ← hf, List.drop_length]; rfl
end Mine
end
section
open PySem PySem.W PyProof.Rows PySem.Calls
namespace Mine
theorem resetR3 {prog : Program} {w : World} {A : Around} {E : Value → Shared → Prop} {s : Shared} {b : Bool} : wpAny (model prog w) A (truthy (.bool b)) (fun _ _ => True) E s := by
  w_top off
  walk1
  all_goals trivial
end Mine
end
section
open PySem PySem.W PyProof.Rows PySem.Calls
set_option maxRecDepth 100000
set_option maxHeartbeats 8000000
namespace Mine
theorem fillR3 : PySem.Challenge.rw_ij0076_01 = PySem.Challenge.rw_ij0076_01 ∧ hd.heap_39 = hd.heap_39 := by
  k_fill
  exact ⟨rfl, rfl⟩

noncomputable def StuckP (P : Prop) : Prop := P
theorem stuckP {P : Prop} (h : StuckP P) : P := h
local macro_rules | `(tactic| walk_at "call builtin:iter") => `(tactic| (k_here; (refine iterK (by assumption) (by assumption) (isl_keep (by assumption) (Fr.keep (by assumption))) ?_; intro it' h' F' N')))
local macro_rules | `(tactic| walk_at "call builtin:next") => `(tactic| (k_here; (refine nextK (x := Value.str _ _) (by assumption) (by assumption) (by intro p hp; cases hp) (isl_keep (by assumption) (Fr.keep (by assumption))) (by assumption) ?_; intro h' F' N')))
local macro_rules | `(tactic| walk_at "exec For Name Name cons nil") => `(tactic| (k_here; refine stuckP ?_))
section
variable {w : World} {p : Program} {loose : List Str} {mean : ExcName → Option Value} {mg mb : Str → Option Value} {base : Heap} {A : Around} {outer : List Env} {s : Shared} {lam l : Addr} {φ : Str → Str → Str} {Inv : Nat → Str → Prop} {xs : List (Str × Tok)} {x0 : Str × Tok} {y0 : Str} {t0 : Tok}
theorem red2 (C : Cx w p loose mean mg mb base A outer s.heap) (hh : A.handled = none) (hdep : A.depth ≤ 459) (hu : A.units ≤ 267) (hfr : A.frames = some outer)
    (hl : s.heap.IsList l (xs.map valOf).toArray) (hx : ∀ x ∈ xs, x.1.length ≤ 3) (hlen : xs.length < 64) (hx0 : xs[0]? = some x0) (hfn : FnAt lam s.heap)
    (step : StepSays w p loose mean mg mb base lam φ Inv s.heap) (inv0 : Inv 1 x0.1) (invS : ∀ i y x, Inv i y → x.length ≤ 3 → Inv (i + 1) (φ y x)) :
    codeAny (model Pr w) A (.call (.ref 55) ⟨[.ref lam, .ref l], []⟩) (Gave s fun v => ∃ t, v = .str (foldTo φ x0.1 (xs.drop 1)) t) s := by
  obtain ⟨X, T, B⟩ := C
  refine codeAny_weaken (A := { handled := none, depth := 459, frames := some outer, guards := A.guards, units := 267 }) ?_ hh.symm hdep hfr.symm rfl hu
  have B : Below { handled := none, depth := 459, frames := some outer, guards := A.guards, units := 267 } base outer s.heap := ⟨rfl, B.stays, B.frames⟩
  have hx0' : (xs.map valOf).toArray[0]? = some (Value.str x0.1 x0.2) := by rw [List.getElem?_toArray, List.getElem?_map, hx0]; rfl
  have hlen' : (xs.map valOf).length < 64 := by rw [List.length_map]; exact hlen
  refine enter ⟨X, T, B⟩ (by k_is) (by k_is) (by show (459:Nat) < _; decide) (by first | exact BindsTo.of_eq rfl | exact binds_K (by assumption) rfl (by k_is) rfl rfl rfl) (locs rfl) (by decide) ?_
  intro h₁ tk₀ htk₀ F N
  have hl0 := hl
  generalize (xs.map valOf).toArray = vs at hl hx0'
  k_steps
  (rename_i it' _ _ _ _ h' F' N')
  have e0 := hx0
  refine red_loop (φ := φ) (Inv := Inv) (xs := xs) (i0 := 1) (y0 := x0.1) (t0 := x0.2) (lam := lam) (it := it') X T B F' N' rfl rfl (Nat.le_of_ble_eq_true rfl) (Nat.le_of_ble_eq_true rfl) hl0 hx hlen rfl rfl rfl hfn rfl (by rintro _ (rfl | rfl | rfl | rfl) <;> rfl) step inv0 invS (Nat.succ_le_of_lt (List.getElem?_eq_some_iff.mp hx0).1) ?_
  intro t h5 tk5 m5 F5 e5
  refine wpAny_execs_cons (wpAny_Return_some (wpAny_Name (wpAny_loadName_local rfl rfl F5.ns e5 ?_)))
  exact Gave.intro ⟨_, rfl⟩ F5.keep
local macro_rules | `(tactic| walk_at "compareOp Is str ref") => `(tactic| (k_here; refine wpAny_is_other (by rfl) (by intro x; cases x) ?_))
theorem red3 (C : Cx w p loose mean mg mb base A outer s.heap) (hh : A.handled = none) (hdep : A.depth ≤ 459) (hu : A.units ≤ 267) (hfr : A.frames = some outer)
    (hl : s.heap.IsList l (xs.map valOf).toArray) (hx : ∀ x ∈ xs, x.1.length ≤ 3) (hlen : xs.length < 64) (hfn : FnAt lam s.heap)
    (step : StepSays w p loose mean mg mb base lam φ Inv s.heap) (inv0 : Inv 0 y0) (invS : ∀ i y x, Inv i y → x.length ≤ 3 → Inv (i + 1) (φ y x)) :
    codeAny (model Pr w) A (.call (.ref 55) ⟨[.ref lam, .ref l, .str y0 t0], []⟩) (Gave s fun v => ∃ t, v = .str (foldTo φ y0 xs) t) s := by
  obtain ⟨X, T, B⟩ := C
  refine codeAny_weaken (A := { handled := none, depth := 459, frames := some outer, guards := A.guards, units := 267 }) ?_ hh.symm hdep hfr.symm rfl hu
  have B : Below { handled := none, depth := 459, frames := some outer, guards := A.guards, units := 267 } base outer s.heap := ⟨rfl, B.stays, B.frames⟩
  have hlen' : (xs.map valOf).length < 64 := by rw [List.length_map]; exact hlen
  refine enter ⟨X, T, B⟩ (by k_is) (by k_is) (by show (459:Nat) < _; decide) (by first | exact BindsTo.of_eq rfl | exact binds_K (by assumption) rfl (by k_is) rfl rfl rfl) (locs rfl) (by decide) ?_
  intro h₁ tk₀ htk₀ F N
  have hl0 := hl
  generalize (xs.map valOf).toArray = vs at hl
  k_steps
  (rename_i it' _ _ h' F' N')
  refine red_loop (φ := φ) (Inv := Inv) (xs := xs) (i0 := 0) (y0 := y0) (t0 := t0) (lam := lam) (it := it') X T B F' N' rfl rfl (Nat.le_of_ble_eq_true rfl) (Nat.le_of_ble_eq_true rfl) hl0 hx hlen rfl rfl rfl hfn rfl (by rintro _ (rfl | rfl | rfl | rfl) <;> rfl) step inv0 invS (Nat.zero_le _) ?_
  intro t h5 tk5 m5 F5 e5
  refine wpAny_execs_cons (wpAny_Return_some (wpAny_Name (wpAny_loadName_local rfl rfl F5.ns e5 ?_)))
  exact Gave.intro ⟨_, rfl⟩ F5.keep
end
end Mine
end
section
open PySem PySem.W PyProof.Rows PySem.Calls
set_option maxRecDepth 100000
set_option maxHeartbeats 2000000
namespace Mine
/-- the class at a heap, with no frame -/
structure ClsAt (w : World) (p : Program) (loose : List Str) (mean : ExcName → Option Value) (mg mb : Str → Option Value) (base : Heap) (K : Frag) (L : Addr) (pm : Value) (C N P f4 f5 c4 c5 lam : Addr) (f : Str → Str → Int) (h : Heap) : Prop where
  X : K.In h
  W : KW K L pm C N P f4 f5 c4 c5
  r4 : h.CodeRec (.ref c4) (qn "__init__")
  r5 : h.CodeRec (.ref c5) (qn "__lt__")
  cell : ∃ oc, h.get? (L + 1) = some oc ∧ oc.data = .cell (some (.ref lam))
  fn : FnAt lam h
  says : CmpSays w p loose mean mg mb base lam f h
section
variable {w : World} {p : Program} {loose : List Str} {mean : ExcName → Option Value} {mg mb : Str → Option Value} {base : Heap} {A : Around} {outer : List Env} {s : Shared} {K : Frag} {L : Addr} {pm : Value} {C N P f4 f5 c4 c5 lam : Addr} {f : Str → Str → Int} {h h' : Heap}
theorem ClsAt.up (Y : ClsAt w p loose mean mg mb base K L pm C N P f4 f5 c4 c5 lam f h) (k : Keeps h h') : ClsAt w p loose mean mg mb base K L pm C N P f4 f5 c4 c5 lam f h' where
  X := Y.X.keeps k
  W := Y.W
  r4 := rec_keep k Y.r4
  r5 := rec_keep k Y.r5
  cell := let ⟨oc, e, d⟩ := Y.cell; ⟨oc, k _ _ e, d⟩
  fn := let ⟨a, b, c, d, e⟩ := Y.fn; ⟨a, b, c, d, k _ _ e⟩
  says := fun A o s x1 x2 t1 t2 CX a1 a2 a3 a4 a5 a6 kk => Y.says A o s x1 x2 t1 t2 CX a1 a2 a3 a4 a5 a6 fun b o e => kk _ _ (k _ _ e)
theorem rdy_of (CX : Cx w p loose mean mg mb base A outer h') (Z : ClsAt w p loose mean mg mb base K L pm C N P f4 f5 c4 c5 lam f h) (k : Keeps h h') : Rdy w p loose mean mg mb base outer K L pm C N P f4 f5 c4 c5 lam f h' :=
  let Z' := Z.up k
  ⟨CX.X, CX.T, CX.B.stays, fun _ hA => ⟨hA, CX.B.stays, CX.B.frames⟩, Z'.X, Z'.W, Z'.r4, Z'.r5, Z'.cell, Z'.fn, Z'.says⟩
/-- K(a) < K(b) -/
theorem inst_lt {h₀ : Heap} {Lf : Addr} {m : Str → Option Value} {x1 x2 : Str × Tok} {i1 i2 : Addr × Addr} {Q : Value → Shared → Prop} {E : Value → Shared → Prop}
    (Y : Rdy w p loose mean mg mb base outer K L pm C N P f4 f5 c4 c5 lam f s.heap) (F : Fr h₀ Lf s.heap m) (X₀ : K.In h₀) (hh : A.handled = none) (hdep : A.depth ≤ 470) (hu : A.units ≤ 280) (hfr : A.frames = some outer)
    (h1 : InstOk C s.heap x1 i1) (h2 : InstOk C s.heap x2 i2) (l1 : x1.1.length ≤ 3) (l2 : x2.1.length ≤ 3)
    (hq : ∀ h' tk, Keeps s.heap h' → Q (.bool (decide (f x1.1 x2.1 < 0))) { s with heap := h', toks := tk }) : wpAny (model Pr w) A (compareOp .Lt (.ref i1.1) (.ref i2.1)) Q E s := by
  obtain ⟨oc, hc, hcd⟩ := Y.cell
  refine cmp_ofLt (cmp_K (od := some emptyDict) (Nat.lt_of_le_of_lt hu (by decide)) F X₀ ⟨h1.1, rfl, rfl, h1.2⟩ ((Looks.ld h2.1).andThen .now) (tb := .ref C) (by unfold notFirst; simp) Y.W.fLt Y.W.isF5 ?_)
  refine wpAny_call (codeAny_mono (lt_spec ⟨Y.X39, Y.T, Y.B A hfr⟩ hh hdep hu hfr Y.X Y.W Y.r5 h1.1 h1.2 h2.1 h2.2 l1 l2 hc hcd Y.fn Y.says) fun r s' z => ?_)
  obtain ⟨v, h', tk, e1, hv, hk, e2⟩ := z
  subst e1 e2 hv
  exact hq _ _ hk
noncomputable def threeS : Scope := { kind := .function, names := [("one", .local), ("other", .local), ("key", .free)], isGenerator := false, isCoroutine := false }
noncomputable abbrev ifK (x y : Str) (b : Nat → Pos) : PySem.Expr := .IfExp (.Compare (.Call (.Name "key" (b 0)) [.Name "one" (b 1)] [] (b 2)) [.Lt] [.Call (.Name "key" (b 3)) [.Name "other" (b 4)] [] (b 5)] (b 6)) (.Name x (b 7)) (.Name y (b 8)) (b 9)
theorem lam3_eq : ∃ P, lam3.B = ifK "other" "one" P := ⟨fun n => [_, _, _, _, _, _, _, _, _, _].getD n default, rfl⟩
theorem lam4_eq : ∃ P, lam4.B = ifK "one" "other" P := ⟨fun n => [_, _, _, _, _, _, _, _, _, _].getD n default, rfl⟩
theorem lam3_S : lam3.S = threeS := by kernel_rfl
theorem lam4_S : lam4.S = threeS := by kernel_rfl
theorem lam_bind3 (l : LD) (hl : l = lam3 ∨ l = lam4) (nm qual : Str) (b : PySem.Expr) (cl : List (Str × Addr)) (pm : Value) (c4 : Addr) (ctv a c : Value) : bindArgs (kla_fn nm qual l.P b threeS cl pm (.ref c4) ctv) ⟨[a, c], []⟩ = (pure [(("one" : Str), a), ("other", c)] : Sem (List (Str × Value))) := by
  rcases hl with rfl | rfl <;> kernel_rfl
theorem KW.keep (W : KW K L pm C N P f4 f5 c4 c5) : keepIn K (.ref C) = true := by
  have h1 : specialIn K (.ref C) "__call__" = some (some (.builtin "type.__call__")) := by unfold specialIn; rw [W.tC]; kernel_rfl
  obtain ⟨o, hC, _, _, _, rfl⟩ := W.lC
  unfold keepIn
  dsimp only
  rw [hC]
  dsimp only
  rw [h1]
  simp
/-- key(a), the name read from a cell -/
theorem key_call {env : Env} {x : Str × Tok} {nm : Str} {kc : Addr} {p0 p1 p2 : Pos} {h₀ : Heap} {Lf : Addr} {m : Str → Option Value} {Q : Value → Shared → Prop} {E : Value → Shared → Prop} {ock : Obj}
    (Y : Rdy w p loose mean mg mb base outer K L pm C N P f4 f5 c4 c5 lam f s.heap) (hdep : A.depth ≤ 470)
    (he : env.scope.kind = .function) (hk : env.kindOf "key" = some .free) (hcl : env.cells.lookup ("key" : Str) = some kc) (hdn : (nm == ("__debug__" : Str)) = false) (hck : s.heap.get? kc = some ock) (hckd : ock.data = .cell (some (.ref C)))
    (hl : env.kindOf nm = some .local) (F : Fr h₀ Lf s.heap m) (hLf : env.locals = Lf) (hm : m nm = some (valOf x))
    (hq : ∀ i h' tk, Keeps s.heap h' → InstOk C h' x i → Q (.ref i.1) { s with heap := h', toks := tk }) :
    wpAny (model Pr w) A (eval (.Call (.Name "key" p0) [.Name nm p1] [] p2) env) Q E s := by
  refine wpAny_Call_Name_kw (wpAny_Name (wpAny_loadName_free (c := kc) he hk hcl ⟨ock, hck, hckd⟩ ?_))
  refine callWith_K (K := K) Y.X Y.W.keep (args_cons (wpAny_Name (wpAny_loadName_local he hl (hLf ▸ F.ns) hm (args_nil ⟨Y.X, ?_⟩)) hdn))
  exact mk_at (x := x) Y (Nat.le_trans hdep (by decide)) fun i h' tk k I => hq i h' tk k I
noncomputable def clK (kc : Addr) : List (Str × Addr) := [("key", kc)]
theorem if_body {qual : Str} {fa : Addr} {cd : Value} {kc : Addr} {x1 x2 : Str × Tok} {nm1 nm2 : Str} {h₀ : Heap} {Lf : Addr} {m : Str → Option Value} {Q : Value → Shared → Prop} {E : Value → Shared → Prop} {ock : Obj} {b : Nat → Pos}
    {A₀ : Around} (CX : Cx w p loose mean mg mb base A₀ outer h₀) (Z : ClsAt w p loose mean mg mb base K L pm C N P f4 f5 c4 c5 lam f h₀)
    (hh : A.handled = none) (hdep : A.depth ≤ 470) (hu : A.units ≤ 280) (hfr : A.frames = some (envX qual threeS Lf fa cd (clK kc) :: outer))
    (hck : h₀.get? kc = some ock) (hckd : ock.data = .cell (some (.ref C))) (F : Fr h₀ Lf s.heap m) (hm1 : m "one" = some (valOf x1)) (hm2 : m "other" = some (valOf x2)) (l1 : x1.1.length ≤ 3) (l2 : x2.1.length ≤ 3)
    (hn : (nm1 = "one" ∧ nm2 = "other") ∨ (nm1 = "other" ∧ nm2 = "one"))
    (hq : ∀ h' tk m', Fr h₀ Lf h' m' → Q (if f x1.1 x2.1 < 0 then (if nm1 = "one" then valOf x1 else valOf x2) else (if nm1 = "one" then valOf x2 else valOf x1)) { s with heap := h', toks := tk }) :
    wpAny (model Pr w) A (eval (ifK nm1 nm2 b) (envX qual threeS Lf fa cd (clK kc))) Q E s := by
  refine wpAny_IfExp (wpAny_isTrue_Compare1 ?_)
  refine key_call (x := x1) (kc := kc) (rdy_of (Cx.at CX.X CX.T CX.B F hfr rfl rfl) Z F.keep) hdep rfl rfl rfl (by decide) (F.keep _ _ hck) hckd rfl F rfl hm1 fun i1 h1 tk1 k1 I1 => ?_
  have F1 := F.kept k1
  refine key_call (x := x2) (kc := kc) (rdy_of (Cx.at CX.X CX.T CX.B F1 hfr rfl rfl) Z F1.keep) hdep rfl rfl rfl (by decide) (F1.keep _ _ hck) hckd rfl F1 rfl hm2 fun i2 h2 tk2 k2 I2 => ?_
  have F2 := F1.kept k2
  refine inst_lt (rdy_of (Cx.at CX.X CX.T CX.B F2 hfr rfl rfl) Z F2.keep) F2 Z.X hh hdep hu hfr (I1.up k2) I2 l1 l2 fun h3 tk3 k3 => ?_
  have F3 := F2.kept k3
  refine wpAny_truthy_bool ?_
  have z := hq h3
  have ld : ∀ (nm : Str) (pp : Pos) (v : Value), (nm = "one" ∨ nm = "other") → m nm = some v → (∀ tk m', Fr h₀ Lf h3 m' → Q v { s with heap := h3, toks := tk }) →
      wpAny (model Pr w) A (eval (.Name nm pp) (envX qual threeS Lf fa cd (clK kc))) Q E { s with heap := h3, toks := tk3 } := fun nm pp v ho hv hQ => by
    rcases ho with rfl | rfl
    · exact wpAny_Name (wpAny_loadName_local rfl rfl F3.ns hv (hQ _ _ F3))
    · exact wpAny_Name (wpAny_loadName_local rfl rfl F3.ns hv (hQ _ _ F3))
  have no : ¬ ((("other" : Str)) = "one") := by decide
  rcases hn with ⟨rfl, rfl⟩ | ⟨rfl, rfl⟩ <;> by_cases hf : f x1.1 x2.1 < 0
  · simp only [hf, decide_true, if_true] at z ⊢; exact ld _ _ _ (.inl rfl) hm1 z
  · simp only [hf, decide_false, if_true, if_false, Bool.false_eq_true] at z ⊢; exact ld _ _ _ (.inr rfl) hm2 z
  · simp only [hf, no, decide_true, if_true, if_false] at z ⊢; exact ld _ _ _ (.inr rfl) hm2 z
  · simp only [hf, no, decide_false, if_false, Bool.false_eq_true] at z ⊢; exact ld _ _ _ (.inl rfl) hm1 z
noncomputable def pick3 (f : Str → Str → Int) (y x : Str) : Str := if f y x < 0 then x else y
noncomputable def pick4 (f : Str → Str → Int) (y x : Str) : Str := if f y x < 0 then y else x
theorem step3 {kc fl c' : Addr} {nm qual : Str} {pm2 ctv : Value} {ock : Obj} (Z : ClsAt w p loose mean mg mb base K L pm C N P f4 f5 c4 c5 lam f h)
    (ho : h.get? fl = some (kla_obj nm qual lam3.P lam3.B threeS (clK kc) pm2 c' ctv)) (hcd : h.CodeRec (.ref c') qual) (hck : h.get? kc = some ock) (hckd : ock.data = .cell (some (.ref C))) :
    StepSays w p loose mean mg mb base fl (pick3 f) (fun _ y => y.length ≤ 3) h := by
  intro A outer s i y x t1 t2 CX hh hdep hu hfr hI hx _ kk
  refine enterL CX.T.nolimit (kk _ _ ho) (rec_keep kk hcd) (Nat.lt_of_le_of_lt hdep (by decide)) (lam_bind3 lam3 (by simp) _ _ _ _ _ _ _ _ _) (locs (by kernel_rfl)) (by decide) ?_
  intro h1 tk F
  obtain ⟨P, eP⟩ := lam3_eq
  rw [eP]
  refine if_body (x1 := (y, t1)) (x2 := (x, t2)) CX (Z.up kk) hh (Nat.le_trans (Nat.succ_le_succ hdep) (by decide)) (Nat.le_trans (Nat.add_le_add_right hu 3) (by decide)) (by show A.frames.map _ = _; rw [hfr]; rfl) (kk _ _ hck) hckd F rfl rfl hI hx (.inr ⟨rfl, rfl⟩) fun h' tk' m' F' => ?_
  refine Gave.intro ?_ F'.keep
  unfold pick3
  have no : ¬ ((("other" : Str)) = "one") := by decide
  split
  · exact ⟨t2, rfl⟩
  · exact ⟨t1, rfl⟩
theorem step4 {kc fl c' : Addr} {nm qual : Str} {pm2 ctv : Value} {ock : Obj} (Z : ClsAt w p loose mean mg mb base K L pm C N P f4 f5 c4 c5 lam f h)
    (ho : h.get? fl = some (kla_obj nm qual lam4.P lam4.B threeS (clK kc) pm2 c' ctv)) (hcd : h.CodeRec (.ref c') qual) (hck : h.get? kc = some ock) (hckd : ock.data = .cell (some (.ref C))) :
    StepSays w p loose mean mg mb base fl (pick4 f) (fun _ y => y.length ≤ 3) h := by
  intro A outer s i y x t1 t2 CX hh hdep hu hfr hI hx _ kk
  refine enterL CX.T.nolimit (kk _ _ ho) (rec_keep kk hcd) (Nat.lt_of_le_of_lt hdep (by decide)) (lam_bind3 lam4 (by simp) _ _ _ _ _ _ _ _ _) (locs (by kernel_rfl)) (by decide) ?_
  intro h1 tk F
  obtain ⟨P, eP⟩ := lam4_eq
  rw [eP]
  refine if_body (x1 := (y, t1)) (x2 := (x, t2)) CX (Z.up kk) hh (Nat.le_trans (Nat.succ_le_succ hdep) (by decide)) (Nat.le_trans (Nat.add_le_add_right hu 3) (by decide)) (by show A.frames.map _ = _; rw [hfr]; rfl) (kk _ _ hck) hckd F rfl rfl hI hx (.inl ⟨rfl, rfl⟩) fun h' tk' m' F' => ?_
  refine Gave.intro ?_ F'.keep
  unfold pick4
  split
  · exact ⟨t1, rfl⟩
  · exact ⟨t2, rfl⟩
end
end Mine
end
section
open PySem PySem.W PyProof.Rows PySem.Calls
namespace Mine
theorem resetR5 {prog : Program} {w : World} {A : Around} {E : Value → Shared → Prop} {s : Shared} {b : Bool} : wpAny (model prog w) A (truthy (.bool b)) (fun _ _ => True) E s := by
  w_top off
  walk1
  all_goals trivial
end Mine
end
section
open PySem PySem.W PyProof.Rows PySem.Calls
set_option maxRecDepth 100000
set_option maxHeartbeats 2000000
namespace Mine
theorem fillR5 : PySem.Challenge.rw_ij0076_01 = PySem.Challenge.rw_ij0076_01 ∧ hd.heap_39 = hd.heap_39 := by
  k_fill
  exact ⟨rfl, rfl⟩
noncomputable def lam5of : Stmt → LD
  | .Return (some (.Compare (.Call _ [.Call _ (l :: _) _ _] _ _) _ _ _)) _ => ldOf l
  | _ => ldOf default
noncomputable def lam5 : LD := lam5of (lawBody.getD 10 default)
noncomputable def five : Scope := { kind := .function, names := [("done", .local), ("text", .local), ("quoteattr", .globalImplicit)], isGenerator := false, isCoroutine := false }
noncomputable def jPos : PySem.Expr → Nat → Pos
  | .BinOp (.Name _ p) _ _ _, 0 => p
  | .BinOp _ _ (.Call (.Name _ p) _ _ _) _, 1 => p
  | .BinOp _ _ (.Call _ [.Name _ p] _ _) _, 2 => p
  | .BinOp _ _ (.Call _ _ _ p) _, 3 => p
  | .BinOp _ _ _ p, 4 => p
  | _, _ => default
theorem lam5_eq : lam5.B = .BinOp (.Name "done" (jPos lam5.B 0)) .Add (.Call (.Name "quoteattr" (jPos lam5.B 1)) [.Name "text" (jPos lam5.B 2)] [] (jPos lam5.B 3)) (jPos lam5.B 4) := by kernel_rfl
theorem lam5_S : lam5.S = five := by kernel_rfl
theorem lam_bind5 (nm qual : Str) (b : PySem.Expr) (cl : List (Str × Addr)) (pm : Value) (c4 : Addr) (ctv a c : Value) : bindArgs (kla_fn nm qual lam5.P b five cl pm (.ref c4) ctv) ⟨[a, c], []⟩ = (pure [(("done" : Str), a), ("text", c)] : Sem (List (Str × Value))) := by kernel_rfl
local macro_rules | `(tactic| walk_at "call ref") => `(tactic| (k_here; (with_reducible show wpAny _ _ (call (Value.ref 39) [Value.str _ _]) _ _ _); k_dflt ((refine' use_specS ?X ?T ?B ?F ?N rfl rfl rfl (fun C => quote_at ?hx rfl ?hroom ?hu rfl C) ?_); (case X => k_asm); (case T => k_asm); (case B => k_asm); (case F => k_asm); (case N => k_asm); (case hroom => exact Nat.le_of_ble_eq_true rfl); (case hu => exact Nat.le_of_ble_eq_true rfl); (case hx => assumption); (intro t' h' tk F' N'))))
local macro_rules | `(tactic| walk_at "eval Name") => `(tactic| (k_here; refine wpAny_Name (wpAny_loadName_local rfl rfl (Fr.ns (by assumption)) (by assumption) ?_)))
theorem side5 {w : World} {p : Program} {loose : List Str} {mean : ExcName → Option Value} {mg mb : Str → Option Value} {base h₀ : Heap} {outer : List Env} {s : Shared} {g : Option (List Code)} {x : Str} {tk : Tok} {L f : Addr} {qual : Str} {cd : Value} {m : Str → Option Value} {p1 p2 p3 : Pos} {Q : Value → Shared → Prop} {E : Value → Shared → Prop}
    (hx : x.length ≤ 3) (X : (hd.heap_39 w.params).In h₀) (T : Top p loose mean mg mb h₀) {A₀ : Around} (B : Below A₀ base outer h₀) (F : Fr h₀ L s.heap m) (hm : m "text" = some (.str x tk))
    (h : ∀ t' h' tk', Fr h₀ L h' m → Q (.str (quoted x) t') { s with heap := h', toks := tk' }) :
    wpAny (model Pr w) { handled := none, depth := 461, frames := some (envX qual five L f cd [] :: outer), guards := g, units := 273 } (eval (.Call (.Name "quoteattr" p1) [.Name "text" p2] [] p3) (envX qual five L f cd [])) Q E s := by
  have N : News h₀ L s.heap [] := News.nil
  k_steps
  (rename Fr _ _ _ _ => F9); exact h _ _ _ F9
noncomputable def join5 (y x : Str) : Str := y ++ quoted x
theorem step5 {w : World} {p : Program} {loose : List Str} {mean : ExcName → Option Value} {mg mb : Str → Option Value} {base h : Heap} {fl c' : Addr} {nm qual : Str} {pm2 ctv : Value}
    (ho : h.get? fl = some (kla_obj nm qual lam5.P lam5.B five [] pm2 c' ctv)) (hcd : h.CodeRec (.ref c') qual) :
    StepSays w p loose mean mg mb base fl join5 (fun i y => y.length ≤ i * 200000) h := by
  intro A outer s i y x t1 t2 C hh hdep hu hfr hI hx hi kk
  refine codeAny_weaken (A := { handled := none, depth := 460, frames := some outer, guards := A.guards, units := 270 }) ?_ hh.symm hdep hfr.symm rfl hu
  refine enterL C.T.nolimit (kk _ _ ho) (rec_keep kk hcd) (by show (460:Nat) < _; decide) (lam_bind5 _ _ _ _ _ _ _ _ _) (locs (by kernel_rfl)) (by decide) ?_
  intro h1 tk F
  rw [lam5_eq]
  refine wpAny_BinOp (wpAny_Name (wpAny_loadName_local rfl rfl F.ns (v := .str y t1) rfl (side5 hx C.X C.T C.B F rfl fun t3 h3 k3 F3 => ?_)))
  refine PyProof.Rows.add_str (fun t' tk => ?_) ?_
  · exact Gave.intro (P := fun v => ∃ t', v = .str (y ++ quoted x) t') ⟨_, rfl⟩ F3.keep
  · have := quoted_le hx
    rw [sizeLine_eq]; omega
end Mine
end
section
open PySem PySem.W PyProof.Rows PySem.Calls
set_option maxRecDepth 100000
set_option maxHeartbeats 2000000
namespace Mine
section
variable {elt it0 it1 c : PySem.Expr} {pk pt p1 p2 pe pos : Pos} {tt : Nat} {scope : Scope} {it acc : Value} {env : Env}
noncomputable abbrev tgt (tt : Nat) (pt p1 p2 : Pos) : PySem.Expr := .Tuple [.Name "text" p1, .Name "long" p2] tt pt
noncomputable abbrev twoC (elt it0 it1 c : PySem.Expr) (pk pt p1 p2 : Pos) (tt : Nat) (scope : Scope) (pos : Pos) : PySem.Expr :=
  .ListComp elt [⟨.Name "k" pk, it0, [], 0⟩, ⟨tgt tt pt p1 p2, it1, [c], 0⟩] scope pos
theorem turn1 : compTurn (twoC elt it0 it1 c pk pt p1 p2 tt scope pos) 1 it acc env = (do
      standAt it1.pos
      match ← pyNext it with
      | none => pure (.done .next)
      | some v =>
        letOwnedTupleGo (tgt tt pt p1 p2) it v
        assign (tgt tt pt p1 p2) env v
        let mut ok := true
        for c in [c] do
          if ok then ok ← isTrue c env (eval c env)
        if ok then
          (do let _ ← call (.builtin "list.append") [acc, ← eval elt env])
        again (.compLoop (twoC elt it0 it1 c pk pt p1 p2 tt scope pos) 1 it acc env)) := by rfl
theorem turn0 : compTurn (twoC elt it0 it1 c pk pt p1 p2 tt scope pos) 0 it acc env = (do
      standAt it0.pos
      match ← pyNext it with
      | none => pure (.done .next)
      | some v =>
        letOwnedTupleGo (.Name "k" pk) it v
        assign (.Name "k" pk) env v
        let mut ok := true
        for c in ([] : List PySem.Expr) do
          if ok then ok ← isTrue c env (eval c env)
        if ok then
          let x ← eval it1 env
          standAt it1.pos
          let x ← foldedSetIterable it1 env x
          let _ ← runOwn (.compStart (twoC elt it0 it1 c pk pt p1 p2 tt scope pos) 1 (← holding [x] (pyIter x)) acc env) env
        again (.compLoop (twoC elt it0 it1 c pk pt p1 p2 tt scope pos) 0 it acc env)) := by rfl
end
section
variable {prog : Program} {w : World} {A : Around} {R : Result → Shared → Prop} {s : Shared} {it0 it1 c : PySem.Expr} {pk pt p1 p2 pe pos : Pos} {tt : Nat} {scope : Scope} {env : Env}
theorem kind_ok (hf : env.scope.kind = .function) : (env.scope.kind == .class || (env.scope.kind == .module && env.locals != env.globals)) = false := by rw [hf]; rfl
theorem inner_loop {z D : Addr} {fp wr : List Addr} {pairs : List (Value × Value)} {p : Value × Value → Bool} {St : Nat → Heap → Prop} {Mid : Nat → Addr → Heap → Prop} {kv : Value} {m : Str → Option Value} {ys : Array Value}
    (hh : A.handled = none)
    (W : WalksT prog w A z fp wr pairs.length (fun i vals => ∃ q : Value × Value, pairs[i]? = some q ∧ vals = #[q.1, q.2]) St Mid)
    (ht : env.kindOf "text" = some .local) (hl : env.kindOf "long" = some .local) (hf : env.scope.kind = .function)
    (hD : D ∉ fp) (hC : env.locals ∉ fp) (hDC : D ≠ env.locals)
    (hst : St 0 s.heap) (hacc : s.heap.IsList D ys) (hn : s.heap.Ns env.locals m) (hkv : m "k" = some kv)
    (test : ∀ (q : Value × Value) s₂ m₂ E', q ∈ pairs → s₂.heap.Ns env.locals m₂ → m₂ "k" = some kv → m₂ "long" = some q.2 → wpAny (model prog w) A (isTrue c env (eval c env)) (fun ok s₃ => ok = p q ∧ PySem.Keeps s₂ s₃) E' s₂)
    (hsz : ys.size + pairs.length ≤ sizeLine)
    (hR : ∀ h' tk m', h'.Ns env.locals m' → h'.IsList D (ys ++ ((pairs.filter p).map (·.1)).toArray) → (∀ b o, b ≠ env.locals → b ≠ D → b ∉ wr → s.heap.get? b = some o → h'.get? b = some o) → R (.ok .next) { s with heap := h', toks := tk }) :
    codeAny (model prog w) A (.compLoop (twoC (.Name "text" pe) it0 it1 c pk pt p1 p2 tt scope pos) 1 (.ref z) (.ref D) env) R s := by
  refine codeAny_loop rfl (fun n s' => ∃ h' tk i m', s' = { s with heap := h', toks := tk } ∧ i ≤ pairs.length ∧ n = pairs.length + 1 - i ∧ St i h' ∧ h'.IsList D (ys ++ (((pairs.take i).filter p).map (·.1)).toArray) ∧ h'.Ns env.locals m' ∧ m' "k" = some kv ∧
      (∀ b o, b ≠ env.locals → b ≠ D → b ∉ wr → s.heap.get? b = some o → h'.get? b = some o)) (fun n s' hI => ?_) (pairs.length + 1)
    ⟨s.heap, s.toks, 0, m, rfl, Nat.zero_le _, rfl, hst, by simpa using hacc, hn, hkv, fun _ _ _ _ _ e => e⟩
  obtain ⟨h', tk, i, m', rfl, hi, rfl, hst', hacc', hn', hkv', keep⟩ := hI
  show wpAny _ A ((compTurn (twoC (.Name "text" pe) it0 it1 c pk pt p1 p2 tt scope pos) 1 (.ref z) (.ref D) env).onRaise (fun x => do noteFrame x env; theTreesLotGoes x)) _ _ _
  refine wpAny_noted ?_
  rw [turn1]
  have hCw : env.locals ∉ wr := fun x => hC (W.sub _ x)
  have hDw : D ∉ wr := fun x => hD (W.sub _ x)
  rcases Nat.lt_or_ge i pairs.length with hlt | hge
  · refine wpAny_bind (wpAny_standAt (wpAny_bind (W.item i _ _ _ hlt hst' fun T vals h₁ tk₁ hP hTge hT hMid hk₁ => ?_)))
    obtain ⟨q, hq, rfl⟩ := hP
    dsimp only
    refine wpAny_bind (W.go _ _ _ i T _ _ _ hMid fun h₂ hst₂ hk₂ => ?_)
    have hT₂ : h₂.IsTuple T #[q.1, q.2] := let ⟨o, e, r⟩ := hT; ⟨o, hk₂ T o (W.apart i T _ hMid) e, r⟩
    have up₂ : ∀ b o, b ∉ wr → h'.get? b = some o → h₂.get? b = some o := fun b o hb e => hk₂ b o hb (hk₁ b o hb e)
    refine wpAny_bind (assign_Tuple_tuple (A := A) hh hT₂ rfl rfl fun h₅ he => ?_)
    have he' : ∀ b o, h₂.get? b = some o → h₅.get? b = some o := fun b o e => he b o (Nat.ne_of_lt (Heap.lt_size e)) e
    refine assignInOrder_cons (wpAny_assign_Name (wpAny_storeName_local ht (hn'.at' fun o e => he' _ o (up₂ _ o hCw e)) (fun h₆ hn₆ hs₆ => ?_) (kind_ok hf)))
    refine assignInOrder_cons (wpAny_assign_Name (wpAny_storeName_local hl hn₆ (fun h₃ hn₃ hs₃ => ?_) (kind_ok hf)))
    refine assignInOrder_nil ?_
    have up₃ : ∀ b o, b ≠ env.locals → b ∉ wr → h'.get? b = some o → h₃.get? b = some o := fun b o hb hw e => hs₃.extBut b o hb (hs₆.extBut b o hb (he' b o (up₂ b o hw e)))
    have old₃ : ∀ b o, b ≠ env.locals → h₂.get? b = some o → h₃.get? b = some o := fun b o hb e => hs₃.extBut b o hb (hs₆.extBut b o hb (he' b o e))
    have hst₃ : St (i + 1) h₃ := W.frame _ _ _ hst₂ fun b hb o e => old₃ b o (fun x => hC (x ▸ hb)) e
    have hqm : q ∈ pairs := List.mem_of_getElem? hq
    refine wpAny_bind (wpAny_tests_one (wpAny_mono (test q _ _ _ hqm hn₃ hkv' rfl) (fun ok s₃ h3 => ?_) fun _ _ e => e))
    obtain ⟨rfl, h₄, tk₄, rfl, hk₄⟩ := h3
    have up₄ : ∀ b o, b ≠ env.locals → b ∉ wr → h'.get? b = some o → h₄.get? b = some o := fun b o hb hw e => hk₄ b o (up₃ b o hb hw e)
    have hst₄ : St (i + 1) h₄ := W.frame _ _ _ hst₃ fun b _ o e => hk₄ b o e
    have hacc₄ := hacc'.at fun o e => up₄ D o hDC hDw e
    have hn₄ := hn₃.at' fun o e => hk₄ _ o e
    have hts := take_succ_filter p pairs i q hq
    dsimp only
    cases hpq : p q with
    | false =>
      rw [hpq] at hts
      simp only [Bool.false_eq_true, if_false, List.append_nil] at hts ⊢
      refine wpAny_pure ⟨rfl, pairs.length + 1 - (i + 1), by omega, h₄, tk₄, i + 1, _, rfl, hlt, rfl, hst₄, ?_, hn₄, hkv', fun b o hb hbD hw e => up₄ b o hb hw (keep b o hb hbD hw e)⟩
      rw [hts]; exact hacc₄
    | true =>
      rw [hpq] at hts
      simp only [if_true] at hts ⊢
      refine wpAny_bind (wpAny_bind (wpAny_Name (wpAny_loadName_local hf ht hn₄ (v := q.1) rfl (wpAny_bind (wpAny_list_append hacc₄ (fun h₅ hl₅ hs₅ => wpAny_pure (wpAny_pure ?_)) ?_)))))
      · refine ⟨rfl, pairs.length + 1 - (i + 1), by omega, h₅, tk₄, i + 1, _, rfl, hlt, rfl, W.frame _ _ _ hst₄ fun b hb o e => hs₅.extBut b o (fun x => hD (x ▸ hb)) e, ?_, hn₄.sameBut hs₅ (Ne.symm hDC), hkv', fun b o hb hbD hw e => hs₅.extBut b o hbD (up₄ b o hb hw (keep b o hb hbD hw e))⟩
        rw [hts]
        simpa using hl₅
      · show (_ ++ _ : Array Value).size ≤ _
        have e9 : ∀ l : List (Value × Value), ((l.map (·.1)).toArray).size = l.length := fun l => by simp
        rw [Array.size_append, e9]
        have := List.length_filter_le p (pairs.take i)
        rw [List.length_take] at this
        omega
  · obtain rfl : i = pairs.length := by omega
    refine wpAny_bind (wpAny_standAt (wpAny_bind (W.done _ _ _ hst' fun h₁ tk₁ hk₁ => ?_)))
    dsimp only
    rw [List.take_length] at hacc'
    exact wpAny_pure (hR h₁ tk₁ m' (hn'.at' fun o e => hk₁ _ o hCw e) (hacc'.at fun o e => hk₁ _ o hDw e) fun b o hb hbD hw e => hk₁ b o hw (keep b o hb hbD hw e))
end
end Mine
end
section
open PySem PySem.W PyProof.Rows PySem.Calls
set_option maxRecDepth 100000
set_option maxHeartbeats 2000000
namespace Mine
section
variable {prog : Program} {w : World} {A : Around} {R : Result → Shared → Prop} {s : Shared} {it0 it1 c : PySem.Expr} {pk pt p1 p2 pe pos : Pos} {tt : Nat} {scope : Scope} {env : Env}
noncomputable abbrev zSt (z TI TO i1 i2 l1 l2 : Addr) (pairs : List (Value × Value)) (i : Nat) (h : Heap) : Prop :=
  IsZip h z TI TO .none ∧ IsPair h TI (.ref i1) (.ref i2) ∧ (∃ a b, IsPair h TO a b) ∧ h.IsListIter i1 l1 i ∧ h.IsListIter i2 l2 i ∧ h.IsList l1 (pairs.map (·.1)).toArray ∧ h.IsList l2 (pairs.map (·.2)).toArray
noncomputable abbrev zMid (z TI TO i1 i2 l1 l2 : Addr) (pairs : List (Value × Value)) (i : Nat) (T : Addr) (h : Heap) : Prop :=
  IsZip h z TI TO (rawInt T) ∧ IsPair h TI (.ref i1) (.ref i2) ∧ (∃ a b, IsPair h TO a b) ∧ h.IsListIter i1 l1 (i + 1) ∧ h.IsListIter i2 l2 (i + 1) ∧ h.IsList l1 (pairs.map (·.1)).toArray ∧ h.IsList l2 (pairs.map (·.2)).toArray ∧
        T ≠ z ∧ T ≠ TO ∧ T ≠ i1 ∧ T ≠ i2
theorem zipW (hh : A.handled = none) {z TI TO i1 i2 l1 l2 : Addr} (D : ZipApart z TI TO i1 i2 l1 l2) (pairs : List (Value × Value)) :
    WalksT prog w A z [z, TI, TO, i1, i2, l1, l2] [z, TO, i1, i2] pairs.length (fun i vals => ∃ q : Value × Value, pairs[i]? = some q ∧ vals = #[q.1, q.2]) (zSt z TI TO i1 i2 l1 l2 pairs) (zMid z TI TO i1 i2 l1 l2 pairs) := by
  have W := WalksT.zip2 (prog := prog) (w := w) hh z TI TO i1 i2 l1 l2 D (pairs.map (·.1)).toArray (pairs.map (·.2)).toArray
  have e : min (pairs.map (·.1)).toArray.size (pairs.map (·.2)).toArray.size = pairs.length := by simp
  rw [e] at W
  exact { sub := W.sub, frame := W.frame, go := W.go, apart := W.apart, done := W.done, self := W.self, item := fun i s Q E hi hst hQ => W.item i s Q E hi hst fun T vals h' tk hP a b d g => hQ T vals h' tk (by
    obtain ⟨x, y, hx, hy, rfl⟩ := hP
    rw [List.getElem?_toArray, List.getElem?_map] at hx hy
    obtain ⟨q, hq, rfl⟩ := Option.map_eq_some_iff.mp hx
    rw [hq] at hy
    cases hy
    exact ⟨q, hq, rfl⟩) a b d g }
noncomputable def outs (pairs : List (Value × Value)) (p : Nat → Value × Value → Bool) (n : Nat) : List Value := (List.range n).flatMap fun k => (pairs.filter (p k)).map (·.1)
theorem outs_succ (pairs : List (Value × Value)) (p : Nat → Value × Value → Bool) (n : Nat) : outs pairs p (n + 1) = outs pairs p n ++ (pairs.filter (p n)).map (·.1) := by
  unfold outs
  rw [List.range_succ, List.flatMap_append]; simp
theorem outs_le (pairs : List (Value × Value)) (p : Nat → Value × Value → Bool) (n : Nat) : (outs pairs p n).length ≤ n * pairs.length := by
  induction n with
  | zero => simp [outs]
  | succ n ih =>
    rw [outs_succ, List.length_append, List.length_map, Nat.succ_mul]
    have := List.length_filter_le (p n) pairs
    omega
theorem start1 {acc : Value} {z : Addr} (h0 : codeAny (model prog w) A (.compLoop (twoC (.Name "text" pe) it0 it1 c pk pt p1 p2 tt scope pos) 1 (.ref z) acc env) R s)
    (h : wpAny (model prog w) A (pyIter (.ref z)) (fun it' s' => codeAny (model prog w) A (.compLoop (twoC (.Name "text" pe) it0 it1 c pk pt p1 p2 tt scope pos) 1 it' acc env) R s')
      (notedBy (model prog w) A env fun x s' => R (.error x) s') s) :
    codeAny (model prog w) A (.compStart (twoC (.Name "text" pe) it0 it1 c pk pt p1 p2 tt scope pos) 1 (.ref z) acc env) R s := by
  refine codeAny_of_tree ?_
  show wpAny _ _ ((compStart (twoC (.Name "text" pe) it0 it1 c pk pt p1 p2 tt scope pos) 1 (.ref z) acc env).onRaise (fun x => do noteFrame x env; standAt theWindowsPlace)) _ _ s
  refine wpAny_notedAt ?_
  unfold compStart
  show wpAny _ _ (ask >>= _) _ _ s
  refine wpAny_bind (wpAny_askSetting (wpAny_ite ?_))
  split
  · first
      | exact wpAny_bind (wpAny_pure (wpAny_pure (And.intro rfl h0)))
      | exact wpAny_pure (And.intro rfl h0)
  · first
      | exact wpAny_bind (wpAny_rule (wpAny_bind (wpAny_standAt (wpAny_bind (wpAny_mono h (fun it' s' h' => wpAny_pure (And.intro rfl h')) fun _ _ x => x)))))
      | (refine wpAny_bind (wpAny_rule ?_); show wpAny _ _ (standAt it1.pos >>= _) _ _ s; exact wpAny_bind (wpAny_standAt (wpAny_bind (wpAny_mono h (fun it' s' h' => wpAny_pure (And.intro rfl h')) fun _ _ x => x))))

theorem outer_loop {I D l1 l2 : Addr} {pairs : List (Value × Value)} {p : Nat → Value × Value → Bool} {m : Str → Option Value} {N : Nat}
    (hh : A.handled = none)
    (hkk : env.kindOf "k" = some .local) (ht : env.kindOf "text" = some .local) (hl : env.kindOf "long" = some .local) (hf : env.scope.kind = .function)
    (hID : I ≠ D) (hIC : I ≠ env.locals) (hDC : D ≠ env.locals) (h1 : l1 ≠ D ∧ l1 ≠ env.locals) (h2 : l2 ≠ D ∧ l2 ≠ env.locals)
    (hit : IsRangeIter s.heap I 0 (N : Int) 1) (hacc : s.heap.IsList D #[]) (hn : s.heap.Ns env.locals m)
    (test : ∀ (k : Nat) (tk : Tok) (q : Value × Value) s₂ m₂ E', q ∈ pairs → s₂.heap.Ns env.locals m₂ → m₂ "k" = some (.int k tk) → m₂ "long" = some q.2 → wpAny (model prog w) A (isTrue c env (eval c env)) (fun ok s₃ => ok = p k q ∧ PySem.Keeps s₂ s₃) E' s₂)
    (hz : ∀ (s₂ : Shared) (E' : Value → Shared → Prop), (∀ b o, b ≠ env.locals → b ≠ D → b ≠ I → s.heap.get? b = some o → s₂.heap.get? b = some o) →
      wpAny (model prog w) A (eval it1 env) (fun x s₃ => ∃ z TI TO i1 i2, x = .ref z ∧ (∀ a ∈ [z, TI, TO, i1, i2], s₂.heap.get? a = none) ∧ ZipApart z TI TO i1 i2 l1 l2 ∧ zSt z TI TO i1 i2 l1 l2 pairs 0 s₃.heap ∧ PySem.Keeps s₂ s₃) E' s₂)
    (hsz : N * pairs.length + pairs.length ≤ sizeLine) (hs : ∀ x, foldedSetIterable it1 env x = pure x)
    (hR : ∀ h' tk m', h'.Ns env.locals m' → h'.IsList D (outs pairs p N).toArray → (∀ b o, b ≠ env.locals → b ≠ D → b ≠ I → s.heap.get? b = some o → h'.get? b = some o) → R (.ok .next) { s with heap := h', toks := tk }) :
    codeAny (model prog w) A (.compLoop (twoC (.Name "text" pe) it0 it1 c pk pt p1 p2 tt scope pos) 0 (.ref I) (.ref D) env) R s := by
  have W := LCg.range_walks (prog := prog) (w := w) (I := I) hh 0 N
  refine codeAny_loop rfl (fun n s' => ∃ h' tk i m', s' = { s with heap := h', toks := tk } ∧ i ≤ N ∧ n = N + 1 - i ∧ IsRangeIter h' I (0 + (i : Nat) * 1) ((N : Int) - (i : Nat)) 1 ∧ h'.IsList D (outs pairs p i).toArray ∧ h'.Ns env.locals m' ∧
      (∀ b o, b ≠ env.locals → b ≠ D → b ≠ I → s.heap.get? b = some o → h'.get? b = some o)) (fun n s' hI => ?_) (N + 1)
    ⟨s.heap, s.toks, 0, m, rfl, Nat.zero_le _, rfl, by simpa using hit, by simpa [outs] using hacc, hn, fun _ _ _ _ _ e => e⟩
  obtain ⟨h', tk, i, m', rfl, hi, rfl, hst', hacc', hn', keep⟩ := hI
  show wpAny _ A ((compTurn (twoC (.Name "text" pe) it0 it1 c pk pt p1 p2 tt scope pos) 0 (.ref I) (.ref D) env).onRaise (fun x => do noteFrame x env; theTreesLotGoes x)) _ _ _
  refine wpAny_noted ?_
  rw [turn0]
  rcases Nat.lt_or_ge i N with hlt | hge
  · refine wpAny_bind (wpAny_standAt (wpAny_bind (W.item i _ _ _ hlt hst' fun v h₁ tk₁ hP hst₁ hk₁ => ?_)))
    obtain ⟨t, rfl⟩ := hP
    have hk1 : ∀ b o, b ≠ I → h'.get? b = some o → h₁.get? b = some o := fun b o hb e => hk₁ b o (by simpa using hb) e
    dsimp only
    refine wpAny_bind (wpAny_pure (wpAny_bind ?_))
    refine wpAny_assign_Name (wpAny_storeName_local hkk (hn'.at' fun o e => hk1 _ o (Ne.symm hIC) e) (fun h₂ hn₂ hs₂ => ?_) (kind_ok hf))
    refine wpAny_bind (wpAny_tests_nil ?_)
    simp only [if_true]
    have up₂ : ∀ b o, b ≠ env.locals → b ≠ I → h'.get? b = some o → h₂.get? b = some o := fun b o hb hbI e => hs₂.extBut b o hb (hk1 b o hbI e)
    refine wpAny_bind (wpAny_mono (hz _ _ fun b o hb hbD hbI e => up₂ b o hb hbI (keep b o hb hbD hbI e)) (fun x s₃ h3 => ?_) fun _ _ e => e)
    obtain ⟨z, TI, TO, i1, i2, rfl, fresh, Dp, zst, h₃, tk₃, rfl, hk₃⟩ := h3
    refine wpAny_bind (wpAny_standAt (wpAny_bind (wpAny_of_eq (hs _) (wpAny_bind (wpAny_holding ?_)))))
    have W2 := zipW (prog := prog) (w := w) (A := A) hh Dp pairs
    refine W2.self 0 _ _ _ zst ?_
    refine wpAny_bind (wpAny_runOwn ?_)
    have hh2 : (A.mark none).handled = none := hh
    have W3 := zipW (prog := prog) (w := w) (A := A.mark none) hh2 Dp pairs
    have acc2 : h₂.IsList D (outs pairs p i).toArray := hacc'.at fun o e => up₂ D o hDC (Ne.symm hID) e
    have acc3 : h₃.IsList D (outs pairs p i).toArray := acc2.at fun o e => hk₃ D o e
    have ns3 := hn₂.at' fun o e => hk₃ _ o e
    have lD : ∀ a, h₂.get? a = none → D ≠ a := fun a e q => by obtain ⟨o, e2, _⟩ := acc2; rw [q, e] at e2; cases e2
    have lC : ∀ a, h₂.get? a = none → env.locals ≠ a := fun a e q => by obtain ⟨o, _, _, e2, _⟩ := hn₂; rw [q, e] at e2; cases e2
    have hDf : D ∉ [z, TI, TO, i1, i2, l1, l2] := by
      intro q
      simp only [List.mem_cons, List.not_mem_nil, or_false] at q
      rcases q with q | q | q | q | q | q | q
      · exact lD z (fresh _ (by simp)) q
      · exact lD TI (fresh _ (by simp)) q
      · exact lD TO (fresh _ (by simp)) q
      · exact lD i1 (fresh _ (by simp)) q
      · exact lD i2 (fresh _ (by simp)) q
      · exact h1.1 q.symm
      · exact h2.1 q.symm
    have hCf : env.locals ∉ [z, TI, TO, i1, i2, l1, l2] := by
      intro q
      simp only [List.mem_cons, List.not_mem_nil, or_false] at q
      rcases q with q | q | q | q | q | q | q
      · exact lC z (fresh _ (by simp)) q
      · exact lC TI (fresh _ (by simp)) q
      · exact lC TO (fresh _ (by simp)) q
      · exact lC i1 (fresh _ (by simp)) q
      · exact lC i2 (fresh _ (by simp)) q
      · exact h1.2 q.symm
      · exact h2.2 q.symm
    have sz : (outs pairs p i).toArray.size + pairs.length ≤ sizeLine := by
      have a1 := outs_le pairs p i
      have a2 : i * pairs.length ≤ N * pairs.length := Nat.mul_le_mul_right _ hi
      rw [List.size_toArray]; omega
    have loop : codeAny (model prog w) (A.mark none) (.compLoop (twoC (.Name "text" pe) it0 it1 c pk pt p1 p2 tt scope pos) 1 (.ref z) (.ref D) env) (fun r s' => r = .ok .next ∧ ∃ h' tk m', s' = { s with heap := h', toks := tk } ∧ h'.IsList D (outs pairs p (i + 1)).toArray ∧ h'.Ns env.locals m' ∧ IsRangeIter h' I (0 + ((i + 1 : Nat) : Int) * 1) ((N : Int) - ((i + 1 : Nat) : Int)) 1 ∧
        (∀ b o, b ≠ env.locals → b ≠ D → b ≠ I → s.heap.get? b = some o → h'.get? b = some o)) { s with heap := h₃, toks := tk₃ } := by
      refine inner_loop (prog := prog) (w := w) (A := A.mark none) (s := { s with heap := h₃, toks := tk₃ }) (it0 := it0) (it1 := it1) (c := c) (pk := pk) (pt := pt) (p1 := p1) (p2 := p2) (pe := pe) (pos := pos) (tt := tt) (scope := scope) (env := env) (kv := .int (0 + (i : Int)) t) (p := p i)
        hh2 W3 ht hl hf hDf hCf hDC zst acc3 ns3 rfl (fun q s₂ m₂ E' a b c d => test i t q s₂ m₂ E' a b (by rw [c]; simp) d) sz (fun h₄ tk₄ m₄ hn₄ hl₄ hk₄ => ?_)
      have nf : ∀ b o, h₂.get? b = some o → b ∉ [z, TO, i1, i2] := fun b o e q => by
        simp only [List.mem_cons, List.not_mem_nil, or_false] at q
        rcases q with rfl | rfl | rfl | rfl
        · have := fresh b (by simp); rw [e] at this; cases this
        · have := fresh b (by simp); rw [e] at this; cases this
        · have := fresh b (by simp); rw [e] at this; cases this
        · have := fresh b (by simp); rw [e] at this; cases this
      have k4 : ∀ b o, b ≠ env.locals → b ≠ D → h₂.get? b = some o → h₄.get? b = some o := fun b o hb hbD e => hk₄ b o hb hbD (nf b o e) (hk₃ b o e)
      have hi2 : h₂.get? I = some _ := hs₂.extBut I _ hIC hst₁
      refine ⟨rfl, h₄, tk₄, m₄, rfl, ?_, hn₄, k4 I _ hIC hID hi2, fun b o hb hbD hbI e => k4 b o hb hbD (up₂ b o hb hbI (keep b o hb hbD hbI e))⟩
      rw [outs_succ]
      simpa using hl₄
    refine codeAny_mono (start1 loop (W3.self 0 _ _ _ zst loop)) fun r s' hr => ?_
    obtain ⟨rfl, h₅, tk₅, m₅, rfl, hl₅, hn₅, hi₅, k₅⟩ := hr
    exact wpAny_pure ⟨rfl, N + 1 - (i + 1), by omega, h₅, tk₅, i + 1, m₅, rfl, hlt, rfl, hi₅, hl₅, hn₅, k₅⟩
  · obtain rfl : i = N := by omega
    refine wpAny_bind (wpAny_standAt (wpAny_bind (W.done _ _ _ hst' fun h₁ tk₁ hk₁ => ?_)))
    dsimp only
    have hk1 : ∀ b o, b ≠ I → h'.get? b = some o → h₁.get? b = some o := fun b o hb e => hk₁ b o (by simpa using hb) e
    exact wpAny_pure (hR h₁ tk₁ m' (hn'.at' fun o e => hk1 _ o (Ne.symm hIC) e) (hacc'.at fun o e => hk1 _ o (Ne.symm hID) e) fun b o hb hbD hbI e => hk1 b o hbI (keep b o hb hbD hbI e))
end
end Mine
end
section
open PySem PySem.W PyProof.Rows PySem.Calls
set_option maxRecDepth 100000
set_option maxHeartbeats 2000000
namespace Mine
section
variable {prog : Program} {w : World} {A : Around} {E : Value → Shared → Prop} {s : Shared} {it0 it1 c : PySem.Expr} {pk pt p1 p2 pe pos py spos : Pos} {tt : Nat} {scope : Scope} {env : Env}
theorem two_assign {y : Str} {cl : List (Str × Addr)} {l1 l2 : Addr} {pairs : List (Value × Value)} {p : Nat → Value × Value → Bool} {m : Str → Option Value} {Q : Flow → Shared → Prop}
    (hh : A.handled = none)
    (hsw : swapsWith (twoC (.Name "text" pe) it0 it1 c pk pt p1 p2 tt scope pos) (some (.Name y py)) spos.line env = pure true)
    (hclos : closureFor scope env = pure cl) (hcell : ∀ z ∈ scope.names, z.2 ≠ .cell) (hkind : scope.kind = .function)
    (hnames : ∀ z ∈ scope.names, z.2 = .local → scope.names.lookup z.1 = some .local)
    (hkk : scope.names.lookup ("k" : Str) = some .local) (ht : scope.names.lookup ("text" : Str) = some .local) (hl : scope.names.lookup ("long" : Str) = some .local)
    (hy : env.kindOf y = some .local) (hp : (env.scope.kind == .class || (env.scope.kind == .module && env.locals != env.globals)) = false)
    (hn : s.heap.Ns env.locals m)
    (hit0 : wpAny (model prog w) A (eval it0 env) (fun xv s₁ => ∃ r t u v, xv = .ref r ∧ IsRange s₁.heap r 0 21 1 t u v ∧ PySem.Keeps s s₁) E s)
    (hl1 : s.heap.IsList l1 (pairs.map (·.1)).toArray) (hl2 : s.heap.IsList l2 (pairs.map (·.2)).toArray)
    (test : ∀ (C : Addr) (k : Nat) (tk : Tok) (q : Value × Value) s₂ m₂ E', q ∈ pairs → s₂.heap.Ns C m₂ → m₂ "k" = some (.int k tk) → m₂ "long" = some q.2 →
      wpAny (model prog w) A (isTrue c (compEnvC scope cl C env) (eval c (compEnvC scope cl C env))) (fun ok s₃ => ok = p k q ∧ PySem.Keeps s₂ s₃) E' s₂)
    (hz : ∀ (C : Addr) (s₂ : Shared) (E' : Value → Shared → Prop), (∀ b o, s.heap.get? b = some o → s₂.heap.get? b = some o) →
      wpAny (model prog w) A (eval it1 (compEnvC scope cl C env)) (fun x s₃ => ∃ z TI TO i1 i2, x = .ref z ∧ (∀ a ∈ [z, TI, TO, i1, i2], s₂.heap.get? a = none) ∧ ZipApart z TI TO i1 i2 l1 l2 ∧ zSt z TI TO i1 i2 l1 l2 pairs 0 s₃.heap ∧ PySem.Keeps s₂ s₃) E' s₂)
    (hsz : 21 * pairs.length + pairs.length ≤ sizeLine) (hs0 : ∀ x, foldedSetIterable it0 env x = pure x) (hs : ∀ env x, foldedSetIterable it1 env x = pure x)
    (hQ : ∀ D h' tk, h'.IsList D (outs pairs p 21).toArray → s.heap.get? D = none → h'.Ns env.locals (fun z => if z = y then some (.ref D) else m z) → (∀ b o, b ≠ env.locals → s.heap.get? b = some o → h'.get? b = some o) → Q .next { s with heap := h', toks := tk }) :
    wpAny (model prog w) A (exec (.Assign [.Name y py] (twoC (.Name "text" pe) it0 it1 c pk pt p1 p2 tt scope pos) spos) env) Q E s := by
  rw [exec_Assign_Name_used _ _ _ _ hsw]
  refine wpAny_bind (wpAny_standAt (wpAny_bind ?_))
  show wpAny _ A (do let _ ← comprehension (twoC (.Name "text" pe) it0 it1 c pk pt p1 p2 tt scope pos) scope env _ (newList []) false (eval it0 env) (some (assign (.Name y py) env))) _ _ s
  refine wpAny_bind (wpAny_mono (wpAny_comprehension_free (use := some (assign (.Name y py) env)) (Q := fun _ s' => Q .next s') rfl hs0 hclos hkind hnames
    (wpAny_mono hit0 (fun xv s₁ h₁ => ?_) fun _ _ e => e)) (fun _ s' hq => wpAny_pure (wpAny_pure hq)) fun _ _ e => e)
  obtain ⟨r, t, u, v, rfl, hr, h₁, tk₁, rfl, hk₁⟩ := h₁
  have hrs : Builtin.Range.rangeSize 0 21 1 = 21 := by decide
  refine wpAny_pyIter_range hr (by decide) ?_
  rw [hrs]
  refine wpAny_newObj_type (wpAny_newFunctionEnv hcell (by intro y hy; simp at hy) (fun h₃ hns₃ hsb₃ => ?_) hkind)
  dsimp only at hns₃ hsb₃ ⊢
  generalize hH1 : h₁.push { cls := .type "range_iterator", data := .fields #[rawInt 0, rawInt 21, rawInt 1] } = H1 at hns₃ hsb₃ ⊢
  have zD : H1.objs.size = h₁.objs.size + 1 := by rw [← hH1, Heap.size_push]
  have p0 : ∀ b o, h₁.get? b = some o → H1.get? b = some o := fun b o e => by rw [← hH1]; exact Heap.get?_push_of_some _ e
  have q0 : IsRangeIter H1 h₁.objs.size 0 ((21 : Nat) : Int) 1 := by rw [← hH1]; exact Heap.get?_push_size _ rfl
  generalize hH2 : H1.push { cls := .type "list", dict := none, data := .seq ([] : List Value).toArray } = H2 at hns₃ hsb₃ ⊢
  have zC : H2.objs.size = h₁.objs.size + 2 := by rw [← hH2, Heap.size_push, zD]
  have pp1 : ∀ b o, H1.get? b = some o → H2.get? b = some o := fun b o e => by rw [← hH2]; exact Heap.get?_push_of_some _ e
  have q1 : H2.get? H1.objs.size = some { cls := .type "list", dict := none, data := .seq ([] : List Value).toArray } := by rw [← hH2]; exact Heap.get?_push_size _ rfl
  have hID : h₁.objs.size ≠ H1.objs.size := by rw [zD]; exact Ne.symm (Nat.succ_ne_self _)
  have hDC : H1.objs.size ≠ H2.objs.size := by rw [zD, zC]; exact Nat.ne_of_lt (Nat.lt_succ_self _)
  have hIC : h₁.objs.size ≠ H2.objs.size := by rw [zC]; exact Nat.ne_of_lt (Nat.lt_succ_of_lt (Nat.lt_succ_self _))
  have below : ∀ b, b < h₁.objs.size → b ≠ H2.objs.size ∧ b ≠ h₁.objs.size ∧ b ≠ H1.objs.size := fun b hb =>
    ⟨by rw [zC]; exact Nat.ne_of_lt (Nat.lt_succ_of_lt (Nat.lt_succ_of_lt hb)), Nat.ne_of_lt hb, by rw [zD]; exact Nat.ne_of_lt (Nat.lt_succ_of_lt hb)⟩
  have old1 : ∀ b o, h₁.get? b = some o → h₃.get? b = some o := fun b o e =>
    hsb₃.extBut b o (below b (Heap.lt_size e)).1 (Heap.get?_push_of_some _ (pp1 _ _ (p0 _ _ e)))
  have old : ∀ b o, s.heap.get? b = some o → h₃.get? b = some o := fun b o e => old1 b o (hk₁ b o e)
  have ne3 : ∀ b o, s.heap.get? b = some o → b ≠ H2.objs.size ∧ b ≠ h₁.objs.size ∧ b ≠ H1.objs.size := fun b o e => below b (Heap.lt_size (hk₁ b o e))
  have hit : IsRangeIter h₃ h₁.objs.size 0 ((21 : Nat) : Int) 1 := hsb₃.extBut _ _ hIC (Heap.get?_push_of_some _ (pp1 _ _ q0))
  have hacc : h₃.IsList H1.objs.size #[] := ⟨_, hsb₃.extBut _ _ hDC (Heap.get?_push_of_some _ q1), rfl, _, rfl⟩
  have hnew : ∀ a, a = H1.objs.size ∨ a = H2.objs.size → s.heap.get? a = none := fun a ha => by
    cases e : s.heap.get? a with
    | none => rfl
    | some o' =>
      have := ne3 a o' e
      rcases ha with q | q
      · exact absurd q this.2.2
      · exact absurd q this.1
  obtain ⟨o1, e1, _⟩ := id hl1
  obtain ⟨o2, e2, _⟩ := id hl2
  have loop : ∀ s₂ : Shared, s₂ = { s with heap := h₃, toks := tk₁ + ([] : List (Str × Value)).length } →
      codeAny (model prog w) A (.compLoop (twoC (.Name "text" pe) it0 it1 c pk pt p1 p2 tt scope pos) 0 (.ref h₁.objs.size) (.ref H1.objs.size) (compEnvC scope cl H2.objs.size env))
        (compPost (model prog w) A E (some (assign (.Name y py) env)) (fun _ s' => Q .next s') (.ref H1.objs.size) H2.objs.size) s₂ := by
    rintro s₂ rfl
    refine outer_loop (env := compEnvC scope cl H2.objs.size env) (l1 := l1) (l2 := l2) (pairs := pairs) (p := p) (N := 21) hh (lookup_relabel_local hkk) (lookup_relabel_local ht) (lookup_relabel_local hl) (by simp [compEnvC, relabel, hkind]) hID hIC hDC
      ⟨(ne3 _ _ e1).2.2, (ne3 _ _ e1).1⟩ ⟨(ne3 _ _ e2).2.2, (ne3 _ _ e2).1⟩ hit hacc hns₃ (fun k tk q s₂ m₂ E' a b d g => test _ k tk q s₂ m₂ E' a b d g)
      (fun s₂ E' k => hz _ s₂ E' fun b o e => k b o (ne3 b o e).1 (ne3 b o e).2.2 (ne3 b o e).2.1 (old b o e)) hsz (fun x => hs _ x) fun h' tk m' hnC hlD hk => ?_
    have kk : ∀ b o, s.heap.get? b = some o → h'.get? b = some o := fun b o e => hk b o (ne3 b o e).1 (ne3 b o e).2.2 (ne3 b o e).2.1 (old b o e)
    obtain ⟨oL, esL, epL, eL, rL⟩ := id hn
    have hLC : env.locals ≠ H2.objs.size := (ne3 _ _ eL).1
    have hLD : env.locals ≠ H1.objs.size := (ne3 _ _ eL).2.2
    show wpAny _ A (assign (.Name y py) env (.ref H1.objs.size)) _ _ _
    refine wpAny_assign_Name (wpAny_storeName_local hy (hn.at' fun o e => kk _ o e) (fun h₄ hn₄ hs₄ => ?_) hp)
    refine ⟨m', hnC.sameBut hs₄ (Ne.symm hLC), fun h₅ hs₅ => ?_⟩
    exact hQ _ h₅ _ ((hlD.extBut hs₄.extBut (Ne.symm hLD)).extBut hs₅.extBut hDC) (hnew _ (.inl rfl)) (hn₄.sameBut hs₅ hLC) fun b o hb e => hs₅.extBut b o (ne3 b o e).1 (hs₄.extBut b o hb (kk b o e))
  exact codeAny_compStart_list (loop _ rfl) (wpAny_pyIter_rangeiter hit (loop _ rfl))
end
end Mine
end
section
open PySem PySem.W PyProof.Rows PySem.Calls
namespace Mine
theorem resetL0 {prog : Program} {w : World} {A : Around} {E : Value → Shared → Prop} {s : Shared} {b : Bool} : wpAny (model prog w) A (truthy (.bool b)) (fun _ _ => True) E s := by
  w_top off
  walk1
  all_goals trivial
end Mine
end
section
open PySem PySem.W PyProof.Rows PySem.Calls
set_option maxRecDepth 100000
set_option maxHeartbeats 8000000
namespace Mine
theorem fillL0 : PySem.Challenge.rw_ij0076_01 = PySem.Challenge.rw_ij0076_01 ∧ hd.heap_39 = hd.heap_39 := by
  k_fill
  exact ⟨rfl, rfl⟩
noncomputable def isSign (c : Nat) : Prop := c = 38 ∨ c = 60 ∨ c = 62 ∨ c = 34 ∨ c = 39 ∨ c = 10 ∨ c = 9 ∨ c = 97 ∨ c = 98
noncomputable def Good (x : Str) : Prop := ∃ l : List Nat, x = ⟨l.toArray⟩ ∧ l.length ≤ 3 ∧ ∀ c ∈ l, isSign c
noncomputable def TxtEl (v y : Value) : Prop := (∃ k t, v = .int k t) ∧ ∃ x u, y = .str x u ∧ Good x
theorem texts_of : ∀ {vs ys : List Value}, Paired TxtEl vs ys → ∃ xs : List (Str × Tok), ys = xs.map valOf ∧ (∀ x ∈ xs, Good x.1) ∧ xs.length = vs.length
  | _, _, .nil => ⟨[], rfl, (fun _ h => nomatch h), rfl⟩
  | _, _, .cons h t => by
    obtain ⟨_, x, u, rfl, g⟩ := h
    obtain ⟨xs, rfl, gs, e⟩ := texts_of t
    refine ⟨(x, u) :: xs, rfl, fun y hy => ?_, by simp [e]⟩
    rcases List.mem_cons.mp hy with rfl | hy
    · exact g
    · exact gs y hy
theorem sign_at (n : Nat) : ∃ l : List Nat, ([Str.ofString "&", Str.ofString "<", Str.ofString ">", Str.ofString "\"", Str.ofString "'", Str.ofString "\n", Str.ofString "\t", Str.ofString "a", Str.ofString "b", Str.ofString ""] : List Str).getD n Str.empty = ⟨l.toArray⟩ ∧ l.length ≤ 1 ∧ ∀ c ∈ l, isSign c := by
  match n with
  | 0 => exact ⟨[38], rfl, by decide, by simp [isSign]⟩
  | 1 => exact ⟨[60], rfl, by decide, by simp [isSign]⟩
  | 2 => exact ⟨[62], rfl, by decide, by simp [isSign]⟩
  | 3 => exact ⟨[34], rfl, by decide, by simp [isSign]⟩
  | 4 => exact ⟨[39], rfl, by decide, by simp [isSign]⟩
  | 5 => exact ⟨[10], rfl, by decide, by simp [isSign]⟩
  | 6 => exact ⟨[9], rfl, by decide, by simp [isSign]⟩
  | 7 => exact ⟨[97], rfl, by decide, by simp [isSign]⟩
  | 8 => exact ⟨[98], rfl, by decide, by simp [isSign]⟩
  | 9 => exact ⟨[], rfl, by decide, by simp⟩
  | n + 10 => exact ⟨[], rfl, by decide, by simp⟩
theorem good_app3 (a b c : Nat) : Good ((([Str.ofString "&", Str.ofString "<", Str.ofString ">", Str.ofString "\"", Str.ofString "'", Str.ofString "\n", Str.ofString "\t", Str.ofString "a", Str.ofString "b", Str.ofString ""] : List Str).getD a Str.empty ++
    ([Str.ofString "&", Str.ofString "<", Str.ofString ">", Str.ofString "\"", Str.ofString "'", Str.ofString "\n", Str.ofString "\t", Str.ofString "a", Str.ofString "b", Str.ofString ""] : List Str).getD b Str.empty) ++
    ([Str.ofString "&", Str.ofString "<", Str.ofString ">", Str.ofString "\"", Str.ofString "'", Str.ofString "\n", Str.ofString "\t", Str.ofString "a", Str.ofString "b", Str.ofString ""] : List Str).getD c Str.empty) := by
  obtain ⟨l1, e1, a1, b1⟩ := sign_at a
  obtain ⟨l2, e2, a2, b2⟩ := sign_at b
  obtain ⟨l3, e3, a3, b3⟩ := sign_at c
  rw [e1, e2, e3]
  refine ⟨l1 ++ l2 ++ l3, ?_, by simp; omega, fun x hx => ?_⟩
  · show (⟨(l1.toArray ++ l2.toArray) ++ l3.toArray⟩ : Str) = _
    simp
  · rcases List.mem_append.mp hx with hx | hx
    · rcases List.mem_append.mp hx with hx | hx
      · exact b1 x hx
      · exact b2 x hx
    · exact b3 x hx
/-- the law's own frame: what it changes -/
noncomputable def SL (L : Addr) : List Addr := [L, L + 1, L + 2, L + 3, 41, 69]
noncomputable def KS (S : List Addr) (h h' : Heap) : Prop := ∀ b o, b ∉ S → h.get? b = some o → h'.get? b = some o
noncomputable def CellAt (h : Heap) (c : Addr) (v : Option Value) : Prop := ∃ o, h.get? c = some o ∧ o.data = .cell v
structure LW (h₀ h : Heap) (L : Addr) (m : Str → Option Value) (v1 v2 v3 : Option Value) (t41 t69 : Array Value) : Prop where
  F : Fr h₀ L h m
  c1 : CellAt h (L + 1) v1
  c2 : CellAt h (L + 2) v2
  c3 : CellAt h (L + 3) v3
  g41 : h.get? 41 = some (tabObj t41)
  g69 : h.get? 69 = some (tabObj t69)
theorem off_of {h₀ h : Heap} {L D : Addr} {m : Str → Option Value} {v1 v2 v3 : Option Value} {t41 t69 : Array Value} (X : LW h₀ h L m v1 v2 v3 t41 t69) (e : h.get? D = none) : D ∉ SL L := by
  intro q
  simp only [SL, List.mem_cons, List.not_mem_nil, or_false] at q
  obtain ⟨o1, e1, _⟩ := X.c1
  obtain ⟨o2, e2, _⟩ := X.c2
  obtain ⟨o3, e3, _⟩ := X.c3
  obtain ⟨oL, _, _, eL, _⟩ := X.F.ns
  rcases q with rfl | rfl | rfl | rfl | rfl | rfl
  · rw [e] at eL; cases eL
  · rw [e] at e1; cases e1
  · rw [e] at e2; cases e2
  · rw [e] at e3; cases e3
  · have := X.g41; rw [e] at this; cases this
  · have := X.g69; rw [e] at this; cases this
noncomputable def lawScope : Scope := match lawDef with | .FunctionDef _ _ _ _ _ _ s .. => s | _ => default
theorem scope_of {n : Str} {P : Arguments} {b : List Stmt} {d : List PySem.Expr} {r : Option PySem.Expr} {tp : List TypeParam} {S : Scope} {ts : Option Scope} {bi : Str} {pp : Pos} (e : lawDef = .FunctionDef n P b d r tp S ts bi pp) : lawScope = S := by unfold lawScope; rw [e]
theorem body_of {n : Str} {P : Arguments} {b : List Stmt} {d : List PySem.Expr} {r : Option PySem.Expr} {tp : List TypeParam} {S : Scope} {ts : Option Scope} {bi : Str} {pp : Pos} (e : lawDef = .FunctionDef n P b d r tp S ts bi pp) : lawBody = b := by unfold lawBody; rw [e]
theorem asg_of {k : Nat} {b : List Stmt} {ts : List PySem.Expr} {v : PySem.Expr} {pp : Pos} (eb : lawBody = b) (e : b.getD k default = .Assign ts v pp) : lawBody.getD k default = .Assign ts v pp := by rw [eb]; exact e
theorem if_of {k : Nat} {b : List Stmt} {t : PySem.Expr} {x y : List Stmt} {pp : Pos} (eb : lawBody = b) (e : b.getD k default = .If t x y pp) : lawBody.getD k default = .If t x y pp := by rw [eb]; exact e
theorem ret_of {k : Nat} {b : List Stmt} {t : PySem.Expr} {pp : Pos} (eb : lawBody = b) (e : b.getD k default = .Return (some t) pp) : lawBody.getD k default = .Return (some t) pp := by rw [eb]; exact e
noncomputable abbrev lawEnv (L fa : Addr) : Env := envOfC "law" lawScope L fa (.ref 71)
noncomputable abbrev lawSt (k : Nat) : Stmt := lawBody.getD k default
local macro_rules | `(tactic| walk_at "eval ListComp") => `(tactic| (k_here; refine stuckP ?_))
local macro_rules | `(tactic| walk_at "eval Name") => `(tactic| (k_here; refine wpAny_Name (wpAny_loadName_local rfl rfl (Fr.ns (by assumption)) (by assumption) ?_)))
section
variable {w : World} {p : Program} {loose : List Str} {mean : ExcName → Option Value} {mg mb : Str → Option Value} {h₀ : Heap} {s : Shared} {L fa l0 : Addr} {m : Str → Option Value} {E : Value → Shared → Prop} {Q : Flow → Shared → Prop}
theorem st0 {vs : List Value} {ns : List Int} {w1 w2 w3 : Obj} (X : (hd.heap_39 w.params).In h₀) (T : Top p loose mean mg mb h₀) (B : Below callerA h₀ [] h₀) (F : Fr h₀ L s.heap m)
    (N : News h₀ L s.heap [(L + 3, w3), (L + 2, w2), (L + 1, w1), (41, tabObj #[]), (69, tabObj #[])]) (hw1 : w1.data = .cell none) (hw2 : w2.data = .cell none) (hw3 : w3.data = .cell none)
    (hm : m "script" = some (.ref l0)) (hl : h₀.IsList l0 vs.toArray) (hI : IntsAre vs ns) (hlen : ¬ 63 < ns.length)
    (h : ∀ (h' : Heap) (tk : Nat) (D : Addr) (xs : List (Str × Tok)), LW h₀ h' L m (some (.ref D)) none none #[] #[] → h'.IsList D (xs.map valOf).toArray → (∀ x ∈ xs, Good x.1) → xs.length = min 6 ns.length + 5 → D ∉ SL L → Q .next { s with heap := h', toks := tk }) :
    wpAny (model Pr w) (callerA.deeper (lawEnv L fa)) (exec (lawSt 0) (lawEnv L fa)) Q E s := by
  have e1 := scope_of rfl
  have e2 := asg_of (k := 0) (body_of rfl) rfl
  rw [lawEnv, e1, lawSt, e2]
  clear e1 e2
  k_steps
  unfold StuckP
  refine wpAny_ListComp_free (fun _ => true) TxtEl rfl (by decide) rfl (by decide) rfl ?_
  k_steps
  (rename Fr _ _ _ _ => F9); (rename News _ _ _ _ => N9); (rename IntsAre _ _ => hi9)
  have hD := N9 _ (.head _)
  rename_i D9 ws9 h9 l9
  have hl9 : h9.IsList D9 ws9.toArray := ⟨_, hD.1, rfl, _, rfl⟩
  have hsz : ws9.length ≤ 70 := by
    have e := hi9.length
    rw [List.length_append, List.length_take] at e
    simp at e
    omega
  refine wpAny_pyIter_list hl9 ?_
  refine ⟨_, _, _, _, _, _, rfl, Walks.list rfl _ D9 (Nat.ne_of_lt (Heap.lt_size hD.1)) ws9.toArray, ?_, ⟨⟨_, Heap.get?_push_size _ rfl, rfl, rfl⟩, ?_⟩, ?_, ⟨?_, ?_⟩, ?_⟩
  · show ws9.toArray.size ≤ _
    rw [List.size_toArray, sizeLine_eq]; omega
  · obtain ⟨o, e, r⟩ := hl9
    exact ⟨o, Heap.get?_push_of_some _ e, r⟩
  · intro b hb
    show b < (Heap.push _ _).objs.size
    rw [Heap.size_push]
    simp only [List.mem_cons, List.not_mem_nil, or_false] at hb
    rcases hb with rfl | rfl
    · exact Nat.lt_succ_self _
    · exact Nat.lt_succ_of_lt (Heap.lt_size hD.1)
  · intro C i v s₃ m₃ E' hC hP hn hmv hk htk
    exact wpAny_tests_nil ⟨rfl, _, _, rfl, fun _ _ e => e⟩
  · rintro C i v s₃ m₃ E' hC hP - hn hmv hk htk
    obtain ⟨k9, t9, rfl, -⟩ := hi9.at i v (by simpa using hP)
    have up : ∀ b o, h9.get? b = some o → s₃.heap.get? b = some o := fun b o e => hk b o (fun hb => Nat.ne_of_lt (Heap.lt_size e) (List.mem_singleton.mp hb)) (Heap.get?_push_of_some _ e)
    have F3 := F9.kept up
    have N3 := N9.grown up
    obtain ⟨oC, heC, hoC⟩ := LCg.ns_obj hn
    clear F9 N9
    refine wpAny_mono (Q := EltPost TxtEl _ s₃) ?_ (fun _ _ h => h) (fun _ _ h => h)
    k_steps
    exact ⟨⟨⟨_, _, rfl⟩, _, _, rfl, good_app3 _ _ _⟩, _, _, rfl, (by assumption : InElt _ _)⟩
  · intro D h' tk' ys vs hD' hlD hpl hlen' hP hF hk
    have e : vs.filter (fun _ => true) = vs := List.filter_eq_self.mpr fun _ _ => rfl
    rw [e] at hF
    obtain ⟨xs, hxs, hg, hxl⟩ := texts_of hF
    have up : ∀ b o, h9.get? b = some o → h'.get? b = some o := fun b o e => hk b o (fun hb => Nat.ne_of_lt (Heap.lt_size e) (List.mem_singleton.mp hb)) (Heap.get?_push_of_some _ e)
    have F3 := F9.kept up
    have N3 := N9.grown up
    clear hk
    have g3 := (N3 _ (.tail _ (.tail _ (.tail _ (.head _))))).1
    have g2 := (N3 _ (.tail _ (.tail _ (.tail _ (.tail _ (.head _)))))).1
    have g1 := (N3 _ (.tail _ (.tail _ (.tail _ (.tail _ (.tail _ (.head _))))))).1
    have g41 := N3 _ (.tail _ (.tail _ (.tail _ (.tail _ (.tail _ (.tail _ (.head _)))))))
    have g69 := N3 _ (.tail _ (.tail _ (.tail _ (.tail _ (.tail _ (.tail _ (.tail _ (.head _))))))))
    have n1 := N3 _ (.tail _ (.tail _ (.tail _ (.tail _ (.tail _ (.head _))))))
    have W9 : LW h₀ h' L m none none none #[] #[] := ⟨F3, ⟨_, g1, hw1⟩, ⟨_, g2, hw2⟩, ⟨_, g3, hw3⟩, g41.1, g69.1⟩
    have G1' := N9 _ (.tail _ (.tail _ (.tail _ (.head _))))
    have offD : D ∉ SL L := off_of (h := Heap.push h9 _) (m := m) (h₀ := h₀) (v1 := none) (v2 := none) (v3 := none) (t41 := #[]) (t69 := #[]) ⟨F9.push _, ⟨_, Heap.get?_push_of_some _ (N9 _ (.tail _ (.tail _ (.tail _ (.tail _ (.tail _ (.head _))))))).1, hw1⟩, ⟨_, Heap.get?_push_of_some _ (N9 _ (.tail _ (.tail _ (.tail _ (.tail _ (.head _)))))).1, hw2⟩, ⟨_, Heap.get?_push_of_some _ (N9 _ (.tail _ (.tail _ (.tail _ (.head _))))).1, hw3⟩,
      Heap.get?_push_of_some _ (N9 _ (.tail _ (.tail _ (.tail _ (.tail _ (.tail _ (.tail _ (.head _)))))))).1, Heap.get?_push_of_some _ (N9 _ (.tail _ (.tail _ (.tail _ (.tail _ (.tail _ (.tail _ (.tail _ (.head _))))))))).1⟩ hD'
    refine wpAny_storeName_cell (c := L + 1) rfl rfl rfl ⟨_, g1, hw1⟩ fun h4 hc4 hs4 => ?_
    have mk : ∀ b o, b ≠ L + 1 → h'.get? b = some o → h4.get? b = some o := fun b o hb e => hs4.extBut b o hb e
    have x1 : (41 : Addr) ≠ L + 1 := fun q => by
      have a1 := g41.1; have a2 := g1; rw [q] at a1; rw [a1] at a2; have a3 : tabObj #[] = w1 := Option.some.inj a2; rw [← a3] at hw1; cases hw1
    have x2 : (69 : Addr) ≠ L + 1 := fun q => by
      have a1 := g69.1; have a2 := g1; rw [q] at a1; rw [a1] at a2; have a3 : tabObj #[] = w1 := Option.some.inj a2; rw [← a3] at hw1; cases hw1
    have hDL : D ≠ L + 1 := fun q => offD (by rw [q]; simp [SL])
    refine h h4 _ D xs ⟨⟨F3.ns.extBut hs4.extBut (Ne.symm n1.2.1), fun b o e => mk b o (fun q => by rw [q, n1.2.2] at e; cases e) (F3.keep b o e), F3.above⟩, hc4, ⟨_, mk _ _ (Nat.succ_ne_self _) g2, hw2⟩, ⟨_, mk (L + 3) _ (fun q => absurd (Nat.add_left_cancel q) (by decide)) g3, hw3⟩, mk _ _ x1 g41.1, mk _ _ x2 g69.1⟩ ?_ hg ?_ offD
    · obtain ⟨o, e, r1, n, r2⟩ := hlD
      refine ⟨o, mk _ _ hDL e, r1, n, ?_⟩
      rw [r2, ← hxs]
    · rw [hxl, hlen', List.size_toArray, hi9.length, List.length_append, List.length_take]
      rfl
end
end Mine
end
section
open PySem PySem.W PyProof.Rows PySem.Calls
set_option maxRecDepth 100000
set_option maxHeartbeats 2000000
namespace Mine
theorem KS.refl (S : List Addr) (h : Heap) : KS S h h := fun _ _ _ e => e
theorem KS.trans {S : List Addr} {h h' h'' : Heap} (a : KS S h h') (b : KS S h' h'') : KS S h h'' := fun x o hx e => b x o hx (a x o hx e)
theorem KS.of {S : List Addr} {h h' : Heap} (k : Keeps h h') : KS S h h' := fun x o _ e => k x o e
theorem KS.but {S : List Addr} {h h' : Heap} {a : Addr} (k : Heap.ExtBut a h h') (ha : a ∈ S) : KS S h h' := fun x o hx e => k x o (fun q => hx (q ▸ ha)) e
theorem rec_ks {S : List Addr} {h h' : Heap} {c : Addr} {q : Str} (k : KS S h h') (hc : c ∉ S) (r : h.CodeRec (.ref c) q) : h'.CodeRec (.ref c) q := by
  obtain ⟨c2, oc, vs, tv, ec, hoc, r⟩ := r
  cases ec
  exact ⟨_, oc, vs, tv, rfl, k _ _ hc hoc, r⟩
theorem KTab.ks {S : List Addr} {h h' : Heap} {pos : Pos} {cK PK c4 c5 c6 c7 c8 c9 : Addr} (T : KTab h pos cK PK c4 c5 c6 c7 c8 c9) (k : KS S h h') (off : ∀ c ∈ [cK, PK, c4, c5, c6, c7, c8, c9], c ∉ S)
    (g : h'.get? 41 = some (tabObj #[rawInt pos.line, rawInt pos.col, .ref cK])) : KTab h' pos cK PK c4 c5 c6 c7 c8 c9 where
  p41 := g
  n41 := T.n41
  code := by
    obtain ⟨o, vs, file, tf, flags, tg, inF, text, tt, e, e2, e3, r⟩ := T.code
    exact ⟨o, vs, file, tf, flags, tg, inF, text, tt, k _ _ (off _ (by simp)) e, e2, e3, r⟩
  tab := k _ _ (off _ (by simp)) T.tab
  r4 := rec_ks k (off _ (by simp)) T.r4
  r5 := rec_ks k (off _ (by simp)) T.r5
  r6 := rec_ks k (off _ (by simp)) T.r6
  r7 := rec_ks k (off _ (by simp)) T.r7
  r8 := rec_ks k (off _ (by simp)) T.r8
  r9 := rec_ks k (off _ (by simp)) T.r9
/-- all that a class of the law's is made of, off the addresses S -/
structure Pack (S : List Addr) (l : LD) (K : Frag) (L : Addr) (pm : Value) (C N P f4 f5 c4 c5 lam lc : Addr) (h : Heap) : Prop where
  X : K.In h
  W : KW K L pm C N P f4 f5 c4 c5
  r4 : h.CodeRec (.ref c4) (qn "__init__")
  r5 : h.CodeRec (.ref c5) (qn "__lt__")
  cell : ∃ oc, h.get? (L + 1) = some oc ∧ oc.data = .cell (some (.ref lam))
  lo : ∃ nm qual pm2 ctv, h.get? lam = some (kla_obj nm qual l.P l.B two [] pm2 lc ctv) ∧ h.CodeRec (.ref lc) qual
  Xo : ∀ a o, K.lookup a = some o → a ∉ S
  off : ∀ a ∈ [c4, c5, L + 1, lam, lc], a ∉ S
section
variable {w : World} {p : Program} {loose : List Str} {mean : ExcName → Option Value} {mg mb : Str → Option Value} {base : Heap} {S : List Addr} {l : LD} {K : Frag} {L : Addr} {pm : Value} {C N P f4 f5 c4 c5 lam lc : Addr} {h h' : Heap}
theorem Pack.ks (Y : Pack S l K L pm C N P f4 f5 c4 c5 lam lc h) (k : KS S h h') : Pack S l K L pm C N P f4 f5 c4 c5 lam lc h' where
  X := fun a o e => k _ _ (Y.Xo a o e) (Y.X a o e)
  W := Y.W
  r4 := rec_ks k (Y.off _ (by simp)) Y.r4
  r5 := rec_ks k (Y.off _ (by simp)) Y.r5
  cell := let ⟨oc, e, d⟩ := Y.cell; ⟨oc, k _ _ (Y.off _ (by simp)) e, d⟩
  lo := let ⟨nm, qual, pm2, ctv, e, r⟩ := Y.lo; ⟨nm, qual, pm2, ctv, k _ _ (Y.off _ (by simp)) e, rec_ks k (Y.off _ (by simp)) r⟩
  Xo := Y.Xo
  off := Y.off
theorem Pack.fn (Y : Pack S l K L pm C N P f4 f5 c4 c5 lam lc h) : FnAt lam h := let ⟨_, _, _, _, e, _⟩ := Y.lo; ⟨_, _, _, _, e⟩
theorem Pack.cls1 (Y : Pack S lam1 K L pm C N P f4 f5 c4 c5 lam lc h) : ClsAt w p loose mean mg mb base K L pm C N P f4 f5 c4 c5 lam (fun x y => qlen x - qlen y) h :=
  let ⟨_, _, _, _, e, r⟩ := Y.lo
  ⟨Y.X, Y.W, Y.r4, Y.r5, Y.cell, Y.fn, says1 e r⟩
theorem Pack.cls2 (Y : Pack S lam2 K L pm C N P f4 f5 c4 c5 lam lc h) : ClsAt w p loose mean mg mb base K L pm C N P f4 f5 c4 c5 lam (fun x y => qlen y - qlen x) h :=
  let ⟨_, _, _, _, e, r⟩ := Y.lo
  ⟨Y.X, Y.W, Y.r4, Y.r5, Y.cell, Y.fn, says2 e r⟩
end
section
variable {h₀ h h' : Heap} {L : Addr} {m : Str → Option Value} {v1 v2 v3 : Option Value} {t41 t69 : Array Value}
theorem LW.keeps (X : LW h₀ h L m v1 v2 v3 t41 t69) (k : Keeps h h') : LW h₀ h' L m v1 v2 v3 t41 t69 :=
  ⟨X.F.kept k, let ⟨o, e, d⟩ := X.c1; ⟨o, k _ _ e, d⟩, let ⟨o, e, d⟩ := X.c2; ⟨o, k _ _ e, d⟩, let ⟨o, e, d⟩ := X.c3; ⟨o, k _ _ e, d⟩, k _ _ X.g41, k _ _ X.g69⟩
/-- a code table grows -/
theorem LW.tab (X : LW h₀ h L m v1 v2 v3 t41 t69) (k : Heap.ExtBut 69 h h') (n : h₀.get? 69 = none) {t : Array Value} (g : h'.get? 69 = some (tabObj t)) : LW h₀ h' L m v1 v2 v3 t41 t := by
  have c : ∀ {a : Addr} {v : Option Value}, CellAt h a v → CellAt h' a v := fun {a v} ⟨o, e, d⟩ => ⟨o, k _ _ (fun q => by rw [q, X.g69] at e; cases e; cases d) e, d⟩
  refine ⟨⟨X.F.ns.extBut k (fun q => ?_), fun b o e => k _ _ (fun q => by rw [q, n] at e; cases e) (X.F.keep b o e), X.F.above⟩, c X.c1, c X.c2, c X.c3, k _ _ (by decide) X.g41, g⟩
  obtain ⟨o, es, ep, e, d, _⟩ := X.F.ns
  rw [q, X.g69] at e; cases e; cases d
theorem LW.tab41 (X : LW h₀ h L m v1 v2 v3 t41 t69) (k : Heap.ExtBut 41 h h') (n : h₀.get? 41 = none) {t : Array Value} (g : h'.get? 41 = some (tabObj t)) : LW h₀ h' L m v1 v2 v3 t t69 := by
  have c : ∀ {a : Addr} {v : Option Value}, CellAt h a v → CellAt h' a v := fun {a v} ⟨o, e, d⟩ => ⟨o, k _ _ (fun q => by rw [q, X.g41] at e; cases e; cases d) e, d⟩
  refine ⟨⟨X.F.ns.extBut k (fun q => ?_), fun b o e => k _ _ (fun q => by rw [q, n] at e; cases e) (X.F.keep b o e), X.F.above⟩, c X.c1, c X.c2, c X.c3, g, k _ _ (by decide) X.g69⟩
  obtain ⟨o, es, ep, e, d, _⟩ := X.F.ns
  rw [q, X.g41] at e; cases e; cases d
theorem LW.not (X : LW h₀ h L m v1 v2 v3 t41 t69) : (41 : Addr) ≠ L ∧ (69 : Addr) ≠ L ∧ (41 : Addr) ∉ [L + 1, L + 2, L + 3] ∧ (69 : Addr) ∉ [L + 1, L + 2, L + 3] ∧ ∀ c ∈ [L + 1, L + 2, L + 3], h₀.get? c = none := by
  have cN : ∀ {a : Addr} {v : Option Value} {t : Array Value} {b : Addr}, h.get? b = some (tabObj t) → CellAt h a v → b ≠ a := fun {a v t b} e ⟨o, e2, d⟩ q => by rw [q, e2] at e; cases e; cases d
  obtain ⟨o, es, ep, e, d, _⟩ := id X.F.ns
  refine ⟨fun q => ?_, fun q => ?_, fun q => ?_, fun q => ?_, fun c hc => ?_⟩
  · have := X.g41; rw [q, e] at this; cases this; cases d
  · have := X.g69; rw [q, e] at this; cases this; cases d
  · simp only [List.mem_cons, List.not_mem_nil, or_false] at q
    rcases q with q | q | q
    · exact cN X.g41 X.c1 q
    · exact cN X.g41 X.c2 q
    · exact cN X.g41 X.c3 q
  · simp only [List.mem_cons, List.not_mem_nil, or_false] at q
    rcases q with q | q | q
    · exact cN X.g69 X.c1 q
    · exact cN X.g69 X.c2 q
    · exact cN X.g69 X.c3 q
  · refine Heap.get?_none_of_le (Nat.le_trans X.F.above ?_)
    simp only [List.mem_cons, List.not_mem_nil, or_false] at hc
    rcases hc with rfl | rfl | rfl <;> exact Nat.le_add_right _ _
end
end Mine
end
section
open PySem PySem.W PyProof.Rows PySem.Calls
set_option maxRecDepth 100000
set_option maxHeartbeats 8000000
namespace Mine
theorem fillV2 : PySem.Challenge.rw_ij0076_01 = PySem.Challenge.rw_ij0076_01 ∧ hd.heap_39 = hd.heap_39 := by
  k_fill
  exact ⟨rfl, rfl⟩
section
variable {h₀ h h' : Heap} {L : Addr} {m : Str → Option Value} {v1 v2 v3 : Option Value} {t41 t69 : Array Value}
theorem cell_keep {h h' : Heap} {a c : Addr} {v : Option Value} (hs : Heap.SameBut c h h') (hac : a ≠ c) (x : CellAt h a v) : CellAt h' a v := let ⟨o, e, d⟩ := x; ⟨o, (hs.2 _ hac).trans e, d⟩
theorem LW.st3 (X : LW h₀ h L m v1 v2 v3 t41 t69) (hs : Heap.SameBut (L + 3) h h') {v : Value} (hc : h'.IsCell (L + 3) (some v)) : LW h₀ h' L m v1 v2 (some v) t41 t69 := by
  have n := X.not
  refine ⟨⟨X.F.ns.extBut hs.extBut (fun q => absurd (Nat.le_of_eq q.symm) (Nat.not_le.mpr (Nat.lt_add_of_pos_right (by decide)))), fun b o e => (hs.2 b (fun q => ?_)).trans (X.F.keep b o e), X.F.above⟩, cell_keep hs (fun q => absurd (Nat.add_left_cancel q) (by decide)) X.c1, cell_keep hs (fun q => absurd (Nat.add_left_cancel q) (by decide)) X.c2, hc, (hs.2 _ (fun q => n.2.2.1 (by rw [q]; simp))).trans X.g41, (hs.2 _ (fun q => n.2.2.2.1 (by rw [q]; simp))).trans X.g69⟩
  have := n.2.2.2.2 (L + 3) (by simp)
  rw [q, this] at e; cases e
theorem LW.st2 (X : LW h₀ h L m v1 v2 v3 t41 t69) (hs : Heap.SameBut (L + 2) h h') {v : Value} (hc : h'.IsCell (L + 2) (some v)) : LW h₀ h' L m v1 (some v) v3 t41 t69 := by
  have n := X.not
  refine ⟨⟨X.F.ns.extBut hs.extBut (fun q => absurd (Nat.le_of_eq q.symm) (Nat.not_le.mpr (Nat.lt_add_of_pos_right (by decide)))), fun b o e => (hs.2 b (fun q => ?_)).trans (X.F.keep b o e), X.F.above⟩, cell_keep hs (fun q => absurd (Nat.add_left_cancel q) (by decide)) X.c1, hc, cell_keep hs (fun q => absurd (Nat.add_left_cancel q) (by decide)) X.c3, (hs.2 _ (fun q => n.2.2.1 (by rw [q]; simp))).trans X.g41, (hs.2 _ (fun q => n.2.2.2.1 (by rw [q]; simp))).trans X.g69⟩
  have := n.2.2.2.2 (L + 2) (by simp)
  rw [q, this] at e; cases e
theorem LW.loc (X : LW h₀ h L m v1 v2 v3 t41 t69) {m' : Str → Option Value} (hs : Heap.SameBut L h h') (hn : h'.Ns L m') : LW h₀ h' L m' v1 v2 v3 t41 t69 := by
  have n := X.not
  have ne : ∀ k, 0 < k → L + k ≠ L := fun k hk q => absurd (Nat.le_of_eq q) (Nat.not_le.mpr (Nat.lt_add_of_pos_right hk))
  exact ⟨⟨hn, fun b o e => (hs.2 b (fun q => absurd (Nat.lt_of_lt_of_le (Heap.lt_size e) X.F.above) (by rw [q]; exact Nat.lt_irrefl _))).trans (X.F.keep b o e), X.F.above⟩, cell_keep hs (ne 1 (by decide)) X.c1, cell_keep hs (ne 2 (by decide)) X.c2, cell_keep hs (ne 3 (by decide)) X.c3, (hs.2 _ n.1).trans X.g41, (hs.2 _ n.2.1).trans X.g69⟩
end
section
variable {M : Model} {A : Around} {E : Value → Shared → Prop} {s : Shared} {h₀ : Heap} {L fa : Addr} {m : Str → Option Value} {v1 v2 v3 : Option Value} {t41 t69 : Array Value} {p : Program} {loose : List Str} {mean : ExcName → Option Value} {mg mb : Str → Option Value} {Q : Value → Shared → Prop}
theorem lam_make {params : Arguments} {body : PySem.Expr} {scope S : Scope} {pos : Pos} {clos : List (Str × Addr)} (T : Top p loose mean mg mb h₀) (X : LW h₀ s.heap L m v1 v2 v3 t41 t69) (C : CodeHd h₀ 71 69) (n : h₀.get? 69 = none) (ht : TriplesOk t69.toList) (hnf : codeAmong pos t69.toList = none)
    (hdef : defaultsOf params (envOfC "law" S L fa (.ref 71)) = ([], [])) (hcl : closureFor scope (envOfC "law" S L fa (.ref 71)) = pure clos)
    (h : ∀ f c' ctv qual h' tk, LW h₀ h' L m v1 v2 v3 t41 (t69 ++ #[rawInt pos.line, rawInt pos.col, .ref c']) → KS (SL L) s.heap h' → h'.get? f = some (kla_obj "<lambda>" qual params body scope clos ((mg "__name__").getD .none) c' ctv) → h'.CodeRec (.ref c') qual →
      f ∉ SL L → c' ∉ SL L → Q (.ref f) { s with heap := h', toks := tk }) :
    wpAny M A (eval (.Lambda params body scope pos) (envOfC "law" S L fa (.ref 71))) Q E s := by
  refine kla_eval hdef ?_
  have hgs := T.g.keeps X.F.keep
  obtain ⟨bm, ob, b1, b2, b3, b4, b5, b6⟩ := T.bmain
  have hgP : mainGlobals ≠ 69 := fun q => by
    obtain ⟨o, es, ep, e, hd, _⟩ := hgs
    rw [q, X.g69] at e; cases e; cases hd
  have hbP : bm ≠ 69 := fun q => by
    have e := X.F.keep _ _ b3
    rw [q, X.g69] at e; cases e; cases b4
  have hbG : bm ≠ mainGlobals := fun q => by
    obtain ⟨o, es, ep, e, hd, _⟩ := T.g
    rw [q, e] at b3; cases b3; rw [hd] at b6; cases b6
  refine kla_makeFunction (mg := mg) hcl rfl hgs rfl (C.keeps X.F.keep) X.g69 ht hnf hgP ⟨bm, ob, b1, b2, hbG, hbP, X.F.keep _ _ b3, b4, b5, b6⟩ fun c' ctv h' tk hx hge hlt hrec htb => ?_
  have hn1 : s.heap.get? c' = none := Heap.get?_none_of_le hge
  have hn2 : s.heap.get? h'.objs.size = none := Heap.get?_none_of_le (Nat.le_trans hge (Nat.le_of_lt hlt))
  have k1 : Heap.ExtBut 69 s.heap (h'.push (kla_obj "<lambda>" ((envOfC "law" S L fa (.ref 71)).qual ++ "<lambda>") params body scope clos ((mg "__name__").getD .none) c' ctv)) := fun b o hb e => Heap.get?_push_of_some _ (hx b o hb e)
  refine h _ c' ctv _ _ tk (X.tab k1 n (Heap.get?_push_of_some _ htb)) (KS.but k1 (by simp [SL])) (Heap.get?_push_size _ rfl) (rec_keep (fun b o e => Heap.get?_push_of_some _ e) hrec) (off_of X hn2) (off_of X hn1)
theorem kfrag_off {S : List Addr} {C N P f4 f5 : Addr} {oC oN oP o4 o5 : Obj} (h : ∀ a ∈ [C, N, P, f4, f5], a ∉ S) : ∀ a o, (kfrag C N P f4 f5 oC oN oP o4 o5).lookup a = some o → a ∉ S := by
  intro a o e
  unfold kfrag at e
  simp only [List.lookup] at e
  split at e
  · rename_i q; rw [eq_of_beq q]; exact h _ (by simp)
  split at e
  · rename_i q; rw [eq_of_beq q]; exact h _ (by simp)
  split at e
  · rename_i q; rw [eq_of_beq q]; exact h _ (by simp)
  split at e
  · rename_i q; rw [eq_of_beq q]; exact h _ (by simp)
  split at e
  · rename_i q; rw [eq_of_beq q]; exact h _ (by simp)
  · cases e
theorem pack_of {l : LD} {h1 h2 : Heap} {L' C N P f4 f5 c4 c5 lam lc : Addr} {pm : Value} {oc' : Obj} (Y1 : LW h₀ h1 L m v1 v2 v3 t41 t69) (KC : KCls h1 L' pm h2 C N P f4 f5 c4 c5) (r4 : h2.CodeRec (.ref c4) (qn "__init__")) (r5 : h2.CodeRec (.ref c5) (qn "__lt__"))
    (o4 : c4 ∉ SL L) (o5 : c5 ∉ SL L) (hcell : h2.get? (L' + 1) = some oc') (hcd : oc'.data = .cell (some (.ref lam))) (hfr : h1.get? (L' + 1) = none)
    (lo : ∃ nm qual pm2 ctv, h1.get? lam = some (kla_obj nm qual l.P l.B two [] pm2 lc ctv) ∧ h1.CodeRec (.ref lc) qual) (of : lam ∉ SL L) (oc : lc ∉ SL L) (k2 : KS (SL L) h1 h2) :
    ∃ K, Pack (SL L) l K L' pm C N P f4 f5 c4 c5 lam lc h2 := by
  obtain ⟨oC, oN, oP, p4, p5, ⟨g1, g2, g3, g4, g5⟩, W⟩ := look_of KC
  obtain ⟨nm, qual, pm2, ctv, e, r⟩ := lo
  refine ⟨_, look_in g1 g2 g3 g4 g5, W, r4, r5, ⟨_, hcell, hcd⟩, ⟨nm, qual, pm2, ctv, k2 _ _ of e, rec_ks k2 oc r⟩, kfrag_off fun a ha => off_of Y1 (KC.fr a ha), fun a ha => ?_⟩
  simp only [List.mem_cons, List.not_mem_nil, or_false] at ha
  rcases ha with rfl | rfl | rfl | rfl | rfl
  · exact o4
  · exact o5
  · exact off_of Y1 hfr
  · exact of
  · exact oc
end
end Mine
end
section
open PySem PySem.W PyProof.Rows PySem.Calls
namespace Mine
theorem resetV3 {prog : Program} {w : World} {A : Around} {E : Value → Shared → Prop} {s : Shared} {b : Bool} : wpAny (model prog w) A (truthy (.bool b)) (fun _ _ => True) E s := by
  w_top off
  walk1
  all_goals trivial
end Mine
end
section
open PySem PySem.W PyProof.Rows PySem.Calls
set_option maxRecDepth 100000
set_option maxHeartbeats 8000000
namespace Mine
theorem fillV3 : PySem.Challenge.rw_ij0076_01 = PySem.Challenge.rw_ij0076_01 ∧ hd.heap_39 = hd.heap_39 := by
  k_fill
  exact ⟨rfl, rfl⟩
local macro_rules | `(tactic| walk_at "eval Lambda") => `(tactic| (k_here; refine stuckP ?_))
local macro_rules | `(tactic| walk_at "storeName") => `(tactic| (k_here; refine stuckP ?_))
local macro_rules | `(tactic| walk_at "call ref") => `(tactic| (k_here; (with_reducible show wpAny _ _ (call (Value.ref 46) [Value.ref _]) _ _ _); refine stuckP ?_))
noncomputable def tab2 (p q : Pos) (a b : Addr) : Array Value := #[rawInt p.line, rawInt p.col, .ref a, rawInt q.line, rawInt q.col, .ref b]
section
variable {cK PK c4 c5 c6 c7 c8 c9 lc1 : Addr} {t41 : Array Value} {w : World} {p : Program} {loose : List Str} {mean : ExcName → Option Value} {mg mb : Str → Option Value} {h₀ : Heap} {s : Shared} {L fa : Addr} {m : Str → Option Value} {E : Value → Shared → Prop} {Q : Flow → Shared → Prop} {v1 v2 v3 : Option Value}
theorem st1 (X : (hd.heap_39 w.params).In h₀) (T : Top p loose mean mg mb h₀) (B : Below callerA h₀ [] h₀) (Y : LW h₀ s.heap L m v1 v2 v3 #[] #[]) (C2 : CodeHd h₀ 71 69) (n41 : h₀.get? 41 = none) (n69 : h₀.get? 69 = none)
    (h : ∀ h' tk C N P f4 f5 cK PK c4 c5 c6 c7 c8 c9 L' K lam lc, LW h₀ h' L m v1 v2 (some (.ref C)) #[rawInt kSP.line, rawInt kSP.col, .ref cK] #[rawInt lam1.q.line, rawInt lam1.q.col, .ref lc] → KS (SL L) s.heap h' → KTab h' kSP cK PK c4 c5 c6 c7 c8 c9 →
      (∀ c ∈ [cK, PK, c4, c5, c6, c7, c8, c9], c ∉ SL L) → Pack (SL L) lam1 K L' (.str "law_ij0076_01" 239) C N P f4 f5 c4 c5 lam lc h' → Q .next { s with heap := h', toks := tk }) :
    wpAny (model Pr w) (callerA.deeper (lawEnv L fa)) (exec (lawSt 1) (lawEnv L fa)) Q E s := by
  have e1 := scope_of rfl
  have e2 := asg_of (k := 1) (body_of rfl) rfl
  rw [lawEnv, e1, lawSt, e2]
  clear e1 e2
  have F := Y.F
  have N : News h₀ L s.heap [] := News.nil
  k_steps
  unfold StuckP
  refine lam_make T Y C2 n69 ?_ ?_ rfl rfl ?_
  · kn_triples
  · kn_among
  intro lam lc ctv qual h1 tk1 Y1 k1 hlam hlc of oc
  clear F N
  have F := Y1.F
  have N : News h₀ L h1 [] := News.nil
  k_steps
  unfold StuckP
  clear N
  refine wpAny_call (codeAny_weaken (A := { handled := none, depth := 500, frames := some [envOfC "law" _ L fa (.ref 71)], guards := callerA.guards, units := 400 }) ?_ rfl (Nat.le_of_ble_eq_true rfl) rfl rfl (Nat.le_of_ble_eq_true rfl))
  refine ctk_miss (Cx.at X T B F rfl rfl rfl) Y1.g41 fun C N P f4 f5 cK PK c4 c5 c6 c7 c8 c9 L' oc' h2 tk2 hx KT KC fr hcell hcd hfr => ?_
  have Y2 := Y1.tab41 hx n41 KT.p41
  have k2 : KS (SL L) h1 h2 := KS.but hx (by simp [SL])
  have offs : ∀ c ∈ [cK, PK, c4, c5, c6, c7, c8, c9], c ∉ SL L := fun c hc => off_of Y1 (fr c hc)
  obtain ⟨K, PK1⟩ := pack_of (l := lam1) Y1 KC KT.r4 KT.r5 (offs _ (by simp)) (offs _ (by simp)) hcell hcd hfr ⟨_, _, _, _, hlam, hlc⟩ of oc k2
  obtain ⟨o3, e3, d3⟩ := Y2.c3
  refine wpAny_storeName_cell (c := L + 3) rfl rfl rfl ⟨o3, e3, d3⟩ fun h4 hc4 hs4 => ?_
  have Y4 := Y2.st3 hs4 hc4
  have k4 : KS (SL L) h2 h4 := KS.but hs4.extBut (by simp [SL])
  exact h h4 _ C N P f4 f5 cK PK c4 c5 c6 c7 c8 c9 L' K lam lc Y4 ((k1.trans k2).trans k4) (KT.ks k4 offs Y4.g41) offs (PK1.ks k4)
theorem st2 (X : (hd.heap_39 w.params).In h₀) (T : Top p loose mean mg mb h₀) (B : Below callerA h₀ [] h₀) (Y : LW h₀ s.heap L m v1 v2 v3 t41 #[rawInt lam1.q.line, rawInt lam1.q.col, .ref lc1]) (C2 : CodeHd h₀ 71 69) (KT0 : KTab s.heap kSP cK PK c4 c5 c6 c7 c8 c9) (offs : ∀ c ∈ [cK, PK, c4, c5, c6, c7, c8, c9], c ∉ SL L) (n69 : h₀.get? 69 = none)
    (h : ∀ h' tk C N P f4 f5 L' K lam lc t69, LW h₀ h' L (fun y => if y = "turned" then some (.ref C) else m y) v1 v2 v3 t41 t69 → (∃ a b, t69 = tab2 lam1.q lam2.q a b) → KS (SL L) s.heap h' →
      Pack (SL L) lam2 K L' (.str "law_ij0076_01" 239) C N P f4 f5 c4 c5 lam lc h' → Q .next { s with heap := h', toks := tk }) :
    wpAny (model Pr w) (callerA.deeper (lawEnv L fa)) (exec (lawSt 2) (lawEnv L fa)) Q E s := by
  have e1 := scope_of rfl
  have e2 := asg_of (k := 2) (body_of rfl) rfl
  rw [lawEnv, e1, lawSt, e2]
  clear e1 e2
  have F := Y.F
  have N : News h₀ L s.heap [] := News.nil
  k_steps
  unfold StuckP
  refine lam_make T Y C2 n69 ?_ ?_ rfl rfl ?_
  · kn_triples
  · kn_among
  intro lam lc ctv qual h1 tk1 Y1 k1 hlam hlc of oc
  clear F N
  have F := Y1.F
  have N : News h₀ L h1 [] := News.nil
  k_steps
  unfold StuckP
  clear N
  refine wpAny_call (codeAny_weaken (A := { handled := none, depth := 500, frames := some [envOfC "law" _ L fa (.ref 71)], guards := callerA.guards, units := 400 }) ?_ rfl (Nat.le_of_ble_eq_true rfl) rfl rfl (Nat.le_of_ble_eq_true rfl))
  have KT1 := KT0.ks k1 offs (Y1.g41.trans (Y.g41.symm.trans KT0.p41))
  refine ctk_hit (Cx.at X T B F rfl rfl rfl) KT1 fun C N P f4 f5 L' oc' h2 tk2 hx KC hcell hcd hfr => ?_
  have Y2 := Y1.keeps hx
  have k2 : KS (SL L) h1 h2 := KS.of hx
  obtain ⟨K, PK1⟩ := pack_of (l := lam2) Y1 KC (rec_keep hx KT1.r4) (rec_keep hx KT1.r5) (offs _ (by simp)) (offs _ (by simp)) hcell hcd hfr ⟨_, _, _, _, hlam, hlc⟩ of oc k2
  refine wpAny_storeName_local rfl Y2.F.ns (fun h4 ns4 hs4 => ?_) rfl
  have Y4 := Y2.loc hs4 ns4
  have k4 : KS (SL L) h2 h4 := KS.but (a := L) hs4.extBut (by simp [SL])
  exact h h4 _ C N P f4 f5 L' K lam lc _ Y4 ⟨_, _, rfl⟩ ((k1.trans k2).trans k4) (PK1.ks k4)
end
end Mine
end
section
open PySem PySem.W PyProof.Rows PySem.Calls
namespace Mine
theorem resetV4 {prog : Program} {w : World} {A : Around} {E : Value → Shared → Prop} {s : Shared} {b : Bool} : wpAny (model prog w) A (truthy (.bool b)) (fun _ _ => True) E s := by
  w_top off
  walk1
  all_goals trivial
end Mine
end
section
open PySem PySem.W PyProof.Rows PySem.Calls
set_option maxRecDepth 100000
set_option maxHeartbeats 8000000
namespace Mine
theorem fillV4 : PySem.Challenge.rw_ij0076_01 = PySem.Challenge.rw_ij0076_01 ∧ hd.heap_39 = hd.heap_39 := by
  k_fill
  exact ⟨rfl, rfl⟩
noncomputable def LongEl (v y : Value) : Prop := ∃ x u t, v = .str x u ∧ y = .int (longOf x) t
noncomputable abbrev longV (q : (Str × Tok) × Tok) : Value := .int (longOf q.1.1) q.2
theorem longs_of : ∀ {xs : List (Str × Tok)} {ys : List Value}, Paired LongEl (xs.map valOf) ys → ∃ zs : List ((Str × Tok) × Tok), zs.map (·.1) = xs ∧ ys = zs.map longV
  | [], _, h => by cases h; exact ⟨[], rfl, rfl⟩
  | x :: xs, _, h => by
    cases h with
    | cons h t =>
      obtain ⟨x', u, tk, e, rfl⟩ := h
      obtain ⟨zs, rfl, rfl⟩ := longs_of t
      obtain ⟨a, b⟩ := x
      injection e with e1 e2
      simp only at e1
      subst e1
      exact ⟨((a, b), tk) :: zs, rfl, rfl⟩
local macro_rules | `(tactic| walk_at "eval ListComp") => `(tactic| (k_here; refine stuckP ?_))
local macro_rules | `(tactic| walk_at "call ref") => `(tactic| (k_here; (with_reducible show wpAny _ _ (call (Value.ref 67) [_]) _ _ _); refine stuckP ?_))
theorem good_len {x : Str} (g : Good x) : x.length ≤ 3 := by
  obtain ⟨l, rfl, h, _⟩ := g
  show (l.toArray).size ≤ 3
  rw [List.size_toArray]; exact h
section
variable {w : World} {p : Program} {loose : List Str} {mean : ExcName → Option Value} {mg mb : Str → Option Value} {h₀ : Heap} {s : Shared} {L fa : Addr} {m : Str → Option Value} {E : Value → Shared → Prop} {Q : Flow → Shared → Prop} {v2 v3 : Option Value} {t41 t69 : Array Value}
theorem st3 {D : Addr} {xs : List (Str × Tok)} (X : (hd.heap_39 w.params).In h₀) (T : Top p loose mean mg mb h₀) (B : Below callerA h₀ [] h₀) (Y : LW h₀ s.heap L m (some (.ref D)) v2 v3 t41 t69)
    (hl : s.heap.IsList D (xs.map valOf).toArray) (hg : ∀ x ∈ xs, Good x.1) (hlen : xs.length ≤ 11)
    (h : ∀ h' tk (D2 : Addr) (zs : List ((Str × Tok) × Tok)), LW h₀ h' L m (some (.ref D)) (some (.ref D2)) v3 t41 t69 → KS (SL L) s.heap h' → h'.IsList D2 (zs.map longV).toArray → zs.map (·.1) = xs → D2 ∉ SL L → Q .next { s with heap := h', toks := tk }) :
    wpAny (model Pr w) (callerA.deeper (lawEnv L fa)) (exec (lawSt 3) (lawEnv L fa)) Q E s := by
  have e1 := scope_of rfl
  have e2 := asg_of (k := 3) (body_of rfl) rfl
  rw [lawEnv, e1, lawSt, e2]
  clear e1 e2
  have F := Y.F
  have N : News h₀ L s.heap [] := News.nil
  k_steps
  unfold StuckP
  refine wpAny_ListComp_free (fun _ => true) LongEl rfl (by decide) rfl (by decide) rfl ?_
  obtain ⟨o1, g1, d1⟩ := id Y.c1
  obtain ⟨oD, eD, rD⟩ := id hl
  refine wpAny_Name (wpAny_loadName_cell (c := L + 1) rfl rfl rfl ⟨o1, g1, d1⟩ (wpAny_pyIter_list hl ?_))
  refine ⟨_, _, _, _, _, _, rfl, Walks.list rfl _ D (Nat.ne_of_lt (Heap.lt_size eD)) (xs.map valOf).toArray, ?_, ⟨⟨_, Heap.get?_push_size _ rfl, rfl, rfl⟩, ⟨oD, Heap.get?_push_of_some _ eD, rD⟩⟩, ?_, ⟨?_, ?_⟩, ?_⟩
  · rw [List.size_toArray, List.length_map, sizeLine_eq]; omega
  · intro b hb
    show b < (Heap.push _ _).objs.size
    rw [Heap.size_push]
    simp only [List.mem_cons, List.not_mem_nil, or_false] at hb
    rcases hb with rfl | rfl
    · exact Nat.lt_succ_self _
    · exact Nat.lt_succ_of_lt (Heap.lt_size eD)
  · intro C i v s₃ m₃ E' hC hP hn hmv hk htk
    exact wpAny_tests_nil ⟨rfl, _, _, rfl, fun _ _ e => e⟩
  · rintro C i v s₃ m₃ E' hC hP - hn hmv hk htk
    have up : ∀ b o, s.heap.get? b = some o → s₃.heap.get? b = some o := fun b o e => hk b o (fun hb => Nat.ne_of_lt (Heap.lt_size e) (List.mem_singleton.mp hb)) (Heap.get?_push_of_some _ e)
    rw [List.getElem?_toArray, List.getElem?_map] at hP
    obtain ⟨x, hx, rfl⟩ := Option.map_eq_some_iff.mp hP
    have hxl := good_len (hg x (List.mem_of_getElem? hx))
    obtain ⟨x, u⟩ := x
    have F3 := F.kept up
    have N3 : News h₀ L s₃.heap [] := News.nil
    obtain ⟨oC, heC, hoC⟩ := LCg.ns_obj hn
    clear F N
    refine wpAny_mono (Q := EltPost LongEl _ s₃) ?_ (fun _ _ h => h) (fun _ _ h => h)
    simp only [valOf] at hmv ⊢
    k_steps
    unfold StuckP
    refine wpAny_call (codeAny_mono (long_at hxl rfl (Nat.le_of_ble_eq_true rfl) (Nat.le_of_ble_eq_true rfl) rfl (Cx.at X T B F3 rfl rfl rfl)) fun r s' z => ?_)
    obtain ⟨v, h4, tk4, q1, ⟨t', q2⟩, hk4, q3⟩ := z
    subst q1 q3 q2
    exact ⟨⟨_, _, _, rfl, rfl⟩, _, _, rfl, hk4⟩
  · intro D2 h' tk' ys vs hD' hlD hpl hlen' hP hF hk
    have e : vs.filter (fun _ => true) = vs := List.filter_eq_self.mpr fun _ _ => rfl
    rw [e] at hF
    have hvs : vs = xs.map valOf := by
      refine List.ext_getElem? fun j => ?_
      rcases Nat.lt_or_ge j vs.length with hj | hj
      · have e1 := hP j _ (List.getElem?_eq_getElem hj)
        rw [List.getElem?_toArray] at e1
        rw [e1, List.getElem?_eq_getElem hj]
      · rw [List.getElem?_eq_none hj, List.getElem?_eq_none (by rw [List.size_toArray] at hlen'; omega)]
    rw [hvs] at hF
    obtain ⟨zs, hz1, hz2⟩ := longs_of hF
    have up : ∀ b o, s.heap.get? b = some o → h'.get? b = some o := fun b o e => hk b o (fun hb => Nat.ne_of_lt (Heap.lt_size e) (List.mem_singleton.mp hb)) (Heap.get?_push_of_some _ e)
    have Y2 := Y.keeps up
    have offD : D2 ∉ SL L := off_of (Y.keeps fun b o e => Heap.get?_push_of_some _ e) hD'
    obtain ⟨o2, g2, d2⟩ := id Y2.c2
    refine wpAny_storeName_cell (c := L + 2) rfl rfl rfl ⟨o2, g2, d2⟩ fun h4 hc4 hs4 => ?_
    have Y4 := Y2.st2 hs4 hc4
    have k4 : KS (SL L) h' h4 := KS.but hs4.extBut (by simp [SL])
    refine h h4 _ D2 zs Y4 ((KS.of up).trans k4) ?_ hz1 offD
    obtain ⟨o, e, r1, n, r2⟩ := hlD
    exact ⟨o, k4 _ _ offD e, r1, n, by rw [r2, ← hz2]⟩
end
end Mine
end
section
open PySem PySem.W PyProof.Rows PySem.Calls
namespace Mine
theorem resetV5 {prog : Program} {w : World} {A : Around} {E : Value → Shared → Prop} {s : Shared} {b : Bool} : wpAny (model prog w) A (truthy (.bool b)) (fun _ _ => True) E s := by
  w_top off
  walk1
  all_goals trivial
end Mine
end
section
open PySem PySem.W PyProof.Rows PySem.Calls
set_option maxRecDepth 100000
set_option maxHeartbeats 8000000
namespace Mine
theorem fillV5 : PySem.Challenge.rw_ij0076_01 = PySem.Challenge.rw_ij0076_01 ∧ hd.heap_39 = hd.heap_39 := by
  k_fill
  exact ⟨rfl, rfl⟩
local macro_rules | `(tactic| walk_at "call type:range") => `(tactic| (k_here; refine stuckP ?_))
local macro_rules | `(tactic| walk_at "call type:zip") => `(tactic| (k_here; refine stuckP ?_))
local macro_rules | `(tactic| walk_at "eval Name") => `(tactic| (k_here; refine wpAny_Name (wpAny_loadName_cell rfl rfl rfl (by assumption) ?_)))
noncomputable abbrev pairV (q : (Str × Tok) × Tok) : Value × Value := (valOf q.1, longV q)
theorem LW.loce {h₀ h h' : Heap} {L : Addr} {m m' : Str → Option Value} {v1 v2 v3 : Option Value} {t41 t69 : Array Value} (X : LW h₀ h L m v1 v2 v3 t41 t69) (hs : ∀ b o, b ≠ L → h.get? b = some o → h'.get? b = some o) (hn : h'.Ns L m') : LW h₀ h' L m' v1 v2 v3 t41 t69 := by
  have n := X.not
  have ne : ∀ k, 0 < k → L + k ≠ L := fun k hk q => absurd (Nat.le_of_eq q) (Nat.not_le.mpr (Nat.lt_add_of_pos_right hk))
  have ck : ∀ {a : Addr} {v : Option Value}, a ≠ L → CellAt h a v → CellAt h' a v := fun {a v} hne ⟨o, e, d⟩ => ⟨o, hs _ _ hne e, d⟩
  exact ⟨⟨hn, fun b o e => hs b o (fun q => absurd (Nat.lt_of_lt_of_le (Heap.lt_size e) X.F.above) (by rw [q]; exact Nat.lt_irrefl _)) (X.F.keep b o e), X.F.above⟩, ck (ne 1 (by decide)) X.c1, ck (ne 2 (by decide)) X.c2, ck (ne 3 (by decide)) X.c3, hs _ _ n.1 X.g41, hs _ _ n.2.1 X.g69⟩
theorem zip_apart (n l1 l2 : Nat) (h1 : l1 < n) (h2 : l2 < n) : ZipApart (n + 4) (n + 2) (n + 3) n (n + 1) l1 l2 := by
  constructor <;> (refine (?_ : @Ne Nat _ _); omega)
theorem zip_start {prog : Program} {w : World} {A : Around} {E : Value → Shared → Prop} {s : Shared} {l1 l2 : Addr} {pairs : List (Value × Value)} (h1 : s.heap.IsList l1 (pairs.map (·.1)).toArray) (h2 : s.heap.IsList l2 (pairs.map (·.2)).toArray) {s₂ : Shared} (hs : ∃ tk, s = { s₂ with toks := tk }) :
    wpAny (model prog w) A (call (.type "zip") [.ref l1, .ref l2]) (fun x s₃ => ∃ z TI TO i1 i2, x = .ref z ∧ (∀ a ∈ [z, TI, TO, i1, i2], s₂.heap.get? a = none) ∧ ZipApart z TI TO i1 i2 l1 l2 ∧ zSt z TI TO i1 i2 l1 l2 pairs 0 s₃.heap ∧ PySem.Keeps s₂ s₃) E s := by
  obtain ⟨tk0, rfl⟩ := hs
  refine call_zip_2 h1 h2 fun h' z p1 p2 i1 i2 hz k => ?_
  obtain ⟨o1, e1, _⟩ := id h1
  obtain ⟨o2, e2, _⟩ := id h2
  have q1 := Heap.lt_size e1
  have q2 := Heap.lt_size e2
  refine ⟨_, _, _, _, _, rfl, fun a ha => Heap.get?_none_of_le ?_, ?_, ⟨z, p1, ⟨_, _, p2⟩, i1, i2, ?_, ?_⟩, h', _, rfl, k⟩
  · simp only [List.mem_cons, List.not_mem_nil, or_false] at ha
    rcases ha with rfl | rfl | rfl | rfl | rfl <;> simp
  · exact zip_apart _ _ _ q1 q2
  · obtain ⟨o, e, r⟩ := h1; exact ⟨o, k _ _ e, r⟩
  · obtain ⟨o, e, r⟩ := h2; exact ⟨o, k _ _ e, r⟩
noncomputable def up21 (k : Nat) (q : Value × Value) : Bool := match q.2 with | .int n _ => decide (n = (k : Int)) | _ => false
noncomputable def down21 (k : Nat) (q : Value × Value) : Bool := match q.2 with | .int n _ => decide (n = 20 - (k : Int)) | _ => false
section
variable {w : World} {p : Program} {loose : List Str} {mean : ExcName → Option Value} {mg mb : Str → Option Value} {h₀ : Heap} {s : Shared} {L fa : Addr} {m : Str → Option Value} {E : Value → Shared → Prop} {Q : Flow → Shared → Prop} {v3 : Option Value} {t41 t69 : Array Value}
theorem st4 {D D2 : Addr} {zs : List ((Str × Tok) × Tok)} (X : (hd.heap_39 w.params).In h₀) (T : Top p loose mean mg mb h₀) (B : Below callerA h₀ [] h₀) (Y : LW h₀ s.heap L m (some (.ref D)) (some (.ref D2)) v3 t41 t69)
    (hl : s.heap.IsList D ((zs.map pairV).map (·.1)).toArray) (hl2 : s.heap.IsList D2 ((zs.map pairV).map (·.2)).toArray) (hlen : zs.length ≤ 11)
    (h : ∀ h' tk (D3 : Addr), LW h₀ h' L (fun y => if y = "rising" then some (.ref D3) else m y) (some (.ref D)) (some (.ref D2)) v3 t41 t69 → KS (SL L) s.heap h' → h'.IsList D3 (outs (zs.map pairV) up21 21).toArray → D3 ∉ SL L → Q .next { s with heap := h', toks := tk }) :
    wpAny (model Pr w) (callerA.deeper (lawEnv L fa)) (exec (lawSt 4) (lawEnv L fa)) Q E s := by
  have e1 := scope_of rfl
  have e2 := asg_of (k := 4) (body_of rfl) rfl
  rw [lawEnv, e1, lawSt, e2]
  clear e1 e2
  have F := Y.F
  have N : News h₀ L s.heap [] := News.nil
  refine two_assign (p := up21) (pairs := zs.map pairV) (l1 := D) (l2 := D2) rfl rfl rfl (by decide) rfl (by decide) rfl rfl rfl rfl rfl Y.F.ns ?_ hl hl2 ?_ ?_ ?_ (fun _ => rfl) (fun _ _ => rfl) ?_
  · k_steps
    unfold StuckP
    exact call_range_1 ⟨_, _, _, _, rfl, Heap.get?_push_size _ rfl, _, _, rfl, fun b o e => Heap.get?_push_of_some _ e⟩
  · intro C k tk q s₂ m₂ E' hq hns hk hlong
    obtain ⟨z, hz, rfl⟩ := List.mem_map.mp hq
    refine wpAny_isTrue_Compare1 (wpAny_Name (wpAny_loadName_local rfl rfl hns hlong (wpAny_Name (wpAny_loadName_local rfl rfl hns hk (eq_int (wpAny_truthy_bool ⟨rfl, _, _, rfl, fun _ _ e => e⟩))))))
  · intro C s₂ E' kk
    have F2 := F.kept kk
    clear F N
    have N2 : News h₀ L s₂.heap [] := News.nil
    have hc1 : s₂.heap.IsCell (L + 1) (some (.ref D)) := let ⟨o, e, d⟩ := Y.c1; ⟨o, kk _ _ e, d⟩
    have hc2 : s₂.heap.IsCell (L + 2) (some (.ref D2)) := let ⟨o, e, d⟩ := Y.c2; ⟨o, kk _ _ e, d⟩
    k_steps
    unfold StuckP
    exact zip_start (isl_keep hl kk) (isl_keep hl2 kk) ⟨_, rfl⟩
  · rw [List.length_map, sizeLine_eq]; omega
  · intro D3 h' tk hl3 hD3 hn3 hk3
    have hs : KS (SL L) s.heap h' := fun b o hb e => hk3 b o (fun q => hb (by rw [show b = L from q]; simp [SL])) e
    exact h h' tk D3 (Y.loce hk3 hn3) hs hl3 (off_of Y hD3)
theorem st5 {D D2 : Addr} {zs : List ((Str × Tok) × Tok)} (X : (hd.heap_39 w.params).In h₀) (T : Top p loose mean mg mb h₀) (B : Below callerA h₀ [] h₀) (Y : LW h₀ s.heap L m (some (.ref D)) (some (.ref D2)) v3 t41 t69)
    (hl : s.heap.IsList D ((zs.map pairV).map (·.1)).toArray) (hl2 : s.heap.IsList D2 ((zs.map pairV).map (·.2)).toArray) (hlen : zs.length ≤ 11)
    (h : ∀ h' tk (D3 : Addr), LW h₀ h' L (fun y => if y = "falling" then some (.ref D3) else m y) (some (.ref D)) (some (.ref D2)) v3 t41 t69 → KS (SL L) s.heap h' → h'.IsList D3 (outs (zs.map pairV) down21 21).toArray → D3 ∉ SL L → Q .next { s with heap := h', toks := tk }) :
    wpAny (model Pr w) (callerA.deeper (lawEnv L fa)) (exec (lawSt 5) (lawEnv L fa)) Q E s := by
  have e1 := scope_of rfl
  have e2 := asg_of (k := 5) (body_of rfl) rfl
  rw [lawEnv, e1, lawSt, e2]
  clear e1 e2
  have F := Y.F
  have N : News h₀ L s.heap [] := News.nil
  refine two_assign (p := down21) (pairs := zs.map pairV) (l1 := D) (l2 := D2) rfl rfl rfl (by decide) rfl (by decide) rfl rfl rfl rfl rfl Y.F.ns ?_ hl hl2 ?_ ?_ ?_ (fun _ => rfl) (fun _ _ => rfl) ?_
  · k_steps
    unfold StuckP
    exact call_range_1 ⟨_, _, _, _, rfl, Heap.get?_push_size _ rfl, _, _, rfl, fun b o e => Heap.get?_push_of_some _ e⟩
  · intro C k tk q s₂ m₂ E' hq hns hk hlong
    obtain ⟨z, hz, rfl⟩ := List.mem_map.mp hq
    refine wpAny_isTrue_Compare1 (wpAny_Name (wpAny_loadName_local rfl rfl hns hlong (wpAny_BinOp (wpAny_Constant_int (wpAny_Name (wpAny_loadName_local rfl rfl hns hk (sub_int (eq_int (wpAny_truthy_bool ⟨rfl, _, _, rfl, fun _ _ e => e⟩)))))))))
  · intro C s₂ E' kk
    have F2 := F.kept kk
    clear F N
    have N2 : News h₀ L s₂.heap [] := News.nil
    have hc1 : s₂.heap.IsCell (L + 1) (some (.ref D)) := let ⟨o, e, d⟩ := Y.c1; ⟨o, kk _ _ e, d⟩
    have hc2 : s₂.heap.IsCell (L + 2) (some (.ref D2)) := let ⟨o, e, d⟩ := Y.c2; ⟨o, kk _ _ e, d⟩
    k_steps
    unfold StuckP
    exact zip_start (isl_keep hl kk) (isl_keep hl2 kk) ⟨_, rfl⟩
  · rw [List.length_map, sizeLine_eq]; omega
  · intro D3 h' tk hl3 hD3 hn3 hk3
    have hs : KS (SL L) s.heap h' := fun b o hb e => hk3 b o (fun q => hb (by rw [show b = L from q]; simp [SL])) e
    exact h h' tk D3 (Y.loce hk3 hn3) hs hl3 (off_of Y hD3)
end
end Mine
end
section
open PySem
set_option maxRecDepth 100000
set_option maxHeartbeats 2000000
namespace Mine
/-- the indices, key by key -/
noncomputable def byKey (key : Nat → Int) (val : Nat → Int) (n B : Nat) : List Nat := (List.range B).flatMap fun k => (List.range n).filter fun i => decide (key i = val k)
theorem R.irrefl (key : Nat → Int) (a : Nat) : ¬ R key a a := by unfold R; omega
theorem byKey_sorted (key : Nat → Int) (val : Nat → Int) (n : Nat) (hv : ∀ a b, a < b → val a < val b) : ∀ B, (byKey key val n B).Pairwise (R key) ∧ ∀ i ∈ byKey key val n B, ∃ k, k < B ∧ key i = val k := by
  intro B
  induction B with
  | zero => simp [byKey]
  | succ B ih =>
    have e : byKey key val n (B + 1) = byKey key val n B ++ (List.range n).filter fun i => decide (key i = val B) := by
      unfold byKey; rw [List.range_succ, List.flatMap_append]; simp
    rw [e]
    refine ⟨List.pairwise_append.mpr ⟨ih.1, ?_, fun a ha b hb => ?_⟩, fun i hi => ?_⟩
    · refine List.Pairwise.imp_of_mem (R := (· < ·)) ?_ (List.Pairwise.filter _ List.pairwise_lt_range)
      intro a b ha hb hlt
      have h1 := (List.mem_filter.mp ha).2
      have h2 := (List.mem_filter.mp hb).2
      simp only [decide_eq_true_eq] at h1 h2
      exact .inr ⟨h1.trans h2.symm, hlt⟩
    · obtain ⟨k, hk, hk2⟩ := ih.2 a ha
      have h2 := (List.mem_filter.mp hb).2
      simp only [decide_eq_true_eq] at h2
      exact .inl (by rw [hk2, h2]; exact hv _ _ hk)
    · rcases List.mem_append.mp hi with hi | hi
      · obtain ⟨k, hk, hk2⟩ := ih.2 i hi
        exact ⟨k, Nat.lt_succ_of_lt hk, hk2⟩
      · have h2 := (List.mem_filter.mp hi).2
        simp only [decide_eq_true_eq] at h2
        exact ⟨B, Nat.lt_succ_self _, h2⟩
theorem byKey_mem (key : Nat → Int) (val : Nat → Int) (n B : Nat) (hc : ∀ i, i < n → ∃ k, k < B ∧ key i = val k) (i : Nat) : i ∈ byKey key val n B ↔ i < n := by
  unfold byKey
  simp only [List.mem_flatMap, List.mem_range, List.mem_filter, decide_eq_true_eq]
  constructor
  · rintro ⟨_, _, h, _⟩; exact h
  · intro h
    obtain ⟨k, hk, e⟩ := hc i h
    exact ⟨k, hk, h, e⟩
theorem nodup_of_R {key : Nat → Int} {l : List Nat} (h : l.Pairwise (R key)) : l.Nodup := by
  refine List.Pairwise.imp ?_ h
  intro a b hab q
  subst q
  exact R.irrefl key a hab
theorem sort_eq {key val : Nat → Int} {n B : Nat} {p : Array Nat} (hs : St n n p) (hS : S key p n) (hv : ∀ a b, a < b → val a < val b) (hc : ∀ i, i < n → ∃ k, k < B ∧ key i = val k) : p.toList = byKey key val n B := by
  have h1 : p.toList.Pairwise (R key) := by
    rw [List.pairwise_iff_getElem]
    intro i j hi hj hij
    have hz := hs.sz
    have hj' : j < n := by rw [← hz]; simpa using hj
    have z := hS i j hij hj'
    have e1 : g p i = p.toList[i] := by simp [g, Array.getD, show i < p.size by omega]
    have e2 : g p j = p.toList[j] := by simp [g, Array.getD, show j < p.size by omega]
    rw [e1, e2] at z
    exact z
  have h2 := (byKey_sorted key val n hv B).1
  have hp : p.toList.Perm (byKey key val n B) := by
    refine (List.perm_ext_iff_of_nodup (nodup_of_R h1) (nodup_of_R h2)).mpr fun a => ?_
    rw [byKey_mem key val n B hc, hs.pm.mem_iff, List.mem_range]
  refine List.Perm.eq_of_pairwise ?_ h1 h2 hp
  intro a b _ _ x y
  exact absurd (R.trans key x y) (R.irrefl key a)
end Mine
end
section
open PySem PySem.W PyProof.Rows
set_option maxRecDepth 100000
set_option maxHeartbeats 2000000
namespace Mine
theorem range_getD {α : Type} (l : List α) (d : α) : (List.range l.length).map (fun i => l.getD i d) = l := by
  refine List.ext_getElem? fun i => ?_
  rw [List.getElem?_map]
  rcases Nat.lt_or_ge i l.length with h | h
  · rw [List.getElem?_range h, Option.map_some, List.getD_eq_getElem?_getD, List.getElem?_eq_getElem h]; rfl
  · rw [List.getElem?_eq_none (by simpa using h), List.getElem?_eq_none h]; rfl
theorem outs_eq {pairs : List (Value × Value)} {p : Nat → Value × Value → Bool} {key val : Nat → Int} {N : Nat} (hp : ∀ i q k, pairs[i]? = some q → p k q = decide (key i = val k)) :
    outs pairs p N = (byKey key val pairs.length N).map fun i => (pairs.map (·.1)).getD i .none := by
  unfold outs byKey
  rw [List.map_flatMap]
  refine congrArg (List.flatMap · (List.range N)) (funext fun k => ?_)
  have e := range_getD pairs (.none, .none)
  have e2 : pairs.filter (p k) = ((List.range pairs.length).map fun i => pairs.getD i (.none, .none)).filter (p k) := by rw [e]
  rw [e2, List.filter_map, List.map_map]
  have ef : (List.range pairs.length).filter (p k ∘ fun i => pairs.getD i (.none, .none)) = (List.range pairs.length).filter fun i => decide (key i = val k) := by
    refine List.filter_congr fun i hi => ?_
    have hi2 := List.mem_range.mp hi
    show p k (pairs.getD i (.none, .none)) = _
    rw [List.getD_eq_getElem?_getD, List.getElem?_eq_getElem hi2]
    exact hp i _ k (List.getElem?_eq_getElem hi2)
  rw [ef]
  refine List.map_congr_left fun i hi => ?_
  show (pairs.getD i (.none, .none)).1 = _
  rw [List.getD_eq_getElem?_getD, List.getD_eq_getElem?_getD, List.getElem?_map]
  cases pairs[i]? <;> rfl
/-- the texts of a law's run, their lengths as the writing has them -/
structure TextsOk (zs : List ((Str × Tok) × Tok)) : Prop where
  good : ∀ z ∈ zs, Good z.1.1
  two : 5 ≤ zs.length
  le : zs.length ≤ 11
noncomputable def qAt (zs : List ((Str × Tok) × Tok)) (i : Nat) : Int := ((zs[i]?.map fun z => qlen z.1.1).getD 0)
theorem qAt_some {zs : List ((Str × Tok) × Tok)} {i : Nat} {z : (Str × Tok) × Tok} (h : zs[i]? = some z) : qAt zs i = qlen z.1.1 := by unfold qAt; rw [h]; rfl
theorem rising_eq {zs : List ((Str × Tok) × Tok)} {p : Array Nat} (hq : ∀ z ∈ zs, qlen z.1.1 = longOf z.1.1) (hb : ∀ z ∈ zs, 0 ≤ longOf z.1.1 ∧ longOf z.1.1 ≤ 20) (hs : St zs.length zs.length p) (hS : S (qAt zs) p zs.length) :
    p.toList.map (fun i => ((zs.map (·.1)).map valOf).getD i .none) = outs (zs.map pairV) up21 21 := by
  have e1 : p.toList = byKey (qAt zs) (fun k => (k : Int)) zs.length 21 := by
    refine sort_eq hs hS (fun a b h => Int.ofNat_lt.mpr h) fun i hi => ?_
    have hz := List.getElem?_eq_getElem hi
    have hm := List.getElem_mem hi
    have b := hb _ hm
    refine ⟨(longOf zs[i].1.1).toNat, by omega, ?_⟩
    rw [qAt_some hz, hq _ hm]; omega
  rw [e1, outs_eq (key := qAt zs) (val := fun k => (k : Int)) (fun i q k h => ?_)]
  · rw [List.length_map, List.map_map, List.map_map]; rfl
  · rw [List.getElem?_map] at h
    obtain ⟨z, hz, rfl⟩ := Option.map_eq_some_iff.mp h
    rw [qAt_some hz, hq _ (List.mem_of_getElem? hz)]; rfl
theorem falling_eq {zs : List ((Str × Tok) × Tok)} {p : Array Nat} (hq : ∀ z ∈ zs, qlen z.1.1 = longOf z.1.1) (hb : ∀ z ∈ zs, 0 ≤ longOf z.1.1 ∧ longOf z.1.1 ≤ 20) (hs : St zs.length zs.length p) (hS : S (fun i => - qAt zs i) p zs.length) :
    p.toList.map (fun i => ((zs.map (·.1)).map valOf).getD i .none) = outs (zs.map pairV) down21 21 := by
  have e1 : p.toList = byKey (fun i => - qAt zs i) (fun k => (k : Int) - 20) zs.length 21 := by
    refine sort_eq hs hS (fun a b h => by have := Int.ofNat_lt.mpr h; show (a : Int) - 20 < (b : Int) - 20; omega) fun i hi => ?_
    have hz := List.getElem?_eq_getElem hi
    have hm := List.getElem_mem hi
    have b := hb _ hm
    refine ⟨(20 - longOf zs[i].1.1).toNat, by omega, ?_⟩
    show - qAt zs i = _
    rw [qAt_some hz, hq _ hm]; omega
  rw [e1, outs_eq (key := fun i => - qAt zs i) (val := fun k => (k : Int) - 20) (fun i q k h => ?_)]
  · rw [List.length_map, List.map_map, List.map_map]; rfl
  · rw [List.getElem?_map] at h
    obtain ⟨z, hz, rfl⟩ := Option.map_eq_some_iff.mp h
    show decide (longOf z.1.1 = 20 - (k : Int)) = decide (- qAt zs i = _)
    rw [qAt_some hz, hq _ (List.mem_of_getElem? hz)]
    exact decide_eq_decide.mpr (by omega)
end Mine
end
section
open PySem PySem.W PyProof.Rows
set_option maxRecDepth 100000
namespace Mine
noncomputable def signs : List Nat := [38, 60, 62, 34, 39, 10, 9, 97, 98]
noncomputable def inner (l : List Nat) : List Nat := subs 9 [38, 35, 57, 59] (subs 13 [38, 35, 49, 51, 59] (subs 10 [38, 35, 49, 48, 59] (subs 60 [38, 108, 116, 59] (subs 62 [38, 103, 116, 59] (subs 38 [38, 97, 109, 112, 59] l)))))
theorem rep_list {x y z : Str} {c : Nat} {l m : List Nat} (hx : x.cps.toList = l) (hy : y = ⟨#[c]⟩) (hz : z.cps.toList = m) : (Txt.replace x y z).cps.toList = subs c m l := by
  subst hx hy hz; exact replace_subs _ _ _
theorem inner_eq (l : List Nat) : rep3 (escd ⟨l.toArray⟩) = ⟨(inner l).toArray⟩ := by
  have h : (rep3 (escd ⟨l.toArray⟩)).cps.toList = inner l := by
    unfold rep3 rep2 rep1 escd inner
    exact rep_list (rep_list (rep_list (rep_list (rep_list (rep_list (by simp) rfl rfl) rfl rfl) rfl rfl) rfl rfl) rfl rfl) rfl rfl
  rw [← h]
/-- the list written out before it is used: the kernel would else work it out anew at each look -/
noncomputable def force : List Nat → (List Nat → Bool) → Bool
  | [], k => k []
  | a :: t, k => force t fun t' => k (a :: t')
theorem force_eq : ∀ (l : List Nat) (k : List Nat → Bool), force l k = k l
  | [], _ => rfl
  | a :: t, k => by unfold force; rw [force_eq t]
noncomputable def endL (m : List Nat) : Nat := (if 34 ∈ m then if 39 ∈ m then (subs 34 [38, 113, 117, 111, 116, 59] m).length else m.length else m.length) + 2
theorem ended_len (m : List Nat) : (ended ⟨m.toArray⟩).length = endL m := by
  have q : Str.ofString "\"" = ⟨#[34]⟩ := by decide +kernel
  have q' : Str.ofString "'" = ⟨#[39]⟩ := by decide +kernel
  have qq : (Str.ofString "&quot;").cps.toList = [38, 113, 117, 111, 116, 59] := by decide +kernel
  have hm : (⟨m.toArray⟩ : Str).cps.toList = m := by simp
  have hl : (⟨m.toArray⟩ : Str).length = m.length := by rw [len_toList, hm]
  unfold ended free endL
  rw [q, q', empty_one, empty_one, hm]
  by_cases h1 : 34 ∈ m
  · by_cases h2 : 39 ∈ m
    · rw [if_neg (by simp [h1]), if_neg (by simp [h2]), if_pos h1, if_pos h2, app_len, app_len, len_toList (Txt.replace _ _ _), replace_subs, qq, hm]
      show 1 + _ + 1 = _
      omega
    · rw [if_neg (by simp [h1]), if_pos (by simp [h2]), if_pos h1, if_neg h2, app_len, app_len, hl]
      show 1 + _ + 1 = _
      omega
  · rw [if_pos (by simp [h1]), if_neg h1, app_len, app_len, hl]
    show 1 + _ + 1 = _
    omega
noncomputable def okT (l : List Nat) : Bool := match longOf ⟨l.toArray⟩ with
  | .ofNat k => force (inner l) fun m => Nat.beq (endL m) k && (Nat.ble 2 k && Nat.ble k 20)
  | _ => false
theorem okT0 : okT [] = true := by decide +kernel
theorem okT1 : (signs.all fun a => okT [a]) = true := by decide +kernel
theorem okT2 : (signs.all fun a => signs.all fun b => okT [a, b]) = true := by decide +kernel
theorem okT3 (a : Nat) (ha : a ∈ signs) : (signs.all fun b => signs.all fun c => okT [a, b, c]) = true := by
  simp only [signs, List.mem_cons, List.not_mem_nil, or_false] at ha
  rcases ha with rfl | rfl | rfl | rfl | rfl | rfl | rfl | rfl | rfl <;> decide +kernel
theorem sign_mem {c : Nat} (h : isSign c) : c ∈ signs := by
  unfold isSign at h; unfold signs
  simp only [List.mem_cons, List.not_mem_nil, or_false]
  omega
theorem good_ok {x : Str} (g : Good x) : qlen x = longOf x ∧ 2 ≤ longOf x ∧ longOf x ≤ 20 := by
  obtain ⟨l, rfl, hl, hs⟩ := g
  have key : okT l = true := by
    match l, hl, hs with
    | [], _, _ => exact okT0
    | [a], _, hs => exact List.all_eq_true.mp okT1 a (sign_mem (hs a (by simp)))
    | [a, b], _, hs => exact List.all_eq_true.mp (List.all_eq_true.mp okT2 a (sign_mem (hs a (by simp)))) b (sign_mem (hs b (by simp)))
    | [a, b, c], _, hs => exact List.all_eq_true.mp (List.all_eq_true.mp (okT3 a (sign_mem (hs a (by simp)))) b (sign_mem (hs b (by simp)))) c (sign_mem (hs c (by simp)))
    | a :: b :: c :: d :: r, hl, _ => simp at hl
  unfold okT at key
  split at key
  · rename_i k ek
    rw [force_eq] at key
    simp only [Bool.and_eq_true, Nat.ble_eq] at key
    rw [ek]
    refine ⟨?_, Int.ofNat_le.mpr key.2.1, Int.ofNat_le.mpr key.2.2⟩
    unfold qlen quoted
    rw [inner_eq, ended_len, Nat.eq_of_beq_eq_true key.1]; rfl
  · cases key
end Mine
end
section
open PySem PySem.W PyProof.Rows
set_option maxRecDepth 100000
set_option maxHeartbeats 2000000
namespace Mine
noncomputable abbrev fK (y x : Str) : Int := qlen y - qlen x
theorem first_max (ts : List Str) : ∀ (rest : List Str) (pre mid : List Str) (t : Str), ts = pre ++ t :: (mid ++ rest) → (∀ u ∈ pre, qlen u < qlen t) → (∀ u ∈ mid, qlen u ≤ qlen t) →
    ∃ pre' post', ts = pre' ++ (rest.foldl (pick3 fK) t) :: post' ∧ (∀ u ∈ pre', qlen u < qlen (rest.foldl (pick3 fK) t)) ∧ (∀ u ∈ post', qlen u ≤ qlen (rest.foldl (pick3 fK) t))
  | [], pre, mid, t, e, h1, h2 => ⟨pre, mid, by rw [e]; simp, h1, h2⟩
  | x :: rest, pre, mid, t, e, h1, h2 => by
    show ∃ pre' post', ts = pre' ++ (rest.foldl (pick3 fK) (pick3 fK t x)) :: post' ∧ (∀ u ∈ pre', qlen u < qlen (rest.foldl (pick3 fK) (pick3 fK t x))) ∧ (∀ u ∈ post', qlen u ≤ qlen (rest.foldl (pick3 fK) (pick3 fK t x)))
    by_cases h : qlen t - qlen x < 0
    · rw [show pick3 fK t x = x from if_pos h]
      refine first_max ts rest (pre ++ t :: mid) [] x (by rw [e]; simp) (fun u hu => ?_) (fun u hu => nomatch hu)
      rcases List.mem_append.mp hu with hu | hu
      · have := h1 u hu; omega
      · rcases List.mem_cons.mp hu with rfl | hu
        · omega
        · have := h2 u hu; omega
    · rw [show pick3 fK t x = t from if_neg h]
      refine first_max ts rest pre (mid ++ [x]) t (by rw [e]; simp) h1 (fun u hu => ?_)
      rcases List.mem_append.mp hu with hu | hu
      · exact h2 u hu
      · rw [List.mem_singleton.mp hu]; omega
theorem last_min (ts : List Str) : ∀ (rest : List Str) (pre mid : List Str) (t : Str), ts = pre ++ t :: (mid ++ rest) → (∀ u ∈ pre, qlen t ≤ qlen u) → (∀ u ∈ mid, qlen t < qlen u) →
    ∃ pre' post', ts = pre' ++ (rest.foldl (pick4 fK) t) :: post' ∧ (∀ u ∈ pre', qlen (rest.foldl (pick4 fK) t) ≤ qlen u) ∧ (∀ u ∈ post', qlen (rest.foldl (pick4 fK) t) < qlen u)
  | [], pre, mid, t, e, h1, h2 => ⟨pre, mid, by rw [e]; simp, h1, h2⟩
  | x :: rest, pre, mid, t, e, h1, h2 => by
    show ∃ pre' post', ts = pre' ++ (rest.foldl (pick4 fK) (pick4 fK t x)) :: post' ∧ (∀ u ∈ pre', qlen (rest.foldl (pick4 fK) (pick4 fK t x)) ≤ qlen u) ∧ (∀ u ∈ post', qlen (rest.foldl (pick4 fK) (pick4 fK t x)) < qlen u)
    by_cases h : qlen t - qlen x < 0
    · rw [show pick4 fK t x = t from if_pos h]
      refine last_min ts rest pre (mid ++ [x]) t (by rw [e]; simp) h1 (fun u hu => ?_)
      rcases List.mem_append.mp hu with hu | hu
      · exact h2 u hu
      · rw [List.mem_singleton.mp hu]; omega
    · rw [show pick4 fK t x = x from if_neg h]
      refine last_min ts rest (pre ++ t :: mid) [] x (by rw [e]; simp) (fun u hu => ?_) (fun u hu => nomatch hu)
      rcases List.mem_append.mp hu with hu | hu
      · have := h1 u hu; omega
      · rcases List.mem_cons.mp hu with rfl | hu
        · omega
        · have := h2 u hu; omega
theorem foldTo_map (φ : Str → Str → Str) : ∀ (xs : List (Str × Tok)) (y : Str), foldTo φ y xs = (xs.map (·.1)).foldl φ y
  | [], _ => rfl
  | _ :: r, y => foldTo_map φ r (φ y _)
theorem join_len : ∀ (xs : List (Str × Tok)) (y : Str), ((foldTo join5 y xs).length : Int) = (y.length : Int) + (xs.map fun x => qlen x.1).sum
  | [], y => by simp [foldTo]
  | x :: r, y => by
    have ih := join_len r (join5 y x.1)
    show ((foldTo join5 (join5 y x.1) r).length : Int) = _
    rw [ih]
    unfold join5
    rw [app_len, List.map_cons, List.sum_cons]
    unfold qlen
    omega
theorem head_of {key val : Nat → Int} {n B i : Nat} (hv : ∀ a b, a < b → val a < val b) (hc : ∀ i, i < n → ∃ k, k < B ∧ key i = val k) (hi : i < n) (h : ∀ j, j < n → j ≠ i → R key i j) : ∃ r, byKey key val n B = i :: r := by
  have hm := (byKey_mem key val n B hc i).mpr hi
  have hs := (byKey_sorted key val n hv B).1
  cases e : byKey key val n B with
  | nil => rw [e] at hm; cases hm
  | cons a r =>
    by_cases q : a = i
    · exact ⟨r, by rw [q]⟩
    · rw [e] at hm hs
      have hr : i ∈ r := by
        rcases List.mem_cons.mp hm with z | z
        · exact absurd z.symm q
        · exact z
      have h1 : R key a i := (List.pairwise_cons.mp hs).1 i hr
      have ha : a < n := (byKey_mem key val n B hc a).mp (by rw [e]; simp)
      exact absurd (R.trans key h1 (h a ha q)) (R.irrefl key a)
end Mine
end
section
open PySem PySem.W PyProof.Rows
set_option maxRecDepth 100000
set_option maxHeartbeats 2000000
namespace Mine
theorem drop_foldTo {φ : Str → Str → Str} {xs : List (Str × Tok)} {x0 : Str × Tok} (h : xs[0]? = some x0) : ∃ rest, xs.map (·.1) = x0.1 :: rest ∧ foldTo φ x0.1 (xs.drop 1) = rest.foldl φ x0.1 := by
  cases xs with
  | nil => simp at h
  | cons x r =>
    simp only [List.getElem?_cons_zero, Option.some.injEq] at h
    subst h
    exact ⟨r.map (·.1), rfl, by rw [foldTo_map]; rfl⟩
theorem split_zs {zs : List ((Str × Tok) × Tok)} {pre post : List Str} {r : Str} (h : zs.map (·.1.1) = pre ++ r :: post) : ∃ a z b, zs = a ++ z :: b ∧ a.map (·.1.1) = pre ∧ z.1.1 = r ∧ b.map (·.1.1) = post := by
  obtain ⟨a, c, rfl, h1, h2⟩ := List.map_eq_append_iff.mp h
  obtain ⟨z, b, rfl, h3, h4⟩ := List.map_eq_cons_iff.mp h2
  exact ⟨a, z, b, rfl, h1, h3, h4⟩
section
variable {zs : List ((Str × Tok) × Tok)} {x0 : Str × Tok} (hg : ∀ z ∈ zs, Good z.1.1) (h0 : (zs.map (·.1))[0]? = some x0)
include hg h0
theorem longest_eq : ∃ z r, outs (zs.map pairV) down21 21 = valOf z :: r ∧ foldTo (pick3 fK) x0.1 ((zs.map (·.1)).drop 1) = z.1 := by
  obtain ⟨rest, e1, e2⟩ := drop_foldTo (φ := pick3 fK) h0
  rw [List.map_map] at e1
  obtain ⟨pre, post, hs, hp, hq⟩ := first_max (zs.map (·.1.1)) rest [] [] x0.1 (by rw [show zs.map (·.1.1) = zs.map ((·.1) ∘ (·.1)) from rfl, e1]; rfl) (fun u hu => nomatch hu) (fun u hu => nomatch hu)
  obtain ⟨a, z, b, hz, ha, hr, hb⟩ := split_zs hs
  rw [← hr] at hp hq
  have hlen : a.length < zs.length := by rw [hz]; simp
  have gz : zs[a.length]? = some z := by rw [hz]; simp
  have hq0 : ∀ z ∈ zs, qlen z.1.1 = longOf z.1.1 := fun z h => (good_ok (hg z h)).1
  have bd : ∀ z ∈ zs, 0 ≤ longOf z.1.1 ∧ longOf z.1.1 ≤ 20 := fun z h => ⟨by have := (good_ok (hg z h)).2.1; omega, (good_ok (hg z h)).2.2⟩
  have hd : ∃ r, byKey (fun i => - qAt zs i) (fun k => (k : Int) - 20) zs.length 21 = a.length :: r := by
    refine head_of (fun a b h => by have := Int.ofNat_lt.mpr h; show (a : Int) - 20 < (b : Int) - 20; omega) (fun i hi => ?_) hlen fun j hj hne => ?_
    · have hm := List.getElem_mem hi
      have b2 := bd _ hm
      refine ⟨(20 - longOf zs[i].1.1).toNat, by omega, ?_⟩
      show - qAt zs i = _
      rw [qAt_some (List.getElem?_eq_getElem hi), hq0 _ hm]; omega
    · show R (fun i => - qAt zs i) a.length j
      show (- qAt zs a.length < - qAt zs j ∨ (- qAt zs a.length = - qAt zs j ∧ a.length < j))
      obtain ⟨u, hu⟩ : ∃ u, zs[j]? = some u := ⟨_, List.getElem?_eq_getElem hj⟩
      rw [qAt_some gz, qAt_some hu]
      rcases Nat.lt_or_ge j a.length with hja | hja
      · have : u ∈ a := by
          rw [hz, List.getElem?_append_left hja] at hu
          exact List.mem_of_getElem? hu
        have := hp u.1.1 (by rw [← ha]; exact List.mem_map_of_mem this)
        left; omega
      · have : u ∈ b := by
          rw [hz, List.getElem?_append_right hja] at hu
          have e : j - a.length = (j - a.length - 1) + 1 := by omega
          rw [e, List.getElem?_cons_succ] at hu
          exact List.mem_of_getElem? hu
        have := hq u.1.1 (by rw [← hb]; exact List.mem_map_of_mem this)
        by_cases h : qlen u.1.1 = qlen z.1.1
        · right; exact ⟨by omega, by omega⟩
        · left; omega
  obtain ⟨r, hd⟩ := hd
  refine ⟨z.1, r.map fun i => ((zs.map pairV).map (·.1)).getD i .none, ?_, by rw [e2, hr]⟩
  rw [outs_eq (key := fun i => - qAt zs i) (val := fun k => (k : Int) - 20) (fun i q k h => ?_), List.length_map, hd, List.map_cons]
  · congr 1
    rw [List.getD_eq_getElem?_getD, List.map_map, List.getElem?_map, gz]; rfl
  · rw [List.getElem?_map] at h
    obtain ⟨u, hu, rfl⟩ := Option.map_eq_some_iff.mp h
    show decide (longOf u.1.1 = 20 - (k : Int)) = decide (- qAt zs i = _)
    rw [qAt_some hu, hq0 _ (List.mem_of_getElem? hu)]
    exact decide_eq_decide.mpr (by omega)
theorem shortest_eq : ∃ z ∈ zs, foldTo (pick4 fK) x0.1 ((zs.map (·.1)).drop 1) = z.1.1 ∧ (∀ u ∈ zs, longOf z.1.1 ≤ longOf u.1.1) ∧ ∃ l, zs.filter (fun u => decide (longOf u.1.1 = longOf z.1.1)) = l ++ [z] := by
  obtain ⟨rest, e1, e2⟩ := drop_foldTo (φ := pick4 fK) h0
  rw [List.map_map] at e1
  obtain ⟨pre, post, hs, hp, hq⟩ := last_min (zs.map (·.1.1)) rest [] [] x0.1 (by rw [show zs.map (·.1.1) = zs.map ((·.1) ∘ (·.1)) from rfl, e1]; rfl) (fun u hu => nomatch hu) (fun u hu => nomatch hu)
  obtain ⟨a, z, b, hz, ha, hr, hb⟩ := split_zs hs
  rw [← hr] at hp hq
  have hq0 : ∀ z ∈ zs, qlen z.1.1 = longOf z.1.1 := fun z h => (good_ok (hg z h)).1
  have hzm : z ∈ zs := by rw [hz]; simp
  have la : ∀ u ∈ a, longOf z.1.1 ≤ longOf u.1.1 := fun u hu => by
    have := hp u.1.1 (by rw [← ha]; exact List.mem_map_of_mem hu)
    rw [hq0 z hzm, hq0 u (by rw [hz]; simp [hu])] at this; exact this
  have lb : ∀ u ∈ b, longOf z.1.1 < longOf u.1.1 := fun u hu => by
    have := hq u.1.1 (by rw [← hb]; exact List.mem_map_of_mem hu)
    rw [hq0 z hzm, hq0 u (by rw [hz]; simp [hu])] at this; exact this
  refine ⟨z, hzm, by rw [e2, hr], fun u hu => ?_, a.filter (fun u => decide (longOf u.1.1 = longOf z.1.1)), ?_⟩
  · rw [hz] at hu
    rcases List.mem_append.mp hu with hu | hu
    · exact la u hu
    · rcases List.mem_cons.mp hu with rfl | hu
      · exact Int.le_refl _
      · exact Int.le_of_lt (lb u hu)
  · have hbn : b.filter (fun u => decide (longOf u.1.1 = longOf z.1.1)) = [] := List.filter_eq_nil_iff.mpr fun u hu => by
      have := lb u hu
      simp only [decide_eq_true_eq]; omega
    rw [hz, List.filter_append, List.filter_cons_of_pos (by simp), hbn]
theorem total_eq : ((foldTo join5 Str.empty (zs.map (·.1))).length : Int) = (zs.map fun z => longOf z.1.1).sum := by
  rw [join_len, List.map_map]
  have : (Str.empty).length = 0 := rfl
  rw [this]
  simp only [Int.natCast_zero, Int.zero_add] 
  refine congrArg List.sum (List.map_congr_left fun z hz => ?_)
  exact (good_ok (hg z hz)).1
end
end Mine
end
section
open PySem PySem.W PyProof.Rows PySem.Calls
set_option maxRecDepth 100000
set_option maxHeartbeats 8000000
namespace Mine
theorem fillV6 : PySem.Challenge.rw_ij0076_01 = PySem.Challenge.rw_ij0076_01 ∧ hd.heap_39 = hd.heap_39 := by
  k_fill
  exact ⟨rfl, rfl⟩
theorem tx_canLay : ∀ xs : List (Str × Tok), (∀ x ∈ xs, PyData.strOk x.1 = true) → PyData.canLayAll0 (xs.map fun x => PyData.str x.1) = true
  | [], _ => rfl
  | x :: r, h => by simp [PyData.canLayAll0, PyData.canLay0, tx_canLay r fun y hy => h y (.tail _ hy), h x (.head _)]
theorem good_strOk {x : Str} (g : Good x) : PyData.strOk x = true := by
  obtain ⟨l, rfl, _, h⟩ := g
  unfold PyData.strOk
  rw [Array.all_eq_true']
  intro c hc
  have := h c (by simpa using hc)
  unfold isSign at this
  exact decide_eq_true (by omega)
theorem tx_depth : ∀ xs : List (Str × Tok), PyData.depthAll (xs.map fun x => PyData.str x.1) = 0
  | [] => rfl
  | _ :: r => by simp [PyData.depthAll, PyData.depth, tx_depth r]
theorem tx_shaped (xs : List (Str × Tok)) (h : ∀ x ∈ xs, PyData.strOk x.1 = true) : SeqAt.shaped (.list (xs.map fun x => PyData.str x.1)) = true := by
  simp [SeqAt.shaped, PyData.canLay0, PyData.depth, tx_canLay xs h, tx_depth]
theorem tx_same : ∀ xs : List (Str × Tok), PySem.Spec.sameAll (xs.map fun x => PyData.str x.1) (xs.map fun x => PyData.str x.1) = true
  | [] => by simp [PySem.Spec.sameAll]
  | _ :: r => by simp [PySem.Spec.sameAll, PySem.Spec.same, tx_same r]
theorem tx_carried : ∀ xs : List (Str × Tok), CarriedAll (xs.map valOf) (xs.map fun x => PyData.str x.1)
  | [] => .nil
  | x :: r => .cons (.str _ _) (tx_carried r)
section
variable {prog : Program} {w : World} {A : Around} {E : Value → Shared → Prop} {s : Shared} {a b : Addr} {xs : List (Str × Tok)} {Q : Value → Shared → Prop}
theorem ne_texts (ha : s.heap.IsList a (xs.map valOf).toArray) (hb : s.heap.IsList b (xs.map valOf).toArray) (hg : ∀ x ∈ xs, PyData.strOk x.1 = true) (hu : A.units + 64 < cLine) (h : Q (.bool false) s) :
    wpAny (model prog w) A (compareOp .NotEq (.ref a) (.ref b)) Q E s :=
  ne_dataH_same (reads_newData ha (tx_carried xs)) (reads_newData hb (tx_carried xs)) (tx_shaped _ hg) (tx_shaped _ hg) hu (SeqAt.noMix_of_shape (.list .str) rfl _ _ (list_map_has fun _ => rfl) (list_map_has fun _ => rfl)) (by
    have e : PySem.Spec.same (.list (xs.map fun x => PyData.str x.1)) (.list (xs.map fun x => PyData.str x.1)) = true := by simp only [PySem.Spec.same]; exact tx_same xs
    rw [e]; exact h)
end
end Mine
end
section
open PySem PySem.W PyProof.Rows PySem.Calls
namespace Mine
theorem resetV7 {prog : Program} {w : World} {A : Around} {E : Value → Shared → Prop} {s : Shared} {b : Bool} : wpAny (model prog w) A (truthy (.bool b)) (fun _ _ => True) E s := by
  w_top off
  walk1
  all_goals trivial
end Mine
end
section
open PySem PySem.W PyProof.Rows PySem.Calls
set_option maxRecDepth 100000
set_option maxHeartbeats 8000000
namespace Mine
theorem fillV7 : PySem.Challenge.rw_ij0076_01 = PySem.Challenge.rw_ij0076_01 ∧ hd.heap_39 = hd.heap_39 := by
  k_fill
  exact ⟨rfl, rfl⟩
local macro_rules | `(tactic| walk_at "call builtin:sorted") => `(tactic| (k_here; refine stuckP ?_))
local macro_rules | `(tactic| walk_at "compareOp NotEq ref ref") => `(tactic| (k_here; refine stuckP ?_))
local macro_rules | `(tactic| walk_at "eval Name") => `(tactic| (k_here; refine wpAny_Name (wpAny_loadName_cell rfl rfl rfl (by assumption) ?_)))
local macro_rules | `(tactic| walk_at "eval Name") => `(tactic| (k_here; refine wpAny_Name (wpAny_loadName_local rfl rfl (Fr.ns (by assumption)) (by assumption) ?_)))
theorem sorted_vals {n : Nat} {p : Array Nat} {xs : List (Str × Tok)} (hn : n = xs.length) (hs : St n n p) : ∃ l : List (Str × Tok), p.toList.map (fun i => (xs.map valOf).getD i .none) = l.map valOf ∧ ∀ x ∈ l, x ∈ xs := by
  refine ⟨p.toList.map fun i => xs.getD i (Str.empty, 0), ?_, fun x hx => ?_⟩
  · rw [List.map_map]
    refine List.map_congr_left fun i hi => ?_
    have hi2 : i < xs.length := hn ▸ List.mem_range.mp (hs.pm.mem_iff.mp hi)
    show _ = valOf (xs.getD i (Str.empty, 0))
    rw [List.getD_eq_getElem?_getD, List.getD_eq_getElem?_getD, List.getElem?_map, List.getElem?_eq_getElem hi2]; rfl
  · obtain ⟨i, hi, rfl⟩ := List.mem_map.mp hx
    have hi2 : i < xs.length := hn ▸ List.mem_range.mp (hs.pm.mem_iff.mp hi)
    rw [List.getD_eq_getElem?_getD, List.getElem?_eq_getElem hi2]
    exact List.getElem_mem hi2
theorem key_at {zs : List ((Str × Tok) × Tok)} {i : Nat} {x : Str × Tok} (h : (zs.map (·.1))[i]? = some x) : qAt zs i = qlen x.1 := by
  rw [List.getElem?_map] at h
  obtain ⟨z, hz, rfl⟩ := Option.map_eq_some_iff.mp h
  exact qAt_some hz
section
variable {w : World} {p : Program} {loose : List Str} {mean : ExcName → Option Value} {mg mb : Str → Option Value} {h₀ : Heap} {s : Shared} {L fa : Addr} {m : Str → Option Value} {E : Value → Shared → Prop} {Q : Flow → Shared → Prop} {t41 t69 : Array Value}
theorem LW.ic1 {h : Heap} {v : Value} {v2 v3 : Option Value} (Y : LW h₀ h L m (some v) v2 v3 t41 t69) : h.IsCell (L + 1) (some v) := Y.c1
theorem LW.ic3 {h : Heap} {v : Value} {v1 v2 : Option Value} (Y : LW h₀ h L m v1 v2 (some v) t41 t69) : h.IsCell (L + 3) (some v) := Y.c3
theorem st6 {D D2 D3 D4 : Addr} {zs : List ((Str × Tok) × Tok)} {K1 K2 : Frag} {L1 L2 C1 N1 P1 f14 f15 c4 c5 lam1a lc1 C2 N2 P2 f24 f25 d4 d5 lam2a lc2 : Addr} {pm1 pm2 : Value}
    (X : (hd.heap_39 w.params).In h₀) (T : Top p loose mean mg mb h₀) (B : Below callerA h₀ [] h₀) (Y : LW h₀ s.heap L m (some (.ref D)) (some (.ref D2)) (some (.ref C1)) t41 t69)
    (Z1 : Pack (SL L) lam1 K1 L1 pm1 C1 N1 P1 f14 f15 c4 c5 lam1a lc1 s.heap) (Z2 : Pack (SL L) lam2 K2 L2 pm2 C2 N2 P2 f24 f25 d4 d5 lam2a lc2 s.heap)
    (m1 : m "turned" = some (.ref C2)) (m2 : m "rising" = some (.ref D3)) (m3 : m "falling" = some (.ref D4))
    (hl : s.heap.IsList D ((zs.map (·.1)).map valOf).toArray) (hr : s.heap.IsList D3 (outs (zs.map pairV) up21 21).toArray) (hf : s.heap.IsList D4 (outs (zs.map pairV) down21 21).toArray)
    (ok : TextsOk zs) (h : ∀ h' tk, Keeps s.heap h' → Q .next { s with heap := h', toks := tk }) :
    wpAny (model Pr w) (callerA.deeper (lawEnv L fa)) (exec (lawSt 6) (lawEnv L fa)) Q E s := by
  have e1 := scope_of rfl
  have e2 := if_of (k := 6) (body_of rfl) rfl
  rw [lawEnv, e1, lawSt, e2]
  clear e1 e2
  have F := Y.F
  have N : News h₀ L s.heap [] := News.nil
  have ic1 := Y.ic1
  have ic3 := Y.ic3
  k_steps
  unfold StuckP
  have hq0 : ∀ z ∈ zs, qlen z.1.1 = longOf z.1.1 := fun z h => (good_ok (ok.good z h)).1
  have bd : ∀ z ∈ zs, 0 ≤ longOf z.1.1 ∧ longOf z.1.1 ≤ 20 := fun z h => ⟨by have := (good_ok (ok.good z h)).2.1; omega, (good_ok (ok.good z h)).2.2⟩
  have hgx : ∀ x ∈ zs.map (·.1), Good x.1 := fun x hx => by
    obtain ⟨z, hz, rfl⟩ := List.mem_map.mp hx
    exact ok.good z hz
  have hlen : (zs.map (·.1)).length = zs.length := List.length_map _
  have two := ok.two
  have le := ok.le
  refine sort_at (xs := zs.map (·.1)) (key := qAt zs) (rdy_of (Cx.at (A := callerA.deeper (envOfC "law" _ L fa (.ref 71))) X T B F rfl rfl rfl) Z1.cls1 (Keeps.refl _)) rfl (Nat.le_of_ble_eq_true rfl) (Nat.le_of_ble_eq_true rfl) rfl hl (by omega) (by omega) (fun x hx => good_len (hgx x hx)) (fun i j x y hi hj => ?_) fun a c p' h2 tk2 k2 ha hSt hS hget => ?_
  · show decide (qlen x.1 - qlen y.1 < 0) = decide (qAt zs i < qAt zs j)
    rw [key_at hi, key_at hj]
    exact decide_eq_decide.mpr (by omega)
  rw [hlen] at hSt hS
  have er := rising_eq hq0 bd hSt hS
  obtain ⟨l1, el1, ml1⟩ := sorted_vals hlen.symm hSt
  have Y2 := Y.keeps k2
  clear F N ic1 ic3
  have F := Y2.F
  have N : News h₀ L h2 [] := News.nil
  have ic1 := Y2.ic1
  k_steps
  unfold StuckP
  have hla : h2.IsList a (l1.map valOf).toArray := by rw [← el1]; exact ⟨_, hget, rfl, c, rfl⟩
  have hlr : h2.IsList D3 (l1.map valOf).toArray := by rw [← el1, er]; exact isl_keep hr k2
  refine ne_texts hla hlr (fun x hx => good_strOk (hgx x (ml1 x hx))) (Nat.le_of_ble_eq_true rfl) ?_
  k_steps
  unfold StuckP
  refine sort_at (xs := zs.map (·.1)) (key := fun i => - qAt zs i) (rdy_of (Cx.at (A := callerA.deeper (envOfC "law" _ L fa (.ref 71))) X T B F rfl rfl rfl) Z2.cls2 k2) rfl (Nat.le_of_ble_eq_true rfl) (Nat.le_of_ble_eq_true rfl) rfl (isl_keep hl k2) (by omega) (by omega) (fun x hx => good_len (hgx x hx)) (fun i j x y hi hj => ?_) fun a2 e2 q' h3 tk3 k3 ha2 hSt2 hS2 hget2 => ?_
  · show decide (qlen y.1 - qlen x.1 < 0) = decide (- qAt zs i < - qAt zs j)
    rw [key_at hi, key_at hj]
    exact decide_eq_decide.mpr (by omega)
  rw [hlen] at hSt2 hS2
  have ef := falling_eq hq0 bd hSt2 hS2
  obtain ⟨l2, el2, ml2⟩ := sorted_vals hlen.symm hSt2
  have Y3 := Y2.keeps k3
  clear F N ic1
  have F := Y3.F
  have N : News h₀ L h3 [] := News.nil
  k_steps
  unfold StuckP
  have hlb : h3.IsList a2 (l2.map valOf).toArray := by rw [← el2]; exact ⟨_, hget2, rfl, e2, rfl⟩
  have hlf : h3.IsList D4 (l2.map valOf).toArray := by rw [← el2, ef]; exact isl_keep (isl_keep hf k2) k3
  refine ne_texts hlb hlf (fun x hx => good_strOk (hgx x (ml2 x hx))) (Nat.le_of_ble_eq_true rfl) ?_
  k_steps
  exact h _ _ (k2.trans k3)
end
end Mine
end
section
open PySem PySem.W PyProof.Rows PySem.Calls
namespace Mine
theorem resetV8 {prog : Program} {w : World} {A : Around} {E : Value → Shared → Prop} {s : Shared} {b : Bool} : wpAny (model prog w) A (truthy (.bool b)) (fun _ _ => True) E s := by
  w_top off
  walk1
  all_goals trivial
end Mine
end
section
open PySem PySem.W PyProof.Rows PySem.Calls
set_option maxRecDepth 100000
set_option maxHeartbeats 8000000
namespace Mine
theorem fillV8 : PySem.Challenge.rw_ij0076_01 = PySem.Challenge.rw_ij0076_01 ∧ hd.heap_39 = hd.heap_39 := by
  k_fill
  exact ⟨rfl, rfl⟩
local macro_rules | `(tactic| walk_at "eval Lambda") => `(tactic| (k_here; refine stuckP ?_))
local macro_rules | `(tactic| walk_at "call ref") => `(tactic| (k_here; (with_reducible show wpAny _ _ (call (Value.ref 55) _) _ _ _); refine stuckP ?_))
local macro_rules | `(tactic| walk_at "eval Name") => `(tactic| (k_here; refine wpAny_Name (wpAny_loadName_cell rfl rfl rfl (by assumption) ?_)))
local macro_rules | `(tactic| walk_at "eval Name") => `(tactic| (k_here; refine wpAny_Name (wpAny_loadName_local rfl rfl (Fr.ns (by assumption)) (by assumption) ?_)))
theorem pick3_len {y x : Str} (h1 : y.length ≤ 3) (h2 : x.length ≤ 3) : (pick3 fK y x).length ≤ 3 := by unfold pick3; split <;> assumption
theorem pick4_len {y x : Str} (h1 : y.length ≤ 3) (h2 : x.length ≤ 3) : (pick4 fK y x).length ≤ 3 := by unfold pick4; split <;> assumption
section
variable {w : World} {p : Program} {loose : List Str} {mean : ExcName → Option Value} {mg mb : Str → Option Value} {h₀ : Heap} {s : Shared} {L fa : Addr} {m : Str → Option Value} {E : Value → Shared → Prop} {Q : Flow → Shared → Prop} {t41 t69 : Array Value} {v2 : Option Value}
theorem st7 {D ta tb : Addr} {xs : List (Str × Tok)} {x0 : Str × Tok} {K1 : Frag} {L1 C1 N1 P1 f14 f15 c4 c5 lam1a lc1 : Addr} {pm1 : Value}
    (X : (hd.heap_39 w.params).In h₀) (T : Top p loose mean mg mb h₀) (B : Below callerA h₀ [] h₀) (Y : LW h₀ s.heap L m (some (.ref D)) v2 (some (.ref C1)) t41 (tab2 lam1.q lam2.q ta tb)) (C2 : CodeHd h₀ 71 69) (n69 : h₀.get? 69 = none)
    (Z1 : Pack (SL L) lam1 K1 L1 pm1 C1 N1 P1 f14 f15 c4 c5 lam1a lc1 s.heap) (hl : s.heap.IsList D (xs.map valOf).toArray) (hD : D ∉ SL L) (hg : ∀ x ∈ xs, Good x.1) (hlen : xs.length ≤ 11) (h0 : xs[0]? = some x0)
    (h : ∀ h' tk t lc, LW h₀ h' L (fun y => if y = "longest" then some (.str (foldTo (pick3 fK) x0.1 (xs.drop 1)) t) else m y) (some (.ref D)) v2 (some (.ref C1)) t41 (tab2 lam1.q lam2.q ta tb ++ #[rawInt lam3.q.line, rawInt lam3.q.col, .ref lc]) → KS (SL L) s.heap h' → Q .next { s with heap := h', toks := tk }) :
    wpAny (model Pr w) (callerA.deeper (lawEnv L fa)) (exec (lawSt 7) (lawEnv L fa)) Q E s := by
  have e1 := scope_of rfl
  have e2 := asg_of (k := 7) (body_of rfl) rfl
  rw [lawEnv, e1, lawSt, e2]
  clear e1 e2
  have F := Y.F
  have N : News h₀ L s.heap [] := News.nil
  k_steps
  unfold StuckP
  refine lam_make T Y C2 n69 ?_ ?_ rfl rfl ?_
  · exact True.intro
  · rfl
  intro lam lc ctv qual h1 tk1 Y1 k1 hlam hlc of oc
  clear F N
  have F := Y1.F
  have N : News h₀ L h1 [] := News.nil
  have ic1 := Y1.ic1
  k_steps
  unfold StuckP
  obtain ⟨ok, gk, dk⟩ := id Y1.c3
  have Zp := Z1.ks k1
  obtain ⟨oD, eD, rD⟩ := id hl
  have hl1 : h1.IsList D (xs.map valOf).toArray := ⟨oD, k1 _ _ hD eD, rD⟩
  have hst : StepSays w p loose mean mg mb h₀ lam (pick3 fK) (fun _ y => y.length ≤ 3) h1 := step3 (kc := L + 3) Zp.cls1 (by exact hlam) hlc gk dk
  refine wpAny_call (codeAny_mono (red2 (xs := xs) (x0 := x0) (Cx.at X T B F rfl rfl rfl) rfl (Nat.le_of_ble_eq_true rfl) (Nat.le_of_ble_eq_true rfl) rfl hl1 (fun x hx => good_len (hg x hx)) (by omega) h0 ⟨_, _, _, _, hlam⟩ hst (good_len (hg x0 (List.mem_of_getElem? h0))) (fun i y x hy hx => pick3_len hy hx)) fun r s' z => ?_)
  obtain ⟨v, h2, tk2, q1, ⟨t, q2⟩, hk2, q3⟩ := z
  subst q1 q3 q2
  have Y2 := Y1.keeps hk2
  refine wpAny_storeName_local rfl Y2.F.ns (fun h4 ns4 hs4 => ?_) rfl
  have Y4 := Y2.loc hs4 ns4
  have k4 : KS (SL L) h2 h4 := KS.but (a := L) hs4.extBut (by simp [SL])
  exact h h4 _ t lc Y4 ((k1.trans (KS.of hk2)).trans k4)
theorem st8 {D ta tb tc : Addr} {xs : List (Str × Tok)} {x0 : Str × Tok} {K1 : Frag} {L1 C1 N1 P1 f14 f15 c4 c5 lam1a lc1 : Addr} {pm1 : Value}
    (X : (hd.heap_39 w.params).In h₀) (T : Top p loose mean mg mb h₀) (B : Below callerA h₀ [] h₀) (Y : LW h₀ s.heap L m (some (.ref D)) v2 (some (.ref C1)) t41 (tab2 lam1.q lam2.q ta tb ++ #[rawInt lam3.q.line, rawInt lam3.q.col, .ref tc])) (C2 : CodeHd h₀ 71 69) (n69 : h₀.get? 69 = none)
    (Z1 : Pack (SL L) lam1 K1 L1 pm1 C1 N1 P1 f14 f15 c4 c5 lam1a lc1 s.heap) (hl : s.heap.IsList D (xs.map valOf).toArray) (hD : D ∉ SL L) (hg : ∀ x ∈ xs, Good x.1) (hlen : xs.length ≤ 11) (h0 : xs[0]? = some x0)
    (h : ∀ h' tk t lc, LW h₀ h' L (fun y => if y = "shortest" then some (.str (foldTo (pick4 fK) x0.1 (xs.drop 1)) t) else m y) (some (.ref D)) v2 (some (.ref C1)) t41 (tab2 lam1.q lam2.q ta tb ++ #[rawInt lam3.q.line, rawInt lam3.q.col, .ref tc] ++ #[rawInt lam4.q.line, rawInt lam4.q.col, .ref lc]) → KS (SL L) s.heap h' → Q .next { s with heap := h', toks := tk }) :
    wpAny (model Pr w) (callerA.deeper (lawEnv L fa)) (exec (lawSt 8) (lawEnv L fa)) Q E s := by
  have e1 := scope_of rfl
  have e2 := asg_of (k := 8) (body_of rfl) rfl
  rw [lawEnv, e1, lawSt, e2]
  clear e1 e2
  have F := Y.F
  have N : News h₀ L s.heap [] := News.nil
  k_steps
  unfold StuckP
  refine lam_make T Y C2 n69 ?_ ?_ rfl rfl ?_
  · exact True.intro
  · rfl
  intro lam lc ctv qual h1 tk1 Y1 k1 hlam hlc of oc
  clear F N
  have F := Y1.F
  have N : News h₀ L h1 [] := News.nil
  have ic1 := Y1.ic1
  k_steps
  unfold StuckP
  obtain ⟨ok, gk, dk⟩ := id Y1.c3
  have Zp := Z1.ks k1
  obtain ⟨oD, eD, rD⟩ := id hl
  have hl1 : h1.IsList D (xs.map valOf).toArray := ⟨oD, k1 _ _ hD eD, rD⟩
  have hst : StepSays w p loose mean mg mb h₀ lam (pick4 fK) (fun _ y => y.length ≤ 3) h1 := step4 (kc := L + 3) Zp.cls1 (by exact hlam) hlc gk dk
  refine wpAny_call (codeAny_mono (red2 (xs := xs) (x0 := x0) (Cx.at X T B F rfl rfl rfl) rfl (Nat.le_of_ble_eq_true rfl) (Nat.le_of_ble_eq_true rfl) rfl hl1 (fun x hx => good_len (hg x hx)) (by omega) h0 ⟨_, _, _, _, hlam⟩ hst (good_len (hg x0 (List.mem_of_getElem? h0))) (fun i y x hy hx => pick4_len hy hx)) fun r s' z => ?_)
  obtain ⟨v, h2, tk2, q1, ⟨t, q2⟩, hk2, q3⟩ := z
  subst q1 q3 q2
  have Y2 := Y1.keeps hk2
  refine wpAny_storeName_local rfl Y2.F.ns (fun h4 ns4 hs4 => ?_) rfl
  have Y4 := Y2.loc hs4 ns4
  have k4 : KS (SL L) h2 h4 := KS.but (a := L) hs4.extBut (by simp [SL])
  exact h h4 _ t lc Y4 ((k1.trans (KS.of hk2)).trans k4)
end
end Mine
end
section
open PySem PySem.W PyProof.Rows PySem.Calls
namespace Mine
theorem resetV9 {prog : Program} {w : World} {A : Around} {E : Value → Shared → Prop} {s : Shared} {b : Bool} : wpAny (model prog w) A (truthy (.bool b)) (fun _ _ => True) E s := by
  w_top off
  walk1
  all_goals trivial
end Mine
end
section
open PySem PySem.W PyProof.Rows PySem.Calls
set_option maxRecDepth 100000
set_option maxHeartbeats 8000000
namespace Mine
theorem fillV9 : PySem.Challenge.rw_ij0076_01 = PySem.Challenge.rw_ij0076_01 ∧ hd.heap_39 = hd.heap_39 := by
  k_fill
  exact ⟨rfl, rfl⟩
local macro_rules | `(tactic| walk_at "eval Lambda") => `(tactic| (k_here; refine stuckP ?_))
local macro_rules | `(tactic| walk_at "call ref") => `(tactic| (k_here; (with_reducible show wpAny _ _ (call (Value.ref 55) _) _ _ _); refine stuckP ?_))
local macro_rules | `(tactic| walk_at "eval Name") => `(tactic| (k_here; refine wpAny_Name (wpAny_loadName_cell rfl rfl rfl (by assumption) ?_)))
local macro_rules | `(tactic| walk_at "eval Name") => `(tactic| (k_here; refine wpAny_Name (wpAny_loadName_local rfl rfl (Fr.ns (by assumption)) (by assumption) ?_)))
local macro_rules | `(tactic| walk_at "call builtin:len") => `(tactic| (k_here; refine stuckP ?_))
local macro_rules | `(tactic| walk_at "call builtin:sum") => `(tactic| (k_here; refine stuckP ?_))
theorem longs_ints : ∀ zs : List ((Str × Tok) × Tok), IntsAre (zs.map longV) (zs.map fun z => longOf z.1.1)
  | [] => .nil
  | _ :: r => .cons _ _ (longs_ints r)
theorem sum_le : ∀ zs : List ((Str × Tok) × Tok), (∀ z ∈ zs, Good z.1.1) → (zs.map fun z => longOf z.1.1).sum ≤ 20 * (zs.length : Int)
  | [], _ => by simp
  | z :: r, h => by
    have ih := sum_le r fun y hy => h y (.tail _ hy)
    have := (good_ok (h z (.head _))).2.2
    rw [List.map_cons, List.sum_cons, List.length_cons]
    omega
section
variable {w : World} {p : Program} {loose : List Str} {mean : ExcName → Option Value} {mg mb : Str → Option Value} {h₀ : Heap} {s : Shared} {L fa : Addr} {m : Str → Option Value} {E : Value → Shared → Prop} {Q : Flow → Shared → Prop} {t41 t69 : Array Value} {v2 : Option Value}
theorem st10 {D D2 ta tb tc td : Addr} {zs : List ((Str × Tok) × Tok)} {v3 : Option Value}
    (X : (hd.heap_39 w.params).In h₀) (T : Top p loose mean mg mb h₀) (B : Below callerA h₀ [] h₀) (Y : LW h₀ s.heap L m (some (.ref D)) (some (.ref D2)) v3 t41 (tab2 lam1.q lam2.q ta tb ++ #[rawInt lam3.q.line, rawInt lam3.q.col, .ref tc] ++ #[rawInt lam4.q.line, rawInt lam4.q.col, .ref td])) (C2 : CodeHd h₀ 71 69) (n41 : h₀.get? 41 = none) (n69 : h₀.get? 69 = none)
    (hl : s.heap.IsList D ((zs.map (·.1)).map valOf).toArray) (hD : D ∉ SL L) (hl2 : s.heap.IsList D2 (zs.map longV).toArray) (hD2 : D2 ∉ SL L) (ok : TextsOk zs)
    (h : ∀ h' tk, Fr h₀ L h' m → (∃ t, h'.get? 41 = some (tabObj t)) → (∃ t, h'.get? 69 = some (tabObj t)) → Q (.ret (.bool true)) { s with heap := h', toks := tk }) :
    wpAny (model Pr w) (callerA.deeper (lawEnv L fa)) (exec (lawSt 10) (lawEnv L fa)) Q E s := by
  have e1 := scope_of rfl
  have e2 := ret_of (k := 10) (body_of rfl) rfl
  rw [lawEnv, e1, lawSt, e2]
  clear e1 e2
  have F := Y.F
  have N : News h₀ L s.heap [] := News.nil
  k_steps
  unfold StuckP
  refine lam_make T Y C2 n69 ?_ ?_ rfl rfl ?_
  · exact True.intro
  · rfl
  intro lam lc ctv qual h1 tk1 Y1 k1 hlam hlc of oc
  clear F N
  have F := Y1.F
  have N : News h₀ L h1 [] := News.nil
  have ic1 := Y1.ic1
  k_steps
  unfold StuckP
  obtain ⟨oD, eD, rD⟩ := id hl
  have hl1 : h1.IsList D ((zs.map (·.1)).map valOf).toArray := ⟨oD, k1 _ _ hD eD, rD⟩
  have hgx : ∀ x ∈ zs.map (·.1), Good x.1 := fun x hx => by
    obtain ⟨z, hz, rfl⟩ := List.mem_map.mp hx
    exact ok.good z hz
  have hlen : (zs.map (·.1)).length = zs.length := List.length_map _
  have le := ok.le
  have hst : StepSays w p loose mean mg mb h₀ lam join5 (fun i y => y.length ≤ i * 200000) h1 := step5 (by exact hlam) hlc
  refine wpAny_call (codeAny_mono (red3 (xs := zs.map (·.1)) (y0 := Str.empty) (Cx.at X T B F rfl rfl rfl) rfl (Nat.le_of_ble_eq_true rfl) (Nat.le_of_ble_eq_true rfl) rfl hl1 (fun x hx => good_len (hgx x hx)) (by omega) ⟨_, _, _, _, hlam⟩ hst (Nat.le_refl _) (fun i y x hy hx => by
    have := quoted_le hx
    unfold join5; rw [app_len]; omega)) fun r s' z => ?_)
  obtain ⟨v, h2, tk2, q1, ⟨t, q2⟩, hk2, q3⟩ := z
  subst q1 q3 q2
  have Y2 := Y1.keeps hk2
  clear F N ic1
  have F := Y2.F
  have N : News h₀ L h2 [] := News.nil
  have ic2 : h2.IsCell (L + 2) (some (.ref D2)) := Y2.c2
  have two := ok.two
  obtain ⟨x0, h0⟩ : ∃ x0, (zs.map (·.1))[0]? = some x0 := ⟨_, List.getElem?_eq_getElem (by rw [hlen]; omega)⟩
  have tot := total_eq ok.good h0
  have sl := sum_le zs ok.good
  dsimp only
  k_steps
  unfold StuckP
  refine PyProof.Rows.len_str (by omega) ?_
  k_steps
  unfold StuckP
  obtain ⟨oE, eE, rE⟩ := id hl2
  have Nt : News h₀ L h2 [(41, tabObj t41), (69, tabObj _)] := fun p hp => by
    cases hp with
    | head => exact ⟨Y2.g41, Y2.not.1, n41⟩
    | tail _ hp =>
      cases hp with
      | head => exact ⟨Y2.g69, Y2.not.2.1, n69⟩
      | tail _ hp => cases hp
  refine sumK rfl F Nt (show h2.IsList D2 (zs.map longV).toArray from ⟨oE, hk2 _ _ (k1 _ _ hD2 eE), rE⟩) (longs_ints zs) fun h3 tk3 t3 F3 N3 => ?_
  refine eq_int ?_
  rw [tot]
  simp only [beq_self_eq_true]
  exact h _ _ F3 ⟨_, (N3 _ (.head _)).1⟩ ⟨_, (N3 _ (.tail _ (.head _))).1⟩
end
end Mine
end
section
open PySem PySem.W PyProof.Rows PySem.Calls
set_option maxRecDepth 100000
set_option maxHeartbeats 2000000
namespace Mine
section
variable {prog : Program} {w : World} {A : Around} {R : Result → Shared → Prop} {s : Shared} {it1 c : PySem.Expr} {pt p1 p2 pe pos : Pos} {tt : Nat} {scope : Scope} {env : Env}
noncomputable abbrev oneC (elt it1 c : PySem.Expr) (pt p1 p2 : Pos) (tt : Nat) (scope : Scope) (pos : Pos) : PySem.Expr :=
  .ListComp elt [⟨tgt tt pt p1 p2, it1, [c], 0⟩] scope pos
/-- all kept but one namespace, which says the same -/
noncomputable def KeepL (L₀ : Addr) (m₀ : Str → Option Value) (s s' : Shared) : Prop := ∃ h' tk, s' = { s with heap := h', toks := tk } ∧ (∀ b o, b ≠ L₀ → s.heap.get? b = some o → h'.get? b = some o) ∧ (s.heap.Ns L₀ m₀ → h'.Ns L₀ m₀)
theorem one_loop {z D L₀ : Addr} {m₀ : Str → Option Value} {fp wr : List Addr} {pairs : List (Value × Value)} {p : Value × Value → Bool} {St : Nat → Heap → Prop} {Mid : Nat → Addr → Heap → Prop} {m : Str → Option Value}
    (hh : A.handled = none)
    (W : WalksT prog w A z fp wr pairs.length (fun i vals => ∃ q : Value × Value, pairs[i]? = some q ∧ vals = #[q.1, q.2]) St Mid)
    (ht : env.kindOf "text" = some .local) (hl : env.kindOf "long" = some .local) (hf : env.scope.kind = .function)
    (hD : D ∉ fp) (hC : env.locals ∉ fp) (hL : L₀ ∉ fp) (hDC : D ≠ env.locals) (hLC : L₀ ≠ env.locals) (hLD : L₀ ≠ D)
    (hst : St 0 s.heap) (hacc : s.heap.IsList D #[]) (hn : s.heap.Ns env.locals m) (hn0 : s.heap.Ns L₀ m₀)
    (test : ∀ (q : Value × Value) s₂ m₂ E', q ∈ pairs → s₂.heap.Ns env.locals m₂ → m₂ "long" = some q.2 → s₂.heap.Ns L₀ m₀ → (∀ b o, b ≠ env.locals → b ≠ D → b ≠ L₀ → b ∉ wr → s.heap.get? b = some o → s₂.heap.get? b = some o) →
      wpAny (model prog w) A (isTrue c env (eval c env)) (fun ok s₃ => ok = p q ∧ KeepL L₀ m₀ s₂ s₃) E' s₂)
    (hsz : pairs.length ≤ sizeLine)
    (hR : ∀ h' tk m', h'.Ns env.locals m' → h'.Ns L₀ m₀ → h'.IsList D ((pairs.filter p).map (·.1)).toArray → (∀ b o, b ≠ env.locals → b ≠ D → b ≠ L₀ → b ∉ wr → s.heap.get? b = some o → h'.get? b = some o) → R (.ok .next) { s with heap := h', toks := tk }) :
    codeAny (model prog w) A (.compLoop (oneC (.Name "text" pe) it1 c pt p1 p2 tt scope pos) 0 (.ref z) (.ref D) env) R s := by
  refine codeAny_loop rfl (fun n s' => ∃ h' tk i m', s' = { s with heap := h', toks := tk } ∧ i ≤ pairs.length ∧ n = pairs.length + 1 - i ∧ St i h' ∧ h'.IsList D (((pairs.take i).filter p).map (·.1)).toArray ∧ h'.Ns env.locals m' ∧ h'.Ns L₀ m₀ ∧
      (∀ b o, b ≠ env.locals → b ≠ D → b ≠ L₀ → b ∉ wr → s.heap.get? b = some o → h'.get? b = some o)) (fun n s' hI => ?_) (pairs.length + 1)
    ⟨s.heap, s.toks, 0, m, rfl, Nat.zero_le _, rfl, hst, by simpa using hacc, hn, hn0, fun _ _ _ _ _ _ e => e⟩
  obtain ⟨h', tk, i, m', rfl, hi, rfl, hst', hacc', hn', hn0', keep⟩ := hI
  show wpAny _ A ((compTurn (oneC (.Name "text" pe) it1 c pt p1 p2 tt scope pos) 0 (.ref z) (.ref D) env).onRaise (fun x => do noteFrame x env; theTreesLotGoes x)) _ _ _
  refine wpAny_noted ?_
  rw [compTurn_list]
  have hCw : env.locals ∉ wr := fun x => hC (W.sub _ x)
  have hDw : D ∉ wr := fun x => hD (W.sub _ x)
  have hLw : L₀ ∉ wr := fun x => hL (W.sub _ x)
  rcases Nat.lt_or_ge i pairs.length with hlt | hge
  · refine wpAny_bind (wpAny_standAt (wpAny_bind (W.item i _ _ _ hlt hst' fun T vals h₁ tk₁ hP hTge hT hMid hk₁ => ?_)))
    obtain ⟨q, hq, rfl⟩ := hP
    dsimp only
    refine wpAny_bind (W.go _ _ _ i T _ _ _ hMid fun h₂ hst₂ hk₂ => ?_)
    have hT₂ : h₂.IsTuple T #[q.1, q.2] := let ⟨o, e, r⟩ := hT; ⟨o, hk₂ T o (W.apart i T _ hMid) e, r⟩
    have up₂ : ∀ b o, b ∉ wr → h'.get? b = some o → h₂.get? b = some o := fun b o hb e => hk₂ b o hb (hk₁ b o hb e)
    refine wpAny_bind (assign_Tuple_tuple (A := A) hh hT₂ rfl rfl fun h₅ he => ?_)
    have he' : ∀ b o, h₂.get? b = some o → h₅.get? b = some o := fun b o e => he b o (Nat.ne_of_lt (Heap.lt_size e)) e
    refine assignInOrder_cons (wpAny_assign_Name (wpAny_storeName_local ht (hn'.at' fun o e => he' _ o (up₂ _ o hCw e)) (fun h₆ hn₆ hs₆ => ?_) (kind_ok hf)))
    refine assignInOrder_cons (wpAny_assign_Name (wpAny_storeName_local hl hn₆ (fun h₃ hn₃ hs₃ => ?_) (kind_ok hf)))
    refine assignInOrder_nil ?_
    have up₃ : ∀ b o, b ≠ env.locals → b ∉ wr → h'.get? b = some o → h₃.get? b = some o := fun b o hb hw e => hs₃.extBut b o hb (hs₆.extBut b o hb (he' b o (up₂ b o hw e)))
    have old₃ : ∀ b o, b ≠ env.locals → h₂.get? b = some o → h₃.get? b = some o := fun b o hb e => hs₃.extBut b o hb (hs₆.extBut b o hb (he' b o e))
    have hst₃ : St (i + 1) h₃ := W.frame _ _ _ hst₂ fun b hb o e => old₃ b o (fun x => hC (x ▸ hb)) e
    have hn03 : h₃.Ns L₀ m₀ := hn0'.at' fun o e => up₃ L₀ o hLC hLw e
    have hqm : q ∈ pairs := List.mem_of_getElem? hq
    refine wpAny_bind (wpAny_tests_one (wpAny_mono (test q _ _ _ hqm hn₃ rfl hn03 fun b o hb hbD hbL hw e => up₃ b o hb hw (keep b o hb hbD hbL hw e)) (fun ok s₃ h3 => ?_) fun _ _ e => e))
    obtain ⟨rfl, h₄, tk₄, rfl, hk₄, hn04⟩ := h3
    have up₄ : ∀ b o, b ≠ env.locals → b ≠ L₀ → b ∉ wr → h'.get? b = some o → h₄.get? b = some o := fun b o hb hbL hw e => hk₄ b o hbL (up₃ b o hb hw e)
    have hst₄ : St (i + 1) h₄ := W.frame _ _ _ hst₃ fun b hb o e => hk₄ b o (fun x => hL (x ▸ hb)) e
    have hacc₄ := hacc'.at fun o e => up₄ D o hDC (Ne.symm hLD) hDw e
    have hn₄ := hn₃.at' fun o e => hk₄ _ o (Ne.symm hLC) e
    have n04 := hn04 hn03
    have hts := take_succ_filter p pairs i q hq
    dsimp only
    cases hpq : p q with
    | false =>
      rw [hpq] at hts
      simp only [Bool.false_eq_true, if_false, List.append_nil] at hts ⊢
      refine wpAny_pure ⟨rfl, pairs.length + 1 - (i + 1), by omega, h₄, tk₄, i + 1, _, rfl, hlt, rfl, hst₄, ?_, hn₄, n04, fun b o hb hbD hbL hw e => up₄ b o hb hbL hw (keep b o hb hbD hbL hw e)⟩
      rw [hts]; exact hacc₄
    | true =>
      rw [hpq] at hts
      simp only [if_true] at hts ⊢
      refine wpAny_bind (wpAny_bind (wpAny_Name (wpAny_loadName_local hf ht hn₄ (v := q.1) rfl (wpAny_bind (wpAny_list_append hacc₄ (fun h₅ hl₅ hs₅ => wpAny_pure (wpAny_pure ?_)) ?_)))))
      · refine ⟨rfl, pairs.length + 1 - (i + 1), by omega, h₅, tk₄, i + 1, _, rfl, hlt, rfl, W.frame _ _ _ hst₄ fun b hb o e => hs₅.extBut b o (fun x => hD (x ▸ hb)) e, ?_, hn₄.sameBut hs₅ (Ne.symm hDC), n04.sameBut hs₅ hLD, fun b o hb hbD hbL hw e => hs₅.extBut b o hbD (up₄ b o hb hbL hw (keep b o hb hbD hbL hw e))⟩
        rw [hts]
        simpa using hl₅
      · have e9 : ∀ l : List (Value × Value), ((l.map (·.1)).toArray).size = l.length := fun l => by simp
        rw [e9]
        have := List.length_filter_le p (pairs.take i)
        rw [List.length_take] at this
        omega
  · obtain rfl : i = pairs.length := by omega
    refine wpAny_bind (wpAny_standAt (wpAny_bind (W.done _ _ _ hst' fun h₁ tk₁ hk₁ => ?_)))
    dsimp only
    rw [List.take_length] at hacc'
    exact wpAny_pure (hR h₁ tk₁ m' (hn'.at' fun o e => hk₁ _ o hCw e) (hn0'.at' fun o e => hk₁ _ o hLw e) (hacc'.at fun o e => hk₁ _ o hDw e) fun b o hb hbD hbL hw e => hk₁ b o hw (keep b o hb hbD hbL hw e))
end
end Mine
end
section
open PySem PySem.W PyProof.Rows PySem.Calls
set_option maxRecDepth 100000
set_option maxHeartbeats 2000000
namespace Mine
section
variable {prog : Program} {w : World} {A : Around} {E : Value → Shared → Prop} {s : Shared} {it1 c : PySem.Expr} {pt p1 p2 pe pos : Pos} {tt : Nat} {scope : Scope} {env : Env}
theorem one_comp {cl : List (Str × Addr)} {l1 l2 L₀ : Addr} {m₀ : Str → Option Value} {pairs : List (Value × Value)} {p : Value × Value → Bool} {Q : Value → Shared → Prop}
    (hh : A.handled = none)
    (hclos : closureFor scope env = pure cl) (hcell : ∀ z ∈ scope.names, z.2 ≠ .cell) (hkind : scope.kind = .function)
    (hnames : ∀ z ∈ scope.names, z.2 = .local → scope.names.lookup z.1 = some .local)
    (ht : scope.names.lookup ("text" : Str) = some .local) (hl : scope.names.lookup ("long" : Str) = some .local)
    (hn0 : s.heap.Ns L₀ m₀)
    (hz : wpAny (model prog w) A (eval it1 env) (fun x s₃ => ∃ z TI TO i1 i2, x = .ref z ∧ (∀ a ∈ [z, TI, TO, i1, i2], s.heap.get? a = none) ∧ ZipApart z TI TO i1 i2 l1 l2 ∧ zSt z TI TO i1 i2 l1 l2 pairs 0 s₃.heap ∧ PySem.Keeps s s₃) E s)
    (h1 : l1 ≠ L₀) (h2 : l2 ≠ L₀)
    (test : ∀ (C : Addr) (q : Value × Value) s₂ m₂ E', q ∈ pairs → s₂.heap.Ns C m₂ → C ≠ L₀ → m₂ "long" = some q.2 → s₂.heap.Ns L₀ m₀ → (∀ b o, b ≠ L₀ → s.heap.get? b = some o → s₂.heap.get? b = some o) →
      wpAny (model prog w) A (isTrue c (compEnvC scope cl C env) (eval c (compEnvC scope cl C env))) (fun ok s₃ => ok = p q ∧ KeepL L₀ m₀ s₂ s₃) E' s₂)
    (hsz : pairs.length ≤ sizeLine) (hs0 : ∀ x, foldedSetIterable it1 env x = pure x)
    (hQ : ∀ D h' tk, h'.IsList D ((pairs.filter p).map (·.1)).toArray → s.heap.get? D = none → h'.Ns L₀ m₀ → (∀ b o, b ≠ L₀ → s.heap.get? b = some o → h'.get? b = some o) → Q (.ref D) { s with heap := h', toks := tk }) :
    wpAny (model prog w) A (eval (oneC (.Name "text" pe) it1 c pt p1 p2 tt scope pos) env) Q E s := by
  rw [eval_ListComp]
  refine wpAny_comprehension_free (use := none) rfl hs0 hclos hkind hnames (wpAny_mono hz (fun xv s₁ hz1 => ?_) fun _ _ e => e)
  obtain ⟨z, TI, TO, i1, i2, rfl, fresh, Dp, zst, h₁, tk₁, rfl, hk₁⟩ := hz1
  have W := zipW (prog := prog) (w := w) (A := A) hh Dp pairs
  refine W.self 0 _ _ _ zst ?_
  refine wpAny_newObj_type (wpAny_newFunctionEnv hcell (by intro y hy; simp at hy) (fun h₃ hns₃ hsb₃ => ?_) hkind)
  dsimp only at hns₃ hsb₃ ⊢
  have zC : ∀ {H2 : Heap}, h₁.push { cls := .type "list", dict := none, data := .seq ([] : List Value).toArray } = H2 → H2.objs.size = h₁.objs.size + 1 := fun e => by rw [← e, Heap.size_push]
  generalize hH2 : h₁.push { cls := .type "list", dict := none, data := .seq ([] : List Value).toArray } = H2 at hns₃ hsb₃ ⊢
  have zC := zC hH2
  have pp1 : ∀ b o, h₁.get? b = some o → H2.get? b = some o := fun b o e => by rw [← hH2]; exact Heap.get?_push_of_some _ e
  have q1 : H2.get? h₁.objs.size = some { cls := .type "list", dict := none, data := .seq ([] : List Value).toArray } := by rw [← hH2]; exact Heap.get?_push_size _ rfl
  have hDC : h₁.objs.size ≠ H2.objs.size := by rw [zC]; exact Nat.ne_of_lt (Nat.lt_succ_self _)
  have below : ∀ b, b < h₁.objs.size → b ≠ H2.objs.size ∧ b ≠ h₁.objs.size := fun b hb => ⟨by rw [zC]; exact Nat.ne_of_lt (Nat.lt_succ_of_lt hb), Nat.ne_of_lt hb⟩
  have ne1 : ∀ b o, h₁.get? b = some o → b ≠ H2.objs.size ∧ b ≠ h₁.objs.size := fun b o e => below b (Heap.lt_size e)
  have old1 : ∀ b o, h₁.get? b = some o → h₃.get? b = some o := fun b o e => hsb₃.extBut b o (ne1 b o e).1 (Heap.get?_push_of_some _ (pp1 _ _ e))
  have hacc : h₃.IsList h₁.objs.size #[] := ⟨_, hsb₃.extBut _ _ hDC (Heap.get?_push_of_some _ q1), rfl, _, rfl⟩
  have hnew : ∀ a, a = h₁.objs.size ∨ a = H2.objs.size → s.heap.get? a = none := fun a ha => by
    cases e : s.heap.get? a with
    | none => rfl
    | some o' =>
      have := ne1 a o' (hk₁ _ _ e)
      rcases ha with q | q
      · exact absurd q this.2
      · exact absurd q this.1
  obtain ⟨oL, esL, epL, eL, rL⟩ := id hn0
  have inH : ∀ b ∈ [z, TI, TO, i1, i2, l1, l2], ∃ o, h₁.get? b = some o := by
    obtain ⟨a1, a2, ⟨_, _, a3⟩, ⟨_, a4, _⟩, ⟨_, a5, _⟩, ⟨_, a6, _⟩, ⟨_, a7, _⟩⟩ := id zst
    intro b hb
    simp only [List.mem_cons, List.not_mem_nil, or_false] at hb
    rcases hb with rfl | rfl | rfl | rfl | rfl | rfl | rfl
    · exact ⟨_, a1⟩
    · exact ⟨_, a2⟩
    · exact ⟨_, a3⟩
    · exact ⟨_, a4⟩
    · exact ⟨_, a5⟩
    · exact ⟨_, a6⟩
    · exact ⟨_, a7⟩
  have hDf : h₁.objs.size ∉ [z, TI, TO, i1, i2, l1, l2] := fun q => by obtain ⟨o, e⟩ := inH _ q; exact (ne1 _ _ e).2 rfl
  have hCf : H2.objs.size ∉ [z, TI, TO, i1, i2, l1, l2] := fun q => by obtain ⟨o, e⟩ := inH _ q; exact (ne1 _ _ e).1 rfl
  have hLf : L₀ ∉ [z, TI, TO, i1, i2, l1, l2] := fun q => by
    simp only [List.mem_cons, List.not_mem_nil, or_false] at q
    have nf : ∀ a ∈ [z, TI, TO, i1, i2], L₀ ≠ a := fun a ha q => by have := fresh a ha; rw [← q, eL] at this; cases this
    rcases q with q | q | q | q | q | q | q
    · exact nf _ (by simp) q
    · exact nf _ (by simp) q
    · exact nf _ (by simp) q
    · exact nf _ (by simp) q
    · exact nf _ (by simp) q
    · exact h1 q.symm
    · exact h2 q.symm
  have neL := ne1 _ _ (hk₁ _ _ eL)
  have old : ∀ b o, s.heap.get? b = some o → h₃.get? b = some o := fun b o e => old1 b o (hk₁ b o e)
  have nw : ∀ b o, s.heap.get? b = some o → b ∉ [z, TO, i1, i2] := fun b o e q => by
    simp only [List.mem_cons, List.not_mem_nil, or_false] at q
    rcases q with rfl | rfl | rfl | rfl
    · have := fresh b (by simp); rw [e] at this; cases this
    · have := fresh b (by simp); rw [e] at this; cases this
    · have := fresh b (by simp); rw [e] at this; cases this
    · have := fresh b (by simp); rw [e] at this; cases this
  have keepS : ∀ {hx : Heap}, (∀ b o, b ≠ H2.objs.size → b ≠ h₁.objs.size → b ≠ L₀ → b ∉ [z, TO, i1, i2] → h₃.get? b = some o → hx.get? b = some o) → ∀ b o, b ≠ L₀ → s.heap.get? b = some o → hx.get? b = some o := fun k b o hb e => k b o (ne1 _ _ (hk₁ _ _ e)).1 (ne1 _ _ (hk₁ _ _ e)).2 hb (nw b o e) (old b o e)
  have loop : ∀ s₂ : Shared, s₂ = { s with heap := h₃, toks := tk₁ + ([] : List (Str × Value)).length } →
      codeAny (model prog w) A (.compLoop (oneC (.Name "text" pe) it1 c pt p1 p2 tt scope pos) 0 (.ref z) (.ref h₁.objs.size) (compEnvC scope cl H2.objs.size env)) (compPost (model prog w) A E none Q (.ref h₁.objs.size) H2.objs.size) s₂ := by
    rintro s₂ rfl
    refine one_loop (env := compEnvC scope cl H2.objs.size env) (L₀ := L₀) (m₀ := m₀) (p := p) hh W (lookup_relabel_local ht) (lookup_relabel_local hl) (by simp [compEnvC, relabel, hkind]) hDf hCf hLf hDC neL.1 neL.2 (W.frame _ _ _ zst fun b _ o e => old1 b o e) hacc hns₃ (hn0.at' fun o e => old _ o e)
      (fun q s₂ m₂ E' a b d g k => test _ q s₂ m₂ E' a b (Ne.symm neL.1) d g (keepS k)) hsz fun h' tk m' hnC hn0' hlD hk => ?_
    exact ⟨m', hnC, fun h4 hs4 => hQ _ h4 tk (hlD.extBut hs4.extBut hDC) (hnew _ (.inl rfl)) (hn0'.sameBut hs4 neL.1) fun b o hb e => hs4.extBut b o (ne1 _ _ (hk₁ _ _ e)).1 (keepS hk b o hb e)⟩
  exact codeAny_compStart_list (loop _ rfl) (W.self 0 _ _ _ (W.frame _ _ _ zst fun b _ o e => old1 b o e) (loop _ rfl))
end
end Mine
end
section
open PySem PySem.W PyProof.Rows PySem.Calls
set_option maxRecDepth 100000
set_option maxHeartbeats 2000000
namespace Mine
noncomputable def allNews (h₀ h : Heap) (L : Addr) : List (Addr × Obj) := (List.range h.objs.size).filterMap fun a => match h.get? a with
  | some o => if a = L ∨ (h₀.get? a).isSome = true then none else some (a, o)
  | none => none
theorem allNews_mem {h₀ h : Heap} {L a : Addr} {o : Obj} : (a, o) ∈ allNews h₀ h L ↔ h.get? a = some o ∧ a ≠ L ∧ h₀.get? a = none := by
  unfold allNews
  rw [List.mem_filterMap]
  constructor
  · rintro ⟨b, _, e⟩
    cases hb : h.get? b with
    | none => rw [hb] at e; cases e
    | some o' =>
      rw [hb] at e
      dsimp only at e
      split at e
      · cases e
      · rename_i hn
        cases e
        refine ⟨hb, fun q => hn (.inl q), ?_⟩
        cases h0 : h₀.get? a with
        | none => rfl
        | some _ => exact absurd (.inr (by rw [h0]; rfl)) hn
  · rintro ⟨e, n1, n2⟩
    refine ⟨a, List.mem_range.mpr (Heap.lt_size e), ?_⟩
    rw [e]
    dsimp only
    rw [if_neg (by rintro (q | q)
                   · exact n1 q
                   · rw [n2] at q; cases q)]
theorem allNews_news (h₀ h : Heap) (L : Addr) : News h₀ L h (allNews h₀ h L) := fun p hp => allNews_mem.mp (by obtain ⟨a, o⟩ := p; exact hp)
theorem keepL_of {h₀ h h' : Heap} {L : Addr} {m m' : Str → Option Value} (F : Fr h₀ L h m) (F' : Fr h₀ L h' m') (N' : News h₀ L h' (allNews h₀ h L)) : ∀ b o, b ≠ L → h.get? b = some o → h'.get? b = some o := fun b o hb e => by
  cases h0 : h₀.get? b with
  | none => exact (N' (b, o) (allNews_mem.mpr ⟨e, hb, h0⟩)).1
  | some o' =>
    have e1 := F.keep b o' h0
    rw [e] at e1
    cases e1
    exact F'.keep b o h0
section
variable {prog : Program} {w : World} {A : Around} {E : Value → Shared → Prop} {s : Shared} {h₀ : Heap} {L l : Addr} {m : Str → Option Value} {vs : List Value} {ns : List Int}
theorem min_keep (F : Fr h₀ L s.heap m) (hl : s.heap.IsList l vs.toArray) (hi : IntsAre vs ns) (hne : 0 < ns.length) (hh : A.handled = none) {Q : Value → Shared → Prop}
    (h : ∀ M t s', KeepL L m s s' → M ∈ ns → (∀ a, a ∈ ns → M ≤ a) → Q (.int M t) s') : wpAny (model prog w) A (call (.builtin "min") [.ref l]) Q E s :=
  kso_min F (allNews_news h₀ s.heap L) hl hi hne hh fun h' M t tk F' N' a b => h M t _ ⟨h', tk, rfl, keepL_of F F' N', fun _ => F'.ns⟩ a b
end
end Mine
end
section
open PySem PySem.W PyProof.Rows PySem.Calls
namespace Mine
theorem resetV13 {prog : Program} {w : World} {A : Around} {E : Value → Shared → Prop} {s : Shared} {b : Bool} : wpAny (model prog w) A (truthy (.bool b)) (fun _ _ => True) E s := by
  w_top off
  walk1
  all_goals trivial
end Mine
end
section
open PySem PySem.W PyProof.Rows PySem.Calls
set_option maxRecDepth 100000
set_option maxHeartbeats 2000000
namespace Mine
theorem fillV13 : PySem.Challenge.rw_ij0076_01 = PySem.Challenge.rw_ij0076_01 ∧ hd.heap_39 = hd.heap_39 := by
  k_fill
  exact ⟨rfl, rfl⟩
local macro_rules | `(tactic| walk_at "call type:zip") => `(tactic| (k_here; refine stuckP ?_))
local macro_rules | `(tactic| walk_at "eval ListComp") => `(tactic| (k_here; refine stuckP ?_))
local macro_rules | `(tactic| walk_at "subscriptTail") => `(tactic| (k_here; refine stuckP ?_))
local macro_rules | `(tactic| walk_at "call builtin:min") => `(tactic| (k_here; refine stuckP ?_))
local macro_rules | `(tactic| walk_at "eval Name") => `(tactic| (k_here; refine wpAny_Name (wpAny_loadName_cell rfl rfl rfl (by assumption) ?_)))
local macro_rules | `(tactic| walk_at "eval Name") => `(tactic| (k_here; refine wpAny_Name (wpAny_loadName_local rfl rfl (Fr.ns (by assumption)) (by assumption) ?_)))
theorem item_last {prog : Program} {w : World} {A : Around} {E : Value → Shared → Prop} {s : Shared} {value slice : PySem.Expr} {l : Addr} {pre : List Value} {x : Value} {u : Tok} {Q : Value → Shared → Prop} (hl : s.heap.IsList l (pre ++ [x]).toArray) (h : Q x s)
    (hs : subscripted slice false (.ref l) (.int (-1) u) = operate [.ref l, .int (-1) u] (getItem (.ref l) (.int (-1) u)) := by with_unfolding_all rfl) :
    wpAny (model prog w) A (subscriptTail value slice (.ref l) (.int (-1) u)) Q E s := by
  have e : (-1 + (((pre ++ [x]).toArray.size : Nat) : Int)).toNat = pre.length := by simp; omega
  exact subscriptTail_builtinR hl.typeIs slot_list_getitem.lookup (wpAny_getItem_list_neg (Q := fun r s' => r = x ∧ Q r s') hl (by decide) (by simp; omega) (by decide) (by rw [e]; simp) ⟨rfl, h⟩) hs
noncomputable def minP (M : Int) (q : Value × Value) : Bool := match q.2 with | .int n _ => decide (n = M) | _ => false
section
variable {w : World} {p : Program} {loose : List Str} {mean : ExcName → Option Value} {mg mb : Str → Option Value} {h₀ : Heap} {s : Shared} {L fa : Addr} {m : Str → Option Value} {E : Value → Shared → Prop} {Q : Flow → Shared → Prop} {t41 t69 : Array Value} {v3 : Option Value}
theorem st9 {D D2 D4 : Addr} {zs : List ((Str × Tok) × Tok)} {x0 : Str × Tok} {tl ts : Tok}
    (X : (hd.heap_39 w.params).In h₀) (T : Top p loose mean mg mb h₀) (B : Below callerA h₀ [] h₀) (Y : LW h₀ s.heap L m (some (.ref D)) (some (.ref D2)) v3 t41 t69)
    (m1 : m "longest" = some (.str (foldTo (pick3 fK) x0.1 ((zs.map (·.1)).drop 1)) tl)) (m2 : m "shortest" = some (.str (foldTo (pick4 fK) x0.1 ((zs.map (·.1)).drop 1)) ts)) (m3 : m "falling" = some (.ref D4))
    (hl : s.heap.IsList D ((zs.map pairV).map (·.1)).toArray) (hD : D ∉ SL L) (hl2 : s.heap.IsList D2 ((zs.map pairV).map (·.2)).toArray) (hD2 : D2 ∉ SL L) (hf : s.heap.IsList D4 (outs (zs.map pairV) down21 21).toArray) (ok : TextsOk zs) (h0 : (zs.map (·.1))[0]? = some x0)
    (h : ∀ h' tk, LW h₀ h' L m (some (.ref D)) (some (.ref D2)) v3 t41 t69 → KS (SL L) s.heap h' → Q .next { s with heap := h', toks := tk }) :
    wpAny (model Pr w) (callerA.deeper (lawEnv L fa)) (exec (lawSt 9) (lawEnv L fa)) Q E s := by
  have e1 := scope_of rfl
  have e2 := if_of (k := 9) (body_of rfl) rfl
  rw [lawEnv, e1, lawSt, e2]
  clear e1 e2
  have F := Y.F
  have N : News h₀ L s.heap [] := News.nil
  k_steps
  unfold StuckP
  obtain ⟨zl, rl, eo, el⟩ := longest_eq ok.good h0
  refine item_listL hf (Int.le_refl 0) (by decide) (x := valOf zl) (by rw [eo]; rfl) ?_
  refine PyProof.Rows.ne_str ?_
  rw [el]
  simp only [bne_self_eq_false]
  k_steps
  unfold StuckP
  obtain ⟨z, hzm, es, hmin, lz, ez⟩ := shortest_eq ok.good h0
  have nD : D ≠ L := fun q => hD (by rw [q]; simp [SL])
  have nD2 : D2 ≠ L := fun q => hD2 (by rw [q]; simp [SL])
  have le := ok.le
  refine one_comp (p := minP (longOf z.1.1)) (pairs := zs.map pairV) (l1 := D) (l2 := D2) (L₀ := L) (m₀ := m) rfl rfl (by decide) rfl (by decide) rfl rfl F.ns ?_ nD nD2 ?_ (by rw [List.length_map, sizeLine_eq]; omega) (fun _ => rfl) ?_
  · have hc1 : s.heap.IsCell (L + 1) (some (.ref D)) := Y.c1
    have hc2 : s.heap.IsCell (L + 2) (some (.ref D2)) := Y.c2
    k_steps
    unfold StuckP
    exact zip_start (s := { s with toks := s.toks + 1 }) (s₂ := s) hl hl2 ⟨_, rfl⟩
  · intro C q s₂ m₂ E' hq hns hCL hlong hnL k2
    obtain ⟨u, hu, rfl⟩ := List.mem_map.mp hq
    have Y2 : LW h₀ s₂.heap L m (some (.ref D)) (some (.ref D2)) v3 t41 t69 := Y.loce k2 hnL
    have hl22 : s₂.heap.IsList D2 ((zs.map pairV).map (·.2)).toArray := let ⟨o, e, r⟩ := hl2; ⟨o, k2 _ _ nD2 e, r⟩
    clear F N
    have F := Y2.F
    have N : News h₀ L s₂.heap [] := News.nil
    have hc2 : s₂.heap.IsCell (L + 2) (some (.ref D2)) := Y2.c2
    refine wpAny_isTrue_Compare1 (wpAny_Name (wpAny_loadName_local rfl rfl hns hlong ?_))
    k_steps
    unfold StuckP
    have hi : IntsAre ((zs.map pairV).map (·.2)) (zs.map fun z => longOf z.1.1) := by
      rw [List.map_map]; exact longs_ints zs
    refine min_keep Y2.F hl22 hi (by rw [List.length_map]; exact List.length_pos_of_mem hzm) rfl fun M t s' hk hM hall => ?_
    refine eq_int (wpAny_truthy_bool ⟨?_, hk⟩)
    obtain ⟨v, hv, rfl⟩ := List.mem_map.mp hM
    have e : longOf v.1.1 = longOf z.1.1 := Int.le_antisymm (hall _ (List.mem_map.mpr ⟨z, hzm, rfl⟩)) (hmin v hv)
    rw [e]
    rfl
  · intro D5 h5 tk5 hl5 hD5 hn5 hk5
    have Y5 := Y.loce hk5 hn5
    have k5 : KS (SL L) s.heap h5 := fun b o hb e => hk5 b o (fun q => hb (by rw [show b = L from q]; simp [SL])) e
    have el5 : ((zs.map pairV).filter (minP (longOf z.1.1))).map (·.1) = (lz ++ [z]).map fun u => valOf u.1 := by
      rw [← ez, List.filter_map, List.map_map]; rfl
    rw [el5] at hl5
    clear F N
    have F := Y5.F
    have N : News h₀ L h5 [] := News.nil
    k_steps
    unfold StuckP
    rw [List.map_append] at hl5
    refine item_last hl5 ?_
    refine PyProof.Rows.ne_str ?_
    rw [es]
    simp only [bne_self_eq_false]
    k_steps
    exact h _ _ Y5 k5
end
end Mine
end
section
open PySem PySem.W PyProof.Rows PySem.Calls
set_option maxRecDepth 100000
set_option maxHeartbeats 2000000
namespace Mine
theorem lawBody_len : lawBody.length = 11 := by kernel_rfl
theorem stp {k : Nat} (h : k < 11) : lawBody.drop k = lawBody.getD k default :: lawBody.drop (k + 1) := by
  have h' : k < lawBody.length := by rw [lawBody_len]; exact h
  rw [List.drop_eq_getElem_cons h', List.getD_eq_getElem?_getD, List.getElem?_eq_getElem h']; rfl
theorem isl_ks {S : List Addr} {h h' : Heap} {a : Addr} {v : Array Value} (k : KS S h h') (ha : a ∉ S) (x : h.IsList a v) : h'.IsList a v := let ⟨o, e, r⟩ := x; ⟨o, k _ _ ha e, r⟩
theorem map_fst (zs : List ((Str × Tok) × Tok)) : (zs.map pairV).map (·.1) = (zs.map (·.1)).map valOf := by rw [List.map_map, List.map_map]; rfl
theorem map_snd (zs : List ((Str × Tok) × Tok)) : (zs.map pairV).map (·.2) = zs.map longV := by rw [List.map_map]; rfl
section
variable {w : World} {p : Program} {loose : List Str} {mean : ExcName → Option Value} {mg mb : Str → Option Value} {h₀ : Heap} {s : Shared} {L fa l0 : Addr} {m : Str → Option Value} {E : Value → Shared → Prop} {Q : Flow → Shared → Prop}
theorem ex_step (k : Nat) (hk : k < 11) (h : wpAny (model Pr w) (callerA.deeper (lawEnv L fa)) (exec (lawSt k) (lawEnv L fa)) (fun f s' => match f with | .next => wpAny (model Pr w) (callerA.deeper (lawEnv L fa)) (execs (lawBody.drop (k + 1)) (lawEnv L fa)) Q E s' | f => Q f s') E s) :
    wpAny (model Pr w) (callerA.deeper (lawEnv L fa)) (execs (lawBody.drop k) (lawEnv L fa)) Q E s := by
  rw [stp hk]
  exact wpAny_execs_cons h
theorem law_runs {vs : List Value} {ns : List Int} {w1 w2 w3 : Obj} (X : (hd.heap_39 w.params).In h₀) (T : Top p loose mean mg mb h₀) (B : Below callerA h₀ [] h₀) (F : Fr h₀ L s.heap m)
    (N : News h₀ L s.heap [(L + 3, w3), (L + 2, w2), (L + 1, w1), (41, tabObj #[]), (69, tabObj #[])]) (hw1 : w1.data = .cell none) (hw2 : w2.data = .cell none) (hw3 : w3.data = .cell none)
    (hm : m "script" = some (.ref l0)) (hl : h₀.IsList l0 vs.toArray) (hI : IntsAre vs ns) (hlen : ¬ 63 < ns.length) (C2 : CodeHd h₀ 71 69) (n41 : h₀.get? 41 = none) (n69 : h₀.get? 69 = none)
    (h : ∀ h' tk m', Fr h₀ L h' m' → (∃ t, h'.get? 41 = some (tabObj t)) → (∃ t, h'.get? 69 = some (tabObj t)) → Q (.ret (.bool true)) { s with heap := h', toks := tk }) :
    wpAny (model Pr w) (callerA.deeper (lawEnv L fa)) (execs lawBody (lawEnv L fa)) Q E s := by
  show wpAny _ _ (execs (lawBody.drop 0) _) _ _ _
  refine ex_step 0 (by decide) (st0 X T B F N hw1 hw2 hw3 hm hl hI hlen fun h1 k1 D xs Y1 l1 g1 n1 o1 => ?_)
  refine ex_step 1 (by decide) (st1 X T B Y1 C2 n41 n69 fun h2 k2 C1 N1 P1 f14 f15 cK PK c4 c5 c6 c7 c8 c9 L1 K1 lam1a lc1 Y2 s2 KT offs Z1 => ?_)
  refine ex_step 2 (by decide) (st2 X T B Y2 C2 KT offs n69 fun h3 k3 C2a N2 P2 f24 f25 L2 K2 lam2a lc2 t69 Y3 et s3 Z2 => ?_)
  obtain ⟨ta, tb, rfl⟩ := et
  have l3 := isl_ks s3 o1 (isl_ks s2 o1 l1)
  refine ex_step 3 (by decide) (st3 X T B Y3 l3 g1 (by rw [n1]; omega) fun h4 k4 D2 zs Y4 s4 l42 ez o2 => ?_)
  subst ez
  rw [List.length_map] at n1
  have hz : zs.length ≤ 11 := by rw [n1]; omega
  have ok : TextsOk zs := ⟨fun z hz => g1 z.1 (List.mem_map.mpr ⟨z, hz, rfl⟩), by rw [n1]; omega, hz⟩
  have l4 := isl_ks s4 o1 l3
  rw [← map_fst] at l4
  rw [← map_snd] at l42
  refine ex_step 4 (by decide) (st4 X T B Y4 l4 l42 hz fun h5 k5 D3 Y5 s5 l53 o3 => ?_)
  have l5 := isl_ks s5 o1 l4
  have l52 := isl_ks s5 o2 l42
  refine ex_step 5 (by decide) (st5 X T B Y5 l5 l52 hz fun h6 k6 D4 Y6 s6 l64 o4 => ?_)
  have l6 := isl_ks s6 o1 l5
  have l62 := isl_ks s6 o2 l52
  have l63 := isl_ks s6 o3 l53
  have Z16 := (((Z1.ks s3).ks s4).ks s5).ks s6
  have Z26 := ((Z2.ks s4).ks s5).ks s6
  refine ex_step 6 (by decide) (st6 X T B Y6 Z16 Z26 rfl rfl rfl (by rw [← map_fst]; exact l6) l63 l64 ok fun h7 k7 s7 => ?_)
  have Y7 := Y6.keeps s7
  have s7' : KS (SL L) h6 h7 := KS.of s7
  have l7 := isl_ks s7' o1 l6
  have l72 := isl_ks s7' o2 l62
  have l74 := isl_ks s7' o4 l64
  have Z17 := Z16.ks s7'
  obtain ⟨x0, h0⟩ : ∃ x0, (zs.map (·.1))[0]? = some x0 := by
    cases zs with
    | nil => exact absurd n1 (by rw [List.length_nil]; omega)
    | cons z _ => exact ⟨z.1, rfl⟩
  have hz' : (zs.map (·.1)).length ≤ 11 := by rw [List.length_map]; exact hz
  refine ex_step 7 (by decide) (st7 X T B Y7 C2 n69 Z17 (by rw [← map_fst]; exact l7) o1 g1 hz' h0 fun h8 k8 tl tc Y8 s8 => ?_)
  have l8 := isl_ks s8 o1 l7
  refine ex_step 8 (by decide) (st8 X T B Y8 C2 n69 (Z17.ks s8) (by rw [← map_fst]; exact l8) o1 g1 hz' h0 fun h9 k9 ts td Y9 s9 => ?_)
  have l9 := isl_ks s9 o1 l8
  have l92 := isl_ks s9 o2 (isl_ks s8 o2 l72)
  have l94 := isl_ks s9 o4 (isl_ks s8 o4 l74)
  refine ex_step 9 (by decide) (st9 X T B Y9 rfl rfl rfl l9 o1 l92 o2 l94 ok h0 fun h10 k10 Y10 s10 => ?_)
  refine ex_step 10 (by decide) (st10 X T B Y10 C2 n41 n69 (by rw [← map_fst]; exact isl_ks s10 o1 l9) o1 (by rw [← map_snd]; exact isl_ks s10 o2 l92) o2 ok fun h11 k11 F11 g1 g2 => ?_)
  exact h h11 k11 _ F11 g1 g2
end
end Mine
end
section
open PySem PySem.W PyProof.Rows PySem.Calls
namespace Mine
theorem resetV15 {prog : Program} {w : World} {A : Around} {E : Value → Shared → Prop} {s : Shared} {b : Bool} : wpAny (model prog w) A (truthy (.bool b)) (fun _ _ => True) E s := by
  w_top off
  walk1
  all_goals trivial
end Mine
end
section
open PySem PySem.W PyProof.Rows PySem.Calls
set_option maxRecDepth 100000
set_option maxHeartbeats 2000000
namespace Mine
section
variable {w : World} {p : Program} {loose : List Str} {mean : ExcName → Option Value} {mg mb : Str → Option Value} {h₀ : Heap} {s : Shared} {L fa l0 : Addr} {m : Str → Option Value} {E : Value → Shared → Prop} {Q : Flow → Shared → Prop}
theorem law_runs_at {vs : List Value} {ns : List Int} {w1 w2 w3 : Obj} {b : List Stmt} {sc : Scope} (eb : lawBody = b) (es : lawScope = sc) (X : (hd.heap_39 w.params).In h₀) (T : Top p loose mean mg mb h₀) (B : Below callerA h₀ [] h₀) (F : Fr h₀ L s.heap m)
    (N : News h₀ L s.heap [(L + 3, w3), (L + 2, w2), (L + 1, w1), (41, tabObj #[]), (69, tabObj #[])]) (hw1 : w1.data = .cell none) (hw2 : w2.data = .cell none) (hw3 : w3.data = .cell none)
    (hm : m "script" = some (.ref l0)) (hl : h₀.IsList l0 vs.toArray) (hI : IntsAre vs ns) (hlen : ¬ ((63 : Nat) : Int) < (ns.length : Int)) (C2 : CodeHd h₀ 71 69)
    (h : ∀ h' tk m', Fr h₀ L h' m' → (∃ t, h'.get? 41 = some (tabObj t)) → (∃ t, h'.get? 69 = some (tabObj t)) → Q (.ret (.bool true)) { s with heap := h', toks := tk }) :
    wpAny (model Pr w) (callerA.deeper (envOfC "law" sc L fa (.ref 71))) (execs b (envOfC "law" sc L fa (.ref 71))) Q E s := by
  subst eb es
  exact law_runs X T B F N hw1 hw2 hw3 hm hl hI (by omega) C2 (N _ (.tail _ (.tail _ (.tail _ (.head _))))).2.2 (N _ (.tail _ (.tail _ (.tail _ (.tail _ (.head _)))))).2.2 h
end
theorem law_holds : PySem.Challenge.rw_ij0076_01.Holds := hd (by
  k_go0; (all_goals try k_fold)
  rename CellsAre _ _ _ => hc
  rename (Frag.In _ _) => hX
  rename (Top topProg _ _ _ _ _) => hT
  rename (Below _ _ _ _) => hB
  rename (Fr _ _ _ _) => hF
  rename (News _ _ _ _) => hN
  rename (Heap.IsList (ghostOf _ _) _ _) => hL
  rename (IntsAre _ _) => hI
  rename (¬ _) => hlen
  rename (Shared.gens _ = _) => hg
  refine law_runs_at (body_of rfl) (scope_of rfl) hX hT hB hF hN ?w1 ?w2 ?w3 ?hm hL hI hlen ?C2 ?h
  case w1 => assumption
  case w2 => assumption
  case w3 => assumption
  case hm => rfl
  case C2 => assumption
  case h =>
    intro h' tk m' F g1 g2
    refine ⟨?_, g1, g2, trivial⟩
    dsimp only
    k_steps
    done)
end Mine
end
theorem PySem.Challenge.cw_ij0076_01_holds : PySem.Challenge.rw_ij0076_01.Holds :=
  Mine.law_holds
