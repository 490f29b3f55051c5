import PyProof.Rows.All
import Wide.All
import OpenK.AllK
import Wide.FinOn
import Open.Pieces
import Open.Tree
import PySem.Challenge.RW_tc0086_01
open PySem PySem.W PyProof.Rows
set_option Elab.async false
set_option maxRecDepth 100000
namespace Mine
section
open PySem
open StrLaws Builtin.Str
/-- a text out of its signs -/
noncomputable abbrev T (l : List Nat) : Str := ⟨l.toArray⟩
noncomputable def sub1 (c : Nat) (z l : List Nat) : List Nat := l.flatMap fun d => if d = c then z else [d]
theorem sub1_append (c : Nat) (z a b : List Nat) : sub1 c z (a ++ b) = sub1 c z a ++ sub1 c z b := List.flatMap_append
theorem sub1_free (c : Nat) (z : List Nat) : ∀ l : List Nat, c ∉ l → sub1 c z l = l
  | [], _ => rfl
  | k :: r, h => by
    have h1 : ¬ k = c := fun e => h (e ▸ List.mem_cons_self ..)
    have h2 : c ∉ r := fun m => h (List.mem_cons_of_mem _ m)
    have ih := sub1_free c z r h2
    unfold sub1 at ih ⊢
    rw [List.flatMap_cons, if_neg h1, ih]; rfl
theorem sub1_one (c : Nat) (z : List Nat) : sub1 c z [c] = z := by simp [sub1]
theorem sub1_join (c : Nat) (z : Str) : ∀ parts : List Str, (∀ p ∈ parts, c ∉ p.cps.toList) → sub1 c z.cps.toList (Str.join ⟨#[c]⟩ parts).cps.toList = (Str.join z parts).cps.toList
  | [], _ => rfl
  | [p], h => sub1_free c _ _ (h p (List.mem_singleton.mpr rfl))
  | p :: q :: r, h => by
    have ih := sub1_join c z (q :: r) fun a ha => h a (List.mem_cons_of_mem _ ha)
    show sub1 c z.cps.toList (p ++ ⟨#[c]⟩ ++ Str.join ⟨#[c]⟩ (q :: r)).cps.toList = (p ++ z ++ Str.join z (q :: r)).cps.toList
    simp only [Str.cps_append, Array.toList_append]
    rw [sub1_append, sub1_append, ih, sub1_free c _ _ (h p (List.mem_cons_self ..))]
    show p.cps.toList ++ sub1 c _ [c] ++ _ = _
    rw [sub1_one]
theorem replace_list (x z : Str) (c : Nat) : (Txt.replace x ⟨#[c]⟩ z).cps.toList = sub1 c z.cps.toList x.cps.toList := by
  rw [replace_one, ← sub1_join c z _ (split_free x c), join_split]
theorem str_ext {x y : Str} (h : x.cps.toList = y.cps.toList) : x = y := by
  cases x; cases y; congr; exact Array.toList_inj.mp h
theorem replace_T (l z : List Nat) (c : Nat) : Txt.replace (T l) (T [c]) (T z) = T (sub1 c z l) := str_ext (replace_list (T l) (T z) c)
theorem replace_free (x z : Str) (c : Nat) (h : c ∉ x.cps.toList) : Txt.replace x ⟨#[c]⟩ z = x := str_ext (by rw [replace_list, sub1_free c _ _ h])
theorem contains_one (x : Str) (c : Nat) : Txt.contains x ⟨#[c]⟩ = decide (c ∈ x.cps.toList) := found_one x c
theorem replace_unless (x z : Str) (c : Nat) (h : Txt.contains x ⟨#[c]⟩ = false) : Txt.replace x ⟨#[c]⟩ z = x := replace_free x z c (by rw [contains_one] at h; exact of_decide_eq_false h)
/-- what a hand does, replacement by replacement -/
noncomputable def escs : List (Str × Str) → Str → Str
  | [], x => x
  | p :: r, x => escs r (Txt.replace x p.1 p.2)
noncomputable def Fit : List (Str × Str) → Str → Prop
  | [], _ => True
  | p :: r, x => x.length + (x.length + 1) * p.2.length ≤ 16777216 ∧ Fit r (Txt.replace x p.1 p.2)
end
section
/-- a big-step evaluator for trees over a heap kept as a tree of objects -/
noncomputable def ev (den : Code → Sem Fin) (p : Program) (w : World) : Nat → Ctx → Pos → Sem Fin → SharedT → Option (Result × SharedT)
  | 0, _, _, _, _ => none
  | n + 1, Γ, pos, t, ⟨T, m, life, gens, drawn, toks, os⟩ => match t with
    | .pure (.done f) => some (.ok f, ⟨T, m, life, gens, drawn, toks, os⟩)
    | .pure (.again c) => match c.quiet with
      | true => ev den p w n (Γ.goto c) pos (den c) ⟨T, m, life, gens, drawn, toks, os⟩
      | false => none
    | .raise e => some (.error e, ⟨T, m, life, gens, drawn, toks, os⟩)
    | .rule _ k => ev den p w n Γ pos (k ()) ⟨T, m, life, gens, drawn, toks, os⟩
    | .at p' k => ev den p w n Γ p' (k ()) ⟨T, m, life, gens, drawn, toks, os⟩
    | .load a _ k => match Nat.blt a m with
      | true => match T.get a with
        | some o => match alive o with
          | some o' => ev den p w n Γ pos (k o') ⟨T, m, life, gens, drawn, toks, os⟩
          | none => none
        | none => none
      | false => none
    | .update a _ f k => match Nat.blt a m with
      | true => match T.get a with
        | some o => match alive o with
          | some _ => ev den p w n Γ pos (k ()) ⟨T.set a f, m, life, gens, drawn, toks, os⟩
          | none => none
        | none => none
      | false => none
    | .alloc o k => match ((T.ins m o).get m).isSome with
      | true => ev den p w n Γ pos (k m) ⟨T.ins m o, m + 1, life, gens, drawn, toks, os⟩
      | false => none
    | .loadIfAlive a k => match Nat.blt a m with
      | true => match T.get a with
        | some o => ev den p w n Γ pos (k (alive o)) ⟨T, m, life, gens, drawn, toks, os⟩
        | none => none
      | false => ev den p w n Γ pos (k none) ⟨T, m, life, gens, drawn, toks, os⟩
    | .point _ k => ev den p w n Γ pos (k ()) ⟨T, m, life, gens, drawn, toks, os⟩
    | .fresh k => ev den p w n Γ pos (k toks) ⟨T, m, life, gens, drawn, toks + 1, os⟩
    | .ask k => ev den p w n Γ pos (k ⟨p, w.params⟩) ⟨T, m, life, gens, drawn, toks, os⟩
    | .handled own k => ev den p w n Γ pos (k (if own then Γ.own else Γ.handled)) ⟨T, m, life, gens, drawn, toks, os⟩
    | .stack k => ev den p w n Γ pos (k ((Γ.code, pos) :: Γ.below)) ⟨T, m, life, gens, drawn, toks, os⟩
    | .call c h _ _ k => match ev den p w n (Γ.enter c h pos) pos (den c) ⟨T, m, life, gens, drawn, toks, os⟩ with
      | some (r, s₁) => ev den p w n Γ pos (k r) s₁
      | none => none
    | _ => none

theorem get_abs {T : BT} {m a : Nat} {life : Life} {o o' : Obj} (lt : Nat.blt a m = true) (g : T.get a = some o) (al : alive o = some o') : (absHeap T m life).get? a = some o' := by
  rw [abs_get (Nat.le_of_ble_eq_true lt) g, al]

theorem ev_runs {den : Code → Sem Fin} {p : Program} {w : World} : ∀ (n : Nat) (Γ : Ctx) (pos : Pos) (t : Sem Fin) (s : SharedT) (r : Result) (s' : SharedT), ev den p w n Γ pos t s = some (r, s') →
    Runs ⟨den, p, w⟩ Γ pos t [] s.abs (.ret r) s'.abs := by
  intro n
  induction n with
  | zero => intro _ _ _ s _ _ h; cases s; replace h : (none : Option (Result × SharedT)) = some _ := h; cases h
  | succ n ih =>
    intro Γ pos t s r s' h
    obtain ⟨T, m, life, gens, drawn, toks, os⟩ := s
    cases t with
    | pure f =>
      cases f with
      | done f => replace h : some ((Except.ok f : Result), (⟨T, m, life, gens, drawn, toks, os⟩ : SharedT)) = some (r, s') := h; obtain ⟨rfl, rfl⟩ := Prod.mk.inj (Option.some.inj h); exact .done
      | again c =>
        replace h : (match c.quiet with | true => ev den p w n (Γ.goto c) pos (den c) ⟨T, m, life, gens, drawn, toks, os⟩ | false => none) = some (r, s') := h
        cases q : c.quiet with
        | false => rw [q] at h; cases h
        | true => rw [q] at h; exact .again q (ih _ _ _ _ _ _ h)
    | raise e => replace h : some ((Except.error e : Result), (⟨T, m, life, gens, drawn, toks, os⟩ : SharedT)) = some (r, s') := h; obtain ⟨rfl, rfl⟩ := Prod.mk.inj (Option.some.inj h); exact .raise
    | rule tag k => exact .rule (ih _ _ _ _ _ _ h)
    | «at» p' k => exact .at (ih _ _ _ _ _ _ h)
    | load a part k =>
      replace h : (match Nat.blt a m with | true => (match T.get a with | some o => (match alive o with | some o' => ev den p w n Γ pos (k o') ⟨T, m, life, gens, drawn, toks, os⟩ | none => none) | none => none) | false => none) = some (r, s') := h
      cases e : Nat.blt a m with
      | false => simp only [e] at h; cases h
      | true =>
        cases g : T.get a with
        | none => simp only [e, g] at h; cases h
        | some o =>
          cases al : alive o with
          | none => simp only [e, g, al] at h; cases h
          | some o' =>
            simp only [e, g, al] at h
            exact .load (get_abs e g al) (ih _ _ _ _ _ _ h)
    | update a part f k =>
      replace h : (match Nat.blt a m with | true => (match T.get a with | some o => (match alive o with | some _ => ev den p w n Γ pos (k ()) ⟨T.set a f, m, life, gens, drawn, toks, os⟩ | none => none) | none => none) | false => none) = some (r, s') := h
      cases e : Nat.blt a m with
      | false => simp only [e] at h; cases h
      | true =>
        cases g : T.get a with
        | none => simp only [e, g] at h; cases h
        | some o =>
          cases al : alive o with
          | none => simp only [e, g, al] at h; cases h
          | some o' =>
            simp only [e, g, al] at h
            have := ih _ _ _ _ _ _ h
            refine .update (by show ((absHeap T m life).get? a).isSome = true; rw [get_abs e g al]; rfl) ?_
            show Runs _ _ _ _ _ ⟨(absHeap T m life).update a f, gens, drawn, toks, os⟩ _ _
            rw [← absHeap_set g]
            exact this
    | alloc o k =>
      replace h : (match ((T.ins m o).get m).isSome with | true => ev den p w n Γ pos (k m) ⟨T.ins m o, m + 1, life, gens, drawn, toks, os⟩ | false => none) = some (r, s') := h
      cases e : ((T.ins m o).get m).isSome with
      | false => simp only [e] at h; cases h
      | true =>
        simp only [e] at h
        have := ih _ _ _ _ _ _ h
        refine .alloc ?_
        show Runs _ _ _ (k (absHeap T m life).objs.size) _ ⟨(absHeap T m life).push o, gens, drawn, toks, os⟩ _ _
        rw [← absHeap_ins e, absHeap_size]
        exact this
    | loadIfAlive a k =>
      replace h : (match Nat.blt a m with | true => (match T.get a with | some o => ev den p w n Γ pos (k (alive o)) ⟨T, m, life, gens, drawn, toks, os⟩ | none => none) | false => ev den p w n Γ pos (k none) ⟨T, m, life, gens, drawn, toks, os⟩) = some (r, s') := h
      refine .loadIfAlive ?_
      show Runs _ _ _ (k ((absHeap T m life).get? a)) _ _ _ _
      cases e : Nat.blt a m with
      | false =>
        simp only [e] at h
        have lt : ¬ a < m := fun q => by rw [show Nat.blt a m = true from Nat.ble_eq_true_of_le q] at e; cases e
        rw [abs_get_none lt]
        exact ih _ _ _ _ _ _ h
      | true =>
        cases g : T.get a with
        | none => simp only [e, g] at h; cases h
        | some o =>
          simp only [e, g] at h
          rw [abs_get (Nat.le_of_ble_eq_true e) g]
          exact ih _ _ _ _ _ _ h
    | point l k => exact .point (ih _ _ _ _ _ _ h)
    | fresh k => exact .fresh (ih _ _ _ _ _ _ h)
    | ask k => exact .ask (ih _ _ _ _ _ _ h)
    | handled own k => exact .handled (ih _ _ _ _ _ _ h)
    | stack k => exact .stack (ih _ _ _ _ _ _ h)
    | call c hd g l k =>
      replace h : (match ev den p w n (Γ.enter c hd pos) pos (den c) ⟨T, m, life, gens, drawn, toks, os⟩ with | some (r, s₁) => ev den p w n Γ pos (k r) s₁ | none => none) = some (r, s') := h
      cases e : ev den p w n (Γ.enter c hd pos) pos (den c) ⟨T, m, life, gens, drawn, toks, os⟩ with
      | none => simp only [e] at h; cases h
      | some x =>
        obtain ⟨r₁, s₁⟩ := x
        simp only [e] at h
        exact .call (ih _ _ _ _ _ _ e) (ih _ _ _ _ _ _ h)
    | _ => cases h

/-- what the evaluator finds, as a weakest precondition of a tree of any kind -/
theorem ev_wp {den : Code → Sem Fin} {p : Program} {w : World} {n : Nat} {Γ : Ctx} {pos : Pos} {α : Type} {t : Sem α} {K : α → Flow} {s : SharedT} {f : Flow} {s' : SharedT}
    (h : ev den p w n Γ pos (t.bind fun a => .pure (.done (K a))) s = some (.ok f, s')) : Sem.wp ⟨den, p, w⟩ Γ t (fun a _ x => K a = f ∧ x = s'.abs) (fun _ _ _ => False) pos s.abs := by
  have h1 := (Sem.wp_iff_runs ⟨den, p, w⟩ Γ (t.bind fun a => .pure (.done (K a))) (fun r x => r = .ok f ∧ x = s'.abs) pos s.abs).mpr ⟨_, _, ev_runs _ _ _ _ _ _ _ h, rfl, rfl⟩
  rw [Sem.wp_bind] at h1
  refine Sem.wp_mono _ _ _ (fun a p' x q => ?_) (fun e p' x q => ?_) _ _ h1
  · obtain ⟨q1, q2⟩ : (Except.ok (K a) : Result) = .ok f ∧ x = s'.abs := by simpa only [Sem.wp_pure, Sem.finPost] using q
    exact ⟨by injection q1, q2⟩
  · cases q.1
end
section
/-- takes a goal apart from what is taken to pieces: the motives then hold a variable -/
theorem veil {G : Prop} (h : ∀ V : Prop, (G → V) → V) : G := h G id
theorem runs_life {M : Model} {Γ : Ctx} {p : Pos} {t : Sem Fin} {fs : List Frame} {s : Shared} {e : End} {s' : Shared} (h : Runs M Γ p t fs s e s') : s'.heap.life = s.heap.life := by
  induction h <;> simp_all [Shared.setGen, Heap.life_push, update_lifeW]

section
variable {prog : Program} {w : World} {A : Around} {E : Value → Shared → Prop} {s : Shared}

theorem dictPut_new {d : Addr} {kvs : List (Int × Value)} {k : Int} {key v : Value} {Q : Unit → Shared → Prop} (hkey : (intKind prog w).is k key = true) (hm : s.heap.DictOf (intKind prog w) d kvs) (hn : k ∉ kvs.map (·.1))
    (hQ : ∀ h', h'.DictOf (intKind prog w) d (kvs ++ [(k, v)]) → Heap.SameBut d s.heap h' → h'.life = s.heap.life → Q () { s with heap := h' }) (hsz : kvs.length ≤ sizeLine) :
    wpAny (model prog w) A (dictPut d ((intKind prog w).hash k) key v) Q E s := by
  refine veil fun vG hG => ?_; obtain ⟨o, es, ep, ho, hc, hd, hk, hp, hnd⟩ := hm; refine hG ?_; clear hG vG
  have hes : es.size ≤ sizeLine := by
    have e1 := hp.length
    have e2 : es.toList.length = es.size := by simp
    omega
  unfold dictPut
  refine wpAny_bind (wpAny_dictFind_of hkey ho hd hk ?_)
  have hidx : (es.findIdx? fun e => (intKind prog w).is k e.key) = kvs.findIdx? fun kv => decide (kv.1 = k) := by
    rw [← hp.findIdx k]; obtain ⟨l⟩ := es; simp
  cases hi : es.findIdx? fun e => (intKind prog w).is k e.key with
  | some i =>
    have := any_of_findIdx_some (hidx ▸ hi)
    rw [List.any_eq_true] at this
    obtain ⟨kv, hkv, he⟩ := this
    exact absurd (List.mem_map.mpr ⟨kv, hkv, of_decide_eq_true he⟩) hn
  | none =>
    refine wpAny_updateDictKeys (hz := hes) ho hd (hQ _ ⟨_, _, ep + 1, Heap.get?_update_self _ ho (Obj.isFreed_of_dict (Obj.data_mapDictKeys hd _)),
      hc.mapDictKeys _, Obj.data_mapDictKeys hd _, hk.push hkey _, ?_, ?_⟩ (Heap.SameBut.update ..) (update_lifeW ..))
    · have := hp.append hkey ((intKind prog w).hash k) v
      obtain ⟨l⟩ := es
      simpa using this
    · rw [List.map_append, List.nodup_append]
      refine ⟨hnd, by simp, ?_⟩
      intro a ha b hb
      simp only [List.map_cons, List.map_nil, List.mem_singleton] at hb
      subst hb
      exact fun e => hn (e ▸ ha)

theorem dictSet_new {d : Addr} {kvs : List (Int × Value)} {k : Int} {key v : Value} {Q : Unit → Shared → Prop} (hkey : (intKind prog w).is k key = true) (hm : s.heap.DictOf (intKind prog w) d kvs) (hn : k ∉ kvs.map (·.1))
    (hQ : ∀ h', h'.DictOf (intKind prog w) d (kvs ++ [(k, v)]) → Heap.SameBut d s.heap h' → h'.life = s.heap.life → Q () { s with heap := h', toks := s.toks + 1 }) (hsz : kvs.length ≤ sizeLine) :
    wpAny (model prog w) A (dictSet d key v) Q E s := by
  refine veil fun vG hG => ?_; obtain ⟨o, es, ep, ho, hc, hd, hk, hp, hnd⟩ := hm; refine hG ?_; clear hG vG
  have hes : es.size ≤ sizeLine := by
    have e1 := hp.length
    have e2 : es.toList.length = es.size := by simp
    omega
  unfold dictSet
  refine wpAny_holding ?_
  refine wpAny_bind ((intKind prog w).pyHash hkey ?_)
  unfold dictSetHashed
  refine wpAny_holding ?_
  refine wpAny_bind (wpAny_dictFind_of (s := { s with toks := s.toks + 1 }) hkey ho hd hk ?_)
  have hidx : (es.findIdx? fun e => (intKind prog w).is k e.key) = kvs.findIdx? fun kv => decide (kv.1 = k) := by
    rw [← hp.findIdx k]; obtain ⟨l⟩ := es; simp
  cases hi : es.findIdx? fun e => (intKind prog w).is k e.key with
  | some i =>
    have := any_of_findIdx_some (hidx ▸ hi)
    rw [List.any_eq_true] at this
    obtain ⟨kv, hkv, he⟩ := this
    exact absurd (List.mem_map.mpr ⟨kv, hkv, of_decide_eq_true he⟩) hn
  | none =>
    refine wpAny_bind (wpAny_rule (wpAny_updateDictKeys (hz := hes) (s := { s with toks := s.toks + 1 }) ho hd (hQ _ ⟨_, _, ep + 1, Heap.get?_update_self _ ho (Obj.isFreed_of_dict (Obj.data_mapDictKeys hd _)),
      hc.mapDictKeys _, Obj.data_mapDictKeys hd _, hk.push hkey _, ?_, ?_⟩ (Heap.SameBut.update ..) (update_lifeW ..))))
    · have := hp.append hkey ((intKind prog w).hash k) v
      obtain ⟨l⟩ := es
      simpa using this
    · rw [List.map_append, List.nodup_append]
      refine ⟨hnd, by simp, ?_⟩
      intro a ha b hb
      simp only [List.map_cons, List.map_nil, List.mem_singleton] at hb
      subst hb
      exact fun e => hn (e ▸ ha)

/-- one mapping laid into another: the keys are new -/
theorem merge_new {d o : Addr} {kvs more : List (Int × Value)} {Q : Unit → Shared → Prop} (hdo : d ≠ o) (hoS : (o == sysModules) = false) (hne : kvs ≠ [])
    (hd : s.heap.DictOf (intKind prog w) d kvs) (ho : s.heap.DictOf (intKind prog w) o more) (hnd : ((kvs ++ more).map (·.1)).Nodup)
    (hQ : ∀ h', h'.DictOf (intKind prog w) d (kvs ++ more) → Heap.SameBut d s.heap h' → h'.life = s.heap.life → Q () { s with heap := h' })
    (hsz : kvs.length + more.length ≤ sizeLine) :
    wpAny (model prog w) A (mergeMapping d (.ref o) false) Q E s := by
  refine veil fun vG hG => ?_; obtain ⟨od, esd, epd, hod, hcd, hdd, hkd, hpd, hndd⟩ := id hd; refine hG ?_; clear hG vG
  refine veil fun vG hG => ?_; obtain ⟨oo, eso, epo, hoo, hco, hdo', hko, hpo, hno⟩ := id ho; refine hG ?_; clear hG vG
  have hlen : more.length = eso.size := by rw [← hpo.length]; simp
  have hdn : esd.isEmpty = false := by
    have := hpd.length
    cases q : esd.isEmpty with
    | false => rfl
    | true =>
      have h0 : esd = #[] := Array.isEmpty_iff.mp q
      rw [h0] at this
      exact absurd (List.length_eq_zero_iff.mp (by simpa using this.symm)) hne
  unfold mergeMapping
  refine wpAny_bind (wpAny_isInstance (T := "dict") (b := true) ho.typeIs F.sub_dict_dict ?_)
  simp only [if_true]
  refine wpAny_bind (wpAny_specialOf ho.typeIs F.slot_dict_iter.lookup (wpAny_bind (wpAny_pure ?_)))
  simp only [beq_self_eq_true, hoS, Bool.false_eq_true, if_false]
  refine wpAny_bind (wpAny_dictEntries hod hdd ?_)
  simp only [hdn, Bool.false_eq_true, if_false]
  refine wpAny_bind (wpAny_dictEntries hoo hdo' ?_)
  refine wpAny_bind (wpAny_dictEpoch hoo hdo' ?_)
  refine wpAny_bind ?_
  refine wpAny_forIn_list _
      (fun rest _ s' => ∃ h' i, s' = { s with heap := h' } ∧ rest = (List.range eso.size).drop i ∧ i ≤ eso.size ∧ h'.DictOf (intKind prog w) d (kvs ++ more.take i) ∧ h'.get? o = some oo ∧ Heap.SameBut d s.heap h' ∧ h'.life = s.heap.life)
      _ ?_ ?_ _ _ ⟨s.heap, 0, rfl, by simp, Nat.zero_le _, by simpa using hd, hoo, Heap.SameBut.refl _ _, rfl⟩
  · intro x rest b s' z1; refine veil fun vG hG => ?_; obtain ⟨h', i, rfl, hr, hi, hd', hoo', hs', hl'⟩ := z1; refine hG ?_; clear hG vG
    have hlt : i < eso.size := by
      rcases Nat.lt_or_ge i eso.size with h | h
      · exact h
      · rw [List.drop_eq_nil_of_le (by simpa using h)] at hr; cases hr
    rw [List.drop_eq_getElem_cons (by simpa using hlt)] at hr
    injection hr with h1 h2
    rw [List.getElem_range] at h1
    subst h1
    refine wpAny_bind (wpAny_dictEntries hoo' hdo' ?_)
    rw [Array.getElem?_eq_getElem hlt]
    obtain ⟨kv, hkv⟩ : ∃ kv, more[x]? = some kv := ⟨more[x]'(by rw [hlen]; exact hlt), List.getElem?_eq_getElem _⟩
    obtain ⟨k, v⟩ := kv
    obtain ⟨hkey, hval⟩ := hpo.get? (e := eso[x]) (by simp [hlt]) hkv
    obtain ⟨k', hkey', hhash⟩ := hko eso[x] (Array.getElem_mem hlt)
    obtain rfl : k' = k := (intKind prog w).inj _ _ _ hkey' hkey
    dsimp only
    rw [hhash, hval]
    have hnew : k' ∉ (kvs ++ more.take x).map (·.1) := by
      intro hm
      have hcons : more.drop x = (k', v) :: more.drop (x + 1) := by
        rw [List.drop_eq_getElem_cons (by rw [hlen]; exact hlt)]
        rw [List.getElem?_eq_getElem (by rw [hlen]; exact hlt)] at hkv
        rw [Option.some.inj hkv]
      have hsplit : kvs ++ more = (kvs ++ more.take x) ++ ((k', v) :: more.drop (x + 1)) := by
        rw [List.append_assoc, ← hcons, List.take_append_drop]
      rw [hsplit, List.map_append, List.nodup_append] at hnd
      exact hnd.2.2 _ hm _ (by simp) rfl
    refine wpAny_bind (wpAny_holding (dictPut_new hkey hd' hnew (fun h'' hd'' hs'' hl'' => ?_) (by simp; omega)))
    have hoo'' : h''.get? o = some oo := (hs''.2 o (Ne.symm hdo)).trans hoo'
    refine wpAny_bind (wpAny_dictEpoch hoo'' hdo' ?_)
    rw [if_neg (by simp)]
    refine wpAny_pure ⟨h'', x + 1, rfl, h2, hlt, ?_, hoo'', hs'.trans hs'', hl''.trans hl'⟩
    rw [List.take_add_one, hkv]
    simpa using hd''
  · intro b s' z1; refine veil fun vG hG => ?_; obtain ⟨h', i, rfl, hr, hi, hd', hoo', hs', hl'⟩ := z1; refine hG ?_; clear hG vG
    have hin : i = eso.size := by
      rcases Nat.lt_or_ge i eso.size with h | h
      · rw [List.drop_eq_getElem_cons (by simpa using h)] at hr; cases hr
      · exact Nat.le_antisymm hi h
    refine wpAny_pure (hQ h' ?_ hs' hl')
    rw [hin, ← hlen, List.take_length] at hd'; exact hd'

/-- the two trees of a pair of a display, and what they give -/
noncomputable def Gives (prog : Program) (w : World) (p : Sem Value × Sem Value) (d : Int × Str) : Prop :=
  (∀ (A : Around) (E : Value → Shared → Prop) (s : Shared) (Q : Value → Shared → Prop), Q (.int d.1 s.toks) { s with toks := s.toks + 1 } → wpAny (model prog w) A p.1 Q E s) ∧
  (∀ (A : Around) (E : Value → Shared → Prop) (s : Shared) (Q : Value → Shared → Prop), Q (.str d.2 s.toks) { s with toks := s.toks + 1 } → wpAny (model prog w) A p.2 Q E s)
inductive GiveAll (prog : Program) (w : World) : List (Sem Value × Sem Value) → List (Int × Str) → Prop
  | nil : GiveAll prog w [] []
  | cons {p d ps ds} : Gives prog w p d → GiveAll prog w ps ds → GiveAll prog w (p :: ps) (d :: ds)
theorem GiveAll.length {ps : List (Sem Value × Sem Value)} {ds : List (Int × Str)} (h : GiveAll prog w ps ds) : ps.length = ds.length := by
  induction h with
  | nil => rfl
  | cons _ _ ih => simp [ih]
theorem GiveAll.append {ps qs : List (Sem Value × Sem Value)} {ds es : List (Int × Str)} (h : GiveAll prog w ps ds) (g : GiveAll prog w qs es) : GiveAll prog w (ps ++ qs) (ds ++ es) := by
  induction h with
  | nil => exact g
  | cons a _ ih => exact .cons a ih
/-- the texts under their keys, whatever tokens they bear -/
inductive Texts : List (Int × Value) → List (Int × Str) → Prop
  | nil : Texts [] []
  | cons (k : Int) (x : Str) (t : Tok) {kvs ds} : Texts kvs ds → Texts ((k, .str x t) :: kvs) ((k, x) :: ds)
theorem Texts.keys {kvs : List (Int × Value)} {ds : List (Int × Str)} (h : Texts kvs ds) : kvs.map (·.1) = ds.map (·.1) := by
  induction h with
  | nil => rfl
  | cons _ _ _ _ ih => simp [ih]
theorem Texts.length {kvs : List (Int × Value)} {ds : List (Int × Str)} (h : Texts kvs ds) : kvs.length = ds.length := by
  have := congrArg List.length h.keys; simpa using this
theorem Texts.append {kvs lvs : List (Int × Value)} {ds es : List (Int × Str)} (h : Texts kvs ds) (g : Texts lvs es) : Texts (kvs ++ lvs) (ds ++ es) := by
  induction h with
  | nil => exact g
  | cons k x t _ ih => exact .cons k x t ih

theorem isInt_self (k : Int) (t : Tok) : (intKind prog w).is k (.int k t) = true := by show Value.isInt k (.int k t) = true; simp [Value.isInt]

/-- the long way of a display's run -/
theorem long_run {d : Addr} : ∀ (ps : List (Sem Value × Sem Value)) (ds : List (Int × Str)) (kvs : List (Int × Value)) (done : List (Int × Str)) (s : Shared) (Q : PUnit → Shared → Prop), GiveAll prog w ps ds → s.heap.DictOf (intKind prog w) d kvs → Texts kvs done →
    ((done ++ ds).map (·.1)).Nodup → (done ++ ds).length ≤ 1000 →
    (∀ h' kvs', h'.DictOf (intKind prog w) d kvs' → Texts kvs' (done ++ ds) → Heap.SameBut d s.heap h' → h'.life = s.heap.life → Q PUnit.unit { s with heap := h', toks := s.toks + 3 * ds.length }) →
    wpAny (model prog w) A (forIn ps PUnit.unit fun (x : Sem Value × Sem Value) (_ : PUnit) => (do
      let kv ← x.1
      let vv ← holding [kv] x.2
      holding [kv, vv] (dictSet d kv vv)
      pure (ForInStep.yield PUnit.unit) : Sem (ForInStep PUnit))) Q E s := by
  intro ps
  induction ps with
  | nil =>
    intro ds kvs done s Q g hm ht hn hl hQ
    cases g
    rw [List.forIn_nil]
    exact wpAny_pure (by simpa using hQ s.heap kvs hm (by simpa using ht) (Heap.SameBut.refl _ _) rfl)
  | cons p ps ih =>
    intro ds kvs done s Q g hm ht hn hl hQ
    cases g with
    | @cons _ dd _ ds g1 g2 =>
    rw [List.forIn_cons]
    refine wpAny_bind (wpAny_bind (g1.1 _ _ _ _ ?_))
    refine wpAny_bind (wpAny_holding (g1.2 _ _ _ _ ?_))
    have hnew : dd.1 ∉ kvs.map (·.1) := by
      rw [ht.keys]
      rw [List.map_append, List.nodup_append] at hn
      exact fun hm' => hn.2.2 _ hm' _ (by simp) rfl
    have hlen := ht.length
    simp only [List.length_append, List.length_cons] at hl
    refine wpAny_bind (wpAny_holding (dictSet_new (isInt_self _ _) hm hnew (fun h₁ hm₁ hs₁ hl₁ => wpAny_pure ?_) (by rw [sizeLine_eq]; omega)))
    have e : done ++ dd :: ds = (done ++ [dd]) ++ ds := by simp
    refine ih ds _ (done ++ [dd]) _ Q g2 hm₁ (ht.append (.cons dd.1 dd.2 _ .nil)) (by rw [← e]; exact hn) (by simp only [List.length_append, List.length_cons, List.length_nil]; omega) fun h' kvs' a b c f => ?_
    have := hQ h' kvs' a (by rw [e]; exact b) (hs₁.trans c) (f.trans hl₁)
    have e2 : s.toks + 1 + 1 + 1 + 3 * ds.length = s.toks + 3 * (dd :: ds).length := by simp only [List.length_cons]; omega
    rw [← e2] at this
    exact this

inductive PairVals : List (Value × Value) → List (Int × Value) → List (Int × Str) → Prop
  | nil : PairVals [] [] []
  | cons (k : Int) (x : Str) (t u : Tok) {vs kvs ds} : PairVals vs kvs ds → PairVals ((.int k t, .str x u) :: vs) ((k, .str x u) :: kvs) ((k, x) :: ds)
theorem PairVals.texts {vs kvs ds} (h : PairVals vs kvs ds) : Texts kvs ds := by
  induction h with
  | nil => exact .nil
  | cons k x t u _ ih => exact .cons k x u ih
theorem PairVals.carries {vs kvs ds} (h : PairVals vs kvs ds) : Carries (intKind prog w) vs kvs := by
  induction h with
  | nil => trivial
  | cons k x t u _ ih => exact ⟨isInt_self _ _, rfl, ih⟩
theorem PairVals.length {vs kvs ds} (h : PairVals vs kvs ds) : vs.length = ds.length := by
  induction h with
  | nil => rfl
  | cons k x t u _ ih => simp [ih]

theorem eval_pairs : ∀ (ps : List (Sem Value × Sem Value)) (ds : List (Int × Str)) (s : Shared) (Q : List (Value × Value) → Shared → Prop), GiveAll prog w ps ds →
    (∀ vs kvs, PairVals vs kvs ds → Q vs { s with toks := s.toks + 2 * ds.length }) → wpAny (model prog w) A (evalPairs ps) Q E s := by
  intro ps
  induction ps with
  | nil => intro ds s Q g h; cases g; exact evalPairs_nil (h [] [] .nil)
  | cons p ps ih =>
    intro ds s Q g h
    cases g with
    | @cons _ dd _ ds g1 g2 =>
    obtain ⟨kt, vt⟩ := p
    refine evalPairs_cons (g1.1 _ _ _ _ (g1.2 _ _ _ _ (ih ds _ _ g2 fun vs kvs hp => ?_)))
    have := h _ _ (.cons dd.1 dd.2 s.toks (s.toks + 1) hp)
    have e2 : s.toks + 1 + 1 + 2 * ds.length = s.toks + 2 * (dd :: ds).length := by simp only [List.length_cons]; omega
    rw [← e2] at this
    exact this

theorem store_pairs {d : Addr} : ∀ (vs : List (Value × Value)) (kvs : List (Int × Value)) (ds : List (Int × Str)) (kvs₀ : List (Int × Value)) (done : List (Int × Str)) (s : Shared) (Q : PUnit → Shared → Prop), PairVals vs kvs ds → s.heap.DictOf (intKind prog w) d kvs₀ → Texts kvs₀ done →
    ((done ++ ds).map (·.1)).Nodup → (done ++ ds).length ≤ 1000 →
    (∀ h' kvs', h'.DictOf (intKind prog w) d kvs' → Texts kvs' (done ++ ds) → Heap.SameBut d s.heap h' → h'.life = s.heap.life → Q PUnit.unit { s with heap := h', toks := s.toks + ds.length }) →
    wpAny (model prog w) A (forIn vs PUnit.unit fun (x : Value × Value) (_ : PUnit) => (do dictSet d x.1 x.2; pure (ForInStep.yield PUnit.unit) : Sem (ForInStep PUnit))) Q E s := by
  intro vs
  induction vs with
  | nil =>
    intro kvs ds kvs₀ done s Q g hm ht hn hl hQ
    cases g
    rw [List.forIn_nil]
    exact wpAny_pure (by simpa using hQ s.heap kvs₀ hm (by simpa using ht) (Heap.SameBut.refl _ _) rfl)
  | cons v vs ih =>
    intro kvs ds kvs₀ done s Q g hm ht hn hl hQ
    cases g with
    | @cons k x t u _ kvs ds g2 =>
    rw [List.forIn_cons]
    have hnew : k ∉ kvs₀.map (·.1) := by
      rw [ht.keys]
      rw [List.map_append, List.nodup_append] at hn
      exact fun hm' => hn.2.2 _ hm' _ (by simp) rfl
    have hlen := ht.length
    simp only [List.length_append, List.length_cons] at hl
    refine wpAny_bind (wpAny_bind (dictSet_new (isInt_self _ _) hm hnew (fun h₁ hm₁ hs₁ hl₁ => wpAny_pure ?_) (by rw [sizeLine_eq]; omega)))
    have e : done ++ (k, x) :: ds = (done ++ [(k, x)]) ++ ds := by simp
    refine ih kvs ds _ (done ++ [(k, x)]) _ Q g2 hm₁ (ht.append (.cons k x u .nil)) (by rw [← e]; exact hn) (by simp only [List.length_append, List.length_cons, List.length_nil]; omega) fun h' kvs' a b c f => ?_
    have := hQ h' kvs' a (by rw [e]; exact b) (hs₁.trans c) (f.trans hl₁)
    have e2 : s.toks + 1 + ds.length = s.toks + ((k, x) :: ds).length := by simp only [List.length_cons]; omega
    rw [← e2] at this
    exact this

/-- what stood stands, one address more -/
structure OneMore (h h' : Heap) : Prop where
  keep : ∀ b o, h.get? b = some o → h'.get? b = some o
  size : h'.objs.size = h.objs.size + 1
  life : h'.life = h.life

theorem oneMore_of {h h' : Heap} {o : Obj} (hs : Heap.SameBut h.objs.size (h.push o) h') (hl : h'.life = (h.push o).life) : OneMore h h' :=
  ⟨fun b o' e => (hs.2 b (Nat.ne_of_lt (Heap.lt_size e))).trans (Heap.get?_push_of_some _ e), by rw [hs.1, Heap.size_push], hl.trans (Heap.life_push _ _)⟩

theorem sub_consts {ps : List (Sem Value × Sem Value)} {ds : List (Int × Str)} {Q : Addr → Shared → Prop} (g : GiveAll prog w ps ds) (hn : (ds.map (·.1)).Nodup) (hl : ds.length ≤ 1000)
    (hQ : ∀ h' kvs, h'.DictOf (intKind prog w) s.heap.objs.size kvs → Texts kvs ds → OneMore s.heap h' → Q s.heap.objs.size { s with heap := h', toks := s.toks + 3 * ds.length }) :
    wpAny (model prog w) A (subDict ps) Q E s := by
  unfold subDict
  refine wpAny_bind (wpAny_alloc ?_)
  refine wpAny_bind (wpAny_holding ?_)
  have hm := Heap.DictOf.new (knd := intKind prog w) s.heap
  by_cases h15 : ps.length ≤ 15
  · rw [if_pos h15]
    refine wpAny_bind (eval_pairs ps ds _ _ g fun vs kvs hp => ?_)
    refine wpAny_holding ?_
    refine wpAny_bind (store_pairs vs kvs ds [] [] _ _ hp hm .nil (by simpa using hn) (by simpa using hl) fun h' kvs' a b c d => ?_)
    refine wpAny_pure (wpAny_pure ?_)
    have := hQ h' kvs' a (by simpa using b) (oneMore_of c d)
    have e2 : s.toks + 2 * ds.length + ds.length = s.toks + 3 * ds.length := by omega
    rw [← e2] at this
    exact this
  · rw [if_neg h15]
    refine wpAny_bind (wpAny_rule ?_)
    refine wpAny_bind (long_run ps ds [] [] _ _ g hm .nil (by simpa using hn) (by simpa using hl) fun h' kvs' a b c d => ?_)
    exact wpAny_pure (wpAny_pure (hQ h' kvs' a (by simpa using b) (oneMore_of c d)))

/-- between two runs of a display: j addresses more, the pairs so far in the first -/
inductive Amid (prog : Program) (w : World) (s : Shared) (j : Nat) (done : List (Int × Str)) (main : Option Addr) (s' : Shared) : Prop
  | mk (h')
    (p1 : s' = { s with heap := h', toks := s.toks + 3 * done.length })
    (p2 : (∀ b o, s.heap.get? b = some o → h'.get? b = some o))
    (p3 : h'.objs.size = s.heap.objs.size + j)
    (p4 : h'.life = s.heap.life)
    (p5 : ((j = 0 ∧ main = none ∧ done = []) ∨ (0 < j ∧ main = some s.heap.objs.size ∧ done ≠ [] ∧ ∃ kvs, h'.DictOf (intKind prog w) s.heap.objs.size kvs ∧ Texts kvs done))) : Amid prog w s j done main s'
theorem flush_run {s s' : Shared} {j : Nat} {done rds : List (Int × Str)} {main : Option Addr} {run : List (Sem Value × Sem Value)} {Q : Option Addr → Shared → Prop} (hs : Amid prog w s j done main s') (hbig : 1 < s.heap.objs.size)
    (g : GiveAll prog w run rds) (hne : rds ≠ []) (hn : ((done ++ rds).map (·.1)).Nodup) (hl : (done ++ rds).length ≤ 1000)
    (hQ : ∀ s'', Amid prog w s (j + 1) (done ++ rds) (some s.heap.objs.size) s'' → Q (some s.heap.objs.size) s'') :
    wpAny (model prog w) A (if run.isEmpty = true then pure main else (match (generalizing := false) main with
      | none => do
        let d ← subDict run
        pure (some d)
      | some d => do
        let sub ← holding [Value.ref d] (subDict run)
        (holding [Value.ref d, Value.ref sub] (mergeMapping d (Value.ref sub) false)).onRaise fun x => do
            let _ ← holding [Value.ref d, x] (runValue (Code.builtin "proto.let_go" { }))
            pure ()
        pure (some d))) Q E s' := by
  refine veil fun vG hG => ?_; obtain ⟨h', rfl, hk, hz, hf, hc⟩ := hs; refine hG ?_; clear hG vG
  have hrn : run.isEmpty = false := by
    cases run with
    | nil => cases g; exact absurd rfl hne
    | cons _ _ => rfl
  simp only [hrn, Bool.false_eq_true, if_false]
  rw [List.map_append, List.nodup_append] at hn
  simp only [List.length_append] at hl
  rcases hc with ⟨rfl, rfl, rfl⟩ | ⟨hj, rfl, hdn, kvs, hm, ht⟩
  · refine wpAny_bind (sub_consts g hn.2.1 (by omega) fun h₁ kvs₁ a b c => wpAny_pure ?_)
    dsimp only at a b c ⊢
    rw [show h'.objs.size = s.heap.objs.size by omega] at a ⊢
    refine hQ _ ⟨h₁, ?_, fun b o e => c.keep b o (hk b o e), by rw [c.size, hz], c.life.trans hf, .inr ⟨by omega, rfl, by simpa using hne, kvs₁, a, by simpa using b⟩⟩
    simp
  · refine wpAny_bind (wpAny_holding (sub_consts g hn.2.1 (by omega) fun h₁ kvs₁ a b c => ?_))
    dsimp only at a b c ⊢
    have hm₁ : h₁.DictOf (intKind prog w) s.heap.objs.size kvs := by
      refine veil fun vG hG => ?_; obtain ⟨o, es, ep, ho, r⟩ := hm; refine hG ?_; clear hG vG
      exact ⟨o, es, ep, c.keep _ _ ho, r⟩
    refine wpAny_bind (wpAny_onRaise (wpAny_holding (merge_new (kvs := kvs) (more := kvs₁) (by rw [hz]; exact Nat.ne_of_lt (by omega)) (by rw [beq_eq_false_iff_ne, hz]; show s.heap.objs.size + j ≠ 1; omega) ?_ hm₁ a ?_ ?_ ?_)))
    · intro e; subst e; exact hdn (List.length_eq_zero_iff.mp ht.length.symm)
    · rw [List.map_append, ht.keys, b.keys, List.nodup_append]; exact hn
    · intro h₂ hd₂ hs₂ hl₂
      refine wpAny_pure (hQ _ ⟨h₂, ?_, fun b o e => ?_, ?_, ?_, .inr ⟨by omega, rfl, by simp [hdn], _, hd₂, ht.append b⟩⟩)
      · simp [Nat.mul_add, Nat.add_assoc]
      · exact (hs₂.2 b (Nat.ne_of_lt (Heap.lt_size e))).trans (c.keep b o (hk b o e))
      · rw [hs₂.1]; show h₁.objs.size = _; rw [c.size, hz]; omega
      · exact hl₂.trans (c.life.trans hf)
    · rw [ht.length, b.length, sizeLine_eq]; omega

theorem display_consts {s : Shared} {ps : List (Sem Value × Sem Value)} {ds : List (Int × Str)} {m r : Nat} {Q : Value → Shared → Prop} (g : GiveAll prog w ps ds) (hn : (ds.map (·.1)).Nodup) (hl : ds.length = 17 * m + r) (hr : 0 < r) (hr' : r < 17) (hl' : ds.length ≤ 1000)
    (hbig : 1 < s.heap.objs.size)
    (hQ : ∀ h' kvs, h'.DictOf (intKind prog w) s.heap.objs.size kvs → Texts kvs ds → (∀ b o, s.heap.get? b = some o → h'.get? b = some o) → h'.objs.size = s.heap.objs.size + m + 1 → h'.life = s.heap.life → Q (.ref s.heap.objs.size) { s with heap := h', toks := s.toks + 3 * ds.length }) :
    wpAny (model prog w) A (dictDisplay (ps.map fun p => (some p.1, p.2))) Q E s := by
  unfold dictDisplay
  dsimp only
  refine wpAny_bind ?_
  refine wpAny_forIn_list _
    (fun rest st s' => ∃ done rds rest' eds, ds = done ++ rds ++ eds ∧ rest = rest'.map (fun p => (some p.1, p.2)) ∧ GiveAll prog w st.2 rds ∧ GiveAll prog w rest' eds ∧ rds.length < 17 ∧ ∃ j, done.length = 17 * j ∧ Amid prog w s j done st.1 s')
    _ ?_ ?_ _ _ ⟨[], [], ps, ds, rfl, rfl, .nil, g, by decide, 0, rfl, s.heap, rfl, fun _ _ e => e, rfl, rfl, .inl ⟨rfl, rfl, rfl⟩⟩
  · intro x rest z1 s' z2; refine veil fun vG hG => ?_; obtain ⟨main, run⟩ := z1; obtain ⟨done, rds, rest', eds, e1, e2, g1, g2, h17, j, hj, ha⟩ := z2; refine hG ?_; clear hG vG
    dsimp only at g1 ha ⊢
    cases g2 with
    | nil => cases e2
    | @cons p dd ps' ds' g3 g4 =>
    simp only [List.map_cons, List.cons.injEq] at e2
    obtain ⟨rfl, rfl⟩ := e2
    dsimp only
    have gr : GiveAll prog w (run ++ [(p.1, p.2)]) (rds ++ [dd]) := g1.append (.cons g3 .nil)
    have hrl := gr.length
    by_cases h16 : rds.length = 16
    · have hc : ((run ++ [(p.1, p.2)]).length == 17) = true := by rw [hrl]; simp [h16]
      rw [if_pos hc]
      have e1' : ds = (done ++ (rds ++ [dd])) ++ ds' := by rw [e1]; simp
      have hlen := congrArg List.length e1'
      simp only [List.length_append] at hlen
      refine wpAny_bind (flush_run ha hbig gr (by simp) ?_ ?_ fun s'' hs'' => wpAny_pure ?_)
      · rw [e1', List.map_append, List.nodup_append] at hn; exact hn.1
      · simp only [List.length_append]; omega
      · exact ⟨done ++ (rds ++ [dd]), [], ps', ds', by rw [e1']; simp, rfl, .nil, g4, by decide, j + 1, by simp only [List.length_append, List.length_cons, List.length_nil]; omega, hs''⟩
    · have hc : ¬ ((run ++ [(p.1, p.2)]).length == 17) = true := by rw [hrl]; simp; omega
      rw [if_neg hc]
      refine wpAny_pure ⟨done, rds ++ [dd], ps', ds', by rw [e1]; simp, rfl, gr, g4, by simp; omega, j, hj, ha⟩
  · intro z1 s' z2; refine veil fun vG hG => ?_; obtain ⟨main, run⟩ := z1; obtain ⟨done, rds, rest', eds, e1, e2, g1, g2, h17, j, hj, ha⟩ := z2; refine hG ?_; clear hG vG
    cases g2 with
    | cons g3 g4 => cases e2
    | nil =>
    rw [List.append_nil] at e1
    dsimp only at g1 ha ⊢
    have hlen := congrArg List.length e1
    simp only [List.length_append] at hlen
    have hjm : j = m ∧ rds.length = r := by omega
    obtain ⟨rfl, hrl⟩ := hjm
    refine wpAny_bind (flush_run ha hbig g1 (by intro e; subst e; simp at hrl; omega) (by rw [← e1]; exact hn) (by rw [← e1]; exact hl') fun s'' hs'' => wpAny_pure ?_)
    refine veil fun vG hG => ?_; obtain ⟨h', rfl, hk, hz, hf, hc⟩ := hs''; refine hG ?_; clear hG vG
    rcases hc with ⟨h0, _, _⟩ | ⟨_, _, _, kvs, hm, ht⟩
    · omega
    · rw [← e1] at ht ⊢
      exact hQ h' kvs hm ht hk (by rw [hz]; omega) hf
end
end
section
section
variable {den : Code → Sem Fin} {p : Program} {w : World}
/-- a run of the quiet machine, as one of the scheduler's -/
theorem sched_of_runNI : ∀ (n : Nat) (s : Shared) (t : Thread) (s' : Shared) (t' : Thread) (s₂ : Shared) (t₂ : Thread), runNI den p w n s t = .running s' t' → s₂.forget = s.forget → t₂.forget = t.forget → s₂.asleep →
    ∃ s'' t'', schedN den p w n (.single s₂ t₂) = .running (.single s'' t'') ∧ s''.forget = s'.forget ∧ t''.forget = t'.forget := by
  intro n
  induction n with
  | zero =>
    intro s t s' t' s₂ t₂ h hs ht _
    have e : Run.running s t = .running s' t' := h
    injection e with e1 e2
    subst e1 e2
    exact ⟨s₂, t₂, rfl, hs, ht⟩
  | succ n ih =>
    intro s t s' t' s₂ t₂ h hs ht hz
    simp only [runNI] at h
    cases hl : t.loud with
    | true => simp only [stepI_loud den p w hl] at h; cases h
    | false =>
      simp only [stepI_quiet den p w hl] at h
      have hcalm : t.calm = true := by
        rw [Thread.calm_eq, hl]
        cases hr : t.refused with
        | false => rfl
        | true =>
          obtain ⟨what, e⟩ := stepK_refused den p w (s := s) hr
          simp only [e] at h
          cases h
      cases hk : stepK den p w s t with
      | halt o s₁ => simp only [hk] at h; cases h
      | go s₁ t₁ =>
        simp only [hk] at h
        have hc₂ : t₂.calm = true := by rw [← Thread.calm_forget t₂, ht, Thread.calm_forget]; exact hcalm
        have hstep := (stepK_forget den p w s t).trans (step_same den p w hs.symm ht.symm)
        rw [hk] at hstep
        cases hr : step den p w s₂ t₂ with
        | halt o s₃ => rw [hr] at hstep; cases hstep
        | go s₃ t₃ =>
          rw [hr] at hstep
          simp only [Step.forget] at hstep
          injection hstep with e1 e2
          have e : sstep den p w (.single s₂ t₂) = .go (.single s₃ t₃) := by
            rcases sstep_single den p w s₂ t₂ hc₂ hz with e | e
            · rw [e, hr]; rfl
            · rw [hr] at e; cases e
          obtain ⟨s'', t'', a, b, c⟩ := ih s₁ t₁ s' t' s₃ t₃ h e1.symm e2.symm (Shared.asleep_of_life (step_life den p w s₂ s₃ t₂ t₃ hr) hz)
          exact ⟨s'', t'', by simp only [schedN, e]; exact a, b, c⟩
end

/-- the shape of heaps by their objects -/
theorem heap_eq {h : Heap} {T : BT} {n : Nat} {life : Life} (hz : h.objs.size = n) (hl : h.life = life) (ho : ∀ i, i < n → h.objs[i]? = some ((T.get i).getD default)) : h = absHeap T n life := by
  have : h.objs = (absHeap T n life).objs := by
    apply Array.ext_getElem?
    intro i
    rw [absHeap_at]
    by_cases q : i < n
    · rw [if_pos q]; exact ho i q
    · rw [if_neg q]; exact Array.getElem?_eq_none (by omega)
  cases h
  subst hl
  simp only [absHeap] at this ⊢
  rw [this]

theorem objs_of_get {h : Heap} {a : Addr} {o : Obj} (e : h.get? a = some o) : h.objs[a]? = some o := by
  unfold Heap.get? at e
  split at e
  · cases e
  · exact e
end
section
noncomputable abbrev pw : Program := PySem.Challenge.pw_tc0086_01
noncomputable def stmtAt (i : Nat) : Option Stmt := PySem.Challenge.pw_tc0086_01.main.body[i]?
noncomputable def innerAt (i j : Nat) : Option Stmt := match stmtAt i with
  | some (.ClassDef _ _ _ b _ _ _ _ _ _ _) => b[j]?
  | _ => none
noncomputable def defBody : Option Stmt → List Stmt
  | some (.FunctionDef _ _ b _ _ _ _ _ _ _) => b
  | _ => []
noncomputable def defParams : Option Stmt → Arguments
  | some (.FunctionDef _ a _ _ _ _ _ _ _ _) => a
  | _ => ⟨[], [], none, [], [], none, []⟩
noncomputable def defScope : Option Stmt → Scope
  | some (.FunctionDef _ _ _ _ _ _ s _ _ _) => s
  | _ => ⟨.function, [], false, false, []⟩
noncomputable abbrev params0 : Arguments := by
  refine (fun (_ : defParams (stmtAt 0) = ?b) => ?b) ?h
  case h => conv => lhs; whnf
noncomputable abbrev body0 : List Stmt := by
  refine (fun (_ : defBody (stmtAt 0) = ?b) => ?b) ?h
  case h => conv => lhs; whnf
noncomputable abbrev scope0 : Scope := by
  refine (fun (_ : defScope (stmtAt 0) = ?b) => ?b) ?h
  case h => conv => lhs; whnf
noncomputable abbrev params2_1 : Arguments := by
  refine (fun (_ : defParams (innerAt 2 1) = ?b) => ?b) ?h
  case h => conv => lhs; whnf
noncomputable abbrev body2_1 : List Stmt := by
  refine (fun (_ : defBody (innerAt 2 1) = ?b) => ?b) ?h
  case h => conv => lhs; whnf
noncomputable abbrev scope2_1 : Scope := by
  refine (fun (_ : defScope (innerAt 2 1) = ?b) => ?b) ?h
  case h => conv => lhs; whnf
noncomputable abbrev params2_2 : Arguments := by
  refine (fun (_ : defParams (innerAt 2 2) = ?b) => ?b) ?h
  case h => conv => lhs; whnf
noncomputable abbrev body2_2 : List Stmt := by
  refine (fun (_ : defBody (innerAt 2 2) = ?b) => ?b) ?h
  case h => conv => lhs; whnf
noncomputable abbrev scope2_2 : Scope := by
  refine (fun (_ : defScope (innerAt 2 2) = ?b) => ?b) ?h
  case h => conv => lhs; whnf
noncomputable abbrev params2_3 : Arguments := by
  refine (fun (_ : defParams (innerAt 2 3) = ?b) => ?b) ?h
  case h => conv => lhs; whnf
noncomputable abbrev body2_3 : List Stmt := by
  refine (fun (_ : defBody (innerAt 2 3) = ?b) => ?b) ?h
  case h => conv => lhs; whnf
noncomputable abbrev scope2_3 : Scope := by
  refine (fun (_ : defScope (innerAt 2 3) = ?b) => ?b) ?h
  case h => conv => lhs; whnf
noncomputable abbrev params2_4 : Arguments := by
  refine (fun (_ : defParams (innerAt 2 4) = ?b) => ?b) ?h
  case h => conv => lhs; whnf
noncomputable abbrev body2_4 : List Stmt := by
  refine (fun (_ : defBody (innerAt 2 4) = ?b) => ?b) ?h
  case h => conv => lhs; whnf
noncomputable abbrev scope2_4 : Scope := by
  refine (fun (_ : defScope (innerAt 2 4) = ?b) => ?b) ?h
  case h => conv => lhs; whnf
noncomputable abbrev params2_5 : Arguments := by
  refine (fun (_ : defParams (innerAt 2 5) = ?b) => ?b) ?h
  case h => conv => lhs; whnf
noncomputable abbrev body2_5 : List Stmt := by
  refine (fun (_ : defBody (innerAt 2 5) = ?b) => ?b) ?h
  case h => conv => lhs; whnf
noncomputable abbrev scope2_5 : Scope := by
  refine (fun (_ : defScope (innerAt 2 5) = ?b) => ?b) ?h
  case h => conv => lhs; whnf
noncomputable abbrev params2_6 : Arguments := by
  refine (fun (_ : defParams (innerAt 2 6) = ?b) => ?b) ?h
  case h => conv => lhs; whnf
noncomputable abbrev body2_6 : List Stmt := by
  refine (fun (_ : defBody (innerAt 2 6) = ?b) => ?b) ?h
  case h => conv => lhs; whnf
noncomputable abbrev scope2_6 : Scope := by
  refine (fun (_ : defScope (innerAt 2 6) = ?b) => ?b) ?h
  case h => conv => lhs; whnf
noncomputable abbrev params2_7 : Arguments := by
  refine (fun (_ : defParams (innerAt 2 7) = ?b) => ?b) ?h
  case h => conv => lhs; whnf
noncomputable abbrev body2_7 : List Stmt := by
  refine (fun (_ : defBody (innerAt 2 7) = ?b) => ?b) ?h
  case h => conv => lhs; whnf
noncomputable abbrev scope2_7 : Scope := by
  refine (fun (_ : defScope (innerAt 2 7) = ?b) => ?b) ?h
  case h => conv => lhs; whnf
noncomputable abbrev params4 : Arguments := by
  refine (fun (_ : defParams (stmtAt 4) = ?b) => ?b) ?h
  case h => conv => lhs; whnf
noncomputable abbrev body4 : List Stmt := by
  refine (fun (_ : defBody (stmtAt 4) = ?b) => ?b) ?h
  case h => conv => lhs; whnf
noncomputable abbrev scope4 : Scope := by
  refine (fun (_ : defScope (stmtAt 4) = ?b) => ?b) ?h
  case h => conv => lhs; whnf
noncomputable abbrev params5 : Arguments := by
  refine (fun (_ : defParams (stmtAt 5) = ?b) => ?b) ?h
  case h => conv => lhs; whnf
noncomputable abbrev body5 : List Stmt := by
  refine (fun (_ : defBody (stmtAt 5) = ?b) => ?b) ?h
  case h => conv => lhs; whnf
noncomputable abbrev scope5 : Scope := by
  refine (fun (_ : defScope (stmtAt 5) = ?b) => ?b) ?h
  case h => conv => lhs; whnf
noncomputable abbrev params6 : Arguments := by
  refine (fun (_ : defParams (stmtAt 6) = ?b) => ?b) ?h
  case h => conv => lhs; whnf
noncomputable abbrev body6 : List Stmt := by
  refine (fun (_ : defBody (stmtAt 6) = ?b) => ?b) ?h
  case h => conv => lhs; whnf
noncomputable abbrev scope6 : Scope := by
  refine (fun (_ : defScope (stmtAt 6) = ?b) => ?b) ?h
  case h => conv => lhs; whnf
noncomputable abbrev params9 : Arguments := by
  refine (fun (_ : defParams (stmtAt 9) = ?b) => ?b) ?h
  case h => conv => lhs; whnf
noncomputable abbrev body9 : List Stmt := by
  refine (fun (_ : defBody (stmtAt 9) = ?b) => ?b) ?h
  case h => conv => lhs; whnf
noncomputable abbrev scope9 : Scope := by
  refine (fun (_ : defScope (stmtAt 9) = ?b) => ?b) ?h
  case h => conv => lhs; whnf
noncomputable abbrev params11 : Arguments := by
  refine (fun (_ : defParams (stmtAt 11) = ?b) => ?b) ?h
  case h => conv => lhs; whnf
noncomputable abbrev body11 : List Stmt := by
  refine (fun (_ : defBody (stmtAt 11) = ?b) => ?b) ?h
  case h => conv => lhs; whnf
noncomputable abbrev scope11 : Scope := by
  refine (fun (_ : defScope (stmtAt 11) = ?b) => ?b) ?h
  case h => conv => lhs; whnf
noncomputable abbrev params13 : Arguments := by
  refine (fun (_ : defParams (stmtAt 13) = ?b) => ?b) ?h
  case h => conv => lhs; whnf
noncomputable abbrev body13 : List Stmt := by
  refine (fun (_ : defBody (stmtAt 13) = ?b) => ?b) ?h
  case h => conv => lhs; whnf
noncomputable abbrev scope13 : Scope := by
  refine (fun (_ : defScope (stmtAt 13) = ?b) => ?b) ?h
  case h => conv => lhs; whnf
noncomputable abbrev params14 : Arguments := by
  refine (fun (_ : defParams (stmtAt 14) = ?b) => ?b) ?h
  case h => conv => lhs; whnf
noncomputable abbrev body14 : List Stmt := by
  refine (fun (_ : defBody (stmtAt 14) = ?b) => ?b) ?h
  case h => conv => lhs; whnf
noncomputable abbrev scope14 : Scope := by
  refine (fun (_ : defScope (stmtAt 14) = ?b) => ?b) ?h
  case h => conv => lhs; whnf
noncomputable abbrev params15 : Arguments := by
  refine (fun (_ : defParams (stmtAt 15) = ?b) => ?b) ?h
  case h => conv => lhs; whnf
noncomputable abbrev body15 : List Stmt := by
  refine (fun (_ : defBody (stmtAt 15) = ?b) => ?b) ?h
  case h => conv => lhs; whnf
noncomputable abbrev scope15 : Scope := by
  refine (fun (_ : defScope (stmtAt 15) = ?b) => ?b) ?h
  case h => conv => lhs; whnf
noncomputable abbrev params16 : Arguments := by
  refine (fun (_ : defParams (stmtAt 16) = ?b) => ?b) ?h
  case h => conv => lhs; whnf
noncomputable abbrev body16 : List Stmt := by
  refine (fun (_ : defBody (stmtAt 16) = ?b) => ?b) ?h
  case h => conv => lhs; whnf
noncomputable abbrev scope16 : Scope := by
  refine (fun (_ : defScope (stmtAt 16) = ?b) => ?b) ?h
  case h => conv => lhs; whnf
noncomputable abbrev params17 : Arguments := by
  refine (fun (_ : defParams (stmtAt 17) = ?b) => ?b) ?h
  case h => conv => lhs; whnf
noncomputable abbrev body17 : List Stmt := by
  refine (fun (_ : defBody (stmtAt 17) = ?b) => ?b) ?h
  case h => conv => lhs; whnf
noncomputable abbrev scope17 : Scope := by
  refine (fun (_ : defScope (stmtAt 17) = ?b) => ?b) ?h
  case h => conv => lhs; whnf
noncomputable abbrev params18 : Arguments := by
  refine (fun (_ : defParams (stmtAt 18) = ?b) => ?b) ?h
  case h => conv => lhs; whnf
noncomputable abbrev body18 : List Stmt := by
  refine (fun (_ : defBody (stmtAt 18) = ?b) => ?b) ?h
  case h => conv => lhs; whnf
noncomputable abbrev scope18 : Scope := by
  refine (fun (_ : defScope (stmtAt 18) = ?b) => ?b) ?h
  case h => conv => lhs; whnf
noncomputable abbrev params20 : Arguments := by
  refine (fun (_ : defParams (stmtAt 20) = ?b) => ?b) ?h
  case h => conv => lhs; whnf
noncomputable abbrev body20 : List Stmt := by
  refine (fun (_ : defBody (stmtAt 20) = ?b) => ?b) ?h
  case h => conv => lhs; whnf
noncomputable abbrev scope20 : Scope := by
  refine (fun (_ : defScope (stmtAt 20) = ?b) => ?b) ?h
  case h => conv => lhs; whnf
noncomputable abbrev params21 : Arguments := by
  refine (fun (_ : defParams (stmtAt 21) = ?b) => ?b) ?h
  case h => conv => lhs; whnf
noncomputable abbrev body21 : List Stmt := by
  refine (fun (_ : defBody (stmtAt 21) = ?b) => ?b) ?h
  case h => conv => lhs; whnf
noncomputable abbrev scope21 : Scope := by
  refine (fun (_ : defScope (stmtAt 21) = ?b) => ?b) ?h
  case h => conv => lhs; whnf
noncomputable abbrev params22 : Arguments := by
  refine (fun (_ : defParams (stmtAt 22) = ?b) => ?b) ?h
  case h => conv => lhs; whnf
noncomputable abbrev body22 : List Stmt := by
  refine (fun (_ : defBody (stmtAt 22) = ?b) => ?b) ?h
  case h => conv => lhs; whnf
noncomputable abbrev scope22 : Scope := by
  refine (fun (_ : defScope (stmtAt 22) = ?b) => ?b) ?h
  case h => conv => lhs; whnf
noncomputable abbrev params23 : Arguments := by
  refine (fun (_ : defParams (stmtAt 23) = ?b) => ?b) ?h
  case h => conv => lhs; whnf
noncomputable abbrev body23 : List Stmt := by
  refine (fun (_ : defBody (stmtAt 23) = ?b) => ?b) ?h
  case h => conv => lhs; whnf
noncomputable abbrev scope23 : Scope := by
  refine (fun (_ : defScope (stmtAt 23) = ?b) => ?b) ?h
  case h => conv => lhs; whnf
noncomputable abbrev params24 : Arguments := by
  refine (fun (_ : defParams (stmtAt 24) = ?b) => ?b) ?h
  case h => conv => lhs; whnf
noncomputable abbrev body24 : List Stmt := by
  refine (fun (_ : defBody (stmtAt 24) = ?b) => ?b) ?h
  case h => conv => lhs; whnf
noncomputable abbrev scope24 : Scope := by
  refine (fun (_ : defScope (stmtAt 24) = ?b) => ?b) ?h
  case h => conv => lhs; whnf
noncomputable abbrev params25 : Arguments := by
  refine (fun (_ : defParams (stmtAt 25) = ?b) => ?b) ?h
  case h => conv => lhs; whnf
noncomputable abbrev body25 : List Stmt := by
  refine (fun (_ : defBody (stmtAt 25) = ?b) => ?b) ?h
  case h => conv => lhs; whnf
noncomputable abbrev scope25 : Scope := by
  refine (fun (_ : defScope (stmtAt 25) = ?b) => ?b) ?h
  case h => conv => lhs; whnf
noncomputable abbrev params26 : Arguments := by
  refine (fun (_ : defParams (stmtAt 26) = ?b) => ?b) ?h
  case h => conv => lhs; whnf
noncomputable abbrev body26 : List Stmt := by
  refine (fun (_ : defBody (stmtAt 26) = ?b) => ?b) ?h
  case h => conv => lhs; whnf
noncomputable abbrev scope26 : Scope := by
  refine (fun (_ : defScope (stmtAt 26) = ?b) => ?b) ?h
  case h => conv => lhs; whnf
noncomputable abbrev params27 : Arguments := by
  refine (fun (_ : defParams (stmtAt 27) = ?b) => ?b) ?h
  case h => conv => lhs; whnf
noncomputable abbrev body27 : List Stmt := by
  refine (fun (_ : defBody (stmtAt 27) = ?b) => ?b) ?h
  case h => conv => lhs; whnf
noncomputable abbrev scope27 : Scope := by
  refine (fun (_ : defScope (stmtAt 27) = ?b) => ?b) ?h
  case h => conv => lhs; whnf
noncomputable abbrev params28 : Arguments := by
  refine (fun (_ : defParams (stmtAt 28) = ?b) => ?b) ?h
  case h => conv => lhs; whnf
noncomputable abbrev body28 : List Stmt := by
  refine (fun (_ : defBody (stmtAt 28) = ?b) => ?b) ?h
  case h => conv => lhs; whnf
noncomputable abbrev scope28 : Scope := by
  refine (fun (_ : defScope (stmtAt 28) = ?b) => ?b) ?h
  case h => conv => lhs; whnf
noncomputable abbrev params29 : Arguments := by
  refine (fun (_ : defParams (stmtAt 29) = ?b) => ?b) ?h
  case h => conv => lhs; whnf
noncomputable abbrev body29 : List Stmt := by
  refine (fun (_ : defBody (stmtAt 29) = ?b) => ?b) ?h
  case h => conv => lhs; whnf
noncomputable abbrev scope29 : Scope := by
  refine (fun (_ : defScope (stmtAt 29) = ?b) => ?b) ?h
  case h => conv => lhs; whnf
noncomputable abbrev params30 : Arguments := by
  refine (fun (_ : defParams (stmtAt 30) = ?b) => ?b) ?h
  case h => conv => lhs; whnf
noncomputable abbrev body30 : List Stmt := by
  refine (fun (_ : defBody (stmtAt 30) = ?b) => ?b) ?h
  case h => conv => lhs; whnf
noncomputable abbrev scope30 : Scope := by
  refine (fun (_ : defScope (stmtAt 30) = ?b) => ?b) ?h
  case h => conv => lhs; whnf
/-- the pairs of the table's display -/
noncomputable def constKey : Option Expr → Int
  | some (.Constant (.int i) _ _) => i
  | _ => 0
noncomputable def constStr : Expr → Str
  | .Constant (.str x) _ _ => x
  | _ => Str.empty
noncomputable def b3Stmt : Option Stmt := stmtAt 10
noncomputable def dictPairs : Option Stmt → List (Int × Str)
  | some (.Assign _ (.Dict ks vs _) _) => (ks.zip vs).map fun p => (constKey p.1, constStr p.2)
  | _ => []
noncomputable def b3Pairs : List (Int × Str) := dictPairs (stmtAt 10)
noncomputable def entriesAt (t : Nat) : List (Int × Str) → Nat → List DictEntry
  | [], _ => []
  | (k, x) :: r, i => ⟨k, .int k (if i < 646 then t + 3 * i else t + 1938 + 2 * (i - 646)), .str x (if i < 646 then t + 1 + 3 * i else t + 1939 + 2 * (i - 646))⟩ :: entriesAt t r (i + 1)
noncomputable def b3Entries : List DictEntry := entriesAt 387 b3Pairs 0
noncomputable abbrev o0 (P : Params) : Obj := ⟨(.type "dict"), none, (.dict #[⟨PyData.keyHash P (Str.ofString "__name__"), (.str (Str.ofString "__name__") 1), (.str (Str.ofString "builtins") 160)⟩, ⟨PyData.keyHash P (Str.ofString "__doc__"), (.str (Str.ofString "__doc__") 2), (.builtin "builtins.__doc__:str#opaque")⟩, ⟨PyData.keyHash P (Str.ofString "__package__"), (.str (Str.ofString "__package__") 3), (.builtin "builtins.__package__:str#opaque")⟩, ⟨PyData.keyHash P (Str.ofString "__loader__"), (.str (Str.ofString "__loader__") 4), (.builtin "builtins.__loader__:shared#opaque")⟩, ⟨PyData.keyHash P (Str.ofString "__spec__"), (.str (Str.ofString "__spec__") 5), (.builtin "builtins.__spec__#opaque")⟩, ⟨PyData.keyHash P (Str.ofString "__build_class__"), (.str (Str.ofString "__build_class__") 6), (.builtin "__build_class__")⟩, ⟨PyData.keyHash P (Str.ofString "__import__"), (.str (Str.ofString "__import__") 7), (.builtin "__import__")⟩, ⟨PyData.keyHash P (Str.ofString "abs"), (.str (Str.ofString "abs") 8), (.builtin "abs")⟩, ⟨PyData.keyHash P (Str.ofString "all"), (.str (Str.ofString "all") 9), (.builtin "all")⟩, ⟨PyData.keyHash P (Str.ofString "any"), (.str (Str.ofString "any") 10), (.builtin "any")⟩, ⟨PyData.keyHash P (Str.ofString "ascii"), (.str (Str.ofString "ascii") 11), (.builtin "ascii")⟩, ⟨PyData.keyHash P (Str.ofString "bin"), (.str (Str.ofString "bin") 12), (.builtin "bin")⟩, ⟨PyData.keyHash P (Str.ofString "breakpoint"), (.str (Str.ofString "breakpoint") 13), (.builtin "breakpoint")⟩, ⟨PyData.keyHash P (Str.ofString "callable"), (.str (Str.ofString "callable") 14), (.builtin "callable")⟩, ⟨PyData.keyHash P (Str.ofString "chr"), (.str (Str.ofString "chr") 15), (.builtin "chr")⟩, ⟨PyData.keyHash P (Str.ofString "compile"), (.str (Str.ofString "compile") 16), (.builtin "compile")⟩, ⟨PyData.keyHash P (Str.ofString "delattr"), (.str (Str.ofString "delattr") 17), (.builtin "delattr")⟩, ⟨PyData.keyHash P (Str.ofString "dir"), (.str (Str.ofString "dir") 18), (.builtin "dir")⟩, ⟨PyData.keyHash P (Str.ofString "divmod"), (.str (Str.ofString "divmod") 19), (.builtin "divmod")⟩, ⟨PyData.keyHash P (Str.ofString "eval"), (.str (Str.ofString "eval") 20), (.builtin "eval")⟩, ⟨PyData.keyHash P (Str.ofString "exec"), (.str (Str.ofString "exec") 21), (.builtin "exec")⟩, ⟨PyData.keyHash P (Str.ofString "format"), (.str (Str.ofString "format") 22), (.builtin "format")⟩, ⟨PyData.keyHash P (Str.ofString "getattr"), (.str (Str.ofString "getattr") 23), (.builtin "getattr")⟩, ⟨PyData.keyHash P (Str.ofString "globals"), (.str (Str.ofString "globals") 24), (.builtin "globals")⟩, ⟨PyData.keyHash P (Str.ofString "hasattr"), (.str (Str.ofString "hasattr") 25), (.builtin "hasattr")⟩, ⟨PyData.keyHash P (Str.ofString "hash"), (.str (Str.ofString "hash") 26), (.builtin "hash")⟩, ⟨PyData.keyHash P (Str.ofString "hex"), (.str (Str.ofString "hex") 27), (.builtin "hex")⟩, ⟨PyData.keyHash P (Str.ofString "id"), (.str (Str.ofString "id") 28), (.builtin "id")⟩, ⟨PyData.keyHash P (Str.ofString "input"), (.str (Str.ofString "input") 29), (.builtin "input")⟩, ⟨PyData.keyHash P (Str.ofString "isinstance"), (.str (Str.ofString "isinstance") 30), (.builtin "isinstance")⟩, ⟨PyData.keyHash P (Str.ofString "issubclass"), (.str (Str.ofString "issubclass") 31), (.builtin "issubclass")⟩, ⟨PyData.keyHash P (Str.ofString "iter"), (.str (Str.ofString "iter") 32), (.builtin "iter")⟩, ⟨PyData.keyHash P (Str.ofString "aiter"), (.str (Str.ofString "aiter") 33), (.builtin "aiter")⟩, ⟨PyData.keyHash P (Str.ofString "len"), (.str (Str.ofString "len") 34), (.builtin "len")⟩, ⟨PyData.keyHash P (Str.ofString "locals"), (.str (Str.ofString "locals") 35), (.builtin "locals")⟩, ⟨PyData.keyHash P (Str.ofString "max"), (.str (Str.ofString "max") 36), (.builtin "max")⟩, ⟨PyData.keyHash P (Str.ofString "min"), (.str (Str.ofString "min") 37), (.builtin "min")⟩, ⟨PyData.keyHash P (Str.ofString "next"), (.str (Str.ofString "next") 38), (.builtin "next")⟩, ⟨PyData.keyHash P (Str.ofString "anext"), (.str (Str.ofString "anext") 39), (.builtin "anext")⟩, ⟨PyData.keyHash P (Str.ofString "oct"), (.str (Str.ofString "oct") 40), (.builtin "oct")⟩, ⟨PyData.keyHash P (Str.ofString "ord"), (.str (Str.ofString "ord") 41), (.builtin "ord")⟩, ⟨PyData.keyHash P (Str.ofString "pow"), (.str (Str.ofString "pow") 42), (.builtin "pow")⟩, ⟨PyData.keyHash P (Str.ofString "print"), (.str (Str.ofString "print") 43), (.builtin "print")⟩, ⟨PyData.keyHash P (Str.ofString "repr"), (.str (Str.ofString "repr") 44), (.builtin "repr")⟩, ⟨PyData.keyHash P (Str.ofString "round"), (.str (Str.ofString "round") 45), (.builtin "round")⟩, ⟨PyData.keyHash P (Str.ofString "setattr"), (.str (Str.ofString "setattr") 46), (.builtin "setattr")⟩, ⟨PyData.keyHash P (Str.ofString "sorted"), (.str (Str.ofString "sorted") 47), (.builtin "sorted")⟩, ⟨PyData.keyHash P (Str.ofString "sum"), (.str (Str.ofString "sum") 48), (.builtin "sum")⟩, ⟨PyData.keyHash P (Str.ofString "vars"), (.str (Str.ofString "vars") 49), (.builtin "vars")⟩, ⟨PyData.keyHash P (Str.ofString "None"), (.str (Str.ofString "None") 50), .none⟩, ⟨PyData.keyHash P (Str.ofString "Ellipsis"), (.str (Str.ofString "Ellipsis") 51), .ellipsis⟩, ⟨PyData.keyHash P (Str.ofString "NotImplemented"), (.str (Str.ofString "NotImplemented") 52), .notImplemented⟩, ⟨PyData.keyHash P (Str.ofString "False"), (.str (Str.ofString "False") 53), (.bool false)⟩, ⟨PyData.keyHash P (Str.ofString "True"), (.str (Str.ofString "True") 54), (.bool true)⟩, ⟨PyData.keyHash P (Str.ofString "bool"), (.str (Str.ofString "bool") 55), (.type "bool")⟩, ⟨PyData.keyHash P (Str.ofString "memoryview"), (.str (Str.ofString "memoryview") 56), (.type "memoryview")⟩, ⟨PyData.keyHash P (Str.ofString "bytearray"), (.str (Str.ofString "bytearray") 57), (.type "bytearray")⟩, ⟨PyData.keyHash P (Str.ofString "bytes"), (.str (Str.ofString "bytes") 58), (.type "bytes")⟩, ⟨PyData.keyHash P (Str.ofString "classmethod"), (.str (Str.ofString "classmethod") 59), (.type "classmethod")⟩, ⟨PyData.keyHash P (Str.ofString "complex"), (.str (Str.ofString "complex") 60), (.type "complex")⟩, ⟨PyData.keyHash P (Str.ofString "dict"), (.str (Str.ofString "dict") 61), (.type "dict")⟩, ⟨PyData.keyHash P (Str.ofString "enumerate"), (.str (Str.ofString "enumerate") 62), (.type "enumerate")⟩, ⟨PyData.keyHash P (Str.ofString "filter"), (.str (Str.ofString "filter") 63), (.type "filter")⟩, ⟨PyData.keyHash P (Str.ofString "float"), (.str (Str.ofString "float") 64), (.type "float")⟩, ⟨PyData.keyHash P (Str.ofString "frozenset"), (.str (Str.ofString "frozenset") 65), (.type "frozenset")⟩, ⟨PyData.keyHash P (Str.ofString "property"), (.str (Str.ofString "property") 66), (.type "property")⟩, ⟨PyData.keyHash P (Str.ofString "int"), (.str (Str.ofString "int") 67), (.type "int")⟩, ⟨PyData.keyHash P (Str.ofString "list"), (.str (Str.ofString "list") 68), (.type "list")⟩, ⟨PyData.keyHash P (Str.ofString "map"), (.str (Str.ofString "map") 69), (.type "map")⟩, ⟨PyData.keyHash P (Str.ofString "object"), (.str (Str.ofString "object") 70), (.type "object")⟩, ⟨PyData.keyHash P (Str.ofString "range"), (.str (Str.ofString "range") 71), (.type "range")⟩, ⟨PyData.keyHash P (Str.ofString "reversed"), (.str (Str.ofString "reversed") 72), (.type "reversed")⟩, ⟨PyData.keyHash P (Str.ofString "set"), (.str (Str.ofString "set") 73), (.type "set")⟩, ⟨PyData.keyHash P (Str.ofString "slice"), (.str (Str.ofString "slice") 74), (.type "slice")⟩, ⟨PyData.keyHash P (Str.ofString "staticmethod"), (.str (Str.ofString "staticmethod") 75), (.type "staticmethod")⟩, ⟨PyData.keyHash P (Str.ofString "str"), (.str (Str.ofString "str") 76), (.type "str")⟩, ⟨PyData.keyHash P (Str.ofString "super"), (.str (Str.ofString "super") 77), (.type "super")⟩, ⟨PyData.keyHash P (Str.ofString "tuple"), (.str (Str.ofString "tuple") 78), (.type "tuple")⟩, ⟨PyData.keyHash P (Str.ofString "type"), (.str (Str.ofString "type") 79), (.type "type")⟩, ⟨PyData.keyHash P (Str.ofString "zip"), (.str (Str.ofString "zip") 80), (.type "zip")⟩, ⟨PyData.keyHash P (Str.ofString "__debug__"), (.str (Str.ofString "__debug__") 81), (.bool true)⟩, ⟨PyData.keyHash P (Str.ofString "BaseException"), (.str (Str.ofString "BaseException") 82), (.type "BaseException")⟩, ⟨PyData.keyHash P (Str.ofString "BaseExceptionGroup"), (.str (Str.ofString "BaseExceptionGroup") 83), (.type "BaseExceptionGroup")⟩, ⟨PyData.keyHash P (Str.ofString "Exception"), (.str (Str.ofString "Exception") 84), (.type "Exception")⟩, ⟨PyData.keyHash P (Str.ofString "GeneratorExit"), (.str (Str.ofString "GeneratorExit") 85), (.type "GeneratorExit")⟩, ⟨PyData.keyHash P (Str.ofString "KeyboardInterrupt"), (.str (Str.ofString "KeyboardInterrupt") 86), (.type "KeyboardInterrupt")⟩, ⟨PyData.keyHash P (Str.ofString "SystemExit"), (.str (Str.ofString "SystemExit") 87), (.type "SystemExit")⟩, ⟨PyData.keyHash P (Str.ofString "ArithmeticError"), (.str (Str.ofString "ArithmeticError") 88), (.type "ArithmeticError")⟩, ⟨PyData.keyHash P (Str.ofString "AssertionError"), (.str (Str.ofString "AssertionError") 89), (.type "AssertionError")⟩, ⟨PyData.keyHash P (Str.ofString "AttributeError"), (.str (Str.ofString "AttributeError") 90), (.type "AttributeError")⟩, ⟨PyData.keyHash P (Str.ofString "BufferError"), (.str (Str.ofString "BufferError") 91), (.type "BufferError")⟩, ⟨PyData.keyHash P (Str.ofString "EOFError"), (.str (Str.ofString "EOFError") 92), (.type "EOFError")⟩, ⟨PyData.keyHash P (Str.ofString "ImportError"), (.str (Str.ofString "ImportError") 93), (.type "ImportError")⟩, ⟨PyData.keyHash P (Str.ofString "LookupError"), (.str (Str.ofString "LookupError") 94), (.type "LookupError")⟩, ⟨PyData.keyHash P (Str.ofString "MemoryError"), (.str (Str.ofString "MemoryError") 95), (.type "MemoryError")⟩, ⟨PyData.keyHash P (Str.ofString "NameError"), (.str (Str.ofString "NameError") 96), (.type "NameError")⟩, ⟨PyData.keyHash P (Str.ofString "OSError"), (.str (Str.ofString "OSError") 97), (.type "OSError")⟩, ⟨PyData.keyHash P (Str.ofString "ReferenceError"), (.str (Str.ofString "ReferenceError") 98), (.type "ReferenceError")⟩, ⟨PyData.keyHash P (Str.ofString "RuntimeError"), (.str (Str.ofString "RuntimeError") 99), (.type "RuntimeError")⟩, ⟨PyData.keyHash P (Str.ofString "StopAsyncIteration"), (.str (Str.ofString "StopAsyncIteration") 100), (.type "StopAsyncIteration")⟩, ⟨PyData.keyHash P (Str.ofString "StopIteration"), (.str (Str.ofString "StopIteration") 101), (.type "StopIteration")⟩, ⟨PyData.keyHash P (Str.ofString "SyntaxError"), (.str (Str.ofString "SyntaxError") 102), (.type "SyntaxError")⟩, ⟨PyData.keyHash P (Str.ofString "SystemError"), (.str (Str.ofString "SystemError") 103), (.type "SystemError")⟩, ⟨PyData.keyHash P (Str.ofString "TypeError"), (.str (Str.ofString "TypeError") 104), (.type "TypeError")⟩, ⟨PyData.keyHash P (Str.ofString "ValueError"), (.str (Str.ofString "ValueError") 105), (.type "ValueError")⟩, ⟨PyData.keyHash P (Str.ofString "Warning"), (.str (Str.ofString "Warning") 106), (.type "Warning")⟩, ⟨PyData.keyHash P (Str.ofString "FloatingPointError"), (.str (Str.ofString "FloatingPointError") 107), (.type "FloatingPointError")⟩, ⟨PyData.keyHash P (Str.ofString "OverflowError"), (.str (Str.ofString "OverflowError") 108), (.type "OverflowError")⟩, ⟨PyData.keyHash P (Str.ofString "ZeroDivisionError"), (.str (Str.ofString "ZeroDivisionError") 109), (.type "ZeroDivisionError")⟩, ⟨PyData.keyHash P (Str.ofString "BytesWarning"), (.str (Str.ofString "BytesWarning") 110), (.type "BytesWarning")⟩, ⟨PyData.keyHash P (Str.ofString "DeprecationWarning"), (.str (Str.ofString "DeprecationWarning") 111), (.type "DeprecationWarning")⟩, ⟨PyData.keyHash P (Str.ofString "EncodingWarning"), (.str (Str.ofString "EncodingWarning") 112), (.type "EncodingWarning")⟩, ⟨PyData.keyHash P (Str.ofString "FutureWarning"), (.str (Str.ofString "FutureWarning") 113), (.type "FutureWarning")⟩, ⟨PyData.keyHash P (Str.ofString "ImportWarning"), (.str (Str.ofString "ImportWarning") 114), (.type "ImportWarning")⟩, ⟨PyData.keyHash P (Str.ofString "PendingDeprecationWarning"), (.str (Str.ofString "PendingDeprecationWarning") 115), (.type "PendingDeprecationWarning")⟩, ⟨PyData.keyHash P (Str.ofString "ResourceWarning"), (.str (Str.ofString "ResourceWarning") 116), (.type "ResourceWarning")⟩, ⟨PyData.keyHash P (Str.ofString "RuntimeWarning"), (.str (Str.ofString "RuntimeWarning") 117), (.type "RuntimeWarning")⟩, ⟨PyData.keyHash P (Str.ofString "SyntaxWarning"), (.str (Str.ofString "SyntaxWarning") 118), (.type "SyntaxWarning")⟩, ⟨PyData.keyHash P (Str.ofString "UnicodeWarning"), (.str (Str.ofString "UnicodeWarning") 119), (.type "UnicodeWarning")⟩, ⟨PyData.keyHash P (Str.ofString "UserWarning"), (.str (Str.ofString "UserWarning") 120), (.type "UserWarning")⟩, ⟨PyData.keyHash P (Str.ofString "BlockingIOError"), (.str (Str.ofString "BlockingIOError") 121), (.type "BlockingIOError")⟩, ⟨PyData.keyHash P (Str.ofString "ChildProcessError"), (.str (Str.ofString "ChildProcessError") 122), (.type "ChildProcessError")⟩, ⟨PyData.keyHash P (Str.ofString "ConnectionError"), (.str (Str.ofString "ConnectionError") 123), (.type "ConnectionError")⟩, ⟨PyData.keyHash P (Str.ofString "FileExistsError"), (.str (Str.ofString "FileExistsError") 124), (.type "FileExistsError")⟩, ⟨PyData.keyHash P (Str.ofString "FileNotFoundError"), (.str (Str.ofString "FileNotFoundError") 125), (.type "FileNotFoundError")⟩, ⟨PyData.keyHash P (Str.ofString "InterruptedError"), (.str (Str.ofString "InterruptedError") 126), (.type "InterruptedError")⟩, ⟨PyData.keyHash P (Str.ofString "IsADirectoryError"), (.str (Str.ofString "IsADirectoryError") 127), (.type "IsADirectoryError")⟩, ⟨PyData.keyHash P (Str.ofString "NotADirectoryError"), (.str (Str.ofString "NotADirectoryError") 128), (.type "NotADirectoryError")⟩, ⟨PyData.keyHash P (Str.ofString "PermissionError"), (.str (Str.ofString "PermissionError") 129), (.type "PermissionError")⟩, ⟨PyData.keyHash P (Str.ofString "ProcessLookupError"), (.str (Str.ofString "ProcessLookupError") 130), (.type "ProcessLookupError")⟩, ⟨PyData.keyHash P (Str.ofString "TimeoutError"), (.str (Str.ofString "TimeoutError") 131), (.type "TimeoutError")⟩, ⟨PyData.keyHash P (Str.ofString "IndentationError"), (.str (Str.ofString "IndentationError") 132), (.type "IndentationError")⟩, ⟨PyData.keyHash P (Str.ofString "_IncompleteInputError"), (.str (Str.ofString "_IncompleteInputError") 133), (.type "_IncompleteInputError")⟩, ⟨PyData.keyHash P (Str.ofString "IndexError"), (.str (Str.ofString "IndexError") 134), (.type "IndexError")⟩, ⟨PyData.keyHash P (Str.ofString "KeyError"), (.str (Str.ofString "KeyError") 135), (.type "KeyError")⟩, ⟨PyData.keyHash P (Str.ofString "ModuleNotFoundError"), (.str (Str.ofString "ModuleNotFoundError") 136), (.type "ModuleNotFoundError")⟩, ⟨PyData.keyHash P (Str.ofString "NotImplementedError"), (.str (Str.ofString "NotImplementedError") 137), (.type "NotImplementedError")⟩, ⟨PyData.keyHash P (Str.ofString "PythonFinalizationError"), (.str (Str.ofString "PythonFinalizationError") 138), (.type "PythonFinalizationError")⟩, ⟨PyData.keyHash P (Str.ofString "RecursionError"), (.str (Str.ofString "RecursionError") 139), (.type "RecursionError")⟩, ⟨PyData.keyHash P (Str.ofString "UnboundLocalError"), (.str (Str.ofString "UnboundLocalError") 140), (.type "UnboundLocalError")⟩, ⟨PyData.keyHash P (Str.ofString "UnicodeError"), (.str (Str.ofString "UnicodeError") 141), (.type "UnicodeError")⟩, ⟨PyData.keyHash P (Str.ofString "BrokenPipeError"), (.str (Str.ofString "BrokenPipeError") 142), (.type "BrokenPipeError")⟩, ⟨PyData.keyHash P (Str.ofString "ConnectionAbortedError"), (.str (Str.ofString "ConnectionAbortedError") 143), (.type "ConnectionAbortedError")⟩, ⟨PyData.keyHash P (Str.ofString "ConnectionRefusedError"), (.str (Str.ofString "ConnectionRefusedError") 144), (.type "ConnectionRefusedError")⟩, ⟨PyData.keyHash P (Str.ofString "ConnectionResetError"), (.str (Str.ofString "ConnectionResetError") 145), (.type "ConnectionResetError")⟩, ⟨PyData.keyHash P (Str.ofString "TabError"), (.str (Str.ofString "TabError") 146), (.type "TabError")⟩, ⟨PyData.keyHash P (Str.ofString "UnicodeDecodeError"), (.str (Str.ofString "UnicodeDecodeError") 147), (.type "UnicodeDecodeError")⟩, ⟨PyData.keyHash P (Str.ofString "UnicodeEncodeError"), (.str (Str.ofString "UnicodeEncodeError") 148), (.type "UnicodeEncodeError")⟩, ⟨PyData.keyHash P (Str.ofString "UnicodeTranslateError"), (.str (Str.ofString "UnicodeTranslateError") 149), (.type "UnicodeTranslateError")⟩, ⟨PyData.keyHash P (Str.ofString "ExceptionGroup"), (.str (Str.ofString "ExceptionGroup") 150), (.type "ExceptionGroup")⟩, ⟨PyData.keyHash P (Str.ofString "EnvironmentError"), (.str (Str.ofString "EnvironmentError") 151), (.type "OSError")⟩, ⟨PyData.keyHash P (Str.ofString "IOError"), (.str (Str.ofString "IOError") 152), (.type "OSError")⟩, ⟨PyData.keyHash P (Str.ofString "open"), (.str (Str.ofString "open") 153), (.builtin "open")⟩, ⟨PyData.keyHash P (Str.ofString "quit"), (.str (Str.ofString "quit") 154), (.builtin "builtins.quit#opaque")⟩, ⟨PyData.keyHash P (Str.ofString "exit"), (.str (Str.ofString "exit") 155), (.builtin "builtins.exit#opaque")⟩, ⟨PyData.keyHash P (Str.ofString "copyright"), (.str (Str.ofString "copyright") 156), (.builtin "builtins.copyright#opaque")⟩, ⟨PyData.keyHash P (Str.ofString "credits"), (.str (Str.ofString "credits") 157), (.builtin "builtins.credits#opaque")⟩, ⟨PyData.keyHash P (Str.ofString "license"), (.str (Str.ofString "license") 158), (.builtin "builtins.license#opaque")⟩, ⟨PyData.keyHash P (Str.ofString "help"), (.str (Str.ofString "help") 159), (.builtin "builtins.help#opaque")⟩] 159), #[]⟩
noncomputable abbrev o1 (P : Params) : Obj := ⟨(.type "dict"), none, (.dict #[⟨PyData.keyHash P (Str.ofString "builtins"), (.str (Str.ofString "builtins") 162), (.ref 4)⟩, ⟨PyData.keyHash P (Str.ofString "__main__"), (.str (Str.ofString "__main__") 163), (.ref 5)⟩] 2), #[]⟩
noncomputable abbrev o2 (_ : Params) : Obj := ⟨.none, none, (.dict #[] 0), #[]⟩
noncomputable abbrev o3b (P : Params) : Obj := ⟨(.type "dict"), none, (.dict #[⟨PyData.keyHash P (Str.ofString "__name__"), (.str (Str.ofString "__name__") 165), (.str (Str.ofString "__main__") 164)⟩, ⟨PyData.keyHash P (Str.ofString "__doc__"), (.str (Str.ofString "__doc__") 166), .none⟩, ⟨PyData.keyHash P (Str.ofString "__package__"), (.str (Str.ofString "__package__") 167), .none⟩, ⟨PyData.keyHash P (Str.ofString "__loader__"), (.str (Str.ofString "__loader__") 168), (.builtin "__main__.__loader__#opaque")⟩, ⟨PyData.keyHash P (Str.ofString "__spec__"), (.str (Str.ofString "__spec__") 169), .none⟩, ⟨PyData.keyHash P (Str.ofString "__annotations__"), (.str (Str.ofString "__annotations__") 170), (.ref 6)⟩, ⟨PyData.keyHash P (Str.ofString "__builtins__"), (.str (Str.ofString "__builtins__") 171), (.ref 4)⟩, ⟨PyData.keyHash P (Str.ofString "__file__"), (.str (Str.ofString "__file__") 173), (.str (Str.ofString "/claim/cut.py") 172)⟩, ⟨PyData.keyHash P (Str.ofString "__cached__"), (.str (Str.ofString "__cached__") 174), .none⟩] 9), #[]⟩
noncomputable abbrev o3p2 (P : Params) : Obj := ⟨(.type "dict"), none, (.dict #[⟨PyData.keyHash P (Str.ofString "__name__"), (.str (Str.ofString "__name__") 165), (.str (Str.ofString "cpy313.tabnanny") 194)⟩, ⟨PyData.keyHash P (Str.ofString "__doc__"), (.str (Str.ofString "__doc__") 166), .none⟩, ⟨PyData.keyHash P (Str.ofString "__package__"), (.str (Str.ofString "__package__") 167), .none⟩, ⟨PyData.keyHash P (Str.ofString "__loader__"), (.str (Str.ofString "__loader__") 168), (.builtin "__main__.__loader__#opaque")⟩, ⟨PyData.keyHash P (Str.ofString "__spec__"), (.str (Str.ofString "__spec__") 169), .none⟩, ⟨PyData.keyHash P (Str.ofString "__annotations__"), (.str (Str.ofString "__annotations__") 170), (.ref 6)⟩, ⟨PyData.keyHash P (Str.ofString "__builtins__"), (.str (Str.ofString "__builtins__") 171), (.ref 4)⟩, ⟨PyData.keyHash P (Str.ofString "__file__"), (.str (Str.ofString "__file__") 173), (.str (Str.ofString "/claim/cut.py") 172)⟩, ⟨PyData.keyHash P (Str.ofString "__cached__"), (.str (Str.ofString "__cached__") 174), .none⟩, ⟨PyData.keyHash P (Str.ofString "_wall"), (.str (Str.ofString "_wall") 193), (.ref 21)⟩] 10), #[]⟩
noncomputable abbrev o3p3 (P : Params) : Obj := ⟨(.type "dict"), none, (.dict #[⟨PyData.keyHash P (Str.ofString "__name__"), (.str (Str.ofString "__name__") 165), (.str (Str.ofString "cpy313.tabnanny") 194)⟩, ⟨PyData.keyHash P (Str.ofString "__doc__"), (.str (Str.ofString "__doc__") 166), .none⟩, ⟨PyData.keyHash P (Str.ofString "__package__"), (.str (Str.ofString "__package__") 167), .none⟩, ⟨PyData.keyHash P (Str.ofString "__loader__"), (.str (Str.ofString "__loader__") 168), (.builtin "__main__.__loader__#opaque")⟩, ⟨PyData.keyHash P (Str.ofString "__spec__"), (.str (Str.ofString "__spec__") 169), .none⟩, ⟨PyData.keyHash P (Str.ofString "__annotations__"), (.str (Str.ofString "__annotations__") 170), (.ref 6)⟩, ⟨PyData.keyHash P (Str.ofString "__builtins__"), (.str (Str.ofString "__builtins__") 171), (.ref 4)⟩, ⟨PyData.keyHash P (Str.ofString "__file__"), (.str (Str.ofString "__file__") 173), (.str (Str.ofString "/claim/cut.py") 172)⟩, ⟨PyData.keyHash P (Str.ofString "__cached__"), (.str (Str.ofString "__cached__") 174), .none⟩, ⟨PyData.keyHash P (Str.ofString "_wall"), (.str (Str.ofString "_wall") 193), (.ref 21)⟩, ⟨PyData.keyHash P (Str.ofString "Whitespace"), (.str (Str.ofString "Whitespace") 291), (.ref 83)⟩] 11), #[]⟩
noncomputable abbrev o3p8 (P : Params) : Obj := ⟨(.type "dict"), none, (.dict #[⟨PyData.keyHash P (Str.ofString "__name__"), (.str (Str.ofString "__name__") 165), (.str (Str.ofString "cpy313.stringprep") 318)⟩, ⟨PyData.keyHash P (Str.ofString "__doc__"), (.str (Str.ofString "__doc__") 166), .none⟩, ⟨PyData.keyHash P (Str.ofString "__package__"), (.str (Str.ofString "__package__") 167), .none⟩, ⟨PyData.keyHash P (Str.ofString "__loader__"), (.str (Str.ofString "__loader__") 168), (.builtin "__main__.__loader__#opaque")⟩, ⟨PyData.keyHash P (Str.ofString "__spec__"), (.str (Str.ofString "__spec__") 169), .none⟩, ⟨PyData.keyHash P (Str.ofString "__annotations__"), (.str (Str.ofString "__annotations__") 170), (.ref 6)⟩, ⟨PyData.keyHash P (Str.ofString "__builtins__"), (.str (Str.ofString "__builtins__") 171), (.ref 4)⟩, ⟨PyData.keyHash P (Str.ofString "__file__"), (.str (Str.ofString "__file__") 173), (.str (Str.ofString "/claim/cut.py") 172)⟩, ⟨PyData.keyHash P (Str.ofString "__cached__"), (.str (Str.ofString "__cached__") 174), .none⟩, ⟨PyData.keyHash P (Str.ofString "_wall"), (.str (Str.ofString "_wall") 193), (.ref 21)⟩, ⟨PyData.keyHash P (Str.ofString "Whitespace"), (.str (Str.ofString "Whitespace") 291), (.ref 83)⟩, ⟨PyData.keyHash P (Str.ofString "ifloordiv"), (.str (Str.ofString "ifloordiv") 301), (.ref 94)⟩, ⟨PyData.keyHash P (Str.ofString "imul"), (.str (Str.ofString "imul") 309), (.ref 101)⟩, ⟨PyData.keyHash P (Str.ofString "isub"), (.str (Str.ofString "isub") 317), (.ref 108)⟩] 14), #[]⟩
noncomputable abbrev o3p9 (P : Params) : Obj := ⟨(.type "dict"), none, (.dict #[⟨PyData.keyHash P (Str.ofString "__name__"), (.str (Str.ofString "__name__") 165), (.str (Str.ofString "cpy313.stringprep") 318)⟩, ⟨PyData.keyHash P (Str.ofString "__doc__"), (.str (Str.ofString "__doc__") 166), .none⟩, ⟨PyData.keyHash P (Str.ofString "__package__"), (.str (Str.ofString "__package__") 167), .none⟩, ⟨PyData.keyHash P (Str.ofString "__loader__"), (.str (Str.ofString "__loader__") 168), (.builtin "__main__.__loader__#opaque")⟩, ⟨PyData.keyHash P (Str.ofString "__spec__"), (.str (Str.ofString "__spec__") 169), .none⟩, ⟨PyData.keyHash P (Str.ofString "__annotations__"), (.str (Str.ofString "__annotations__") 170), (.ref 6)⟩, ⟨PyData.keyHash P (Str.ofString "__builtins__"), (.str (Str.ofString "__builtins__") 171), (.ref 4)⟩, ⟨PyData.keyHash P (Str.ofString "__file__"), (.str (Str.ofString "__file__") 173), (.str (Str.ofString "/claim/cut.py") 172)⟩, ⟨PyData.keyHash P (Str.ofString "__cached__"), (.str (Str.ofString "__cached__") 174), .none⟩, ⟨PyData.keyHash P (Str.ofString "_wall"), (.str (Str.ofString "_wall") 193), (.ref 21)⟩, ⟨PyData.keyHash P (Str.ofString "Whitespace"), (.str (Str.ofString "Whitespace") 291), (.ref 83)⟩, ⟨PyData.keyHash P (Str.ofString "ifloordiv"), (.str (Str.ofString "ifloordiv") 301), (.ref 94)⟩, ⟨PyData.keyHash P (Str.ofString "imul"), (.str (Str.ofString "imul") 309), (.ref 101)⟩, ⟨PyData.keyHash P (Str.ofString "isub"), (.str (Str.ofString "isub") 317), (.ref 108)⟩, ⟨PyData.keyHash P (Str.ofString "b1_set"), (.str (Str.ofString "b1_set") 379), (.ref 116)⟩] 15), #[]⟩
noncomputable abbrev o3p10 (P : Params) : Obj := ⟨(.type "dict"), none, (.dict #[⟨PyData.keyHash P (Str.ofString "__name__"), (.str (Str.ofString "__name__") 165), (.str (Str.ofString "cpy313.stringprep") 318)⟩, ⟨PyData.keyHash P (Str.ofString "__doc__"), (.str (Str.ofString "__doc__") 166), .none⟩, ⟨PyData.keyHash P (Str.ofString "__package__"), (.str (Str.ofString "__package__") 167), .none⟩, ⟨PyData.keyHash P (Str.ofString "__loader__"), (.str (Str.ofString "__loader__") 168), (.builtin "__main__.__loader__#opaque")⟩, ⟨PyData.keyHash P (Str.ofString "__spec__"), (.str (Str.ofString "__spec__") 169), .none⟩, ⟨PyData.keyHash P (Str.ofString "__annotations__"), (.str (Str.ofString "__annotations__") 170), (.ref 6)⟩, ⟨PyData.keyHash P (Str.ofString "__builtins__"), (.str (Str.ofString "__builtins__") 171), (.ref 4)⟩, ⟨PyData.keyHash P (Str.ofString "__file__"), (.str (Str.ofString "__file__") 173), (.str (Str.ofString "/claim/cut.py") 172)⟩, ⟨PyData.keyHash P (Str.ofString "__cached__"), (.str (Str.ofString "__cached__") 174), .none⟩, ⟨PyData.keyHash P (Str.ofString "_wall"), (.str (Str.ofString "_wall") 193), (.ref 21)⟩, ⟨PyData.keyHash P (Str.ofString "Whitespace"), (.str (Str.ofString "Whitespace") 291), (.ref 83)⟩, ⟨PyData.keyHash P (Str.ofString "ifloordiv"), (.str (Str.ofString "ifloordiv") 301), (.ref 94)⟩, ⟨PyData.keyHash P (Str.ofString "imul"), (.str (Str.ofString "imul") 309), (.ref 101)⟩, ⟨PyData.keyHash P (Str.ofString "isub"), (.str (Str.ofString "isub") 317), (.ref 108)⟩, ⟨PyData.keyHash P (Str.ofString "b1_set"), (.str (Str.ofString "b1_set") 379), (.ref 116)⟩, ⟨PyData.keyHash P (Str.ofString "in_table_b1"), (.str (Str.ofString "in_table_b1") 386), (.ref 126)⟩] 16), #[]⟩
noncomputable abbrev o3p11 (P : Params) : Obj := ⟨(.type "dict"), none, (.dict #[⟨PyData.keyHash P (Str.ofString "__name__"), (.str (Str.ofString "__name__") 165), (.str (Str.ofString "cpy313.stringprep") 318)⟩, ⟨PyData.keyHash P (Str.ofString "__doc__"), (.str (Str.ofString "__doc__") 166), .none⟩, ⟨PyData.keyHash P (Str.ofString "__package__"), (.str (Str.ofString "__package__") 167), .none⟩, ⟨PyData.keyHash P (Str.ofString "__loader__"), (.str (Str.ofString "__loader__") 168), (.builtin "__main__.__loader__#opaque")⟩, ⟨PyData.keyHash P (Str.ofString "__spec__"), (.str (Str.ofString "__spec__") 169), .none⟩, ⟨PyData.keyHash P (Str.ofString "__annotations__"), (.str (Str.ofString "__annotations__") 170), (.ref 6)⟩, ⟨PyData.keyHash P (Str.ofString "__builtins__"), (.str (Str.ofString "__builtins__") 171), (.ref 4)⟩, ⟨PyData.keyHash P (Str.ofString "__file__"), (.str (Str.ofString "__file__") 173), (.str (Str.ofString "/claim/cut.py") 172)⟩, ⟨PyData.keyHash P (Str.ofString "__cached__"), (.str (Str.ofString "__cached__") 174), .none⟩, ⟨PyData.keyHash P (Str.ofString "_wall"), (.str (Str.ofString "_wall") 193), (.ref 21)⟩, ⟨PyData.keyHash P (Str.ofString "Whitespace"), (.str (Str.ofString "Whitespace") 291), (.ref 83)⟩, ⟨PyData.keyHash P (Str.ofString "ifloordiv"), (.str (Str.ofString "ifloordiv") 301), (.ref 94)⟩, ⟨PyData.keyHash P (Str.ofString "imul"), (.str (Str.ofString "imul") 309), (.ref 101)⟩, ⟨PyData.keyHash P (Str.ofString "isub"), (.str (Str.ofString "isub") 317), (.ref 108)⟩, ⟨PyData.keyHash P (Str.ofString "b1_set"), (.str (Str.ofString "b1_set") 379), (.ref 116)⟩, ⟨PyData.keyHash P (Str.ofString "in_table_b1"), (.str (Str.ofString "in_table_b1") 386), (.ref 126)⟩, ⟨PyData.keyHash P (Str.ofString "b3_exceptions"), (.str (Str.ofString "b3_exceptions") 2337), (.ref 127)⟩] 17), #[]⟩
noncomputable abbrev o3 (P : Params) : Obj := ⟨(.type "dict"), none, (.dict #[⟨PyData.keyHash P (Str.ofString "__name__"), (.str (Str.ofString "__name__") 165), (.str (Str.ofString "law_tc0086_01") 2390)⟩, ⟨PyData.keyHash P (Str.ofString "__doc__"), (.str (Str.ofString "__doc__") 166), .none⟩, ⟨PyData.keyHash P (Str.ofString "__package__"), (.str (Str.ofString "__package__") 167), .none⟩, ⟨PyData.keyHash P (Str.ofString "__loader__"), (.str (Str.ofString "__loader__") 168), (.builtin "__main__.__loader__#opaque")⟩, ⟨PyData.keyHash P (Str.ofString "__spec__"), (.str (Str.ofString "__spec__") 169), .none⟩, ⟨PyData.keyHash P (Str.ofString "__annotations__"), (.str (Str.ofString "__annotations__") 170), (.ref 6)⟩, ⟨PyData.keyHash P (Str.ofString "__builtins__"), (.str (Str.ofString "__builtins__") 171), (.ref 4)⟩, ⟨PyData.keyHash P (Str.ofString "__file__"), (.str (Str.ofString "__file__") 173), (.str (Str.ofString "/claim/cut.py") 172)⟩, ⟨PyData.keyHash P (Str.ofString "__cached__"), (.str (Str.ofString "__cached__") 174), .none⟩, ⟨PyData.keyHash P (Str.ofString "_wall"), (.str (Str.ofString "_wall") 193), (.ref 21)⟩, ⟨PyData.keyHash P (Str.ofString "Whitespace"), (.str (Str.ofString "Whitespace") 291), (.ref 83)⟩, ⟨PyData.keyHash P (Str.ofString "ifloordiv"), (.str (Str.ofString "ifloordiv") 301), (.ref 94)⟩, ⟨PyData.keyHash P (Str.ofString "imul"), (.str (Str.ofString "imul") 309), (.ref 101)⟩, ⟨PyData.keyHash P (Str.ofString "isub"), (.str (Str.ofString "isub") 317), (.ref 108)⟩, ⟨PyData.keyHash P (Str.ofString "b1_set"), (.str (Str.ofString "b1_set") 379), (.ref 116)⟩, ⟨PyData.keyHash P (Str.ofString "in_table_b1"), (.str (Str.ofString "in_table_b1") 386), (.ref 126)⟩, ⟨PyData.keyHash P (Str.ofString "b3_exceptions"), (.str (Str.ofString "b3_exceptions") 2337), (.ref 127)⟩, ⟨PyData.keyHash P (Str.ofString "map_table_b3"), (.str (Str.ofString "map_table_b3") 2345), (.ref 172)⟩, ⟨PyData.keyHash P (Str.ofString "_raise_serialization_error"), (.str (Str.ofString "_raise_serialization_error") 2354), (.ref 179)⟩, ⟨PyData.keyHash P (Str.ofString "_escape_cdata"), (.str (Str.ofString "_escape_cdata") 2361), (.ref 186)⟩, ⟨PyData.keyHash P (Str.ofString "_escape_attrib"), (.str (Str.ofString "_escape_attrib") 2368), (.ref 193)⟩, ⟨PyData.keyHash P (Str.ofString "_escape_attrib_html"), (.str (Str.ofString "_escape_attrib_html") 2375), (.ref 200)⟩, ⟨PyData.keyHash P (Str.ofString "_escape_cdata_c14n"), (.str (Str.ofString "_escape_cdata_c14n") 2382), (.ref 207)⟩, ⟨PyData.keyHash P (Str.ofString "_escape_attrib_c14n"), (.str (Str.ofString "_escape_attrib_c14n") 2389), (.ref 214)⟩, ⟨PyData.keyHash P (Str.ofString "_law_heaps"), (.str (Str.ofString "_law_heaps") 2397), (.ref 219)⟩, ⟨PyData.keyHash P (Str.ofString "_law_order"), (.str (Str.ofString "_law_order") 2407), (.ref 226)⟩, ⟨PyData.keyHash P (Str.ofString "_law_parts"), (.str (Str.ofString "_law_parts") 2413), (.ref 231)⟩, ⟨PyData.keyHash P (Str.ofString "_law_text"), (.str (Str.ofString "_law_text") 2419), (.ref 236)⟩, ⟨PyData.keyHash P (Str.ofString "_law_typed"), (.str (Str.ofString "_law_typed") 2432), (.ref 243)⟩, ⟨PyData.keyHash P (Str.ofString "_law_written"), (.str (Str.ofString "_law_written") 2442), (.ref 250)⟩, ⟨PyData.keyHash P (Str.ofString "_law_unseen"), (.str (Str.ofString "_law_unseen") 2450), (.ref 257)⟩, ⟨PyData.keyHash P (Str.ofString "_law_beside"), (.str (Str.ofString "_law_beside") 2458), (.ref 264)⟩, ⟨PyData.keyHash P (Str.ofString "_law_column"), (.str (Str.ofString "_law_column") 2468), (.ref 271)⟩, ⟨PyData.keyHash P (Str.ofString "_law_frieze"), (.str (Str.ofString "_law_frieze") 2479), (.ref 278)⟩, ⟨PyData.keyHash P (Str.ofString "law"), (.str (Str.ofString "law") 2485), (.ref 283)⟩] 35), #[]⟩
noncomputable abbrev o4 (_ : Params) : Obj := ⟨(.type "module"), (some 0), .plain, #[]⟩
noncomputable abbrev o5 (_ : Params) : Obj := ⟨(.type "module"), (some 3), .plain, #[]⟩
noncomputable abbrev o6 (_ : Params) : Obj := ⟨(.type "dict"), none, (.dict #[] 0), #[]⟩
noncomputable abbrev o7 (_ : Params) : Obj := ⟨(.type "tuple"), none, (.seq #[] 0), #[]⟩
noncomputable abbrev o8 (_ : Params) : Obj := ⟨.none, none, (.fields #[]), #[]⟩
noncomputable abbrev o9 (_ : Params) : Obj := ⟨(.type "code"), none, (.fields #[(.str (Str.ofString "<module>") 176), (.str (Str.ofString "<module>") 177), (.str (Str.ofString "/claim/cut.py") 178), (.int 1 0), (.int 0 0), (.int 0 0), (.int 0 0), (.int 0 0), (.ref 7), (.bool false), (.int 175 0), (.ref 8), .none, .none, .none, .none, (.int 179 0), (.int 1 0), (.str (Str.ofString "/claim/cut.py") 180)]), #[]⟩
noncomputable abbrev o10 (_ : Params) : Obj := ⟨(.type "frame"), none, .plain, #[(some (.ref 9)), (some (.ref 3)), (some (.ref 3)), none, (some (.str (Str.ofString "__main__") 164)), none, (some (.ref 0))]⟩
noncomputable abbrev o11 (_ : Params) : Obj := ⟨(.type "tuple"), none, (.seq #[] 0), #[]⟩
noncomputable abbrev o12b (_ : Params) : Obj := ⟨.none, none, (.fields #[]), #[]⟩
noncomputable abbrev o12p2 (_ : Params) : Obj := ⟨.none, none, (.fields #[(.int 1 0), (.int 0 0), (.ref 20)]), #[]⟩
noncomputable abbrev o12p3 (_ : Params) : Obj := ⟨.none, none, (.fields #[(.int 1 0), (.int 0 0), (.ref 20), (.int 5 0), (.int 0 0), (.ref 27)]), #[]⟩
noncomputable abbrev o12p8 (_ : Params) : Obj := ⟨.none, none, (.fields #[(.int 1 0), (.int 0 0), (.ref 20), (.int 5 0), (.int 0 0), (.ref 27), (.int 53 0), (.int 0 0), (.ref 93), (.int 56 0), (.int 0 0), (.ref 100), (.int 59 0), (.int 0 0), (.ref 107)]), #[]⟩
noncomputable abbrev o12p10 (_ : Params) : Obj := ⟨.none, none, (.fields #[(.int 1 0), (.int 0 0), (.ref 20), (.int 5 0), (.int 0 0), (.ref 27), (.int 53 0), (.int 0 0), (.ref 93), (.int 56 0), (.int 0 0), (.ref 100), (.int 59 0), (.int 0 0), (.ref 107), (.int 64 0), (.int 0 0), (.ref 125)]), #[]⟩
noncomputable abbrev o12 (_ : Params) : Obj := ⟨.none, none, (.fields #[(.int 1 0), (.int 0 0), (.ref 20), (.int 5 0), (.int 0 0), (.ref 27), (.int 53 0), (.int 0 0), (.ref 93), (.int 56 0), (.int 0 0), (.ref 100), (.int 59 0), (.int 0 0), (.ref 107), (.int 64 0), (.int 0 0), (.ref 125), (.int 67 0), (.int 0 0), (.ref 171), (.int 73 0), (.int 0 0), (.ref 178), (.int 75 0), (.int 0 0), (.ref 185), (.int 86 0), (.int 0 0), (.ref 192), (.int 105 0), (.int 0 0), (.ref 199), (.int 116 0), (.int 0 0), (.ref 206), (.int 129 0), (.int 0 0), (.ref 213), (.int 147 0), (.int 0 0), (.ref 218), (.int 150 0), (.int 0 0), (.ref 225), (.int 157 0), (.int 0 0), (.ref 230), (.int 163 0), (.int 0 0), (.ref 235), (.int 169 0), (.int 0 0), (.ref 242), (.int 183 0), (.int 0 0), (.ref 249), (.int 189 0), (.int 0 0), (.ref 256), (.int 192 0), (.int 0 0), (.ref 263), (.int 195 0), (.int 0 0), (.ref 270), (.int 203 0), (.int 0 0), (.ref 277), (.int 211 0), (.int 0 0), (.ref 282)]), #[]⟩
noncomputable abbrev o13 (_ : Params) : Obj := ⟨(.type "code"), none, (.fields #[(.str (Str.ofString "<module>") 182), (.str (Str.ofString "<module>") 183), (.str (Str.ofString "/claim/cut.py") 184), (.int 1 0), (.int 0 0), (.int 0 0), (.int 0 0), (.int 0 0), (.ref 11), (.bool false), (.int 181 0), (.ref 12), .none, .none, .none, .none, (.int 185 0), (.int 1 0), (.str (Str.ofString "/claim/cut.py") 186)]), #[]⟩
noncomputable abbrev o14 (_ : Params) : Obj := ⟨(.type "frame"), none, .plain, #[(some (.ref 13)), (some (.ref 3)), (some (.ref 3)), none, (some (.str (Str.ofString "__main__") 164)), none, (some (.ref 0))]⟩
noncomputable abbrev o15 (_ : Params) : Obj := ⟨(.type "tuple"), none, (.seq #[] 0), #[]⟩
noncomputable abbrev o16 (_ : Params) : Obj := ⟨.none, none, (.fields #[]), #[]⟩
noncomputable abbrev o17 (_ : Params) : Obj := ⟨(.type "tuple"), none, (.seq #[(.str (Str.ofString "k") 190)] 0), #[]⟩
noncomputable abbrev o18 (_ : Params) : Obj := ⟨(.type "tuple"), none, (.seq #[] 0), #[]⟩
noncomputable abbrev o19 (_ : Params) : Obj := ⟨.none, none, (.func ⟨(Str.ofString "_wall"), (Str.ofString "_wall"), params0, .stmts body0, scope0, 0, [], .none, .none, .none, .none, none, .none, .none, 0⟩), #[]⟩
noncomputable abbrev o20 (_ : Params) : Obj := ⟨(.type "code"), none, (.fields #[(.str (Str.ofString "_wall") 187), (.str (Str.ofString "_wall") 188), (.str (Str.ofString "/claim/cut.py") 189), (.int 1 0), (.int 1 0), (.int 0 0), (.int 0 0), (.int 3 0), (.ref 15), (.bool true), (.int 181 0), (.ref 16), .none, (.ref 17), (.ref 18), (.ref 19), (.int 191 0), (.int 1 0), (.str (Str.ofString "/claim/cut.py") 192)]), #[]⟩
noncomputable abbrev o21 (_ : Params) : Obj := ⟨(.type "function"), none, (.func ⟨(Str.ofString "_wall"), (Str.ofString "_wall"), params0, .stmts body0, scope0, 3, [], .none, .none, .none, (.str (Str.ofString "__main__") 164), none, (.ref 20), .none, 0⟩), #[]⟩
noncomputable abbrev o22 (_ : Params) : Obj := ⟨(.type "tuple"), none, (.seq #[] 0), #[]⟩
noncomputable abbrev o23 (_ : Params) : Obj := ⟨(.type "builtin_function_or_method"), none, (.fields #[(.builtin "type.__prepare__"), (.type "type")]), #[]⟩
noncomputable abbrev o24 (P : Params) : Obj := ⟨(.type "dict"), none, (.dict #[⟨PyData.keyHash P (Str.ofString "__module__"), (.str (Str.ofString "__module__") 203), (.str (Str.ofString "cpy313.tabnanny") 194)⟩, ⟨PyData.keyHash P (Str.ofString "__qualname__"), (.str (Str.ofString "__qualname__") 205), (.str (Str.ofString "Whitespace") 204)⟩, ⟨PyData.keyHash P (Str.ofString "__firstlineno__"), (.str (Str.ofString "__firstlineno__") 207), (.int 5 206)⟩, ⟨PyData.keyHash P (Str.ofString "S"), (.str (Str.ofString "S") 211), (.str (Str.ofString " ") 209)⟩, ⟨PyData.keyHash P (Str.ofString "T"), (.str (Str.ofString "T") 212), (.str (Str.ofString "\t") 210)⟩, ⟨PyData.keyHash P (Str.ofString "__init__"), (.str (Str.ofString "__init__") 227), (.ref 38)⟩, ⟨PyData.keyHash P (Str.ofString "longest_run_of_spaces"), (.str (Str.ofString "longest_run_of_spaces") 234), (.ref 45)⟩, ⟨PyData.keyHash P (Str.ofString "indent_level"), (.str (Str.ofString "indent_level") 246), (.ref 52)⟩, ⟨PyData.keyHash P (Str.ofString "equal"), (.str (Str.ofString "equal") 254), (.ref 59)⟩, ⟨PyData.keyHash P (Str.ofString "not_equal_witness"), (.str (Str.ofString "not_equal_witness") 262), (.ref 66)⟩, ⟨PyData.keyHash P (Str.ofString "less"), (.str (Str.ofString "less") 270), (.ref 73)⟩, ⟨PyData.keyHash P (Str.ofString "not_less_witness"), (.str (Str.ofString "not_less_witness") 278), (.ref 80)⟩, ⟨PyData.keyHash P (Str.ofString "__static_attributes__"), (.str (Str.ofString "__static_attributes__") 284), (.ref 81)⟩] 13), #[]⟩
noncomputable abbrev o25 (_ : Params) : Obj := ⟨(.type "tuple"), none, (.seq #[] 0), #[]⟩
noncomputable abbrev o26 (_ : Params) : Obj := ⟨.none, none, (.fields #[(.int 8 0), (.int 4 0), (.ref 37), (.int 31 0), (.int 4 0), (.ref 44), (.int 34 0), (.int 4 0), (.ref 51), (.int 41 0), (.int 4 0), (.ref 58), (.int 44 0), (.int 4 0), (.ref 65), (.int 47 0), (.int 4 0), (.ref 72), (.int 50 0), (.int 4 0), (.ref 79)]), #[]⟩
noncomputable abbrev o27 (_ : Params) : Obj := ⟨(.type "code"), none, (.fields #[(.str (Str.ofString "Whitespace") 198), (.str (Str.ofString "Whitespace") 199), (.str (Str.ofString "/claim/cut.py") 200), (.int 5 0), (.int 0 0), (.int 0 0), (.int 0 0), (.int 0 0), (.ref 25), (.bool false), (.int 181 0), (.ref 26), .none, .none, .none, .none, (.int 201 0), (.int 5 0), (.str (Str.ofString "/claim/cut.py") 202)]), #[]⟩
noncomputable abbrev o28 (_ : Params) : Obj := ⟨(.type "frame"), none, .plain, #[(some (.ref 27)), (some (.ref 3)), (some (.ref 24)), none, (some (.str (Str.ofString "cpy313.tabnanny") 194)), none, (some (.ref 0))]⟩
noncomputable abbrev o29 (_ : Params) : Obj := ⟨(.type "str_ascii_iterator"), none, (.fields #[.none, (.int 2 0)]), #[]⟩
noncomputable abbrev o30 (_ : Params) : Obj := ⟨(.type "tuple"), none, (.seq #[] 0), #[]⟩
noncomputable abbrev o31 (_ : Params) : Obj := ⟨(.type "StopIteration"), none, (.fields #[(.ref 30), .none, .none, .none, (.bool false), .none]), #[]⟩
noncomputable abbrev o32 (_ : Params) : Obj := ⟨(.type "tuple"), none, (.seq #[] 0), #[]⟩
noncomputable abbrev o33 (_ : Params) : Obj := ⟨.none, none, (.fields #[]), #[]⟩
noncomputable abbrev o34 (_ : Params) : Obj := ⟨(.type "tuple"), none, (.seq #[(.str (Str.ofString "self") 216), (.str (Str.ofString "ws") 217), (.str (Str.ofString "S") 218), (.str (Str.ofString "T") 219), (.str (Str.ofString "count") 220), (.str (Str.ofString "b") 221), (.str (Str.ofString "n") 222), (.str (Str.ofString "nt") 223), (.str (Str.ofString "ch") 224)] 0), #[]⟩
noncomputable abbrev o35 (_ : Params) : Obj := ⟨(.type "tuple"), none, (.seq #[] 0), #[]⟩
noncomputable abbrev o36 (_ : Params) : Obj := ⟨.none, none, (.func ⟨(Str.ofString "__init__"), (Str.ofString "Whitespace.__init__"), params2_1, .stmts body2_1, scope2_1, 0, [], .none, .none, .none, .none, none, .none, .none, 0⟩), #[]⟩
noncomputable abbrev o37 (_ : Params) : Obj := ⟨(.type "code"), none, (.fields #[(.str (Str.ofString "__init__") 213), (.str (Str.ofString "Whitespace.__init__") 214), (.str (Str.ofString "/claim/cut.py") 215), (.int 8 0), (.int 2 0), (.int 0 0), (.int 0 0), (.int 3 0), (.ref 32), (.bool true), (.int 181 0), (.ref 33), .none, (.ref 34), (.ref 35), (.ref 36), (.int 225 0), (.int 8 0), (.str (Str.ofString "/claim/cut.py") 226)]), #[]⟩
noncomputable abbrev o38 (_ : Params) : Obj := ⟨(.type "function"), none, (.func ⟨(Str.ofString "__init__"), (Str.ofString "Whitespace.__init__"), params2_1, .stmts body2_1, scope2_1, 3, [], .none, .none, .none, (.str (Str.ofString "cpy313.tabnanny") 194), none, (.ref 37), .none, 0⟩), #[]⟩
noncomputable abbrev o39 (_ : Params) : Obj := ⟨(.type "tuple"), none, (.seq #[] 0), #[]⟩
noncomputable abbrev o40 (_ : Params) : Obj := ⟨.none, none, (.fields #[]), #[]⟩
noncomputable abbrev o41 (_ : Params) : Obj := ⟨(.type "tuple"), none, (.seq #[(.str (Str.ofString "self") 231)] 0), #[]⟩
noncomputable abbrev o42 (_ : Params) : Obj := ⟨(.type "tuple"), none, (.seq #[] 0), #[]⟩
noncomputable abbrev o43 (_ : Params) : Obj := ⟨.none, none, (.func ⟨(Str.ofString "longest_run_of_spaces"), (Str.ofString "Whitespace.longest_run_of_spaces"), params2_2, .stmts body2_2, scope2_2, 0, [], .none, .none, .none, .none, none, .none, .none, 0⟩), #[]⟩
noncomputable abbrev o44 (_ : Params) : Obj := ⟨(.type "code"), none, (.fields #[(.str (Str.ofString "longest_run_of_spaces") 228), (.str (Str.ofString "Whitespace.longest_run_of_spaces") 229), (.str (Str.ofString "/claim/cut.py") 230), (.int 31 0), (.int 1 0), (.int 0 0), (.int 0 0), (.int 3 0), (.ref 39), (.bool true), (.int 181 0), (.ref 40), .none, (.ref 41), (.ref 42), (.ref 43), (.int 232 0), (.int 31 0), (.str (Str.ofString "/claim/cut.py") 233)]), #[]⟩
noncomputable abbrev o45 (_ : Params) : Obj := ⟨(.type "function"), none, (.func ⟨(Str.ofString "longest_run_of_spaces"), (Str.ofString "Whitespace.longest_run_of_spaces"), params2_2, .stmts body2_2, scope2_2, 3, [], .none, .none, .none, (.str (Str.ofString "cpy313.tabnanny") 194), none, (.ref 44), .none, 0⟩), #[]⟩
noncomputable abbrev o46 (_ : Params) : Obj := ⟨(.type "tuple"), none, (.seq #[] 0), #[]⟩
noncomputable abbrev o47 (_ : Params) : Obj := ⟨.none, none, (.fields #[]), #[]⟩
noncomputable abbrev o48 (_ : Params) : Obj := ⟨(.type "tuple"), none, (.seq #[(.str (Str.ofString "self") 238), (.str (Str.ofString "tabsize") 239), (.str (Str.ofString "count") 240), (.str (Str.ofString "trailing") 241), (.str (Str.ofString "il") 242), (.str (Str.ofString "i") 243)] 0), #[]⟩
noncomputable abbrev o49 (_ : Params) : Obj := ⟨(.type "tuple"), none, (.seq #[] 0), #[]⟩
noncomputable abbrev o50 (_ : Params) : Obj := ⟨.none, none, (.func ⟨(Str.ofString "indent_level"), (Str.ofString "Whitespace.indent_level"), params2_3, .stmts body2_3, scope2_3, 0, [], .none, .none, .none, .none, none, .none, .none, 0⟩), #[]⟩
noncomputable abbrev o51 (_ : Params) : Obj := ⟨(.type "code"), none, (.fields #[(.str (Str.ofString "indent_level") 235), (.str (Str.ofString "Whitespace.indent_level") 236), (.str (Str.ofString "/claim/cut.py") 237), (.int 34 0), (.int 2 0), (.int 0 0), (.int 0 0), (.int 3 0), (.ref 46), (.bool true), (.int 181 0), (.ref 47), .none, (.ref 48), (.ref 49), (.ref 50), (.int 244 0), (.int 34 0), (.str (Str.ofString "/claim/cut.py") 245)]), #[]⟩
noncomputable abbrev o52 (_ : Params) : Obj := ⟨(.type "function"), none, (.func ⟨(Str.ofString "indent_level"), (Str.ofString "Whitespace.indent_level"), params2_3, .stmts body2_3, scope2_3, 3, [], .none, .none, .none, (.str (Str.ofString "cpy313.tabnanny") 194), none, (.ref 51), .none, 0⟩), #[]⟩
noncomputable abbrev o53 (_ : Params) : Obj := ⟨(.type "tuple"), none, (.seq #[] 0), #[]⟩
noncomputable abbrev o54 (_ : Params) : Obj := ⟨.none, none, (.fields #[]), #[]⟩
noncomputable abbrev o55 (_ : Params) : Obj := ⟨(.type "tuple"), none, (.seq #[(.str (Str.ofString "self") 250), (.str (Str.ofString "other") 251)] 0), #[]⟩
noncomputable abbrev o56 (_ : Params) : Obj := ⟨(.type "tuple"), none, (.seq #[] 0), #[]⟩
noncomputable abbrev o57 (_ : Params) : Obj := ⟨.none, none, (.func ⟨(Str.ofString "equal"), (Str.ofString "Whitespace.equal"), params2_4, .stmts body2_4, scope2_4, 0, [], .none, .none, .none, .none, none, .none, .none, 0⟩), #[]⟩
noncomputable abbrev o58 (_ : Params) : Obj := ⟨(.type "code"), none, (.fields #[(.str (Str.ofString "equal") 247), (.str (Str.ofString "Whitespace.equal") 248), (.str (Str.ofString "/claim/cut.py") 249), (.int 41 0), (.int 2 0), (.int 0 0), (.int 0 0), (.int 3 0), (.ref 53), (.bool true), (.int 181 0), (.ref 54), .none, (.ref 55), (.ref 56), (.ref 57), (.int 252 0), (.int 41 0), (.str (Str.ofString "/claim/cut.py") 253)]), #[]⟩
noncomputable abbrev o59 (_ : Params) : Obj := ⟨(.type "function"), none, (.func ⟨(Str.ofString "equal"), (Str.ofString "Whitespace.equal"), params2_4, .stmts body2_4, scope2_4, 3, [], .none, .none, .none, (.str (Str.ofString "cpy313.tabnanny") 194), none, (.ref 58), .none, 0⟩), #[]⟩
noncomputable abbrev o60 (_ : Params) : Obj := ⟨(.type "tuple"), none, (.seq #[] 0), #[]⟩
noncomputable abbrev o61 (_ : Params) : Obj := ⟨.none, none, (.fields #[]), #[]⟩
noncomputable abbrev o62 (_ : Params) : Obj := ⟨(.type "tuple"), none, (.seq #[(.str (Str.ofString "self") 258), (.str (Str.ofString "other") 259)] 0), #[]⟩
noncomputable abbrev o63 (_ : Params) : Obj := ⟨(.type "tuple"), none, (.seq #[] 0), #[]⟩
noncomputable abbrev o64 (_ : Params) : Obj := ⟨.none, none, (.func ⟨(Str.ofString "not_equal_witness"), (Str.ofString "Whitespace.not_equal_witness"), params2_5, .stmts body2_5, scope2_5, 0, [], .none, .none, .none, .none, none, .none, .none, 0⟩), #[]⟩
noncomputable abbrev o65 (_ : Params) : Obj := ⟨(.type "code"), none, (.fields #[(.str (Str.ofString "not_equal_witness") 255), (.str (Str.ofString "Whitespace.not_equal_witness") 256), (.str (Str.ofString "/claim/cut.py") 257), (.int 44 0), (.int 2 0), (.int 0 0), (.int 0 0), (.int 3 0), (.ref 60), (.bool true), (.int 181 0), (.ref 61), .none, (.ref 62), (.ref 63), (.ref 64), (.int 260 0), (.int 44 0), (.str (Str.ofString "/claim/cut.py") 261)]), #[]⟩
noncomputable abbrev o66 (_ : Params) : Obj := ⟨(.type "function"), none, (.func ⟨(Str.ofString "not_equal_witness"), (Str.ofString "Whitespace.not_equal_witness"), params2_5, .stmts body2_5, scope2_5, 3, [], .none, .none, .none, (.str (Str.ofString "cpy313.tabnanny") 194), none, (.ref 65), .none, 0⟩), #[]⟩
noncomputable abbrev o67 (_ : Params) : Obj := ⟨(.type "tuple"), none, (.seq #[] 0), #[]⟩
noncomputable abbrev o68 (_ : Params) : Obj := ⟨.none, none, (.fields #[]), #[]⟩
noncomputable abbrev o69 (_ : Params) : Obj := ⟨(.type "tuple"), none, (.seq #[(.str (Str.ofString "self") 266), (.str (Str.ofString "other") 267)] 0), #[]⟩
noncomputable abbrev o70 (_ : Params) : Obj := ⟨(.type "tuple"), none, (.seq #[] 0), #[]⟩
noncomputable abbrev o71 (_ : Params) : Obj := ⟨.none, none, (.func ⟨(Str.ofString "less"), (Str.ofString "Whitespace.less"), params2_6, .stmts body2_6, scope2_6, 0, [], .none, .none, .none, .none, none, .none, .none, 0⟩), #[]⟩
noncomputable abbrev o72 (_ : Params) : Obj := ⟨(.type "code"), none, (.fields #[(.str (Str.ofString "less") 263), (.str (Str.ofString "Whitespace.less") 264), (.str (Str.ofString "/claim/cut.py") 265), (.int 47 0), (.int 2 0), (.int 0 0), (.int 0 0), (.int 3 0), (.ref 67), (.bool true), (.int 181 0), (.ref 68), .none, (.ref 69), (.ref 70), (.ref 71), (.int 268 0), (.int 47 0), (.str (Str.ofString "/claim/cut.py") 269)]), #[]⟩
noncomputable abbrev o73 (_ : Params) : Obj := ⟨(.type "function"), none, (.func ⟨(Str.ofString "less"), (Str.ofString "Whitespace.less"), params2_6, .stmts body2_6, scope2_6, 3, [], .none, .none, .none, (.str (Str.ofString "cpy313.tabnanny") 194), none, (.ref 72), .none, 0⟩), #[]⟩
noncomputable abbrev o74 (_ : Params) : Obj := ⟨(.type "tuple"), none, (.seq #[] 0), #[]⟩
noncomputable abbrev o75 (_ : Params) : Obj := ⟨.none, none, (.fields #[]), #[]⟩
noncomputable abbrev o76 (_ : Params) : Obj := ⟨(.type "tuple"), none, (.seq #[(.str (Str.ofString "self") 274), (.str (Str.ofString "other") 275)] 0), #[]⟩
noncomputable abbrev o77 (_ : Params) : Obj := ⟨(.type "tuple"), none, (.seq #[] 0), #[]⟩
noncomputable abbrev o78 (_ : Params) : Obj := ⟨.none, none, (.func ⟨(Str.ofString "not_less_witness"), (Str.ofString "Whitespace.not_less_witness"), params2_7, .stmts body2_7, scope2_7, 0, [], .none, .none, .none, .none, none, .none, .none, 0⟩), #[]⟩
noncomputable abbrev o79 (_ : Params) : Obj := ⟨(.type "code"), none, (.fields #[(.str (Str.ofString "not_less_witness") 271), (.str (Str.ofString "Whitespace.not_less_witness") 272), (.str (Str.ofString "/claim/cut.py") 273), (.int 50 0), (.int 2 0), (.int 0 0), (.int 0 0), (.int 3 0), (.ref 74), (.bool true), (.int 181 0), (.ref 75), .none, (.ref 76), (.ref 77), (.ref 78), (.int 276 0), (.int 50 0), (.str (Str.ofString "/claim/cut.py") 277)]), #[]⟩
noncomputable abbrev o80 (_ : Params) : Obj := ⟨(.type "function"), none, (.func ⟨(Str.ofString "not_less_witness"), (Str.ofString "Whitespace.not_less_witness"), params2_7, .stmts body2_7, scope2_7, 3, [], .none, .none, .none, (.str (Str.ofString "cpy313.tabnanny") 194), none, (.ref 79), .none, 0⟩), #[]⟩
noncomputable abbrev o81 (_ : Params) : Obj := ⟨(.type "tuple"), none, (.seq #[(.str (Str.ofString "is_simple") 279), (.str (Str.ofString "n") 280), (.str (Str.ofString "norm") 281), (.str (Str.ofString "nt") 282), (.str (Str.ofString "raw") 283)] 0), #[]⟩
noncomputable abbrev o82 (P : Params) : Obj := ⟨(.type "dict"), none, (.dict #[⟨PyData.keyHash P (Str.ofString "__module__"), (.str (Str.ofString "__module__") 203), (.str (Str.ofString "cpy313.tabnanny") 194)⟩, ⟨PyData.keyHash P (Str.ofString "__firstlineno__"), (.str (Str.ofString "__firstlineno__") 207), (.int 5 206)⟩, ⟨PyData.keyHash P (Str.ofString "S"), (.str (Str.ofString "S") 211), (.str (Str.ofString " ") 209)⟩, ⟨PyData.keyHash P (Str.ofString "T"), (.str (Str.ofString "T") 212), (.str (Str.ofString "\t") 210)⟩, ⟨PyData.keyHash P (Str.ofString "__init__"), (.str (Str.ofString "__init__") 227), (.ref 38)⟩, ⟨PyData.keyHash P (Str.ofString "longest_run_of_spaces"), (.str (Str.ofString "longest_run_of_spaces") 234), (.ref 45)⟩, ⟨PyData.keyHash P (Str.ofString "indent_level"), (.str (Str.ofString "indent_level") 246), (.ref 52)⟩, ⟨PyData.keyHash P (Str.ofString "equal"), (.str (Str.ofString "equal") 254), (.ref 59)⟩, ⟨PyData.keyHash P (Str.ofString "not_equal_witness"), (.str (Str.ofString "not_equal_witness") 262), (.ref 66)⟩, ⟨PyData.keyHash P (Str.ofString "less"), (.str (Str.ofString "less") 270), (.ref 73)⟩, ⟨PyData.keyHash P (Str.ofString "not_less_witness"), (.str (Str.ofString "not_less_witness") 278), (.ref 80)⟩, ⟨PyData.keyHash P (Str.ofString "__static_attributes__"), (.str (Str.ofString "__static_attributes__") 284), (.ref 81)⟩, ⟨PyData.keyHash P (Str.ofString "__dict__"), (.str (Str.ofString "__dict__") 286), (.ref 84)⟩, ⟨PyData.keyHash P (Str.ofString "__weakref__"), (.str (Str.ofString "__weakref__") 288), (.ref 85)⟩, ⟨PyData.keyHash P (Str.ofString "__doc__"), (.str (Str.ofString "__doc__") 289), .none⟩] 4), #[]⟩
noncomputable abbrev o83 (_ : Params) : Obj := ⟨(.type "type"), none, (.cls ⟨(Str.ofString "Whitespace"), [(.type "object")], [(.ref 83), (.type "object")], 82, (Str.ofString "Whitespace"), true, [], [], false, none, false⟩), #[none, none, (some (.str (Str.ofString "Whitespace") 196)), (some (.str (Str.ofString "Whitespace") 204)), (some (.builtin "object.__new__")), (some (.bool true))]⟩
noncomputable abbrev o84 (_ : Params) : Obj := ⟨(.type "getset_descriptor"), none, (.fields #[(.str (Str.ofString "__dict__") 285), (.ref 83), (.builtin "function.__dict__"), (.builtin "function.__dict__#set")]), #[]⟩
noncomputable abbrev o85 (_ : Params) : Obj := ⟨(.type "getset_descriptor"), none, (.fields #[(.str (Str.ofString "__weakref__") 287), (.ref 83), (.builtin "ExceptionGroup.__weakref__"), .none]), #[]⟩
noncomputable abbrev o86 (_ : Params) : Obj := ⟨(.type "super"), none, (.fields #[(.ref 83), (.ref 83), (.ref 83)]), #[]⟩
noncomputable abbrev o87 (_ : Params) : Obj := ⟨(.type "builtin_function_or_method"), none, (.fields #[(.builtin "object.__init_subclass__"), (.ref 83)]), #[]⟩
noncomputable abbrev o88 (_ : Params) : Obj := ⟨(.type "tuple"), none, (.seq #[] 0), #[]⟩
noncomputable abbrev o89 (_ : Params) : Obj := ⟨.none, none, (.fields #[]), #[]⟩
noncomputable abbrev o90 (_ : Params) : Obj := ⟨(.type "tuple"), none, (.seq #[(.str (Str.ofString "a") 297), (.str (Str.ofString "b") 298)] 0), #[]⟩
noncomputable abbrev o91 (_ : Params) : Obj := ⟨(.type "tuple"), none, (.seq #[] 0), #[]⟩
noncomputable abbrev o92 (_ : Params) : Obj := ⟨.none, none, (.func ⟨(Str.ofString "ifloordiv"), (Str.ofString "ifloordiv"), params4, .stmts body4, scope4, 0, [], .none, .none, .none, .none, none, .none, .none, 0⟩), #[]⟩
noncomputable abbrev o93 (_ : Params) : Obj := ⟨(.type "code"), none, (.fields #[(.str (Str.ofString "ifloordiv") 294), (.str (Str.ofString "ifloordiv") 295), (.str (Str.ofString "/claim/cut.py") 296), (.int 53 0), (.int 2 0), (.int 0 0), (.int 0 0), (.int 3 0), (.ref 88), (.bool true), (.int 181 0), (.ref 89), .none, (.ref 90), (.ref 91), (.ref 92), (.int 299 0), (.int 53 0), (.str (Str.ofString "/claim/cut.py") 300)]), #[]⟩
noncomputable abbrev o94 (_ : Params) : Obj := ⟨(.type "function"), none, (.func ⟨(Str.ofString "ifloordiv"), (Str.ofString "ifloordiv"), params4, .stmts body4, scope4, 3, [], .none, .none, .none, (.str (Str.ofString "cpy313.operator") 292), none, (.ref 93), .none, 0⟩), #[]⟩
noncomputable abbrev o95 (_ : Params) : Obj := ⟨(.type "tuple"), none, (.seq #[] 0), #[]⟩
noncomputable abbrev o96 (_ : Params) : Obj := ⟨.none, none, (.fields #[]), #[]⟩
noncomputable abbrev o97 (_ : Params) : Obj := ⟨(.type "tuple"), none, (.seq #[(.str (Str.ofString "a") 305), (.str (Str.ofString "b") 306)] 0), #[]⟩
noncomputable abbrev o98 (_ : Params) : Obj := ⟨(.type "tuple"), none, (.seq #[] 0), #[]⟩
noncomputable abbrev o99 (_ : Params) : Obj := ⟨.none, none, (.func ⟨(Str.ofString "imul"), (Str.ofString "imul"), params5, .stmts body5, scope5, 0, [], .none, .none, .none, .none, none, .none, .none, 0⟩), #[]⟩
noncomputable abbrev o100 (_ : Params) : Obj := ⟨(.type "code"), none, (.fields #[(.str (Str.ofString "imul") 302), (.str (Str.ofString "imul") 303), (.str (Str.ofString "/claim/cut.py") 304), (.int 56 0), (.int 2 0), (.int 0 0), (.int 0 0), (.int 3 0), (.ref 95), (.bool true), (.int 181 0), (.ref 96), .none, (.ref 97), (.ref 98), (.ref 99), (.int 307 0), (.int 56 0), (.str (Str.ofString "/claim/cut.py") 308)]), #[]⟩
noncomputable abbrev o101 (_ : Params) : Obj := ⟨(.type "function"), none, (.func ⟨(Str.ofString "imul"), (Str.ofString "imul"), params5, .stmts body5, scope5, 3, [], .none, .none, .none, (.str (Str.ofString "cpy313.operator") 292), none, (.ref 100), .none, 0⟩), #[]⟩
noncomputable abbrev o102 (_ : Params) : Obj := ⟨(.type "tuple"), none, (.seq #[] 0), #[]⟩
noncomputable abbrev o103 (_ : Params) : Obj := ⟨.none, none, (.fields #[]), #[]⟩
noncomputable abbrev o104 (_ : Params) : Obj := ⟨(.type "tuple"), none, (.seq #[(.str (Str.ofString "a") 313), (.str (Str.ofString "b") 314)] 0), #[]⟩
noncomputable abbrev o105 (_ : Params) : Obj := ⟨(.type "tuple"), none, (.seq #[] 0), #[]⟩
noncomputable abbrev o106 (_ : Params) : Obj := ⟨.none, none, (.func ⟨(Str.ofString "isub"), (Str.ofString "isub"), params6, .stmts body6, scope6, 0, [], .none, .none, .none, .none, none, .none, .none, 0⟩), #[]⟩
noncomputable abbrev o107 (_ : Params) : Obj := ⟨(.type "code"), none, (.fields #[(.str (Str.ofString "isub") 310), (.str (Str.ofString "isub") 311), (.str (Str.ofString "/claim/cut.py") 312), (.int 59 0), (.int 2 0), (.int 0 0), (.int 0 0), (.int 3 0), (.ref 102), (.bool true), (.int 181 0), (.ref 103), .none, (.ref 104), (.ref 105), (.ref 106), (.int 315 0), (.int 59 0), (.str (Str.ofString "/claim/cut.py") 316)]), #[]⟩
noncomputable abbrev o108 (_ : Params) : Obj := ⟨(.type "function"), none, (.func ⟨(Str.ofString "isub"), (Str.ofString "isub"), params6, .stmts body6, scope6, 3, [], .none, .none, .none, (.str (Str.ofString "cpy313.operator") 292), none, (.ref 107), .none, 0⟩), #[]⟩
noncomputable abbrev o109 (_ : Params) : Obj := ⟨(.type "list"), none, (.seq #[(.int 173 320), (.int 847 321), (.int 6150 322), (.int 6155 323), (.int 6156 324), (.int 6157 325), (.int 8203 326), (.int 8204 327), (.int 8205 328), (.int 8288 329), (.int 65279 330)] 0), #[]⟩
noncomputable abbrev o110 (_ : Params) : Obj := ⟨(.type "range"), none, (.fields #[(.int 65024 331), (.int 65040 332), (.int 1 333)]), #[]⟩
noncomputable abbrev o111 (_ : Params) : Obj := ⟨(.type "list"), none, (.seq #[(.int 65024 336), (.int 65025 337), (.int 65026 338), (.int 65027 339), (.int 65028 340), (.int 65029 341), (.int 65030 342), (.int 65031 343), (.int 65032 344), (.int 65033 345), (.int 65034 346), (.int 65035 347), (.int 65036 348), (.int 65037 349), (.int 65038 350), (.int 65039 351)] 18), #[]⟩
noncomputable abbrev o112 (_ : Params) : Obj := ⟨(.type "range_iterator"), none, (.fields #[(.int 65040 0), (.int 0 0), (.int 1 0)]), #[]⟩
noncomputable abbrev o113 (_ : Params) : Obj := ⟨(.type "tuple"), none, (.seq #[] 0), #[]⟩
noncomputable abbrev o114 (_ : Params) : Obj := ⟨(.type "StopIteration"), none, (.fields #[(.ref 113), .none, .none, .none, (.bool false), .none]), #[]⟩
noncomputable abbrev o115 (_ : Params) : Obj := ⟨(.type "list"), none, (.seq #[(.int 173 320), (.int 847 321), (.int 6150 322), (.int 6155 323), (.int 6156 324), (.int 6157 325), (.int 8203 326), (.int 8204 327), (.int 8205 328), (.int 8288 329), (.int 65279 330), (.int 65024 336), (.int 65025 337), (.int 65026 338), (.int 65027 339), (.int 65028 340), (.int 65029 341), (.int 65030 342), (.int 65031 343), (.int 65032 344), (.int 65033 345), (.int 65034 346), (.int 65035 347), (.int 65036 348), (.int 65037 349), (.int 65038 350), (.int 65039 351)] 0), #[]⟩
noncomputable abbrev o116 (P : Params) : Obj := ⟨(.type "set"), none, (.set #[(65024, (.int 65024 336)), (65025, (.int 65025 337)), (65026, (.int 65026 338)), (65027, (.int 65027 339)), (65028, (.int 65028 340)), (65029, (.int 65029 341)), (6150, (.int 6150 322)), (65030, (.int 65030 342)), (65031, (.int 65031 343)), (65032, (.int 65032 344)), (65033, (.int 65033 345)), (6155, (.int 6155 323)), (6156, (.int 6156 324)), (6157, (.int 6157 325)), (8203, (.int 8203 326)), (8204, (.int 8204 327)), (8205, (.int 8205 328)), (65034, (.int 65034 346)), (65035, (.int 65035 347)), (65036, (.int 65036 348)), (65037, (.int 65037 349)), (65038, (.int 65038 350)), (65039, (.int 65039 351)), (173, (.int 173 320)), (847, (.int 847 321)), (8288, (.int 8288 329)), (65279, (.int 65279 330))] 29 ⟨127, #[0, 1, 2, 3, 4, 5, 6, 7, 8, 9, 10, 11, 12, 13, 14, 15, 16, 17, 18, 19, 20, 21, 22, 45, 79, 96, 127], #[], 0, !P.followText "set-order", 2, true⟩), #[]⟩
noncomputable abbrev o117 (_ : Params) : Obj := ⟨(.type "list_iterator"), none, (.fields #[.none, (.int 27 0)]), #[]⟩
noncomputable abbrev o118 (_ : Params) : Obj := ⟨(.type "tuple"), none, (.seq #[] 0), #[]⟩
noncomputable abbrev o119 (_ : Params) : Obj := ⟨(.type "StopIteration"), none, (.fields #[(.ref 118), .none, .none, .none, (.bool false), .none]), #[]⟩
noncomputable abbrev o120 (_ : Params) : Obj := ⟨(.type "tuple"), none, (.seq #[] 0), #[]⟩
noncomputable abbrev o121 (_ : Params) : Obj := ⟨.none, none, (.fields #[]), #[]⟩
noncomputable abbrev o122 (_ : Params) : Obj := ⟨(.type "tuple"), none, (.seq #[(.str (Str.ofString "code") 383)] 0), #[]⟩
noncomputable abbrev o123 (_ : Params) : Obj := ⟨(.type "tuple"), none, (.seq #[] 0), #[]⟩
noncomputable abbrev o124 (_ : Params) : Obj := ⟨.none, none, (.func ⟨(Str.ofString "in_table_b1"), (Str.ofString "in_table_b1"), params9, .stmts body9, scope9, 0, [], .none, .none, .none, .none, none, .none, .none, 0⟩), #[]⟩
noncomputable abbrev o125 (_ : Params) : Obj := ⟨(.type "code"), none, (.fields #[(.str (Str.ofString "in_table_b1") 380), (.str (Str.ofString "in_table_b1") 381), (.str (Str.ofString "/claim/cut.py") 382), (.int 64 0), (.int 1 0), (.int 0 0), (.int 0 0), (.int 3 0), (.ref 120), (.bool true), (.int 181 0), (.ref 121), .none, (.ref 122), (.ref 123), (.ref 124), (.int 384 0), (.int 64 0), (.str (Str.ofString "/claim/cut.py") 385)]), #[]⟩
noncomputable abbrev o126 (_ : Params) : Obj := ⟨(.type "function"), none, (.func ⟨(Str.ofString "in_table_b1"), (Str.ofString "in_table_b1"), params9, .stmts body9, scope9, 3, [], .none, .none, .none, (.str (Str.ofString "cpy313.stringprep") 318), none, (.ref 125), .none, 0⟩), #[]⟩
noncomputable abbrev o127 (_ : Params) : Obj := ⟨(.type "dict"), none, (.dict b3Entries.toArray 650), #[]⟩
noncomputable abbrev o166 (_ : Params) : Obj := ⟨(.type "tuple"), none, (.seq #[] 0), #[]⟩
noncomputable abbrev o167 (_ : Params) : Obj := ⟨.none, none, (.fields #[]), #[]⟩
noncomputable abbrev o168 (_ : Params) : Obj := ⟨(.type "tuple"), none, (.seq #[(.str (Str.ofString "code") 2341), (.str (Str.ofString "r") 2342)] 0), #[]⟩
noncomputable abbrev o169 (_ : Params) : Obj := ⟨(.type "tuple"), none, (.seq #[] 0), #[]⟩
noncomputable abbrev o170 (_ : Params) : Obj := ⟨.none, none, (.func ⟨(Str.ofString "map_table_b3"), (Str.ofString "map_table_b3"), params11, .stmts body11, scope11, 0, [], .none, .none, .none, .none, none, .none, .none, 0⟩), #[]⟩
noncomputable abbrev o171 (_ : Params) : Obj := ⟨(.type "code"), none, (.fields #[(.str (Str.ofString "map_table_b3") 2338), (.str (Str.ofString "map_table_b3") 2339), (.str (Str.ofString "/claim/cut.py") 2340), (.int 67 0), (.int 1 0), (.int 0 0), (.int 0 0), (.int 3 0), (.ref 166), (.bool true), (.int 181 0), (.ref 167), .none, (.ref 168), (.ref 169), (.ref 170), (.int 2343 0), (.int 67 0), (.str (Str.ofString "/claim/cut.py") 2344)]), #[]⟩
noncomputable abbrev o172 (_ : Params) : Obj := ⟨(.type "function"), none, (.func ⟨(Str.ofString "map_table_b3"), (Str.ofString "map_table_b3"), params11, .stmts body11, scope11, 3, [], .none, .none, .none, (.str (Str.ofString "cpy313.stringprep") 318), none, (.ref 171), .none, 0⟩), #[]⟩
noncomputable abbrev o173 (_ : Params) : Obj := ⟨(.type "tuple"), none, (.seq #[] 0), #[]⟩
noncomputable abbrev o174 (_ : Params) : Obj := ⟨.none, none, (.fields #[]), #[]⟩
noncomputable abbrev o175 (_ : Params) : Obj := ⟨(.type "tuple"), none, (.seq #[(.str (Str.ofString "text") 2351)] 0), #[]⟩
noncomputable abbrev o176 (_ : Params) : Obj := ⟨(.type "tuple"), none, (.seq #[] 0), #[]⟩
noncomputable abbrev o177 (_ : Params) : Obj := ⟨.none, none, (.func ⟨(Str.ofString "_raise_serialization_error"), (Str.ofString "_raise_serialization_error"), params13, .stmts body13, scope13, 0, [], .none, .none, .none, .none, none, .none, .none, 0⟩), #[]⟩
noncomputable abbrev o178 (_ : Params) : Obj := ⟨(.type "code"), none, (.fields #[(.str (Str.ofString "_raise_serialization_error") 2348), (.str (Str.ofString "_raise_serialization_error") 2349), (.str (Str.ofString "/claim/cut.py") 2350), (.int 73 0), (.int 1 0), (.int 0 0), (.int 0 0), (.int 3 0), (.ref 173), (.bool true), (.int 181 0), (.ref 174), .none, (.ref 175), (.ref 176), (.ref 177), (.int 2352 0), (.int 73 0), (.str (Str.ofString "/claim/cut.py") 2353)]), #[]⟩
noncomputable abbrev o179 (_ : Params) : Obj := ⟨(.type "function"), none, (.func ⟨(Str.ofString "_raise_serialization_error"), (Str.ofString "_raise_serialization_error"), params13, .stmts body13, scope13, 3, [], .none, .none, .none, (.str (Str.ofString "cpy313.xml.etree.ElementTree") 2346), none, (.ref 178), .none, 0⟩), #[]⟩
noncomputable abbrev o180 (_ : Params) : Obj := ⟨(.type "tuple"), none, (.seq #[] 0), #[]⟩
noncomputable abbrev o181 (_ : Params) : Obj := ⟨.none, none, (.fields #[]), #[]⟩
noncomputable abbrev o182 (_ : Params) : Obj := ⟨(.type "tuple"), none, (.seq #[(.str (Str.ofString "text") 2358)] 0), #[]⟩
noncomputable abbrev o183 (_ : Params) : Obj := ⟨(.type "tuple"), none, (.seq #[] 0), #[]⟩
noncomputable abbrev o184 (_ : Params) : Obj := ⟨.none, none, (.func ⟨(Str.ofString "_escape_cdata"), (Str.ofString "_escape_cdata"), params14, .stmts body14, scope14, 0, [], .none, .none, .none, .none, none, .none, .none, 0⟩), #[]⟩
noncomputable abbrev o185 (_ : Params) : Obj := ⟨(.type "code"), none, (.fields #[(.str (Str.ofString "_escape_cdata") 2355), (.str (Str.ofString "_escape_cdata") 2356), (.str (Str.ofString "/claim/cut.py") 2357), (.int 75 0), (.int 1 0), (.int 0 0), (.int 0 0), (.int 3 0), (.ref 180), (.bool true), (.int 181 0), (.ref 181), .none, (.ref 182), (.ref 183), (.ref 184), (.int 2359 0), (.int 75 0), (.str (Str.ofString "/claim/cut.py") 2360)]), #[]⟩
noncomputable abbrev o186 (_ : Params) : Obj := ⟨(.type "function"), none, (.func ⟨(Str.ofString "_escape_cdata"), (Str.ofString "_escape_cdata"), params14, .stmts body14, scope14, 3, [], .none, .none, .none, (.str (Str.ofString "cpy313.xml.etree.ElementTree") 2346), none, (.ref 185), .none, 0⟩), #[]⟩
noncomputable abbrev o187 (_ : Params) : Obj := ⟨(.type "tuple"), none, (.seq #[] 0), #[]⟩
noncomputable abbrev o188 (_ : Params) : Obj := ⟨.none, none, (.fields #[]), #[]⟩
noncomputable abbrev o189 (_ : Params) : Obj := ⟨(.type "tuple"), none, (.seq #[(.str (Str.ofString "text") 2365)] 0), #[]⟩
noncomputable abbrev o190 (_ : Params) : Obj := ⟨(.type "tuple"), none, (.seq #[] 0), #[]⟩
noncomputable abbrev o191 (_ : Params) : Obj := ⟨.none, none, (.func ⟨(Str.ofString "_escape_attrib"), (Str.ofString "_escape_attrib"), params15, .stmts body15, scope15, 0, [], .none, .none, .none, .none, none, .none, .none, 0⟩), #[]⟩
noncomputable abbrev o192 (_ : Params) : Obj := ⟨(.type "code"), none, (.fields #[(.str (Str.ofString "_escape_attrib") 2362), (.str (Str.ofString "_escape_attrib") 2363), (.str (Str.ofString "/claim/cut.py") 2364), (.int 86 0), (.int 1 0), (.int 0 0), (.int 0 0), (.int 3 0), (.ref 187), (.bool true), (.int 181 0), (.ref 188), .none, (.ref 189), (.ref 190), (.ref 191), (.int 2366 0), (.int 86 0), (.str (Str.ofString "/claim/cut.py") 2367)]), #[]⟩
noncomputable abbrev o193 (_ : Params) : Obj := ⟨(.type "function"), none, (.func ⟨(Str.ofString "_escape_attrib"), (Str.ofString "_escape_attrib"), params15, .stmts body15, scope15, 3, [], .none, .none, .none, (.str (Str.ofString "cpy313.xml.etree.ElementTree") 2346), none, (.ref 192), .none, 0⟩), #[]⟩
noncomputable abbrev o194 (_ : Params) : Obj := ⟨(.type "tuple"), none, (.seq #[] 0), #[]⟩
noncomputable abbrev o195 (_ : Params) : Obj := ⟨.none, none, (.fields #[]), #[]⟩
noncomputable abbrev o196 (_ : Params) : Obj := ⟨(.type "tuple"), none, (.seq #[(.str (Str.ofString "text") 2372)] 0), #[]⟩
noncomputable abbrev o197 (_ : Params) : Obj := ⟨(.type "tuple"), none, (.seq #[] 0), #[]⟩
noncomputable abbrev o198 (_ : Params) : Obj := ⟨.none, none, (.func ⟨(Str.ofString "_escape_attrib_html"), (Str.ofString "_escape_attrib_html"), params16, .stmts body16, scope16, 0, [], .none, .none, .none, .none, none, .none, .none, 0⟩), #[]⟩
noncomputable abbrev o199 (_ : Params) : Obj := ⟨(.type "code"), none, (.fields #[(.str (Str.ofString "_escape_attrib_html") 2369), (.str (Str.ofString "_escape_attrib_html") 2370), (.str (Str.ofString "/claim/cut.py") 2371), (.int 105 0), (.int 1 0), (.int 0 0), (.int 0 0), (.int 3 0), (.ref 194), (.bool true), (.int 181 0), (.ref 195), .none, (.ref 196), (.ref 197), (.ref 198), (.int 2373 0), (.int 105 0), (.str (Str.ofString "/claim/cut.py") 2374)]), #[]⟩
noncomputable abbrev o200 (_ : Params) : Obj := ⟨(.type "function"), none, (.func ⟨(Str.ofString "_escape_attrib_html"), (Str.ofString "_escape_attrib_html"), params16, .stmts body16, scope16, 3, [], .none, .none, .none, (.str (Str.ofString "cpy313.xml.etree.ElementTree") 2346), none, (.ref 199), .none, 0⟩), #[]⟩
noncomputable abbrev o201 (_ : Params) : Obj := ⟨(.type "tuple"), none, (.seq #[] 0), #[]⟩
noncomputable abbrev o202 (_ : Params) : Obj := ⟨.none, none, (.fields #[]), #[]⟩
noncomputable abbrev o203 (_ : Params) : Obj := ⟨(.type "tuple"), none, (.seq #[(.str (Str.ofString "text") 2379)] 0), #[]⟩
noncomputable abbrev o204 (_ : Params) : Obj := ⟨(.type "tuple"), none, (.seq #[] 0), #[]⟩
noncomputable abbrev o205 (_ : Params) : Obj := ⟨.none, none, (.func ⟨(Str.ofString "_escape_cdata_c14n"), (Str.ofString "_escape_cdata_c14n"), params17, .stmts body17, scope17, 0, [], .none, .none, .none, .none, none, .none, .none, 0⟩), #[]⟩
noncomputable abbrev o206 (_ : Params) : Obj := ⟨(.type "code"), none, (.fields #[(.str (Str.ofString "_escape_cdata_c14n") 2376), (.str (Str.ofString "_escape_cdata_c14n") 2377), (.str (Str.ofString "/claim/cut.py") 2378), (.int 116 0), (.int 1 0), (.int 0 0), (.int 0 0), (.int 3 0), (.ref 201), (.bool true), (.int 181 0), (.ref 202), .none, (.ref 203), (.ref 204), (.ref 205), (.int 2380 0), (.int 116 0), (.str (Str.ofString "/claim/cut.py") 2381)]), #[]⟩
noncomputable abbrev o207 (_ : Params) : Obj := ⟨(.type "function"), none, (.func ⟨(Str.ofString "_escape_cdata_c14n"), (Str.ofString "_escape_cdata_c14n"), params17, .stmts body17, scope17, 3, [], .none, .none, .none, (.str (Str.ofString "cpy313.xml.etree.ElementTree") 2346), none, (.ref 206), .none, 0⟩), #[]⟩
noncomputable abbrev o208 (_ : Params) : Obj := ⟨(.type "tuple"), none, (.seq #[] 0), #[]⟩
noncomputable abbrev o209 (_ : Params) : Obj := ⟨.none, none, (.fields #[]), #[]⟩
noncomputable abbrev o210 (_ : Params) : Obj := ⟨(.type "tuple"), none, (.seq #[(.str (Str.ofString "text") 2386)] 0), #[]⟩
noncomputable abbrev o211 (_ : Params) : Obj := ⟨(.type "tuple"), none, (.seq #[] 0), #[]⟩
noncomputable abbrev o212 (_ : Params) : Obj := ⟨.none, none, (.func ⟨(Str.ofString "_escape_attrib_c14n"), (Str.ofString "_escape_attrib_c14n"), params18, .stmts body18, scope18, 0, [], .none, .none, .none, .none, none, .none, .none, 0⟩), #[]⟩
noncomputable abbrev o213 (_ : Params) : Obj := ⟨(.type "code"), none, (.fields #[(.str (Str.ofString "_escape_attrib_c14n") 2383), (.str (Str.ofString "_escape_attrib_c14n") 2384), (.str (Str.ofString "/claim/cut.py") 2385), (.int 129 0), (.int 1 0), (.int 0 0), (.int 0 0), (.int 3 0), (.ref 208), (.bool true), (.int 181 0), (.ref 209), .none, (.ref 210), (.ref 211), (.ref 212), (.int 2387 0), (.int 129 0), (.str (Str.ofString "/claim/cut.py") 2388)]), #[]⟩
noncomputable abbrev o214 (_ : Params) : Obj := ⟨(.type "function"), none, (.func ⟨(Str.ofString "_escape_attrib_c14n"), (Str.ofString "_escape_attrib_c14n"), params18, .stmts body18, scope18, 3, [], .none, .none, .none, (.str (Str.ofString "cpy313.xml.etree.ElementTree") 2346), none, (.ref 213), .none, 0⟩), #[]⟩
noncomputable abbrev o215 (_ : Params) : Obj := ⟨(.type "tuple"), none, (.seq #[] 0), #[]⟩
noncomputable abbrev o216 (_ : Params) : Obj := ⟨.none, none, (.fields #[]), #[]⟩
noncomputable abbrev o217 (_ : Params) : Obj := ⟨.none, none, (.func ⟨(Str.ofString "_law_heaps"), (Str.ofString "_law_heaps"), params20, .stmts body20, scope20, 0, [], .none, .none, .none, .none, none, .none, .none, 0⟩), #[]⟩
noncomputable abbrev o218 (_ : Params) : Obj := ⟨(.type "code"), none, (.fields #[(.str (Str.ofString "_law_heaps") 2392), (.str (Str.ofString "_law_heaps") 2393), (.str (Str.ofString "/claim/cut.py") 2394), (.int 147 0), (.int 1 0), (.int 0 0), (.int 0 0), (.int 3 0), (.ref 215), (.bool true), (.int 181 0), (.ref 216), .none, .none, .none, (.ref 217), (.int 2395 0), (.int 147 0), (.str (Str.ofString "/claim/cut.py") 2396)]), #[]⟩
noncomputable abbrev o219 (_ : Params) : Obj := ⟨(.type "function"), none, (.func ⟨(Str.ofString "_law_heaps"), (Str.ofString "_law_heaps"), params20, .stmts body20, scope20, 3, [], .none, .none, .none, (.str (Str.ofString "law_tc0086_01") 2390), none, (.ref 218), .none, 0⟩), #[]⟩
noncomputable abbrev o220 (_ : Params) : Obj := ⟨(.type "tuple"), none, (.seq #[] 0), #[]⟩
noncomputable abbrev o221 (_ : Params) : Obj := ⟨.none, none, (.fields #[]), #[]⟩
noncomputable abbrev o222 (_ : Params) : Obj := ⟨(.type "tuple"), none, (.seq #[(.str (Str.ofString "heap") 2401), (.str (Str.ofString "left") 2402), (.str (Str.ofString "order") 2403), (.str (Str.ofString "many") 2404)] 0), #[]⟩
noncomputable abbrev o223 (_ : Params) : Obj := ⟨(.type "tuple"), none, (.seq #[] 0), #[]⟩
noncomputable abbrev o224 (_ : Params) : Obj := ⟨.none, none, (.func ⟨(Str.ofString "_law_order"), (Str.ofString "_law_order"), params21, .stmts body21, scope21, 0, [], .none, .none, .none, .none, none, .none, .none, 0⟩), #[]⟩
noncomputable abbrev o225 (_ : Params) : Obj := ⟨(.type "code"), none, (.fields #[(.str (Str.ofString "_law_order") 2398), (.str (Str.ofString "_law_order") 2399), (.str (Str.ofString "/claim/cut.py") 2400), (.int 150 0), (.int 1 0), (.int 0 0), (.int 0 0), (.int 3 0), (.ref 220), (.bool true), (.int 181 0), (.ref 221), .none, (.ref 222), (.ref 223), (.ref 224), (.int 2405 0), (.int 150 0), (.str (Str.ofString "/claim/cut.py") 2406)]), #[]⟩
noncomputable abbrev o226 (_ : Params) : Obj := ⟨(.type "function"), none, (.func ⟨(Str.ofString "_law_order"), (Str.ofString "_law_order"), params21, .stmts body21, scope21, 3, [], .none, .none, .none, (.str (Str.ofString "law_tc0086_01") 2390), none, (.ref 225), .none, 0⟩), #[]⟩
noncomputable abbrev o227 (_ : Params) : Obj := ⟨(.type "tuple"), none, (.seq #[] 0), #[]⟩
noncomputable abbrev o228 (_ : Params) : Obj := ⟨.none, none, (.fields #[]), #[]⟩
noncomputable abbrev o229 (_ : Params) : Obj := ⟨.none, none, (.func ⟨(Str.ofString "_law_parts"), (Str.ofString "_law_parts"), params22, .stmts body22, scope22, 0, [], .none, .none, .none, .none, none, .none, .none, 0⟩), #[]⟩
noncomputable abbrev o230 (_ : Params) : Obj := ⟨(.type "code"), none, (.fields #[(.str (Str.ofString "_law_parts") 2408), (.str (Str.ofString "_law_parts") 2409), (.str (Str.ofString "/claim/cut.py") 2410), (.int 157 0), (.int 3 0), (.int 0 0), (.int 0 0), (.int 3 0), (.ref 227), (.bool true), (.int 181 0), (.ref 228), .none, .none, .none, (.ref 229), (.int 2411 0), (.int 157 0), (.str (Str.ofString "/claim/cut.py") 2412)]), #[]⟩
noncomputable abbrev o231 (_ : Params) : Obj := ⟨(.type "function"), none, (.func ⟨(Str.ofString "_law_parts"), (Str.ofString "_law_parts"), params22, .stmts body22, scope22, 3, [], .none, .none, .none, (.str (Str.ofString "law_tc0086_01") 2390), none, (.ref 230), .none, 0⟩), #[]⟩
noncomputable abbrev o232 (_ : Params) : Obj := ⟨(.type "tuple"), none, (.seq #[] 0), #[]⟩
noncomputable abbrev o233 (_ : Params) : Obj := ⟨.none, none, (.fields #[]), #[]⟩
noncomputable abbrev o234 (_ : Params) : Obj := ⟨.none, none, (.func ⟨(Str.ofString "_law_text"), (Str.ofString "_law_text"), params23, .stmts body23, scope23, 0, [], .none, .none, .none, .none, none, .none, .none, 0⟩), #[]⟩
noncomputable abbrev o235 (_ : Params) : Obj := ⟨(.type "code"), none, (.fields #[(.str (Str.ofString "_law_text") 2414), (.str (Str.ofString "_law_text") 2415), (.str (Str.ofString "/claim/cut.py") 2416), (.int 163 0), (.int 2 0), (.int 0 0), (.int 0 0), (.int 3 0), (.ref 232), (.bool true), (.int 181 0), (.ref 233), .none, .none, .none, (.ref 234), (.int 2417 0), (.int 163 0), (.str (Str.ofString "/claim/cut.py") 2418)]), #[]⟩
noncomputable abbrev o236 (_ : Params) : Obj := ⟨(.type "function"), none, (.func ⟨(Str.ofString "_law_text"), (Str.ofString "_law_text"), params23, .stmts body23, scope23, 3, [], .none, .none, .none, (.str (Str.ofString "law_tc0086_01") 2390), none, (.ref 235), .none, 0⟩), #[]⟩
noncomputable abbrev o237 (_ : Params) : Obj := ⟨(.type "tuple"), none, (.seq #[] 0), #[]⟩
noncomputable abbrev o238 (_ : Params) : Obj := ⟨.none, none, (.fields #[]), #[]⟩
noncomputable abbrev o239 (_ : Params) : Obj := ⟨(.type "tuple"), none, (.seq #[(.str (Str.ofString "text") 2423), (.str (Str.ofString "heap") 2424), (.str (Str.ofString "pair") 2425), (.str (Str.ofString "sign") 2426), (.str (Str.ofString "letter") 2427), (.str (Str.ofString "form") 2428), (.str (Str.ofString "alphabet") 2429)] 0), #[]⟩
noncomputable abbrev o240 (_ : Params) : Obj := ⟨(.type "tuple"), none, (.seq #[] 0), #[]⟩
noncomputable abbrev o241 (_ : Params) : Obj := ⟨.none, none, (.func ⟨(Str.ofString "_law_typed"), (Str.ofString "_law_typed"), params24, .stmts body24, scope24, 0, [], .none, .none, .none, .none, none, .none, .none, 0⟩), #[]⟩
noncomputable abbrev o242 (_ : Params) : Obj := ⟨(.type "code"), none, (.fields #[(.str (Str.ofString "_law_typed") 2420), (.str (Str.ofString "_law_typed") 2421), (.str (Str.ofString "/claim/cut.py") 2422), (.int 169 0), (.int 2 0), (.int 0 0), (.int 0 0), (.int 3 0), (.ref 237), (.bool true), (.int 181 0), (.ref 238), .none, (.ref 239), (.ref 240), (.ref 241), (.int 2430 0), (.int 169 0), (.str (Str.ofString "/claim/cut.py") 2431)]), #[]⟩
noncomputable abbrev o243 (_ : Params) : Obj := ⟨(.type "function"), none, (.func ⟨(Str.ofString "_law_typed"), (Str.ofString "_law_typed"), params24, .stmts body24, scope24, 3, [], .none, .none, .none, (.str (Str.ofString "law_tc0086_01") 2390), none, (.ref 242), .none, 0⟩), #[]⟩
noncomputable abbrev o244 (_ : Params) : Obj := ⟨(.type "tuple"), none, (.seq #[] 0), #[]⟩
noncomputable abbrev o245 (_ : Params) : Obj := ⟨.none, none, (.fields #[]), #[]⟩
noncomputable abbrev o246 (_ : Params) : Obj := ⟨(.type "tuple"), none, (.seq #[(.str (Str.ofString "typed") 2436), (.str (Str.ofString "heap") 2437), (.str (Str.ofString "hands") 2438), (.str (Str.ofString "page") 2439)] 0), #[]⟩
noncomputable abbrev o247 (_ : Params) : Obj := ⟨(.type "tuple"), none, (.seq #[] 0), #[]⟩
noncomputable abbrev o248 (_ : Params) : Obj := ⟨.none, none, (.func ⟨(Str.ofString "_law_written"), (Str.ofString "_law_written"), params25, .stmts body25, scope25, 0, [], .none, .none, .none, .none, none, .none, .none, 0⟩), #[]⟩
noncomputable abbrev o249 (_ : Params) : Obj := ⟨(.type "code"), none, (.fields #[(.str (Str.ofString "_law_written") 2433), (.str (Str.ofString "_law_written") 2434), (.str (Str.ofString "/claim/cut.py") 2435), (.int 183 0), (.int 2 0), (.int 0 0), (.int 0 0), (.int 3 0), (.ref 244), (.bool true), (.int 181 0), (.ref 245), .none, (.ref 246), (.ref 247), (.ref 248), (.int 2440 0), (.int 183 0), (.str (Str.ofString "/claim/cut.py") 2441)]), #[]⟩
noncomputable abbrev o250 (_ : Params) : Obj := ⟨(.type "function"), none, (.func ⟨(Str.ofString "_law_written"), (Str.ofString "_law_written"), params25, .stmts body25, scope25, 3, [], .none, .none, .none, (.str (Str.ofString "law_tc0086_01") 2390), none, (.ref 249), .none, 0⟩), #[]⟩
noncomputable abbrev o251 (_ : Params) : Obj := ⟨(.type "tuple"), none, (.seq #[] 0), #[]⟩
noncomputable abbrev o252 (_ : Params) : Obj := ⟨.none, none, (.fields #[]), #[]⟩
noncomputable abbrev o253 (_ : Params) : Obj := ⟨(.type "tuple"), none, (.seq #[(.str (Str.ofString "heap") 2446), (.str (Str.ofString "codes") 2447)] 0), #[]⟩
noncomputable abbrev o254 (_ : Params) : Obj := ⟨(.type "tuple"), none, (.seq #[] 0), #[]⟩
noncomputable abbrev o255 (_ : Params) : Obj := ⟨.none, none, (.func ⟨(Str.ofString "_law_unseen"), (Str.ofString "_law_unseen"), params26, .stmts body26, scope26, 0, [], .none, .none, .none, .none, none, .none, .none, 0⟩), #[]⟩
noncomputable abbrev o256 (_ : Params) : Obj := ⟨(.type "code"), none, (.fields #[(.str (Str.ofString "_law_unseen") 2443), (.str (Str.ofString "_law_unseen") 2444), (.str (Str.ofString "/claim/cut.py") 2445), (.int 189 0), (.int 1 0), (.int 0 0), (.int 0 0), (.int 3 0), (.ref 251), (.bool true), (.int 181 0), (.ref 252), .none, (.ref 253), (.ref 254), (.ref 255), (.int 2448 0), (.int 189 0), (.str (Str.ofString "/claim/cut.py") 2449)]), #[]⟩
noncomputable abbrev o257 (_ : Params) : Obj := ⟨(.type "function"), none, (.func ⟨(Str.ofString "_law_unseen"), (Str.ofString "_law_unseen"), params26, .stmts body26, scope26, 3, [], .none, .none, .none, (.str (Str.ofString "law_tc0086_01") 2390), none, (.ref 256), .none, 0⟩), #[]⟩
noncomputable abbrev o258 (_ : Params) : Obj := ⟨(.type "tuple"), none, (.seq #[] 0), #[]⟩
noncomputable abbrev o259 (_ : Params) : Obj := ⟨.none, none, (.fields #[]), #[]⟩
noncomputable abbrev o260 (_ : Params) : Obj := ⟨(.type "tuple"), none, (.seq #[(.str (Str.ofString "heap") 2454), (.str (Str.ofString "codes") 2455)] 0), #[]⟩
noncomputable abbrev o261 (_ : Params) : Obj := ⟨(.type "tuple"), none, (.seq #[] 0), #[]⟩
noncomputable abbrev o262 (_ : Params) : Obj := ⟨.none, none, (.func ⟨(Str.ofString "_law_beside"), (Str.ofString "_law_beside"), params27, .stmts body27, scope27, 0, [], .none, .none, .none, .none, none, .none, .none, 0⟩), #[]⟩
noncomputable abbrev o263 (_ : Params) : Obj := ⟨(.type "code"), none, (.fields #[(.str (Str.ofString "_law_beside") 2451), (.str (Str.ofString "_law_beside") 2452), (.str (Str.ofString "/claim/cut.py") 2453), (.int 192 0), (.int 1 0), (.int 0 0), (.int 0 0), (.int 3 0), (.ref 258), (.bool true), (.int 181 0), (.ref 259), .none, (.ref 260), (.ref 261), (.ref 262), (.int 2456 0), (.int 192 0), (.str (Str.ofString "/claim/cut.py") 2457)]), #[]⟩
noncomputable abbrev o264 (_ : Params) : Obj := ⟨(.type "function"), none, (.func ⟨(Str.ofString "_law_beside"), (Str.ofString "_law_beside"), params27, .stmts body27, scope27, 3, [], .none, .none, .none, (.str (Str.ofString "law_tc0086_01") 2390), none, (.ref 263), .none, 0⟩), #[]⟩
noncomputable abbrev o265 (_ : Params) : Obj := ⟨(.type "tuple"), none, (.seq #[] 0), #[]⟩
noncomputable abbrev o266 (_ : Params) : Obj := ⟨.none, none, (.fields #[]), #[]⟩
noncomputable abbrev o267 (_ : Params) : Obj := ⟨(.type "tuple"), none, (.seq #[(.str (Str.ofString "lead") 2462), (.str (Str.ofString "size") 2463), (.str (Str.ofString "column") 2464), (.str (Str.ofString "sign") 2465)] 0), #[]⟩
noncomputable abbrev o268 (_ : Params) : Obj := ⟨(.type "tuple"), none, (.seq #[] 0), #[]⟩
noncomputable abbrev o269 (_ : Params) : Obj := ⟨.none, none, (.func ⟨(Str.ofString "_law_column"), (Str.ofString "_law_column"), params28, .stmts body28, scope28, 0, [], .none, .none, .none, .none, none, .none, .none, 0⟩), #[]⟩
noncomputable abbrev o270 (_ : Params) : Obj := ⟨(.type "code"), none, (.fields #[(.str (Str.ofString "_law_column") 2459), (.str (Str.ofString "_law_column") 2460), (.str (Str.ofString "/claim/cut.py") 2461), (.int 195 0), (.int 2 0), (.int 0 0), (.int 0 0), (.int 3 0), (.ref 265), (.bool true), (.int 181 0), (.ref 266), .none, (.ref 267), (.ref 268), (.ref 269), (.int 2466 0), (.int 195 0), (.str (Str.ofString "/claim/cut.py") 2467)]), #[]⟩
noncomputable abbrev o271 (_ : Params) : Obj := ⟨(.type "function"), none, (.func ⟨(Str.ofString "_law_column"), (Str.ofString "_law_column"), params28, .stmts body28, scope28, 3, [], .none, .none, .none, (.str (Str.ofString "law_tc0086_01") 2390), none, (.ref 270), .none, 0⟩), #[]⟩
noncomputable abbrev o272 (_ : Params) : Obj := ⟨(.type "tuple"), none, (.seq #[] 0), #[]⟩
noncomputable abbrev o273 (_ : Params) : Obj := ⟨.none, none, (.fields #[]), #[]⟩
noncomputable abbrev o274 (_ : Params) : Obj := ⟨(.type "tuple"), none, (.seq #[(.str (Str.ofString "turns") 2472), (.str (Str.ofString "table") 2473), (.str (Str.ofString "first") 2474), (.str (Str.ofString "row") 2475), (.str (Str.ofString "last") 2476)] 0), #[]⟩
noncomputable abbrev o275 (_ : Params) : Obj := ⟨(.type "tuple"), none, (.seq #[] 0), #[]⟩
noncomputable abbrev o276 (_ : Params) : Obj := ⟨.none, none, (.func ⟨(Str.ofString "_law_frieze"), (Str.ofString "_law_frieze"), params29, .stmts body29, scope29, 0, [], .none, .none, .none, .none, none, .none, .none, 0⟩), #[]⟩
noncomputable abbrev o277 (_ : Params) : Obj := ⟨(.type "code"), none, (.fields #[(.str (Str.ofString "_law_frieze") 2469), (.str (Str.ofString "_law_frieze") 2470), (.str (Str.ofString "/claim/cut.py") 2471), (.int 203 0), (.int 1 0), (.int 0 0), (.int 0 0), (.int 3 0), (.ref 272), (.bool true), (.int 181 0), (.ref 273), .none, (.ref 274), (.ref 275), (.ref 276), (.int 2477 0), (.int 203 0), (.str (Str.ofString "/claim/cut.py") 2478)]), #[]⟩
noncomputable abbrev o278 (_ : Params) : Obj := ⟨(.type "function"), none, (.func ⟨(Str.ofString "_law_frieze"), (Str.ofString "_law_frieze"), params29, .stmts body29, scope29, 3, [], .none, .none, .none, (.str (Str.ofString "law_tc0086_01") 2390), none, (.ref 277), .none, 0⟩), #[]⟩
noncomputable abbrev o279 (_ : Params) : Obj := ⟨(.type "tuple"), none, (.seq #[] 0), #[]⟩
noncomputable abbrev o280 (_ : Params) : Obj := ⟨.none, none, (.fields #[]), #[]⟩
noncomputable abbrev o281 (_ : Params) : Obj := ⟨.none, none, (.func ⟨(Str.ofString "law"), (Str.ofString "law"), params30, .stmts body30, scope30, 0, [], .none, .none, .none, .none, none, .none, .none, 0⟩), #[]⟩
noncomputable abbrev o282 (_ : Params) : Obj := ⟨(.type "code"), none, (.fields #[(.str (Str.ofString "law") 2480), (.str (Str.ofString "law") 2481), (.str (Str.ofString "/claim/cut.py") 2482), (.int 211 0), (.int 1 0), (.int 0 0), (.int 0 0), (.int 3 0), (.ref 279), (.bool true), (.int 181 0), (.ref 280), .none, .none, .none, (.ref 281), (.int 2483 0), (.int 211 0), (.str (Str.ofString "/claim/cut.py") 2484)]), #[]⟩
noncomputable abbrev o283 (_ : Params) : Obj := ⟨(.type "function"), none, (.func ⟨(Str.ofString "law"), (Str.ofString "law"), params30, .stmts body30, scope30, 3, [], .none, .none, .none, (.str (Str.ofString "law_tc0086_01") 2390), none, (.ref 282), .none, 0⟩), #[]⟩
noncomputable def K : Params → Frag := fun P => (nat_lit 2, o2 P) :: (nat_lit 3, o3 P) :: (nat_lit 20, o20 P) :: (nat_lit 21, o21 P) :: (nat_lit 27, o27 P) :: (nat_lit 37, o37 P) :: (nat_lit 38, o38 P) :: (nat_lit 44, o44 P) :: (nat_lit 45, o45 P) :: (nat_lit 51, o51 P) :: (nat_lit 52, o52 P) :: (nat_lit 58, o58 P) :: (nat_lit 59, o59 P) :: (nat_lit 65, o65 P) :: (nat_lit 66, o66 P) :: (nat_lit 72, o72 P) :: (nat_lit 73, o73 P) :: (nat_lit 79, o79 P) :: (nat_lit 80, o80 P) :: (nat_lit 81, o81 P) :: (nat_lit 82, o82 P) :: (nat_lit 83, o83 P) :: (nat_lit 84, o84 P) :: (nat_lit 85, o85 P) :: (nat_lit 93, o93 P) :: (nat_lit 94, o94 P) :: (nat_lit 100, o100 P) :: (nat_lit 101, o101 P) :: (nat_lit 107, o107 P) :: (nat_lit 108, o108 P) :: (nat_lit 116, o116 P) :: (nat_lit 125, o125 P) :: (nat_lit 126, o126 P) :: (nat_lit 171, o171 P) :: (nat_lit 172, o172 P) :: (nat_lit 178, o178 P) :: (nat_lit 179, o179 P) :: (nat_lit 185, o185 P) :: (nat_lit 186, o186 P) :: (nat_lit 192, o192 P) :: (nat_lit 193, o193 P) :: (nat_lit 199, o199 P) :: (nat_lit 200, o200 P) :: (nat_lit 206, o206 P) :: (nat_lit 207, o207 P) :: (nat_lit 213, o213 P) :: (nat_lit 214, o214 P) :: (nat_lit 218, o218 P) :: (nat_lit 219, o219 P) :: (nat_lit 225, o225 P) :: (nat_lit 226, o226 P) :: (nat_lit 230, o230 P) :: (nat_lit 231, o231 P) :: (nat_lit 235, o235 P) :: (nat_lit 236, o236 P) :: (nat_lit 242, o242 P) :: (nat_lit 243, o243 P) :: (nat_lit 249, o249 P) :: (nat_lit 250, o250 P) :: (nat_lit 256, o256 P) :: (nat_lit 257, o257 P) :: (nat_lit 263, o263 P) :: (nat_lit 264, o264 P) :: (nat_lit 270, o270 P) :: (nat_lit 271, o271 P) :: (nat_lit 277, o277 P) :: (nat_lit 278, o278 P) :: (nat_lit 282, o282 P) :: (nat_lit 283, o283 P) :: []
noncomputable def Kas : List Nat := [2, 3, 20, 21, 27, 37, 38, 44, 45, 51, 52, 58, 59, 65, 66, 72, 73, 79, 80, 81, 82, 83, 84, 85, 93, 94, 100, 101, 107, 108, 116, 125, 126, 171, 172, 178, 179, 185, 186, 192, 193, 199, 200, 206, 207, 213, 214, 218, 219, 225, 226, 230, 231, 235, 236, 242, 243, 249, 250, 256, 257, 263, 264, 270, 271, 277, 278, 282, 283]
end
section
@[irreducible] noncomputable def T0 (P : Params) : BT := (.node (boot_o_0 P) (.node (boot_o_1 P) (.node (boot_o_3 P) (.node (boot_o_7 P) .nil .nil) .nil) (.node (boot_o_5 P) (.node (boot_o_9 P) .nil .nil) .nil)) (.node (boot_o_2 P) (.node (boot_o_4 P) (.node (boot_o_8 P) .nil .nil) .nil) (.node (boot_o_6 P) (.node (boot_o_10 P) .nil .nil) .nil)))
@[irreducible] noncomputable def S0 (w : World) (os : OsState) : SharedT := ⟨T0 w.params, 11, (boot_heap w.params).life, #[], boot_drawn, boot_toks, os⟩
theorem S0_eq (w : World) (os : OsState) : S0 w os = ⟨T0 w.params, 11, (boot_heap w.params).life, #[], boot_drawn, boot_toks, os⟩ := by unfold S0; rfl
@[irreducible] noncomputable def Tb (P : Params) : BT := (.node (o0 P) (.node (o1 P) (.node (o3b P) (.node (o7 P) .nil .nil) (.node (o11 P) .nil .nil)) (.node (o5 P) (.node (o9 P) .nil .nil) (.node (o13 P) .nil .nil))) (.node (o2 P) (.node (o4 P) (.node (o8 P) .nil .nil) (.node (o12b P) .nil .nil)) (.node (o6 P) (.node (o10 P) .nil .nil) (.node (o14 P) .nil .nil))))
@[irreducible] noncomputable def Sb (w : World) (os : OsState) : SharedT := ⟨Tb w.params, 15, (boot_heap w.params).life, #[], boot_drawn, 187, os⟩
theorem Sb_eq (w : World) (os : OsState) : Sb w os = ⟨Tb w.params, 15, (boot_heap w.params).life, #[], boot_drawn, 187, os⟩ := by unfold Sb; rfl
@[irreducible] noncomputable def Tp8 (P : Params) : BT := (.node (o0 P) (.node (o1 P) (.node (o3p8 P) (.node (o7 P) (.node (o15 P) (.node (o31 P) (.node (o63 P) .nil .nil) (.node (o95 P) .nil .nil)) (.node (o47 P) (.node (o79 P) .nil .nil) .nil)) (.node (o23 P) (.node (o39 P) (.node (o71 P) .nil .nil) (.node (o103 P) .nil .nil)) (.node (o55 P) (.node (o87 P) .nil .nil) .nil))) (.node (o11 P) (.node (o19 P) (.node (o35 P) (.node (o67 P) .nil .nil) (.node (o99 P) .nil .nil)) (.node (o51 P) (.node (o83 P) .nil .nil) .nil)) (.node (o27 P) (.node (o43 P) (.node (o75 P) .nil .nil) (.node (o107 P) .nil .nil)) (.node (o59 P) (.node (o91 P) .nil .nil) .nil)))) (.node (o5 P) (.node (o9 P) (.node (o17 P) (.node (o33 P) (.node (o65 P) .nil .nil) (.node (o97 P) .nil .nil)) (.node (o49 P) (.node (o81 P) .nil .nil) .nil)) (.node (o25 P) (.node (o41 P) (.node (o73 P) .nil .nil) (.node (o105 P) .nil .nil)) (.node (o57 P) (.node (o89 P) .nil .nil) .nil))) (.node (o13 P) (.node (o21 P) (.node (o37 P) (.node (o69 P) .nil .nil) (.node (o101 P) .nil .nil)) (.node (o53 P) (.node (o85 P) .nil .nil) .nil)) (.node (o29 P) (.node (o45 P) (.node (o77 P) .nil .nil) .nil) (.node (o61 P) (.node (o93 P) .nil .nil) .nil))))) (.node (o2 P) (.node (o4 P) (.node (o8 P) (.node (o16 P) (.node (o32 P) (.node (o64 P) .nil .nil) (.node (o96 P) .nil .nil)) (.node (o48 P) (.node (o80 P) .nil .nil) .nil)) (.node (o24 P) (.node (o40 P) (.node (o72 P) .nil .nil) (.node (o104 P) .nil .nil)) (.node (o56 P) (.node (o88 P) .nil .nil) .nil))) (.node (o12p8 P) (.node (o20 P) (.node (o36 P) (.node (o68 P) .nil .nil) (.node (o100 P) .nil .nil)) (.node (o52 P) (.node (o84 P) .nil .nil) .nil)) (.node (o28 P) (.node (o44 P) (.node (o76 P) .nil .nil) (.node (o108 P) .nil .nil)) (.node (o60 P) (.node (o92 P) .nil .nil) .nil)))) (.node (o6 P) (.node (o10 P) (.node (o18 P) (.node (o34 P) (.node (o66 P) .nil .nil) (.node (o98 P) .nil .nil)) (.node (o50 P) (.node (o82 P) .nil .nil) .nil)) (.node (o26 P) (.node (o42 P) (.node (o74 P) .nil .nil) (.node (o106 P) .nil .nil)) (.node (o58 P) (.node (o90 P) .nil .nil) .nil))) (.node (o14 P) (.node (o22 P) (.node (o38 P) (.node (o70 P) .nil .nil) (.node (o102 P) .nil .nil)) (.node (o54 P) (.node (o86 P) .nil .nil) .nil)) (.node (o30 P) (.node (o46 P) (.node (o78 P) .nil .nil) .nil) (.node (o62 P) (.node (o94 P) .nil .nil) .nil))))))
@[irreducible] noncomputable def Sp8 (w : World) (os : OsState) : SharedT := ⟨Tp8 w.params, 109, (boot_heap w.params).life, #[], boot_drawn, 320, os⟩
theorem Sp8_eq (w : World) (os : OsState) : Sp8 w os = ⟨Tp8 w.params, 109, (boot_heap w.params).life, #[], boot_drawn, 320, os⟩ := by unfold Sp8; rfl
@[irreducible] noncomputable def Tp9 (P : Params) : BT := (.node (o0 P) (.node (o1 P) (.node (o3p9 P) (.node (o7 P) (.node (o15 P) (.node (o31 P) (.node (o63 P) .nil .nil) (.node (o95 P) .nil .nil)) (.node (o47 P) (.node (o79 P) .nil .nil) (.node (o111 P) .nil .nil))) (.node (o23 P) (.node (o39 P) (.node (o71 P) .nil .nil) (.node (o103 P) .nil .nil)) (.node (o55 P) (.node (o87 P) .nil .nil) (.node (o119 P) .nil .nil)))) (.node (o11 P) (.node (o19 P) (.node (o35 P) (.node (o67 P) .nil .nil) (.node (o99 P) .nil .nil)) (.node (o51 P) (.node (o83 P) .nil .nil) (.node (o115 P) .nil .nil))) (.node (o27 P) (.node (o43 P) (.node (o75 P) .nil .nil) (.node (o107 P) .nil .nil)) (.node (o59 P) (.node (o91 P) .nil .nil) .nil)))) (.node (o5 P) (.node (o9 P) (.node (o17 P) (.node (o33 P) (.node (o65 P) .nil .nil) (.node (o97 P) .nil .nil)) (.node (o49 P) (.node (o81 P) .nil .nil) (.node (o113 P) .nil .nil))) (.node (o25 P) (.node (o41 P) (.node (o73 P) .nil .nil) (.node (o105 P) .nil .nil)) (.node (o57 P) (.node (o89 P) .nil .nil) .nil))) (.node (o13 P) (.node (o21 P) (.node (o37 P) (.node (o69 P) .nil .nil) (.node (o101 P) .nil .nil)) (.node (o53 P) (.node (o85 P) .nil .nil) (.node (o117 P) .nil .nil))) (.node (o29 P) (.node (o45 P) (.node (o77 P) .nil .nil) (.node (o109 P) .nil .nil)) (.node (o61 P) (.node (o93 P) .nil .nil) .nil))))) (.node (o2 P) (.node (o4 P) (.node (o8 P) (.node (o16 P) (.node (o32 P) (.node (o64 P) .nil .nil) (.node (o96 P) .nil .nil)) (.node (o48 P) (.node (o80 P) .nil .nil) (.node (o112 P) .nil .nil))) (.node (o24 P) (.node (o40 P) (.node (o72 P) .nil .nil) (.node (o104 P) .nil .nil)) (.node (o56 P) (.node (o88 P) .nil .nil) .nil))) (.node (o12p8 P) (.node (o20 P) (.node (o36 P) (.node (o68 P) .nil .nil) (.node (o100 P) .nil .nil)) (.node (o52 P) (.node (o84 P) .nil .nil) (.node (o116 P) .nil .nil))) (.node (o28 P) (.node (o44 P) (.node (o76 P) .nil .nil) (.node (o108 P) .nil .nil)) (.node (o60 P) (.node (o92 P) .nil .nil) .nil)))) (.node (o6 P) (.node (o10 P) (.node (o18 P) (.node (o34 P) (.node (o66 P) .nil .nil) (.node (o98 P) .nil .nil)) (.node (o50 P) (.node (o82 P) .nil .nil) (.node (o114 P) .nil .nil))) (.node (o26 P) (.node (o42 P) (.node (o74 P) .nil .nil) (.node (o106 P) .nil .nil)) (.node (o58 P) (.node (o90 P) .nil .nil) .nil))) (.node (o14 P) (.node (o22 P) (.node (o38 P) (.node (o70 P) .nil .nil) (.node (o102 P) .nil .nil)) (.node (o54 P) (.node (o86 P) .nil .nil) (.node (o118 P) .nil .nil))) (.node (o30 P) (.node (o46 P) (.node (o78 P) .nil .nil) (.node (o110 P) .nil .nil)) (.node (o62 P) (.node (o94 P) .nil .nil) .nil))))))
@[irreducible] noncomputable def Sp9 (w : World) (os : OsState) : SharedT := ⟨Tp9 w.params, 120, (boot_heap w.params).life, #[], boot_drawn, 380, os⟩
theorem Sp9_eq (w : World) (os : OsState) : Sp9 w os = ⟨Tp9 w.params, 120, (boot_heap w.params).life, #[], boot_drawn, 380, os⟩ := by unfold Sp9; rfl
@[irreducible] noncomputable def Tp10 (P : Params) : BT := (.node (o0 P) (.node (o1 P) (.node (o3p10 P) (.node (o7 P) (.node (o15 P) (.node (o31 P) (.node (o63 P) .nil .nil) (.node (o95 P) .nil .nil)) (.node (o47 P) (.node (o79 P) .nil .nil) (.node (o111 P) .nil .nil))) (.node (o23 P) (.node (o39 P) (.node (o71 P) .nil .nil) (.node (o103 P) .nil .nil)) (.node (o55 P) (.node (o87 P) .nil .nil) (.node (o119 P) .nil .nil)))) (.node (o11 P) (.node (o19 P) (.node (o35 P) (.node (o67 P) .nil .nil) (.node (o99 P) .nil .nil)) (.node (o51 P) (.node (o83 P) .nil .nil) (.node (o115 P) .nil .nil))) (.node (o27 P) (.node (o43 P) (.node (o75 P) .nil .nil) (.node (o107 P) .nil .nil)) (.node (o59 P) (.node (o91 P) .nil .nil) (.node (o123 P) .nil .nil))))) (.node (o5 P) (.node (o9 P) (.node (o17 P) (.node (o33 P) (.node (o65 P) .nil .nil) (.node (o97 P) .nil .nil)) (.node (o49 P) (.node (o81 P) .nil .nil) (.node (o113 P) .nil .nil))) (.node (o25 P) (.node (o41 P) (.node (o73 P) .nil .nil) (.node (o105 P) .nil .nil)) (.node (o57 P) (.node (o89 P) .nil .nil) (.node (o121 P) .nil .nil)))) (.node (o13 P) (.node (o21 P) (.node (o37 P) (.node (o69 P) .nil .nil) (.node (o101 P) .nil .nil)) (.node (o53 P) (.node (o85 P) .nil .nil) (.node (o117 P) .nil .nil))) (.node (o29 P) (.node (o45 P) (.node (o77 P) .nil .nil) (.node (o109 P) .nil .nil)) (.node (o61 P) (.node (o93 P) .nil .nil) (.node (o125 P) .nil .nil)))))) (.node (o2 P) (.node (o4 P) (.node (o8 P) (.node (o16 P) (.node (o32 P) (.node (o64 P) .nil .nil) (.node (o96 P) .nil .nil)) (.node (o48 P) (.node (o80 P) .nil .nil) (.node (o112 P) .nil .nil))) (.node (o24 P) (.node (o40 P) (.node (o72 P) .nil .nil) (.node (o104 P) .nil .nil)) (.node (o56 P) (.node (o88 P) .nil .nil) (.node (o120 P) .nil .nil)))) (.node (o12p10 P) (.node (o20 P) (.node (o36 P) (.node (o68 P) .nil .nil) (.node (o100 P) .nil .nil)) (.node (o52 P) (.node (o84 P) .nil .nil) (.node (o116 P) .nil .nil))) (.node (o28 P) (.node (o44 P) (.node (o76 P) .nil .nil) (.node (o108 P) .nil .nil)) (.node (o60 P) (.node (o92 P) .nil .nil) (.node (o124 P) .nil .nil))))) (.node (o6 P) (.node (o10 P) (.node (o18 P) (.node (o34 P) (.node (o66 P) .nil .nil) (.node (o98 P) .nil .nil)) (.node (o50 P) (.node (o82 P) .nil .nil) (.node (o114 P) .nil .nil))) (.node (o26 P) (.node (o42 P) (.node (o74 P) .nil .nil) (.node (o106 P) .nil .nil)) (.node (o58 P) (.node (o90 P) .nil .nil) (.node (o122 P) .nil .nil)))) (.node (o14 P) (.node (o22 P) (.node (o38 P) (.node (o70 P) .nil .nil) (.node (o102 P) .nil .nil)) (.node (o54 P) (.node (o86 P) .nil .nil) (.node (o118 P) .nil .nil))) (.node (o30 P) (.node (o46 P) (.node (o78 P) .nil .nil) (.node (o110 P) .nil .nil)) (.node (o62 P) (.node (o94 P) .nil .nil) (.node (o126 P) .nil .nil)))))))
@[irreducible] noncomputable def Sp10 (w : World) (os : OsState) : SharedT := ⟨Tp10 w.params, 127, (boot_heap w.params).life, #[], boot_drawn, 387, os⟩
theorem Sp10_eq (w : World) (os : OsState) : Sp10 w os = ⟨Tp10 w.params, 127, (boot_heap w.params).life, #[], boot_drawn, 387, os⟩ := by unfold Sp10; rfl
@[irreducible] noncomputable def Td (X : Nat → Obj) (P : Params) : BT := (.node (o0 P) (.node (o1 P) (.node (o3p10 P) (.node (o7 P) (.node (o15 P) (.node (o31 P) (.node (o63 P) (.node (X 127) .nil .nil) .nil) (.node (o95 P) (.node (X 159) .nil .nil) .nil)) (.node (o47 P) (.node (o79 P) (.node (X 143) .nil .nil) .nil) (.node (o111 P) .nil .nil))) (.node (o23 P) (.node (o39 P) (.node (o71 P) (.node (X 135) .nil .nil) .nil) (.node (o103 P) .nil .nil)) (.node (o55 P) (.node (o87 P) (.node (X 151) .nil .nil) .nil) (.node (o119 P) .nil .nil)))) (.node (o11 P) (.node (o19 P) (.node (o35 P) (.node (o67 P) (.node (X 131) .nil .nil) .nil) (.node (o99 P) (.node (X 163) .nil .nil) .nil)) (.node (o51 P) (.node (o83 P) (.node (X 147) .nil .nil) .nil) (.node (o115 P) .nil .nil))) (.node (o27 P) (.node (o43 P) (.node (o75 P) (.node (X 139) .nil .nil) .nil) (.node (o107 P) .nil .nil)) (.node (o59 P) (.node (o91 P) (.node (X 155) .nil .nil) .nil) (.node (o123 P) .nil .nil))))) (.node (o5 P) (.node (o9 P) (.node (o17 P) (.node (o33 P) (.node (o65 P) (.node (X 129) .nil .nil) .nil) (.node (o97 P) (.node (X 161) .nil .nil) .nil)) (.node (o49 P) (.node (o81 P) (.node (X 145) .nil .nil) .nil) (.node (o113 P) .nil .nil))) (.node (o25 P) (.node (o41 P) (.node (o73 P) (.node (X 137) .nil .nil) .nil) (.node (o105 P) .nil .nil)) (.node (o57 P) (.node (o89 P) (.node (X 153) .nil .nil) .nil) (.node (o121 P) .nil .nil)))) (.node (o13 P) (.node (o21 P) (.node (o37 P) (.node (o69 P) (.node (X 133) .nil .nil) .nil) (.node (o101 P) (.node (X 165) .nil .nil) .nil)) (.node (o53 P) (.node (o85 P) (.node (X 149) .nil .nil) .nil) (.node (o117 P) .nil .nil))) (.node (o29 P) (.node (o45 P) (.node (o77 P) (.node (X 141) .nil .nil) .nil) (.node (o109 P) .nil .nil)) (.node (o61 P) (.node (o93 P) (.node (X 157) .nil .nil) .nil) (.node (o125 P) .nil .nil)))))) (.node (o2 P) (.node (o4 P) (.node (o8 P) (.node (o16 P) (.node (o32 P) (.node (o64 P) (.node (X 128) .nil .nil) .nil) (.node (o96 P) (.node (X 160) .nil .nil) .nil)) (.node (o48 P) (.node (o80 P) (.node (X 144) .nil .nil) .nil) (.node (o112 P) .nil .nil))) (.node (o24 P) (.node (o40 P) (.node (o72 P) (.node (X 136) .nil .nil) .nil) (.node (o104 P) .nil .nil)) (.node (o56 P) (.node (o88 P) (.node (X 152) .nil .nil) .nil) (.node (o120 P) .nil .nil)))) (.node (o12p10 P) (.node (o20 P) (.node (o36 P) (.node (o68 P) (.node (X 132) .nil .nil) .nil) (.node (o100 P) (.node (X 164) .nil .nil) .nil)) (.node (o52 P) (.node (o84 P) (.node (X 148) .nil .nil) .nil) (.node (o116 P) .nil .nil))) (.node (o28 P) (.node (o44 P) (.node (o76 P) (.node (X 140) .nil .nil) .nil) (.node (o108 P) .nil .nil)) (.node (o60 P) (.node (o92 P) (.node (X 156) .nil .nil) .nil) (.node (o124 P) .nil .nil))))) (.node (o6 P) (.node (o10 P) (.node (o18 P) (.node (o34 P) (.node (o66 P) (.node (X 130) .nil .nil) .nil) (.node (o98 P) (.node (X 162) .nil .nil) .nil)) (.node (o50 P) (.node (o82 P) (.node (X 146) .nil .nil) .nil) (.node (o114 P) .nil .nil))) (.node (o26 P) (.node (o42 P) (.node (o74 P) (.node (X 138) .nil .nil) .nil) (.node (o106 P) .nil .nil)) (.node (o58 P) (.node (o90 P) (.node (X 154) .nil .nil) .nil) (.node (o122 P) .nil .nil)))) (.node (o14 P) (.node (o22 P) (.node (o38 P) (.node (o70 P) (.node (X 134) .nil .nil) .nil) (.node (o102 P) .nil .nil)) (.node (o54 P) (.node (o86 P) (.node (X 150) .nil .nil) .nil) (.node (o118 P) .nil .nil))) (.node (o30 P) (.node (o46 P) (.node (o78 P) (.node (X 142) .nil .nil) .nil) (.node (o110 P) .nil .nil)) (.node (o62 P) (.node (o94 P) (.node (X 158) .nil .nil) .nil) (.node (o126 P) .nil .nil)))))))
@[irreducible] noncomputable def Sd (X : Nat → Obj) (w : World) (os : OsState) : SharedT := ⟨Td X w.params, 166, (boot_heap w.params).life, #[], boot_drawn, 2337, os⟩
theorem Sd_eq (X : Nat → Obj) (w : World) (os : OsState) : Sd X w os = ⟨Td X w.params, 166, (boot_heap w.params).life, #[], boot_drawn, 2337, os⟩ := by unfold Sd; rfl
@[irreducible] noncomputable def Tp31 (X : Nat → Obj) (P : Params) : BT := (.node (o0 P) (.node (o1 P) (.node (o3 P) (.node (o7 P) (.node (o15 P) (.node (o31 P) (.node (o63 P) (.node (X 127) (.node (o255 P) .nil .nil) .nil) (.node (o191 P) .nil .nil)) (.node (o95 P) (.node (X 159) .nil .nil) (.node (o223 P) .nil .nil))) (.node (o47 P) (.node (o79 P) (.node (X 143) (.node (o271 P) .nil .nil) .nil) (.node (o207 P) .nil .nil)) (.node (o111 P) (.node (o175 P) .nil .nil) (.node (o239 P) .nil .nil)))) (.node (o23 P) (.node (o39 P) (.node (o71 P) (.node (X 135) (.node (o263 P) .nil .nil) .nil) (.node (o199 P) .nil .nil)) (.node (o103 P) (.node (o167 P) .nil .nil) (.node (o231 P) .nil .nil))) (.node (o55 P) (.node (o87 P) (.node (X 151) (.node (o279 P) .nil .nil) .nil) (.node (o215 P) .nil .nil)) (.node (o119 P) (.node (o183 P) .nil .nil) (.node (o247 P) .nil .nil))))) (.node (o11 P) (.node (o19 P) (.node (o35 P) (.node (o67 P) (.node (X 131) (.node (o259 P) .nil .nil) .nil) (.node (o195 P) .nil .nil)) (.node (o99 P) (.node (X 163) .nil .nil) (.node (o227 P) .nil .nil))) (.node (o51 P) (.node (o83 P) (.node (X 147) (.node (o275 P) .nil .nil) .nil) (.node (o211 P) .nil .nil)) (.node (o115 P) (.node (o179 P) .nil .nil) (.node (o243 P) .nil .nil)))) (.node (o27 P) (.node (o43 P) (.node (o75 P) (.node (X 139) (.node (o267 P) .nil .nil) .nil) (.node (o203 P) .nil .nil)) (.node (o107 P) (.node (o171 P) .nil .nil) (.node (o235 P) .nil .nil))) (.node (o59 P) (.node (o91 P) (.node (X 155) (.node (o283 P) .nil .nil) .nil) (.node (o219 P) .nil .nil)) (.node (o123 P) (.node (o187 P) .nil .nil) (.node (o251 P) .nil .nil)))))) (.node (o5 P) (.node (o9 P) (.node (o17 P) (.node (o33 P) (.node (o65 P) (.node (X 129) (.node (o257 P) .nil .nil) .nil) (.node (o193 P) .nil .nil)) (.node (o97 P) (.node (X 161) .nil .nil) (.node (o225 P) .nil .nil))) (.node (o49 P) (.node (o81 P) (.node (X 145) (.node (o273 P) .nil .nil) .nil) (.node (o209 P) .nil .nil)) (.node (o113 P) (.node (o177 P) .nil .nil) (.node (o241 P) .nil .nil)))) (.node (o25 P) (.node (o41 P) (.node (o73 P) (.node (X 137) (.node (o265 P) .nil .nil) .nil) (.node (o201 P) .nil .nil)) (.node (o105 P) (.node (o169 P) .nil .nil) (.node (o233 P) .nil .nil))) (.node (o57 P) (.node (o89 P) (.node (X 153) (.node (o281 P) .nil .nil) .nil) (.node (o217 P) .nil .nil)) (.node (o121 P) (.node (o185 P) .nil .nil) (.node (o249 P) .nil .nil))))) (.node (o13 P) (.node (o21 P) (.node (o37 P) (.node (o69 P) (.node (X 133) (.node (o261 P) .nil .nil) .nil) (.node (o197 P) .nil .nil)) (.node (o101 P) (.node (X 165) .nil .nil) (.node (o229 P) .nil .nil))) (.node (o53 P) (.node (o85 P) (.node (X 149) (.node (o277 P) .nil .nil) .nil) (.node (o213 P) .nil .nil)) (.node (o117 P) (.node (o181 P) .nil .nil) (.node (o245 P) .nil .nil)))) (.node (o29 P) (.node (o45 P) (.node (o77 P) (.node (X 141) (.node (o269 P) .nil .nil) .nil) (.node (o205 P) .nil .nil)) (.node (o109 P) (.node (o173 P) .nil .nil) (.node (o237 P) .nil .nil))) (.node (o61 P) (.node (o93 P) (.node (X 157) .nil .nil) (.node (o221 P) .nil .nil)) (.node (o125 P) (.node (o189 P) .nil .nil) (.node (o253 P) .nil .nil))))))) (.node (o2 P) (.node (o4 P) (.node (o8 P) (.node (o16 P) (.node (o32 P) (.node (o64 P) (.node (X 128) (.node (o256 P) .nil .nil) .nil) (.node (o192 P) .nil .nil)) (.node (o96 P) (.node (X 160) .nil .nil) (.node (o224 P) .nil .nil))) (.node (o48 P) (.node (o80 P) (.node (X 144) (.node (o272 P) .nil .nil) .nil) (.node (o208 P) .nil .nil)) (.node (o112 P) (.node (o176 P) .nil .nil) (.node (o240 P) .nil .nil)))) (.node (o24 P) (.node (o40 P) (.node (o72 P) (.node (X 136) (.node (o264 P) .nil .nil) .nil) (.node (o200 P) .nil .nil)) (.node (o104 P) (.node (o168 P) .nil .nil) (.node (o232 P) .nil .nil))) (.node (o56 P) (.node (o88 P) (.node (X 152) (.node (o280 P) .nil .nil) .nil) (.node (o216 P) .nil .nil)) (.node (o120 P) (.node (o184 P) .nil .nil) (.node (o248 P) .nil .nil))))) (.node (o12 P) (.node (o20 P) (.node (o36 P) (.node (o68 P) (.node (X 132) (.node (o260 P) .nil .nil) .nil) (.node (o196 P) .nil .nil)) (.node (o100 P) (.node (X 164) .nil .nil) (.node (o228 P) .nil .nil))) (.node (o52 P) (.node (o84 P) (.node (X 148) (.node (o276 P) .nil .nil) .nil) (.node (o212 P) .nil .nil)) (.node (o116 P) (.node (o180 P) .nil .nil) (.node (o244 P) .nil .nil)))) (.node (o28 P) (.node (o44 P) (.node (o76 P) (.node (X 140) (.node (o268 P) .nil .nil) .nil) (.node (o204 P) .nil .nil)) (.node (o108 P) (.node (o172 P) .nil .nil) (.node (o236 P) .nil .nil))) (.node (o60 P) (.node (o92 P) (.node (X 156) .nil .nil) (.node (o220 P) .nil .nil)) (.node (o124 P) (.node (o188 P) .nil .nil) (.node (o252 P) .nil .nil)))))) (.node (o6 P) (.node (o10 P) (.node (o18 P) (.node (o34 P) (.node (o66 P) (.node (X 130) (.node (o258 P) .nil .nil) .nil) (.node (o194 P) .nil .nil)) (.node (o98 P) (.node (X 162) .nil .nil) (.node (o226 P) .nil .nil))) (.node (o50 P) (.node (o82 P) (.node (X 146) (.node (o274 P) .nil .nil) .nil) (.node (o210 P) .nil .nil)) (.node (o114 P) (.node (o178 P) .nil .nil) (.node (o242 P) .nil .nil)))) (.node (o26 P) (.node (o42 P) (.node (o74 P) (.node (X 138) (.node (o266 P) .nil .nil) .nil) (.node (o202 P) .nil .nil)) (.node (o106 P) (.node (o170 P) .nil .nil) (.node (o234 P) .nil .nil))) (.node (o58 P) (.node (o90 P) (.node (X 154) (.node (o282 P) .nil .nil) .nil) (.node (o218 P) .nil .nil)) (.node (o122 P) (.node (o186 P) .nil .nil) (.node (o250 P) .nil .nil))))) (.node (o14 P) (.node (o22 P) (.node (o38 P) (.node (o70 P) (.node (X 134) (.node (o262 P) .nil .nil) .nil) (.node (o198 P) .nil .nil)) (.node (o102 P) (.node (o166 P) .nil .nil) (.node (o230 P) .nil .nil))) (.node (o54 P) (.node (o86 P) (.node (X 150) (.node (o278 P) .nil .nil) .nil) (.node (o214 P) .nil .nil)) (.node (o118 P) (.node (o182 P) .nil .nil) (.node (o246 P) .nil .nil)))) (.node (o30 P) (.node (o46 P) (.node (o78 P) (.node (X 142) (.node (o270 P) .nil .nil) .nil) (.node (o206 P) .nil .nil)) (.node (o110 P) (.node (o174 P) .nil .nil) (.node (o238 P) .nil .nil))) (.node (o62 P) (.node (o94 P) (.node (X 158) .nil .nil) (.node (o222 P) .nil .nil)) (.node (o126 P) (.node (o190 P) .nil .nil) (.node (o254 P) .nil .nil))))))))
@[irreducible] noncomputable def Sp31 (X : Nat → Obj) (w : World) (os : OsState) : SharedT := ⟨Tp31 X w.params, 284, (boot_heap w.params).life, #[], boot_drawn, 2486, os⟩
theorem Sp31_eq (X : Nat → Obj) (w : World) (os : OsState) : Sp31 X w os = ⟨Tp31 X w.params, 284, (boot_heap w.params).life, #[], boot_drawn, 2486, os⟩ := by unfold Sp31; rfl
end
section
set_option maxHeartbeats 0
noncomputable abbrev env0 : Env := { scope := pw.main.scope, locals := mainNs, globals := mainNs, cells := [], code := .ref 13, frame := some 14 }
noncomputable abbrev Γs : Ctx := ⟨.builtin "claim.caller" {}, none, none, [], none⟩
noncomputable abbrev Γ0 (pos : Pos) : Ctx := Γs.enter (.body pw.main.body env0) none pos
noncomputable abbrev qden : Code → Sem Fin := PySem.W.Fast.tw11892475500146522536 PySem.W.Fast.tw14364793385576792824
theorem qden_eq : denote table = qden := by rw [table_eq_tree, PySem.W.Fast.te11892475500146522536, PySem.W.Fast.te14364793385576792824]
noncomputable abbrev qexecs : List Stmt → Env → Sem Flow := PySem.W.Fast.tw12563942051412417395
theorem qexecs_eq : execs = qexecs := PySem.W.Fast.te12563942051412417395
noncomputable abbrev evF (w : World) (n : Nat) (pos p1 : Pos) (l : List Stmt) (s : SharedT) := ev qden pw w n (Γ0 pos) p1 ((qexecs l env0).bind fun f => .pure (.done f)) s
@[irreducible] noncomputable def b0 : List Stmt := pw.main.body.take 8
@[irreducible] noncomputable def b8 : List Stmt := (pw.main.body.drop 8).take 1
@[irreducible] noncomputable def b9 : List Stmt := (pw.main.body.drop 9).take 1
@[irreducible] noncomputable def b10 : List Stmt := (pw.main.body.drop 10).take 1
@[irreducible] noncomputable def b11 : List Stmt := pw.main.body.drop 11
theorem body_split : pw.main.body = b0 ++ (b8 ++ (b9 ++ (b10 ++ b11))) := by kernel_rfl

theorem piece0 (pos p1 : Pos) (os : OsState) (w : World) : evF w 2000 pos p1 b0 (Sb w os) = some (.ok .next, Sp8 w os) :=
  byRow2 "special-get-raises" (P := fun w => evF w 2000 pos p1 b0 (Sb w os) = some (.ok .next, Sp8 w os)) (fun w => by kernel_rfl) (fun w => by kernel_rfl) w
theorem piece8NN (pos p1 : Pos) (os : OsState) (v : World) : evF ((v.withFollow "set-order" false).withFollow "special-get-raises" false) 2000 pos p1 b8 (Sp8 ((v.withFollow "set-order" false).withFollow "special-get-raises" false) os) = some (.ok .next, Sp9 ((v.withFollow "set-order" false).withFollow "special-get-raises" false) os) := by kernel_rfl
theorem piece8NY (pos p1 : Pos) (os : OsState) (v : World) : evF ((v.withFollow "set-order" true).withFollow "special-get-raises" false) 2000 pos p1 b8 (Sp8 ((v.withFollow "set-order" true).withFollow "special-get-raises" false) os) = some (.ok .next, Sp9 ((v.withFollow "set-order" true).withFollow "special-get-raises" false) os) := by kernel_rfl
theorem piece8YN (pos p1 : Pos) (os : OsState) (v : World) : evF ((v.withFollow "set-order" false).withFollow "special-get-raises" true) 2000 pos p1 b8 (Sp8 ((v.withFollow "set-order" false).withFollow "special-get-raises" true) os) = some (.ok .next, Sp9 ((v.withFollow "set-order" false).withFollow "special-get-raises" true) os) := by kernel_rfl
theorem piece8YY (pos p1 : Pos) (os : OsState) (v : World) : evF ((v.withFollow "set-order" true).withFollow "special-get-raises" true) 2000 pos p1 b8 (Sp8 ((v.withFollow "set-order" true).withFollow "special-get-raises" true) os) = some (.ok .next, Sp9 ((v.withFollow "set-order" true).withFollow "special-get-raises" true) os) := by kernel_rfl
theorem piece8 (pos p1 : Pos) (os : OsState) (w : World) : evF w 2000 pos p1 b8 (Sp8 w os) = some (.ok .next, Sp9 w os) :=
  byRow2 "special-get-raises" (P := fun w => evF w 2000 pos p1 b8 (Sp8 w os) = some (.ok .next, Sp9 w os))
    (fun w => byRow2 "set-order" (P := fun v => evF (v.withFollow "special-get-raises" false) 2000 pos p1 b8 (Sp8 (v.withFollow "special-get-raises" false) os) = some (.ok .next, Sp9 (v.withFollow "special-get-raises" false) os)) (piece8NN pos p1 os) (piece8NY pos p1 os) w)
    (fun w => byRow2 "set-order" (P := fun v => evF (v.withFollow "special-get-raises" true) 2000 pos p1 b8 (Sp8 (v.withFollow "special-get-raises" true) os) = some (.ok .next, Sp9 (v.withFollow "special-get-raises" true) os)) (piece8YN pos p1 os) (piece8YY pos p1 os) w) w
theorem piece9 (pos p1 : Pos) (os : OsState) (w : World) : evF w 2000 pos p1 b9 (Sp9 w os) = some (.ok .next, Sp10 w os) := by kernel_rfl
noncomputable abbrev qstore : Env → Str → Value → Sem Unit := PySem.W.Fast.tw7998390705656384164
theorem qstore_eq : storeName = qstore := PySem.W.Fast.te7998390705656384164
theorem piece11 (X : Nat → Obj) (pos p1 : Pos) (os : OsState) (w : World) : ev qden pw w 2000 (Γ0 pos) p1 (((qstore env0 "b3_exceptions" (.ref 127)).bind fun _ => qexecs b11 env0).bind fun f => .pure (.done f)) (Sd X w os) = some (.ok .next, Sp31 X w os) := by kernel_rfl
noncomputable abbrev qcode : Module → Str → Option Nat → Sem Value := @PySem.W.Fast.tw17154629097778926822
theorem qcode_eq : @moduleCode = qcode := PySem.W.Fast.te17154629097778926822
noncomputable abbrev qframe : Value → Addr → Addr → Addr → Sem Addr := @PySem.W.Fast.tw12822647523644345616
theorem qframe_eq : @newBodyFrame = qframe := PySem.W.Fast.te12822647523644345616
theorem pieceS (p1 : Pos) (os : OsState) (w : World) : ev qden pw w 100 Γs p1 (((qcode pw.main pw.main.file none).bind fun c => (qframe c mainNs mainNs builtinsNs).bind fun a => (Sem.pure (c, a) : Sem (Value × Addr))).bind fun x => .pure (.done (if x.2 = 14 then .ret x.1 else .next))) (S0 w os) = some (.ok (.ret (.ref 13)), Sb w os) := by kernel_rfl
end
section
set_option maxHeartbeats 0
theorem wp_execs_append {M : Model} {Γ : Ctx} {env : Env} {rest : List Stmt} {Q : Flow → Pos → Shared → Prop} {E : Value → Pos → Shared → Prop} : ∀ (l : List Stmt) (p : Pos) (s : Shared),
    Sem.wp M Γ (execs l env) (fun f p' s' => f = .next ∧ Sem.wp M Γ (execs rest env) Q E p' s') E p s → Sem.wp M Γ (execs (l ++ rest) env) Q E p s := by
  intro l
  induction l with
  | nil => intro p s h; exact h.2
  | cons st l ih =>
    intro p s h
    rw [List.cons_append, execs_cons, Sem.wp_bind']
    rw [execs_cons, Sem.wp_bind'] at h
    refine Sem.wp_mono _ _ _ (fun f p' s' h' => ?_) (fun _ _ _ x => x) _ _ h
    cases f with
    | next => exact ih p' s' h'
    | _ => exact absurd h'.1 (by simp)
theorem wp_ev {w : World} {n : Nat} {pos p1 : Pos} {l : List Stmt} {s s' : SharedT} (h : evF w n pos p1 l s = some (.ok .next, s')) {Q : Flow → Pos → Shared → Prop} {E : Value → Pos → Shared → Prop}
    (hQ : ∀ p2, Q .next p2 s'.abs) : Sem.wp (model pw w) (Γ0 pos) (execs l env0) Q E p1 s.abs := by
  have h1 := ev_wp (K := fun f => f) h
  rw [← qexecs_eq, ← qden_eq] at h1
  refine Sem.wp_mono _ _ _ (fun f p2 x q => ?_) (fun _ _ _ x => x.elim) _ _ h1
  obtain ⟨rfl, rfl⟩ := q
  exact hQ p2
/-- a list of keys rises -/
noncomputable def rises : List Int → Bool
  | [] => true
  | [_] => true
  | a :: b :: r => decide (a < b) && rises (b :: r)
theorem rises_lt : ∀ {a : Int} {l : List Int}, rises (a :: l) = true → ∀ b ∈ l, a < b
  | _, [], _, _, hb => nomatch hb
  | a, c :: r, h, b, hb => by
    simp only [rises, Bool.and_eq_true, decide_eq_true_eq] at h
    rcases List.mem_cons.mp hb with rfl | hb
    · exact h.1
    · exact Int.lt_trans h.1 (rises_lt h.2 b hb)
theorem nodup_of_rises : ∀ {l : List Int}, rises l = true → l.Nodup
  | [], _ => List.nodup_nil
  | a :: l, h => by
    rw [List.nodup_cons]
    refine ⟨fun hm => absurd (rises_lt h a hm) (Int.lt_irrefl _), ?_⟩
    cases l with
    | nil => exact List.nodup_nil
    | cons b r => simp only [rises, Bool.and_eq_true] at h; exact nodup_of_rises h.2
noncomputable def dKeys : List Stmt → List (Option Expr)
  | [.Assign _ (.Dict ks _ _) _] => ks
  | _ => []
noncomputable def dVals : List Stmt → List Expr
  | [.Assign _ (.Dict _ vs _) _] => vs
  | _ => []
noncomputable def dPos : List Stmt → Pos
  | [.Assign _ (.Dict _ _ p) _] => p
  | _ => default
noncomputable def dSpos : List Stmt → Pos
  | [.Assign _ _ p] => p
  | _ => default
noncomputable def isKey : Option Expr → Bool
  | some (.Constant (.int _) _ _) => true
  | _ => false
noncomputable def isText : Expr → Bool
  | .Constant (.str _) _ _ => true
  | _ => false
noncomputable def constPairs : List (Option Expr) → List Expr → Bool
  | [], vs => vs.isEmpty
  | k :: ks, vs => match vs with
    | [] => false
    | v :: vs => isKey k && (isText v && constPairs ks vs)
theorem key_of {k : Option Expr} (h : isKey k = true) : ∃ i a b, k = some (.Constant (.int i) a b) := by
  cases k with
  | none => exact (Bool.false_ne_true h).elim
  | some e => cases e with
    | Constant c a b => cases c with
      | int i => exact ⟨i, a, b, rfl⟩
      | _ => exact (Bool.false_ne_true h).elim
    | _ => exact (Bool.false_ne_true h).elim
theorem text_of {v : Expr} (h : isText v = true) : ∃ i a b, v = .Constant (.str i) a b := by
  cases v with
  | Constant c a b => cases c with
    | str i => exact ⟨i, a, b, rfl⟩
    | _ => exact (Bool.false_ne_true h).elim
  | _ => exact (Bool.false_ne_true h).elim
theorem gives_consts {prog : Program} {w : World} {env : Env} {pos : Pos} : ∀ (ks : List (Option Expr)) (vs : List Expr), constPairs ks vs = true → GiveAll prog w (pairTrees ks vs env pos) ((ks.zip vs).map fun p => (constKey p.1, constStr p.2)) := by
  intro ks
  induction ks with
  | nil => intro vs h; cases vs with
    | nil => exact .nil
    | cons v vs => exact nomatch h
  | cons k ks ih =>
    intro vs h
    cases vs with
    | nil => exact nomatch h
    | cons v vs =>
      have h0 : (isKey k && (isText v && constPairs ks vs)) = true := h
      obtain ⟨h1, h2⟩ := Bool.and_eq_true_iff.mp h0
      obtain ⟨h2, h3⟩ := Bool.and_eq_true_iff.mp h2
      obtain ⟨i, a, b, rfl⟩ := key_of h1
      obtain ⟨x, c, d, rfl⟩ := text_of h2
      refine .cons ⟨fun A E s Q h => wpAny_Constant_int (i := i) (k := a) (pos := b) (env := env) h, fun A E s Q h => ?_⟩ (ih _ h3)
      exact wpAny_bind (Calls.Constant_str (wpAny_bind (wpAny_standAt (wpAny_pure h))))
theorem b10_shape : b10 = [.Assign [.Name "b3_exceptions" ⟨66, 0, 66, 13⟩] (.Dict (dKeys b10) (dVals b10) (dPos b10)) (dSpos b10)] := by kernel_rfl

theorem b10_const : constPairs (dKeys b10) (dVals b10) = true := by kernel_rfl
theorem b10_some : ((dKeys b10).all (·.isSome)) = true := by kernel_rfl
theorem b10_len : (dKeys b10).length = (dVals b10).length := by kernel_rfl
/-- the pairs of the table -/
noncomputable def b3P : List (Int × Str) := ((dKeys b10).zip (dVals b10)).map fun p => (constKey p.1, constStr p.2)
theorem b3P_len : b3P.length = 17 * 38 + 4 := by kernel_rfl
theorem b3P_rises : rises (b3P.map (·.1)) = true := by kernel_rfl
/-- what stands behind the display: 39 objects more -/
noncomputable def tailX (h : Heap) (a : Nat) : Obj := (h.objs[a]?).getD default
noncomputable abbrev topA (pos : Pos) : Around := { handled := (Γ0 pos).handled, depth := frameCount (Γ0 pos).below + (Γ0 pos).code.weight, frames := none, guards := none, units := (Γ0 pos).units }
theorem in_topA (pos : Pos) : (Γ0 pos).In (topA pos) := ⟨rfl, Nat.le_refl _, fun _ e => (nomatch e), fun _ e => (nomatch e), Nat.le_refl _⟩

theorem sp10_get (w : World) (os : OsState) (a : Nat) (h : a < 127) : (Sp10 w os).abs.heap.get? a = alive (((Tp10 w.params).get a).getD default) := by
  rw [Sp10_eq]
  show (absHeap (Tp10 w.params) 127 _).get? a = _
  unfold Heap.get?
  rw [absHeap_at, if_pos h]
  show (match some (((Tp10 w.params).get a).getD default) with | some ⟨_, _, .freed, _⟩ => none | o => o) = _
  generalize ((Tp10 w.params).get a).getD default = o
  refine veil fun vG hG => ?_; obtain ⟨c, d, dt, sl⟩ := o; refine hG ?_; clear hG vG
  cases dt <;> rfl

theorem low_objs (X : Nat → Obj) (P : Params) : (List.range 127).map (fun i => alive (((Tp10 P).get i).getD default)) = (List.range 127).map (fun i => some (((Td X P).get i).getD default)) := by kernel_rfl
theorem high_objs (X : Nat → Obj) (P : Params) : (List.range' 127 39).map (fun i => (Td X P).get i) = (List.range' 127 39).map (fun i => some (X i)) := by kernel_rfl
theorem map_eq_at {α β : Type} {f g : α → β} : ∀ {l : List α}, l.map f = l.map g → ∀ x ∈ l, f x = g x
  | _ :: _, h, x, hx => by
    simp only [List.map_cons, List.cons.injEq] at h
    rcases List.mem_cons.mp hx with rfl | hx
    · exact h.1
    · exact map_eq_at h.2 x hx
theorem behind_display {w : World} {os : OsState} {h' : Heap} (hk : ∀ b o, (Sp10 w os).abs.heap.get? b = some o → h'.get? b = some o) (hz : h'.objs.size = 166) (hl : h'.life = (boot_heap w.params).life) :
    h' = absHeap (Td (tailX h') w.params) 166 (boot_heap w.params).life := by
  refine heap_eq hz hl fun i hi => ?_
  by_cases q : i < 127
  · have e := map_eq_at (low_objs (tailX h') w.params) i (List.mem_range.mpr q)
    have e' := sp10_get w os i q
    rw [e] at e'
    exact objs_of_get (hk _ _ e')
  · have e := map_eq_at (high_objs (tailX h') w.params) i (List.mem_range'_1.mpr (by omega))
    rw [e]
    show _ = some (tailX h' i)
    unfold tailX
    rw [Array.getElem?_eq_getElem (by omega)]
    rfl

/-- the objects behind the whole top: they depend on what the display left -/
noncomputable def DictAt (w : World) (h : Heap) : Prop := ∃ kvs, h.DictOf (intKind pw w) 127 kvs ∧ Texts kvs b3P
theorem dict31 {X : Nat → Obj} {w : World} {os : OsState} {h' : Heap} {kvs : List (Int × Value)} (hd : h'.DictOf (intKind pw w) 127 kvs) (hX : X = tailX h') (ht : Texts kvs b3P) : DictAt w (Sp31 X w os).abs.heap := by
  refine veil fun vG hG => ?_; obtain ⟨o, es, ep, ho, hc, hdat, r⟩ := hd; refine hG ?_; clear hG vG
  refine ⟨kvs, ⟨o, es, ep, ?_, hc, hdat, r⟩, ht⟩
  have e : X 127 = o := by rw [hX]; unfold tailX; rw [objs_of_get ho]; rfl
  rw [Sp31_eq]
  show (absHeap (Tp31 X w.params) 284 _).get? 127 = some o
  rw [abs_get (o := X 127) (by decide) (by kernel_rfl), e]
  refine veil fun vG hG => ?_; obtain ⟨c, d, dt, sl⟩ := o; refine hG ?_; clear hG vG
  dsimp only at hdat
  subst hdat
  rfl

/-- what the whole body of the text leaves -/
noncomputable def TopPost (w : World) (os : OsState) (s' : Shared) : Prop := ∃ X, s' = (Sp31 X w os).abs ∧ DictAt w s'.heap

/-- a list of statements leads from one state to the next -/
noncomputable def Leads (M : Model) (Γ : Ctx) (env : Env) (l : List Stmt) (s s' : Shared) : Prop := ∀ (Q : Flow → Pos → Shared → Prop) (E : Value → Pos → Shared → Prop) (p1 : Pos), (∀ p2, Q .next p2 s') → Sem.wp M Γ (execs l env) Q E p1 s
theorem leads_ev {w : World} {n : Nat} {pos : Pos} {l : List Stmt} {s s' : SharedT} (h : ∀ p1, evF w n pos p1 l s = some (.ok .next, s')) : Leads (model pw w) (Γ0 pos) env0 l s.abs s'.abs :=
  fun _ _ p1 hQ => wp_ev (h p1) hQ
theorem leads_then {M : Model} {Γ : Ctx} {env : Env} {l rest : List Stmt} {s s' : Shared} {Q : Flow → Pos → Shared → Prop} {E : Value → Pos → Shared → Prop} {p1 : Pos} (h : Leads M Γ env l s s')
    (hr : ∀ p2, Sem.wp M Γ (execs rest env) Q E p2 s') : Sem.wp M Γ (execs (l ++ rest) env) Q E p1 s :=
  wp_execs_append l p1 s (h _ _ p1 fun p2 => ⟨rfl, hr p2⟩)
theorem leads3 {M : Model} {Γ : Ctx} {env : Env} {l0 l8 l9 rest all : List Stmt} {s s8 s9 s10 : Shared} {Q : Flow → Pos → Shared → Prop} {E : Value → Pos → Shared → Prop} {p1 : Pos} (e : all = l0 ++ (l8 ++ (l9 ++ rest))) (h0 : Leads M Γ env l0 s s8) (h8 : Leads M Γ env l8 s8 s9) (h9 : Leads M Γ env l9 s9 s10)
    (hr : ∀ p2, Sem.wp M Γ (execs rest env) Q E p2 s10) : Sem.wp M Γ (execs all env) Q E p1 s := by
  subst e
  exact leads_then h0 fun _ => leads_then h8 fun _ => leads_then h9 hr
theorem rest_wp (w : World) (os : OsState) (pos p4 : Pos) : Sem.wp (model pw w) (Γ0 pos) (execs (b10 ++ b11) env0) (fun f _ s' => f = .next ∧ TopPost w os s') (fun _ _ _ => False) p4 (Sp10 w os).abs := by
  rw [b10_shape, List.singleton_append, execs_cons, Sem.wp_bind']
  rw [exec_Assign_Name env0 "b3_exceptions" ⟨66, 0, 66, 13⟩ _ (dSpos b10) (by kernel_rfl)]
  simp only [Sem.wp_bind', Sem.wp_cmd_standAt, Sem.wp_bindName, Sem.wp_pure']
  have hE : wpAny (model pw w) (topA pos) (eval (.Dict (dKeys b10) (dVals b10) (dPos b10)) env0)
      (fun v s' => v = .ref 127 ∧ ∃ X, s' = (Sd X w os).abs ∧ ∃ h' kvs, h'.DictOf (intKind pw w) 127 kvs ∧ X = tailX h' ∧ Texts kvs b3P) (fun _ _ => False) (Sp10 w os).abs := by
    rw [arm_eval_Dict, zip_pairTrees _ _ _ _ b10_some b10_len]
    refine wpAny_bind (wpAny_standAt ?_)
    have hz : (Sp10 w os).abs.heap.objs.size = 127 := by rw [Sp10_eq]; exact absHeap_size _ _ _
    refine display_consts (ds := b3P) (m := 38) (r := 4) (gives_consts _ _ b10_const) (nodup_of_rises b3P_rises) b3P_len (by decide) (by decide) (by rw [b3P_len]; decide) (by rw [hz]; decide) fun h' kvs a b c d e => ?_
    rw [hz] at a d ⊢
    refine ⟨rfl, tailX h', ?_, h', kvs, a, rfl, b⟩
    have e' : h'.life = (boot_heap w.params).life := by rw [e, Sp10_eq]; rfl
    have q := behind_display c d e'
    have e2 : (387 : Nat) + 3 * b3P.length = 2337 := by rw [b3P_len]
    rw [Sp10_eq, Sd_eq]
    show Shared.mk h' #[] boot_drawn (387 + 3 * b3P.length) os = Shared.mk (absHeap (Td (tailX h') w.params) 166 (boot_heap w.params).life) #[] boot_drawn 2337 os
    rw [e2, ← q]
  refine Sem.wp_mono _ _ _ (fun v p5 s' h5 => ?_) (fun _ _ _ x => x) _ _ (hE (Γ0 pos) _ (in_topA pos))
  refine veil fun vG hG => ?_; obtain ⟨rfl, X, rfl, h', kvs, hd, hX, ht⟩ := h5; refine hG ?_; clear hG vG
  have h11 := ev_wp (K := fun f => f) (piece11 X pos ⟨66, 0, 66, 13⟩ os w)
  rw [← qexecs_eq, ← qstore_eq, ← qden_eq, Sem.wp_bind] at h11
  refine Sem.wp_mono _ _ _ (fun _ p6 s6 h6 => Sem.wp_mono _ _ _ (fun f p7 s7 h7 => ?_) (fun _ _ _ x => x) _ _ h6) (fun _ _ _ x => x) _ _ h11
  obtain ⟨rfl, rfl⟩ := h7
  exact ⟨rfl, X, rfl, dict31 hd hX ht⟩
theorem body_wp (w : World) (os : OsState) (pos p1 : Pos) : Sem.wp (model pw w) (Γ0 pos) (execs pw.main.body env0) (fun f _ s' => f = .next ∧ TopPost w os s') (fun _ _ _ => False) p1 (Sb w os).abs :=
  leads3 (s8 := (Sp8 w os).abs) (s9 := (Sp9 w os).abs) (s10 := (Sp10 w os).abs) body_split (leads_ev fun p1 => piece0 pos p1 os w) (leads_ev fun p1 => piece8 pos p1 os w) (leads_ev fun p1 => piece9 pos p1 os w) fun p2 => rest_wp w os pos p2
end
section
set_option maxHeartbeats 0
theorem behind_eq : behindTheImports pw = pw.main.body := by kernel_rfl
noncomputable def envW (code : Value) (frame : Addr) : Env := { scope := pw.main.scope, locals := mainNs, globals := mainNs, cells := [], code := code, frame := some frame }
theorem stub_cur : (topStub pw).cur = ((moduleCode pw.main).bind fun code => (newBodyFrame code mainNs mainNs).bind fun frame => (run (.body (behindTheImports pw) (envW code frame))).bind fun _ => ret .none) := rfl
theorem env_eq : envW (.ref 13) 14 = env0 := rfl
/-- the start, then what stands behind it -/
theorem start_wp {w : World} {os : OsState} {p1 : Pos} {k : Value → Addr → Sem Fin} {Q : Fin → Pos → Shared → Prop} {E : Value → Pos → Shared → Prop} (h : ∀ p2, Sem.wp (model pw w) Γs (k (.ref 13) 14) Q E p2 (Sb w os).abs) :
    Sem.wp (model pw w) Γs ((moduleCode pw.main).bind fun code => (newBodyFrame code mainNs mainNs).bind fun frame => k code frame) Q E p1 (S0 w os).abs := by
  have h1 := ev_wp (K := fun x : Value × Addr => if x.2 = 14 then .ret x.1 else .next) (pieceS p1 os w)
  rw [← qcode_eq, ← qframe_eq, ← qden_eq, Sem.wp_bind] at h1
  rw [Sem.wp_bind]
  refine Sem.wp_mono _ _ _ (fun c p2 s2 h2 => ?_) (fun _ _ _ x => x.elim) _ _ h1
  rw [Sem.wp_bind] at h2 ⊢
  refine Sem.wp_mono _ _ _ (fun a p3 s3 h3 => ?_) (fun _ _ _ x => x.elim) _ _ h2
  rw [Sem.wp_pure] at h3
  obtain ⟨h3, rfl⟩ := h3
  dsimp only at h3
  by_cases q : a = 14
  · subst q
    rw [if_pos rfl] at h3
    injection h3 with h3
    subst h3
    exact h p3
  · rw [if_neg q] at h3; cases h3
theorem hasAnns_no : hasAnns pw.main.body = false := by kernel_rfl
theorem docOf_no : docOf pw.main.body = none := by kernel_rfl
theorem body_den (w : World) (b : List Stmt) (env : Env) (h1 : hasAnns b = false) (h2 : docOf b = none) : (model pw w).den (.body b env) = (((execs b env).onRaise (leaving env)).bind fun f => (Sem.pure (Fin.done f) : Sem Fin)) := by
  show (blockStart b env).bind (fun _ => ((execs b env).onRaise (leaving env)).bind fun f => (Sem.pure (Fin.done f) : Sem Fin)) = _
  have hb : blockStart b env = pure () := by
    unfold blockStart
    rw [h1, h2]
    cases interactive env <;> rfl
  rw [hb]
  rfl
noncomputable def TopEnd (w : World) (os : OsState) (r : Result) (s' : Shared) : Prop := r = .ok (.ret .none) ∧ TopPost w os s'
theorem top_wp (w : World) (os : OsState) (p1 : Pos) : Sem.wp (model pw w) Γs (topStub pw).cur (Sem.finPost (model pw w) Γs (TopEnd w os)) (fun e _ s' => TopEnd w os (.error e) s') p1 (S0 w os).abs := by
  rw [stub_cur]
  refine start_wp (k := fun code frame => (run (.body (behindTheImports pw) (envW code frame))).bind fun _ => ret .none) fun p2 => ?_
  rw [Sem.wp_bind, behind_eq, env_eq]
  unfold run
  rw [Sem.wp_call, wpCode_iff_wp]
  show Sem.wp (model pw w) (Γ0 p2) ((model pw w).den (.body pw.main.body env0)) _ _ p2 _
  rw [body_den w _ _ hasAnns_no docOf_no, Sem.wp_bind, Sem.wp_onRaise]
  refine Sem.wp_mono _ _ _ (fun f p3 s3 h3 => ?_) (fun _ _ _ x => x.elim) _ _ (body_wp w os p2 p2)
  obtain ⟨rfl, h3⟩ := h3
  exact ⟨rfl, h3⟩
/-- the top's run, as the scheduler's -/
theorem top_runs (w : World) (os : OsState) : ∃ X, DictAt w (Sp31 X w os).abs.heap ∧ ∃ n t, schedN (denote table) pw w n (.single (S0 w os).abs (topStub pw)) = .running (.single (Sp31 X w os).abs t) ∧ through t = true := by
  have h := top_wp w os default
  have hΓ : Γs = Ctx.of (.builtin "claim.caller" {}) [] := rfl
  rw [hΓ] at h
  obtain ⟨n, r, s', c', p', hn, rfl, X, rfl, hd⟩ := wp_runN h
  refine ⟨X, hd, ?_⟩
  have hz : (S0 w os).abs.asleep := by rw [S0_eq]; exact ⟨rfl, rfl⟩
  obtain ⟨s'', t'', a, b, c⟩ := sched_of_runNI n _ _ _ _ _ (topStub pw) hn rfl rfl hz
  have hg : (Sp31 X w os).abs.gens = #[] := by rw [Sp31_eq]; rfl
  have e := Shared.eq_of_forget_eq b hg
  rw [e] at a
  refine ⟨n, t'', a, ?_⟩
  have c1 : t''.cur = leafOf (.ok (.ret .none)) := congrArg Thread.cur c
  have c2 : forgetAll t''.stack = [] := congrArg Thread.stack c
  have c3 : t''.stack = [] := List.map_eq_nil_iff.mp c2
  unfold through
  rw [c1, c3]
  rfl
end
section
set_option maxHeartbeats 0
/-- the view: the law alone stands in it -/
noncomputable def q : Program := { PySem.Challenge.pw_tc0086_01 with main := { PySem.Challenge.pw_tc0086_01.main with body := [.FunctionDef "law" params30 body30 [] none [] scope30 none "law" ⟨211, 0, 252, 15⟩] } }
noncomputable def loose : List Str := ["_wall", "Whitespace", "ifloordiv", "imul", "isub", "b1_set", "in_table_b1", "b3_exceptions", "map_table_b3", "_raise_serialization_error", "_escape_cdata", "_escape_attrib", "_escape_attrib_html", "_escape_cdata_c14n", "_escape_attrib_c14n",
  "_law_heaps", "_law_order", "_law_parts", "_law_text", "_law_typed", "_law_written", "_law_unseen", "_law_beside", "_law_column", "_law_frieze"]
theorem imported_none : importedModules pw.main.body = [] := by kernel_rfl
theorem look_statics (X : Nat → Obj) (w : World) (os : OsState) : staticsOk [] (S0 w os).abs.heap (Sp31 X w os).abs.heap = true := by kernel_rfl
theorem look_names (X : Nat → Obj) (w : World) (os : OsState) : namesBound pw (Sp31 X w os).abs.heap = true := by kernel_rfl
theorem look_laid (X : Nat → Obj) (w : World) (os : OsState) : laidKept (S0 w os).abs.heap (Sp31 X w os).abs.heap = true := by kernel_rfl
theorem chains : chainsOk q = true := by kernel_rfl
noncomputable abbrev qseen := PySem.W.Fast.tw4187177175401517315
theorem qseen_eq : @openSeen = @qseen := PySem.W.Fast.te4187177175401517315
theorem look_open (X : Nat → Obj) (w : World) (os : OsState) : qseen q loose [] (fun s => xlAt q [] s && recOk [] s) true (Sp31 X w os).abs = openGood q loose := by kernel_rfl

theorem s0_eq (w : World) (os : OsState) : (S0 w os).abs = ⟨boot_heap w.params, #[], boot_drawn, boot_toks, os⟩ := by
  rw [S0_eq]
  have : absHeap (T0 w.params) 11 (boot_heap w.params).life = boot_heap w.params := by kernel_rfl
  show Shared.mk (absHeap (T0 w.params) 11 (boot_heap w.params).life) #[] boot_drawn boot_toks os = _
  rw [this]
theorem old_objs (X : Nat → Obj) (P : Params) : ([0, 1, 4, 5, 7, 8, 9, 10] : List Nat).map (fun i => (Tp31 X P).get i) = ([0, 1, 4, 5, 7, 8, 9, 10] : List Nat).map (fun i => (T0 P).get i) := by kernel_rfl

theorem few_all : ∀ b ∈ List.range 11, b ≠ 2 → b ≠ 3 → b ≠ 6 → b = 0 ∨ b = 1 ∨ b = 4 ∨ b = 5 ∨ b = 7 ∨ b = 8 ∨ b = 9 ∨ b = 10 := by decide +kernel
theorem few (b : Nat) (lt : b < 11) (h2 : b ≠ 2) (h3 : b ≠ 3) (h6 : b ≠ 6) : b = 0 ∨ b = 1 ∨ b = 4 ∨ b = 5 ∨ b = 7 ∨ b = 8 ∨ b = 9 ∨ b = 10 := few_all b (List.mem_range.mpr lt) h2 h3 h6
theorem own3 (h : Heap) : theTopsOwn h 3 := .inl rfl
theorem own2 (h : Heap) : theTopsOwn h 2 := .inr (.inl rfl)
theorem own6 (w : World) (os : OsState) : theTopsOwn (S0 w os).abs.heap 6 := .inr (.inr (by
  have hg : (S0 w os).abs.heap.isNs mainGlobals = true := by kernel_rfl
  have e : (S0 w os).abs.heap.nsMap mainGlobals "__annotations__" = some (.ref 6) := by kernel_rfl
  exact (Pin.globalOf_eq hg _).trans e))
theorem old_keep (X : Nat → Obj) (w : World) (os : OsState) : ∀ b o, (S0 w os).abs.heap.get? b = some o → ¬ theTopsOwn (S0 w os).abs.heap b → (Sp31 X w os).abs.heap.get? b = some o := by
  intro b o hb hn
  have lt : b < 11 := by
    have := Heap.lt_size hb
    have e : (S0 w os).abs.heap.objs.size = 11 := by rw [S0_eq]; exact absHeap_size _ _ _
    rwa [e] at this
  have hm : b ∈ ([0, 1, 4, 5, 7, 8, 9, 10] : List Nat) := by
    have h3 : b ≠ 3 := fun e => hn (e ▸ own3 _)
    have h2 : b ≠ 2 := fun e => hn (e ▸ own2 _)
    have h6 : b ≠ 6 := fun e => hn (e ▸ own6 w os)
    simpa using few b lt h2 h3 h6
  have e := map_eq_at (old_objs X w.params) b hm
  rw [S0_eq] at hb
  rw [Sp31_eq]
  have ob := objs_of_get hb
  have hb' : (absHeap (T0 w.params) 11 (boot_heap w.params).life).get? b = some o := hb
  show (absHeap (Tp31 X w.params) 284 (boot_heap w.params).life).get? b = some o
  unfold Heap.get? at hb' ⊢
  rw [absHeap_at, if_pos lt] at hb'
  rw [absHeap_at, if_pos (Nat.lt_trans lt (by decide)), e]
  exact hb'

noncomputable abbrev XPq : (Str → Option Value) → Heap → Prop := XL q []
theorem chain_ground (X : Nat → Obj) (w : World) (os : OsState) :
    Ground q loose [] XPq w (Sp31 X w os).abs ((Sp31 X w os).abs.heap.nsMap mainGlobals) ((Sp31 X w os).abs.heap.nsMap builtinsNs) (Sp31 X w os).abs.heap ∧ (if true then (Sp31 X w os).abs.gens.size == 0 else !leftWithCleanup (Sp31 X w os).abs.gens) = true ∧ (Sp31 X w os).abs.heap.isNs mainGlobals = true ∧
      staticsAccountedI (Sp31 X w os).abs.heap [] ∧ keysAreStrs (Sp31 X w os).abs.heap mainNs ∧ builtinsAsBooted (Sp31 X w os).abs.heap ∧ builtinsGlobalAsBooted (Sp31 X w os).abs.heap :=
  ground_of_open (q := q) (loose := loose) (mods := []) (Xt := fun s => xlAt q [] s && recOk [] s) (XP := XPq) (g0 := true) (fun s e => xl_of s (Bool.and_eq_true_iff.mp e).1) chains (by rw [qseen_eq]; exact look_open X w os)

theorem top_ran (X : Nat → Obj) (w : World) (os : OsState) (h : ∃ n t, schedN (denote table) pw w n (.single (S0 w os).abs (topStub pw)) = .running (.single (Sp31 X w os).abs t) ∧ through t = true) : TopRan pw w (S0 w os).abs (Sp31 X w os).abs := by
  obtain ⟨G, g0, g1, g2, g3, g4, g5⟩ := chain_ground X w os
  refine ⟨h, ?_, ?_, old_keep X w os, ?_, ?_, g3, g4, g5, ?_, names_of_bound (look_names X w os), laid_of_kept (look_laid X w os)⟩
  · rw [S0_eq, Sp31_eq]; rfl
  · rw [S0_eq, Sp31_eq]; rfl
  · rw [imported_none]; exact g2
  · rw [imported_none]; exact statics_of_ok (look_statics X w os)
  · rw [Sp31_eq]; intro g hg; exact absurd hg (by simp [SharedT.abs])

/-- the opening: what stands before the text's top runs -/
theorem opening_ends (w : World) : ∃ s, AfterRun (opening pw) w s := by
  obtain ⟨s₀, h1, -⟩ := Option.map_eq_some_iff.mp (boot_open (p := pw) (N := 600) (by kernel_rfl) (by kernel_rfl) (fun s => by kernel_rfl) w)
  obtain ⟨s, h4, h5⟩ := Option.bind_eq_some_iff.mp h1
  rw [← table_eq_tree] at h4
  exact ⟨s, AfterImport.of_importEnds h4⟩
theorem opening_is (w : World) (s : Shared) (hs : AfterRun (opening pw) w s) : ∃ os, fenceModules? pw s = some (S0 w os).abs := by
  obtain ⟨s₀, h1, h2⟩ := Option.map_eq_some_iff.mp (boot_open (p := pw) (N := 600) (by kernel_rfl) (by kernel_rfl) (fun s => by kernel_rfl) w)
  obtain ⟨s', h4, h5⟩ := Option.bind_eq_some_iff.mp h1
  rw [← table_eq_tree] at h4
  obtain rfl : s' = s := AfterImport.unique (AfterImport.of_importEnds h4) hs
  refine ⟨s₀.os, ?_⟩
  rw [h5, s0_eq]
  obtain ⟨heap, gens, drawn, toks, os⟩ := s₀
  simp only [Prod.mk.injEq] at h2
  obtain ⟨rfl, rfl, rfl, rfl⟩ := h2
  rfl
end
section
set_option maxHeartbeats 0
/-- what is known of the heap behind the top -/
noncomputable def Known (w : World) (h : Heap) : Prop := (K w.params).In h ∧ DictAt w h
theorem dictOf_keeps {prog : Program} {w : World} {h h' : Heap} {d : Addr} {kvs : List (Int × Value)} (x : h.DictOf (intKind prog w) d kvs) (k : ∀ b o, h.get? b = some o → h'.get? b = some o) : h'.DictOf (intKind prog w) d kvs :=
  let ⟨o, es, ep, ho, r⟩ := x; ⟨o, es, ep, k _ _ ho, r⟩
theorem Known.keeps {w : World} {h h' : Heap} (x : Known w h) (k : ∀ b o, h.get? b = some o → h'.get? b = some o) : Known w h' :=
  ⟨Frag.In.keeps x.1 k, let ⟨kvs, a, b⟩ := x.2; ⟨kvs, dictOf_keeps a k, b⟩⟩
noncomputable def Kas' : List Nat := Kas.filter (· != 127)
theorem k_as (P : Params) : Kas' = (K P).map (·.1) := by kernel_rfl
theorem k_objs (X : Nat → Obj) (w : World) (os : OsState) : Kas'.map (Sp31 X w os).abs.heap.get? = (K w.params).map fun p => some p.2 := by kernel_rfl
theorem known31 (X : Nat → Obj) (w : World) (os : OsState) (hd : DictAt w (Sp31 X w os).abs.heap) : Known w (Sp31 X w os).abs.heap := ⟨Frag.in_of (k_as _) (k_objs X w os), hd⟩

noncomputable abbrev rw0 : OpenLaw := PySem.Challenge.rw_tc0086_01
noncomputable abbrev dLaw : DefRec := ⟨"law", params30, body30, scope30, ⟨211, 0, 252, 15⟩⟩
theorem law_def : defOf q rw0.name = some (dLaw, []) := by kernel_rfl
theorem law_the : rw0.row.prog.theDef rw0.name = some (dLaw.params, dLaw.body, dLaw.scope) := by kernel_rfl
theorem law_kw : kwWritten? dLaw.params.kwonlyargs dLaw.params.kw_defaults = some [] := by kernel_rfl
theorem law_opens : opensWell rw0.row.prog = true := by kernel_rfl
theorem law_frees : (frees rw0.row.toRowW && rw0.row.within.isEmpty) = true := by kernel_rfl
theorem law_bare : rw0.row.prog.bare := ⟨rfl, rfl, rfl, rfl, rfl, by kernel_rfl⟩
theorem law_promised : rw0.row.toRowW.promised := ⟨[.list []], by kernel_rfl, by kernel_rfl⟩

/-- the walk that is asked: a call of the law upon a list of ints, from the heap behind the top -/
noncomputable def LawWalk : Prop := ∀ (w : World) (s₀ s₁ : Shared) (mg mb : Str → Option Value), Ground q loose [] XPq w s₀ mg mb s₁.heap → Known w s₁.heap → ∀ (a : Addr) (o : Obj) (pm cd doc dV kV : Value), s₁.heap.get? a = some o →
    o.data = .func { Calls.docDef dLaw.name dLaw.params dLaw.body dLaw.scope pm cd doc with defaults := dV, kwdefaults := kV } → s₁.heap.CodeRec cd dLaw.name → Dflts mg s₁.heap dLaw.params [] dV kV → mg dLaw.name = some (.ref a) → s₁.gens = #[] →
    ∀ (args : List WData) (vals : List Value) (as : List Addr), rw0.row.toRowW.claim.pre args = true → WData.layableAll args = true → ReadsAllW [] (classAt s₀.heap) s₁.heap vals args as → WellAll w.params s₁.heap vals args → (∀ a ∈ as, (a == sysModules) = false) →
      wpAny (model rw0.row.toRowW.prog w) callerA (PySem.call (.ref a) vals) (fun v s' => GoodWG rw0.row.toRowW.claim (classAt s₀.heap) (ExcName.means s₀.heap) args s₁ (.ok (.ret v)) s')
        (fun e s' => GoodWG rw0.row.toRowW.claim (classAt s₀.heap) (ExcName.means s₀.heap) args s₁ (.error e) s') s₁

theorem ground_keeps {w : World} {s₀ : Shared} {mg mb : Str → Option Value} {h h' : Heap} (G : Ground q loose [] XPq w s₀ mg mb h) (k : ∀ b o, h.get? b = some o → h'.get? b = some o) : Ground q loose [] XPq w s₀ mg mb h' :=
  G.keeps (fun mg h h' => XL.keeps mg h h') k

theorem row_holds (said : rw0.row.wellSaid = true) (walk : LawWalk) : rw0.row.Holds := by
  refine ⟨said, law_promised, ⟨law_bare, law_opens, rfl⟩, law_promised.witness, fun w => ⟨opening_ends w, fun s' hs' => ?_⟩⟩
  obtain ⟨os, hf⟩ := opening_is w s' hs'
  obtain ⟨X, hd, hrun⟩ := top_runs w os
  have hT := top_ran X w os hrun
  have hKn := known31 X w os hd
  obtain ⟨G, -, hg, -⟩ := chain_ground X w os
  have hg0 : (S0 w os).abs.gens = #[] := by rw [S0_eq]; rfl
  have hg1 : (Sp31 X w os).abs.gens = #[] := by rw [Sp31_eq]; rfl
  have hz : (Sp31 X w os).abs.asleep := by rw [Sp31_eq]; exact ⟨rfl, rfl⟩
  generalize (Sp31 X w os).abs = t₁ at hT hKn G hg hg1 hz
  generalize (S0 w os).abs = t₀ at hT hf hg0
  refine ⟨t₀, hf, hg0, t₁, hT, fun n hn => ?_, fun x hx => (nomatch hx), fun x hx => (nomatch hx), ?_⟩
  · have e : n = rw0.name := by
      have : n ∈ [rw0.name] := hn
      simpa using this
    subst e
    exact pinned_of_view hg G law_def law_the law_kw
  · refine ClaimW.callFrom_of_specG (c := rw0.row.toRowW.claim) hz hg1 fun args hpre hlay ord hord => ?_
    obtain ⟨⟨vs, s₁⟩, hlaid⟩ := Option.isSome_iff_exists.mp (layAllW_isSome (R := []) (P := w.params) (ord := ord) G.has args rw0.row.toRowW.args t₁ (pre_splitW hpre).1)
    have keeps := layAllW_keeps _ _ _ hlaid
    have hal := layAllW_rest _ _ _ hlaid
    obtain ⟨as, hrd, hin, hold⟩ := reads_layAllW hord _ _ _ hlaid hlay s₁.heap (fun _ _ e => e)
    have L : Laid [] w t₁ s₁ args vs as := ⟨⟨ord, hord, hlaid⟩, hrd, hin, hold, keeps, hal.1.trans hg1, hal.2.2.1⟩
    have G₁ := ground_keeps G keeps
    obtain ⟨a, o, pm, cd, doc, dV, kV, h1, h2, h3, h4, h5⟩ := G₁.fn law_def
    obtain ⟨hsame, hu, ha, hap, hm⟩ := frees_parts (Bool.and_eq_true_iff.mp law_frees).1
    have hi := ident_freeW (r := rw0.row.toRowW) hu ha hap
    have hwi : rw0.row.toRowW.claim.within = [] := rfl
    have hw : (!rw0.row.writes || rw0.row.toRowW.records.isEmpty) = true := by kernel_rfl
    have main := walk w t₁ s₁ _ _ G₁ (hKn.keeps keeps) a o pm cd doc dV kV h2 h3 h4 h5 h1 L.gens args vs as hpre hlay L.reads L.well (L.low G.low)
    refine ⟨vs, s₁, hlaid, ?_⟩
    refine wpAny_bind (wpAny_nsGet G₁.T.g ?_)
    have h1' : (t₁.heap.nsMap mainGlobals) rw0.row.name = some (.ref a) := h1
    rw [h1']
    refine wpAny_bind (wpAny_mono main (fun v s' g => wpAny_pure ⟨_, rfl, ?_⟩) fun e s' g => ?_)
    · have z := g.laid (c := rw0.row.toRowW.claim) hsame hwi hi L
      exact ⟨z.1, z.2.1, z.2.2, fun q' => ⟨namesKept_of hT hg rw0.row.keeps keeps g.2.1.old, noTable hw q'⟩⟩
    · have z := g.laid (c := rw0.row.toRowW.claim) hsame hwi hi L
      exact ⟨z.1, z.2.1, z.2.2, fun q' => ⟨namesKept_of hT hg rw0.row.keeps keeps g.2.1.old, noTable hw q'⟩⟩
noncomputable abbrev said_p : Program := PySem.Challenge.pw_tc0086_01
noncomputable abbrev said_l : OpenLaw := PySem.Challenge.rw_tc0086_01
theorem said_res : namesResolve said_p = true := (congrFun PySem.W.Fast.te8377067652309620493 _).trans (by kernel_rfl)
theorem said_bare : (["vars", "dir", "locals"] : List Str).filter (readsOut said_p said_p.main.body) = [] := by kernel_rfl
theorem said_mods : (importedModules said_p.main.body).all cThrough.contains = true := by kernel_rfl
theorem said_road : noRoadLSs { strict := !true, foot := none, bare := [] } said_p.main.body = true := by kernel_rfl
theorem said_meet : namesMeet said_p said_p.main.body (fun _ n => attrL n) = true := by kernel_rfl
theorem said_looks : looksOpen said_p = true := by
  delta looksOpen
  rw [said_res, said_bare, said_mods, said_road, said_meet]
  kernel_rfl
theorem said_row : said_l.row.partSaid = true := by
  delta OpenRow.partSaid
  rw [show looksOpen said_l.row.prog = true from said_looks]
  kernel_rfl
theorem said0 : OpenLaw.wellSaid PySem.Challenge.rw_tc0086_01 = true := by
  delta OpenLaw.wellSaid OpenRow.wellSaid
  rw [show (OpenLaw.row PySem.Challenge.rw_tc0086_01).partSaid = true from said_row]
  kernel_rfl
theorem asm (walk : Mine.LawWalk) : PySem.Challenge.rw_tc0086_01.Holds := holds_law said0 fun said => Mine.row_holds said walk
end
section
noncomputable abbrev Ret (h₀ : Heap) (L : Addr) (m : Str → Option Value) (news : CbLed) (s : Shared) (Q : Value → Shared → Prop) (Post : Value → CbLed → Prop) : Prop :=
  ∀ (v : Value) (new : CbLed) (h' : Heap) (tk' : Nat), Fr h₀ L h' m → News h₀ L h' (new ++ news) → Post v new → Q v { s with heap := h', toks := tk' }
/-- a def's contract: where it is called from a def, over any ledger -/
noncomputable abbrev Spec (w : World) (lo : List Str) (mean : ExcName → Option Value) (mg mb : Str → Option Value) (f : Addr) (news : CbLed) (vs : List Value) (dk uk : Nat) (Post : Value → CbLed → Prop) : Prop :=
  ∀ (dp un : Nat) (gd : Option (List Code)) (cn : Str) (cs : Scope) (a : Addr) (ccd : Value) (cl : List (Str × Addr)) (outer : List Env) (A₀ : Around) (base h₀ : Heap) (L : Addr) (m : Str → Option Value) (s : Shared) (Q E : Value → Shared → Prop),
    Below A₀ base outer h₀ → Fr h₀ L s.heap m → (K w.params).In h₀ → News h₀ L s.heap news → Top q lo mean mg mb h₀ → cs.kind = .function → dp + dk < recursionLimit → un + uk < cLine → DictAt w h₀ → Ret h₀ L m news s Q Post →
      wpAny (model PySem.Challenge.rw_tc0086_01.prog w) (ktrTop dp un gd cn cs L a ccd cl outer) (call (.ref f) vs) Q E s
/-- the same where tokens have been given out -/
noncomputable abbrev SpecT (w : World) (lo : List Str) (mean : ExcName → Option Value) (mg mb : Str → Option Value) (f : Addr) (news : CbLed) (vs : List Value) (dk uk : Nat) (Post : Value → CbLed → Prop) : Prop :=
  ∀ (dp un : Nat) (gd : Option (List Code)) (cn : Str) (cs : Scope) (a : Addr) (ccd : Value) (cl : List (Str × Addr)) (outer : List Env) (A₀ : Around) (base h₀ : Heap) (L : Addr) (m : Str → Option Value) (s : Shared) (Q E : Value → Shared → Prop),
    Below A₀ base outer h₀ → Fr h₀ L s.heap m → (K w.params).In h₀ → News h₀ L s.heap news → Top q lo mean mg mb h₀ → cs.kind = .function → dp + dk < recursionLimit → un + uk < cLine → DictAt w h₀ → 0 < s.toks → Ret h₀ L m news s Q Post →
      wpAny (model PySem.Challenge.rw_tc0086_01.prog w) (ktrTop dp un gd cn cs L a ccd cl outer) (call (.ref f) vs) Q E s
noncomputable abbrev IsIntV (x : Int) (v : Value) (new : CbLed) : Prop := new = [] ∧ ∃ t, v = .int x t
noncomputable abbrev IsStrV (x : Str) (v : Value) (new : CbLed) : Prop := new = [] ∧ ∃ t, v = .str x t
noncomputable abbrev IsBoolV (x : Bool) (v : Value) (new : CbLed) : Prop := new = [] ∧ v = .bool x
end
section
noncomputable def Stop (P : Prop) : Prop := P
theorem Stop.intro {P : Prop} (h : Stop P) : P := h
theorem Stop.go {P : Prop} (h : P) : Stop P := h
theorem runs_toks {M : Model} {Γ : Ctx} {p : Pos} {t : Sem Fin} {fs : List Frame} {s : Shared} {e : End} {s' : Shared} (h : Runs M Γ p t fs s e s') : s.toks ≤ s'.toks := by
  induction h <;> first | exact Nat.le_refl _ | assumption | ((try simp only [Shared.setGen] at *); omega)
theorem returns_toks {M : Model} {Γ : Ctx} {p : Pos} {s s' : Shared} {r : Result} (h : Returns M Γ p s r s') : s.toks ≤ s'.toks := runs_toks h
theorem wakes_toks {M : Model} {Γ : Ctx} {p : Pos} {g : Nat} {r : Resume} {s s' : Shared} {res : GenResult} (h : Wakes M Γ p g r s res s') : s.toks ≤ s'.toks := by
  unfold Wakes at h
  split at h
  · exact h.elim
  · split at h
    · obtain ⟨_, _, h1, _, _, rfl⟩ := h
      have := runs_toks h1; exact this
    · obtain ⟨_, rfl⟩ := h; exact Nat.le_refl _
    · obtain ⟨_, rfl⟩ := h; exact Nat.le_refl _
  · obtain ⟨_, _, h1, _, _, rfl⟩ := h
    have := runs_toks h1; exact this
  · obtain ⟨_, rfl⟩ := h; exact Nat.le_refl _
  · obtain ⟨_, rfl⟩ := h; exact Nat.le_refl _
theorem wp_toks {α : Type} {M : Model} {Γ : Ctx} (t : Sem α) {Q : α → Pos → Shared → Prop} {E : Value → Pos → Shared → Prop} (p : Pos) (s : Shared) (n : Nat) (hn : n ≤ s.toks) (h : Sem.wp M Γ t Q E p s) :
    Sem.wp M Γ t (fun a p' s' => n ≤ s'.toks ∧ Q a p' s') (fun e p' s' => n ≤ s'.toks ∧ E e p' s') p s := by
  induction t generalizing p s with
  | pure a => exact ⟨hn, h⟩
  | raise e => exact ⟨hn, h⟩
  | unsupported | finish | yield | fork | await | register => exact h
  | rule _ k ih | «at» _ k ih | alloc _ k ih | loadIfAlive _ k ih | point _ k ih | ask k ih | os _ _ k ih | handled _ k ih | newGen _ k ih | stack k ih | thread k ih => exact ih _ _ _ hn h
  | fresh k ih => exact ih _ _ _ (Nat.le_succ_of_le hn) h
  | load a _ k ih | genState a k ih => obtain ⟨o, ho, h⟩ := h; exact ⟨o, ho, ih _ _ _ hn h⟩
  | update a _ f k ih | choose _ _ k ih => obtain ⟨ha, h⟩ := h; exact ⟨ha, ih _ _ _ hn h⟩
  | call c h' g l k ih => obtain ⟨r, s', hr, h⟩ := h; exact ⟨r, s', hr, ih r _ _ (Nat.le_trans hn (returns_toks hr)) h⟩
  | resume g r l k ih => obtain ⟨res, s', hw, h⟩ := h; exact ⟨res, s', hw, ih _ _ _ (Nat.le_trans hn (wakes_toks hw)) h⟩
/-- tokens never fall: what a step's rule forgets of their count is had back -/
theorem grow {α : Type} {M : Model} {A : Around} {t : Sem α} {Q : α → Shared → Prop} {E : Value → Shared → Prop} {s : Shared} (h : wpAny M A t (fun a s' => s.toks ≤ s'.toks → Q a s') (fun e s' => s.toks ≤ s'.toks → E e s') s) : wpAny M A t Q E s :=
  fun Γ p hΓ => Sem.wp_mono M Γ t (fun _ _ _ x => x.2 x.1) (fun _ _ _ x => x.2 x.1) p s (wp_toks t p s _ (Nat.le_refl _) (h Γ p hΓ))
theorem growE {α : Type} {M : Model} {A : Around} {t : Sem α} {Q : α → Shared → Prop} {E : Value → Shared → Prop} {s : Shared} (h : wpAny M A t (fun a s' => s.toks ≤ s'.toks → Q a s') E s) : wpAny M A t Q E s :=
  grow (wpAny_mono h (fun _ _ x => x) fun _ _ x _ => x)
theorem gen_toks {α : Type} {M : Model} {A : Around} {t : Sem α} {Q : α → Shared → Prop} {E : Value → Shared → Prop} {h : Heap} {g : Array GenState} {d : Drawn} {tk : Nat} {os : OsState} (x : ∀ tk', tk ≤ tk' → wpAny M A t Q E ⟨h, g, d, tk', os⟩) : wpAny M A t Q E ⟨h, g, d, tk, os⟩ := x tk (Nat.le_refl _)
section
variable {w : World} {lo : List Str} {mean : ExcName → Option Value} {mg mb : Str → Option Value} {f : Addr} {news : CbLed} {vs : List Value} {dk uk : Nat} {Post : Value → CbLed → Prop} {dp un : Nat} {gd : Option (List Code)} {cn : Str} {cs : Scope} {a : Addr} {ccd : Value} {cl : List (Str × Addr)} {outer : List Env} {A₀ : Around} {base h₀ : Heap} {L : Addr} {m : Str → Option Value} {s : Shared} {Q E : Value → Shared → Prop}
theorem use_spec (C : Spec w lo mean mg mb f news vs dk uk Post) (B : Below A₀ base outer h₀) (F : Fr h₀ L s.heap m) (X : (K w.params).In h₀) (N : News h₀ L s.heap news) (T : Top q lo mean mg mb h₀) (hk : cs.kind = .function) (hd : dp + dk < recursionLimit) (hu : un + uk < cLine) (D : DictAt w h₀)
    (ret : ∀ (v : Value) (new : CbLed) (h' : Heap) (tk' : Nat), s.toks ≤ tk' → Fr h₀ L h' m → News h₀ L h' (new ++ news) → Post v new → Q v { s with heap := h', toks := tk' }) :
    wpAny (model PySem.Challenge.rw_tc0086_01.prog w) (ktrTop dp un gd cn cs L a ccd cl outer) (call (.ref f) vs) Q E s :=
  growE (C _ _ _ _ _ _ _ _ _ _ _ _ _ _ _ _ _ B F X N T hk hd hu D fun v new h' tk' F' N' P le => ret v new h' tk' le F' N' P)
theorem use_specT (C : SpecT w lo mean mg mb f news vs dk uk Post) (B : Below A₀ base outer h₀) (F : Fr h₀ L s.heap m) (X : (K w.params).In h₀) (N : News h₀ L s.heap news) (T : Top q lo mean mg mb h₀) (hk : cs.kind = .function) (hd : dp + dk < recursionLimit) (hu : un + uk < cLine) (D : DictAt w h₀) (hp : 0 < s.toks)
    (ret : ∀ (v : Value) (new : CbLed) (h' : Heap) (tk' : Nat), s.toks ≤ tk' → Fr h₀ L h' m → News h₀ L h' (new ++ news) → Post v new → Q v { s with heap := h', toks := tk' }) :
    wpAny (model PySem.Challenge.rw_tc0086_01.prog w) (ktrTop dp un gd cn cs L a ccd cl outer) (call (.ref f) vs) Q E s :=
  growE (C _ _ _ _ _ _ _ _ _ _ _ _ _ _ _ _ _ B F X N T hk hd hu D hp fun v new h' tk' F' N' P le => ret v new h' tk' le F' N' P)
end
end
section
theorem mulOk {a b : Int} (h : -(2 ^ 64) < a ∧ a < 2 ^ 64) : IntMulOk a b := IntMulOk.of_left (intBits_le_64 h.1 h.2)
section
variable (w : World) {lo : List Str} {mean : ExcName → Option Value} {mg mb : Str → Option Value}
set_option maxHeartbeats 4000000
local macro_rules | `(tactic| walk_at "inplaceOp FloorDiv int int") => `(tactic| refine Stop.intro ?_)
local macro_rules | `(tactic| walk_at "inplaceOp Mult int int") => `(tactic| refine Stop.intro ?_)
theorem isub_spec (news : CbLed) (x y : Int) (t u : Tok) : Spec w lo mean mg mb 108 news [.int x t, .int y u] 1 8 (IsIntV (x - y)) := by
  unfold Spec
  k_fill
  intro dp un gd cn cs a ccd cl outer A₀ base h₀ L m s Q E B F X N T hk hd hu hD hret
  refine wpAny_call ?_
  k_dflt cell_enter
  k_steps
  exact hret _ [] _ _ (by assumption) (by assumption) ⟨rfl, _, rfl⟩
theorem imul_spec (news : CbLed) (x y : Int) (t u : Tok) (hm : IntMulOk x y) : Spec w lo mean mg mb 101 news [.int x t, .int y u] 1 8 (IsIntV (x * y)) := by
  unfold Spec
  k_fill
  intro dp un gd cn cs a ccd cl outer A₀ base h₀ L m s Q E B F X N T hk hd hu hD hret
  refine wpAny_call ?_
  k_dflt cell_enter
  k_steps
  refine Stop.go (imul_int ?_ (by assumption))
  k_steps
  exact hret _ [] _ _ (by assumption) (by assumption) ⟨rfl, _, rfl⟩
theorem ifloordiv_spec (news : CbLed) (x y : Int) (t u : Tok) (hy : 0 < y ∧ y < 1000) : Spec w lo mean mg mb 94 news [.int x t, .int y u] 1 8 (IsIntV (x.fdiv y)) := by
  unfold Spec
  k_fill
  intro dp un gd cn cs a ccd cl outer A₀ base h₀ L m s Q E B F X N T hk hd hu hD hret
  refine wpAny_call ?_
  k_dflt cell_enter
  k_steps
  refine Stop.go (ifloordiv_int (by omega) ?_ (Or.inl (PyProof.noPylong_small (by omega))))
  k_steps
  exact hret _ [] _ _ (by assumption) (by assumption) ⟨rfl, _, rfl⟩
end
end
section
noncomputable abbrev b1P : List (Int × Nat) := [(65024, 336), (65025, 337), (65026, 338), (65027, 339), (65028, 340), (65029, 341), (6150, 322), (65030, 342), (65031, 343), (65032, 344), (65033, 345), (6155, 323), (6156, 324), (6157, 325), (8203, 326), (8204, 327), (8205, 328), (65034, 346), (65035, 347), (65036, 348), (65037, 349), (65038, 350), (65039, 351), (173, 320), (847, 321), (8288, 329), (65279, 330)]
noncomputable abbrev b1L : List Int := [65024, 65025, 65026, 65027, 65028, 65029, 6150, 65030, 65031, 65032, 65033, 6155, 6156, 6157, 8203, 8204, 8205, 65034, 65035, 65036, 65037, 65038, 65039, 173, 847, 8288, 65279]
theorem b1P_hash : ∀ p ∈ b1P, hashInt p.1 = p.1 := by decide +kernel
theorem set116 {h : Heap} {P : Params} (w : World) (e : h.get? 116 = some (o116 P)) : h.SetOf (intKind pw w) 116 (fun k => b1L.any (· == k)) 27 := by
  refine ⟨_, (b1P.map fun p => (p.1, Value.int p.1 p.2)).toArray, 29, _, e, ⟨rfl, rfl, rfl⟩, rfl, ?_, ?_, by decide, by rfl, rfl⟩
  · intro x hx
    obtain ⟨p, hp, rfl⟩ := List.mem_map.mp hx
    exact ⟨⟨p.1, intKind_is _ _ _ _, (b1P_hash p hp).symm⟩, rfl⟩
  · intro k
    show (b1P.map (·.1)).any (· == k) = true ↔ _
    rw [List.any_map, List.any_eq_true]
    constructor
    · rintro ⟨p, hp, hk⟩
      have hk : p.1 = k := by simpa using hk
      exact ⟨_, List.mem_map.mpr ⟨p, hp, rfl⟩, by subst hk; exact intKind_is _ _ _ _⟩
    · rintro ⟨x, hx, hk⟩
      obtain ⟨p, hp, rfl⟩ := List.mem_map.mp hx
      refine ⟨p, hp, ?_⟩
      have : p.1 = k := Value.isInt_inj (.int p.1 p.2) p.1 k (by simp [Value.isInt]) hk
      simpa using this
noncomputable def b3 (c : Nat) : Str := match b3P.lookup (c : Int) with | some x => x | none => Txt.lower ⟨#[c]⟩
theorem valueAt_texts {kvs : List (Int × Value)} {ds : List (Int × Str)} (h : Texts kvs ds) (k : Int) :
    (∃ x t, ds.lookup k = some x ∧ valueAt kvs k = some (.str x t)) ∨ (ds.lookup k = none ∧ valueAt kvs k = none) := by
  induction h with
  | nil => exact .inr ⟨rfl, rfl⟩
  | cons k' x t h ih =>
    by_cases hk : k = k'
    · subst hk
      exact .inl ⟨x, t, by simp [List.lookup_cons], by simp [valueAt]⟩
    · have e1 : (k == k') = false := by simpa using hk
      have e2 : ¬ k' = k := fun e => hk e.symm
      rcases ih with ⟨x', t', a, b⟩ | ⟨a, b⟩
      · refine .inl ⟨x', t', by simp only [List.lookup_cons, e1]; exact a, ?_⟩
        unfold valueAt at b ⊢
        simp only [List.find?_cons, e2, decide_false]
        exact b
      · refine .inr ⟨by simp only [List.lookup_cons, e1]; exact a, ?_⟩
        unfold valueAt at b ⊢
        simp only [List.find?_cons, e2, decide_false]
        exact b
section
variable {w : World} {A : Around} {E : Value → Shared → Prop} {s : Shared} {h₀ g : Heap} {L L₀ : Addr} {m m₀ : Str → Option Value} {c : Int} {t : Tok}
theorem in_116 {Q : Value → Shared → Prop} (F : Fr g L s.heap m) (X : (K w.params).In g) (h : Q (.bool (b1L.any (· == c))) { s with toks := s.toks + 1 }) :
    wpAny (model PySem.Challenge.rw_tc0086_01.prog w) A (compareOp .In (.int c t) (.ref 116)) Q E s :=
  wpAny_inSet_of (knd := intKind pw w) (intKind_is _ _ _ _) rfl (set116 w ((X.keeps F.keep) 116 _ rfl)) h
theorem dict_at (F : Fr g L s.heap m) (G : Fr h₀ L₀ g m₀) (D : DictAt w h₀) : DictAt w s.heap :=
  let ⟨kvs, hd, ht⟩ := D; ⟨kvs, hd.at fun o e => F.keep _ _ (G.keep _ _ e), ht⟩
theorem meth_127 {pl : Sem Bool} {Q : Value × List Value → Shared → Prop} (F : Fr g L s.heap m) (G : Fr h₀ L₀ g m₀) (D : DictAt w h₀) (h : Q (.builtin "dict.get", [.ref 127]) s) :
    wpAny (model PySem.Challenge.rw_tc0086_01.prog w) A (getMethod (.ref 127) "get" pl) Q E s := by
  obtain ⟨kvs, hd, _⟩ := dict_at F G D
  exact getMethod_builtin hd.typeIs PySem.F.plainAttrs_dict PySem.F.slot_dict_get PySem.F.type_dict_get hd.mapOf.noDict h
theorem get_127 {Q : Value → Shared → Prop} (F : Fr g L s.heap m) (G : Fr h₀ L₀ g m₀) (D : DictAt w h₀) (h1 : ∀ x u, b3P.lookup c = some x → Q (.str x u) { s with toks := s.toks + 1 }) (h2 : b3P.lookup c = none → Q .none { s with toks := s.toks + 1 }) :
    wpAny (model PySem.Challenge.rw_tc0086_01.prog w) A (call (.builtin "dict.get") [.ref 127, .int c t]) Q E s := by
  obtain ⟨kvs, hd, ht⟩ := dict_at F G D
  refine call_meetsIn PySem.F.slot_dict_get hd.typeIs PySem.F.entry_dict_get (PySem.F.args_dict_get_2 _ _) (meets_dict_get (intKind pw w) 127 (intKind_is _ _ _ _) (by decide)) ⟨_, hd.mapOf, ?_⟩
  rcases valueAt_texts ht c with ⟨x, u, e1, e2⟩ | ⟨e1, e2⟩
  · rw [e2]; exact h1 x u e1
  · rw [e2]; exact h2 e1
end
section
variable (w : World) {lo : List Str} {mean : ExcName → Option Value} {mg mb : Str → Option Value}
set_option maxHeartbeats 4000000
local macro_rules | `(tactic| walk_at "compareOp In int ref") => `(tactic| refine in_116 (by assumption) (by assumption) ?_)
local macro_rules | `(tactic| walk_at "getMethod ref") => `(tactic| refine meth_127 (by assumption) (by assumption) (by assumption) ?_)
local macro_rules | `(tactic| walk_at "call builtin:dict.get") => `(tactic| (refine get_127 (by assumption) (by assumption) (by assumption) (fun _ _ _ => ?_) (fun _ => ?_)))
local macro_rules | `(tactic| walk_at "call builtin:str.lower") => `(tactic| (dsimp only; refine SCL.lower (by show 1 ≤ _; decide) ?_; intro _))
theorem in_b1_spec (news : CbLed) (c : Nat) (t : Tok) : Spec w lo mean mg mb 126 news [.str ⟨#[c]⟩ t] 1 8 (IsBoolV (b1L.any (· == (c : Int)))) := by
  unfold Spec
  k_fill
  intro dp un gd cn cs a ccd cl outer A₀ base h₀ L m s Q E B F X N T hk hd hu hD hret
  refine wpAny_call ?_
  k_dflt cell_enter
  k_steps
  exact hret _ [] _ _ (by assumption) (by assumption) ⟨rfl, rfl⟩
theorem map_b3_spec (news : CbLed) (c : Nat) (t : Tok) : Spec w lo mean mg mb 172 news [.str ⟨#[c]⟩ t] 1 8 (IsStrV (b3 c)) := by
  unfold Spec
  k_fill
  intro dp un gd cn cs a ccd cl outer A₀ base h₀ L m s Q E B F X N T hk hd hu hD hret
  refine wpAny_call ?_
  k_dflt cell_enter
  k_steps
  · exact hret _ [] _ _ (by assumption) (by assumption) ⟨rfl, _, by unfold b3; rw [‹List.lookup (c : Int) b3P = some _›]⟩
  · exact hret _ [] _ _ (by assumption) (by assumption) ⟨rfl, _, by unfold b3; rw [‹List.lookup (c : Int) b3P = none›]⟩
end
end
section
open PySem.Calls
section
variable {prog : Program} {w : World} {A : Around} {E : Value → Shared → Prop} {s : Shared} {h₀ : Heap} {L a : Addr} {m : Str → Option Value} {news : CbLed} {name : Str} {scope : Scope} {cd : Value}
theorem esc_if {v : Str} {c : Nat} {z y x : Str} {t : Tok} {k1 k2 k3 : Nat} {p1 p2 p3 p4 p5 p6 p7 p8 p9 p10 p11 : Pos} {pl : Sem Bool} {Q : Flow → Shared → Prop} (F : Fr h₀ L s.heap m) (N : News h₀ L s.heap news) (hv : m v = some (.str x t)) (hpos : 0 < s.toks)
    (hy : y = ⟨#[c]⟩) (hb : x.length + (x.length + 1) * z.length ≤ 16777216)
    (h : ∀ h' t' k, 0 < k → Fr h₀ L h' (fun n => if n = v then some (.str (Txt.replace x y z) t') else m n) → News h₀ L h' news → Q .next { s with heap := h', toks := k })
    (hk : scope.kind = .function) (hl : (envOf name scope L a cd).kindOf v = some .local) (hd : (v == ("__debug__" : Str)) = false) (hyz : (y == z) = false)
    (hsw : swapsWith (.Call (.Attribute (.Name v p4) "replace" p5) [.Constant (.str y) k2 p6, .Constant (.str z) k3 p7] [] p8) (some (.Name v p9)) p10.line (envOf name scope L a cd) = pure false)
    (he : eval (.Call (.Attribute (.Name v p4) "replace" p5) [.Constant (.str y) k2 p6, .Constant (.str z) k3 p7] [] p8) (envOf name scope L a cd) = (do
      let ov ← eval (.Name v p4) (envOf name scope L a cd)
      standAt p5.atName
      let (f, first) ← holding [ov] (getMethod ov "replace" pl)
      callWith p8 f first (backTo p8 (starEach [.Constant (.str y) k2 p6, .Constant (.str z) k3 p7] (envOf name scope L a cd))) [])) :
    wpAny (model prog w) A (exec (.If (.Compare (.Constant (.str y) k1 p1) [.In] [.Name v p2] p3) [.Assign [.Name v p9] (.Call (.Attribute (.Name v p4) "replace" p5) [.Constant (.str y) k2 p6, .Constant (.str z) k3 p7] [] p8) p10] [] p11) (envOf name scope L a cd)) Q E s := by
  refine wpAny_If (wpAny_isTrue_Compare1 (Constant_str (ld F hv (SB.contains (wpAny_truthy_bool ?_)) hk hl hd)))
  cases hc : Txt.contains x y
  · rw [if_neg Bool.false_ne_true]
    refine wpAny_execs_nil ?_
    have e : Txt.replace x y z = x := by subst hy; exact replace_unless x z c hc
    have := h s.heap t (s.toks + 1) (Nat.succ_pos _)
    rw [e] at this
    refine this ?_ N
    have em : (fun n => if n = v then some (.str x t) else m n) = m := by
      funext n
      split
      · subst n; exact hv.symm
      · rfl
    rw [em]; exact F
  · rw [if_pos rfl]
    refine wpAny_execs_cons (wpAny_Assign_Name (MethodCall_ (ld F hv (GM.replace (callWith_method1 (spliced_more (Constant_str (spliced_more (Constant_str (spliced_none ?_))))))) hk hl hd) he) hsw)
    refine growE (SC.replace (by show s.toks + 1 ≠ 0; omega) (by show s.toks + 1 + 1 ≠ 0; omega) (by show s.toks + 1 ≠ s.toks + 1 + 1; omega) hyz hb fun t' k hle => ?_)
    refine stN F N (fun h' F' N' => ?_) hk hl
    exact wpAny_execs_nil (h h' t' _ (Nat.succ_pos _) F' N')
end
end
section
noncomputable abbrev stepsCdata : List (Str × Str) := [(Str.ofString "&", Str.ofString "&amp;"), (Str.ofString "<", Str.ofString "&lt;"), (Str.ofString ">", Str.ofString "&gt;")]
noncomputable abbrev stepsAttrib : List (Str × Str) := [(Str.ofString "&", Str.ofString "&amp;"), (Str.ofString "<", Str.ofString "&lt;"), (Str.ofString ">", Str.ofString "&gt;"), (Str.ofString "\"", Str.ofString "&quot;"), (Str.ofString "\r", Str.ofString "&#13;"), (Str.ofString "\n", Str.ofString "&#10;"), (Str.ofString "\t", Str.ofString "&#09;")]
noncomputable abbrev stepsHtml : List (Str × Str) := [(Str.ofString "&", Str.ofString "&amp;"), (Str.ofString ">", Str.ofString "&gt;"), (Str.ofString "\"", Str.ofString "&quot;")]
noncomputable abbrev stepsCdataC : List (Str × Str) := [(Str.ofString "&", Str.ofString "&amp;"), (Str.ofString "<", Str.ofString "&lt;"), (Str.ofString ">", Str.ofString "&gt;"), (Str.ofString "\r", Str.ofString "&#xD;")]
noncomputable abbrev stepsAttribC : List (Str × Str) := [(Str.ofString "&", Str.ofString "&amp;"), (Str.ofString "<", Str.ofString "&lt;"), (Str.ofString "\"", Str.ofString "&quot;"), (Str.ofString "\t", Str.ofString "&#x9;"), (Str.ofString "\n", Str.ofString "&#xA;"), (Str.ofString "\r", Str.ofString "&#xD;")]
section
variable (w : World) {lo : List Str} {mean : ExcName → Option Value} {mg mb : Str → Option Value}
set_option maxHeartbeats 4000000
local macro_rules | `(tactic| walk_at "execs cons") => `(tactic| ((with_reducible refine wpAny_execs_cons ?_); try dsimp only))
local macro_rules | `(tactic| walk_at "exec If") => `(tactic| k_dflt (refine esc_if (by assumption) (by assumption) (by with_unfolding_all rfl) (by (try dsimp only); omega) (by rfl) (by assumption) (fun _ _ _ _ _ _ => ?_) rfl rfl (by decide) (by decide) rfl rfl))
theorem cdata_spec (news : CbLed) (x : Str) (t : Tok) (hf : Fit stepsCdata x) : SpecT w lo mean mg mb 186 news [.str x t] 1 8 (IsStrV (escs stepsCdata x)) := by
  obtain ⟨f1, f2, f3, _⟩ := hf
  dsimp only at f1 f2 f3
  unfold SpecT
  k_fill
  intro dp un gd cn cs a ccd cl outer A₀ base h₀ L m s Q E B F X N T hk hd hu hD hpos hret
  refine wpAny_call ?_
  k_dflt cell_enter
  k_steps
  exact hret _ [] _ _ (by assumption) (by assumption) ⟨rfl, _, rfl⟩
theorem attrib_spec (news : CbLed) (x : Str) (t : Tok) (hf : Fit stepsAttrib x) : SpecT w lo mean mg mb 193 news [.str x t] 1 8 (IsStrV (escs stepsAttrib x)) := by
  obtain ⟨f1, f2, f3, f4, f5, f6, f7, _⟩ := hf
  dsimp only at f1 f2 f3 f4 f5 f6 f7
  unfold SpecT
  k_fill
  intro dp un gd cn cs a ccd cl outer A₀ base h₀ L m s Q E B F X N T hk hd hu hD hpos hret
  refine wpAny_call ?_
  k_dflt cell_enter
  k_steps
  exact hret _ [] _ _ (by assumption) (by assumption) ⟨rfl, _, rfl⟩
theorem html_spec (news : CbLed) (x : Str) (t : Tok) (hf : Fit stepsHtml x) : SpecT w lo mean mg mb 200 news [.str x t] 1 8 (IsStrV (escs stepsHtml x)) := by
  obtain ⟨f1, f2, f3, _⟩ := hf
  dsimp only at f1 f2 f3
  unfold SpecT
  k_fill
  intro dp un gd cn cs a ccd cl outer A₀ base h₀ L m s Q E B F X N T hk hd hu hD hpos hret
  refine wpAny_call ?_
  k_dflt cell_enter
  k_steps
  exact hret _ [] _ _ (by assumption) (by assumption) ⟨rfl, _, rfl⟩
theorem cdataC_spec (news : CbLed) (x : Str) (t : Tok) (hf : Fit stepsCdataC x) : SpecT w lo mean mg mb 207 news [.str x t] 1 8 (IsStrV (escs stepsCdataC x)) := by
  obtain ⟨f1, f2, f3, f4, _⟩ := hf
  dsimp only at f1 f2 f3 f4
  unfold SpecT
  k_fill
  intro dp un gd cn cs a ccd cl outer A₀ base h₀ L m s Q E B F X N T hk hd hu hD hpos hret
  refine wpAny_call ?_
  k_dflt cell_enter
  k_steps
  exact hret _ [] _ _ (by assumption) (by assumption) ⟨rfl, _, rfl⟩
theorem attribC_spec (news : CbLed) (x : Str) (t : Tok) (hf : Fit stepsAttribC x) : SpecT w lo mean mg mb 214 news [.str x t] 1 8 (IsStrV (escs stepsAttribC x)) := by
  obtain ⟨f1, f2, f3, f4, f5, f6, _⟩ := hf
  dsimp only at f1 f2 f3 f4 f5 f6
  unfold SpecT
  k_fill
  intro dp un gd cn cs a ccd cl outer A₀ base h₀ L m s Q E B F X N T hk hd hu hD hpos hret
  refine wpAny_call ?_
  k_dflt cell_enter
  k_steps
  exact hret _ [] _ _ (by assumption) (by assumption) ⟨rfl, _, rfl⟩
end
end
section
theorem getD_le (l : List Int) (n : Nat) (h : l.all (fun c => decide (0 ≤ c ∧ c ≤ 1114111)) = true) : 0 ≤ l.getD n 0 ∧ l.getD n 0 ≤ 1114111 := by
  rw [List.getD_eq_getElem?_getD]
  cases e : l[n]? with
  | none => decide
  | some v => exact of_decide_eq_true (List.all_eq_true.mp h v (List.mem_of_getElem? e))
noncomputable abbrev besideL : List Int := [172, 174, 846, 848, 6149, 6151, 6154, 6158, 8202, 8206, 8287, 8289, 65023, 65040, 65278, 65280]
noncomputable abbrev unseenL : List Int := [173, 847, 6150, 6155, 6156, 6157, 8203, 8204, 8205, 8288, 65279] ++ rangeInts 65024 1 ((65040 : Int) - 65024).toNat
section
variable (w : World) {lo : List Str} {mean : ExcName → Option Value} {mg mb : Str → Option Value}
set_option maxHeartbeats 4000000
local macro_rules | `(tactic| walk_at "call builtin:chr") => `(tactic| k_dflt (refine chr_of_range (getD_le _ _ (by decide)).1 (getD_le _ _ (by decide)).2 ?_))
local macro_rules | `(tactic| walk_at "binaryOp Add ref ref") => `(tactic| refine Stop.intro ?_)
local macro_rules | `(tactic| walk_at "never asked") => `(tactic| skip)
theorem beside_spec (news : CbLed) (x : Int) (t : Tok) : Spec w lo mean mg mb 264 news [.int x t] 1 8 (IsStrV ⟨#[(besideL.getD (x.fmod 16).toNat 0).toNat]⟩) := by
  unfold Spec
  k_fill
  intro dp un gd cn cs a ccd cl outer A₀ base h₀ L m s Q E B F X N T hk hd hu hD hret
  refine wpAny_call ?_
  k_dflt cell_enter
  k_steps
  exact hret _ [] _ _ (by assumption) (fun p hp => ‹News _ _ _ (_ :: news)› p (.tail _ hp)) ⟨rfl, _, rfl⟩
theorem unseen_spec (news : CbLed) (x : Int) (t : Tok) : Spec w lo mean mg mb 257 news [.int x t] 1 8 (IsStrV ⟨#[(unseenL.getD (x.fmod 27).toNat 0).toNat]⟩) := by
  unfold Spec
  k_fill
  intro dp un gd cn cs a ccd cl outer A₀ base h₀ L m s Q E B F X N T hk hd hu hD hret
  refine wpAny_call ?_
  k_dflt cell_enter
  k_steps
  refine' Stop.go (kmk_add_ints ?F ?N ?a ?b ?i ?j ?_ ?z)
  case F => assumption
  case N => assumption
  case b => assumption
  case j => exact IntsAre.ofCarried (by assumption)
  case a => exact News.isList (by assumption) (by k_mem)
  case i => l_ints
  case z => exact Nat.le_of_ble_eq_true rfl
  intro D' ws' h' F' N' l1 hI'
  k_steps
  exact hret _ [] _ _ (by assumption) (fun p hp => ‹News _ _ _ (_ :: _ :: news)› p (.tail _ (.tail _ hp))) ⟨rfl, _, rfl⟩
end
end
section
noncomputable def handA (i : Nat) : Addr := match i with | 0 => 186 | 1 => 207 | 2 => 193 | 3 => 200 | _ => 214
noncomputable def handS (i : Nat) : List (Str × Str) := match i with | 0 => stepsCdata | 1 => stepsCdataC | 2 => stepsAttrib | 3 => stepsHtml | _ => stepsAttribC
theorem hand_items (i : Nat) (h : i < 5) : (#[Value.ref 186, .ref 207, .ref 193, .ref 200, .ref 214] : Array Value)[i]? = some (.ref (handA i)) := by
  match i, h with
  | 0, _ => rfl
  | 1, _ => rfl
  | 2, _ => rfl
  | 3, _ => rfl
  | 4, _ => rfl
noncomputable def writtenF (x : Str) (n : Int) : Str :=
  let y := escs (handS (n.fmod 3).toNat) x
  if (n.fdiv 3).fmod 2 = 1 then escs (handS ((n.fdiv 6).fmod 5).toNat) y else y
theorem dict_up {w : World} {h₀ g : Heap} {L : Addr} {m : Str → Option Value} (G : Fr h₀ L g m) (D : DictAt w h₀) : DictAt w g :=
  let ⟨kvs, hd, ht⟩ := D; ⟨kvs, hd.at fun o e => G.keep _ _ e, ht⟩
section
variable (w : World) {lo : List Str} {mean : ExcName → Option Value} {mg mb : Str → Option Value}
set_option maxHeartbeats 4000000
theorem hand_keep (i : Nat) (h : i < 5) : keepIn (K w.params) (.ref (handA i)) = true := by
  match i, h with
  | 0, _ => rfl
  | 1, _ => rfl
  | 2, _ => rfl
  | 3, _ => rfl
  | 4, _ => rfl
theorem hand_spec (news : CbLed) (i : Nat) (h : i < 5) (x : Str) (t : Tok) (hf : Fit (handS i) x) : SpecT w lo mean mg mb (handA i) news [.str x t] 1 8 (IsStrV (escs (handS i) x)) := by
  match i, h, hf with
  | 0, _, hf => exact cdata_spec w news x t hf
  | 1, _, hf => exact cdataC_spec w news x t hf
  | 2, _, hf => exact attrib_spec w news x t hf
  | 3, _, hf => exact html_spec w news x t hf
  | 4, _, hf => exact attribC_spec w news x t hf
theorem fmod_lt (n k : Int) (h : 0 < k) : (n.fmod k).toNat < k.toNat := by
  have h1 := Int.fmod_nonneg_of_pos n h
  have h2 := Int.fmod_lt_of_pos n h
  omega
theorem seqIndex_nat (n k : Int) (h : 0 < k) (z : Nat) (hz : k ≤ z) : PySem.seqIndex? (n.fmod k) z = some (n.fmod k).toNat := by
  have h1 := Int.fmod_nonneg_of_pos n h
  have h2 := Int.fmod_lt_of_pos n h
  unfold PySem.seqIndex?
  have e1 : ¬ n.fmod k < 0 := by omega
  have e2 : n.fmod k < (z : Int) := by omega
  simp only [e1, if_false, h1, e2, decide_true, Bool.and_self, if_true]
local macro_rules | `(tactic| walk_at "execs cons") => `(tactic| (refine gen_toks (fun tk hle => ?_); (with_reducible refine wpAny_execs_cons ?_); try dsimp only))
local macro_rules | `(tactic| walk_at "execs nil") => `(tactic| ((with_reducible refine wpAny_execs_nil ?_); try dsimp only))
local macro_rules | `(tactic| walk_at "subscriptTail Name BinOp ref int") => `(tactic| refine Stop.intro ?_)
local macro_rules | `(tactic| walk_at "callWith") => `(tactic| refine Stop.intro ?_)
local macro_rules | `(tactic| walk_at "call ref") => `(tactic| refine Stop.intro ?_)
theorem written_spec (news : CbLed) (x : Str) (t : Tok) (n : Int) (u : Tok) (hf : Fit (handS (n.fmod 3).toNat) x) (hg : Fit (handS ((n.fdiv 6).fmod 5).toNat) (escs (handS (n.fmod 3).toNat) x)) : SpecT w lo mean mg mb 250 news [.str x t, .int n u] 2 16 (IsStrV (writtenF x n)) := by
  unfold SpecT
  k_fill
  intro dp un gd cn cs a ccd cl outer A₀ base h₀ L m s Q E B F X N T hk hd hu hD hpos hret
  refine wpAny_call ?_
  k_dflt cell_enter
  k_steps
  refine' Stop.go (item_tuple ?t ?a ?b ?c ?d ?_)
  case t => exact News.isTup (by k_asm) (by k_mem)
  case a => exact Int.le_trans (by decide) (Int.fmod_nonneg_of_pos _ (by decide))
  case b => exact Int.lt_trans (Int.fmod_lt_of_pos _ (by decide)) (by decide)
  case c => exact seqIndex_nat _ _ (by decide) _ (by decide)
  case d => exact hand_items _ (Nat.lt_of_lt_of_le (fmod_lt _ _ (by decide)) (by decide))
  k_steps
  refine' Stop.go (callWith_K ?x ?kk ?_)
  case x => assumption
  case kk => exact hand_keep w _ (Nat.lt_of_lt_of_le (fmod_lt _ _ (by decide)) (by decide))
  k_steps
  refine' Stop.go (use_specT (hand_spec w _ _ (Nat.lt_of_lt_of_le (fmod_lt _ _ (by decide)) (by decide)) _ _ (by assumption)) ?B ?F ?x ?N ?T rfl ?hd ?hu ?hD ?hp ?_)
  case B => k_asm
  case F => k_asm
  case x => k_asm
  case N => k_asm
  case T => k_asm
  case hD => first | assumption | exact dict_up (by assumption) (by assumption)
  case hd => first | ktr_room | decide
  case hu => first | ktr_units | decide
  case hp => ((try dsimp only); omega)
  intro v' new' h' tk' hle F' N' hP
  obtain ⟨e1, t', e2⟩ := hP
  subst e1; subst e2
  dsimp only at hle
  k_steps
  · refine' Stop.go (item_tuple ?t ?a ?b ?c ?d ?_)
    case t => exact News.isTup (by k_asm) (by k_mem)
    case a => exact Int.le_trans (by decide) (Int.fmod_nonneg_of_pos _ (by decide))
    case b => exact Int.lt_trans (Int.fmod_lt_of_pos _ (by decide)) (by decide)
    case c => exact seqIndex_nat _ _ (by decide) _ (by decide)
    case d => exact hand_items _ (Nat.lt_of_lt_of_le (fmod_lt _ _ (by decide)) (by decide))
    k_steps
    refine' Stop.go (callWith_K ?x ?kk ?_)
    case x => assumption
    case kk => exact hand_keep w _ (Nat.lt_of_lt_of_le (fmod_lt _ _ (by decide)) (by decide))
    k_steps
    refine' Stop.go (use_specT (hand_spec w _ _ (Nat.lt_of_lt_of_le (fmod_lt _ _ (by decide)) (by decide)) _ _ (by assumption)) ?B ?F ?x ?N ?T rfl ?hd ?hu ?hD ?hp ?_)
    case B => k_asm
    case F => k_asm
    case x => k_asm
    case N => k_asm
    case T => k_asm
    case hD => first | assumption | exact dict_up (by assumption) (by assumption)
    case hd => first | ktr_room | decide
    case hu => first | ktr_units | decide
    case hp => ((try dsimp only); omega)
    intro v' new' h' tk' hle F' N' hP
    obtain ⟨e1, t', e2⟩ := hP
    subst e1; subst e2
    dsimp only at hle
    k_steps
    exact hret _ [] _ _ (by assumption) (fun p hp => ‹News _ _ _ ([] ++ _ :: news)› p (.tail _ hp)) ⟨rfl, _, by unfold writtenF; rw [if_pos (by assumption)]⟩
  · exact hret _ [] _ _ (by assumption) (fun p hp => ‹News _ _ _ ([] ++ _ :: news)› p (.tail _ hp)) ⟨rfl, _, by unfold writtenF; rw [if_neg (by assumption)]⟩
end
end
section
open PySem.Calls
noncomputable def AsciiOut (h₀ : Heap) (L : Addr) (s : Shared) (I : Addr) (o : Obj) (news : CbLed) (J : (Str → Option Value) → Prop) (f : Flow) (s₂ : Shared) : Prop :=
  f = .next ∧ ∃ h₂ tk₂ m₂, s₂ = { s with heap := h₂, toks := tk₂ } ∧ 0 < tk₂ ∧ Fr h₀ L h₂ m₂ ∧ News h₀ L h₂ ((I, o) :: news) ∧ J m₂
section
variable {prog : Program} {w : World} {A : Around} {E : Value → Shared → Prop} {s : Shared} {env : Env} {h₀ : Heap} {m : Str → Option Value} {news : CbLed}
/-- a loop over a written text of plain signs: each sign comes with a token of its own, given out just before -/
theorem for_ascii {v : Str} {pv pc pos : Pos} {k : Nat} {x : Str} {body : List Stmt} {Q : Flow → Shared → Prop}
    (hh : A.handled = none) (hv : env.kindOf v = some .local) (hp : (env.scope.kind == .class || (env.scope.kind == .module && env.locals != env.globals)) = false) (hx : x.cps.all (· < 128) = true)
    (F : Fr h₀ env.locals s.heap m) (N : News h₀ env.locals s.heap news) (hpos : 0 < s.toks) (J : Nat → (Str → Option Value) → Prop) (h0 : J 0 m)
    (step : ∀ i c u m₁ h₁ I o tk, x.cps[i]? = some c → J i m₁ → 0 < u → u < tk → Fr h₀ env.locals h₁ (fun y => if y = v then some (.str ⟨#[c]⟩ u) else m₁ y) → News h₀ env.locals h₁ ((I, o) :: news) →
      wpAny (model prog w) A (execs body env) (AsciiOut h₀ env.locals s I o news (J (i + 1))) (fun _ _ => False) { s with heap := h₁, toks := tk })
    (hQ : ∀ h' tk m', 0 < tk → Fr h₀ env.locals h' m' → News h₀ env.locals h' news → J x.cps.size m' → Q .next { s with heap := h', toks := tk }) :
    wpAny (model prog w) A (exec (.For (.Name v pv) (.Constant (.str x) k pc) body [] pos) env) Q E s := by
  refine wpAny_For (Constant_str (wpAny_pyIter_ascii hx ?_)) (fun _ => rfl)
  have hL : env.locals < s.heap.objs.size := F.ns.lt
  have hI0 : ∀ p ∈ news, p.1 < s.heap.objs.size := fun p hp => Heap.lt_size (N p hp).1
  have hfresh : h₀.get? s.heap.objs.size = none := next_is_new F
  refine codeAny_forLoop
    (fun n s' => ∃ h' tk m' i, s' = { s with heap := h', toks := tk } ∧ 0 < tk ∧ h'.IsStrIter s.heap.objs.size "str_ascii_iterator" x s.toks i ∧ Fr h₀ env.locals h' m' ∧ News h₀ env.locals h' news ∧ J i m' ∧ i ≤ x.cps.size ∧ n = x.cps.size + 1 - i) ?_ (x.cps.size + 1)
    ⟨_, s.toks + 1, m, 0, rfl, Nat.succ_pos _, ⟨_, Heap.get?_push_size _ rfl, rfl, rfl⟩, F.push _, fun p hp => ⟨Heap.get?_push_of_some _ (N p hp).1, (N p hp).2⟩, h0, Nat.zero_le _, rfl⟩
  intro n s' z1; refine veil fun vG hG => ?_; obtain ⟨h', tk, m', i, rfl, htk, hit', F', N', hJ, hi, rfl⟩ := z1; refine hG ?_; clear hG vG
  cases hc : x.cps[i]? with
  | none =>
    have hsz : i = x.cps.size := Nat.le_antisymm hi (by simpa using hc)
    refine wpAny_pyNext_ascii_end hh hit' hc fun h₁ he₁ => wpAny_execs_nil ?_
    exact hQ h₁ _ m' htk ⟨F'.ns.extBut he₁ (Nat.ne_of_lt hL), fun b o e => he₁ b o (fun q => by rw [q, hfresh] at e; cases e) (F'.keep b o e), F'.above⟩ (fun p hp => ⟨he₁ _ _ (Nat.ne_of_lt (hI0 p hp)) (N' p hp).1, (N' p hp).2⟩) (hsz ▸ hJ)
  | some c =>
    have hlt : i < x.cps.size := (Array.getElem?_eq_some_iff.mp hc).1
    refine wpAny_pyNext_ascii_item hit' hc fun h₁ hit₁ hs₁ => ?_
    have F₁ : Fr h₀ env.locals h₁ m' := F'.change hs₁ (Nat.ne_of_gt hL) hfresh
    have N₁ : News h₀ env.locals h₁ news := fun p hp => ⟨hs₁.extBut _ _ (Nat.ne_of_lt (hI0 p hp)) (N' p hp).1, (N' p hp).2⟩
    refine wpAny_assign_Name (wpAny_storeName_local hv F₁.ns (fun h₂ hn₂ hs₂ => ?_) hp)
    refine veil fun vG hG => ?_; obtain ⟨o, ho, hoc, hod⟩ := id hit₁; refine hG ?_; clear hG vG
    have hne : s.heap.objs.size ≠ env.locals := Nat.ne_of_gt hL
    have ho₂ : h₂.get? s.heap.objs.size = some o := hs₂.extBut _ _ hne ho
    refine wpAny_mono (step i c tk m' h₂ s.heap.objs.size o (tk + 1 + 1) hc hJ htk ?_ (F₁.set hn₂ hs₂) fun p hp => ?_) (fun f s₃ h₃ => ?_) fun _ _ e => e.elim
    · exact Nat.lt_succ_of_lt (Nat.lt_succ_self _)
    · rcases List.mem_cons.mp hp with rfl | hp
      · exact ⟨ho₂, hne, hfresh⟩
      · exact N₁.set hs₂ p hp
    refine veil fun vG hG => ?_; obtain ⟨rfl, h₃', tk₃, m₃, rfl, hp₃, F₃, N₃, hJ₃⟩ := h₃; refine hG ?_; clear hG vG
    exact ⟨x.cps.size + 1 - (i + 1), by omega, h₃', tk₃, m₃, i + 1, rfl, hp₃, ⟨o, (N₃ _ List.mem_cons_self).1, hoc, hod⟩, F₃, fun p hp => N₃ p (.tail _ hp), hJ₃, hlt, rfl⟩
end
end
section
open PySem.Calls
/-- what a turn of a loop leaves -/
noncomputable def LoopOut (h₀ : Heap) (L : Addr) (s : Shared) (I : Addr) (o : Obj) (J : (Str → Option Value) → CbLed → Prop) (f : Flow) (s₂ : Shared) : Prop :=
  f = .next ∧ ∃ h' tk' m' led', s₂ = { s with heap := h', toks := tk' } ∧ Fr h₀ L h' m' ∧ News h₀ L h' ((I, o) :: led') ∧ (∀ p ∈ led', p.1 ≠ I) ∧ J m' led'
/-- the same over a ledger that stays -/
noncomputable def LoopOutC (h₀ : Heap) (L : Addr) (s : Shared) (I : Addr) (o : Obj) (led : CbLed) (J : (Str → Option Value) → Prop) (f : Flow) (s₂ : Shared) : Prop :=
  f = .next ∧ ∃ h' tk' m', s₂ = { s with heap := h', toks := tk' } ∧ Fr h₀ L h' m' ∧ News h₀ L h' ((I, o) :: led) ∧ J m'
section
variable {prog : Program} {w : World} {A : Around} {E : Value → Shared → Prop} {s : Shared} {env : Env} {h₀ : Heap} {target : Expr} {body : List Stmt} {Q : Flow → Shared → Prop}
theorem seq_inv {T : String} {ax : Addr} {lo : Obj} {vs : List Value} {n : Nat} {m₀ : Str → Option Value} {led₀ : CbLed}
    (hT : T = "tuple" ∨ T = "list") (hh : A.handled = none) (F : Fr h₀ env.locals s.heap m₀) (N : News h₀ env.locals s.heap led₀) (hc : lo.cls = .type T) (hd : lo.data = .seq vs.toArray n)
    (J : Nat → (Str → Option Value) → CbLed → Prop) (hJm : ∀ i m led, J i m led → (ax, lo) ∈ led) (h0 : J 0 m₀ led₀)
    (step : ∀ i v m₁ led h₁ tk I o, vs[i]? = some v → J i m₁ led → (∀ p ∈ led, p.1 ≠ I) → (∀ p ∈ led₀, p.1 < I) → Fr h₀ env.locals h₁ m₁ → News h₀ env.locals h₁ ((I, o) :: led) →
      wpAny (model prog w) A (assign target env v) (fun _ s₂ => wpAny (model prog w) A (execs body env) (LoopOut h₀ env.locals s I o (J (i + 1))) E s₂) E { s with heap := h₁, toks := tk })
    (hQ : ∀ h' tk m' led, Fr h₀ env.locals h' m' → News h₀ env.locals h' led → J vs.length m' led → Q .next { s with heap := h', toks := tk }) :
    wpAny (model prog w) A (pyIter (.ref ax)) (fun it s₂ => TurnsAt prog w A h₀ env target body Q E it s₂) E s := by
  have hm := hJm _ _ _ h0
  have hax := N _ hm
  have hlt : ax < s.heap.objs.size := Heap.lt_size hax.1
  have hne : ax ≠ s.heap.objs.size := Nat.ne_of_lt hlt
  have hlts : ∀ p ∈ led₀, p.1 < s.heap.objs.size := fun p hp => Heap.lt_size (N p hp).1
  have hLlt : env.locals < s.heap.objs.size := F.ns.lt
  have hLax : env.locals ≠ ax := fun e => hax.2.1 e.symm
  have core : ∀ (St : Nat → Heap → Prop) (itO : Obj), (∀ i h, St i h → ∃ o, h.get? s.heap.objs.size = some o) → St 0 (s.heap.push itO) →
      KTurns prog w A target s.heap.objs.size [s.heap.objs.size, ax] [s.heap.objs.size] vs.length (fun i v _ => vs.toArray[i]? = some v) (fun i v h => vs.toArray[i]? = some v ∧ St (i + 1) h) St →
      TurnsAt prog w A h₀ env target body Q E (.ref s.heap.objs.size) { s with heap := s.heap.push itO } := by
    intro St itO hobj hst W
    refine ⟨s.heap.objs.size, [s.heap.objs.size, ax], [s.heap.objs.size], vs.length, _, _, St, m₀, led₀, fun i m led => J i m led, rfl, W, ?_, ?_, ?_, hst, F.push _, (fun p hp => ⟨Heap.get?_push_of_some _ (N p hp).1, (N p hp).2⟩), h0, ?_, ?_⟩
    · intro hI
      rcases List.mem_cons.mp hI with e | hI
      · exact absurd hLlt (e ▸ Nat.lt_irrefl _)
      · exact hLax (List.mem_singleton.mp hI)
    · intro b hb
      rw [List.mem_singleton.mp hb]
      exact next_is_new F
    · intro p hp hI
      exact absurd (hlts p hp) ((List.mem_singleton.mp hI) ▸ Nat.lt_irrefl _)
    · intro i v m₁ news₁ h₁ tk₁ own hin hP hJ hoff hown hget hall hst₁ F₁ N₁
      obtain ⟨o, ho⟩ := hobj _ _ hst₁
      have hIo : (s.heap.objs.size, o) ∈ own := hall _ List.mem_cons_self (next_is_new F) _ ho
      have hv : vs[i]? = some v := by simpa using hP
      have hmi := hJm _ _ _ hJ
      have N₂ : News h₀ env.locals h₁ ((s.heap.objs.size, o) :: news₁) := fun p hp => by
        rcases List.mem_cons.mp hp with rfl | hp
        · exact N₁ _ (List.mem_append_left _ hIo)
        · exact N₁ _ (List.mem_append_right _ hp)
      refine wpAny_mono (step i v m₁ news₁ h₁ tk₁ s.heap.objs.size o hv hJ (fun p hp e => hoff p hp (by simpa using e)) hlts F₁ N₂) (fun _ s₂ h₂ => wpAny_mono h₂ (fun f s₃ h₃ => ?_) fun _ _ e => e) fun _ _ e => e
      refine veil fun vG hG => ?_; obtain ⟨rfl, h', tk, m', led', rfl, F', N', ho', hJ'⟩ := h₃; refine hG ?_; clear hG vG
      refine .next ⟨rfl, h', tk, m', led', rfl, F', ?_, fun p hp hI => ho' p hp (List.mem_singleton.mp hI), hJ'⟩
      intro p hp
      rcases List.mem_append.mp hp with hp | hp
      · have h2 := hget p hp
        rcases List.mem_cons.mp (hown p hp) with e | e
        · have : p = (s.heap.objs.size, o) := by
            rw [e] at h2
            exact Prod.ext e (Option.some.inj (h2.symm.trans ho))
          rw [this]; exact N' _ List.mem_cons_self
        · have e := List.mem_singleton.mp e
          have h3 := (N₁ _ (List.mem_append_right _ hmi)).1
          have : p = (ax, lo) := by
            rw [e] at h2
            exact Prod.ext e (Option.some.inj (h2.symm.trans h3))
          rw [this]; exact N' _ (.tail _ (hJm _ _ _ hJ'))
      · exact N' _ (.tail _ hp)
    · intro h' tk m' news' F' N' _ hJ
      exact hQ h' tk m' news' F' N' hJ
  rcases hT with rfl | rfl
  · have hl : s.heap.IsTuple ax vs.toArray := ⟨lo, hax.1, hc, n, hd⟩
    refine wpAny_pyIter_tuple hl ?_
    have W := KTurns.ofWalks (target := target) (Walks.tuple (prog := prog) (w := w) hh s.heap.objs.size ax hne vs.toArray) fun i v s Q E st q => letGo_tupleiter st.1 q
    refine core (fun i h => h.IsTupleIter s.heap.objs.size ax i ∧ h.IsTuple ax vs.toArray) _ (fun i h st => ?_) ⟨⟨_, Heap.get?_push_size _ rfl, rfl, rfl⟩, hl.at fun o e => Heap.get?_push_of_some _ e⟩ W
    obtain ⟨it, hit, _⟩ := st.1
    exact ⟨it, hit⟩
  · have hl : s.heap.IsList ax vs.toArray := ⟨lo, hax.1, hc, n, hd⟩
    refine wpAny_pyIter_list hl ?_
    have W := KTurns.ofWalks (target := target) (Walks.list (prog := prog) (w := w) hh s.heap.objs.size ax hne vs.toArray) fun i v s Q E st q => letGo_listiter st.1 q
    refine core (fun i h => h.IsListIter s.heap.objs.size ax i ∧ h.IsList ax vs.toArray) _ (fun i h st => ?_) ⟨⟨_, Heap.get?_push_size _ rfl, rfl, rfl⟩, hl.at fun o e => Heap.get?_push_of_some _ e⟩ W
    obtain ⟨it, hit, _⟩ := st.1
    exact ⟨it, hit⟩
theorem seq_invC {T : String} {ax : Addr} {lo : Obj} {vs : List Value} {n : Nat} {m₀ : Str → Option Value} {led₀ : CbLed}
    (hT : T = "tuple" ∨ T = "list") (hh : A.handled = none) (F : Fr h₀ env.locals s.heap m₀) (N : News h₀ env.locals s.heap led₀) (hm : (ax, lo) ∈ led₀) (hc : lo.cls = .type T) (hd : lo.data = .seq vs.toArray n)
    (J : Nat → (Str → Option Value) → Prop) (h0 : J 0 m₀)
    (step : ∀ i v m₁ h₁ tk I o, vs[i]? = some v → J i m₁ → (∀ p ∈ led₀, p.1 < I) → Fr h₀ env.locals h₁ m₁ → News h₀ env.locals h₁ ((I, o) :: led₀) →
      wpAny (model prog w) A (assign target env v) (fun _ s₂ => wpAny (model prog w) A (execs body env) (LoopOutC h₀ env.locals s I o led₀ (J (i + 1))) E s₂) E { s with heap := h₁, toks := tk })
    (hQ : ∀ h' tk m', Fr h₀ env.locals h' m' → News h₀ env.locals h' led₀ → J vs.length m' → Q .next { s with heap := h', toks := tk }) :
    wpAny (model prog w) A (pyIter (.ref ax)) (fun it s₂ => TurnsAt prog w A h₀ env target body Q E it s₂) E s := by
  refine seq_inv (lo := lo) hT hh F N hc hd (fun i m led => led = led₀ ∧ J i m) (fun i m led h => h.1 ▸ hm) ⟨rfl, h0⟩ ?_ ?_
  · rintro i v m₁ led h₁ tk I o hv ⟨rfl, hJ⟩ hoff hlt F₁ N₁
    refine wpAny_mono (step i v m₁ h₁ tk I o hv hJ hlt F₁ N₁) (fun _ s₂ h₂ => wpAny_mono h₂ (fun f s₃ h₃ => ?_) fun _ _ e => e) fun _ _ e => e
    refine veil fun vG hG => ?_; obtain ⟨rfl, h', tk', m', rfl, F', N', hJ'⟩ := h₃; refine hG ?_; clear hG vG
    exact ⟨rfl, h', tk', m', led, rfl, F', N', hoff, rfl, hJ'⟩
  · rintro h' tk m' led F' N' ⟨rfl, hJ⟩
    exact hQ h' tk m' F' N' hJ
end
end
section
theorem len_replace (x y z : Str) : (Txt.replace x y z).length ≤ x.length + (x.length + 1) * z.length := by
  unfold Txt.replace
  split
  · exact Nat.le_add_right _ _
  · have h1 := StrLaws.occ_length_le x y 0 x.length (x.length + 1)
    have hy : (Builtin.Str.glued y (Builtin.Str.partsBetween x (Builtin.Str.occurrences x y 0 x.length (x.length + 1)) y.length)).length = x.length := by rw [StrLaws.glued_between_self]
    rw [size_glued, length_partsBetween, Nat.add_sub_cancel] at hy
    rw [size_glued, length_partsBetween, Nat.add_sub_cancel]
    have h2 : (Builtin.Str.occurrences x y 0 x.length (x.length + 1)).length * z.length ≤ (x.length + 1) * z.length := Nat.mul_le_mul_right _ h1
    omega
theorem size_ok {X z : Str} (h : X.length + 1 ≤ 2000) (hz : z.length ≤ 14) : X.length + (X.length + 1) * z.length ≤ 16777216 := by
  have h1 : (X.length + 1) * z.length ≤ 2000 * 14 := Nat.mul_le_mul h hz
  omega
noncomputable def tyPairs : List (Str × Str) := [(Str.ofString "ff", Str.ofString "ﬀ"), (Str.ofString "fi", Str.ofString "ﬁ"), (Str.ofString "kk", Str.ofString "㏍")]
noncomputable def ty1 (a : Str × Int) (p : Str × Str) : Str × Int := (if a.2.fmod 2 = 1 then Txt.replace a.1 p.1 p.2 else a.1, a.2.fdiv 2)
noncomputable def alphs : List Int := [0, 1, 2, 4, 7, 8, 9, 10, 11, 12]
noncomputable def tySign (form : Int) (c : Nat) : Int := if form = 1 then (c : Int) - 32 else 119808 + 52 * alphs.getD (form - 2).toNat 0 + c - 97
noncomputable def ty2 (a : Str × Int) (c : Nat) : Str × Int := (if a.2.fmod 12 = 0 then a.1 else Txt.replace a.1 ⟨#[c]⟩ ⟨#[(tySign (a.2.fmod 12) c).toNat]⟩, a.2.fdiv 12)
noncomputable def tyA (x : Str) (n : Int) (i : Nat) : Str × Int := (tyPairs.take i).foldl ty1 (x, n)
noncomputable def fik : Str := Str.ofString "fik"
noncomputable def tyB (a : Str × Int) (i : Nat) : Str × Int := ((fik.cps.toList).take i).foldl ty2 a
noncomputable def typedF (x : Str) (n : Int) : Str := (tyB (tyA x n 3) 3).1
theorem ty1_len (a : Str × Int) (p : Str × Str) (hz : p.2.length = 1) : (ty1 a p).1.length + 1 ≤ 2 * (a.1.length + 1) := by
  unfold ty1
  dsimp only
  split
  · have := len_replace a.1 p.1 p.2
    rw [hz, Nat.mul_one] at this
    omega
  · omega
theorem ty2_len (a : Str × Int) (c : Nat) : (ty2 a c).1.length + 1 ≤ 2 * (a.1.length + 1) := by
  unfold ty2
  dsimp only
  split
  · omega
  · have := len_replace a.1 ⟨#[c]⟩ ⟨#[(tySign (a.2.fmod 12) c).toNat]⟩
    rw [show (⟨#[(tySign (a.2.fmod 12) c).toNat]⟩ : Str).length = 1 from rfl, Nat.mul_one] at this
    omega
theorem take_next {α : Type} : ∀ (l : List α) (i : Nat) (c : α), l[i]? = some c → l.take (i + 1) = l.take i ++ [c]
  | [], _, _, h => by simp at h
  | a :: r, 0, c, h => by simp at h; simp [h]
  | a :: r, i + 1, c, h => by
    have := take_next r i c (by simpa using h)
    rw [List.take_succ_cons, List.take_succ_cons, this]; rfl
theorem tyB_next (a : Str × Int) (i c : Nat) (h : (Str.ofString "fik").cps[i]? = some c) : tyB a (i + 1) = ty2 (tyB a i) c := by
  unfold tyB
  rw [take_next _ i c (by unfold fik; simpa using h), List.foldl_append]
  rfl
theorem fik_sign (i c : Nat) (h : (Str.ofString "fik").cps[i]? = some c) : i < 3 ∧ 102 ≤ c ∧ c ≤ 107 := by
  have e : (Str.ofString "fik").cps = #[102, 105, 107] := by decide
  rw [e] at h
  match i, h with
  | 0, h => simp at h; omega
  | 1, h => simp at h; omega
  | 2, h => simp at h; omega
  | i + 3, h => simp at h
theorem chr_ne {c d : Nat} (h : c ≠ d) : ((⟨#[c]⟩ : Str) == ⟨#[d]⟩) = false := by
  rw [beq_eq_false_iff_ne]
  intro e
  injection e with e
  injection e with e
  injection e with e
  exact h e
theorem alph_le (k : Nat) : 0 ≤ ([0, 1, 2, 4, 7, 8, 9, 10, 11, 12] : List Int).getD k 0 ∧ ([0, 1, 2, 4, 7, 8, 9, 10, 11, 12] : List Int).getD k 0 ≤ 12 := by
  rw [List.getD_eq_getElem?_getD]
  cases e : ([0, 1, 2, 4, 7, 8, 9, 10, 11, 12] : List Int)[k]? with
  | none => decide
  | some v =>
    have : ∀ v ∈ ([0, 1, 2, 4, 7, 8, 9, 10, 11, 12] : List Int), 0 ≤ v ∧ v ≤ 12 := by decide
    exact this v (List.mem_of_getElem? e)
theorem chr_alph (k : Nat) {c : Nat} (h1 : 102 ≤ c) (h2 : c ≤ 107) : 0 ≤ 119808 + 52 * ([0, 1, 2, 4, 7, 8, 9, 10, 11, 12] : List Int).getD k 0 + (c : Int) - 97 ∧ 119808 + 52 * ([0, 1, 2, 4, 7, 8, 9, 10, 11, 12] : List Int).getD k 0 + (c : Int) - 97 ≤ 1114111 := by
  have := alph_le k
  omega
theorem alph_ne (k : Nat) {c : Nat} (h2 : c ≤ 107) : c ≠ (119808 + 52 * ([0, 1, 2, 4, 7, 8, 9, 10, 11, 12] : List Int).getD k 0 + (c : Int) - 97).toNat := by
  have := alph_le k
  omega
inductive TypJ (f : Nat → Str × Int) (z : Nat) (i : Nat) (m : Str → Option Value) : Prop
  | mk (tx) (th) (p1 : m (Str.ofString "text") = some (.str (f i).1 tx)) (p2 : m (Str.ofString "heap") = some (.int (f i).2 th)) (p3 : (f i).1.length + 1 ≤ z * 2 ^ i) : TypJ f z i m
theorem tyOut {m' : Str → Option Value} {f : Nat → Str × Int} {z i : Nat} {X : Str} {H : Int} {tx th : Tok} (ht : m' (Str.ofString "text") = some (.str X tx)) (hh : m' (Str.ofString "heap") = some (.int H th)) (eX : (f i).1 = X) (eH : (f i).2 = H) (hl : (f i).1.length + 1 ≤ z * 2 ^ i) :
    TypJ f z i m' := ⟨tx, th, by rw [eX]; exact ht, by rw [eH]; exact hh, hl⟩
section
variable (w : World) {lo : List Str} {mean : ExcName → Option Value} {mg mb : Str → Option Value}
set_option maxHeartbeats 4000000
local macro_rules | `(tactic| walk_at "execs cons For") => `(tactic| refine Stop.intro ?_)
local macro_rules | `(tactic| walk_at "execs cons") => `(tactic| (refine gen_toks (fun tk hle => ?_); (try dsimp only at hle); (with_reducible refine wpAny_execs_cons ?_); try dsimp only))
local macro_rules | `(tactic| walk_at "execs nil") => `(tactic| ((with_reducible refine wpAny_execs_nil ?_); try dsimp only))
local macro_rules | `(tactic| walk_at "call builtin:str.replace") => `(tactic| k_dflt (refine SC.replace ?a ?b ?c ?d ?e (fun t' k' => ?_); (case a => (show (_ : Nat) ≠ _; omega)); (case b => (show (_ : Nat) ≠ _; omega)); (case c => (show (_ : Nat) ≠ _; omega)); (case d => first | decide | exact chr_ne (by (try dsimp only); omega) | exact chr_ne (alph_ne _ (by assumption))); (case e => exact size_ok (by omega) (by first | decide | exact Nat.le_of_ble_eq_true rfl))))
local macro_rules | `(tactic| walk_at "eval Name") => `(tactic| k_dflt (refine ld (by assumption) (by (try dsimp only); repeat (first | assumption | exact if_pos rfl | refine (if_neg (by decide)).trans ?_)) ?_ rfl rfl (by decide)))
local macro_rules | `(tactic| walk_at "call builtin:chr") => `(tactic| k_dflt (first | refine chr_of_range (by omega) (by omega) ?_ | refine chr_of_range (chr_alph _ (by assumption) (by assumption)).1 (chr_alph _ (by assumption) (by assumption)).2 ?_))
theorem typed_spec (news : CbLed) (x : Str) (t : Tok) (n : Int) (u : Tok) (hx : x.length + 1 ≤ 17) : SpecT w lo mean mg mb 243 news [.str x t, .int n u] 1 8 (IsStrV (typedF x n)) := by
  unfold SpecT
  k_fill
  intro dp un gd cn cs a ccd cl outer A₀ base h₀ L m s Q E B F X N T hk hd hu hD hpos hret
  refine wpAny_call ?_
  k_dflt cell_enter
  k_steps
  refine Stop.go ?_
  refine gen_toks fun tk0 htk0 => ?_
  refine wpAny_execs_cons ?_
  refine growE ?_
  refine For_turns (by assumption) ?_
  have hp0 : 0 < tk0 := by omega
  clear htk0
  k_steps
  rename_i D h' F' N' l0
  refine seq_invC (.inl rfl) rfl F' N' (.head _) rfl rfl (TypJ (tyA x n) 17) ⟨_, _, rfl, rfl, by show x.length + 1 ≤ 17 * 1; exact hx⟩ ?_ ?_
  · rintro i v m₁ h₁ tk I o hv ⟨tx, th, ht, hh, hl⟩ hI F₁ N₁
    match i, hv, ht, hh, hl with
    | 0, hv, ht, hh, hl =>
      obtain rfl := Option.some.inj hv
      have e : tyA x n (0 + 1) = ty1 (tyA x n 0) (Str.ofString "ff", Str.ofString "ﬀ") := rfl
      have hl2 := ty1_len (tyA x n 0) (Str.ofString "ff", Str.ofString "ﬀ") (by decide)
      rw [← e] at hl2
      k_steps
      · have e1 : (ty1 (tyA x n 0) (Str.ofString "ff", Str.ofString "ﬀ")).1 = Txt.replace (tyA x n 0).1 (Str.ofString "ff") (Str.ofString "ﬀ") := if_pos (by assumption)
        exact ⟨rfl, _, _, _, rfl, by assumption, by assumption, tyOut (by (try dsimp only); repeat (first | assumption | exact if_pos rfl | refine (if_neg (by decide)).trans ?_)) (by (try dsimp only); repeat (first | assumption | exact if_pos rfl | refine (if_neg (by decide)).trans ?_)) e1 rfl (by omega)⟩
      · have e1 : (ty1 (tyA x n 0) (Str.ofString "ff", Str.ofString "ﬀ")).1 = (tyA x n 0).1 := if_neg (by assumption)
        exact ⟨rfl, _, _, _, rfl, by assumption, by assumption, tyOut (by (try dsimp only); repeat (first | assumption | exact if_pos rfl | refine (if_neg (by decide)).trans ?_)) (by (try dsimp only); repeat (first | assumption | exact if_pos rfl | refine (if_neg (by decide)).trans ?_)) e1 rfl (by omega)⟩
    | 1, hv, ht, hh, hl =>
      obtain rfl := Option.some.inj hv
      have e : tyA x n (1 + 1) = ty1 (tyA x n 1) (Str.ofString "fi", Str.ofString "ﬁ") := rfl
      have hl2 := ty1_len (tyA x n 1) (Str.ofString "fi", Str.ofString "ﬁ") (by decide)
      rw [← e] at hl2
      k_steps
      · have e1 : (ty1 (tyA x n 1) (Str.ofString "fi", Str.ofString "ﬁ")).1 = Txt.replace (tyA x n 1).1 (Str.ofString "fi") (Str.ofString "ﬁ") := if_pos (by assumption)
        exact ⟨rfl, _, _, _, rfl, by assumption, by assumption, tyOut (by (try dsimp only); repeat (first | assumption | exact if_pos rfl | refine (if_neg (by decide)).trans ?_)) (by (try dsimp only); repeat (first | assumption | exact if_pos rfl | refine (if_neg (by decide)).trans ?_)) e1 rfl (by omega)⟩
      · have e1 : (ty1 (tyA x n 1) (Str.ofString "fi", Str.ofString "ﬁ")).1 = (tyA x n 1).1 := if_neg (by assumption)
        exact ⟨rfl, _, _, _, rfl, by assumption, by assumption, tyOut (by (try dsimp only); repeat (first | assumption | exact if_pos rfl | refine (if_neg (by decide)).trans ?_)) (by (try dsimp only); repeat (first | assumption | exact if_pos rfl | refine (if_neg (by decide)).trans ?_)) e1 rfl (by omega)⟩
    | 2, hv, ht, hh, hl =>
      obtain rfl := Option.some.inj hv
      have e : tyA x n (2 + 1) = ty1 (tyA x n 2) (Str.ofString "kk", Str.ofString "㏍") := rfl
      have hl2 := ty1_len (tyA x n 2) (Str.ofString "kk", Str.ofString "㏍") (by decide)
      rw [← e] at hl2
      k_steps
      · have e1 : (ty1 (tyA x n 2) (Str.ofString "kk", Str.ofString "㏍")).1 = Txt.replace (tyA x n 2).1 (Str.ofString "kk") (Str.ofString "㏍") := if_pos (by assumption)
        exact ⟨rfl, _, _, _, rfl, by assumption, by assumption, tyOut (by (try dsimp only); repeat (first | assumption | exact if_pos rfl | refine (if_neg (by decide)).trans ?_)) (by (try dsimp only); repeat (first | assumption | exact if_pos rfl | refine (if_neg (by decide)).trans ?_)) e1 rfl (by omega)⟩
      · have e1 : (ty1 (tyA x n 2) (Str.ofString "kk", Str.ofString "㏍")).1 = (tyA x n 2).1 := if_neg (by assumption)
        exact ⟨rfl, _, _, _, rfl, by assumption, by assumption, tyOut (by (try dsimp only); repeat (first | assumption | exact if_pos rfl | refine (if_neg (by decide)).trans ?_)) (by (try dsimp only); repeat (first | assumption | exact if_pos rfl | refine (if_neg (by decide)).trans ?_)) e1 rfl (by omega)⟩
  · rintro h₁ tk m₁ F₁ N₁ ⟨tx, th, ht, hh, hl⟩
    intro hle
    dsimp only at hle
    clear l0 N' F'
    k_steps
    refine Stop.go ?_
    dsimp only
    refine gen_toks fun tk1 htk1 => wpAny_execs_cons ?_
    have hp1 : 0 < tk1 := by omega
    refine for_ascii (x := Str.ofString "fik") rfl rfl rfl (by decide +kernel) (by assumption) (by assumption) hp1 (TypJ (tyB (tyA x n 3)) 136) ⟨_, _, ht, hh, hl⟩ ?_ ?_
    · rintro i c u1 m₁ h₁ I o tk2 hc ⟨tx, th, ht, hh, hl⟩ hu1 hu2 F₁ N₁
      replace hu1 : @LT.lt Nat _ 0 u1 := hu1
      replace hu2 : @LT.lt Nat _ u1 tk2 := hu2
      have e := tyB_next (tyA x n 3) i c hc
      have hl2 := ty2_len (tyB (tyA x n 3) i) c
      rw [← e] at hl2
      obtain ⟨hi, hc1, hc2⟩ := fik_sign i c hc
      have hi2 : 2 ^ i ≤ 4 := by
        have : i ≤ 2 := by omega
        exact Nat.pow_le_pow_right (by decide) this
      clear hc
      k_steps
      · have e1 : (ty2 (tyB (tyA x n 3) i) c).1 = Txt.replace (tyB (tyA x n 3) i).1 ⟨#[c]⟩ ⟨#[((c : Int) - 32).toNat]⟩ := by
          have h1 : (tyB (tyA x n 3) i).2.fmod 12 = 1 := by assumption
          unfold ty2 tySign; dsimp only
          rw [if_neg (by omega), if_pos h1]
        exact ⟨rfl, _, _, _, rfl, by omega, by assumption, by assumption, tyOut (by (try dsimp only); repeat (first | assumption | exact if_pos rfl | refine (if_neg (by decide)).trans ?_)) (by (try dsimp only); repeat (first | assumption | exact if_pos rfl | refine (if_neg (by decide)).trans ?_)) ((congrArg Prod.fst e).trans e1) (by rw [e]; rfl) (by omega)⟩
      · have e1 : (ty2 (tyB (tyA x n 3) i) c).1 = Txt.replace (tyB (tyA x n 3) i).1 ⟨#[c]⟩ ⟨#[(119808 + 52 * ([0, 1, 2, 4, 7, 8, 9, 10, 11, 12] : List Int).getD ((tyB (tyA x n 3) i).2.fmod 12 - 2).toNat 0 + (c : Int) - 97).toNat]⟩ := by
          have h1 : 1 < (tyB (tyA x n 3) i).2.fmod 12 := by assumption
          unfold ty2 tySign; dsimp only
          rw [if_neg (by omega), if_neg (by omega)]; rfl
        exact ⟨rfl, _, _, _, rfl, by omega, by assumption, (fun p hp => ‹News _ _ _ (_ :: (I, o) :: _)› p (.tail _ hp)), tyOut (by (try dsimp only); repeat (first | assumption | exact if_pos rfl | refine (if_neg (by decide)).trans ?_)) (by (try dsimp only); repeat (first | assumption | exact if_pos rfl | refine (if_neg (by decide)).trans ?_)) ((congrArg Prod.fst e).trans e1) (by rw [e]; rfl) (by omega)⟩
      · have e1 : (ty2 (tyB (tyA x n 3) i) c).1 = (tyB (tyA x n 3) i).1 := by
          have h0 := Int.fmod_nonneg_of_pos (tyB (tyA x n 3) i).2 (by decide : (0 : Int) < 12)
          unfold ty2; dsimp only
          have h1 : (tyB (tyA x n 3) i).2.fmod 12 ≠ 1 := by assumption
          have h2 : ¬ 1 < (tyB (tyA x n 3) i).2.fmod 12 := by assumption
          rw [if_pos (by omega)]
        exact ⟨rfl, _, _, _, rfl, by omega, by assumption, by assumption, tyOut (by (try dsimp only); repeat (first | assumption | exact if_pos rfl | refine (if_neg (by decide)).trans ?_)) (by (try dsimp only); repeat (first | assumption | exact if_pos rfl | refine (if_neg (by decide)).trans ?_)) ((congrArg Prod.fst e).trans e1) (by rw [e]; rfl) (by omega)⟩
    · rintro h₁ tk m₁ hp2 F₁ N₁ ⟨tx, th, ht, hh, hl⟩
      k_steps
      exact hret _ [] _ _ (by assumption) (fun p hp => ‹News h₀ _ _ (_ :: _ :: _ :: _ :: news)› p (.tail _ (.tail _ (.tail _ (.tail _ hp))))) ⟨rfl, _, rfl⟩
end
end
section
noncomputable def orderStep (a : List Int × List Int × Int) (many : Int) : List Int × List Int × Int :=
  (a.1 ++ [a.2.1.getD (a.2.2.fmod many).toNat 0], a.2.1.eraseIdx (a.2.2.fmod many).toNat, a.2.2.fdiv many)
noncomputable def orderAt (n : Int) (i : Nat) : List Int × List Int × Int := (([5, 4, 3, 2, 1] : List Int).take i).foldl orderStep ([], [1, 2, 3, 4, 5], n)
noncomputable def orderF (n : Int) : List Int := (orderAt n 5).1
theorem take_nextO {α : Type} : ∀ (l : List α) (i : Nat) (c : α), l[i]? = some c → l.take (i + 1) = l.take i ++ [c]
  | [], _, _, h => by simp at h
  | a :: r, 0, c, h => by simp at h; simp [h]
  | a :: r, i + 1, c, h => by
    have := take_nextO r i c (by simpa using h)
    rw [List.take_succ_cons, List.take_succ_cons, this]; rfl
theorem orderAt_next (n : Int) (i : Nat) (h : i < 5) : orderAt n (i + 1) = orderStep (orderAt n i) (5 - (i : Int)) := by
  unfold orderAt
  rw [take_nextO _ i (5 - (i : Int)) (by match i, h with | 0, _ => rfl | 1, _ => rfl | 2, _ => rfl | 3, _ => rfl | 4, _ => rfl), List.foldl_append]
  rfl
theorem fmod_bd (n k : Int) (h : 0 < k) : 0 ≤ n.fmod k ∧ n.fmod k < k := ⟨Int.fmod_nonneg_of_pos n h, Int.fmod_lt_of_pos n h⟩
theorem orderAt_left (n : Int) : ∀ i, i ≤ 5 → (orderAt n i).2.1.length = 5 - i
  | 0, _ => rfl
  | i + 1, h => by
    rw [orderAt_next n i (by omega)]
    have ih := orderAt_left n i (by omega)
    have b := fmod_bd (orderAt n i).2.2 (5 - (i : Int)) (by omega)
    unfold orderStep
    dsimp only
    rw [List.length_eraseIdx, if_pos (by omega)]
    omega
theorem orderAt_len (n : Int) : ∀ i, i ≤ 5 → (orderAt n i).1.length = i
  | 0, _ => rfl
  | i + 1, h => by
    rw [orderAt_next n i (by omega)]
    have ih := orderAt_len n i (by omega)
    unfold orderStep
    dsimp only
    rw [List.length_append, ih]
    rfl
theorem ints_getD {vs : List Value} {l : List Int} {j : Nat} (r : IntsAre vs l) (h : j < vs.length) : ∃ t p q, vs = p ++ .int (l.getD j 0) t :: q ∧ p.length = j ∧ vs.eraseIdx j = p ++ q ∧ IntsAre (p ++ q) (l.eraseIdx j) := by
  induction r generalizing j with
  | nil => exact absurd h (Nat.not_lt_zero _)
  | cons n t r ih =>
    cases j with
    | zero => exact ⟨t, [], _, rfl, rfl, rfl, r⟩
    | succ j =>
      obtain ⟨t', p, q, e1, e2, e3, e4⟩ := ih (Nat.lt_of_succ_lt_succ h)
      exact ⟨t', .int n t :: p, q, by rw [e1]; rfl, by rw [← e2]; rfl, by rw [List.eraseIdx_cons_succ, e3]; rfl, .cons n t e4⟩
theorem ints_len {vs : List Value} {l : List Int} (q : IntsAre vs l) : vs.length = l.length := by
  induction q with
  | nil => rfl
  | cons _ _ _ ih => exact congrArg Nat.succ ih
theorem ints_snoc {n : Int} {t : Tok} {vs : List Value} {l : List Int} (q : IntsAre vs l) : IntsAre (vs ++ [.int n t]) (l ++ [n]) := by
  induction q with
  | nil => exact .cons _ _ .nil
  | cons _ _ _ ih => exact .cons _ _ ih
theorem kl_cut_at (y : Value) (q : List Value) : ∀ p : List Value, kl_cut (p ++ y :: q) p.length = some (p, y, q)
  | [] => rfl
  | x :: p => by
    show kl_cut (x :: (p ++ y :: q)) (p.length + 1) = _
    unfold kl_cut
    rw [kl_cut_at y q p]
theorem upd_mid {d : Addr} {o o' : Obj} {post : CbLed} (b : ∀ p ∈ post, p.1 ≠ d) : ∀ (pre : CbLed), (∀ p ∈ pre, p.1 ≠ d) → Upd d o o' (pre ++ (d, o) :: post) (pre ++ (d, o') :: post)
  | [], _ => Upd.head b
  | x :: r, a => Upd.tail (a x List.mem_cons_self) (upd_mid b r fun p hp => a p (.tail _ hp))
section
variable {prog : Program} {w : World} {A : Around} {E : Value → Shared → Prop} {s : Shared} {h₀ : Heap} {L D : Addr} {m : Str → Option Value} {news : CbLed}
theorem pop_ints {us : List Value} {l : List Int} {i : Int} {u : Tok} {n : Nat} {Q : Value → Shared → Prop} (pre post : CbLed) (F : Fr h₀ L s.heap m) (N : News h₀ L s.heap (pre ++ (D, listOf us.toArray n) :: post)) (a : ∀ p ∈ pre, p.1 ≠ D) (b : ∀ p ∈ post, p.1 ≠ D)
    (hi : IntsAre us l) (h0 : 0 ≤ i) (h1 : i < us.length) (hz : us.length ≤ 100)
    (h : ∀ h' t vs, Fr h₀ L h' m → News h₀ L h' (pre ++ (D, listOf (List.toArray vs) (n + 1)) :: post) → IntsAre vs (l.eraseIdx i.toNat) → Q (.int (l.getD i.toNat 0) t) { s with heap := h' }) :
    wpAny (model prog w) A (call (.builtin "list.pop") [.ref D, .int i u]) Q E s := by
  refine veil fun vG hG => ?_; obtain ⟨t, p, q, e1, e2, e3, e4⟩ := ints_getD (j := i.toNat) hi (by omega); refine hG ?_; clear hG vG
  refine kl_popAt (its := us.toArray) (n := n) (k := i.toNat) (p := p) (q := q) F N ?_ ?_ ?_ (upd_mid b pre a) (by rw [sizeLine_eq]; show us.length ≤ _; omega) fun h' F' N' => h h' t _ F' N' e4
  · unfold Builtin.List.listFitsIndex
    simp only [Bool.and_eq_true, decide_eq_true_eq]
    omega
  · unfold PySem.seqIndex?
    have e1 : ¬ i < 0 := by omega
    have e2 : i < (us.toArray.size : Int) := by show i < ((us.length : Nat) : Int); omega
    simp only [e1, if_false, h0, e2, decide_true, Bool.and_self, if_true]
  · show kl_cut us i.toNat = _
    have := kl_cut_at (.int (l.getD i.toNat 0) t) q p
    rw [← e1, e2] at this
    exact this
theorem push_int {us : List Value} {l : List Int} {x : Int} {u : Tok} {n : Nat} {Q : Value → Shared → Prop} (pre post : CbLed) (F : Fr h₀ L s.heap m) (N : News h₀ L s.heap (pre ++ (D, listOf us.toArray n) :: post)) (a : ∀ p ∈ pre, p.1 ≠ D) (b : ∀ p ∈ post, p.1 ≠ D)
    (hi : IntsAre us l) (hz : us.length ≤ 100)
    (h : ∀ h' vs, Fr h₀ L h' m → News h₀ L h' (pre ++ (D, listOf (List.toArray vs) (n + 1)) :: post) → IntsAre vs (l ++ [x]) → Q .none { s with heap := h' }) :
    wpAny (model prog w) A (call (.builtin "list.append") [.ref D, .int x u]) Q E s := by
  refine append_K F N (upd_mid b pre a) (fun h' F' N' => ?_) (by rw [sizeLine_eq]; show us.length ≤ _; omega)
  rw [List.push_toArray] at N'
  exact h h' _ F' N' (ints_snoc hi)
end
section
variable (w : World) {lo : List Str} {mean : ExcName → Option Value} {mg mb : Str → Option Value}
set_option maxHeartbeats 4000000
noncomputable abbrev IsIntsV (l : List Int) (v : Value) (new : CbLed) : Prop := ∃ a us k, v = .ref a ∧ new = [(a, listOf (List.toArray us) k)] ∧ IntsAre us l
local macro_rules | `(tactic| walk_at "binaryOp Mod int int") => `(tactic| k_dflt (refine PyProof.Rows.mod_int (by omega) ?_ (Or.inl (PyProof.noPylong_small (by omega)))))
local macro_rules | `(tactic| walk_at "binaryOp FloorDiv int int") => `(tactic| k_dflt (refine PyProof.Rows.floordiv_int (by omega) ?_ (Or.inl (PyProof.noPylong_small (by omega)))))
local macro_rules | `(tactic| walk_at "eval Name") => `(tactic| k_dflt (refine ld (by assumption) (by (try dsimp only); repeat (first | assumption | exact if_pos rfl | refine (if_neg (by decide)).trans ?_)) ?_ rfl rfl (by decide)))
inductive OrdJ (x : Int) (q : Addr × Obj) (aO aL : Addr) (news : CbLed) (i : Nat) (m : Str → Option Value) (led : CbLed) : Prop
  | mk (us) (vs) (k1) (k2) (th) (p1 : led = q :: (aO, listOf (List.toArray us) k1) :: (aL, listOf (List.toArray vs) k2) :: news) (p2 : IntsAre us (orderAt x i).1) (p3 : IntsAre vs (orderAt x i).2.1) (p4 : m (Str.ofString "order") = some (.ref aO)) (p5 : m (Str.ofString "left") = some (.ref aL)) (p6 : m (Str.ofString "heap") = some (.int (orderAt x i).2.2 th)) : OrdJ x q aO aL news i m led
theorem order_spec (news : CbLed) (x : Int) (t : Tok) : Spec w lo mean mg mb 226 news [.int x t] 1 8 (IsIntsV (orderF x)) := by
  unfold Spec
  k_fill
  intro dp un gd cn cs a ccd cl outer A₀ base h₀ L m s Q E B F X N T hk hd hu hD hret
  refine wpAny_call ?_
  k_dflt cell_enter
  k_steps
  rename_i aL hA lA hB tk aO hC lO hD' D h' F' N' l0
  have hO : (aL : Nat) < aO := lO.1
  have hD1 : (aO : Nat) < D := l0.1
  have hnl : ∀ p ∈ news, (p.1 : Nat) < aL := lA
  refine seq_inv (ax := D) (T := "tuple") (.inl rfl) rfl F' N' rfl rfl (OrdJ x _ aO aL news)
    (fun i m led hJ => by obtain ⟨us, vs, k1, k2, th, rfl, _, _, _, _, _⟩ := hJ; exact .head _) ⟨[], _, 0, 0, _, rfl, .nil, .cons _ _ (.cons _ _ (.cons _ _ (.cons _ _ (.cons _ _ .nil)))), rfl, rfl, rfl⟩ ?_ ?_
  · intro i v m₁ led h₁ tk₁ I o hv z1 hoff hlt F₁ N₁; refine veil fun vG hG => ?_; obtain ⟨us, vs, k1, k2, th, rfl, hus, hvs, mO, mL, mH⟩ := z1; refine hG ?_; clear hG vG
    have hi : i < 5 := by
      rcases Nat.lt_or_ge i 5 with h | h
      · exact h
      · exact absurd hv (by rw [List.getElem?_eq_none (by simpa using h)]; simp)
    obtain ⟨tv, rfl⟩ : ∃ tv, v = .int (5 - (i : Int)) tv := by
      match i, hi, hv with
      | 0, _, hv => exact ⟨_, (Option.some.inj hv).symm⟩
      | 1, _, hv => exact ⟨_, (Option.some.inj hv).symm⟩
      | 2, _, hv => exact ⟨_, (Option.some.inj hv).symm⟩
      | 3, _, hv => exact ⟨_, (Option.some.inj hv).symm⟩
      | 4, _, hv => exact ⟨_, (Option.some.inj hv).symm⟩
    have e := orderAt_next x i hi
    have hl := orderAt_left x i (by omega)
    have hl2 := ints_len hvs
    have b := fmod_bd (orderAt x i).2.2 (5 - (i : Int)) (by omega)
    clear hv
    have i1 : (aL : Nat) < I := hlt (aL, _) (.tail _ (.tail _ (.head _)))
    have i2 : (aO : Nat) < I := hlt (aO, _) (.tail _ (.head _))
    have i3 : (D : Nat) < I := hlt (D, _) (.head _)
    k_steps
    refine pop_ints [_, _, _] news (by assumption) (by assumption) (List.forall_mem_cons.mpr ⟨Nat.ne_of_gt i1, List.forall_mem_cons.mpr ⟨Nat.ne_of_gt (Nat.lt_trans hO hD1), List.forall_mem_cons.mpr ⟨Nat.ne_of_gt hO, fun _ h => nomatch h⟩⟩⟩) (fun p hp => Nat.ne_of_lt (hnl p hp)) hvs b.1 (by omega) (by omega) fun h2 t2 vs2 F2 N2 hvs2 => ?_
    dsimp only [List.cons_append, List.nil_append] at N2
    k_steps
    have hl3 := ints_len hus
    have hl4 := orderAt_len x i (by omega)
    refine push_int [_, _] _ (by assumption) (by assumption) (List.forall_mem_cons.mpr ⟨Nat.ne_of_gt i2, List.forall_mem_cons.mpr ⟨Nat.ne_of_gt hD1, fun _ h => nomatch h⟩⟩) (List.forall_mem_cons.mpr ⟨Nat.ne_of_lt hO, fun p hp => Nat.ne_of_lt (Nat.lt_trans (hnl p hp) hO)⟩) hus (by omega) fun h3 us3 F3 N3 hus3 => ?_
    dsimp only [List.cons_append, List.nil_append] at N3
    k_steps
    exact ⟨rfl, _, _, _, _, rfl, by assumption, by assumption, List.forall_mem_cons.mpr ⟨Nat.ne_of_lt i3, List.forall_mem_cons.mpr ⟨Nat.ne_of_lt i2, List.forall_mem_cons.mpr ⟨Nat.ne_of_lt i1, fun p hp => Nat.ne_of_lt (Nat.lt_trans (hnl p hp) i1)⟩⟩⟩, us3, vs2, _, _, _, rfl, by rw [e]; exact hus3, by rw [e]; exact hvs2, (by (try dsimp only); repeat (first | assumption | exact if_pos rfl | refine (if_neg (by decide)).trans ?_)), (by (try dsimp only); repeat (first | assumption | exact if_pos rfl | refine (if_neg (by decide)).trans ?_)), by rw [e]; exact if_pos rfl⟩
  · intro h₁ tk₁ m₁ led F₁ N₁ z1; refine veil fun vG hG => ?_; obtain ⟨us, vs, k1, k2, th, rfl, hus, hvs, mO, mL, mH⟩ := z1; refine hG ?_; clear hG vG
    k_steps
    exact hret _ [_] _ _ (by assumption) (fun p hp => by
      rcases List.mem_cons.mp hp with rfl | hp
      · exact ‹News h₀ _ _ (_ :: _ :: _ :: news)› _ (.tail _ (.head _))
      · exact ‹News h₀ _ _ (_ :: _ :: _ :: news)› _ (.tail _ (.tail _ (.tail _ hp)))) ⟨_, _, _, rfl, rfl, hus⟩
end
end
section
noncomputable def columnF (x : Str) (n : Int) : Int := (List.foldl (fun (σ : Int × Unit) k => if (k == Str.ofString " ") = true then (σ.fst + 1, ()) else ((σ.fst.fdiv n + 1) * n, ())) (0, ()) (signs x)).fst
section
variable (w : World) {lo : List Str} {mean : ExcName → Option Value} {mg mb : Str → Option Value}
set_option maxHeartbeats 4000000
local macro_rules | `(tactic| walk_at "binaryOp FloorDiv int int") => `(tactic| k_dflt (refine PyProof.Rows.floordiv_int (by omega) ?_ (Or.inl (PyProof.noPylong_small (by omega)))))
theorem column_spec (news : CbLed) (x : Str) (t : Tok) (n : Int) (u : Tok) (hx : x.length ≤ 1000) (hn : 0 < n ∧ n < 1000) : Spec w lo mean mg mb 271 news [.str x t, .int n u] 1 8 (IsIntV (columnF x n)) := by
  unfold Spec
  k_fill
  intro dp un gd cn cs a ccd cl outer A₀ base h₀ L m s Q E B F X N T hk hd hu hD hret
  refine wpAny_call ?_
  k_dflt cell_enter
  k_steps
  exact hret _ [] _ _ (by assumption) (by assumption) ⟨rfl, _, rfl⟩
end
end
section
/-- a contract that asks of the caller's ground -/
noncomputable abbrev SpecP (Pre : Heap → Prop) (w : World) (lo : List Str) (mean : ExcName → Option Value) (mg mb : Str → Option Value) (f : Addr) (news : CbLed) (vs : List Value) (dk uk : Nat) (Post : Value → CbLed → Prop) : Prop :=
  ∀ (dp un : Nat) (gd : Option (List Code)) (cn : Str) (cs : Scope) (a : Addr) (ccd : Value) (cl : List (Str × Addr)) (outer : List Env) (A₀ : Around) (base h₀ : Heap) (L : Addr) (m : Str → Option Value) (s : Shared) (Q E : Value → Shared → Prop),
    Below A₀ base outer h₀ → Fr h₀ L s.heap m → (K w.params).In h₀ → News h₀ L s.heap news → Top q lo mean mg mb h₀ → cs.kind = .function → dp + dk < recursionLimit → un + uk < cLine → DictAt w h₀ → Pre h₀ → Ret h₀ L m news s Q Post →
      wpAny (model PySem.Challenge.rw_tc0086_01.prog w) (ktrTop dp un gd cn cs L a ccd cl outer) (call (.ref f) vs) Q E s
noncomputable abbrev IsListV (l : List Int) (v : Value) (new : CbLed) : Prop := ∃ a us k rest, v = .ref a ∧ new = (a, listOf (List.toArray us) k) :: rest ∧ IntsAre us l
noncomputable def heapsF (ns : List Int) : List Int := List.map (fun k' => ([470, 42, 10510, 23, 38, 7] : List Int).getD k'.toNat 0 + (pickNums ns (some k') none (some 6)).sum) (rangeKs 0 (6 - 0 : Int).toNat)
theorem heapsF_len (ns : List Int) : (heapsF ns).length = 6 := by unfold heapsF; rw [List.length_map]; rfl
theorem allNe {news : CbLed} {L c : Nat} (h : ∀ p ∈ news, p.1 < L) (hc : L ≤ c) : ∀ p ∈ news, p.1 ≠ c := fun p hp => Nat.ne_of_lt (Nat.lt_of_lt_of_le (h p hp) hc)
section
variable {prog : Program} {w : World} {A : Around} {E : Value → Shared → Prop} {s : Shared} {h₀ : Heap} {L : Addr} {m : Str → Option Value} {news : CbLed}
theorem item_six {value slice : Expr} {l : Addr} {vs : List Value} {ns : List Int} {k : Int} {u : Tok} {Q : Value → Shared → Prop} (hl : s.heap.IsList l vs.toArray) (hi : IntsAre vs ns) (hn : ns.length = 6)
    (h0 : 0 ≤ k) (h1 : k < 0 + (((6 - 0 : Int).toNat : Nat) : Int)) (h : ∀ t, Q (.int (ns.getD k.toNat 0) t) s)
    (hs : subscripted slice false (.ref l) (.int k u) = operate [.ref l, .int k u] (getItem (.ref l) (.int k u)) := by with_unfolding_all rfl) (hg : ∀ r, letTemporaryGo value (.ref l) r = pure () := by intro _; with_unfolding_all rfl) :
    wpAny (model prog w) A (subscriptTail value slice (.ref l) (.int k u)) Q E s := item_list_ints hl hi h0 (by omega) (by omega) h hs hg
theorem sum_ints {l : Addr} {o : Obj} {its : Array Value} {n : Nat} {ns : List Int} {Q : Value → Shared → Prop} (hh : A.handled = none) (F : Fr h₀ L s.heap m) (N : News h₀ L s.heap news) (hm : (l, o) ∈ news) (hc : o.cls = .type "list") (hd : o.data = .seq its n) (hi : IntsAre its.toList ns)
    (h : ∀ h' tk t', Fr h₀ L h' m → News h₀ L h' news → Q (.int ns.sum t') { s with heap := h', toks := tk }) : wpAny (model prog w) A (call (.builtin "sum") [.ref l]) Q E s := by
  have hl : s.heap.IsList l its := ⟨o, (N _ hm).1, hc, n, hd⟩
  have ha : AllInts its.toList.toArray := hi.allInts
  rw [Array.toArray_toList] at ha
  obtain ⟨xs, rfl⟩ := ha.items
  refine sum_intListG hh hl fun h' tk t' hk => ?_
  have e := hi.numsOf
  rw [nums_intItems] at e
  have q := h h' tk t' (F.keeps hk) (N.grown hk)
  rw [← e] at q
  rw [preSum_eq, List.take_of_length_le (by simp)]
  exact q
end
section
variable (w : World) {lo : List Str} {mean : ExcName → Option Value} {mg mb : Str → Option Value}
set_option maxHeartbeats 4000000
local macro_rules | `(tactic| k_all) => `(tactic| exact allNe (by assumption) (by omega))
local macro_rules | `(tactic| walk_at "subscriptTail Name Name ref int") => `(tactic| (k_dflt (refine item_six (by is_list) (by l_ints) (by rfl) (by assumption) (by assumption) ?_); intro _))
local macro_rules | `(tactic| walk_at "call builtin:sum") => `(tactic| (k_dflt (refine' sum_ints rfl ?F ?N ?m ?c ?d ?i ?_; (case F => k_asm); (case N => k_asm); (case m => k_mem); (case c => exact rfl); (case d => exact rfl); (case i => exact IntsAre.pick (by assumption) _ _ _)); intro h' tk' t' F' N'))
theorem heaps_spec (news : CbLed) (al : Addr) (vs : List Value) (ns : List Int) (hn : IntsAre vs ns) (hsz : vs.length ≤ sizeLine) : SpecP (fun h => h.IsList al vs.toArray) w lo mean mg mb 219 news [.ref al] 1 8 (IsIntsV (heapsF ns)) := by
  unfold SpecP
  k_fill
  intro dp un gd cn cs a ccd cl outer A₀ base h₀ L m s Q E B F X N T hk hd hu hD hpre hret
  refine wpAny_call ?_
  k_dflt (refine' code_defC ?k1 ?k2 ?k3 ?k4 ?k5 ?kA ?kF ?kK ?k6 ?k7 ?k8 ?k9 ?kB ?kD ?_ ?c2 ?c3 ?c4; (case kA => exact rfl); (case kF => exact rfl); (case kK => assumption); (case k1 => k_asm); (case k2 => k_asm); (case k3 => k_asm); (case k4 => k_asm); (case k5 => k_asm); (case k6 => k_is); (case k7 => k_is); (case k8 => ktr_room); (case k9 => exact BindsTo.of_eq rfl); (case kB => exact rfl); (case kD => decide +kernel); (case c2 => exact rfl); (case c3 => exact rfl); (case c4 => exact rfl))
  intro g' L' h' tk' cells' FG' F' N' Y' B' X' T' l1
  k_cells Y'
  (try simp only [List.cons_append, List.nil_append] at N')
  (try k_lt l1)
  (try dsimp only)
  have hA : g'.IsList al vs.toArray := hpre.at fun o e => FG'.keep _ _ e
  k_steps
  exact hret _ [_] _ _ (by assumption) (fun p hp => by
    rcases List.mem_cons.mp hp with rfl | hp
    · exact ‹News h₀ _ _ (_ :: _ :: _ :: _ :: news)› _ (.head _)
    · exact ‹News h₀ _ _ (_ :: _ :: _ :: _ :: news)› _ (.tail _ (.tail _ (.tail _ (.tail _ hp))))) ⟨_, _, _, rfl, rfl, by assumption⟩
end
end
section
open PySem.Calls
section
variable {prog : Program} {w : World} {A : Around} {E : Value → Shared → Prop} {s : Shared} {env : Env} {h₀ : Heap} {body : List Stmt} {Q : Flow → Shared → Prop}
theorem range_inv {x : Str} {px : Pos} {r : Addr} {a b : Int} {t u v : Tok} {n : Nat} {m₀ : Str → Option Value} {led₀ : CbLed}
    (hh : A.handled = none) (hr : IsRange s.heap r a b 1 t u v) (hsm : Builtin.Range.small a b 1 = true) (hn : Builtin.Range.rangeSize a b 1 = (n : Int)) (F : Fr h₀ env.locals s.heap m₀) (N : News h₀ env.locals s.heap led₀)
    (J : Nat → (Str → Option Value) → CbLed → Prop) (h0 : J 0 m₀ led₀)
    (step : ∀ i tv m₁ led h₁ tk I o, i < n → J i m₁ led → (∀ p ∈ led, p.1 ≠ I) → (∀ p ∈ led₀, p.1 < I) → Fr h₀ env.locals h₁ m₁ → News h₀ env.locals h₁ ((I, o) :: led) →
      wpAny (model prog w) A (assign (.Name x px) env (.int (a + (i : Int)) tv)) (fun _ s₂ => wpAny (model prog w) A (execs body env) (LoopOut h₀ env.locals s I o (J (i + 1))) E s₂) E { s with heap := h₁, toks := tk })
    (hQ : ∀ h' tk m' led, Fr h₀ env.locals h' m' → News h₀ env.locals h' led → J n m' led → Q .next { s with heap := h', toks := tk }) :
    wpAny (model prog w) A (pyIter (.ref r)) (fun it s₂ => TurnsAt prog w A h₀ env (.Name x px) body Q E it s₂) E s := by
  have hlts : ∀ p ∈ led₀, p.1 < s.heap.objs.size := fun p hp => Heap.lt_size (N p hp).1
  have hLlt : env.locals < s.heap.objs.size := F.ns.lt
  refine wpAny_pyIter_range hr hsm ?_
  have W := KTurns.ofWalks (target := .Name x px) (Walks.range (prog := prog) (w := w) hh s.heap.objs.size a 1 n) fun i v s Q E st q => (wpAny_pure q : wpAny (model prog w) A (pure ()) Q E s)
  refine ⟨s.heap.objs.size, [s.heap.objs.size], [s.heap.objs.size], n, _, _, _, m₀, led₀, J, rfl, W, ?_, ?_, ?_, ?_, F.push _, (fun p hp => ⟨Heap.get?_push_of_some _ (N p hp).1, (N p hp).2⟩), h0, ?_, ?_⟩
  · intro hI
    exact absurd hLlt ((List.mem_singleton.mp hI) ▸ Nat.lt_irrefl _)
  · intro b hb
    rw [List.mem_singleton.mp hb]
    exact next_is_new F
  · intro p hp hI
    exact absurd (hlts p hp) ((List.mem_singleton.mp hI) ▸ Nat.lt_irrefl _)
  · show IsRangeIter _ _ _ _ _
    rw [hn]
    simpa using Heap.get?_push_size _ rfl
  · intro i v m₁ news₁ h₁ tk₁ own hin hP hJ hoff hown hget hall hst₁ F₁ N₁
    obtain ⟨tv, rfl⟩ := hP
    rw [Int.mul_one]
    obtain ⟨itO, ho⟩ : ∃ o, h₁.get? s.heap.objs.size = some o := ⟨_, hst₁⟩
    have hIo := hall _ (List.mem_singleton.mpr rfl) (next_is_new F) _ ho
    have N₂ : News h₀ env.locals h₁ ((s.heap.objs.size, itO) :: news₁) := fun p hp => by
      rcases List.mem_cons.mp hp with rfl | hp
      · exact N₁ _ (List.mem_append_left _ hIo)
      · exact N₁ _ (List.mem_append_right _ hp)
    refine wpAny_mono (step i tv m₁ news₁ h₁ tk₁ s.heap.objs.size itO hin hJ (fun p hp e => hoff p hp (List.mem_singleton.mpr e)) hlts F₁ N₂) (fun _ s₂ h₂ => wpAny_mono h₂ (fun f s₃ h₃ => ?_) fun _ _ e => e) fun _ _ e => e
    refine veil fun vG hG => ?_; obtain ⟨rfl, h', tk, m', led', rfl, F', N', ho', hJ'⟩ := h₃; refine hG ?_; clear hG vG
    refine .next ⟨rfl, h', tk, m', led', rfl, F', ?_, fun p hp hI => ho' p hp (List.mem_singleton.mp hI), hJ'⟩
    intro p hp
    rcases List.mem_append.mp hp with hp | hp
    · have h2 := hget p hp
      have e := List.mem_singleton.mp (hown p hp)
      have : p = (s.heap.objs.size, itO) := by
        rw [e] at h2
        exact Prod.ext e (Option.some.inj (h2.symm.trans ho))
      rw [this]; exact N' _ List.mem_cons_self
    · exact N' _ (.tail _ hp)
  · intro h' tk m' news' F' N' _ hJ
    exact hQ h' tk m' news' F' N' hJ
end
end
section
theorem at0 {a : Value} {l : List Value} : (a :: l).toArray[0]? = some a := by simp
theorem at1 {a b : Value} {l : List Value} : (a :: b :: l).toArray[1]? = some b := by simp
theorem at2 {a b c : Value} {l : List Value} : (a :: b :: c :: l).toArray[2]? = some c := by simp
open PyProof.Rows.LCg PyProof.Rows.LCt
inductive All2 {α β : Type} (R : α → β → Prop) : List α → List β → Prop
  | nil : All2 R [] []
  | cons {a b as bs} : R a b → All2 R as bs → All2 R (a :: as) (b :: bs)
theorem All2.len {α β : Type} {R : α → β → Prop} {as : List α} {bs : List β} (q : All2 R as bs) : as.length = bs.length := by
  induction q with
  | nil => rfl
  | cons _ _ ih => exact congrArg Nat.succ ih
theorem All2.at {α β : Type} {R : α → β → Prop} {as : List α} {bs : List β} (q : All2 R as bs) : ∀ {i : Nat} {a : α}, as[i]? = some a → ∃ b, bs[i]? = some b ∧ R a b := by
  induction q with
  | nil => intro i a e; rw [List.getElem?_nil] at e; cases e
  | cons h _ ih =>
    intro i a e
    cases i with
    | zero => rw [List.getElem?_cons_zero] at e; cases e; exact ⟨_, rfl, h⟩
    | succ i => rw [List.getElem?_cons_succ] at e ⊢; exact ih e
theorem All2.mono {α β : Type} {R S : α → β → Prop} (h : ∀ a b, R a b → S a b) {as : List α} {bs : List β} (q : All2 R as bs) : All2 S as bs := by
  induction q with
  | nil => exact .nil
  | cons x _ ih => exact .cons (h _ _ x) ih
/-- what a comprehension with a test has laid down after i turns: b says which turns count, Y what each gives -/
inductive Picked (b : Nat → Bool) (Y : Nat → Value → Prop) : Nat → List Value → Prop
  | zero : Picked b Y 0 []
  | skip {i : Nat} {ys : List Value} : Picked b Y i ys → b i = false → Picked b Y (i + 1) ys
  | take {i : Nat} {ys : List Value} {y : Value} : Picked b Y i ys → b i = true → Y i y → Picked b Y (i + 1) (ys ++ [y])
theorem All2.snoc {α β : Type} {R : α → β → Prop} {a : α} {b : β} (h : R a b) {as : List α} {bs : List β} (q : All2 R as bs) : All2 R (as ++ [a]) (bs ++ [b]) := by
  induction q with
  | nil => exact .cons h .nil
  | cons x _ ih => exact .cons x ih
theorem take_nextC {α : Type} : ∀ (l : List α) (i : Nat) (c : α), l[i]? = some c → l.take (i + 1) = l.take i ++ [c]
  | [], _, _, h => by simp at h
  | a :: r, 0, c, h => by simp at h; simp [h]
  | a :: r, i + 1, c, h => by
    have := take_nextC r i c (by simpa using h)
    rw [List.take_succ_cons, List.take_succ_cons, this]; rfl
theorem Picked.filter {b : Nat → Bool} {Y : Nat → Value → Prop} {β : Type} {ps : List β} {pr : β → Bool} {R : Value → β → Prop} (hb : ∀ (i : Nat) p, ps[i]? = some p → b i = pr p) (hY : ∀ (i : Nat) p y, ps[i]? = some p → Y i y → R y p) {i : Nat} {ys : List Value} (h : Picked b Y i ys) :
    i ≤ ps.length → All2 R ys ((ps.take i).filter pr) := by
  induction h with
  | zero => intro _; exact .nil
  | @skip i ys _ hf ih =>
    intro hi
    have e : ps[i]? = some ps[i] := List.getElem?_eq_getElem hi
    rw [take_nextC ps i _ e, List.filter_append, List.filter_cons_of_neg (by rw [← hb i _ e, hf]; exact Bool.false_ne_true)]
    simpa using ih (Nat.le_of_succ_le hi)
  | @take i ys y _ ht hy ih =>
    intro hi
    have e : ps[i]? = some ps[i] := List.getElem?_eq_getElem hi
    rw [take_nextC ps i _ e, List.filter_append, List.filter_cons_of_pos (by rw [← hb i _ e, ht])]
    exact (ih (Nat.le_of_succ_le hi)).snoc (hY i _ _ e hy)
theorem Picked.all {Y : Nat → Value → Prop} {β : Type} {ps : List β} {R : Value → β → Prop} (hY : ∀ (i : Nat) p y, ps[i]? = some p → Y i y → R y p) {ys : List Value} (h : Picked (fun _ => true) Y ps.length ys) : All2 R ys ps := by
  have := h.filter (ps := ps) (pr := fun _ => true) (fun _ _ _ => rfl) hY (Nat.le_refl _)
  rw [List.take_length, List.filter_eq_self.mpr (fun _ _ => rfl)] at this
  exact this
/-- a state of the comprehension: frame and ledger stand, garbage is let go -/
noncomputable def CSame (h₀ : Heap) (L : Addr) (m : Str → Option Value) (led : CbLed) (s s' : Shared) : Prop :=
  ∃ h' tk', s' = { s with heap := h', toks := tk' } ∧ Fr h₀ L h' m ∧ News h₀ L h' led
section
variable {prog : Program} {w : World} {A : Around} {s : Shared} {h₀ : Heap} {L : Addr} {m : Str → Option Value} {env : Env}
noncomputable def EltOut (h₀ : Heap) (L : Addr) (m : Str → Option Value) (led : CbLed) (s : Shared) (P : Value → Prop) (y : Value) (s' : Shared) : Prop := P y ∧ CSame h₀ L m led s s'
noncomputable def TestOut (prog : Program) (w : World) (A : Around) (h₀ : Heap) (L : Addr) (m : Str → Option Value) (led : CbLed) (s : Shared) (env : Env) (elt : Expr) (b : Bool) (P : Value → Prop) (ok : Bool) (s' : Shared) : Prop :=
  ok = b ∧ if ok = true then wpAny (model prog w) A (eval elt env) (EltOut h₀ L m led s P) (fun _ _ => False) s' else CSame h₀ L m led s s'
theorem rest_T {ct elt : Expr} {x : Str} {scope : Scope} {cl : List (Str × Addr)} {P : Nat → Value → Prop} {Fin : List Value → CbLed → Prop} {led : CbLed} {S : CbLed → Prop} {b : Nat → Bool} {Y : Nat → Value → Prop} (hS : S led)
    (step : ∀ i v ys I oI C oC D m₂ h tk, P i v → NsObj oC m₂ → m₂ x = some v → Fr h₀ L h m → News h₀ L h ((I, oI) :: (C, oC) :: (D, lst ys) :: led) → Off3 I C D led → ((@Ne Nat I C) ∧ (@Ne Nat I D) ∧ (@Ne Nat C D)) →
      wpAny (model prog w) A (isTrue ct (compEnvC scope cl C env) (eval ct (compEnvC scope cl C env))) (TestOut prog w A h₀ L m ((I, oI) :: (C, oC) :: (D, lst ys) :: led) { s with heap := h, toks := tk } (compEnvC scope cl C env) elt (b i) (Y i)) (fun _ _ => False) { s with heap := h, toks := tk }) :
    ∀ (k i : Nat) (ys : List Value), Picked b Y i ys → (∀ zs, Picked b Y (i + k) zs → Fin zs led) → CompRestT prog w A h₀ L m env ct elt x scope cl s S P Fin k i ys led
  | 0, i, ys, hp, hf => hf ys hp
  | k + 1, i, ys, hp, hf => by
    intro v I oI C oC D m₂ h tk E' hP hC hv F N off ne
    have next : ∀ ys', Picked b Y (i + 1) ys' → CompRestT prog w A h₀ L m env ct elt x scope cl s S P Fin k (i + 1) ys' led := fun ys' hp' =>
      rest_T hS step k (i + 1) ys' hp' fun zs hz => hf zs (by rw [show i + (k + 1) = i + 1 + k by omega]; exact hz)
    refine wpAny_mono (step i v ys I oI C oC D m₂ h tk hP hC hv F N off ne) (fun ok s' ho => ?_) fun _ _ e => e.elim
    obtain ⟨hb, ho⟩ := ho
    cases ok with
    | true =>
      rw [if_pos rfl] at ho ⊢
      refine wpAny_mono ho (fun y s'' hy => ?_) fun _ _ e => e.elim
      refine veil fun vG hG => ?_; obtain ⟨hY, h', tk', rfl, F', N'⟩ := hy; refine hG ?_; clear hG vG
      exact ⟨h', tk', led, rfl, F', N', off, hS, next _ (.take hp hb.symm hY)⟩
    | false =>
      rw [if_neg Bool.false_ne_true] at ho ⊢
      refine veil fun vG hG => ?_; obtain ⟨h', tk', rfl, F', N'⟩ := ho; refine hG ?_; clear hG vG
      exact ⟨h', tk', led, rfl, F', N', off, hS, next _ (.skip hp hb.symm)⟩
theorem rest_U {elt : Expr} {x : Str} {scope : Scope} {cl : List (Str × Addr)} {P : Nat → Value → Prop} {Fin : List Value → CbLed → Prop} {led : CbLed} {S : CbLed → Prop} {Y : Nat → Value → Prop} (hS : S led)
    (step : ∀ i v ys I oI C oC D m₂ h tk, P i v → NsObj oC m₂ → m₂ x = some v → Fr h₀ L h m → News h₀ L h ((I, oI) :: (C, oC) :: (D, lst ys) :: led) → Off3 I C D led → ((@Ne Nat I C) ∧ (@Ne Nat I D) ∧ (@Ne Nat C D)) →
      wpAny (model prog w) A (eval elt (compEnvC scope cl C env)) (EltOut h₀ L m ((I, oI) :: (C, oC) :: (D, lst ys) :: led) { s with heap := h, toks := tk } (Y i)) (fun _ _ => False) { s with heap := h, toks := tk }) :
    ∀ (k i : Nat) (ys : List Value), Picked (fun _ => true) Y i ys → (∀ zs, Picked (fun _ => true) Y (i + k) zs → Fin zs led) → CompRest prog w A h₀ L m env elt x scope cl s S P Fin k i ys led
  | 0, i, ys, hp, hf => hf ys hp
  | k + 1, i, ys, hp, hf => by
    intro v I oI C oC D m₂ h tk E' hP hC hv F N off ne
    refine wpAny_mono (step i v ys I oI C oC D m₂ h tk hP hC hv F N off ne) (fun y s' hy => ?_) fun _ _ e => e.elim
    refine veil fun vG hG => ?_; obtain ⟨hY, h', tk', rfl, F', N'⟩ := hy; refine hG ?_; clear hG vG
    exact ⟨h', tk', led, rfl, F', N', off, hS, rest_U hS step k (i + 1) _ (.take hp rfl hY) fun zs hz => hf zs (by rw [show i + (k + 1) = i + 1 + k by omega]; exact hz)⟩
theorem rest_Un {elt : Expr} {x : Str} {scope : Scope} {cl : List (Str × Addr)} {P : Nat → Value → Prop} {Fin : List Value → CbLed → Prop} {led : CbLed} {S : CbLed → Prop} {Y : Nat → Value → Prop} {n : Nat} (hS : S led)
    (step : ∀ i v ys I oI C oC D m₂ h tk, i < n → P i v → NsObj oC m₂ → m₂ x = some v → Fr h₀ L h m → News h₀ L h ((I, oI) :: (C, oC) :: (D, lst ys) :: led) → Off3 I C D led → ((@Ne Nat I C) ∧ (@Ne Nat I D) ∧ (@Ne Nat C D)) →
      wpAny (model prog w) A (eval elt (compEnvC scope cl C env)) (EltOut h₀ L m ((I, oI) :: (C, oC) :: (D, lst ys) :: led) { s with heap := h, toks := tk } (Y i)) (fun _ _ => False) { s with heap := h, toks := tk }) :
    ∀ (k i : Nat) (ys : List Value), Picked (fun _ => true) Y i ys → i + k = n → (∀ zs, Picked (fun _ => true) Y n zs → Fin zs led) → CompRest prog w A h₀ L m env elt x scope cl s S P Fin k i ys led
  | 0, i, ys, hp, e, hf => hf ys (by rw [← e]; exact hp)
  | k + 1, i, ys, hp, e, hf => by
    intro v I oI C oC D m₂ h tk E' hP hC hv F N off ne
    refine wpAny_mono (step i v ys I oI C oC D m₂ h tk (by omega) hP hC hv F N off ne) (fun y s' hy => ?_) fun _ _ e => e.elim
    refine veil fun vG hG => ?_; obtain ⟨hY, h', tk', rfl, F', N'⟩ := hy; refine hG ?_; clear hG vG
    exact ⟨h', tk', led, rfl, F', N', off, hS, rest_Un hS step k (i + 1) _ (.take hp rfl hY) (by omega) hf⟩
theorem TestOut.intro {led : CbLed} {elt : Expr} {b : Bool} {P : Value → Prop} {ok : Bool} {h' : Heap} {tk : Nat} (hb : ok = b) (F : Fr h₀ L h' m) (N : News h₀ L h' led)
    (ht : ok = true → wpAny (model prog w) A (eval elt env) (EltOut h₀ L m led s P) (fun _ _ => False) { s with heap := h', toks := tk }) : TestOut prog w A h₀ L m led s env elt b P ok { s with heap := h', toks := tk } := by
  refine ⟨hb, ?_⟩
  cases ok with
  | true => exact ht rfl
  | false => rw [if_neg Bool.false_ne_true]; exact ⟨h', tk, rfl, F, N⟩
theorem src_T {ct elt : Expr} {x : Str} {scope : Scope} {cl : List (Str × Addr)} {Q : Value → Shared → Prop} {led : CbLed} {ax : Addr} {vs : List Value} {k : Nat} {b : Nat → Bool} {Y : Nat → Value → Prop}
    (hh : A.handled = none) (F : Fr h₀ L s.heap m) (N : News h₀ L s.heap led) (hm : (ax, listOf vs.toArray k) ∈ led) (hsz : vs.length ≤ sizeLine)
    (step : ∀ i v ys I oI C oC D m₂ h tk, vs[i]? = some v → NsObj oC m₂ → m₂ x = some v → Fr h₀ L h m → News h₀ L h ((I, oI) :: (C, oC) :: (D, lst ys) :: led) → Off3 I C D led → ((@Ne Nat I C) ∧ (@Ne Nat I D) ∧ (@Ne Nat C D)) →
      wpAny (model prog w) A (isTrue ct (compEnvC scope cl C env) (eval ct (compEnvC scope cl C env))) (TestOut prog w A h₀ L m ((I, oI) :: (C, oC) :: (D, lst ys) :: led) { s with heap := h, toks := tk } (compEnvC scope cl C env) elt (b i) (Y i)) (fun _ _ => False) { s with heap := h, toks := tk })
    (fin : ∀ ys, Picked b Y vs.length ys → ∀ D h tk, Fr h₀ L h m → News h₀ L h ((D, lst ys) :: led) → Off1 D led → Q (.ref D) { s with heap := h, toks := tk }) :
    CompSrcT prog w A h₀ L m env ct elt x scope cl (fun s₂ => FinE h₀ L m s₂ Q) (.ref ax) s := by
  refine CompSrcT.ledger hh F N hm (by rw [List.size_toArray]; exact hsz) ?_
  intro g
  refine rest_T (s := { s with heap := g }) (P := fun i v => vs.toArray[i]? = some v) (b := b) (Y := Y) (S := SrcAt h₀ ax vs.toArray) (Or.inr ⟨_, hm, rfl, _, rfl⟩) (fun i v ys I oI C oC D m₂ h tk hv => step i v ys I oI C oC D m₂ h tk (by simpa using hv)) _ 0 [] .zero ?_
  intro zs hz
  rw [Nat.zero_add, List.size_toArray] at hz
  exact fin zs hz
theorem src_TA {ct elt : Expr} {x : Str} {scope : Scope} {cl : List (Str × Addr)} {y : Str} {Q : Flow → Shared → Prop} {led : CbLed} {ax : Addr} {vs : List Value} {k : Nat} {b : Nat → Bool} {Y : Nat → Value → Prop}
    (hh : A.handled = none) (F : Fr h₀ L s.heap m) (N : News h₀ L s.heap led) (hm : (ax, listOf vs.toArray k) ∈ led) (hsz : vs.length ≤ sizeLine)
    (step : ∀ i v ys I oI C oC D m₂ h tk, vs[i]? = some v → NsObj oC m₂ → m₂ x = some v → Fr h₀ L h m → News h₀ L h ((I, oI) :: (C, oC) :: (D, lst ys) :: led) → Off3 I C D led → ((@Ne Nat I C) ∧ (@Ne Nat I D) ∧ (@Ne Nat C D)) →
      wpAny (model prog w) A (isTrue ct (compEnvC scope cl C env) (eval ct (compEnvC scope cl C env))) (TestOut prog w A h₀ L m ((I, oI) :: (C, oC) :: (D, lst ys) :: led) { s with heap := h, toks := tk } (compEnvC scope cl C env) elt (b i) (Y i)) (fun _ _ => False) { s with heap := h, toks := tk })
    (fin : ∀ ys, Picked b Y vs.length ys → ∀ D h tk, Fr h₀ L h (fun z => if z = y then some (.ref D) else m z) → News h₀ L h ((D, lst ys) :: led) → Off1 D led → Q .next { s with heap := h, toks := tk }) :
    CompSrcT prog w A h₀ L m env ct elt x scope cl (fun s₂ => FinA h₀ L m s₂ y Q) (.ref ax) s := by
  refine CompSrcT.ledger hh F N hm (by rw [List.size_toArray]; exact hsz) ?_
  intro g
  refine rest_T (s := { s with heap := g }) (P := fun i v => vs.toArray[i]? = some v) (b := b) (Y := Y) (S := SrcAt h₀ ax vs.toArray) (Or.inr ⟨_, hm, rfl, _, rfl⟩) (fun i v ys I oI C oC D m₂ h tk hv => step i v ys I oI C oC D m₂ h tk (by simpa using hv)) _ 0 [] .zero ?_
  intro zs hz
  rw [Nat.zero_add, List.size_toArray] at hz
  exact fin zs hz
theorem src_U {elt : Expr} {x : Str} {scope : Scope} {cl : List (Str × Addr)} {Q : Value → Shared → Prop} {led : CbLed} {ax : Addr} {vs : List Value} {k : Nat} {Y : Nat → Value → Prop}
    (hh : A.handled = none) (F : Fr h₀ L s.heap m) (N : News h₀ L s.heap led) (hm : (ax, listOf vs.toArray k) ∈ led) (hsz : vs.length ≤ sizeLine)
    (step : ∀ i v ys I oI C oC D m₂ h tk, vs[i]? = some v → NsObj oC m₂ → m₂ x = some v → Fr h₀ L h m → News h₀ L h ((I, oI) :: (C, oC) :: (D, lst ys) :: led) → Off3 I C D led → ((@Ne Nat I C) ∧ (@Ne Nat I D) ∧ (@Ne Nat C D)) →
      wpAny (model prog w) A (eval elt (compEnvC scope cl C env)) (EltOut h₀ L m ((I, oI) :: (C, oC) :: (D, lst ys) :: led) { s with heap := h, toks := tk } (Y i)) (fun _ _ => False) { s with heap := h, toks := tk })
    (fin : ∀ ys, Picked (fun _ => true) Y vs.length ys → ∀ D h tk, Fr h₀ L h m → News h₀ L h ((D, lst ys) :: led) → Off1 D led → Q (.ref D) { s with heap := h, toks := tk }) :
    CompSrc prog w A h₀ L m env elt x scope cl (fun s₂ => FinE h₀ L m s₂ Q) (.ref ax) s := by
  refine CompSrc.ledger hh F N hm (by rw [List.size_toArray]; exact hsz) ?_
  intro g
  refine rest_U (s := { s with heap := g }) (P := fun i v => vs.toArray[i]? = some v) (Y := Y) (S := SrcAt h₀ ax vs.toArray) (Or.inr ⟨_, hm, rfl, _, rfl⟩) (fun i v ys I oI C oC D m₂ h tk hv => step i v ys I oI C oC D m₂ h tk (by simpa using hv)) _ 0 [] .zero ?_
  intro zs hz
  rw [Nat.zero_add, List.size_toArray] at hz
  exact fin zs hz
theorem src_UA {elt : Expr} {x : Str} {scope : Scope} {cl : List (Str × Addr)} {y : Str} {Q : Flow → Shared → Prop} {led : CbLed} {ax : Addr} {vs : List Value} {k : Nat} {Y : Nat → Value → Prop}
    (hh : A.handled = none) (F : Fr h₀ L s.heap m) (N : News h₀ L s.heap led) (hm : (ax, listOf vs.toArray k) ∈ led) (hsz : vs.length ≤ sizeLine)
    (step : ∀ i v ys I oI C oC D m₂ h tk, vs[i]? = some v → NsObj oC m₂ → m₂ x = some v → Fr h₀ L h m → News h₀ L h ((I, oI) :: (C, oC) :: (D, lst ys) :: led) → Off3 I C D led → ((@Ne Nat I C) ∧ (@Ne Nat I D) ∧ (@Ne Nat C D)) →
      wpAny (model prog w) A (eval elt (compEnvC scope cl C env)) (EltOut h₀ L m ((I, oI) :: (C, oC) :: (D, lst ys) :: led) { s with heap := h, toks := tk } (Y i)) (fun _ _ => False) { s with heap := h, toks := tk })
    (fin : ∀ ys, Picked (fun _ => true) Y vs.length ys → ∀ D h tk, Fr h₀ L h (fun z => if z = y then some (.ref D) else m z) → News h₀ L h ((D, lst ys) :: led) → Off1 D led → Q .next { s with heap := h, toks := tk }) :
    CompSrc prog w A h₀ L m env elt x scope cl (fun s₂ => FinA h₀ L m s₂ y Q) (.ref ax) s := by
  refine CompSrc.ledger hh F N hm (by rw [List.size_toArray]; exact hsz) ?_
  intro g
  refine rest_U (s := { s with heap := g }) (P := fun i v => vs.toArray[i]? = some v) (Y := Y) (S := SrcAt h₀ ax vs.toArray) (Or.inr ⟨_, hm, rfl, _, rfl⟩) (fun i v ys I oI C oC D m₂ h tk hv => step i v ys I oI C oC D m₂ h tk (by simpa using hv)) _ 0 [] .zero ?_
  intro zs hz
  rw [Nat.zero_add, List.size_toArray] at hz
  exact fin zs hz
theorem range_T {ct elt : Expr} {x : Str} {scope : Scope} {cl : List (Str × Addr)} {Q : Value → Shared → Prop} {led : CbLed} {r : Addr} {lo hi : Int} {t u v : Tok} {n : Nat} {b : Nat → Bool} {Y : Nat → Value → Prop}
    (hh : A.handled = none) (F : Fr h₀ L s.heap m) (N : News h₀ L s.heap led) (hr : IsRange s.heap r lo hi 1 t u v) (hsm : Builtin.Range.small lo hi 1 = true) (hn : Builtin.Range.rangeSize lo hi 1 = ((n : Nat) : Int)) (hsz : n ≤ sizeLine)
    (step : ∀ i t v ys I oI C oC D m₂ h tk, v = .int (lo + (i : Int)) t → NsObj oC m₂ → m₂ x = some v → Fr h₀ L h m → News h₀ L h ((I, oI) :: (C, oC) :: (D, lst ys) :: led) → Off3 I C D led → ((@Ne Nat I C) ∧ (@Ne Nat I D) ∧ (@Ne Nat C D)) →
      wpAny (model prog w) A (isTrue ct (compEnvC scope cl C env) (eval ct (compEnvC scope cl C env))) (TestOut prog w A h₀ L m ((I, oI) :: (C, oC) :: (D, lst ys) :: led) { s with heap := h, toks := tk } (compEnvC scope cl C env) elt (b i) (Y i)) (fun _ _ => False) { s with heap := h, toks := tk })
    (fin : ∀ ys, Picked b Y n ys → ∀ D h tk, Fr h₀ L h m → News h₀ L h ((D, lst ys) :: led) → Off1 D led → Q (.ref D) { s with heap := h, toks := tk }) :
    CompSrcT prog w A h₀ L m env ct elt x scope cl (fun s₂ => FinE h₀ L m s₂ Q) (.ref r) s := by
  refine CompSrcT.range hh F N hr hsm hn hsz ?_
  intro g
  refine rest_T (s := { s with heap := g }) (P := fun i v => ∃ t, v = .int (lo + (i : Int)) t) (b := b) (Y := Y) (S := fun _ => True) trivial (fun i v ys I oI C oC D m₂ h tk hv => by obtain ⟨t, hv⟩ := hv; exact step i t v ys I oI C oC D m₂ h tk hv) _ 0 [] .zero ?_
  intro zs hz
  rw [Nat.zero_add] at hz
  exact fin zs hz
theorem range_TA {ct elt : Expr} {x : Str} {scope : Scope} {cl : List (Str × Addr)} {y : Str} {Q : Flow → Shared → Prop} {led : CbLed} {r : Addr} {lo hi : Int} {t u v : Tok} {n : Nat} {b : Nat → Bool} {Y : Nat → Value → Prop}
    (hh : A.handled = none) (F : Fr h₀ L s.heap m) (N : News h₀ L s.heap led) (hr : IsRange s.heap r lo hi 1 t u v) (hsm : Builtin.Range.small lo hi 1 = true) (hn : Builtin.Range.rangeSize lo hi 1 = ((n : Nat) : Int)) (hsz : n ≤ sizeLine)
    (step : ∀ i t v ys I oI C oC D m₂ h tk, v = .int (lo + (i : Int)) t → NsObj oC m₂ → m₂ x = some v → Fr h₀ L h m → News h₀ L h ((I, oI) :: (C, oC) :: (D, lst ys) :: led) → Off3 I C D led → ((@Ne Nat I C) ∧ (@Ne Nat I D) ∧ (@Ne Nat C D)) →
      wpAny (model prog w) A (isTrue ct (compEnvC scope cl C env) (eval ct (compEnvC scope cl C env))) (TestOut prog w A h₀ L m ((I, oI) :: (C, oC) :: (D, lst ys) :: led) { s with heap := h, toks := tk } (compEnvC scope cl C env) elt (b i) (Y i)) (fun _ _ => False) { s with heap := h, toks := tk })
    (fin : ∀ ys, Picked b Y n ys → ∀ D h tk, Fr h₀ L h (fun z => if z = y then some (.ref D) else m z) → News h₀ L h ((D, lst ys) :: led) → Off1 D led → Q .next { s with heap := h, toks := tk }) :
    CompSrcT prog w A h₀ L m env ct elt x scope cl (fun s₂ => FinA h₀ L m s₂ y Q) (.ref r) s := by
  refine CompSrcT.range hh F N hr hsm hn hsz ?_
  intro g
  refine rest_T (s := { s with heap := g }) (P := fun i v => ∃ t, v = .int (lo + (i : Int)) t) (b := b) (Y := Y) (S := fun _ => True) trivial (fun i v ys I oI C oC D m₂ h tk hv => by obtain ⟨t, hv⟩ := hv; exact step i t v ys I oI C oC D m₂ h tk hv) _ 0 [] .zero ?_
  intro zs hz
  rw [Nat.zero_add] at hz
  exact fin zs hz
theorem range_U {elt : Expr} {x : Str} {scope : Scope} {cl : List (Str × Addr)} {Q : Value → Shared → Prop} {led : CbLed} {r : Addr} {lo hi : Int} {t u v : Tok} {n : Nat} {Y : Nat → Value → Prop}
    (hh : A.handled = none) (F : Fr h₀ L s.heap m) (N : News h₀ L s.heap led) (hr : IsRange s.heap r lo hi 1 t u v) (hsm : Builtin.Range.small lo hi 1 = true) (hn : Builtin.Range.rangeSize lo hi 1 = ((n : Nat) : Int)) (hsz : n ≤ sizeLine)
    (step : ∀ i t v ys I oI C oC D m₂ h tk, i < n → v = .int (lo + (i : Int)) t → NsObj oC m₂ → m₂ x = some v → Fr h₀ L h m → News h₀ L h ((I, oI) :: (C, oC) :: (D, lst ys) :: led) → Off3 I C D led → ((@Ne Nat I C) ∧ (@Ne Nat I D) ∧ (@Ne Nat C D)) →
      wpAny (model prog w) A (eval elt (compEnvC scope cl C env)) (EltOut h₀ L m ((I, oI) :: (C, oC) :: (D, lst ys) :: led) { s with heap := h, toks := tk } (Y i)) (fun _ _ => False) { s with heap := h, toks := tk })
    (fin : ∀ ys, Picked (fun _ => true) Y n ys → ∀ D h tk, Fr h₀ L h m → News h₀ L h ((D, lst ys) :: led) → Off1 D led → Q (.ref D) { s with heap := h, toks := tk }) :
    CompSrc prog w A h₀ L m env elt x scope cl (fun s₂ => FinE h₀ L m s₂ Q) (.ref r) s := by
  refine CompSrc.range hh F N hr hsm hn hsz ?_
  intro g
  refine rest_Un (s := { s with heap := g }) (P := fun i v => ∃ t, v = .int (lo + (i : Int)) t) (Y := Y) (S := fun _ => True) trivial (fun i v ys I oI C oC D m₂ h tk hi hv => by obtain ⟨t, hv⟩ := hv; exact step i t v ys I oI C oC D m₂ h tk hi hv) _ 0 [] .zero (Nat.zero_add _) ?_
  exact fin
theorem range_UA {elt : Expr} {x : Str} {scope : Scope} {cl : List (Str × Addr)} {y : Str} {Q : Flow → Shared → Prop} {led : CbLed} {r : Addr} {lo hi : Int} {t u v : Tok} {n : Nat} {Y : Nat → Value → Prop}
    (hh : A.handled = none) (F : Fr h₀ L s.heap m) (N : News h₀ L s.heap led) (hr : IsRange s.heap r lo hi 1 t u v) (hsm : Builtin.Range.small lo hi 1 = true) (hn : Builtin.Range.rangeSize lo hi 1 = ((n : Nat) : Int)) (hsz : n ≤ sizeLine)
    (step : ∀ i t v ys I oI C oC D m₂ h tk, i < n → v = .int (lo + (i : Int)) t → NsObj oC m₂ → m₂ x = some v → Fr h₀ L h m → News h₀ L h ((I, oI) :: (C, oC) :: (D, lst ys) :: led) → Off3 I C D led → ((@Ne Nat I C) ∧ (@Ne Nat I D) ∧ (@Ne Nat C D)) →
      wpAny (model prog w) A (eval elt (compEnvC scope cl C env)) (EltOut h₀ L m ((I, oI) :: (C, oC) :: (D, lst ys) :: led) { s with heap := h, toks := tk } (Y i)) (fun _ _ => False) { s with heap := h, toks := tk })
    (fin : ∀ ys, Picked (fun _ => true) Y n ys → ∀ D h tk, Fr h₀ L h (fun z => if z = y then some (.ref D) else m z) → News h₀ L h ((D, lst ys) :: led) → Off1 D led → Q .next { s with heap := h, toks := tk }) :
    CompSrc prog w A h₀ L m env elt x scope cl (fun s₂ => FinA h₀ L m s₂ y Q) (.ref r) s := by
  refine CompSrc.range hh F N hr hsm hn hsz ?_
  intro g
  refine rest_Un (s := { s with heap := g }) (P := fun i v => ∃ t, v = .int (lo + (i : Int)) t) (Y := Y) (S := fun _ => True) trivial (fun i v ys I oI C oC D m₂ h tk hi hv => by obtain ⟨t, hv⟩ := hv; exact step i t v ys I oI C oC D m₂ h tk hi hv) _ 0 [] .zero (Nat.zero_add _) ?_
  exact fin
end
end
section
local macro_rules | `(tactic| k_mem) => `(tactic| first | exact List.Mem.head _ | with_reducible_and_instances assumption | (refine' List.Mem.tail _ ?_; k_mem) | exact List.mem_append_left _ (by with_reducible_and_instances assumption) | (refine' List.mem_append_right _ ?_; k_mem))
local macro_rules | `(tactic| k_all) => `(tactic| first | with_reducible assumption | exact allNe (by assumption) (by omega))
local macro_rules | `(tactic| walk_at "execs cons For") => `(tactic| refine Stop.intro ?_)
local macro_rules | `(tactic| walk_at "exec Assign cons ListComp") => `(tactic| refine Stop.intro ?_)
local macro_rules | `(tactic| walk_at "eval ListComp") => `(tactic| refine Stop.intro ?_)
local macro_rules | `(tactic| walk_at "subscriptTail Name Constant ref int") => `(tactic| k_dflt (refine' item_listL ?t ?a ?b ?c ?_; (case t => exact News.isList (by assumption) (by k_mem)); (case a => decide); (case b => decide); (case c => rfl)))
local macro_rules | `(tactic| walk_at "mine tup") => `(tactic| k_dflt (refine' item_tuple ?t ?a ?b ?c ?d ?_; (case t => exact News.isTup (by assumption) (by k_mem)); (case a => decide); (case b => decide); first | ((case d => exact at0); (case c => rfl)) | ((case d => exact at1); (case c => rfl)) | ((case d => exact at2); (case c => rfl))))
local macro_rules | `(tactic| walk_at "subscriptTail Name Constant ref int") => `(tactic| walk_at "mine tup")
local macro_rules | `(tactic| walk_at "subscriptTail Name Name ref int") => `(tactic| k_dflt (refine' item_listL ?t ?a ?b ?c ?_; (case t => exact News.isList (by assumption) (by k_mem)); (case a => omega); (case b => omega); (case c => assumption)))
local macro_rules | `(tactic| walk_at "binaryOp Add str str") => `(tactic| (k_dflt (refine SBL.add (fun t' k' hl' => ?_) (by rw [sizeLine_eq]; omega))))
local macro_rules | `(tactic| walk_at "binaryOp Mult str int") => `(tactic| (k_dflt (refine SBL.mul (n := 1) rfl (by decide) (by omega) (by omega) (fun t' k' hl1 hl2 => ?_)); (try replace hl2 := hl2 (by omega))))
local macro_rules | `(tactic| walk_at "call builtin:len") => `(tactic| k_dflt (refine' len_list ?a ?b ?_; (case a => exact News.isList (by assumption) (by k_mem)); (case b => assumption)))
local macro_rules | `(tactic| walk_at "eval Name") => `(tactic| ((with_reducible show wpAny _ _ (eval (Expr.Name _ _) (envOfC _ _ _ _ _)) _ _ _); name_kind "local"; k_dflt (refine ldLoc (by assumption) (by (try dsimp only); repeat (first | assumption | exact if_pos rfl | refine (if_neg (by decide)).trans ?_)) ?_ rfl rfl (by decide))))
local macro_rules | `(tactic| walk_at "eval Name") => `(tactic| ((with_reducible show wpAny _ _ (eval (Expr.Name _ _) (envOf _ _ _ _ _)) _ _ _); name_kind "local"; k_dflt (refine ld (by assumption) (by (try dsimp only); repeat (first | assumption | exact if_pos rfl | refine (if_neg (by decide)).trans ?_)) ?_ rfl rfl (by decide))))
section
/-- a part (first, middle, last), a tuple of the ledger -/
noncomputable def PTup (led : CbLed) (v : Value) (p : Int × Int × Int) : Prop := ∃ a t1 t2 t3, v = .ref a ∧ (a, ({ cls := .type "tuple", data := .seq #[.int p.1 t1, .int p.2.1 t2, .int p.2.2 t3] } : Obj)) ∈ led
noncomputable def textAt (ps : List (Int × Int × Int)) (ls : List Str) : Nat → Str
  | 0 => Str.ofString ""
  | i + 1 => textAt ps ls i ++ Txt.mul (Str.ofString "<") ((ps.filter fun p => decide (p.1 = 0 + (i : Int))).length : Nat) ++ ls.getD i ⟨#[]⟩ ++ Txt.mul (Str.ofString ">") ((ps.filter fun p => decide (p.2.2 = 0 + (i : Int) + 1)).length : Nat)
noncomputable def textF (ps : List (Int × Int × Int)) (ls : List Str) : Str := textAt ps ls 6
section
variable (w : World) {lo : List Str} {mean : ExcName → Option Value} {mg mb : Str → Option Value}
set_option maxHeartbeats 4000000
inductive TxtJ (ps : List (Int × Int × Int)) (ls : List Str) (aC : Addr) (news : CbLed) (al bl : Addr) (i : Nat) (m : Str → Option Value) (led : CbLed) : Prop
  | mk (o0 : Obj) (v0) (X) (t) (p1 : X = textAt ps ls i ∧ X.length ≤ 21 * i) (p2 : led = (aC, o0) :: news) (p3 : o0.data = .cell v0) (p4 : m (Str.ofString "text") = some (.str X t)) (p5 : m (Str.ofString "parts") = some (.ref al)) (p6 : m (Str.ofString "letters") = some (.ref bl)) : TxtJ ps ls aC news al bl i m led
theorem text_spec (news : CbLed) (al bl : Addr) (vs : List Value) (k : Nat) (ws : List Value) (k2 : Nat) (ps : List (Int × Int × Int)) (ls : List Str) (hm : (al, listOf vs.toArray k) ∈ news) (hps : All2 (PTup news) vs ps) (hpl : ps.length ≤ 10) (hm2 : (bl, listOf ws.toArray k2) ∈ news) (hls : StrsAre ws ls) (hll : ls.length = 6) (hl1 : ∀ y ∈ ls, y.length ≤ 1) :
    Spec w lo mean mg mb 236 news [.ref al, .ref bl] 1 8 (IsStrV (textF ps ls)) := by
  unfold Spec
  k_fill
  intro dp un gd cn cs a ccd cl outer A₀ base h₀ L m s Q E B F X N T hk hd hu hD hret
  refine wpAny_call ?_
  k_dflt (refine' code_defC ?k1 ?k2 ?k3 ?k4 ?k5 ?kA ?kF ?kK ?k6 ?k7 ?k8 ?k9 ?kB ?kD ?_ ?c2 ?c3 ?c4; (case kA => exact rfl); (case kF => exact rfl); (case kK => assumption); (case k1 => k_asm); (case k2 => k_asm); (case k3 => k_asm); (case k4 => k_asm); (case k5 => k_asm); (case k6 => k_is); (case k7 => k_is); (case k8 => ktr_room); (case k9 => exact BindsTo.of_eq rfl); (case kB => exact rfl); (case kD => decide +kernel); (case c2 => exact rfl); (case c3 => exact rfl); (case c4 => exact rfl))
  intro g' L' h' tk' cells' FG' F' N' Y' B' X' T' l1
  k_cells Y'
  (try simp only [List.cons_append, List.nil_append] at N')
  (try k_lt l1)
  (try dsimp only)
  k_steps
  refine Stop.go (wpAny_execs_cons (For_turns (by assumption) ?_))
  k_steps
  rename_i o' d' hx1 hx2 hx3 hx4 tk1 t1 t2 t3 hr F1 N1 hkk
  refine range_inv rfl hr (by decide) (n := 6) (by decide) F1 N1 (TxtJ ps ls (L' + 1) news al bl) ⟨_, none, _, _, ⟨rfl, Nat.le_refl _⟩, rfl, by assumption, rfl, rfl, rfl⟩ ?_ ?_
  · intro i tv m₁ led h₁ tk I o hi z1 hoff hlt F₁ N₁; refine veil fun vG hG => ?_; obtain ⟨o0, v0, X, t, ⟨hXe, hXl⟩, rfl, hd0, mT, mP, mL⟩ := z1; refine hG ?_; clear hG vG
    have hne : I ≠ L' + 1 := fun e => hoff _ List.mem_cons_self e.symm
    k_steps
    refine Stop.go (LCt.ListComp_T (F₀ := by assumption) (by with_unfolding_all rfl) (by decide) (by rfl) (by decide) (by rfl) ?_)
    k_steps
    refine src_T rfl (by assumption) (by assumption) (.tail _ (.tail _ hm)) ?_ (b := fun j => decide ((ps.getD j (0, 0, 0)).1 = 0 + (i : Int))) (Y := fun j y => vs[j]? = some y) ?_ ?_
    · rw [hps.len]; exact Nat.le_trans hpl (by decide)
    · intro j v ys I2 oI C oC D m₂ h tk hv hC hx F N off ne
      refine veil fun vG hG => ?_; obtain ⟨p, hp, ar, u1, u2, u3, rfl, har⟩ := hps.at hv; refine hG ?_; clear hG vG
      k_steps
      refine TestOut.intro ?_ (by assumption) (by assumption) fun hok => ?_
      · rw [List.getD_eq_getElem?_getD, hp]; rfl
      · k_steps
        exact ⟨hv, _, _, rfl, by assumption, by assumption⟩
    · intro ys hys D h tk F N off
      have h2 := hys.filter (ps := ps) (pr := fun p => decide (p.1 = 0 + (i : Int))) (R := fun _ _ => True) (fun j p e => by rw [List.getD_eq_getElem?_getD, e]; rfl) (fun _ _ _ _ _ => trivial) (Nat.le_of_eq hps.len)
      have h3 : ys.length ≤ 10 := by rw [h2.len]; exact Nat.le_trans (List.length_filter_le _ _) (by rw [List.length_take]; omega)
      have hfit : ((ys.toArray).size : Int) < 2 ^ 63 := by rw [List.size_toArray]; omega
      have h4 : ys.toArray.size ≤ 10 := by rw [List.size_toArray]; exact h3
      have h5 : ys.toArray.size = (ps.filter fun p => decide (p.1 = 0 + (i : Int))).length := by rw [List.size_toArray, h2.len, hps.len, List.take_length]
      obtain ⟨y, hy⟩ : ∃ y, ls[i]? = some y := ⟨_, List.getElem?_eq_getElem (by omega)⟩
      obtain ⟨ty, hw⟩ := hls.at hy
      have hyl := hl1 y (List.mem_of_getElem? hy)
      have hw' : ws[(0 + (i : Int)).toNat]? = some (.str y ty) := by rw [Int.zero_add]; exact hw
      k_steps
      refine Stop.go (LCt.ListComp_T (F₀ := by assumption) (by with_unfolding_all rfl) (by decide) (by rfl) (by decide) (by rfl) ?_)
      k_steps
      refine src_T rfl (by assumption) (by assumption) (.tail _ (.tail _ (.tail _ hm))) ?_ (b := fun j => decide ((ps.getD j (0, 0, 0)).2.2 = 0 + (i : Int) + 1)) (Y := fun j y => vs[j]? = some y) ?_ ?_
      · rw [hps.len]; exact Nat.le_trans hpl (by decide)
      · intro j v ys I2 oI C oC D m₂ h tk hv hC hx F N off ne
        refine veil fun vG hG => ?_; obtain ⟨p, hp, ar, u1, u2, u3, rfl, har⟩ := hps.at hv; refine hG ?_; clear hG vG
        k_steps
        refine TestOut.intro ?_ (by assumption) (by assumption) fun hok => ?_
        · rw [List.getD_eq_getElem?_getD, hp]; rfl
        · k_steps
          exact ⟨hv, _, _, rfl, by assumption, by assumption⟩
      · intro zs hzs D2 h tk F N off
        have g2 := hzs.filter (ps := ps) (pr := fun p => decide (p.2.2 = 0 + (i : Int) + 1)) (R := fun _ _ => True) (fun j p e => by rw [List.getD_eq_getElem?_getD, e]; rfl) (fun _ _ _ _ _ => trivial) (Nat.le_of_eq hps.len)
        have g3 : zs.length ≤ 10 := by rw [g2.len]; exact Nat.le_trans (List.length_filter_le _ _) (by rw [List.length_take]; omega)
        have gfit : ((zs.toArray).size : Int) < 2 ^ 63 := by rw [List.size_toArray]; omega
        have g4 : zs.toArray.size ≤ 10 := by rw [List.size_toArray]; exact g3
        have g5 : zs.toArray.size = (ps.filter fun p => decide (p.2.2 = 0 + (i : Int) + 1)).length := by rw [List.size_toArray, g2.len, hps.len, List.take_length]
        k_steps
        refine' ⟨rfl, _, _, _, _, rfl, by assumption, (fun p hp => ‹News g' _ _ (_ :: _ :: (I, o) :: _)› p (.tail _ (.tail _ hp))), ?off, _, _, _, _, ⟨?X, ?l⟩, rfl, ?d, ?mT, ?mP, ?mL⟩
        case mT => ((try dsimp only); repeat (first | assumption | exact if_pos rfl | refine (if_neg (by decide)).trans ?_))
        case mP => ((try dsimp only); repeat (first | assumption | exact if_pos rfl | refine (if_neg (by decide)).trans ?_))
        case mL => ((try dsimp only); repeat (first | assumption | exact if_pos rfl | refine (if_neg (by decide)).trans ?_))
        case d => assumption
        case l => omega
        case X =>
          show _ = textAt ps ls i ++ _ ++ ls.getD i ⟨#[]⟩ ++ _
          rw [show ls.getD i ⟨#[]⟩ = y by rw [List.getD_eq_getElem?_getD, hy]; rfl, hXe, h5, g5]
        case off =>
          intro p hp
          rcases List.mem_cons.mp hp with rfl | hp
          · exact Ne.symm hne
          · exact hoff p (.tail _ hp)
  · intro h₁ tk m₁ led F₁ N₁ z1; refine veil fun vG hG => ?_; obtain ⟨o0, v0, X, t, ⟨hXe, hXl⟩, rfl, hd0, mT, mP, mL⟩ := z1; refine hG ?_; clear hG vG
    k_steps
    exact hret _ [] _ _ (by assumption) (fun p hp => ‹News h₀ _ _ (_ :: news)› p (.tail _ hp)) ⟨rfl, _, by rw [hXe]; rfl⟩
end
end
section
noncomputable def partsF : Nat → List Int → Int → Int → List (Int × Int × Int)
  | 0, _, _, _ => []
  | n + 1, ord, f, l => match ord.filter (fun k => decide (f < k ∧ k < l)) with
    | [] => []
    | m :: _ => (f, m, l) :: (partsF n ord f m ++ partsF n ord m l)
noncomputable def IsPartsV (ps : List (Int × Int × Int)) (v : Value) (new : CbLed) : Prop := ∃ a vs k, v = .ref a ∧ (a, listOf vs.toArray k) ∈ new ∧ All2 (PTup new) vs ps
noncomputable def IntV (y : Value) (x : Int) : Prop := ∃ t, y = .int x t
theorem All2.ints {ys : List Value} {l : List Int} (q : All2 IntV ys l) : IntsAre ys l := by
  induction q with
  | nil => exact .nil
  | cons x _ ih => obtain ⟨_, rfl⟩ := x; exact .cons _ _ ih
theorem partsF_len (ord : List Int) : ∀ (n : Nat) (f l : Int), (partsF n ord f l).length + 1 ≤ 2 ^ n
  | 0, _, _ => Nat.le_refl _
  | n + 1, f, l => by
    unfold partsF
    split
    · exact Nat.one_le_two_pow
    · rename_i m _ _
      have h1 := partsF_len ord n f m
      have h2 := partsF_len ord n m l
      rw [List.length_cons, List.length_append, Nat.pow_succ]
      omega
theorem PTup.mono {a b : CbLed} (h : ∀ p ∈ a, p ∈ b) {v : Value} {p : Int × Int × Int} : PTup a v p → PTup b v p := fun ⟨ar, t1, t2, t3, e, hm⟩ => ⟨ar, t1, t2, t3, e, h _ hm⟩
theorem All2.append {α β : Type} {R : α → β → Prop} {cs : List α} {ds : List β} (q : All2 R cs ds) {as : List α} {bs : List β} (r : All2 R as bs) : All2 R (as ++ cs) (bs ++ ds) := by
  induction r with
  | nil => exact q
  | cons x _ ih => exact .cons x ih
section
variable {prog : Program} {w : World} {A : Around} {E : Value → Shared → Prop} {s : Shared} {h₀ : Heap} {L : Addr} {m : Str → Option Value} {news : CbLed}
noncomputable abbrev tup3 (p : Int × Int × Int) (t1 t2 t3 : Tok) : Obj := { cls := .type "tuple", data := .seq #[.int p.1 t1, .int p.2.1 t2, .int p.2.2 t3] }
theorem parts_close {h : Heap} {D3 D2 Dl Dt : Addr} {x2 x1 : Obj} {vs1 vs2 : List Value} {new1 new2 rest : CbLed} {ps1 ps2 : List (Int × Int × Int)} {p : Int × Int × Int} {t1 t2 t3 : Tok} {k : Nat}
    (N : News h₀ L h ((D3, listOf ([Value.ref Dt] ++ vs1 ++ vs2).toArray k) :: (new2 ++ (D2, x2) :: (new1 ++ (Dl, x1) :: (Dt, tup3 p t1 t2 t3) :: rest)))) (hr : ∀ p ∈ news, p ∈ rest) (hp1 : All2 (PTup new1) vs1 ps1) (hp2 : All2 (PTup new2) vs2 ps2) :
    News h₀ L h (((D3, listOf ([Value.ref Dt] ++ vs1 ++ vs2).toArray k) :: (new2 ++ (new1 ++ [(Dt, tup3 p t1 t2 t3)]))) ++ news) ∧ IsPartsV (p :: (ps1 ++ ps2)) (.ref D3) ((D3, listOf ([Value.ref Dt] ++ vs1 ++ vs2).toArray k) :: (new2 ++ (new1 ++ [(Dt, tup3 p t1 t2 t3)]))) := by
  refine ⟨fun q hq => N q ?_, _, _, _, rfl, List.mem_cons_self, ?_⟩
  · simp only [List.cons_append, List.append_assoc, List.mem_cons, List.mem_append, List.nil_append] at hq ⊢
    rcases hq with h | h | h | h | h
    · exact .inl h
    · exact .inr (.inl h)
    · exact .inr (.inr (.inr (.inl h)))
    · exact .inr (.inr (.inr (.inr (.inr (.inl h)))))
    · exact .inr (.inr (.inr (.inr (.inr (.inr (hr q h))))))
  · have h0 : PTup ((D3, listOf ([Value.ref Dt] ++ vs1 ++ vs2).toArray k) :: (new2 ++ (new1 ++ [(Dt, tup3 p t1 t2 t3)]))) (.ref Dt) p := ⟨Dt, t1, t2, t3, rfl, by simp⟩
    have h1 : All2 (PTup ((D3, listOf ([Value.ref Dt] ++ vs1 ++ vs2).toArray k) :: (new2 ++ (new1 ++ [(Dt, tup3 p t1 t2 t3)])))) vs1 ps1 := hp1.mono fun _ _ x => x.mono fun q hq => by simp [hq]
    have h2 : All2 (PTup ((D3, listOf ([Value.ref Dt] ++ vs1 ++ vs2).toArray k) :: (new2 ++ (new1 ++ [(Dt, tup3 p t1 t2 t3)])))) vs2 ps2 := hp2.mono fun _ _ x => x.mono fun q hq => by simp [hq]
    rw [List.append_assoc]
    exact .cons h0 (h2.append h1)
theorem eq_nilT {a b : Addr} {vs : List Value} {k k' : Nat} {Q : Value → Shared → Prop} (N : News h₀ L s.heap news) (ha : (a, listOf vs.toArray k) ∈ news) (hi : IntsAre vs []) (hb : (b, listOf ([] : List Value).toArray k') ∈ news) (hu : A.units + 64 < cLine)
    (h : Q (.bool true) s) : wpAny (model prog w) A (compareOp .Eq (.ref a) (.ref b)) Q E s :=
  eq_intsK (News.isList N ha) hi (News.isList N hb) .nil hu h
theorem eq_nilF {a b : Addr} {vs : List Value} {k k' : Nat} {n : Int} {ns : List Int} {Q : Value → Shared → Prop} (N : News h₀ L s.heap news) (ha : (a, listOf vs.toArray k) ∈ news) (hi : IntsAre vs (n :: ns)) (hb : (b, listOf ([] : List Value).toArray k') ∈ news) (hu : A.units + 64 < cLine)
    (h : Q (.bool false) s) : wpAny (model prog w) A (compareOp .Eq (.ref a) (.ref b)) Q E s :=
  eq_intsK (News.isList N ha) hi (News.isList N hb) .nil hu (by rw [decide_eq_false (List.cons_ne_nil _ _)]; exact h)
theorem cat_step {a b : Addr} {vs ws : List Value} {k k' : Nat} {Q : Value → Shared → Prop} (F : Fr h₀ L s.heap m) (N : News h₀ L s.heap news) (ha : (a, listOf vs.toArray k) ∈ news) (hb : (b, listOf ws.toArray k') ∈ news) (hz : vs.length + ws.length ≤ sizeLine)
    (h : ∀ D h', Fr h₀ L h' m → News h₀ L h' ((D, listOf (vs ++ ws).toArray 0) :: news) → (∀ p ∈ news, p.1 < D) → Q (.ref D) { s with heap := h' }) : wpAny (model prog w) A (binaryOp .Add (.ref a) (.ref b)) Q E s :=
  add_lists (hsz := hz) F N (News.isList N ha) (News.isList N hb) fun h' F' N' => h _ h' F' N' fun p hp => Heap.lt_size (N p hp).1
end
section
variable (w : World) {lo : List Str} {mean : ExcName → Option Value} {mg mb : Str → Option Value}
set_option maxHeartbeats 0
local macro_rules | `(tactic| walk_at "compareOp Eq ref ref") => `(tactic| k_dflt (first | (refine' eq_nilT ?N ?a ?i ?b ?u ?_; (case i => assumption); (case N => assumption); (case a => k_mem); (case b => k_mem); (case u => ktr_units)) | (refine' eq_nilF ?N ?a ?i ?b ?u ?_; (case i => assumption); (case N => assumption); (case a => k_mem); (case b => k_mem); (case u => ktr_units))))
local macro_rules | `(tactic| walk_at "binaryOp Add ref ref") => `(tactic| (k_dflt (refine' cat_step ?F ?N ?a ?b ?z ?_; (case F => assumption); (case N => assumption); (case a => k_mem); (case b => k_mem); (case z => (simp only [List.length_append, List.length_cons, List.length_nil]; rw [sizeLine_eq]; omega))); intro D' h' F' N' l1))
local macro_rules | `(tactic| walk_at "call ref") => `(tactic| refine Stop.intro ?_)
noncomputable def PartsOk (w : World) (lo : List Str) (mean : ExcName → Option Value) (mg mb : Str → Option Value) (n : Nat) : Prop :=
  ∀ (news : CbLed) (ao : Addr) (us : List Value) (k : Nat) (ord : List Int) (f l : Int) (tf tl : Tok), (ao, listOf us.toArray k) ∈ news → IntsAre us ord → ord.length ≤ 5 → n ≤ 7 → l - f < n → Spec w lo mean mg mb 231 news [.ref ao, .int f tf, .int l tl] n (80 * n) (IsPartsV (partsF n ord f l))
theorem parts_step (n : Nat) (ih : 0 < n → PartsOk w lo mean mg mb n) : PartsOk w lo mean mg mb (n + 1) := by
  intro news ao us k ord f l tf tl hm hi hl hn6 hfl
  unfold Spec
  k_fill
  intro dp un gd cn cs a ccd cl outer A₀ base h₀ L m s Q E B F X N T hk hd hu hD hret
  refine wpAny_call ?_
  k_dflt (refine' code_defC ?k1 ?k2 ?k3 ?k4 ?k5 ?kA ?kF ?kK ?k6 ?k7 ?k8 ?k9 ?kB ?kD ?_ ?c2 ?c3 ?c4; (case kA => exact rfl); (case kF => exact rfl); (case kK => assumption); (case k1 => k_asm); (case k2 => k_asm); (case k3 => k_asm); (case k4 => k_asm); (case k5 => k_asm); (case k6 => k_is); (case k7 => k_is); (case k8 => ktr_room); (case k9 => exact BindsTo.of_eq rfl); (case kB => exact rfl); (case kD => decide +kernel); (case c2 => exact rfl); (case c3 => exact rfl); (case c4 => exact rfl))
  intro g' L' h' tk' cells' FG' F' N' Y' B' X' T' l1
  k_cells Y'
  (try simp only [List.cons_append, List.nil_append] at N')
  (try k_lt l1)
  (try dsimp only)
  rename_i o1 o2 d1 d2
  replace d1 : o1.data = Data.cell (some (.int l tl)) := d1
  replace d2 : o2.data = Data.cell (some (.int f tf)) := d2
  k_steps
  refine Stop.go (LCt.Assign_ListComp_T (F₀ := by assumption) (by rfl) (by with_unfolding_all rfl) (by with_unfolding_all rfl) (by decide) (by rfl) (by decide) (by rfl) (by rfl) (by rfl) ?_)
  k_steps
  refine src_TA rfl (by assumption) (by assumption) (by k_mem) ?_ (b := fun j => decide (f < ord.getD j 0 ∧ ord.getD j 0 < l)) (Y := fun j y => us[j]? = some y) ?_ ?_
  · rw [hi.length]; exact Nat.le_trans hl (by decide)
  · intro j v ys I oI C oC D m₂ h tk hv hC hx' F N off ne
    refine veil fun vG hG => ?_; obtain ⟨x, t, rfl, hx⟩ := IntsAre.at hi j v hv; refine hG ?_; clear hG vG
    k_steps
    · refine TestOut.intro ?_ (by assumption) (by assumption) fun hok => ?_
      · have e : ord.getD j 0 = x := by rw [List.getD_eq_getElem?_getD, hx]; rfl
        rw [e]
        exact decide_eq_decide.mpr ⟨fun q => ⟨by assumption, q⟩, fun q => q.2⟩
      · k_steps
        exact ⟨hv, _, _, rfl, by assumption, by assumption⟩
    · refine TestOut.intro ?_ (by assumption) (by assumption) fun hok => ?_
      · have e : ord.getD j 0 = x := by rw [List.getD_eq_getElem?_getD, hx]; rfl
        rw [e]
        exact (decide_eq_false fun q => absurd q.1 (by assumption)).symm
      · cases hok
  · intro ys hys D h tk F N off
    have h2 := hys.filter (ps := ord) (pr := fun x => decide (f < x ∧ x < l)) (R := IntV) (fun j p e => by rw [List.getD_eq_getElem?_getD, e]; rfl) (fun j p y e hy => by
      refine veil fun vG hG => ?_; obtain ⟨x, t, e1, e2⟩ := IntsAre.at hi j y hy; refine hG ?_; clear hG vG
      exact ⟨t, by rw [e1]; rw [e] at e2; cases e2; rfl⟩) (Nat.le_of_eq hi.length)
    rw [hi.length, List.take_length] at h2
    have h3 := h2.ints
    have e1 : partsF (n + 1) ord f l = partsF (n + 1) ord f l := rfl
    conv at e1 => { rhs; unfold partsF }
    cases e : ord.filter (fun x => decide (f < x ∧ x < l)) with
    | nil =>
      rw [e] at e1 h3
      k_steps
      refine hret _ [(_, listOf ([] : List Value).toArray 0)] _ _ (by assumption) (fun p hp => ?_) ⟨_, [], 0, rfl, .head _, by rw [e1]; exact .nil⟩
      rcases List.mem_cons.mp hp with rfl | hp
      · exact ‹News h₀ _ _ (_ :: _ :: _ :: _ :: _ :: news)› _ (.head _)
      · exact ‹News h₀ _ _ (_ :: _ :: _ :: _ :: _ :: news)› _ (.tail _ (.tail _ (.tail _ (.tail _ (.tail _ hp)))))
    | cons mm rr =>
      have hmm : mm ∈ ord.filter (fun x => decide (f < x ∧ x < l)) := by rw [e]; exact List.mem_cons_self
      have hmm2 := of_decide_eq_true (List.mem_filter.mp hmm).2
      rw [e] at e1 h3
      cases h3 with | cons _ tm h3 => ?_
      have h4 := IntsAre.cons mm tm h3
      have hn0 : 0 < n := by omega
      have q1 : mm - f < n := by omega
      have q2 : l - mm < n := by omega
      have b1 := partsF_len ord n f mm
      have b2 := partsF_len ord n mm l
      have b3 : 2 ^ n ≤ 2 ^ 6 := Nat.pow_le_pow_right (by decide) (by omega)
      k_steps
      refine' Stop.go (use_spec (ih hn0 ?_ ao us k ord f mm tf tm ?mem hi hl (by omega) q1) ?B ?F ?x ?N ?T rfl ?hd ?hu ?hD ?_)
      case B => k_asm
      case F => k_asm
      case x => k_asm
      case N => k_asm
      case T => k_asm
      case mem => k_mem
      case hD => exact dict_up (by assumption) (by assumption)
      case hd => (show (_ : Nat) < _; (try dsimp only); omega)
      case hu => (show (_ : Nat) < _; (try dsimp only); omega)
      intro v1 new1 h1 tk1 hle1 F1 N1 P1
      refine veil fun vG hG => ?_; obtain ⟨a1, vs1, k1, rfl, hm1, hp1⟩ := P1; refine hG ?_; clear hG vG
      have c1 := hp1.len
      k_steps
      refine' Stop.go (use_spec (ih hn0 ?_ ao us k ord mm l tm tl ?mem hi hl (by omega) q2) ?B ?F ?x ?N ?T rfl ?hd ?hu ?hD ?_)
      case B => k_asm
      case F => k_asm
      case x => k_asm
      case N => k_asm
      case T => k_asm
      case mem => k_mem
      case hD => exact dict_up (by assumption) (by assumption)
      case hd => (show (_ : Nat) < _; (try dsimp only); omega)
      case hu => (show (_ : Nat) < _; (try dsimp only); omega)
      intro v2 new2 h2 tk2 hle2 F2 N2 P2
      refine veil fun vG hG => ?_; obtain ⟨a2, vs2, k2, rfl, hm2, hp2⟩ := P2; refine hG ?_; clear hG vG
      have c2 := hp2.len
      k_steps
      have z := parts_close (h₀ := h₀) (L := L) (news := news) (p := (f, mm, l)) (by assumption) (fun p hp => by simp [hp]) hp1 hp2
      exact hret _ _ _ _ (by assumption) z.1 (by rw [e1]; exact z.2)
theorem parts_spec : ∀ n, PartsOk w lo mean mg mb (n + 1)
  | 0 => parts_step w 0 fun h => absurd h (Nat.lt_irrefl 0)
  | n + 1 => parts_step w (n + 1) fun _ => parts_spec n
end
end
section
noncomputable def rowAt (ts : List Int) (first : Nat) : Nat → List Int
  | 0 => List.replicate (first + 1) 0 ++ [1]
  | j + 1 => rowAt ts first j ++ [ts.getD (first + j) 0 * (rowAt ts first j).getD (first + j + 1) 0 - (rowAt ts first j).getD (first + j) 0]
noncomputable def rowF (ts : List Int) (first : Nat) : List Int := rowAt ts first (5 - first)
noncomputable def tableAt (ts : List Int) (i : Nat) : List (List Int) := (List.range i).map (rowF ts)
noncomputable def friezeF (ts : List Int) : List (List Int) := tableAt ts 7
theorem tableAt_next (ts : List Int) (i : Nat) : tableAt ts (i + 1) = tableAt ts i ++ [rowF ts i] := by
  unfold tableAt
  rw [List.range_succ, List.map_append]; rfl
theorem rowAt_len (ts : List Int) (f : Nat) : ∀ j, (rowAt ts f j).length = f + 2 + j
  | 0 => by unfold rowAt; simp
  | j + 1 => by unfold rowAt; rw [List.length_append, rowAt_len ts f j]; rfl
noncomputable def RowV (led : CbLed) (v : Value) (r : List Int) : Prop := ∃ a us k, v = .ref a ∧ (a, listOf (List.toArray us) k) ∈ led ∧ IntsAre us r
theorem RowV.mono {a b : CbLed} (h : ∀ p ∈ a, p ∈ b) {v : Value} {r : List Int} : RowV a v r → RowV b v r := fun ⟨ar, us, k, e, hm, hi⟩ => ⟨ar, us, k, e, h _ hm, hi⟩
noncomputable def IsRowsV (rs : List (List Int)) (v : Value) (new : CbLed) : Prop := ∃ a vs k, v = .ref a ∧ (a, listOf vs.toArray k) ∈ new ∧ All2 (RowV new) vs rs
theorem row0 {t u : Tok} : ∀ n : Nat, IntsAre ((List.replicate n [Value.int 0 t]).flatten ++ [.int 1 u]) (List.replicate n 0 ++ [1])
  | 0 => .cons _ _ .nil
  | n + 1 => by
    rw [List.replicate_succ, List.replicate_succ, List.flatten_cons]
    exact .cons _ _ (row0 n)
noncomputable def BdAll (ts : List Int) : Prop := ∀ k, -(2 ^ 64) < ts.getD k 0 ∧ ts.getD k 0 < 2 ^ 64
section
variable {prog : Program} {w : World} {A : Around} {E : Value → Shared → Prop} {s : Shared} {h₀ : Heap} {L : Addr} {m : Str → Option Value} {news : CbLed}
theorem item_ints {value slice : Expr} {l : Addr} {us : List Value} {n : Nat} {k : Int} {u : Tok} {ns : List Int} {Q : Value → Shared → Prop} (N : News h₀ L s.heap news) (hm : (l, listOf us.toArray n) ∈ news) (hi : IntsAre us ns)
    (h0 : 0 ≤ k) (h1 : k < ns.length) (hs : ns.length ≤ 1000) (h : ∀ t, Q (.int (ns.getD k.toNat 0) t) s)
    (hs : subscripted slice false (.ref l) (.int k u) = operate [.ref l, .int k u] (getItem (.ref l) (.int k u)) := by with_unfolding_all rfl) (hg : ∀ r, letTemporaryGo value (.ref l) r = pure () := by intro _; with_unfolding_all rfl) :
    wpAny (model prog w) A (subscriptTail value slice (.ref l) (.int k u)) Q E s := by
  have hl := hi.length
  have e : us[k.toNat]? = some us[k.toNat] := List.getElem?_eq_getElem (by omega)
  refine veil fun vG hG => ?_; obtain ⟨x, t, e1, e2⟩ := IntsAre.at hi _ _ e; refine hG ?_; clear hG vG
  rw [e1] at e
  have e3 : ns.getD k.toNat 0 = x := by rw [List.getD_eq_getElem?_getD, e2]; rfl
  refine item_listL (News.isList N hm) h0 (by omega) e ?_ hs hg
  have := h t
  rw [e3] at this
  exact this
theorem push_val {D : Addr} {us : List Value} {x : Value} {n : Nat} {Q : Value → Shared → Prop} (pre post : CbLed) (F : Fr h₀ L s.heap m) (N : News h₀ L s.heap (pre ++ (D, listOf us.toArray n) :: post)) (a : ∀ p ∈ pre, p.1 ≠ D) (b : ∀ p ∈ post, p.1 ≠ D) (hz : us.length ≤ 100)
    (h : ∀ h', Fr h₀ L h' m → News h₀ L h' (pre ++ (D, listOf (us ++ [x]).toArray (n + 1)) :: post) → Q .none { s with heap := h' }) :
    wpAny (model prog w) A (call (.builtin "list.append") [.ref D, x]) Q E s := by
  refine append_K F N (upd_mid b pre a) (fun h' F' N' => ?_) (by rw [sizeLine_eq]; show us.length ≤ _; omega)
  rw [List.push_toArray] at N'
  exact h h' F' N'
end
section
variable (w : World) {lo : List Str} {mean : ExcName → Option Value} {mg mb : Str → Option Value}
set_option maxHeartbeats 4000000
local macro_rules | `(tactic| walk_at "binaryOp Add ref ref") => `(tactic| refine Stop.intro ?_)
local macro_rules | `(tactic| walk_at "binaryOp Mult ref int") => `(tactic| refine Stop.intro ?_)
local macro_rules | `(tactic| walk_at "subscriptTail Name BinOp ref int") => `(tactic| (k_dflt (refine' item_ints ?N ?m ?i ?a ?b ?z ?_; (case N => assumption); (case m => k_mem); (case i => assumption); (case a => omega); (case b => omega); (case z => omega)); intro t'))
local macro_rules | `(tactic| walk_at "call ref") => `(tactic| refine Stop.intro ?_)
local macro_rules | `(tactic| walk_at "call builtin:list.append") => `(tactic| refine Stop.intro ?_)
inductive FrzJ (ts : List Int) (news : CbLed) (aT ar : Addr) (i : Nat) (m : Str → Option Value) (led : CbLed) : Prop
  | mk (vs) (k) (rl : CbLed) (p1 : led = (aT, listOf (List.toArray vs) k) :: (rl ++ news)) (p2 : All2 (RowV rl) vs (tableAt ts i)) (p3 : ∀ p ∈ rl ++ news, p.1 ≠ aT) (p4 : m (Str.ofString "table") = some (.ref aT)) (p5 : m (Str.ofString "turns") = some (.ref ar)) : FrzJ ts news aT ar i m led
inductive FrzK (ts : List Int) (R : CbLed) (aT ar aR : Addr) (tv : Tok) (i : Nat) (j : Nat) (m : Str → Option Value) (led : CbLed) : Prop
  | mk (us2) (k2) (p1 : led = (aR, listOf (List.toArray us2) k2) :: R) (p2 : IntsAre us2 (rowAt ts i j)) (p3 : m (Str.ofString "table") = some (.ref aT)) (p4 : m (Str.ofString "turns") = some (.ref ar)) (p5 : m (Str.ofString "row") = some (.ref aR)) (p6 : m (Str.ofString "first") = some (.int (0 + (i : Int)) tv)) : FrzK ts R aT ar aR tv i j m led
theorem frieze_spec (news : CbLed) (ar : Addr) (us : List Value) (k : Nat) (ts : List Int) (hm : (ar, listOf us.toArray k) ∈ news) (hi : IntsAre us ts) (hl : ts.length = 5) (hb : BdAll ts) :
    Spec w lo mean mg mb 278 news [.ref ar] 2 16 (IsRowsV (friezeF ts)) := by
  unfold Spec
  k_fill
  intro dp un gd cn cs a ccd cl outer A₀ base h₀ L m s Q E B F X N T hk hd hu hD hret
  refine wpAny_call ?_
  k_dflt cell_enter
  k_steps
  refine Stop.go (wpAny_execs_cons (For_turns (by assumption) ?_))
  k_steps
  rename_i aT hA lA hB FB NB hC tk tr1 tr2 tr3 hr F' N' hD'
  have hnl : ∀ p ∈ news, (p.1 : Nat) < aT := lA
  refine range_inv rfl hr (by decide) (n := 7) (by decide) F' N' (FrzJ ts news aT ar) ⟨[], 0, [], rfl, .nil, fun p hp => Nat.ne_of_lt (hnl p hp), rfl, rfl⟩ ?_ ?_
  · intro i tv m₁ led h₁ tk₁ I o hi7 z1 hoff hlt F₁ N₁; refine veil fun vG hG => ?_; obtain ⟨vs, k1, rl, rfl, hv, hne, mT, mU⟩ := z1; refine hG ?_; clear hG vG
    k_steps
    refine' Stop.go (KMa.mul ?F ?N ?l ?lo ?hi ?z ?e ?_)
    case F => assumption
    case N => assumption
    case l => exact News.isList (by assumption) (by k_mem)
    case lo => omega
    case hi => omega
    case z => simp only [List.length_cons, List.length_nil]; omega
    case e => exact rfl
    intro aM hz2 FM NM q2
    k_steps
    refine' Stop.go (cat_step ?F ?N ?a ?b ?z ?_)
    case F => assumption
    case N => assumption
    case a => k_mem
    case b => k_mem
    case z => simp only [List.length_append, List.length_cons, List.length_nil, List.length_flatten, List.map_replicate, List.sum_replicate_nat]; rw [sizeLine_eq]; omega
    intro aR hA2 FR NR lR
    k_steps
    refine Stop.go (wpAny_execs_cons (For_turns (by assumption) ?_))
    k_steps
    rename_i a0 hz1 q1 a1 hz3 q3 hB2 FB2 NB2 hC2 tk2 r1 r2 r3 hr2 F2 N2 hk2
    have e0 : (0 + (i : Int) + 1).toNat = i + 1 := by omega
    rw [e0] at N2 lR
    refine range_inv rfl hr2 (small_one (by omega) (by omega) (by omega) (by omega)) (n := 5 - i) (by rw [rangeSize_nat]; omega) F2 N2 (FrzK ts (_ :: _ :: _ :: (I, o) :: (aT, listOf vs.toArray k1) :: (rl ++ news)) aT ar aR tv i) ⟨_, _, rfl, row0 _, mT, mU, rfl, rfl⟩ ?_ ?_
    · intro j tj m₂ led h₂ tk₂ I2 o2 hj z1 hoff2 hlt2 F₂ N₂; refine veil fun vG hG => ?_; obtain ⟨us2, k2, rfl, hu2, nT, nU, nR, nF⟩ := z1; refine hG ?_; clear hG vG
      have hrl := rowAt_len ts i j
      have hul := hu2.length
      k_steps
      refine' Stop.go (use_spec (imul_spec w _ _ _ _ _ (mulOk (‹BdAll _› _))) ?B ?F ?x ?N ?T rfl ?hd ?hu ?hD ?_)
      case B => k_asm
      case F => k_asm
      case x => k_asm
      case N => k_asm
      case T => k_asm
      case hD => first | assumption | exact dict_up (by assumption) (by assumption)
      case hd => first | ktr_room | decide
      case hu => first | ktr_units | decide
      intro v' new' h' tk' hle F' N' hP
      obtain ⟨e1, t', e2⟩ := hP
      subst e1; subst e2
      dsimp only [List.nil_append] at N'
      clear hle
      k_steps
      refine' Stop.go (use_spec (isub_spec w _ _ _ _ _) ?B ?F ?x ?N ?T rfl ?hd ?hu ?hD ?_)
      case B => k_asm
      case F => k_asm
      case x => k_asm
      case N => k_asm
      case T => k_asm
      case hD => first | assumption | exact dict_up (by assumption) (by assumption)
      case hd => first | ktr_room | decide
      case hu => first | ktr_units | decide
      intro v' new' h' tk' hle F' N' hP
      obtain ⟨e1, t', e2⟩ := hP
      subst e1; subst e2
      dsimp only [List.nil_append] at N'
      clear hle
      k_steps
      refine Stop.go (push_int [_] _ (by assumption) (by assumption) (List.forall_mem_cons.mpr ⟨Ne.symm (hoff2 _ (.head _)), fun _ h => nomatch h⟩) (fun p hp => Nat.ne_of_lt (lR p hp)) hu2 (by omega) fun h3 us3 F3 N3 hus3 => ?_)
      dsimp only [List.cons_append, List.nil_append] at N3
      have x1 : (0 + (i : Int) + 2 + (j : Int) - 2).toNat = i + j := by omega
      have x2 : (0 + (i : Int) + 2 + (j : Int) - 1).toNat = i + j + 1 := by omega
      rw [x1, x2] at hus3
      k_steps
      exact ⟨rfl, _, _, _, _, rfl, by assumption, N3, (fun p hp => by
        rcases List.mem_cons.mp hp with rfl | hp
        · have y := hoff2 _ List.mem_cons_self
          exact y
        · exact hoff2 p (.tail _ hp)), us3, _, rfl, hus3, by ((try dsimp only); repeat (first | assumption | exact if_pos rfl | refine (if_neg (by decide)).trans ?_)), by ((try dsimp only); repeat (first | assumption | exact if_pos rfl | refine (if_neg (by decide)).trans ?_)), by ((try dsimp only); repeat (first | assumption | exact if_pos rfl | refine (if_neg (by decide)).trans ?_)), by ((try dsimp only); repeat (first | assumption | exact if_pos rfl | refine (if_neg (by decide)).trans ?_))⟩
    · intro h₂ tk₂ m₂ led F₂ N₂ z1; refine veil fun vG hG => ?_; obtain ⟨us2, k2, rfl, hu2, nT, nU, nR, nF⟩ := z1; refine hG ?_; clear hG vG
      have hvl := hv.len
      have htl : (tableAt ts i).length = i := by unfold tableAt; rw [List.length_map, List.length_range]
      have z1 : (aT : Nat) < I := hlt (aT, _) (.head _)
      have z2 : (aT : Nat) < a0 := q1.2.1
      have z3 : (aT : Nat) < aM := q2 (aT, _) (.tail _ (.tail _ (.head _)))
      have z4 : (aT : Nat) < a1 := q3.2.2.2.1
      have z5 : (aT : Nat) < aR := lR (aT, _) (.tail _ (.tail _ (.tail _ (.tail _ (.head _)))))
      have z6 : (I : Nat) < aR := lR (I, o) (.tail _ (.tail _ (.tail _ (.head _))))
      k_steps
      refine Stop.go (push_val [_, _, _, _, _] (rl ++ news) (by assumption) (by assumption) (List.forall_mem_cons.mpr ⟨Nat.ne_of_gt z5, List.forall_mem_cons.mpr ⟨Nat.ne_of_gt z4, List.forall_mem_cons.mpr ⟨Nat.ne_of_gt z3, List.forall_mem_cons.mpr ⟨Nat.ne_of_gt z2, List.forall_mem_cons.mpr ⟨Nat.ne_of_gt z1, fun _ h => nomatch h⟩⟩⟩⟩⟩) hne (by omega) fun h3 F3 N3 => ?_)
      dsimp only [List.cons_append, List.nil_append] at N3
      k_steps
      refine ⟨rfl, _, _, _, (aT, listOf (vs ++ [Value.ref aR]).toArray (k1 + 1)) :: ((aR, listOf us2.toArray k2) :: rl ++ news), rfl, by assumption, ?_, ?_, vs ++ [.ref aR], k1 + 1, (aR, listOf us2.toArray k2) :: rl, rfl, ?_, ?_, by ((try dsimp only); repeat (first | assumption | exact if_pos rfl | refine (if_neg (by decide)).trans ?_)), by ((try dsimp only); repeat (first | assumption | exact if_pos rfl | refine (if_neg (by decide)).trans ?_))⟩
      · intro p hp
        refine N3 p ?_
        simp only [List.cons_append, List.mem_cons] at hp ⊢
        rcases hp with h | h | h | h
        · exact .inr (.inr (.inr (.inr (.inl h))))
        · exact .inr (.inr (.inr (.inr (.inr (.inl h)))))
        · exact .inl h
        · exact .inr (.inr (.inr (.inr (.inr (.inr h)))))
      · intro p hp
        simp only [List.cons_append, List.mem_cons] at hp
        rcases hp with rfl | rfl | h
        · exact Nat.ne_of_lt z1
        · exact Nat.ne_of_gt z6
        · exact hoff p (.tail _ h)
      · rw [tableAt_next]
        exact (hv.mono fun _ _ x => x.mono fun q hq => .tail _ hq).snoc ⟨aR, us2, k2, rfl, .head _, hu2⟩
      · intro p hp
        simp only [List.cons_append, List.mem_cons] at hp
        rcases hp with rfl | h
        · exact Nat.ne_of_gt z5
        · exact hne p h
  · intro h₁ tk₁ m₁ led F₁ N₁ z1; refine veil fun vG hG => ?_; obtain ⟨vs, k1, rl, rfl, hv, hne, mT, mU⟩ := z1; refine hG ?_; clear hG vG
    k_steps
    exact hret _ ((aT, listOf vs.toArray k1) :: rl) _ _ (by assumption) ‹News h₀ _ _ (_ :: (rl ++ news))› ⟨aT, vs, k1, rfl, .head _, hv.mono fun _ _ x => x.mono fun q hq => .tail _ hq⟩
end
section
variable {prog : Program} {w : World} {A : Around} {E : Value → Shared → Prop} {s : Shared} {h₀ : Heap} {L : Addr} {m : Str → Option Value} {news ex : CbLed}
theorem item_rows {value slice : Expr} {l : Addr} {vs : List Value} {n : Nat} {k : Int} {u : Tok} {rs : List (List Int)} {Q : Value → Shared → Prop} (N : News h₀ L s.heap news) (hm : (l, listOf vs.toArray n) ∈ news) (hi : All2 (RowV ex) vs rs)
    (h0 : 0 ≤ k) (h1 : k < 7) (hl : rs.length = 7) (hr : ∀ r ∈ rs, 7 ≤ r.length ∧ r.length ≤ 8)
    (h : ∀ a us c, (a, listOf (List.toArray us) c) ∈ ex → IntsAre us (rs.getD k.toNat []) → 7 ≤ (rs.getD k.toNat []).length → (rs.getD k.toNat []).length ≤ 8 → Q (.ref a) s)
    (hs : subscripted slice false (.ref l) (.int k u) = operate [.ref l, .int k u] (getItem (.ref l) (.int k u)) := by with_unfolding_all rfl) (hg : ∀ r, letTemporaryGo value (.ref l) r = pure () := by intro _; with_unfolding_all rfl) :
    wpAny (model prog w) A (subscriptTail value slice (.ref l) (.int k u)) Q E s := by
  have hlen := hi.len
  have e : vs[k.toNat]? = some vs[k.toNat] := List.getElem?_eq_getElem (by omega)
  refine veil fun vG hG => ?_; obtain ⟨r, e1, a, us, c, e2, hm2, hi2⟩ := hi.at e; refine hG ?_; clear hG vG
  rw [e2] at e
  have e3 : rs.getD k.toNat [] = r := by rw [List.getD_eq_getElem?_getD, e1]; rfl
  have hb := hr r (List.mem_of_getElem? e1)
  refine item_listL (News.isList N hm) h0 (by omega) e ?_ hs hg
  refine h a us c hm2 ?_ ?_ ?_
  · rw [e3]; exact hi2
  · rw [e3]; exact hb.1
  · rw [e3]; exact hb.2
theorem item_intsA {value slice : Expr} {l : Addr} {us : List Value} {n : Nat} {k : Int} {u : Tok} {ns : List Int} {Q : Value → Shared → Prop} (N : News h₀ L s.heap news) (hm : (l, listOf us.toArray n) ∈ news) (hi : IntsAre us ns)
    (h0 : 0 ≤ k) (h1 : k < ns.length) (hz : ns.length ≤ 1000) (h : ∀ t, Q (.int (ns.getD k.toNat 0) t) s)
    (hs : subscripted slice false (.ref l) (.int k u) = operate [.ref l, .int k u] (getItem (.ref l) (.int k u)) := by with_unfolding_all rfl) :
    wpAny (model prog w) A (subscriptTail value slice (.ref l) (.int k u)) Q E s :=
  kba_turn (value' := .Name (Str.ofString "q") ⟨0, 0, 0, 0⟩) (fun _ => rfl) (item_ints N hm hi h0 h1 hz h hs (fun _ => rfl))
end
end
section
open PySem.Calls
noncomputable def LoopOutB (h₀ : Heap) (L : Addr) (s : Shared) (I : Addr) (o : Obj) (J : (Str → Option Value) → CbLed → Prop) (Je : (Str → Option Value) → CbLed → Prop) (f : Flow) (s₂ : Shared) : Prop :=
  LoopOut h₀ L s I o J f s₂ ∨ (f = .brk ∧ ∃ h' tk' m' led', s₂ = { s with heap := h', toks := tk' } ∧ Fr h₀ L h' m' ∧ News h₀ L h' led' ∧ Je m' led')
section
variable {prog : Program} {w : World} {A : Around} {E : Value → Shared → Prop} {s : Shared} {env : Env} {h₀ : Heap} {body : List Stmt} {Q : Flow → Shared → Prop}
theorem str_core {x : Str} {px : Pos} {X : Str} {itO : Obj} {St : Nat → Heap → Prop} {m₀ : Str → Option Value} {led₀ : CbLed}
    (W : Walks prog w A s.heap.objs.size [s.heap.objs.size] [s.heap.objs.size] X.cps.size (SignAt X) St) (hobj : ∀ i h, St i h → ∃ o, h.get? s.heap.objs.size = some o) (hst : St 0 (s.heap.push itO)) (F : Fr h₀ env.locals s.heap m₀) (N : News h₀ env.locals s.heap led₀)
    (J : Nat → (Str → Option Value) → CbLed → Prop) (Je : (Str → Option Value) → CbLed → Prop) (h0 : J 0 m₀ led₀) (hend : ∀ m led, J X.cps.size m led → Je m led)
    (step : ∀ i c u m₁ led h₁ tk I o, X.cps[i]? = some c → J i m₁ led → (∀ p ∈ led, p.1 ≠ I) → (∀ p ∈ led₀, p.1 < I) → Fr h₀ env.locals h₁ m₁ → News h₀ env.locals h₁ ((I, o) :: led) →
      wpAny (model prog w) A (assign (.Name x px) env (.str ⟨#[c]⟩ u)) (fun _ s₂ => wpAny (model prog w) A (execs body env) (LoopOutB h₀ env.locals s I o (J (i + 1)) Je) E s₂) E { s with heap := h₁, toks := tk })
    (hQ : ∀ h' tk m' led, Fr h₀ env.locals h' m' → News h₀ env.locals h' led → Je m' led → Q .next { s with heap := h', toks := tk }) :
    TurnsAt prog w A h₀ env (.Name x px) body Q E (.ref s.heap.objs.size) { s with heap := s.heap.push itO } := by
  have hlts : ∀ p ∈ led₀, p.1 < s.heap.objs.size := fun p hp => Heap.lt_size (N p hp).1
  have hLlt : env.locals < s.heap.objs.size := F.ns.lt
  have W' := KTurns.ofWalks (target := .Name x px) W fun i v s Q E st q => (wpAny_pure q : wpAny (model prog w) A (pure ()) Q E s)
  refine ⟨s.heap.objs.size, [s.heap.objs.size], [s.heap.objs.size], X.cps.size, _, _, _, m₀, led₀, J, rfl, W', ?_, ?_, ?_, hst, F.push _, (fun p hp => ⟨Heap.get?_push_of_some _ (N p hp).1, (N p hp).2⟩), h0, ?_, ?_⟩
  · intro hI
    exact absurd hLlt ((List.mem_singleton.mp hI) ▸ Nat.lt_irrefl _)
  · intro b hb
    rw [List.mem_singleton.mp hb]
    exact next_is_new F
  · intro p hp hI
    exact absurd (hlts p hp) ((List.mem_singleton.mp hI) ▸ Nat.lt_irrefl _)
  · intro i v m₁ news₁ h₁ tk₁ own hin hP hJ hoff hown hget hall hst₁ F₁ N₁
    refine veil fun vG hG => ?_; obtain ⟨c, u, hc, rfl⟩ := hP; refine hG ?_; clear hG vG
    obtain ⟨itO, ho⟩ := hobj _ _ hst₁
    have hIo := hall _ (List.mem_singleton.mpr rfl) (next_is_new F) _ ho
    have N₂ : News h₀ env.locals h₁ ((s.heap.objs.size, itO) :: news₁) := fun p hp => by
      rcases List.mem_cons.mp hp with rfl | hp
      · exact N₁ _ (List.mem_append_left _ hIo)
      · exact N₁ _ (List.mem_append_right _ hp)
    refine wpAny_mono (step i c u m₁ news₁ h₁ tk₁ s.heap.objs.size itO hc hJ (fun p hp e => hoff p hp (List.mem_singleton.mpr e)) hlts F₁ N₂) (fun _ s₂ h₂ => wpAny_mono h₂ (fun f s₃ h₃ => ?_) fun _ _ e => e) fun _ _ e => e
    rcases h₃ with ⟨rfl, h', tk, m', led', rfl, F', N', ho', hJ'⟩ | ⟨rfl, h', tk, m', led', rfl, F', N', hJ'⟩
    · refine .next ⟨rfl, h', tk, m', led', rfl, F', ?_, fun p hp hI => ho' p hp (List.mem_singleton.mp hI), hJ'⟩
      intro p hp
      rcases List.mem_append.mp hp with hp | hp
      · have h2 := hget p hp
        have e := List.mem_singleton.mp (hown p hp)
        have : p = (s.heap.objs.size, itO) := by
          rw [e] at h2
          exact Prod.ext e (Option.some.inj (h2.symm.trans ho))
        rw [this]; exact N' _ List.mem_cons_self
      · exact N' _ (.tail _ hp)
    · exact .brk (hQ h' tk m' led' F' N' hJ')
  · intro h' tk m' news' F' N' _ hJ
    exact hQ h' tk m' news' F' N' (hend _ _ hJ)
theorem str_inv {x : Str} {px : Pos} {X : Str} {tX : Tok} {m₀ : Str → Option Value} {led₀ : CbLed} (hh : A.handled = none) (F : Fr h₀ env.locals s.heap m₀) (N : News h₀ env.locals s.heap led₀)
    (J : Nat → (Str → Option Value) → CbLed → Prop) (Je : (Str → Option Value) → CbLed → Prop) (h0 : J 0 m₀ led₀) (hend : ∀ m led, J X.cps.size m led → Je m led)
    (step : ∀ i c u m₁ led h₁ tk I o, X.cps[i]? = some c → J i m₁ led → (∀ p ∈ led, p.1 ≠ I) → (∀ p ∈ led₀, p.1 < I) → Fr h₀ env.locals h₁ m₁ → News h₀ env.locals h₁ ((I, o) :: led) →
      wpAny (model prog w) A (assign (.Name x px) env (.str ⟨#[c]⟩ u)) (fun _ s₂ => wpAny (model prog w) A (execs body env) (LoopOutB h₀ env.locals s I o (J (i + 1)) Je) E s₂) E { s with heap := h₁, toks := tk })
    (hQ : ∀ h' tk m' led, Fr h₀ env.locals h' m' → News h₀ env.locals h' led → Je m' led → Q .next { s with heap := h', toks := tk }) :
    wpAny (model prog w) A (pyIter (.str X tX)) (fun it s₂ => TurnsAt prog w A h₀ env (.Name x px) body Q E it s₂) E s := by
  cases ha : X.cps.all (· < 128) with
  | false => exact wpAny_pyIter_wide ha (str_core (Walks.strWide hh _ X tX) (fun i h st => by obtain ⟨o, e, _⟩ := st; exact ⟨o, e⟩) ⟨_, Heap.get?_push_size _ rfl, rfl, rfl⟩ F N J Je h0 hend step hQ)
  | true => exact wpAny_pyIter_ascii ha (str_core (Walks.strAscii hh _ X tX) (fun i h st => by obtain ⟨o, e, _⟩ := st; exact ⟨o, e⟩) ⟨_, Heap.get?_push_size _ rfl, rfl, rfl⟩ F N J Je h0 hend step hQ)
end
end
section
noncomputable def wsTab (cs : List Int) (b : Int) : List Int :=
  let cs' := if (cs.length : Int) ≤ b then cs ++ (List.replicate (b - (cs.length : Int) + 1).toNat [(0 : Int)]).flatten else cs
  cs'.set b.toNat (cs'.getD b.toNat 0 + 1)
noncomputable def wsStep (σ : List Int × Int × Int × Int) (c : Nat) : List Int × Int × Int × Int :=
  if c = 32 then (σ.1, σ.2.1 + 1, σ.2.2.1 + 1, σ.2.2.2) else (wsTab σ.1 σ.2.1, 0, σ.2.2.1 + 1, σ.2.2.2 + 1)
noncomputable def wsAt (X : Str) (i : Nat) : List Int × Int × Int × Int := (X.cps.toList.take i).foldl wsStep ([], 0, 0, 0)
noncomputable def wsF (X : Str) : List Int × Int × Int × Int := (X.cps.toList.takeWhile fun c => c == 32 || c == 9).foldl wsStep ([], 0, 0, 0)
theorem chr_is {c d : Nat} {x : Str} (hx : x = ⟨#[d]⟩) (h : ((⟨#[c]⟩ : Str) == x) = true) : c = d := by
  subst hx
  have e2 := congrArg (fun z : Str => z.cps.toList) (eq_of_beq h)
  exact (List.cons.inj e2).1
theorem chr_not {c d : Nat} {x : Str} (hx : x = ⟨#[d]⟩) (h : ((⟨#[c]⟩ : Str) == x) = false) : c ≠ d := by
  subst hx
  rintro rfl
  rw [beq_self_eq_true] at h; cases h
theorem s32 : Str.ofString " " = ⟨#[32]⟩ := by decide
theorem s9 : Str.ofString "\t" = ⟨#[9]⟩ := by decide
theorem allLt_at {d : Nat} : ∀ {l : CbLed}, AllLt d l → ∀ p ∈ l, @LT.lt Nat _ p.1 d
  | [], _, _, hp => nomatch hp
  | _ :: _, h, p, hp => by
    rcases List.mem_cons.mp hp with rfl | hp
    · exact h.1
    · exact allLt_at h.2 p hp
theorem news_cut {h₀ h : Heap} {L : Addr} {p a b i c : Addr × Obj} {R : CbLed} (N : News h₀ L h (p :: a :: b :: i :: c :: R)) : News h₀ L h (i :: p :: R) := fun q hq => by
  rcases List.mem_cons.mp hq with rfl | hq
  · exact N _ (.tail _ (.tail _ (.tail _ (.head _))))
  rcases List.mem_cons.mp hq with rfl | hq
  · exact N _ (.head _)
  exact N q (.tail _ (.tail _ (.tail _ (.tail _ (.tail _ hq)))))
noncomputable abbrev wsDict (P : Params) (x : Str) (t k1 k2 k3 k4 k5 tn tt : Tok) (n nt : Int) (na : Addr) (b : Bool) : Obj :=
  dictOf [⟨PyData.keyHash P (Str.ofString "raw"), .str (Str.ofString "raw") k1, .str x t⟩, ⟨PyData.keyHash P (Str.ofString "n"), .str (Str.ofString "n") k2, .int n tn⟩, ⟨PyData.keyHash P (Str.ofString "nt"), .str (Str.ofString "nt") k3, .int nt tt⟩, ⟨PyData.keyHash P (Str.ofString "norm"), .str (Str.ofString "norm") k4, .ref na⟩, ⟨PyData.keyHash P (Str.ofString "is_simple"), .str (Str.ofString "is_simple") k5, .bool b⟩] 5
inductive IsWs (P : Params) (x : Str) (v : Value) (new : CbLed) : Prop
  | mk (xa) (da) (na) (ta) (t) (k1) (k2) (k3) (k4) (k5) (tn) (tt) (tb) (n) (b) (us)
    (p1 : v = .ref xa)
    (p2 : (xa, instObj 83 da) ∈ new)
    (p3 : (da, wsDict P x t k1 k2 k3 k4 k5 tn tt n (wsF x).2.2.2 na b) ∈ new)
    (p4 : (na, ({ cls := .type "tuple", data := .seq #[.ref ta, .int (wsF x).2.1 tb] } : Obj)) ∈ new)
    (p5 : (ta, ({ cls := .type "tuple", data := .seq (List.toArray us) } : Obj)) ∈ new)
    (p6 : IntsAre us (wsF x).1) : IsWs P x v new
theorem named {h₀ h : Heap} {L : Addr} {p : Addr × Obj} {R : CbLed} (N : News h₀ L h (p :: R)) : ∃ R', R' = R ∧ News h₀ L h (p :: R') := ⟨R, rfl, N⟩
theorem wsAt_next (X : Str) (i c : Nat) (h : X.cps[i]? = some c) : wsAt X (i + 1) = wsStep (wsAt X i) c := by
  unfold wsAt
  rw [take_nextC _ i c (by simpa using h), List.foldl_append]; rfl
theorem wsTab_len (cs : List Int) (b : Int) (i : Nat) (h1 : cs.length ≤ i) (h2 : 0 ≤ b ∧ b ≤ i) : (wsTab cs b).length ≤ i + 1 := by
  unfold wsTab
  dsimp only
  rw [List.length_set]
  split
  · rw [List.length_append, List.length_flatten, List.map_replicate, List.sum_replicate_nat, List.length_singleton]; omega
  · omega
theorem wsFold_bd (l : List Nat) : ∀ (σ : List Int × Int × Int × Int) (i : Nat), σ.1.length ≤ i → (0 ≤ σ.2.1 ∧ σ.2.1 ≤ i) → (l.foldl wsStep σ).1.length ≤ i + l.length ∧ 0 ≤ (l.foldl wsStep σ).2.1 ∧ (l.foldl wsStep σ).2.1 ≤ i + l.length := by
  induction l with
  | nil => intro σ i h1 h2; exact ⟨h1, h2⟩
  | cons c r ih =>
    intro σ i h1 h2
    rw [List.foldl_cons, List.length_cons]
    have := ih (wsStep σ c) (i + 1) (by
      unfold wsStep; split
      · exact Nat.le_succ_of_le h1
      · exact wsTab_len _ _ _ h1 h2) (by
      unfold wsStep; split
      · dsimp only; omega
      · dsimp only; omega)
    omega
theorem wsF_bd (X : Str) : (wsF X).1.length ≤ X.length ∧ 0 ≤ (wsF X).2.1 ∧ (wsF X).2.1 ≤ X.length := by
  have := wsFold_bd (X.cps.toList.takeWhile fun c => c == 32 || c == 9) ([], 0, 0, 0) 0 (Nat.le_refl _) ⟨Int.le_refl _, Int.le_refl _⟩
  have h2 : (X.cps.toList.takeWhile fun c => c == 32 || c == 9).length ≤ X.cps.toList.length := (List.takeWhile_prefix _).length_le
  have h3 : X.cps.toList.length = X.length := by simp [Str.length]
  unfold wsF
  omega
theorem wsAt_bd (X : Str) (i : Nat) : (wsAt X i).1.length ≤ i ∧ 0 ≤ (wsAt X i).2.1 ∧ (wsAt X i).2.1 ≤ i := by
  have := wsFold_bd (X.cps.toList.take i) ([], 0, 0, 0) 0 (Nat.le_refl _) ⟨Int.le_refl _, Int.le_refl _⟩
  have h2 : (X.cps.toList.take i).length ≤ i := by rw [List.length_take]; omega
  unfold wsAt
  omega
theorem wsF_all {X : Str} {i : Nat} (h : ∀ c ∈ X.cps.toList.take i, c = 32 ∨ c = 9) (he : X.cps.toList.length ≤ i ∨ ∃ c, X.cps[i]? = some c ∧ c ≠ 32 ∧ c ≠ 9) : wsF X = wsAt X i := by
  unfold wsF wsAt
  have e : X.cps.toList.takeWhile (fun c => c == 32 || c == 9) = X.cps.toList.take i := by
    rcases he with he | ⟨c, hc, h1, h2⟩
    · rw [List.take_of_length_le he] at h ⊢
      have := List.takeWhile_append_of_pos (p := fun c => c == 32 || c == 9) (l₁ := X.cps.toList) (l₂ := []) (fun d hd => by rcases h d hd with rfl | rfl <;> rfl)
      simpa using this
    · have hi : i < X.cps.toList.length := by
        have := (Array.getElem?_eq_some_iff.mp hc).1
        simpa using this
      have e1 : X.cps.toList = X.cps.toList.take i ++ c :: X.cps.toList.drop (i + 1) := by
        have h3 : X.cps.toList[i]? = some c := by simpa using hc
        have h4 := List.drop_eq_getElem_cons hi
        rw [List.getElem?_eq_getElem hi] at h3
        rw [Option.some.inj h3] at h4
        rw [← h4, List.take_append_drop]
      conv => lhs; rw [e1]
      rw [List.takeWhile_append_of_pos (fun d hd => by rcases h d hd with rfl | rfl <;> rfl), List.takeWhile_cons_of_neg (by simp [h1, h2]), List.append_nil]
  rw [e]
section
variable (w : World) {lo : List Str} {mean : ExcName → Option Value} {mg mb : Str → Option Value}
set_option maxHeartbeats 4000000
local macro_rules | `(tactic| walk_at "call type:tuple") => `(tactic| refine Stop.intro ?_)
inductive WsJ (x : Str) (R : CbLed) (xa : Addr) (i : Nat) (m : Str → Option Value) (led : CbLed) : Prop
  | mk (aC) (us) (k) (tb) (tn) (tt) (p1 : ∀ c ∈ x.cps.toList.take i, c = 32 ∨ c = 9) (p2 : led = (aC, listOf (List.toArray us) k) :: R) (p3 : ∀ p ∈ R, p.1 ≠ aC) (p4 : IntsAre us (wsAt x i).1) (p5 : m (Str.ofString "count") = some (.ref aC)) (p6 : m (Str.ofString "b") = some (.int (wsAt x i).2.1 tb)) (p7 : m (Str.ofString "n") = some (.int (wsAt x i).2.2.1 tn)) (p8 : m (Str.ofString "nt") = some (.int (wsAt x i).2.2.2 tt)) (p9 : m (Str.ofString "S") = some (.str (Str.ofString " ") 209)) (p10 : m (Str.ofString "T") = some (.str (Str.ofString "\t") 210)) (p11 : m (Str.ofString "self") = some (.ref xa)) : WsJ x R xa i m led
inductive WsE (x : Str) (R : CbLed) (xa : Addr) (m : Str → Option Value) (led : CbLed) : Prop
  | mk (aC) (us) (k) (tb) (tn) (tt) (p1 : led = (aC, listOf (List.toArray us) k) :: R) (p2 : ∀ p ∈ R, p.1 ≠ aC) (p3 : IntsAre us (wsF x).1) (p4 : m (Str.ofString "count") = some (.ref aC)) (p5 : m (Str.ofString "b") = some (.int (wsF x).2.1 tb)) (p6 : m (Str.ofString "n") = some (.int (wsF x).2.2.1 tn)) (p7 : m (Str.ofString "nt") = some (.int (wsF x).2.2.2 tt)) (p8 : m (Str.ofString "self") = some (.ref xa)) : WsE x R xa m led
theorem ws_spec (news : CbLed) (x : Str) (t : Tok) (hx : x.length ≤ 1000) : Spec w lo mean mg mb 83 news [.str x t] 3 24 (IsWs w.params x) := by
  unfold Spec
  k_fill
  intro dp un gd cn cs a ccd cl outer A₀ base h₀ L m s Q E B F X N T hk hd hu hD hret
  k_dflt (refine' call_cls ?k1 ?k2 ?k3 ?k4 ?k5 ?k6 ?_; (case k1 => k_asm); (case k2 => k_asm); (case k3 => k_asm); (case k4 => k_is); (case k5 => k_is); (case k6 => k_is))
  intro x' d' h' F' N' l1 l2
  (try k_lt l1); (try k_lt2 l2); (try k_sweep)
  k_dflt cell_enter
  k_steps
  refine Stop.go ?_
  dsimp only
  refine wpAny_execs_cons (For_turns (by assumption) ?_)
  k_steps
  rename_i aC0 w4 q2 w3 w2 w1 w0 F9 N9
  obtain ⟨R, hR, N8⟩ := named N9
  refine str_inv rfl F9 N8 (WsJ x R x')
    (WsE x R x')
    ⟨_, [], _, _, _, _, fun c hc => (nomatch hc), rfl, ?_, .nil, rfl, rfl, rfl, rfl, rfl, rfl, rfl⟩ ?_ ?_ ?_
  · intro p hp
    rw [hR] at hp
    rcases List.mem_cons.mp hp with rfl | hp
    · exact Nat.ne_of_lt q2.1
    rcases List.mem_cons.mp hp with rfl | hp
    · exact Nat.ne_of_lt q2.2.1
    rcases List.mem_cons.mp hp with rfl | hp
    · exact Nat.ne_of_lt q2.2.2.1
    exact Nat.ne_of_lt (allLt_at q2.2.2.2 p hp)
  · intro m led z1; refine veil fun vG hG => ?_; obtain ⟨aC, us, k, tb, tn, tt, hc, rfl, hne, hu, mC, mB, mN, mT, mS, mTT, mSelf⟩ := z1; refine hG ?_; clear hG vG
    rw [← wsF_all hc (.inl (by simp))] at hu mB mN mT
    exact ⟨aC, us, k, tb, tn, tt, rfl, hne, hu, mC, mB, mN, mT, mSelf⟩
  · intro i c u m₁ led h₁ tk₁ I o hc z1 hoff hlt F₁ N₁; refine veil fun vG hG => ?_; obtain ⟨aC, us, k, tb, tn, tt, hall, rfl, hne, hu, mC, mB, mN, mT, mS, mTT, mSelf⟩ := z1; refine hG ?_; clear hG vG
    have bd := wsAt_bd x i
    have hil : i < x.length := (Array.getElem?_eq_some_iff.mp hc).1
    have hIne : I ≠ aC := Ne.symm (hoff _ List.mem_cons_self)
    have hnx := wsAt_next x i c hc
    k_steps
    · have c32 : c = 32 := chr_is s32 (by assumption)
      have e : wsAt x (i + 1) = ((wsAt x i).1, (wsAt x i).2.1 + 1, (wsAt x i).2.2.1 + 1, (wsAt x i).2.2.2) := by rw [hnx]; unfold wsStep; rw [if_pos c32]
      refine' .inl ⟨rfl, _, _, _, _, rfl, by assumption, ?N, ?off, _, _, _, _, _, _, ?all, rfl, ?ne, ?hu, ?c, ?b, ?n, ?t, ?S, ?T, ?self⟩
      case c => ((try dsimp only); repeat (first | assumption | exact if_pos rfl | refine (if_neg (by decide)).trans ?_))
      case N => assumption
      case b => (rw [e]; ((try dsimp only); repeat (first | assumption | exact if_pos rfl | refine (if_neg (by decide)).trans ?_)))
      case n => (rw [e]; ((try dsimp only); repeat (first | assumption | exact if_pos rfl | refine (if_neg (by decide)).trans ?_)))
      case t => (rw [e]; ((try dsimp only); repeat (first | assumption | exact if_pos rfl | refine (if_neg (by decide)).trans ?_)))
      case S => ((try dsimp only); repeat (first | assumption | exact if_pos rfl | refine (if_neg (by decide)).trans ?_))
      case T => ((try dsimp only); repeat (first | assumption | exact if_pos rfl | refine (if_neg (by decide)).trans ?_))
      case self => ((try dsimp only); repeat (first | assumption | exact if_pos rfl | refine (if_neg (by decide)).trans ?_))
      case ne => exact hne
      case hu => (rw [e]; exact hu)
      case off => (intro p hp; rcases List.mem_cons.mp hp with rfl | hp; (exact Ne.symm hIne); exact hoff p (.tail _ hp))
      case all =>
        intro d hd
        rw [take_nextC _ i c (by simpa using hc)] at hd
        rcases List.mem_append.mp hd with hd | hd
        · exact hall d hd
        · rw [List.mem_singleton.mp hd]; omega
    · rename_i D2 ws2 y1 hI2 lD y2 y3 y4 hi2 y5 y6 y7 F3 N3
      have c9 : c = 9 := chr_is s9 (by assumption)
      have e : wsAt x (i + 1) = (wsTab (wsAt x i).1 (wsAt x i).2.1, 0, (wsAt x i).2.2.1 + 1, (wsAt x i).2.2.2 + 1) := by rw [hnx]; unfold wsStep; rw [if_neg (by omega)]
      have e2 := hi2
      have e3 : wsTab (wsAt x i).1 (wsAt x i).2.1 = wsTab (wsAt x i).1 (wsAt x i).2.1 := rfl
      conv at e3 => { rhs; unfold wsTab; dsimp only; rw [if_pos (by assumption)] }
      rw [← e3] at e2
      have N4 := news_cut N3
      refine' .inl ⟨rfl, _, _, _, _, rfl, by assumption, ?N, ?off, _, _, _, _, _, _, ?all, rfl, ?ne, ?hu, ?c, ?b, ?n, ?t, ?S, ?T, ?self⟩
      case c => ((try dsimp only); repeat (first | assumption | exact if_pos rfl | refine (if_neg (by decide)).trans ?_))
      case N => assumption
      case b => (rw [e]; ((try dsimp only); repeat (first | assumption | exact if_pos rfl | refine (if_neg (by decide)).trans ?_)))
      case n => (rw [e]; ((try dsimp only); repeat (first | assumption | exact if_pos rfl | refine (if_neg (by decide)).trans ?_)))
      case t => (rw [e]; ((try dsimp only); repeat (first | assumption | exact if_pos rfl | refine (if_neg (by decide)).trans ?_)))
      case S => ((try dsimp only); repeat (first | assumption | exact if_pos rfl | refine (if_neg (by decide)).trans ?_))
      case T => ((try dsimp only); repeat (first | assumption | exact if_pos rfl | refine (if_neg (by decide)).trans ?_))
      case self => ((try dsimp only); repeat (first | assumption | exact if_pos rfl | refine (if_neg (by decide)).trans ?_))
      case ne => exact fun p hp => Nat.ne_of_lt (allLt_at lD.2.2.2.2 p hp)
      case hu => (rw [e]; exact e2)
      case off => (intro p hp; rcases List.mem_cons.mp hp with rfl | hp; (exact Nat.ne_of_gt lD.2.2.1); exact hoff p (.tail _ hp))
      case all =>
        intro d hd
        rw [take_nextC _ i c (by simpa using hc)] at hd
        rcases List.mem_append.mp hd with hd | hd
        · exact hall d hd
        · rw [List.mem_singleton.mp hd]; omega
    · have c9 : c = 9 := chr_is s9 (by assumption)
      have e : wsAt x (i + 1) = (wsTab (wsAt x i).1 (wsAt x i).2.1, 0, (wsAt x i).2.2.1 + 1, (wsAt x i).2.2.2 + 1) := by rw [hnx]; unfold wsStep; rw [if_neg (by omega)]
      have e3 : wsTab (wsAt x i).1 (wsAt x i).2.1 = (wsAt x i).1.set (wsAt x i).2.1.toNat ((wsAt x i).1.getD (wsAt x i).2.1.toNat 0 + 1) := by unfold wsTab; dsimp only; rw [if_neg (by assumption)]
      refine' .inl ⟨rfl, _, _, _, _, rfl, by assumption, ?N, ?off, _, _, _, _, _, _, ?all, rfl, ?ne, ?hu, ?c, ?b, ?n, ?t, ?S, ?T, ?self⟩
      case c => ((try dsimp only); repeat (first | assumption | exact if_pos rfl | refine (if_neg (by decide)).trans ?_))
      case N => assumption
      case b => (rw [e]; ((try dsimp only); repeat (first | assumption | exact if_pos rfl | refine (if_neg (by decide)).trans ?_)))
      case n => (rw [e]; ((try dsimp only); repeat (first | assumption | exact if_pos rfl | refine (if_neg (by decide)).trans ?_)))
      case t => (rw [e]; ((try dsimp only); repeat (first | assumption | exact if_pos rfl | refine (if_neg (by decide)).trans ?_)))
      case S => ((try dsimp only); repeat (first | assumption | exact if_pos rfl | refine (if_neg (by decide)).trans ?_))
      case T => ((try dsimp only); repeat (first | assumption | exact if_pos rfl | refine (if_neg (by decide)).trans ?_))
      case self => ((try dsimp only); repeat (first | assumption | exact if_pos rfl | refine (if_neg (by decide)).trans ?_))
      case ne => exact hne
      case hu => (rw [e]; dsimp only; rw [e3]; assumption)
      case off => (intro p hp; rcases List.mem_cons.mp hp with rfl | hp; (exact Ne.symm hIne); exact hoff p (.tail _ hp))
      case all =>
        intro d hd
        rw [take_nextC _ i c (by simpa using hc)] at hd
        rcases List.mem_append.mp hd with hd | hd
        · exact hall d hd
        · rw [List.mem_singleton.mp hd]; omega
    · dsimp only
      have n1 : c ≠ 32 := chr_not s32 (by assumption)
      have n2 : c ≠ 9 := chr_not s9 (by assumption)
      rw [← wsF_all hall (.inr ⟨c, hc, n1, n2⟩)] at hu mB mN mT
      exact .inr ⟨rfl, _, _, _, _, rfl, by assumption, (fun p hp => ‹News _ _ _ ((I, o) :: _)› p (.tail _ hp)), aC, us, k, tb, tn, tt, rfl, hne, hu, by ((try dsimp only); repeat (first | assumption | exact if_pos rfl | refine (if_neg (by decide)).trans ?_)), by ((try dsimp only); repeat (first | assumption | exact if_pos rfl | refine (if_neg (by decide)).trans ?_)), by ((try dsimp only); repeat (first | assumption | exact if_pos rfl | refine (if_neg (by decide)).trans ?_)), by ((try dsimp only); repeat (first | assumption | exact if_pos rfl | refine (if_neg (by decide)).trans ?_)), by ((try dsimp only); repeat (first | assumption | exact if_pos rfl | refine (if_neg (by decide)).trans ?_))⟩
  · intro h₁ tk₁ m₁ led F₁ N₁ z1; refine veil fun vG hG => ?_; obtain ⟨aC, us, k, tb, tn, tt, rfl, hne, hu, mC, mB, mN, mT, mSelf⟩ := z1; refine hG ?_; clear hG vG
    subst hR
    have n1 : aC ≠ d' := Ne.symm (hne _ (.tail _ (.tail _ (.head _))))
    have n2 : aC ≠ x' := Ne.symm (hne _ (.tail _ (.head _)))
    have hul := hu.length
    have hbd := wsF_bd x
    have hus : us.toArray.size ≤ 16384 := by rw [List.size_toArray]; omega
    have hfit : (us.toArray.size : Int) < 2 ^ 63 := by omega
    k_steps
    refine' Stop.go (kde_tupleOf ?k1 ?k2 ?k3 ?k4 ?k5 ?_)
    case k1 => assumption
    case k2 => assumption
    case k3 => exact News.isList (by assumption) (by k_mem)
    case k4 => assumption
    case k5 => exact rfl
    intro D' h' F' N' l1
    try k_lt l1
    k_steps
    refine' hret _ [_, _, _, _, _, _] _ _ (by assumption) (by assumption) ⟨_, _, _, _, _, _, _, _, _, _, _, _, _, _, _, _, rfl, ?a, ?b, ?c, ?d, hu⟩
    case a => k_mem
    case b => k_mem
    case c => k_mem
    case d => k_mem
end
end
section
noncomputable def ilAt (cs : List Int) (n : Int) : Nat → Int
  | 0 => 0
  | j + 1 => ilAt cs n j + (n + (j : Int)).fdiv n * cs.getD (n + (j : Int)).toNat 0
noncomputable def levelF (X : Str) (n : Int) : Int := (wsF X).2.1 + n * (ilAt (wsF X).1 n (((wsF X).1.length : Int) - n).toNat + (wsF X).2.2.2)
theorem fdiv_bd {a b : Int} (ha : 0 ≤ a) (hb : 0 < b) : 0 ≤ a.fdiv b ∧ a.fdiv b ≤ a := by
  rw [Int.fdiv_eq_ediv_of_nonneg _ (Int.le_of_lt hb)]
  exact ⟨Int.ediv_nonneg ha (Int.le_of_lt hb), Int.ediv_le_self _ ha⟩
section
variable {prog : Program} {w : World} {A : Around} {E : Value → Shared → Prop} {s : Shared} {h₀ : Heap} {L : Addr} {m : Str → Option Value} {news : CbLed}
theorem item_intsT {value slice : Expr} {l : Addr} {us : List Value} {n : Nat} {k : Int} {u : Tok} {ns : List Int} {Q : Value → Shared → Prop} (N : News h₀ L s.heap news) (hm : (l, ({ cls := .type "tuple", data := .seq us.toArray n } : Obj)) ∈ news) (hi : IntsAre us ns)
    (h0 : 0 ≤ k) (h1 : k < ns.length) (hs : ns.length ≤ 1000) (h : ∀ t, Q (.int (ns.getD k.toNat 0) t) s)
    (hs : subscripted slice false (.ref l) (.int k u) = operate [.ref l, .int k u] (getItem (.ref l) (.int k u)) := by with_unfolding_all rfl) (hg : ∀ r, letTemporaryGo value (.ref l) r = pure () := by intro _; with_unfolding_all rfl) :
    wpAny (model prog w) A (subscriptTail value slice (.ref l) (.int k u)) Q E s := by
  have hl := hi.length
  have e : us[k.toNat]? = some us[k.toNat] := List.getElem?_eq_getElem (by omega)
  refine veil fun vG hG => ?_; obtain ⟨x, t, e1, e2⟩ := IntsAre.at hi _ _ e; refine hG ?_; clear hG vG
  rw [e1] at e
  have e3 : ns.getD k.toNat 0 = x := by rw [List.getD_eq_getElem?_getD, e2]; rfl
  have hj : seqIndex? k us.toArray.size = some k.toNat := by
    unfold PySem.seqIndex?
    have e1 : ¬ k < 0 := by omega
    have e2 : k < (us.toArray.size : Int) := by rw [List.size_toArray]; omega
    simp only [e1, if_false, h0, e2, decide_true, Bool.and_self, if_true]
  refine item_tuple (News.isTup N hm) (by omega) (by omega) hj (by simpa using e) ?_ hs hg
  have := h t
  rw [e3] at this
  exact this
end
section
variable (w : World) {lo : List Str} {mean : ExcName → Option Value} {mg mb : Str → Option Value}
set_option maxHeartbeats 4000000
local macro_rules | `(tactic| walk_at "subscriptTail Name Name ref int") => `(tactic| (k_dflt (refine' item_intsT ?N ?m ?i ?a ?b ?z ?_; (case N => assumption); (case m => k_mem); (case i => assumption); (case a => omega); (case b => omega); (case z => omega)); intro t'))
local macro_rules | `(tactic| walk_at "call builtin:len") => `(tactic| k_dflt (refine' len_tuple ?a ?b ?_; (case a => exact News.isTup (by assumption) (by k_mem)); (case b => assumption)))
local macro_rules | `(tactic| walk_at "binaryOp FloorDiv int int") => `(tactic| k_dflt (refine PyProof.Rows.floordiv_int (by omega) ?_ (Or.inl (PyProof.noPylong_small (by omega)))))
local macro_rules | `(tactic| walk_at "binaryOp Mult int int") => `(tactic| k_dflt (refine PyProof.Rows.mul_int ?_ (mulOk ⟨by omega, by omega⟩)))
inductive IndJ (news : CbLed) (x : Str) (n : Int) (u : Tok) (ta : Addr) (tb : Tok) (xa : Addr) (i : Nat) (m : Str → Option Value) (led : CbLed) : Prop
  | mk (tl) (p1 : led = news) (p2 : m (Str.ofString "il") = some (.int (ilAt (wsF x).1 n i) tl)) (p3 : m (Str.ofString "count") = some (.ref ta)) (p4 : m (Str.ofString "trailing") = some (.int (wsF x).2.1 tb)) (p5 : m (Str.ofString "tabsize") = some (.int n u)) (p6 : m (Str.ofString "self") = some (.ref xa)) : IndJ news x n u ta tb xa i m led
theorem indent_spec (news : CbLed) (x : Str) (hx : x.length ≤ 1000) (xa : Addr) (n : Int) (u : Tok) (hn : 0 < n ∧ n < 1000) (hw : IsWs w.params x (.ref xa) news) : Spec w lo mean mg mb 52 news [.ref xa, .int n u] 1 8 (IsIntV (levelF x n)) := by
  refine veil fun vG hG => ?_; obtain ⟨xa', da, na, ta, t, k1, k2, k3, k4, k5, tn, tt, tb, nn, b, us, e, m1, m2, m3, m4, hu⟩ := hw; refine hG ?_; clear hG vG
  cases e
  have hul := hu.length
  have hbd := wsF_bd x
  unfold Spec
  k_fill
  intro dp un gd cn cs a ccd cl outer A₀ base h₀ L m s Q E B F X N T hk hd hu hD hret
  refine wpAny_call ?_
  k_dflt cell_enter
  k_steps
  have hfit : (us.toArray.size : Int) < 2 ^ 63 := by rw [List.size_toArray]; omega
  have hsz : (us.toArray.size : Int) = (wsF x).1.length := by rw [List.size_toArray]; omega
  refine Stop.go ?_
  dsimp only
  refine wpAny_execs_cons (For_turns (by assumption) ?_)
  k_steps
  rename_i hr F1 N1 hk1
  refine range_inv rfl hr (small_one (by omega) (by omega) (by omega) (by omega)) (n := (((wsF x).1.length : Int) - n).toNat) (rangeSize_nat _ _) F1 N1 (IndJ news x n u ta tb xa) ⟨_, rfl, rfl, rfl, rfl, rfl, rfl⟩ ?_ ?_
  · intro j tj m₁ led h₁ tk₁ I o hj z1 hoff hlt F₁ N₁; refine veil fun vG hG => ?_; obtain ⟨tl, rfl, mI, mC, mT, mS, mX⟩ := z1; refine hG ?_; clear hG vG
    have hq := fdiv_bd (a := n + (j : Int)) (b := n) (by omega) (by omega)
    k_steps
    exact ⟨rfl, _, _, _, _, rfl, by assumption, by assumption, hoff, _, rfl, (by ((try dsimp only); repeat (first | assumption | exact if_pos rfl | refine (if_neg (by decide)).trans ?_))), (by ((try dsimp only); repeat (first | assumption | exact if_pos rfl | refine (if_neg (by decide)).trans ?_))), (by ((try dsimp only); repeat (first | assumption | exact if_pos rfl | refine (if_neg (by decide)).trans ?_))), (by ((try dsimp only); repeat (first | assumption | exact if_pos rfl | refine (if_neg (by decide)).trans ?_))), (by ((try dsimp only); repeat (first | assumption | exact if_pos rfl | refine (if_neg (by decide)).trans ?_)))⟩
  · intro h₁ tk₁ m₁ led F₁ N₁ z1; refine veil fun vG hG => ?_; obtain ⟨tl, rfl, mI, mC, mT, mS, mX⟩ := z1; refine hG ?_; clear hG vG
    k_steps
    exact hret _ [] _ _ (by assumption) (by assumption) ⟨rfl, _, rfl⟩
end
end
section
open PyProof.Rows.LCg PyProof.Rows.LCt PySem.Calls
section
variable {prog : Program} {w : World} {A : Around} {E : Value → Shared → Prop} {s : Shared} {h₀ : Heap} {L : Addr} {m : Str → Option Value} {env : Env}
theorem str_st {I : Addr} {ty : String} {X : Str} {t : Tok} : ∀ i (h h' : Heap) (o : Obj) (nw : CbLed), h.IsStrIter I ty X t i → h.get? I = some o → h'.get? I = some o → (∀ b o, h₀.get? b = some o → h'.get? b = some o) → News h₀ L h' nw → True → h'.IsStrIter I ty X t i :=
  fun i h h' o nw st e e' _ _ _ => by
    obtain ⟨o', q, r⟩ := st
    rw [e] at q; cases q
    exact ⟨o, e', r⟩
/-- a comprehension's source that is a text -/
inductive StrSrcT (prog : Program) (w : World) (A : Around) (h₀ : Heap) (L : Addr) (m : Str → Option Value) (env : Env) (ct elt : Expr) (x : Str) (scope : Scope) (cl : List (Str × Addr)) (Q : Value → Shared → Prop) (xv : Value) (s₁ : Shared) : Prop
  | mk (X) (t) (led)
    (p1 : xv = .str X t)
    (p2 : A.handled = none)
    (p3 : Fr h₀ L s₁.heap m)
    (p4 : News h₀ L s₁.heap led)
    (p5 : X.cps.size ≤ sizeLine)
    (p6 : ∀ s₂ : Shared, (∃ h, s₂ = { s₁ with heap := h }) → CompRestT prog w A h₀ L m env ct elt x scope cl s₂ (fun _ => True) (SignAt X) (FinE h₀ L m s₂ Q) X.cps.size 0 [] led) : StrSrcT prog w A h₀ L m env ct elt x scope cl Q xv s₁
inductive StrSrc (prog : Program) (w : World) (A : Around) (h₀ : Heap) (L : Addr) (m : Str → Option Value) (env : Env) (elt : Expr) (x : Str) (scope : Scope) (cl : List (Str × Addr)) (Q : Value → Shared → Prop) (xv : Value) (s₁ : Shared) : Prop
  | mk (X) (t) (led)
    (p1 : xv = .str X t)
    (p2 : A.handled = none)
    (p3 : Fr h₀ L s₁.heap m)
    (p4 : News h₀ L s₁.heap led)
    (p5 : X.cps.size ≤ sizeLine)
    (p6 : ∀ s₂ : Shared, (∃ h, s₂ = { s₁ with heap := h }) → CompRest prog w A h₀ L m env elt x scope cl s₂ (fun _ => True) (SignAt X) (FinE h₀ L m s₂ Q) X.cps.size 0 [] led) : StrSrc prog w A h₀ L m env elt x scope cl Q xv s₁
theorem ListComp_TS {ct elt iter : Expr} {x : Str} {px : Pos} {scope : Scope} {cl : List (Str × Addr)} {pos : Pos} {Q : Value → Shared → Prop} (F₀ : Fr h₀ L s.heap m)
    (hclos : closureFor scope env = pure cl) (hcell : ∀ y ∈ scope.names, y.2 ≠ .cell) (hkind : scope.kind = .function)
    (hnames : ∀ y ∈ scope.names, y.2 = .local → scope.names.lookup y.1 = some .local) (hx : scope.names.lookup x = some .local)
    (h : wpAny (model prog w) A (eval iter env) (StrSrcT prog w A h₀ L m env ct elt x scope cl Q) E s)
    (hs : ∀ x, foldedSetIterable iter env x = pure x := by intro _; rfl) :
    wpAny (model prog w) A (eval (.ListComp elt [⟨.Name x px, iter, [ct], 0⟩] scope pos) env) Q E s := by
  rw [eval_ListComp]
  refine wpAny_comprehension_free (use := none) rfl hs hclos hkind hnames (wpAny_mono h (fun xv s₁ h₁ => ?_) fun _ _ e => e)
  refine veil fun vG hG => ?_; obtain ⟨X, t, led, rfl, hh, F, N, hsz, R⟩ := h₁; refine hG ?_; clear hG vG
  cases ha : X.cps.all (· < 128) with
  | false =>
    refine wpAny_pyIter_wide ha ?_
    refine block_T (Walks.strWide hh s₁.heap.objs.size X t) hsz (fun i h st => by obtain ⟨o, e, _⟩ := st; exact ⟨o, e⟩) str_st hcell hkind hx ⟨_, Heap.get?_push_size _ rfl, rfl, rfl⟩ (fun b hb => ?_)
      (F.keeps fun _ _ e => Heap.get?_push_of_some _ e) (N.grown fun _ _ e => Heap.get?_push_of_some _ e) (Nat.ne_of_lt F.ns.lt) (next_is_new F) (fun p hp => Nat.ne_of_lt (Heap.lt_size (N p hp).1)) trivial (R _ ⟨_, rfl⟩) ?_
    · rw [List.mem_singleton.mp hb]
      show s₁.heap.objs.size < (s₁.heap.push _).objs.size
      rw [Heap.size_push]; exact Nat.lt_succ_self _
    · intro D C h tk m' ys news' F' N' o1 hn hC₀ hD₀ hCL hDL hCD offC fin
      refine ⟨m', hn, fun h'' hs'' => fin D h'' tk (F'.change hs'' hCL hC₀) (fun p hp => ?_) o1⟩
      refine ⟨hs''.extBut _ _ ?_ (N' p hp).1, (N' p hp).2⟩
      rcases List.mem_cons.mp hp with rfl | hp
      · exact Ne.symm hCD
      · exact offC p hp
  | true =>
    refine wpAny_pyIter_ascii ha ?_
    refine block_T (Walks.strAscii hh s₁.heap.objs.size X t) hsz (fun i h st => by obtain ⟨o, e, _⟩ := st; exact ⟨o, e⟩) str_st hcell hkind hx ⟨_, Heap.get?_push_size _ rfl, rfl, rfl⟩ (fun b hb => ?_)
      (F.keeps fun _ _ e => Heap.get?_push_of_some _ e) (N.grown fun _ _ e => Heap.get?_push_of_some _ e) (Nat.ne_of_lt F.ns.lt) (next_is_new F) (fun p hp => Nat.ne_of_lt (Heap.lt_size (N p hp).1)) trivial (R _ ⟨_, rfl⟩) ?_
    · rw [List.mem_singleton.mp hb]
      show s₁.heap.objs.size < (s₁.heap.push _).objs.size
      rw [Heap.size_push]; exact Nat.lt_succ_self _
    · intro D C h tk m' ys news' F' N' o1 hn hC₀ hD₀ hCL hDL hCD offC fin
      refine ⟨m', hn, fun h'' hs'' => fin D h'' tk (F'.change hs'' hCL hC₀) (fun p hp => ?_) o1⟩
      refine ⟨hs''.extBut _ _ ?_ (N' p hp).1, (N' p hp).2⟩
      rcases List.mem_cons.mp hp with rfl | hp
      · exact Ne.symm hCD
      · exact offC p hp
theorem ListComp_US {elt iter : Expr} {x : Str} {px : Pos} {scope : Scope} {cl : List (Str × Addr)} {pos : Pos} {Q : Value → Shared → Prop} (F₀ : Fr h₀ L s.heap m)
    (hclos : closureFor scope env = pure cl) (hcell : ∀ y ∈ scope.names, y.2 ≠ .cell) (hkind : scope.kind = .function)
    (hnames : ∀ y ∈ scope.names, y.2 = .local → scope.names.lookup y.1 = some .local) (hx : scope.names.lookup x = some .local)
    (h : wpAny (model prog w) A (eval iter env) (StrSrc prog w A h₀ L m env elt x scope cl Q) E s)
    (hs : ∀ x, foldedSetIterable iter env x = pure x := by intro _; rfl) :
    wpAny (model prog w) A (eval (.ListComp elt [⟨.Name x px, iter, [], 0⟩] scope pos) env) Q E s := by
  rw [eval_ListComp]
  refine wpAny_comprehension_free (use := none) rfl hs hclos hkind hnames (wpAny_mono h (fun xv s₁ h₁ => ?_) fun _ _ e => e)
  refine veil fun vG hG => ?_; obtain ⟨X, t, led, rfl, hh, F, N, hsz, R⟩ := h₁; refine hG ?_; clear hG vG
  cases ha : X.cps.all (· < 128) with
  | false =>
    refine wpAny_pyIter_wide ha ?_
    refine block_U (Walks.strWide hh s₁.heap.objs.size X t) hsz (fun i h st => by obtain ⟨o, e, _⟩ := st; exact ⟨o, e⟩) str_st hcell hkind hx ⟨_, Heap.get?_push_size _ rfl, rfl, rfl⟩ (fun b hb => ?_)
      (F.keeps fun _ _ e => Heap.get?_push_of_some _ e) (N.grown fun _ _ e => Heap.get?_push_of_some _ e) (Nat.ne_of_lt F.ns.lt) (next_is_new F) (fun p hp => Nat.ne_of_lt (Heap.lt_size (N p hp).1)) trivial (R _ ⟨_, rfl⟩) ?_
    · rw [List.mem_singleton.mp hb]
      show s₁.heap.objs.size < (s₁.heap.push _).objs.size
      rw [Heap.size_push]; exact Nat.lt_succ_self _
    · intro D C h tk m' ys news' F' N' o1 hn hC₀ hD₀ hCL hDL hCD offC fin
      refine ⟨m', hn, fun h'' hs'' => fin D h'' tk (F'.change hs'' hCL hC₀) (fun p hp => ?_) o1⟩
      refine ⟨hs''.extBut _ _ ?_ (N' p hp).1, (N' p hp).2⟩
      rcases List.mem_cons.mp hp with rfl | hp
      · exact Ne.symm hCD
      · exact offC p hp
  | true =>
    refine wpAny_pyIter_ascii ha ?_
    refine block_U (Walks.strAscii hh s₁.heap.objs.size X t) hsz (fun i h st => by obtain ⟨o, e, _⟩ := st; exact ⟨o, e⟩) str_st hcell hkind hx ⟨_, Heap.get?_push_size _ rfl, rfl, rfl⟩ (fun b hb => ?_)
      (F.keeps fun _ _ e => Heap.get?_push_of_some _ e) (N.grown fun _ _ e => Heap.get?_push_of_some _ e) (Nat.ne_of_lt F.ns.lt) (next_is_new F) (fun p hp => Nat.ne_of_lt (Heap.lt_size (N p hp).1)) trivial (R _ ⟨_, rfl⟩) ?_
    · rw [List.mem_singleton.mp hb]
      show s₁.heap.objs.size < (s₁.heap.push _).objs.size
      rw [Heap.size_push]; exact Nat.lt_succ_self _
    · intro D C h tk m' ys news' F' N' o1 hn hC₀ hD₀ hCL hDL hCD offC fin
      refine ⟨m', hn, fun h'' hs'' => fin D h'' tk (F'.change hs'' hCL hC₀) (fun p hp => ?_) o1⟩
      refine ⟨hs''.extBut _ _ ?_ (N' p hp).1, (N' p hp).2⟩
      rcases List.mem_cons.mp hp with rfl | hp
      · exact Ne.symm hCD
      · exact offC p hp
theorem str_T {ct elt : Expr} {x : Str} {scope : Scope} {cl : List (Str × Addr)} {Q : Value → Shared → Prop} {led : CbLed} {X : Str} {t : Tok} {b : Nat → Bool} {Y : Nat → Value → Prop}
    (hh : A.handled = none) (F : Fr h₀ L s.heap m) (N : News h₀ L s.heap led) (hsz : X.length ≤ sizeLine)
    (step : ∀ i c u v ys I oI C oC D m₂ h tk, X.cps[i]? = some c → v = .str ⟨#[c]⟩ u → NsObj oC m₂ → m₂ x = some v → Fr h₀ L h m → News h₀ L h ((I, oI) :: (C, oC) :: (D, lst ys) :: led) → Off3 I C D led → ((@Ne Nat I C) ∧ (@Ne Nat I D) ∧ (@Ne Nat C D)) →
      wpAny (model prog w) A (isTrue ct (compEnvC scope cl C env) (eval ct (compEnvC scope cl C env))) (TestOut prog w A h₀ L m ((I, oI) :: (C, oC) :: (D, lst ys) :: led) { s with heap := h, toks := tk } (compEnvC scope cl C env) elt (b i) (Y i)) (fun _ _ => False) { s with heap := h, toks := tk })
    (fin : ∀ ys, Picked b Y X.cps.size ys → ∀ D h tk, Fr h₀ L h m → News h₀ L h ((D, lst ys) :: led) → Off1 D led → Q (.ref D) { s with heap := h, toks := tk }) :
    StrSrcT prog w A h₀ L m env ct elt x scope cl Q (.str X t) s := by
  refine ⟨X, t, led, rfl, hh, F, N, hsz, ?_⟩
  rintro _ ⟨g, rfl⟩
  refine rest_T (s := { s with heap := g }) (P := SignAt X) (b := b) (Y := Y) (S := fun _ => True) trivial (fun i v ys I oI C oC D m₂ h tk hv => by obtain ⟨c, u, hc, rfl⟩ := hv; exact step i c u _ ys I oI C oC D m₂ h tk hc rfl) _ 0 [] .zero ?_
  intro zs hz
  rw [Nat.zero_add] at hz
  exact fin zs hz
theorem str_U {elt : Expr} {x : Str} {scope : Scope} {cl : List (Str × Addr)} {Q : Value → Shared → Prop} {led : CbLed} {X : Str} {t : Tok} {Y : Nat → Value → Prop}
    (hh : A.handled = none) (F : Fr h₀ L s.heap m) (N : News h₀ L s.heap led) (hsz : X.length ≤ sizeLine)
    (step : ∀ i c u v ys I oI C oC D m₂ h tk, X.cps[i]? = some c → v = .str ⟨#[c]⟩ u → NsObj oC m₂ → m₂ x = some v → Fr h₀ L h m → News h₀ L h ((I, oI) :: (C, oC) :: (D, lst ys) :: led) → Off3 I C D led → ((@Ne Nat I C) ∧ (@Ne Nat I D) ∧ (@Ne Nat C D)) →
      wpAny (model prog w) A (eval elt (compEnvC scope cl C env)) (EltOut h₀ L m ((I, oI) :: (C, oC) :: (D, lst ys) :: led) { s with heap := h, toks := tk } (Y i)) (fun _ _ => False) { s with heap := h, toks := tk })
    (fin : ∀ ys, Picked (fun _ => true) Y X.cps.size ys → ∀ D h tk, Fr h₀ L h m → News h₀ L h ((D, lst ys) :: led) → Off1 D led → Q (.ref D) { s with heap := h, toks := tk }) :
    StrSrc prog w A h₀ L m env elt x scope cl Q (.str X t) s := by
  refine ⟨X, t, led, rfl, hh, F, N, hsz, ?_⟩
  rintro _ ⟨g, rfl⟩
  refine rest_U (s := { s with heap := g }) (P := SignAt X) (Y := Y) (S := fun _ => True) trivial (fun i v ys I oI C oC D m₂ h tk hv => by obtain ⟨c, u, hc, rfl⟩ := hv; exact step i c u _ ys I oI C oC D m₂ h tk hc rfl) _ 0 [] .zero ?_
  intro zs hz
  rw [Nat.zero_add] at hz
  exact fin zs hz
end
end
section
local macro_rules | `(tactic| walk_at "mine ints") => `(tactic| (k_dflt (refine' item_ints ?N ?m ?i ?a ?b ?z ?_; (case N => assumption); (case m => k_mem); (case i => assumption); (case a => omega); (case b => omega); (case z => omega)); intro t'))
local macro_rules | `(tactic| walk_at "mine rows") => `(tactic| (k_dflt (refine' item_rows ?N ?m ?i ?a ?b ?l ?r ?_; (case N => assumption); (case m => k_mem); (case i => assumption); (case a => omega); (case b => omega); (case l => assumption); (case r => assumption)); intro ar us' c' mr ir lr1 lr2))
local macro_rules | `(tactic| walk_at "mine intsA") => `(tactic| (k_dflt (refine' item_intsA ?N ?m ?i ?a ?b ?z ?_; (case N => assumption); (case m => k_mem); (case i => assumption); (case a => omega); (case b => omega); (case z => omega)); intro t'))
local macro_rules | `(tactic| walk_at "CompSrc") => `(tactic| refine Stop.intro ?_)
local macro_rules | `(tactic| walk_at "CompSrcT") => `(tactic| refine Stop.intro ?_)
local macro_rules | `(tactic| walk_at "call ref") => `(tactic| refine Stop.intro ?_)
local macro_rules | `(tactic| walk_at "subscriptTail Name Constant ref int") => `(tactic| walk_at "mine ints")
local macro_rules | `(tactic| walk_at "binaryOp Mod int int") => `(tactic| k_dflt (refine PyProof.Rows.mod_int (by omega) ?_ (Or.inl (PyProof.noPylong_small (by omega)))))
local macro_rules | `(tactic| walk_at "binaryOp FloorDiv int int") => `(tactic| k_dflt (refine PyProof.Rows.floordiv_int (by omega) ?_ (Or.inl (PyProof.noPylong_small (by omega)))))
section
noncomputable def pickA : List Stmt → List Stmt
  | a :: b :: c :: _ => [a, b, c]
  | _ => []
noncomputable abbrev partA : List Stmt := by
  refine (fun (_ : pickA body30 = ?b) => ?b) ?h
  case h => conv => lhs; whnf
noncomputable def Seqs (l : CbLed) : Prop := ∀ p ∈ l, ∀ v, p.2.data ≠ Data.cell v
theorem Seqs.cons {a : Addr} {o : Obj} {l : CbLed} {its : Array Value} {n : Nat} (h : o.data = Data.seq its n) (H : Seqs l) : Seqs ((a, o) :: l) := fun p hp => by
  rcases List.mem_cons.mp hp with rfl | hp
  · intro v e
    rw [h] at e; cases e
  · exact H p hp
theorem Seqs.append {a b : CbLed} (h : Seqs a) (H : Seqs b) : Seqs (a ++ b) := fun p hp => (List.mem_append.mp hp).elim (h p) (H p)
theorem Seqs.off {h₀ h : Heap} {L c : Addr} {led ex : CbLed} {o : Obj} {v : Option Value} (H : Seqs ex) (N : News h₀ L h led) (sub : ∀ p ∈ ex, p ∈ led) (hc : (c, o) ∈ led) (hd : o.data = Data.cell v) : ∀ p ∈ ex, p.1 ≠ c := fun p hp e => by
  have h := H p hp v
  have h1 := (N p (sub p hp)).1
  have h2 := (N _ hc).1
  rw [e] at h1
  have h3 := Option.some.inj (h1.symm.trans h2)
  rw [h3, hd] at h
  exact h rfl
theorem swap8 {h₀ h : Heap} {L : Addr} {new ex : CbLed} {c1 c2 c3 c4 c5 c6 c7 c8 : Addr × Obj} (N : News h₀ L h (new ++ c8 :: c7 :: c6 :: c5 :: c4 :: c3 :: c2 :: c1 :: ex)) : News h₀ L h (c8 :: c7 :: c6 :: c5 :: c4 :: c3 :: c2 :: c1 :: (new ++ ex)) := fun p hp => N p (by
  simp only [List.mem_cons, List.mem_append] at hp ⊢
  rcases hp with h | h | h | h | h | h | h | h | h | h <;> simp [h])
noncomputable def letterF (h : Int) (i : Nat) : Str := Txt.item (Str.ofString "fik") ((h.fdiv (3 ^ (0 + (i : Int)).toNat)).fmod 3)
theorem pow3_bd (i : Nat) (h : i < 6) : 0 < (3 : Int) ^ (0 + (i : Int)).toNat ∧ (3 : Int) ^ (0 + (i : Int)).toNat ≤ 243 := by
  match i, h with
  | 0, _ => decide
  | 1, _ => decide
  | 2, _ => decide
  | 3, _ => decide
  | 4, _ => decide
  | 5, _ => decide
noncomputable def partsOf (hs : List Int) : List (Int × Int × Int) := partsF 7 (orderF (hs.getD 1 0)) 0 6
noncomputable def lettersOf (hs : List Int) : List Str := (List.range 6).map (letterF (hs.getD 0 0))
noncomputable def plainOf (hs : List Int) : Str := textF (partsOf hs) (lettersOf hs)
noncomputable def StrV (y : Value) (x : Str) : Prop := ∃ t, y = .str x t
theorem All2.strs {ys : List Value} {l : List Str} (q : All2 StrV ys l) : StrsAre ys l := by
  induction q with
  | nil => exact .nil
  | cons x _ ih => obtain ⟨_, rfl⟩ := x; exact .cons _ _ ih
theorem letter_len (h : Int) (i : Nat) : (letterF h i).length ≤ 1 := Nat.le_of_eq (len_item _ _)
theorem ws_only {P : Params} {x : Str} {v : Value} {new : CbLed} (H : IsWs P x v new) : ∃ wl : CbLed, (∀ p ∈ wl, p ∈ new) ∧ Seqs wl ∧ IsWs P x v wl := by
  refine veil fun vG hG => ?_; obtain ⟨xa, da, na, ta, t1, k1, k2, k3, k4, k5, tn, tt, tb, nn, bb, us1, e, m1, m2, m3, m4, hus⟩ := H; refine hG ?_; clear hG vG
  refine ⟨[_, _, _, _], ?_, ?_, xa, da, na, ta, t1, k1, k2, k3, k4, k5, tn, tt, tb, nn, bb, us1, e, .head _, .tail _ (.head _), .tail _ (.tail _ (.head _)), .tail _ (.tail _ (.tail _ (.head _))), hus⟩
  · intro p hp
    simp only [List.mem_cons, List.not_mem_nil, or_false] at hp
    rcases hp with rfl | rfl | rfl | rfl <;> assumption
  · intro p hp
    simp only [List.mem_cons, List.not_mem_nil, or_false] at hp
    rcases hp with rfl | rfl | rfl | rfl <;> (intro v e; cases e)
theorem tups_only {new : CbLed} {vs : List Value} {ps : List (Int × Int × Int)} (q : All2 (PTup new) vs ps) : ∃ tl : CbLed, (∀ p ∈ tl, p ∈ new) ∧ Seqs tl ∧ All2 (PTup tl) vs ps := by
  induction q with
  | nil => exact ⟨[], (fun _ h => absurd h List.not_mem_nil), (fun _ h => absurd h List.not_mem_nil), .nil⟩
  | cons x _ ih =>
    obtain ⟨a, t1, t2, t3, e, hm⟩ := x
    obtain ⟨tl, h1, h2, h3⟩ := ih
    exact ⟨(a, _) :: tl, List.forall_mem_cons.mpr ⟨hm, h1⟩, Seqs.cons rfl h2, All2.cons ⟨a, t1, t2, t3, e, .head _⟩ (h3.mono fun _ _ x => x.mono fun q hq => .tail _ hq)⟩
theorem parts_only {new : CbLed} {v : Value} {ps : List (Int × Int × Int)} (h : IsPartsV ps v new) : ∃ a vs k tl, v = .ref a ∧ (∀ p ∈ (a, listOf (List.toArray vs) k) :: tl, p ∈ new) ∧ Seqs ((a, listOf (List.toArray vs) k) :: tl) ∧ All2 (PTup tl) vs ps := by
  refine veil fun vG hG => ?_; obtain ⟨a, vs, k, e, hm, hv⟩ := h; refine hG ?_; clear hG vG
  refine veil fun vG hG => ?_; obtain ⟨tl, h1, h2, h3⟩ := tups_only hv; refine hG ?_; clear hG vG
  exact ⟨a, vs, k, tl, e, List.forall_mem_cons.mpr ⟨hm, h1⟩, Seqs.cons rfl h2, h3⟩
theorem sub8 {p c1 c2 c3 c4 c5 c6 c7 c8 : Addr × Obj} {ex : CbLed} (h : p ∈ ex) : p ∈ c8 :: c7 :: c6 :: c5 :: c4 :: c3 :: c2 :: c1 :: ex := .tail _ (.tail _ (.tail _ (.tail _ (.tail _ (.tail _ (.tail _ (.tail _ h)))))))
theorem sub8x {p x c1 c2 c3 c4 c5 c6 c7 c8 : Addr × Obj} {ex : CbLed} (h : p ∈ c8 :: c7 :: c6 :: c5 :: c4 :: c3 :: c2 :: c1 :: ex) : p ∈ c8 :: c7 :: c6 :: c5 :: c4 :: c3 :: c2 :: c1 :: x :: ex := (List.cons_subset_cons c8 (List.cons_subset_cons c7 (List.cons_subset_cons c6 (List.cons_subset_cons c5 (List.cons_subset_cons c4 (List.cons_subset_cons c3 (List.cons_subset_cons c2 (List.cons_subset_cons c1 (List.subset_cons_self x ex))))))))) h
theorem mov3 {p a b c d : Addr × Obj} {X : CbLed} (h : p ∈ a :: b :: c :: d :: X) : p ∈ d :: a :: b :: c :: X := by
  simp only [List.mem_cons] at h ⊢
  rcases h with h | h | h | h | h <;> simp [h]
theorem mov4 {p a b c e d : Addr × Obj} {X : CbLed} (h : p ∈ a :: b :: c :: e :: d :: X) : p ∈ d :: a :: b :: c :: e :: X := by
  simp only [List.mem_cons] at h ⊢
  rcases h with h | h | h | h | h | h <;> simp [h]
theorem newsSub {h₀ h : Heap} {L : Addr} {a b : CbLed} (N : News h₀ L h b) (sub : ∀ p ∈ a, p ∈ b) : News h₀ L h a := fun p hp => N p (sub p hp)
section
variable {w : World} {lo : List Str} {mean : ExcName → Option Value} {mg mb : Str → Option Value} {f : Addr} {news : CbLed} {vs : List Value} {dk uk : Nat} {Post : Value → CbLed → Prop} {dp un : Nat} {gd : Option (List Code)} {cn : Str} {cs : Scope} {a : Addr} {ccd : Value} {cl : List (Str × Addr)} {outer : List Env} {A₀ : Around} {base h₀ : Heap} {L : Addr} {m : Str → Option Value} {s : Shared} {Q E : Value → Shared → Prop} {Pre : Heap → Prop}
theorem use_specP (C : SpecP Pre w lo mean mg mb f news vs dk uk Post) (B : Below A₀ base outer h₀) (F : Fr h₀ L s.heap m) (X : (K w.params).In h₀) (N : News h₀ L s.heap news) (T : Top q lo mean mg mb h₀) (hk : cs.kind = .function) (hd : dp + dk < recursionLimit) (hu : un + uk < cLine) (D : DictAt w h₀) (hp : Pre h₀)
    (ret : ∀ (v : Value) (new : CbLed) (h' : Heap) (tk' : Nat), s.toks ≤ tk' → Fr h₀ L h' m → News h₀ L h' (new ++ news) → Post v new → Q v { s with heap := h', toks := tk' }) :
    wpAny (model PySem.Challenge.rw_tc0086_01.prog w) (ktrTop dp un gd cn cs L a ccd cl outer) (call (.ref f) vs) Q E s :=
  growE (C _ _ _ _ _ _ _ _ _ _ _ _ _ _ _ _ _ B F X N T hk hd hu D hp fun v new h' tk' F' N' P le => ret v new h' tk' le F' N' P)
end
section
set_option maxHeartbeats 4000000
theorem law_a (w : World) {lo : List Str} {mean : ExcName → Option Value} {mg mb : Str → Option Value} (fa : Addr) (cc : Value) (base g : Heap) (L : Addr) (m : Str → Option Value) (s : Shared) (Q : Flow → Shared → Prop)
    (B : Below callerA base [] g) (X : (K w.params).In g) (T : Top q lo mean mg mb g) (hD : DictAt w g) (F : Fr g L s.heap m) (o1 o2 o3 o4 o5 o6 o7 o8 : Obj)
    (ex : CbLed) (hE : Seqs ex)
    (d1 : o1.data = Data.cell none) (d2 : o2.data = Data.cell none) (d3 : o3.data = Data.cell none) (d4 : o4.data = Data.cell none) (d5 : o5.data = Data.cell none) (d6 : o6.data = Data.cell none) (d7 : o7.data = Data.cell none) (d8 : o8.data = Data.cell none)
    (al : Addr) (vs : List Value) (ns : List Int) (hl : g.IsList al vs.toArray) (hi : IntsAre vs ns) (hz : vs.length ≤ 63) (hs : m (Str.ofString "script") = some (.ref al)) (hpl : (partsOf (heapsF ns)).length ≤ 10)
    (N : News g L s.heap ((L + 1 + 1 + 1 + 1 + 1 + 1 + 1 + 1, o8) :: (L + 1 + 1 + 1 + 1 + 1 + 1 + 1, o7) :: (L + 1 + 1 + 1 + 1 + 1 + 1, o6) :: (L + 1 + 1 + 1 + 1 + 1, o5) :: (L + 1 + 1 + 1 + 1, o4) :: (L + 1 + 1 + 1, o3) :: (L + 1 + 1, o2) :: (L + 1, o1) :: ex))
    (hQ : ∀ (h' : Heap) (tk : Nat) (m' : Str → Option Value) (o1 o2 o3 o4 o5 o6 o7 o8 : Obj) (ex' : CbLed) (aH aP : Addr) (us vsP : List Value) (k1 kP : Nat) (tp : Tok), Fr g L h' m' → o1.data = Data.cell (some (.ref aH)) → o2.data = Data.cell (some (.ref aP)) → o3.data = Data.cell none → o4.data = Data.cell none → o5.data = Data.cell none → o6.data = Data.cell none → o7.data = Data.cell none → o8.data = Data.cell none → Seqs ex' → News g L h' ((L + 1 + 1 + 1 + 1 + 1 + 1 + 1 + 1, o8) :: (L + 1 + 1 + 1 + 1 + 1 + 1 + 1, o7) :: (L + 1 + 1 + 1 + 1 + 1 + 1, o6) :: (L + 1 + 1 + 1 + 1 + 1, o5) :: (L + 1 + 1 + 1 + 1, o4) :: (L + 1 + 1 + 1, o3) :: (L + 1 + 1, o2) :: (L + 1, o1) :: ex') → (aH, listOf us.toArray k1) ∈ ex' → IntsAre us (heapsF ns) → (aP, listOf vsP.toArray kP) ∈ ex' → All2 (PTup ex') vsP (partsOf (heapsF ns)) → m' (Str.ofString "plain") = some (.str (plainOf (heapsF ns)) tp) → Q .next { s with heap := h', toks := tk }) :
    wpAny (model PySem.Challenge.rw_tc0086_01.prog w) (callerA.deeper (envOfC (Str.ofString "law") scope30 L fa cc)) (execs partA (envOfC (Str.ofString "law") scope30 L fa cc)) Q (fun _ _ => False) s := by
  revert X
  k_fill
  intro X
  k_steps
  refine' Stop.go (use_specP (heaps_spec w _ al vs ns hi (by rw [sizeLine_eq]; omega)) ?B ?F ?x ?N ?T rfl ?hd ?hu ?hD hl ?_)
  case B => k_asm
  case F => k_asm
  case x => k_asm
  case N => k_asm
  case T => k_asm
  case hD => assumption
  case hd => first | ktr_room | decide
  case hu => first | ktr_units | decide
  intro v1 new1 h1 tk1 hle1 F1 N1 P1
  refine veil fun vG hG => ?_; obtain ⟨aH, us, k1, rfl, rfl, hu⟩ := P1; refine hG ?_; clear hG vG
  have hH6 := heapsF_len ns
  generalize heapsF ns = hs at hu hH6 hpl hQ
  have N1' := swap8 N1
  clear N1
  have hE1 : Seqs ([(aH, listOf (List.toArray us) k1)] ++ ex) := Seqs.cons rfl hE
  have hO := hE1.off N1' (fun p hp => sub8 hp) (by k_mem) d1
  k_steps
  refine' Stop.go (use_spec (order_spec w _ _ _) ?B ?F ?x ?N ?T rfl ?hd ?hu ?hD ?_)
  case B => k_asm
  case F => k_asm
  case x => k_asm
  case N => k_asm
  case T => k_asm
  case hD => first | assumption | exact dict_up (by assumption) (by assumption)
  case hd => first | ktr_room | decide
  case hu => first | ktr_units | decide
  intro v2 new2 h2 tk2 hle2 F2 N2 P2
  refine veil fun vG hG => ?_; obtain ⟨aO, us2, k2, rfl, rfl, hu2⟩ := P2; refine hG ?_; clear hG vG
  k_steps
  refine' Stop.go (use_spec (parts_spec w 6 _ aO us2 k2 _ 0 6 _ _ ?mem hu2 ?len (by decide) (by decide)) ?B ?F ?x ?N ?T rfl ?hd ?hu ?hD ?_)
  case B => k_asm
  case F => k_asm
  case x => k_asm
  case N => k_asm
  case T => k_asm
  case hD => first | assumption | exact dict_up (by assumption) (by assumption)
  case hd => first | ktr_room | decide
  case hu => first | ktr_units | decide
  case mem => exact .head _
  case len => exact Nat.le_of_eq (orderAt_len _ 5 (Nat.le_refl _))
  intro v3 new3 h3 tk3 hle3 F3 N3 P3
  refine veil fun vG hG => ?_; obtain ⟨aP, vsP, kP, tl, rfl, hsub, hSq, hP⟩ := parts_only P3; refine hG ?_; clear hG vG
  have N4 := swap8 (newsSub N3 (a := ((aP, listOf (List.toArray vsP) kP) :: tl) ++ _) fun p hp => by
    rcases List.mem_append.mp hp with hp | hp
    · exact List.mem_append_left _ (hsub p hp)
    · exact List.mem_append_right _ (.tail _ hp))
  clear N3 N2
  have hE4 : Seqs (((aP, listOf (List.toArray vsP) kP) :: tl) ++ ([(aH, listOf (List.toArray us) k1)] ++ ex)) := hSq.append hE1
  have hO4 := hE4.off N4 (fun p hp => sub8 hp) (by k_mem) d2
  generalize hex : ((aP, listOf (List.toArray vsP) kP) :: tl) ++ ([(aH, listOf (List.toArray us) k1)] ++ ex) = ex4 at N4 hE4 hO4
  have mP : (aP, listOf (List.toArray vsP) kP) ∈ ex4 := by rw [← hex]; simp
  have mH : (aH, listOf (List.toArray us) k1) ∈ ex4 := by rw [← hex]; simp
  have hP4 : All2 (PTup ex4) vsP _ := hP.mono fun _ _ x => x.mono fun q hq => by rw [← hex]; simp [hq]
  k_steps
  refine Stop.go (PyProof.Rows.LCg.ListComp_U (F₀ := by assumption) (by with_unfolding_all rfl) (by decide) (by rfl) (by decide) (by rfl) ?_)
  k_steps
  rename_i hr F5 N5 hk5
  refine Stop.go (range_U rfl F5 N5 hr (by decide) (n := 6) (by decide) (by decide) (Y := fun i v => ∃ t, v = .str (letterF (hs.getD 0 0) i) t) ?_ ?_)
  · intro i tv v ys I oI C oC D m₂ h tk hi hv hC hx F N off ne
    subst hv
    have h3 := pow3_bd i hi
    k_steps
    exact ⟨⟨_, rfl⟩, _, _, rfl, by assumption, by assumption⟩
  · intro ys hys D h tk F N off
    have hS : StrsAre ys (lettersOf hs) := (Picked.all (R := StrV) (ps := lettersOf hs) (fun i p y e hy => by
      obtain ⟨t, rfl⟩ := hy
      unfold lettersOf at e
      rw [List.getElem?_map] at e
      rcases Nat.lt_or_ge i 6 with h | h
      · rw [List.getElem?_range h] at e
        exact ⟨t, by rw [← Option.some.inj e]⟩
      · rw [List.getElem?_eq_none (by simpa using h)] at e; cases e) hys).strs
    k_steps
    refine' Stop.go (use_spec (text_spec w _ aP D vsP kP ys _ (partsOf hs) (lettersOf hs) ?m1 ?m2 hpl ?m3 hS rfl ?m4) ?B ?F ?x ?N ?T rfl ?hd ?hu ?hD ?_)
    case B => k_asm
    case F => k_asm
    case x => k_asm
    case N => k_asm
    case T => k_asm
    case hD => first | assumption | exact dict_up (by assumption) (by assumption)
    case hd => first | ktr_room | decide
    case hu => first | ktr_units | decide
    case m1 => exact .tail _ (sub8 mP)
    case m2 => exact hP4.mono fun _ _ x => x.mono fun q hq => .tail _ (sub8 hq)
    case m3 => exact .head _
    case m4 =>
      intro y hy
      obtain ⟨i, _, rfl⟩ := List.mem_map.mp hy
      exact letter_len _ _
    intro v6 new6 h6 tk6 hle6 F6 N6 P6
    obtain ⟨rfl, t6, rfl⟩ := P6
    k_steps
    exact hQ _ _ _ _ _ o3 o4 o5 o6 o7 o8 ex4 aH aP us vsP k1 kP _ (by assumption) (by assumption) (by assumption) (by assumption) (by assumption) (by assumption) (by assumption) (by assumption) (by assumption) hE4 (fun p hp => ‹News g L _ (_ :: _)› p (.tail _ hp)) mH hu mP hP4 (by ((try dsimp only); repeat (first | assumption | exact if_pos rfl | refine (if_neg (by decide)).trans ?_)))
end
end
section
noncomputable def pickC : List Stmt → List Stmt
  | _ :: _ :: _ :: _ :: _ :: _ :: _ :: a :: _ => [a]
  | _ => []
noncomputable abbrev partC : List Stmt := by
  refine (fun (_ : pickC body30 = ?b) => ?b) ?h
  case h => conv => lhs; whnf
noncomputable def seenOf (Z : Str) : List Str := (Z.cps.toList.filter fun (c : Nat) => !b1L.any (fun k => k == (c : Int))).map b3
noncomputable def prepOf (X : Str) : Str := Txt.join (Str.ofString "") (seenOf X)
theorem All2.map {α β γ : Type} {R : α → γ → Prop} {f : β → γ} {as : List α} {bs : List β} (q : All2 (fun a b => R a (f b)) as bs) : All2 R as (bs.map f) := by
  induction q with
  | nil => exact .nil
  | cons x _ ih => exact .cons x ih
section
set_option maxHeartbeats 4000000
local macro_rules | `(tactic| walk_at "StrSrcT") => `(tactic| refine Stop.intro ?_)
local macro_rules | `(tactic| walk_at "call builtin:str.join") => `(tactic| refine Stop.intro ?_)
theorem law_c (w : World) {lo : List Str} {mean : ExcName → Option Value} {mg mb : Str → Option Value} (fa : Addr) (cc : Value) (base g : Heap) (L : Addr) (m : Str → Option Value) (s : Shared) (Q : Flow → Shared → Prop)
    (B : Below callerA base [] g) (X : (K w.params).In g) (T : Top q lo mean mg mb g) (hD : DictAt w g) (F : Fr g L s.heap m) (o1 o2 o3 o4 o5 o6 o7 o8 : Obj)
    (ex : CbLed) (hE : Seqs ex) (aH aP : Addr) (Z : Str) (ts tp tl : Tok) (pl : Str) (ly : Int)
    (d1 : o1.data = Data.cell (some (.ref aH))) (d2 : o2.data = Data.cell (some (.ref aP))) (d3 : o3.data = Data.cell none) (d4 : o4.data = Data.cell none) (d5 : o5.data = Data.cell none) (d6 : o6.data = Data.cell none) (d7 : o7.data = Data.cell none) (d8 : o8.data = Data.cell none)
    (mS : m (Str.ofString "sent") = some (.str Z ts)) (mP : m (Str.ofString "plain") = some (.str pl tp)) (mL : m (Str.ofString "layers") = some (.int ly tl)) (hX : Z.length ≤ 200000) (hj : ((seenOf Z).map (·.length)).sum ≤ 1000000)
    (N : News g L s.heap ((L + 1 + 1 + 1 + 1 + 1 + 1 + 1 + 1, o8) :: (L + 1 + 1 + 1 + 1 + 1 + 1 + 1, o7) :: (L + 1 + 1 + 1 + 1 + 1 + 1, o6) :: (L + 1 + 1 + 1 + 1 + 1, o5) :: (L + 1 + 1 + 1 + 1, o4) :: (L + 1 + 1 + 1, o3) :: (L + 1 + 1, o2) :: (L + 1, o1) :: ex))
    (hQ : ∀ (h' : Heap) (tk : Nat) (m' : Str → Option Value) (o1 o2 o3 o4 o5 o6 o7 o8 : Obj) (ex' : CbLed) (tr : Tok), Fr g L h' m' → o1.data = Data.cell (some (.ref aH)) → o2.data = Data.cell (some (.ref aP)) → o3.data = Data.cell none → o4.data = Data.cell none → o5.data = Data.cell none → o6.data = Data.cell none → o7.data = Data.cell none → o8.data = Data.cell none → Seqs ex' → News g L h' ((L + 1 + 1 + 1 + 1 + 1 + 1 + 1 + 1, o8) :: (L + 1 + 1 + 1 + 1 + 1 + 1 + 1, o7) :: (L + 1 + 1 + 1 + 1 + 1 + 1, o6) :: (L + 1 + 1 + 1 + 1 + 1, o5) :: (L + 1 + 1 + 1 + 1, o4) :: (L + 1 + 1 + 1, o3) :: (L + 1 + 1, o2) :: (L + 1, o1) :: ex') → ex' = ex → m' (Str.ofString "plain") = some (.str pl tp) → m' (Str.ofString "layers") = some (.int ly tl) → m' (Str.ofString "prepared") = some (.str (prepOf Z) tr) → Q .next { s with heap := h', toks := tk }) :
    wpAny (model PySem.Challenge.rw_tc0086_01.prog w) (callerA.deeper (envOfC (Str.ofString "law") scope30 L fa cc)) (execs partC (envOfC (Str.ofString "law") scope30 L fa cc)) Q (fun _ _ => False) s := by
  revert X
  k_fill
  intro X
  k_steps
  refine Stop.go (ListComp_TS (F₀ := by assumption) (by with_unfolding_all rfl) (by decide) (by rfl) (by decide) (by rfl) ?_)
  k_steps
  refine str_T rfl (by assumption) (by assumption) (by rw [sizeLine_eq]; omega) (b := fun i => !b1L.any (· == ((Z.cps.toList.getD i 0 : Nat) : Int))) (Y := fun i v => ∃ t, v = .str (b3 (Z.cps.toList.getD i 0)) t) ?_ ?_
  · intro i c u v ys I oI C oC D m₂ h tk hc hv hC hx F N off ne
    subst hv
    have e : Z.cps.toList.getD i 0 = c := by
      rw [List.getD_eq_getElem?_getD]
      have : Z.cps.toList[i]? = some c := by simpa using hc
      rw [this]; rfl
    rw [e]
    k_steps
    refine' Stop.go (use_spec (in_b1_spec w _ _ _) ?B ?F ?x ?N ?T rfl ?hd ?hu ?hD ?_)
    case B => k_asm
    case F => k_asm
    case x => k_asm
    case N => k_asm
    case T => k_asm
    case hD => first | assumption | exact dict_up (by assumption) (by assumption)
    case hd => first | ktr_room | decide
    case hu => first | ktr_units | decide
    intro v1 new1 h1 tk1 hle1 F1 N1 P1
    obtain ⟨rfl, rfl⟩ := P1
    k_steps
    refine TestOut.intro ?_ (by assumption) (by assumption) fun hok => ?_
    · cases b1L.any fun k => k == (c : Int) <;> rfl
    · k_steps
      refine' Stop.go (use_spec (map_b3_spec w _ _ _) ?B ?F ?x ?N ?T rfl ?hd ?hu ?hD ?_)
      case B => k_asm
      case F => k_asm
      case x => k_asm
      case N => k_asm
      case T => k_asm
      case hD => first | assumption | exact dict_up (by assumption) (by assumption)
      case hd => first | ktr_room | decide
      case hu => first | ktr_units | decide
      intro v2 new2 h2 tk2 hle2 F2 N2 P2
      obtain ⟨rfl, t2, rfl⟩ := P2
      k_steps
      exact ⟨⟨_, rfl⟩, _, _, rfl, by assumption, by assumption⟩
  · intro ys hys D h tk F N off
    have hS := hys.filter (ps := Z.cps.toList) (pr := fun (c : Nat) => !b1L.any (fun k => k == (c : Int))) (R := fun v c => StrV v (b3 c)) (fun i p e => by rw [List.getD_eq_getElem?_getD, e]; rfl) (fun i p y e hy => by
      obtain ⟨t, rfl⟩ := hy
      exact ⟨t, by rw [List.getD_eq_getElem?_getD, e]; rfl⟩) (by simp)
    have e0 : Z.cps.size = Z.cps.toList.length := by simp
    rw [e0, List.take_length] at hS
    have hS2 : StrsAre ys (seenOf Z) := hS.map.strs
    k_steps
    have hlen : (seenOf Z).length ≤ 200000 := by
      unfold seenOf
      rw [List.length_map]
      exact Nat.le_trans (List.length_filter_le _ _) (by rw [← e0]; exact hX)
    refine Stop.go (join_listC (News.isList (by assumption) (.head _)) (by simpa using hS2) (by decide) (by omega) fun t' k' => ?_)
    k_steps
    exact hQ _ _ _ o1 o2 o3 o4 o5 o6 o7 o8 ex _ (by assumption) d1 d2 d3 d4 d5 d6 d7 d8 hE (fun p hp => ‹News g L _ (_ :: _)› p (.tail _ hp)) rfl (by ((try dsimp only); repeat (first | assumption | exact if_pos rfl | refine (if_neg (by decide)).trans ?_))) (by ((try dsimp only); repeat (first | assumption | exact if_pos rfl | refine (if_neg (by decide)).trans ?_))) (by ((try dsimp only); repeat (first | assumption | exact if_pos rfl | refine (if_neg (by decide)).trans ?_)))
end
end
section
section
open PyProof.Rows.LCg PyProof.Rows.LCt
variable {prog : Program} {w : World} {A : Around} {s : Shared} {h₀ : Heap} {L : Addr} {m : Str → Option Value} {env : Env}
theorem rest_Tn {ct elt : Expr} {x : Str} {scope : Scope} {cl : List (Str × Addr)} {P : Nat → Value → Prop} {Fin : List Value → CbLed → Prop} {led : CbLed} {S : CbLed → Prop} {b : Nat → Bool} {Y : Nat → Value → Prop} {n : Nat} (hS : S led)
    (step : ∀ i v ys I oI C oC D m₂ h tk, i < n → P i v → NsObj oC m₂ → m₂ x = some v → Fr h₀ L h m → News h₀ L h ((I, oI) :: (C, oC) :: (D, lst ys) :: led) → Off3 I C D led → ((@Ne Nat I C) ∧ (@Ne Nat I D) ∧ (@Ne Nat C D)) →
      wpAny (model prog w) A (isTrue ct (compEnvC scope cl C env) (eval ct (compEnvC scope cl C env))) (TestOut prog w A h₀ L m ((I, oI) :: (C, oC) :: (D, lst ys) :: led) { s with heap := h, toks := tk } (compEnvC scope cl C env) elt (b i) (Y i)) (fun _ _ => False) { s with heap := h, toks := tk }) :
    ∀ (k i : Nat) (ys : List Value), Picked b Y i ys → i + k = n → (∀ zs, Picked b Y n zs → Fin zs led) → CompRestT prog w A h₀ L m env ct elt x scope cl s S P Fin k i ys led
  | 0, i, ys, hp, e, hf => hf ys (by rw [← e]; exact hp)
  | k + 1, i, ys, hp, e, hf => by
    intro v I oI C oC D m₂ h tk E' hP hC hv F N off ne
    have next : ∀ ys', Picked b Y (i + 1) ys' → CompRestT prog w A h₀ L m env ct elt x scope cl s S P Fin k (i + 1) ys' led := fun ys' hp' => rest_Tn hS step k (i + 1) ys' hp' (by omega) hf
    refine wpAny_mono (step i v ys I oI C oC D m₂ h tk (by omega) hP hC hv F N off ne) (fun ok s' ho => ?_) fun _ _ e => e.elim
    obtain ⟨hb, ho⟩ := ho
    cases ok with
    | true =>
      rw [if_pos rfl] at ho ⊢
      refine wpAny_mono ho (fun y s'' hy => ?_) fun _ _ e => e.elim
      refine veil fun vG hG => ?_; obtain ⟨hY, h', tk', rfl, F', N'⟩ := hy; refine hG ?_; clear hG vG
      exact ⟨h', tk', led, rfl, F', N', off, hS, next _ (.take hp hb.symm hY)⟩
    | false =>
      rw [if_neg Bool.false_ne_true] at ho ⊢
      refine veil fun vG hG => ?_; obtain ⟨h', tk', rfl, F', N'⟩ := ho; refine hG ?_; clear hG vG
      exact ⟨h', tk', led, rfl, F', N', off, hS, next _ (.skip hp hb.symm)⟩
theorem range_Tn {ct elt : Expr} {x : Str} {scope : Scope} {cl : List (Str × Addr)} {Q : Value → Shared → Prop} {led : CbLed} {r : Addr} {lo hi : Int} {t u v : Tok} {n : Nat} {b : Nat → Bool} {Y : Nat → Value → Prop}
    (hh : A.handled = none) (F : Fr h₀ L s.heap m) (N : News h₀ L s.heap led) (hr : IsRange s.heap r lo hi 1 t u v) (hsm : Builtin.Range.small lo hi 1 = true) (hn : Builtin.Range.rangeSize lo hi 1 = ((n : Nat) : Int)) (hsz : n ≤ sizeLine)
    (step : ∀ i t v ys I oI C oC D m₂ h tk, i < n → v = .int (lo + (i : Int)) t → NsObj oC m₂ → m₂ x = some v → Fr h₀ L h m → News h₀ L h ((I, oI) :: (C, oC) :: (D, lst ys) :: led) → Off3 I C D led → ((@Ne Nat I C) ∧ (@Ne Nat I D) ∧ (@Ne Nat C D)) →
      wpAny (model prog w) A (isTrue ct (compEnvC scope cl C env) (eval ct (compEnvC scope cl C env))) (TestOut prog w A h₀ L m ((I, oI) :: (C, oC) :: (D, lst ys) :: led) { s with heap := h, toks := tk } (compEnvC scope cl C env) elt (b i) (Y i)) (fun _ _ => False) { s with heap := h, toks := tk })
    (fin : ∀ ys, Picked b Y n ys → ∀ D h tk, Fr h₀ L h m → News h₀ L h ((D, lst ys) :: led) → Off1 D led → Q (.ref D) { s with heap := h, toks := tk }) :
    CompSrcT prog w A h₀ L m env ct elt x scope cl (fun s₂ => FinE h₀ L m s₂ Q) (.ref r) s := by
  refine CompSrcT.range hh F N hr hsm hn hsz ?_
  intro g
  refine rest_Tn (s := { s with heap := g }) (P := fun i v => ∃ t, v = .int (lo + (i : Int)) t) (b := b) (Y := Y) (S := fun _ => True) trivial (fun i v ys I oI C oC D m₂ h tk hi hv => by obtain ⟨t, hv⟩ := hv; exact step i t v ys I oI C oC D m₂ h tk hi hv) _ 0 [] .zero (Nat.zero_add _) ?_
  exact fin
end
noncomputable def pickE : List Stmt → List Stmt
  | _ :: _ :: _ :: _ :: _ :: _ :: _ :: _ :: _ :: _ :: _ :: a :: b :: c :: _ => [a, b, c]
  | _ => []
noncomputable abbrev partE : List Stmt := by
  refine (fun (_ : pickE body30 = ?b) => ?b) ?h
  case h => conv => lhs; whnf
noncomputable def leadSign (c : Nat) : Str := if Txt.contains (Str.ofString "fik") ⟨#[c]⟩ = true then Str.ofString "\t" else Str.ofString " "
noncomputable def leadOf (Z : Str) : Str := Txt.join (Str.ofString "") (Z.cps.toList.map leadSign)
noncomputable def placesOf (Z : Str) : List Int := ((List.range Z.length).filter fun (i : Nat) => Txt.item Z (0 + (i : Int)) == Str.ofString "\t").map fun (i : Nat) => 0 + (i : Int)
theorem leadSign_len (c : Nat) : (leadSign c).length = 1 := by
  unfold leadSign
  split <;> decide
theorem lead_sum : ∀ l : List Nat, ((l.map leadSign).map (·.length)).sum = l.length
  | [] => rfl
  | c :: r => by
    rw [List.map_cons, List.map_cons, List.sum_cons, lead_sum r, leadSign_len, List.length_cons]
    omega
section
set_option maxHeartbeats 4000000
local macro_rules | `(tactic| walk_at "StrSrc") => `(tactic| refine Stop.intro ?_)
local macro_rules | `(tactic| walk_at "call builtin:str.join") => `(tactic| refine Stop.intro ?_)
local macro_rules | `(tactic| walk_at "never asked") => `(tactic| skip)
theorem law_e (w : World) {lo : List Str} {mean : ExcName → Option Value} {mg mb : Str → Option Value} (fa : Addr) (cc : Value) (base g : Heap) (L : Addr) (m : Str → Option Value) (s : Shared) (Q : Flow → Shared → Prop)
    (B : Below callerA base [] g) (X : (K w.params).In g) (T : Top q lo mean mg mb g) (hD : DictAt w g) (F : Fr g L s.heap m) (o1 o2 o3 o4 o5 o6 o7 o8 : Obj)
    (ex : CbLed) (hE : Seqs ex) (aH aP : Addr) (Z : Str) (ly : Int) (tl tr : Tok)
    (d1 : o1.data = Data.cell (some (.ref aH))) (d2 : o2.data = Data.cell (some (.ref aP))) (d3 : o3.data = Data.cell none) (d4 : o4.data = Data.cell none) (d5 : o5.data = Data.cell none) (d6 : o6.data = Data.cell none) (d7 : o7.data = Data.cell none) (d8 : o8.data = Data.cell none)
    (mL : m (Str.ofString "layers") = some (.int ly tl)) (mR : m (Str.ofString "prepared") = some (.str Z tr)) (hly : 1 ≤ ly ∧ ly ≤ 2) (hZ : Z.length ≤ 900) (hLd : (leadOf Z).length ≤ 900)
    (N : News g L s.heap ((L + 1 + 1 + 1 + 1 + 1 + 1 + 1 + 1, o8) :: (L + 1 + 1 + 1 + 1 + 1 + 1 + 1, o7) :: (L + 1 + 1 + 1 + 1 + 1 + 1, o6) :: (L + 1 + 1 + 1 + 1 + 1, o5) :: (L + 1 + 1 + 1 + 1, o4) :: (L + 1 + 1 + 1, o3) :: (L + 1 + 1, o2) :: (L + 1, o1) :: ex))
    (hQ : ∀ (h' : Heap) (tk : Nat) (m' : Str → Option Value) (o1 o2 o3 o4 o5 o6 o7 o8 : Obj) (ex' : CbLed) (aPl : Addr) (tL tS : Tok) (vsPl : List Value) (kPl : Nat), Fr g L h' m' → o1.data = Data.cell (some (.ref aH)) → o2.data = Data.cell (some (.ref aP)) → o3.data = Data.cell (some (.str (leadOf Z) tL)) → o4.data = Data.cell (some (.int (4 * ly) tS)) → o5.data = Data.cell (some (.ref aPl)) → o6.data = Data.cell none → o7.data = Data.cell none → o8.data = Data.cell none → Seqs ex' → News g L h' ((L + 1 + 1 + 1 + 1 + 1 + 1 + 1 + 1, o8) :: (L + 1 + 1 + 1 + 1 + 1 + 1 + 1, o7) :: (L + 1 + 1 + 1 + 1 + 1 + 1, o6) :: (L + 1 + 1 + 1 + 1 + 1, o5) :: (L + 1 + 1 + 1 + 1, o4) :: (L + 1 + 1 + 1, o3) :: (L + 1 + 1, o2) :: (L + 1, o1) :: ex') → (∀ p ∈ ex, p ∈ ex') → (aPl, listOf vsPl.toArray kPl) ∈ ex' → IntsAre vsPl (placesOf (leadOf Z)) → Q .next { s with heap := h', toks := tk }) :
    wpAny (model PySem.Challenge.rw_tc0086_01.prog w) (callerA.deeper (envOfC (Str.ofString "law") scope30 L fa cc)) (execs partE (envOfC (Str.ofString "law") scope30 L fa cc)) Q (fun _ _ => False) s := by
  revert X
  k_fill
  intro X
  k_steps
  refine Stop.go (ListComp_US (F₀ := by assumption) (by with_unfolding_all rfl) (by decide) (by rfl) (by decide) (by rfl) ?_)
  k_steps
  refine str_U rfl (by assumption) (by assumption) (by rw [sizeLine_eq]; omega) (Y := fun i v => ∃ t, v = .str (leadSign (Z.cps.toList.getD i 0)) t) ?_ ?_
  · intro i c u v ys I oI C oC D m₂ h tk hc hv hC hx F N off ne
    subst hv
    have e : Z.cps.toList.getD i 0 = c := by
      rw [List.getD_eq_getElem?_getD]
      have : Z.cps.toList[i]? = some c := by simpa using hc
      rw [this]; rfl
    rw [e]
    k_steps
    all_goals exact ⟨⟨_, by unfold leadSign Txt.contains; simp only [‹List.isEmpty _ = _›]; rfl⟩, _, _, rfl, by assumption, by assumption⟩
  · intro ys hys D h tk F N off
    have e0 : Z.cps.size = Z.cps.toList.length := by simp
    have hl0 : Z.cps.toList.length ≤ 900 := by rw [← e0]; exact hZ
    rw [e0] at hys
    have hS : StrsAre ys (Z.cps.toList.map leadSign) := ((hys.all (R := fun v c => StrV v (leadSign c)) (fun i p y e hy => by
      obtain ⟨t, rfl⟩ := hy
      exact ⟨t, by rw [List.getD_eq_getElem?_getD, e]; rfl⟩)).map).strs
    k_steps
    refine Stop.go (join_listC (News.isList (by assumption) (.head _)) (by simpa using hS) (by decide) (by rw [lead_sum, List.length_map]; omega) fun t' k' => ?_)
    have N9 : News g L h _ := fun p hp => N p (.tail _ hp)
    clear N
    have hLd' : (Txt.join (Str.ofString "") (Z.cps.toList.map leadSign)).length ≤ 900 := hLd
    have hO3 := hE.off N9 (fun p hp => sub8 hp) (by k_mem) d3
    have hO4 := hE.off N9 (fun p hp => sub8 hp) (by k_mem) d4
    have hO5 := hE.off N9 (fun p hp => sub8 hp) (by k_mem) d5
    k_steps
    refine Stop.go (wpAny_Assign_Name ?_ (by with_unfolding_all rfl))
    k_steps
    refine Stop.go (PyProof.Rows.LCt.ListComp_T (F₀ := by assumption) (by with_unfolding_all rfl) (by decide) (by rfl) (by decide) (by rfl) ?_)
    k_steps
    rename_i hr F5 N5 hk5
    refine Stop.go (range_Tn rfl F5 N5 hr (small_one (by omega) (by omega) (by omega) (by omega)) (n := (leadOf Z).length) (by rw [rangeSize_nat]; show ((((leadOf Z).length : Int) - 0).toNat : Int) = _; omega) (by rw [sizeLine_eq]; omega) (b := fun i => Txt.item (leadOf Z) (0 + (i : Int)) == Str.ofString "\t") (Y := fun i v => ∃ t, v = .int (0 + (i : Int)) t) ?_ ?_)
    · intro i tv v ys I oI C oC D m₂ h tk hi hv hC hx F N off ne
      subst hv
      have hi' : i < (Txt.join (Str.ofString "") (Z.cps.toList.map leadSign)).length := hi
      k_steps
      refine TestOut.intro rfl (by assumption) (by assumption) fun hok => ?_
      k_steps
      exact ⟨⟨_, rfl⟩, _, _, rfl, by assumption, by assumption⟩
    · intro ys hys D h tk F N off
      have hS2 := hys.filter (ps := List.range (leadOf Z).length) (pr := fun (i : Nat) => Txt.item (leadOf Z) (0 + (i : Int)) == Str.ofString "\t") (R := fun v (i : Nat) => IntV v (0 + (i : Int))) (fun i p e => by
        rcases Nat.lt_or_ge i (leadOf Z).length with h | h
        · rw [List.getElem?_range h] at e; cases e; rfl
        · rw [List.getElem?_eq_none (by simpa using h)] at e; cases e) (fun i p y e hy => by
        obtain ⟨t, rfl⟩ := hy
        rcases Nat.lt_or_ge i (leadOf Z).length with h | h
        · rw [List.getElem?_range h] at e; cases e; exact ⟨t, rfl⟩
        · rw [List.getElem?_eq_none (by simpa using h)] at e; cases e) (by simp)
      rw [List.take_of_length_le (by simp)] at hS2
      have hI := hS2.map.ints
      have N8 := swap8 (new := [(D, _)]) N
      clear N
      have hE8 : Seqs ([(D, PyProof.Rows.LCg.lst ys)] ++ ex) := Seqs.cons rfl hE
      have hO8 := hE8.off N8 (fun p hp => sub8 hp) (by k_mem) d5
      k_steps
      exact hQ _ _ _ o1 o2 _ _ _ o6 o7 o8 ([(D, PyProof.Rows.LCg.lst ys)] ++ ex) D _ _ ys ys.length (by assumption) d1 d2 (by assumption) (by assumption) (by assumption) d6 d7 d8 hE8 (by assumption) (fun p hp => .tail _ hp) (List.mem_append_left _ (List.mem_singleton.mpr rfl)) hI
end
end
section
theorem IsWs.mono {P : Params} {x : Str} {v : Value} {a b : CbLed} (h : ∀ p ∈ a, p ∈ b) (H : IsWs P x v a) : IsWs P x v b := by
  refine veil fun vG hG => ?_; obtain ⟨xa, da, na, ta, t1, k1, k2, k3, k4, k5, tn, tt, tb, nn, bb, us1, e, m1, m2, m3, m4, hus⟩ := H; refine hG ?_; clear hG vG
  exact ⟨xa, da, na, ta, t1, k1, k2, k3, k4, k5, tn, tt, tb, nn, bb, us1, e, h _ m1, h _ m2, h _ m3, h _ m4, hus⟩
noncomputable def colsOf (Ld : Str) (pls : List Int) (sz : Int) : List Int := pls.map fun k => levelF (Txt.slice Ld none (some (k + 1))) sz
noncomputable def pickG : List Stmt → List Stmt
  | _ :: _ :: _ :: _ :: _ :: _ :: _ :: _ :: _ :: _ :: _ :: _ :: _ :: _ :: a :: _ => [a]
  | _ => []
noncomputable abbrev partG : List Stmt := by
  refine (fun (_ : pickG body30 = ?b) => ?b) ?h
  case h => conv => lhs; whnf
section
set_option maxHeartbeats 4000000
theorem law_g (w : World) {lo : List Str} {mean : ExcName → Option Value} {mg mb : Str → Option Value} (fa : Addr) (cc : Value) (base g : Heap) (L : Addr) (m : Str → Option Value) (s : Shared) (Q : Flow → Shared → Prop)
    (B : Below callerA base [] g) (X : (K w.params).In g) (T : Top q lo mean mg mb g) (hD : DictAt w g) (F : Fr g L s.heap m) (o1 o2 o3 o4 o5 o6 o7 o8 : Obj)
    (ex : CbLed) (hE : Seqs ex) (aH aP aPl : Addr) (Ld : Str) (sz : Int) (tL tS : Tok) (vsPl : List Value) (kPl : Nat) (pls : List Int)
    (d1 : o1.data = Data.cell (some (.ref aH))) (d2 : o2.data = Data.cell (some (.ref aP))) (d3 : o3.data = Data.cell (some (.str Ld tL))) (d4 : o4.data = Data.cell (some (.int sz tS))) (d5 : o5.data = Data.cell (some (.ref aPl))) (d6 : o6.data = Data.cell none) (d7 : o7.data = Data.cell none) (d8 : o8.data = Data.cell none)
    (hLd : Ld.length ≤ 900) (hsz : 0 < sz ∧ sz < 1000) (mPl : (aPl, listOf vsPl.toArray kPl) ∈ ex) (iPl : IntsAre vsPl pls) (hpn : pls.length ≤ 900) (hpb : ∀ k ∈ pls, 0 ≤ k ∧ k < Ld.length)
    (N : News g L s.heap ((L + 1 + 1 + 1 + 1 + 1 + 1 + 1 + 1, o8) :: (L + 1 + 1 + 1 + 1 + 1 + 1 + 1, o7) :: (L + 1 + 1 + 1 + 1 + 1 + 1, o6) :: (L + 1 + 1 + 1 + 1 + 1, o5) :: (L + 1 + 1 + 1 + 1, o4) :: (L + 1 + 1 + 1, o3) :: (L + 1 + 1, o2) :: (L + 1, o1) :: ex))
    (hQ : ∀ (h' : Heap) (tk : Nat) (m' : Str → Option Value) (o1 o2 o3 o4 o5 o6 o7 o8 : Obj) (ex' : CbLed) (aC : Addr) (vsC : List Value) (kC : Nat), Fr g L h' m' → o1.data = Data.cell (some (.ref aH)) → o2.data = Data.cell (some (.ref aP)) → o3.data = Data.cell (some (.str Ld tL)) → o4.data = Data.cell (some (.int sz tS)) → o5.data = Data.cell (some (.ref aPl)) → o6.data = Data.cell (some (.ref aC)) → o7.data = Data.cell none → o8.data = Data.cell none → Seqs ex' → News g L h' ((L + 1 + 1 + 1 + 1 + 1 + 1 + 1 + 1, o8) :: (L + 1 + 1 + 1 + 1 + 1 + 1 + 1, o7) :: (L + 1 + 1 + 1 + 1 + 1 + 1, o6) :: (L + 1 + 1 + 1 + 1 + 1, o5) :: (L + 1 + 1 + 1 + 1, o4) :: (L + 1 + 1 + 1, o3) :: (L + 1 + 1, o2) :: (L + 1, o1) :: ex') → (∀ p ∈ ex, p ∈ ex') → (aC, listOf vsC.toArray kC) ∈ ex' → IntsAre vsC (colsOf Ld pls sz) → Q .next { s with heap := h', toks := tk }) :
    wpAny (model PySem.Challenge.rw_tc0086_01.prog w) (callerA.deeper (envOfC (Str.ofString "law") scope30 L fa cc)) (execs partG (envOfC (Str.ofString "law") scope30 L fa cc)) Q (fun _ _ => False) s := by
  revert X
  k_fill
  intro X
  k_steps
  refine Stop.go (wpAny_Assign_Name ?_ (by with_unfolding_all rfl))
  k_steps
  refine Stop.go (PyProof.Rows.LCg.ListComp_U (F₀ := by assumption) (by with_unfolding_all rfl) (by decide) (by rfl) (by decide) (by rfl) ?_)
  k_steps
  refine Stop.go (src_U rfl (by assumption) (by assumption) (sub8 mPl) (by rw [iPl.length, sizeLine_eq]; omega) (Y := fun i v => ∃ t, v = .int (levelF (Txt.slice Ld none (some (pls.getD i 0 + 1))) sz) t) ?_ ?_)
  · intro i v ys I oI C oC D m₂ h tk hv hC hx F N off ne
    refine veil fun vG hG => ?_; obtain ⟨kk, tk0, rfl, hk⟩ := IntsAre.at iPl i v hv; refine hG ?_; clear hG vG
    have hkb := hpb kk (List.mem_of_getElem? hk)
    have hsl : (Txt.slice Ld none (some (kk + 1))).length ≤ 1000 := Nat.le_trans (Txt.slice_le _ _ _) (by omega)
    k_steps
    refine' Stop.go (use_spec (ws_spec w _ _ _ hsl) ?B ?F ?x ?N ?T rfl ?hd ?hu ?hD ?_)
    case B => k_asm
    case F => k_asm
    case x => k_asm
    case N => k_asm
    case T => k_asm
    case hD => first | assumption | exact dict_up (by assumption) (by assumption)
    case hd => first | ktr_room | decide
    case hu => first | ktr_units | decide
    intro v1 new1 h1 tk1 hle1 F1 N1 P1
    have P1' := P1
    refine veil fun vG hG => ?_; obtain ⟨xa, da, na, ta, t1, k1, k2, k3, k4, k5, tn, tt, tb, nn, bb, us1, rfl, m1, m2, m3, m4, hus⟩ := P1; refine hG ?_; clear hG vG
    k_steps
    refine' Stop.go (use_spec (indent_spec w _ _ hsl xa sz tS hsz ?mw) ?B ?F ?x ?N ?T rfl ?hd ?hu ?hD ?_)
    case B => k_asm
    case F => k_asm
    case x => k_asm
    case N => k_asm
    case T => k_asm
    case hD => first | assumption | exact dict_up (by assumption) (by assumption)
    case hd => first | ktr_room | decide
    case hu => first | ktr_units | decide
    case mw => exact IsWs.mono (fun p hp => List.mem_append_left _ hp) P1'
    intro v2 new2 h2 tk2 hle2 F2 N2 P2
    obtain ⟨rfl, t2, rfl⟩ := P2
    dsimp only [List.nil_append] at N2
    have ek : pls.getD i 0 = kk := by rw [List.getD_eq_getElem?_getD, hk]; rfl
    k_steps
    exact ⟨⟨t2, by rw [ek]⟩, _, _, rfl, by assumption, newsSub N2 fun p hp => List.mem_append_right _ hp⟩
  · intro ys hys D h tk F N off
    rw [iPl.length] at hys
    have hI := (hys.all (R := fun v k => IntV v (levelF (Txt.slice Ld none (some (k + 1))) sz)) (fun i p y e hy => by
      obtain ⟨t, rfl⟩ := hy
      exact ⟨t, by rw [List.getD_eq_getElem?_getD, e]; rfl⟩)).map.ints
    have N8 := swap8 (new := [(D, _)]) N
    clear N
    have hE8 : Seqs ([(D, PyProof.Rows.LCg.lst ys)] ++ ex) := Seqs.cons rfl hE
    have hO8 := hE8.off N8 (fun p hp => sub8 hp) (by k_mem) d6
    k_steps
    exact hQ _ _ _ o1 o2 o3 o4 o5 _ o7 o8 ([(D, PyProof.Rows.LCg.lst ys)] ++ ex) D ys ys.length (by assumption) d1 d2 d3 d4 d5 (by assumption) d7 d8 hE8 (by assumption) (fun p hp => .tail _ hp) (List.mem_append_left _ (List.mem_singleton.mpr rfl)) hI
end
end
section
noncomputable def pickH : List Stmt → List Stmt
  | _ :: _ :: _ :: _ :: _ :: _ :: _ :: _ :: _ :: _ :: _ :: _ :: _ :: _ :: _ :: a :: _ => [a]
  | _ => []
noncomputable abbrev partH : List Stmt := by
  refine (fun (_ : pickH body30 = ?b) => ?b) ?h
  case h => conv => lhs; whnf
noncomputable def stepsUp (l : List Int) (sz : Int) : List Int := (List.range 5).map fun (i : Nat) => (l.getD (i + 1) 0 - l.getD i 0).fdiv sz
section
set_option maxHeartbeats 4000000
local macro_rules | `(tactic| walk_at "subscriptTail Name Name ref int") => `(tactic| walk_at "mine ints")
local macro_rules | `(tactic| walk_at "subscriptTail Name BinOp ref int") => `(tactic| walk_at "mine ints")
theorem law_h (w : World) {lo : List Str} {mean : ExcName → Option Value} {mg mb : Str → Option Value} (fa : Addr) (cc : Value) (base g : Heap) (L : Addr) (m : Str → Option Value) (s : Shared) (Q : Flow → Shared → Prop)
    (B : Below callerA base [] g) (X : (K w.params).In g) (T : Top q lo mean mg mb g) (hD : DictAt w g) (F : Fr g L s.heap m) (o1 o2 o3 o4 o5 o6 o7 o8 : Obj)
    (ex : CbLed) (hE : Seqs ex) (aH aP aPl aC : Addr) (Ld : Str) (sz : Int) (tL tS : Tok) (vsC : List Value) (kC : Nat) (cols : List Int)
    (d1 : o1.data = Data.cell (some (.ref aH))) (d2 : o2.data = Data.cell (some (.ref aP))) (d3 : o3.data = Data.cell (some (.str Ld tL))) (d4 : o4.data = Data.cell (some (.int sz tS))) (d5 : o5.data = Data.cell (some (.ref aPl))) (d6 : o6.data = Data.cell (some (.ref aC))) (d7 : o7.data = Data.cell none) (d8 : o8.data = Data.cell none)
    (hsz : 0 < sz ∧ sz < 1000) (mC : (aC, listOf vsC.toArray kC) ∈ ex) (iC : IntsAre vsC cols) (hcn : cols.length = 6)
    (N : News g L s.heap ((L + 1 + 1 + 1 + 1 + 1 + 1 + 1 + 1, o8) :: (L + 1 + 1 + 1 + 1 + 1 + 1 + 1, o7) :: (L + 1 + 1 + 1 + 1 + 1 + 1, o6) :: (L + 1 + 1 + 1 + 1 + 1, o5) :: (L + 1 + 1 + 1 + 1, o4) :: (L + 1 + 1 + 1, o3) :: (L + 1 + 1, o2) :: (L + 1, o1) :: ex))
    (hQ : ∀ (h' : Heap) (tk : Nat) (m' : Str → Option Value) (o1 o2 o3 o4 o5 o6 o7 o8 : Obj) (ex' : CbLed) (aT : Addr) (vsT : List Value) (kT : Nat), Fr g L h' m' → o1.data = Data.cell (some (.ref aH)) → o2.data = Data.cell (some (.ref aP)) → o3.data = Data.cell (some (.str Ld tL)) → o4.data = Data.cell (some (.int sz tS)) → o5.data = Data.cell (some (.ref aPl)) → o6.data = Data.cell (some (.ref aC)) → o7.data = Data.cell none → o8.data = Data.cell none → Seqs ex' → News g L h' ((L + 1 + 1 + 1 + 1 + 1 + 1 + 1 + 1, o8) :: (L + 1 + 1 + 1 + 1 + 1 + 1 + 1, o7) :: (L + 1 + 1 + 1 + 1 + 1 + 1, o6) :: (L + 1 + 1 + 1 + 1 + 1, o5) :: (L + 1 + 1 + 1 + 1, o4) :: (L + 1 + 1 + 1, o3) :: (L + 1 + 1, o2) :: (L + 1, o1) :: ex') → (∀ p ∈ ex, p ∈ ex') → (aT, listOf vsT.toArray kT) ∈ ex' → IntsAre vsT (stepsUp cols sz) → m' (Str.ofString "turns") = some (.ref aT) → Q .next { s with heap := h', toks := tk }) :
    wpAny (model PySem.Challenge.rw_tc0086_01.prog w) (callerA.deeper (envOfC (Str.ofString "law") scope30 L fa cc)) (execs partH (envOfC (Str.ofString "law") scope30 L fa cc)) Q (fun _ _ => False) s := by
  revert X
  k_fill
  intro X
  k_steps
  refine Stop.go (PyProof.Rows.LCg.Assign_ListComp_U (F₀ := by assumption) (by rfl) (by with_unfolding_all rfl) (by with_unfolding_all rfl) (by decide) (by rfl) (by decide) (by rfl) (by rfl) (by rfl) ?_)
  k_steps
  rename_i hr F5 N5 hk5
  refine Stop.go (range_UA rfl F5 N5 hr (by decide) (n := 5) (by decide) (by decide) (Y := fun i v => ∃ t, v = .int ((cols.getD (i + 1) 0 - cols.getD i 0).fdiv sz) t) ?_ ?_)
  · intro i tv v ys I oI C oC D m₂ h tk hi hv hC hx F N off ne
    subst hv
    k_steps
    refine' Stop.go (use_spec (isub_spec w _ _ _ _ _) ?B ?F ?x ?N ?T rfl ?hd ?hu ?hD ?_)
    case B => k_asm
    case F => k_asm
    case x => k_asm
    case N => k_asm
    case T => k_asm
    case hD => first | assumption | exact dict_up (by assumption) (by assumption)
    case hd => first | ktr_room | decide
    case hu => first | ktr_units | decide
    intro v1 new1 h1 tk1 hle1 F1 N1 P1
    obtain ⟨rfl, t1, rfl⟩ := P1
    k_steps
    refine' Stop.go (use_spec (ifloordiv_spec w _ _ _ _ _ hsz) ?B ?F ?x ?N ?T rfl ?hd ?hu ?hD ?_)
    case B => k_asm
    case F => k_asm
    case x => k_asm
    case N => k_asm
    case T => k_asm
    case hD => first | assumption | exact dict_up (by assumption) (by assumption)
    case hd => first | ktr_room | decide
    case hu => first | ktr_units | decide
    intro v2 new2 h2 tk2 hle2 F2 N2 P2
    obtain ⟨rfl, t2, rfl⟩ := P2
    have x1 : ((1 : Int) + (i : Int)).toNat = i + 1 := by omega
    have x2 : ((1 : Int) + (i : Int) - 1).toNat = i := by omega
    rw [x1, x2]
    k_steps
    exact ⟨⟨t2, rfl⟩, _, _, rfl, by assumption, by assumption⟩
  · intro ys hys D h tk F N off
    have hI := ((Picked.all (ps := List.range 5) (R := fun v (i : Nat) => IntV v ((cols.getD (i + 1) 0 - cols.getD i 0).fdiv sz)) (fun i p y e hy => by
      obtain ⟨t, rfl⟩ := hy
      rcases Nat.lt_or_ge i 5 with h | h
      · rw [List.getElem?_range h] at e; cases e; exact ⟨t, rfl⟩
      · rw [List.getElem?_eq_none (by simpa using h)] at e; cases e) hys)).map.ints
    have N8 := swap8 (new := [(D, _)]) N
    clear N
    have hE8 : Seqs ([(D, PyProof.Rows.LCg.lst ys)] ++ ex) := Seqs.cons rfl hE
    k_steps
    exact hQ _ _ _ o1 o2 o3 o4 o5 o6 o7 o8 ([(D, PyProof.Rows.LCg.lst ys)] ++ ex) D ys ys.length (by assumption) d1 d2 d3 d4 d5 d6 d7 d8 hE8 (by assumption) (fun p hp => .tail _ hp) (List.mem_append_left _ (List.mem_singleton.mpr rfl)) hI (by ((try dsimp only); repeat (first | assumption | exact if_pos rfl | refine (if_neg (by decide)).trans ?_)))
end
end
section
noncomputable def pickJ : List Stmt → List Stmt
  | _ :: _ :: _ :: _ :: _ :: _ :: _ :: _ :: _ :: _ :: _ :: _ :: _ :: _ :: _ :: _ :: _ :: _ :: a :: _ => [a]
  | _ => []
noncomputable abbrev partJ : List Stmt := by
  refine (fun (_ : pickJ body30 = ?b) => ?b) ?h
  case h => conv => lhs; whnf
noncomputable def stepsOne (l : List Int) (sz : Int) : List Int := (List.range 5).map fun (i : Nat) => 1 + (l.getD (i + 1) 0 - l.getD i 0).fdiv sz
section
variable {prog : Program} {w : World} {A : Around} {E : Value → Shared → Prop} {s : Shared} {h₀ : Heap} {L : Addr} {m : Str → Option Value} {news : CbLed}
theorem ne_same {a b : Addr} {vs us : List Value} {k k' : Nat} {ns ms : List Int} {Q : Value → Shared → Prop} (N : News h₀ L s.heap news) (ha : (a, listOf vs.toArray k) ∈ news) (hi : IntsAre vs ns) (hb : (b, listOf us.toArray k') ∈ news) (hi' : IntsAre us ms) (he : ns = ms) (hu : A.units + 64 < cLine)
    (h : Q (.bool false) s) : wpAny (model prog w) A (compareOp .NotEq (.ref a) (.ref b)) Q E s :=
  ne_intsK (News.isList N ha) hi (News.isList N hb) hi' hu (by rw [decide_eq_true he]; exact h)
end
section
set_option maxHeartbeats 4000000
local macro_rules | `(tactic| walk_at "compareOp NotEq ref ref") => `(tactic| refine Stop.intro ?_)
local macro_rules | `(tactic| walk_at "subscriptTail Name Name ref int") => `(tactic| walk_at "mine ints")
local macro_rules | `(tactic| walk_at "subscriptTail Name BinOp ref int") => `(tactic| walk_at "mine ints")
theorem law_j (w : World) {lo : List Str} {mean : ExcName → Option Value} {mg mb : Str → Option Value} (fa : Addr) (cc : Value) (base g : Heap) (L : Addr) (m : Str → Option Value) (s : Shared) (Q : Flow → Shared → Prop)
    (B : Below callerA base [] g) (X : (K w.params).In g) (T : Top q lo mean mg mb g) (hD : DictAt w g) (F : Fr g L s.heap m) (o1 o2 o3 o4 o5 o6 o7 o8 : Obj)
    (ex : CbLed) (hE : Seqs ex) (aH aP aPl aC aT : Addr) (Ld : Str) (sz : Int) (tL tS : Tok) (v7 : Option Value) (vsPl vsT : List Value) (kPl kT : Nat) (pls ts : List Int)
    (d1 : o1.data = Data.cell (some (.ref aH))) (d2 : o2.data = Data.cell (some (.ref aP))) (d3 : o3.data = Data.cell (some (.str Ld tL))) (d4 : o4.data = Data.cell (some (.int sz tS))) (d5 : o5.data = Data.cell (some (.ref aPl))) (d6 : o6.data = Data.cell (some (.ref aC))) (d7 : o7.data = Data.cell v7) (d8 : o8.data = Data.cell none)
    (hsz : 0 < sz ∧ sz < 1000) (mPl : (aPl, listOf vsPl.toArray kPl) ∈ ex) (iPl : IntsAre vsPl pls) (hpn : pls.length = 6) (mT : (aT, listOf vsT.toArray kT) ∈ ex) (iT : IntsAre vsT ts) (mm : m (Str.ofString "turns") = some (.ref aT)) (heq : ts = stepsOne pls sz)
    (N : News g L s.heap ((L + 1 + 1 + 1 + 1 + 1 + 1 + 1 + 1, o8) :: (L + 1 + 1 + 1 + 1 + 1 + 1 + 1, o7) :: (L + 1 + 1 + 1 + 1 + 1 + 1, o6) :: (L + 1 + 1 + 1 + 1 + 1, o5) :: (L + 1 + 1 + 1 + 1, o4) :: (L + 1 + 1 + 1, o3) :: (L + 1 + 1, o2) :: (L + 1, o1) :: ex))
    (hQ : ∀ (h' : Heap) (tk : Nat) (m' : Str → Option Value) (o1 o2 o3 o4 o5 o6 o7 o8 : Obj) (ex' : CbLed) , Fr g L h' m' → o1.data = Data.cell (some (.ref aH)) → o2.data = Data.cell (some (.ref aP)) → o3.data = Data.cell (some (.str Ld tL)) → o4.data = Data.cell (some (.int sz tS)) → o5.data = Data.cell (some (.ref aPl)) → o6.data = Data.cell (some (.ref aC)) → o7.data = Data.cell v7 → o8.data = Data.cell none → Seqs ex' → News g L h' ((L + 1 + 1 + 1 + 1 + 1 + 1 + 1 + 1, o8) :: (L + 1 + 1 + 1 + 1 + 1 + 1 + 1, o7) :: (L + 1 + 1 + 1 + 1 + 1 + 1, o6) :: (L + 1 + 1 + 1 + 1 + 1, o5) :: (L + 1 + 1 + 1 + 1, o4) :: (L + 1 + 1 + 1, o3) :: (L + 1 + 1, o2) :: (L + 1, o1) :: ex') → ex' = ex → m' = m → Q .next { s with heap := h', toks := tk }) :
    wpAny (model PySem.Challenge.rw_tc0086_01.prog w) (callerA.deeper (envOfC (Str.ofString "law") scope30 L fa cc)) (execs partJ (envOfC (Str.ofString "law") scope30 L fa cc)) Q (fun _ _ => False) s := by
  revert X
  k_fill
  intro X
  k_steps
  refine Stop.go (PyProof.Rows.LCg.ListComp_U (F₀ := by assumption) (by with_unfolding_all rfl) (by decide) (by rfl) (by decide) (by rfl) ?_)
  k_steps
  rename_i hr F5 N5 hk5
  refine Stop.go (range_U rfl F5 N5 hr (by decide) (n := 5) (by decide) (by decide) (Y := fun i v => ∃ t, v = .int (1 + (pls.getD (i + 1) 0 - pls.getD i 0).fdiv sz) t) ?_ ?_)
  · intro i tv v ys I oI C oC D m₂ h tk hi hv hC hx F N off ne
    subst hv
    k_steps
    refine' Stop.go (use_spec (isub_spec w _ _ _ _ _) ?B ?F ?x ?N ?T rfl ?hd ?hu ?hD ?_)
    case B => k_asm
    case F => k_asm
    case x => k_asm
    case N => k_asm
    case T => k_asm
    case hD => first | assumption | exact dict_up (by assumption) (by assumption)
    case hd => first | ktr_room | decide
    case hu => first | ktr_units | decide
    intro v1 new1 h1 tk1 hle1 F1 N1 P1
    obtain ⟨rfl, t1, rfl⟩ := P1
    k_steps
    refine' Stop.go (use_spec (ifloordiv_spec w _ _ _ _ _ hsz) ?B ?F ?x ?N ?T rfl ?hd ?hu ?hD ?_)
    case B => k_asm
    case F => k_asm
    case x => k_asm
    case N => k_asm
    case T => k_asm
    case hD => first | assumption | exact dict_up (by assumption) (by assumption)
    case hd => first | ktr_room | decide
    case hu => first | ktr_units | decide
    intro v2 new2 h2 tk2 hle2 F2 N2 P2
    obtain ⟨rfl, t2, rfl⟩ := P2
    have x1 : ((1 : Int) + (i : Int)).toNat = i + 1 := by omega
    have x2 : ((1 : Int) + (i : Int) - 1).toNat = i := by omega
    rw [x1, x2]
    k_steps
    exact ⟨⟨_, rfl⟩, _, _, rfl, by assumption, by assumption⟩
  · intro ys hys D h tk F N off
    have hI := ((Picked.all (ps := List.range 5) (R := fun v (i : Nat) => IntV v (1 + (pls.getD (i + 1) 0 - pls.getD i 0).fdiv sz)) (fun i p y e hy => by
      obtain ⟨t, rfl⟩ := hy
      rcases Nat.lt_or_ge i 5 with h | h
      · rw [List.getElem?_range h] at e; cases e; exact ⟨t, rfl⟩
      · rw [List.getElem?_eq_none (by simpa using h)] at e; cases e) hys)).map.ints
    k_steps
    refine Stop.go (ne_same N (.tail _ (sub8 mT)) iT (k' := ys.length) (List.mem_cons.mpr (.inl rfl)) hI heq (by first | units_room | ktr_units | exact of_decide_eq_true rfl | exact Nat.le_of_ble_eq_true rfl) ?_)
    k_steps
    exact hQ _ _ _ o1 o2 o3 o4 o5 o6 o7 o8 ex (by assumption) d1 d2 d3 d4 d5 d6 d7 d8 hE (fun p hp => ‹News g L _ (_ :: _)› p (.tail _ hp)) rfl rfl
end
end
section
noncomputable def pickI : List Stmt → List Stmt
  | _ :: _ :: _ :: _ :: _ :: _ :: _ :: _ :: _ :: _ :: _ :: _ :: _ :: _ :: _ :: _ :: _ :: a :: _ => [a]
  | _ => []
noncomputable abbrev partI : List Stmt := by
  refine (fun (_ : pickI body30 = ?b) => ?b) ?h
  case h => conv => lhs; whnf
noncomputable def stepsDown (l : List Int) (sz : Int) : List Int := (List.range 5).map fun (i : Nat) => 0 - (l.getD i 0 - l.getD (i + 1) 0).fdiv sz
section
set_option maxHeartbeats 4000000
local macro_rules | `(tactic| walk_at "compareOp NotEq ref ref") => `(tactic| refine Stop.intro ?_)
local macro_rules | `(tactic| walk_at "subscriptTail Name Name ref int") => `(tactic| walk_at "mine ints")
local macro_rules | `(tactic| walk_at "subscriptTail Name BinOp ref int") => `(tactic| walk_at "mine ints")
theorem law_i (w : World) {lo : List Str} {mean : ExcName → Option Value} {mg mb : Str → Option Value} (fa : Addr) (cc : Value) (base g : Heap) (L : Addr) (m : Str → Option Value) (s : Shared) (Q : Flow → Shared → Prop)
    (B : Below callerA base [] g) (X : (K w.params).In g) (T : Top q lo mean mg mb g) (hD : DictAt w g) (F : Fr g L s.heap m) (o1 o2 o3 o4 o5 o6 o7 o8 : Obj)
    (ex : CbLed) (hE : Seqs ex) (aH aP aPl aC aT : Addr) (Ld : Str) (sz : Int) (tL tS : Tok) (vsPl vsC vsT : List Value) (kPl kC kT : Nat) (pls cols ts : List Int)
    (d1 : o1.data = Data.cell (some (.ref aH))) (d2 : o2.data = Data.cell (some (.ref aP))) (d3 : o3.data = Data.cell (some (.str Ld tL))) (d4 : o4.data = Data.cell (some (.int sz tS))) (d5 : o5.data = Data.cell (some (.ref aPl))) (d6 : o6.data = Data.cell (some (.ref aC))) (d7 : o7.data = Data.cell none) (d8 : o8.data = Data.cell none)
    (hsz : 0 < sz ∧ sz < 1000) (mPl : (aPl, listOf vsPl.toArray kPl) ∈ ex) (iPl : IntsAre vsPl pls) (hpn : pls.length = 6) (mC : (aC, listOf vsC.toArray kC) ∈ ex) (iC : IntsAre vsC cols) (hcn : cols.length = 6) (mT : (aT, listOf vsT.toArray kT) ∈ ex) (iT : IntsAre vsT ts) (mm : m (Str.ofString "turns") = some (.ref aT)) (heq : ts = stepsDown pls sz) (heq2 : ts = stepsDown cols sz)
    (N : News g L s.heap ((L + 1 + 1 + 1 + 1 + 1 + 1 + 1 + 1, o8) :: (L + 1 + 1 + 1 + 1 + 1 + 1 + 1, o7) :: (L + 1 + 1 + 1 + 1 + 1 + 1, o6) :: (L + 1 + 1 + 1 + 1 + 1, o5) :: (L + 1 + 1 + 1 + 1, o4) :: (L + 1 + 1 + 1, o3) :: (L + 1 + 1, o2) :: (L + 1, o1) :: ex))
    (hQ : ∀ (h' : Heap) (tk : Nat) (m' : Str → Option Value) (o1 o2 o3 o4 o5 o6 o7 o8 : Obj) (ex' : CbLed) (v7 : Option Value), Fr g L h' m' → o1.data = Data.cell (some (.ref aH)) → o2.data = Data.cell (some (.ref aP)) → o3.data = Data.cell (some (.str Ld tL)) → o4.data = Data.cell (some (.int sz tS)) → o5.data = Data.cell (some (.ref aPl)) → o6.data = Data.cell (some (.ref aC)) → o7.data = Data.cell v7 → o8.data = Data.cell none → Seqs ex' → News g L h' ((L + 1 + 1 + 1 + 1 + 1 + 1 + 1 + 1, o8) :: (L + 1 + 1 + 1 + 1 + 1 + 1 + 1, o7) :: (L + 1 + 1 + 1 + 1 + 1 + 1, o6) :: (L + 1 + 1 + 1 + 1 + 1, o5) :: (L + 1 + 1 + 1 + 1, o4) :: (L + 1 + 1 + 1, o3) :: (L + 1 + 1, o2) :: (L + 1, o1) :: ex') → ex' = ex → m' (Str.ofString "turns") = some (.ref aT) → Q .next { s with heap := h', toks := tk }) :
    wpAny (model PySem.Challenge.rw_tc0086_01.prog w) (callerA.deeper (envOfC (Str.ofString "law") scope30 L fa cc)) (execs partI (envOfC (Str.ofString "law") scope30 L fa cc)) Q (fun _ _ => False) s := by
  revert X
  k_fill
  intro X
  k_steps
  refine Stop.go (wpAny_execs_cons (For_turns (by assumption) ?_))
  k_steps
  rename_i D h1 F1 N1 l1
  have N2 := swap8 (new := [(D, _)]) N1
  clear N1
  obtain ⟨tup, htup, N3⟩ : ∃ tup : Obj, tup = ({ cls := .type "tuple", data := .seq #[.ref aC, .ref aPl] } : Obj) ∧ News g L h1 ((L + 1 + 1 + 1 + 1 + 1 + 1 + 1 + 1, o8) :: (L + 1 + 1 + 1 + 1 + 1 + 1 + 1, o7) :: (L + 1 + 1 + 1 + 1 + 1 + 1, o6) :: (L + 1 + 1 + 1 + 1 + 1, o5) :: (L + 1 + 1 + 1 + 1, o4) :: (L + 1 + 1 + 1, o3) :: (L + 1 + 1, o2) :: (L + 1, o1) :: ((D, tup) :: ex)) := ⟨_, rfl, N2⟩
  have hEx : Seqs ((D, tup) :: ex) := by rw [htup]; exact Seqs.cons rfl hE
  refine seq_inv (ax := D) (lo := tup) (T := "tuple") (vs := [.ref aC, .ref aPl]) (n := 0) (.inl rfl) rfl F1 N3 (by rw [htup]) (by rw [htup]) (fun i m led => m (Str.ofString "turns") = some (.ref aT) ∧ ∃ o v, led = (L + 1 + 1 + 1 + 1 + 1 + 1 + 1 + 1, o8) :: (L + 1 + 1 + 1 + 1 + 1 + 1 + 1, o) :: (L + 1 + 1 + 1 + 1 + 1 + 1, o6) :: (L + 1 + 1 + 1 + 1 + 1, o5) :: (L + 1 + 1 + 1 + 1, o4) :: (L + 1 + 1 + 1, o3) :: (L + 1 + 1, o2) :: (L + 1, o1) :: ((D, tup) :: ex) ∧ o.data = Data.cell v)
    (fun i m led hJ => by obtain ⟨_, o, v, rfl, _⟩ := hJ; exact sub8 (.head _)) ⟨mm, o7, none, rfl, d7⟩ ?_ ?_
  · intro i v m₁ led h₁ tk₁ I o hv z1 hoff hlt F₁ N₁; refine veil fun vG hG => ?_; obtain ⟨mm₁, o7', v7', rfl, d7'⟩ := z1; refine hG ?_; clear hG vG
    obtain ⟨ae, vse, ke, le, rfl, mE, iE, lenE, heqE⟩ : ∃ ae vse ke le, v = .ref ae ∧ (ae, listOf (List.toArray vse) ke) ∈ ex ∧ IntsAre vse le ∧ le.length = 6 ∧ ts = stepsDown le sz := by
      match i, hv with
      | 0, hv => exact ⟨aC, vsC, kC, cols, (Option.some.inj hv).symm, mC, iC, hcn, heq2⟩
      | 1, hv => exact ⟨aPl, vsPl, kPl, pls, (Option.some.inj hv).symm, mPl, iPl, hpn, heq⟩
      | i + 2, hv => cases hv
    have hI7 : I ≠ L + 1 + 1 + 1 + 1 + 1 + 1 + 1 := fun e => hoff (L + 1 + 1 + 1 + 1 + 1 + 1 + 1, o7') (by k_mem) e.symm
    have hO7 := hEx.off N₁ (fun p hp => .tail _ (sub8 hp)) (by k_mem) d7'
    have mE2 : (ae, listOf (List.toArray vse) ke) ∈ (D, tup) :: ex := .tail _ mE
    k_steps
    refine Stop.go (PyProof.Rows.LCg.ListComp_U (F₀ := by assumption) (by with_unfolding_all rfl) (by decide) (by rfl) (by decide) (by rfl) ?_)
    k_steps
    rename_i hr F5 N5 hk5
    refine Stop.go (range_U rfl F5 N5 hr (by decide) (n := 5) (by decide) (by decide) (Y := fun i v => ∃ t, v = .int (0 - (le.getD i 0 - le.getD (i + 1) 0).fdiv sz) t) ?_ ?_)
    · intro i2 tv v ys I2 oI C oC Dc m₂ h tk hi hv hC hx F N off ne
      subst hv
      k_steps
      refine' Stop.go (use_spec (isub_spec w _ _ _ _ _) ?B ?F ?x ?N ?T rfl ?hd ?hu ?hD ?_)
      case B => k_asm
      case F => k_asm
      case x => k_asm
      case N => k_asm
      case T => k_asm
      case hD => first | assumption | exact dict_up (by assumption) (by assumption)
      case hd => first | ktr_room | decide
      case hu => first | ktr_units | decide
      intro v1 new1 h1 tk1 hle1 F1 N1 P1
      obtain ⟨rfl, t1, rfl⟩ := P1
      k_steps
      refine' Stop.go (use_spec (ifloordiv_spec w _ _ _ _ _ hsz) ?B ?F ?x ?N ?T rfl ?hd ?hu ?hD ?_)
      case B => k_asm
      case F => k_asm
      case x => k_asm
      case N => k_asm
      case T => k_asm
      case hD => first | assumption | exact dict_up (by assumption) (by assumption)
      case hd => first | ktr_room | decide
      case hu => first | ktr_units | decide
      intro v2 new2 h2 tk2 hle2 F2 N2 P2
      obtain ⟨rfl, t2, rfl⟩ := P2
      k_steps
      refine' Stop.go (use_spec (isub_spec w _ _ _ _ _) ?B ?F ?x ?N ?T rfl ?hd ?hu ?hD ?_)
      case B => k_asm
      case F => k_asm
      case x => k_asm
      case N => k_asm
      case T => k_asm
      case hD => first | assumption | exact dict_up (by assumption) (by assumption)
      case hd => first | ktr_room | decide
      case hu => first | ktr_units | decide
      intro v3 new3 h3 tk3 hle3 F3 N3 P3
      obtain ⟨rfl, t3, rfl⟩ := P3
      have x1 : ((1 : Int) + (i2 : Int)).toNat = i2 + 1 := by omega
      have x2 : ((1 : Int) + (i2 : Int) - 1).toNat = i2 := by omega
      rw [x1, x2]
      k_steps
      exact ⟨⟨_, rfl⟩, _, _, rfl, by assumption, by assumption⟩
    · intro ys hys Dc h tk F N off
      have hI := ((Picked.all (ps := List.range 5) (R := fun v (i : Nat) => IntV v (0 - (le.getD i 0 - le.getD (i + 1) 0).fdiv sz)) (fun i p y e hy => by
        obtain ⟨t, rfl⟩ := hy
        rcases Nat.lt_or_ge i 5 with h | h
        · rw [List.getElem?_range h] at e; cases e; exact ⟨t, rfl⟩
        · rw [List.getElem?_eq_none (by simpa using h)] at e; cases e) hys)).map.ints
      have mT2 : (aT, listOf (List.toArray vsT) kT) ∈ (D, tup) :: ex := .tail _ mT
      k_steps
      refine Stop.go (ne_same N (by k_mem) iT (k' := ys.length) (List.mem_cons.mpr (.inl rfl)) hI heqE (by first | units_room | ktr_units | exact of_decide_eq_true rfl | exact Nat.le_of_ble_eq_true rfl) ?_)
      k_steps
      refine ⟨rfl, _, _, _, _, rfl, by assumption, (fun p hp => ‹News g L _ (_ :: _)› p (.tail _ hp)), ?_, by ((try dsimp only); repeat (first | assumption | exact if_pos rfl | refine (if_neg (by decide)).trans ?_)), _, _, rfl, by assumption⟩
      intro p hp
      simp only [List.mem_cons] at hp
      rcases hp with rfl | rfl | hp
      · exact hoff _ (by k_mem)
      · exact Ne.symm hI7
      · exact hoff p (by simp only [List.mem_cons]; exact .inr (.inr hp))
  · intro h₁ tk₁ m₁ led F₁ N₁ z1; refine veil fun vG hG => ?_; obtain ⟨mm₁, o7', v7', rfl, d7'⟩ := z1; refine hG ?_; clear hG vG
    k_steps
    exact hQ _ _ _ o1 o2 o3 o4 o5 o6 o7' o8 ex v7' (by assumption) d1 d2 d3 d4 d5 d6 d7' d8 hE (newsSub ‹News g L _ (_ :: _)› fun p hp => by first | k_mem | exact sub8x hp) rfl mm₁
end
end
section
open PySem.Calls PyProof.Rows.LCg
section
variable {M : Model} {A : Around} {E : Value → Shared → Prop} {s : Shared}
/-- the scope of a comprehension that has one cell of its own, x -/
structure OwnCell (scope : Scope) (x : Str) : Prop where
  cells : ∀ n cl, cellsFrom n scope.names cl = (x, n) :: cl
  push : ∀ h, pushCells h scope.names = h.push { cls := .type "cell", data := .cell none }
theorem newEnv_own {scope : Scope} {globals : Addr} {cl : List (Str × Addr)} {qual : Str} {env : Env} {x : Str} {Q : Env → Shared → Prop} (hO : OwnCell scope x)
    (hQ : Q (newEnv scope s.heap.objs.size globals ((x, s.heap.objs.size + 1) :: cl) qual none .none (some env) builtinsNs) { s with heap := (s.heap.push { cls := .type "dict", data := .dict #[] }).push { cls := .type "cell", data := .cell none } }) :
    wpAny M A (newFunctionEnv scope globals cl [] qual none .none (some env)) Q E s := by
  simp only [newFunctionEnv, Option.isSome_some, if_true]
  refine wpAny_bind (wpAny_alloc ?_)
  refine wpAny_bind (wpAny_layCells _ (fun name kind cells => by cases hkc : kind == NameKind.cell <;> simp [hkc]) _ _ _ _ ?_)
  rw [hO.cells, hO.push]
  rw [show ({ s with heap := s.heap.push { cls := .type "dict", data := .dict #[] } } : Shared).heap.objs.size = s.heap.objs.size + 1 from Heap.size_push ..]
  refine wpAny_bind ?_
  rw [List.forIn_nil]
  exact wpAny_pure (wpAny_pure hQ)
end
section
variable {prog : Program} {w : World} {A : Around} {E : Value → Shared → Prop} {s : Shared} {h₀ : Heap} {L : Addr} {m : Str → Option Value} {env : Env}
theorem offOne {D : Addr} : ∀ {l : CbLed}, (∀ p ∈ l, p.1 ≠ D) → Off1 D l
  | [], _ => trivial
  | _ :: _, h => ⟨h _ List.mem_cons_self, offOne fun p hp => h p (List.mem_cons_of_mem _ hp)⟩
noncomputable abbrev Apart5 (I C K D : Addr) : Prop := (@Ne Nat I C) ∧ (@Ne Nat I K) ∧ (@Ne Nat I D) ∧ (@Ne Nat C K) ∧ (@Ne Nat C D) ∧ (@Ne Nat K D)
/-- one turn's element, where the target is a cell of the comprehension's own -/
noncomputable abbrev CellStep (prog : Program) (w : World) (A : Around) (h₀ : Heap) (L : Addr) (m : Str → Option Value) (env : Env) (elt : Expr) (x : Str) (scope : Scope) (cl : List (Str × Addr)) (s : Shared) (n : Nat) (P : Nat → Value → Prop) (Y : Nat → Value → Prop) (led : CbLed) : Prop :=
  ∀ i v ys I oI C oC K oK D h tk, i < n → P i v → oK.data = .cell (some v) → Fr h₀ L h m → News h₀ L h ((I, oI) :: (C, oC) :: (K, oK) :: (D, lst ys) :: led) → Apart5 I C K D → (∀ p ∈ led, p.1 ≠ I ∧ p.1 ≠ C ∧ p.1 ≠ K ∧ p.1 ≠ D) →
    wpAny (model prog w) A (eval elt (compEnvC scope ((x, K) :: cl) C env)) (EltOut h₀ L m ((I, oI) :: (C, oC) :: (K, oK) :: (D, lst ys) :: led) { s with heap := h, toks := tk } (Y i)) (fun _ _ => False) { s with heap := h, toks := tk }
inductive CellIn (h₀ : Heap) (L : Addr) (m : Str → Option Value) (s₂ : Shared) (St : Nat → Heap → Prop) (Y : Nat → Value → Prop) (C K D : Addr) (oC : Obj) (n : Nat) (led : CbLed) (k : Nat) (s' : Shared) : Prop
  | mk (h' : Heap) (tk i : Nat) (ys : List Value) (oK : Obj) (v) (p1 : s' = { s₂ with heap := h', toks := tk }) (p2 : i ≤ n) (p3 : k = n + 1 - i) (p4 : ys.length = i) (p5 : Picked (fun _ => true) Y i ys) (p6 : St i h') (p7 : Fr h₀ L h' m) (p8 : oK.data = .cell v) (p9 : News h₀ L h' ((C, oC) :: (K, oK) :: (D, lst ys) :: led)) : CellIn h₀ L m s₂ St Y C K D oC n led k s'
theorem block_C {elt iter : Expr} {x : Str} {px : Pos} {scope : Scope} {cl : List (Str × Addr)} {pos : Pos} {s₂ : Shared} {I : Addr} {fp : List Addr} {n : Nat} {P : Nat → Value → Prop} {St : Nat → Heap → Prop} {led : CbLed} {Y : Nat → Value → Prop} {RR : Value → Addr → Result → Shared → Prop}
    (W : Walks prog w A I fp [I] n P St) (hsz : n ≤ sizeLine) (hIo : ∀ i h, St i h → ∃ o, h.get? I = some o)
    (hSt : ∀ i h h' o, St i h → h.get? I = some o → h'.get? I = some o → St i h')
    (hO : OwnCell scope x) (hkind : scope.kind = .function) (hx : ∀ cl C, (compEnvC scope cl C env).kindOf x = some .cell) (hst : St 0 s₂.heap) (hfp : ∀ b ∈ fp, b < s₂.heap.objs.size)
    (F : Fr h₀ L s₂.heap m) (N : News h₀ L s₂.heap led) (hIL : L ≠ I) (hI₀ : h₀.get? I = none) (off : ∀ p ∈ led, p.1 ≠ I)
    (step : CellStep prog w A h₀ L m env elt x scope cl s₂ n P Y led)
    (hRR : ∀ ys, Picked (fun _ => true) Y n ys → ∀ D C h tk m', Fr h₀ L h m → News h₀ L h ((D, lst ys) :: led) → Off1 D led → h.Ns C m' → h₀.get? C = none → C ≠ L → C ≠ D → (∀ p ∈ led, p.1 ≠ C) → RR (.ref D) C (.ok .next) { s₂ with heap := h, toks := tk }) :
    wpAny (model prog w) A (newList []) (fun acc s₃ => wpAny (model prog w) A (newFunctionEnv scope env.globals cl [] env.qual none .none (some env)) (fun cenv s₄ =>
      codeAny (model prog w) A (.compStart (.ListComp elt [⟨.Name x px, iter, [], 0⟩] scope pos) 0 (.ref I) acc { cenv with scope := relabel scope env }) (RR acc cenv.locals) s₄) E s₃) E s₂ := by
  refine wpAny_newObj_type (newEnv_own hO ?_)
  dsimp only
  have hIlt : I < s₂.heap.objs.size := hfp I (W.sub I (List.mem_singleton.mpr rfl))
  have hLlt : L < s₂.heap.objs.size := F.ns.lt
  generalize hH1 : s₂.heap.push { cls := .type "list", dict := none, data := .seq ([] : List Value).toArray } = H1
  have hC : H1.objs.size = s₂.heap.objs.size + 1 := by rw [← hH1, Heap.size_push]
  generalize hH2 : H1.push { cls := .type "dict", data := .dict #[] } = H2
  have hK : H2.objs.size = s₂.heap.objs.size + 2 := by rw [← hH2, Heap.size_push, hC]
  generalize hH3 : H2.push { cls := .type "cell", data := .cell none } = H3
  have old : ∀ b o, s₂.heap.get? b = some o → H3.get? b = some o := fun b o e => by
    rw [← hH3, ← hH2, ← hH1]
    exact Heap.get?_push_of_some _ (Heap.get?_push_of_some _ (Heap.get?_push_of_some _ e))
  have hacc : H3.get? s₂.heap.objs.size = some (lst []) := by
    rw [← hH3, ← hH2, ← hH1]
    exact Heap.get?_push_of_some _ (Heap.get?_push_of_some _ (Heap.get?_push_size _ rfl))
  have hns : H3.Ns H1.objs.size (fun _ => none) := by
    rw [← hH3, ← hH2]
    exact (Heap.Ns.new H1 (.type "dict")).keeps fun b o e => Heap.get?_push_of_some _ e
  have hcell : H3.get? (H1.objs.size + 1) = some { cls := .type "cell", data := .cell none } := by
    have : H1.objs.size + 1 = H2.objs.size := by rw [hK, hC]
    rw [this, ← hH3]
    exact Heap.get?_push_size _ rfl
  obtain ⟨oC, heC, hoC⟩ := ns_obj hns
  obtain ⟨C, hCa⟩ : ∃ C : Nat, H1.objs.size = C := ⟨_, rfl⟩
  obtain ⟨K, hKa⟩ : ∃ K : Nat, C + 1 = K := ⟨_, rfl⟩
  obtain ⟨D, hDa⟩ : ∃ D : Nat, s₂.heap.objs.size = D := ⟨_, rfl⟩
  rw [hCa] at hC hns hcell heC ⊢
  rw [hKa] at hcell ⊢
  rw [hDa] at hC hK hacc hIlt hLlt ⊢
  have hfp' : ∀ b ∈ fp, @LT.lt Nat _ b D := fun b hb => by rw [← hDa]; exact hfp b hb
  have hIlt' : @LT.lt Nat _ I D := hIlt
  have hLlt' : @LT.lt Nat _ L D := hLlt
  have hC' : @Eq Nat C (D + 1) := hC
  have fresh₀ : ∀ a, D ≤ a → h₀.get? a = none := fun a ha => by
    cases e : h₀.get? a with
    | none => rfl
    | some o' => have := Heap.lt_size (F.keep a o' e); rw [hDa] at this; exact absurd this (Nat.not_lt.mpr ha)
  have hne : Apart5 I C K D := by refine ⟨?_, ?_, ?_, ?_, ?_, ?_⟩ <;> (intro e; omega)
  have hDL : D ≠ L := Nat.ne_of_gt hLlt
  have hCL : C ≠ L := by intro e; have e' : @Eq Nat C L := e; omega
  have hKL : K ≠ L := by intro e; have e' : @Eq Nat K L := e; omega
  have offs : ∀ p ∈ led, p.1 ≠ I ∧ p.1 ≠ C ∧ p.1 ≠ K ∧ p.1 ≠ D := fun p hp => by
    have h1 : @LT.lt Nat _ p.1 D := by rw [← hDa]; exact Heap.lt_size (N p hp).1
    refine ⟨off p hp, ?_, ?_, ?_⟩ <;> (intro e; have e' : @Eq Nat p.1 _ := e; omega)
  have hCn : h₀.get? C = none := fresh₀ _ (by omega)
  have hKn : h₀.get? K = none := fresh₀ _ (by omega)
  have hDn : h₀.get? D = none := fresh₀ _ (Nat.le_refl _)
  have hCf : C ∉ fp := fun hm => by have := hfp' _ hm; omega
  have hKf : K ∉ fp := fun hm => by have := hfp' _ hm; omega
  have hDf : D ∉ fp := fun hm => by have := hfp' _ hm; omega
  have hst₁ : St 0 H3 := W.frame _ _ _ hst fun b _ o e => old b o e
  have loop : codeAny (model prog w) A (.compLoop (.ListComp elt [⟨.Name x px, iter, [], 0⟩] scope pos) 0 (.ref I) (.ref D) (compEnvC scope ((x, K) :: cl) C env)) (RR (.ref D) C) { s₂ with heap := H3 } := by
    refine codeAny_compLoop_list
      (CellIn h₀ L m s₂ St Y C K D oC n led) ?_ (n + 1)
      ⟨H3, _, 0, [], { cls := .type "cell", data := .cell none }, none, rfl, Nat.zero_le _, rfl, rfl, .zero, hst₁, F.keeps old, rfl, ?_⟩
    · intro k s' z1; refine veil fun vG hG => ?_; obtain ⟨h', tk, i, ys, oK, v0, rfl, hi, rfl, hyl, hp, hst', F', hoK, N'⟩ := z1; refine hG ?_; clear hG vG
      by_cases hlt : i < n
      · refine W.item i _ _ _ hlt hst' fun v h₂ tk₂ hPv hst₂ hk₂ => ?_
        have N₂ : News h₀ L h₂ ((C, oC) :: (K, oK) :: (D, lst ys) :: led) := news_but N' hk₂ fun p hp => by
          simp only [List.mem_cons] at hp
          rcases hp with rfl | rfl | rfl | hp
          · exact Ne.symm hne.1
          · exact Ne.symm hne.2.1
          · exact Ne.symm hne.2.2.1
          · exact (offs p hp).1
        have F₂ := fr_but F' hk₂ hIL hI₀
        refine wpAny_assign_Name (wpAny_storeName_cell (by simp [compEnvC, relabel, hkind]) (hx _ _) (c := K) (by show List.lookup x ((x, K) :: cl) = _; simp) ⟨oK, (N₂ (K, oK) (.tail _ (.head _))).1, hoK⟩ fun h₃ hc₃ hs₃ => ?_)
        obtain ⟨oK', heK, hoK'⟩ := hc₃
        have hst₃ : St (i + 1) h₃ := W.frame _ _ _ hst₂ fun b hb o e => hs₃.extBut b o (fun q => hKf (by rw [← q]; exact hb)) e
        obtain ⟨oI, heI⟩ := hIo _ _ hst₃
        have F₃ : Fr h₀ L h₃ m := F₂.change hs₃ hKL hKn
        have N₃ : News h₀ L h₃ ((I, oI) :: (C, oC) :: (K, oK') :: (D, lst ys) :: led) := fun p hp => by
          simp only [List.mem_cons] at hp
          rcases hp with rfl | rfl | rfl | rfl | hp
          · exact ⟨heI, Ne.symm hIL, hI₀⟩
          · exact ⟨hs₃.extBut _ _ hne.2.2.2.1 (N₂ (C, oC) (.head _)).1, hCL, hCn⟩
          · exact ⟨heK, hKL, hKn⟩
          · exact ⟨hs₃.extBut _ _ (Ne.symm hne.2.2.2.2.2) (N₂ (D, lst ys) (.tail _ (.tail _ (.head _)))).1, hDL, hDn⟩
          · have z := N₂ p (.tail _ (.tail _ (.tail _ (hp))))
            exact ⟨hs₃.extBut _ _ (offs p hp).2.2.1 z.1, z.2⟩
        refine wpAny_mono (step i v ys I oI C oC K oK' D h₃ _ hlt hPv hoK' F₃ N₃ hne offs) (fun y s₅ h₅ => ?_) fun _ _ e => e.elim
        refine veil fun vG hG => ?_; obtain ⟨hY, h₄, tk₄, rfl, F₄, N₄⟩ := h₅; refine hG ?_; clear hG vG
        have zI := (N₄ (I, oI) (.head _)).1
        have zD := (N₄ (D, lst ys) (.tail _ (.tail _ (.tail _ (.head _))))).1
        have hst₄ : St (i + 1) h₄ := hSt _ _ _ _ hst₃ heI zI
        refine append_at (hsz := by show ys.toArray.size ≤ sizeLine; rw [List.size_toArray, hyl]; exact Nat.le_trans hi hsz) zD fun h₅ hs₅ hD₅ => ?_
        refine ⟨n + 1 - (i + 1), by omega, h₅, tk₄, i + 1, ys ++ [y], oK', _, rfl, hlt, rfl, by rw [List.length_append, List.length_singleton, hyl], .take hp rfl hY, W.frame _ _ _ hst₄ fun b hb o e => hs₅.extBut b o (fun q => hDf (q ▸ hb)) e, F₄.change hs₅ hDL hDn, hoK', fun p hp => ?_⟩
        simp only [List.mem_cons] at hp
        rcases hp with rfl | rfl | rfl | hp
        · have z := N₄ (C, oC) (.tail _ (.head _))
          exact ⟨hs₅.extBut _ _ hne.2.2.2.2.1 z.1, z.2⟩
        · have z := N₄ (K, oK') (.tail _ (.tail _ (.head _)))
          exact ⟨hs₅.extBut _ _ hne.2.2.2.2.2 z.1, z.2⟩
        · exact ⟨hD₅.trans (congrArg some (lst_snoc ys y)), hDL, hDn⟩
        · have z := N₄ p (.tail _ (.tail _ (.tail _ (.tail _ (hp)))))
          exact ⟨hs₅.extBut _ _ (offs p hp).2.2.2 z.1, z.2⟩
      · obtain rfl : i = n := Nat.le_antisymm hi (Nat.not_lt.mp hlt)
        refine W.done _ _ _ hst' fun h₂ tk₂ hk₂ => ?_
        have N₂ : News h₀ L h₂ ((C, oC) :: (K, oK) :: (D, lst ys) :: led) := news_but N' hk₂ fun p hp => by
          simp only [List.mem_cons] at hp
          rcases hp with rfl | rfl | rfl | hp
          · exact Ne.symm hne.1
          · exact Ne.symm hne.2.1
          · exact Ne.symm hne.2.2.1
          · exact (offs p hp).1
        refine hRR ys hp D C h₂ tk₂ _ (fr_but F' hk₂ hIL hI₀) (fun p hp => N₂ p (.tail _ (.tail _ hp))) (offOne fun p hp => (offs p hp).2.2.2) (hoC.ns (N₂ (C, oC) (.head _)).1) hCn hCL hne.2.2.2.2.1 (fun p hp => (offs p hp).2.1)
    · intro p hp
      simp only [List.mem_cons] at hp
      rcases hp with rfl | rfl | rfl | hp
      · exact ⟨heC, hCL, hCn⟩
      · exact ⟨hcell, hKL, hKn⟩
      · exact ⟨hacc, hDL, hDn⟩
      · exact ⟨old _ _ (N p hp).1, (N p hp).2⟩
  exact codeAny_compStart_list loop (W.self 0 _ _ _ hst₁ loop)
/-- the source of such a comprehension: a range -/
inductive CellSrc (prog : Program) (w : World) (A : Around) (h₀ : Heap) (L : Addr) (m : Str → Option Value) (env : Env) (elt : Expr) (x : Str) (scope : Scope) (cl : List (Str × Addr)) (Q : Value → Shared → Prop) (xv : Value) (s₁ : Shared) : Prop
  | mk (r) (a) (b) (t) (u) (v) (n) (led) (Y)
    (p1 : xv = .ref r)
    (p2 : A.handled = none)
    (p3 : Fr h₀ L s₁.heap m)
    (p4 : News h₀ L s₁.heap led)
    (p5 : IsRange s₁.heap r a b 1 t u v)
    (p6 : Builtin.Range.small a b 1 = true)
    (p7 : Builtin.Range.rangeSize a b 1 = ((n : Nat) : Int))
    (p8 : n ≤ sizeLine)
    (p9 : (∀ s₂ : Shared, (∃ h, s₂ = { s₁ with heap := h }) → CellStep prog w A h₀ L m env elt x scope cl s₂ n (fun i v => ∃ t, v = .int (a + (i : Int)) t) Y led))
    (p10 : (∀ ys, Picked (fun _ => true) Y n ys → ∀ D h tk, Fr h₀ L h m → News h₀ L h ((D, lst ys) :: led) → Off1 D led → Q (.ref D) { s₁ with heap := h, toks := tk })) : CellSrc prog w A h₀ L m env elt x scope cl Q xv s₁
theorem cell_range {elt : Expr} {x : Str} {scope : Scope} {cl : List (Str × Addr)} {Q : Value → Shared → Prop} {led : CbLed} {r : Addr} {lo hi : Int} {t u v : Tok} {n : Nat} {Y : Nat → Value → Prop}
    (hh : A.handled = none) (F : Fr h₀ L s.heap m) (N : News h₀ L s.heap led) (hr : IsRange s.heap r lo hi 1 t u v) (hsm : Builtin.Range.small lo hi 1 = true) (hn : Builtin.Range.rangeSize lo hi 1 = ((n : Nat) : Int)) (hsz : n ≤ sizeLine)
    (step : ∀ i t v ys I oI C oC K oK D h tk, i < n → v = .int (lo + (i : Int)) t → oK.data = .cell (some v) → Fr h₀ L h m → News h₀ L h ((I, oI) :: (C, oC) :: (K, oK) :: (D, lst ys) :: led) → Apart5 I C K D → (∀ p ∈ led, p.1 ≠ I ∧ p.1 ≠ C ∧ p.1 ≠ K ∧ p.1 ≠ D) →
      wpAny (model prog w) A (eval elt (compEnvC scope ((x, K) :: cl) C env)) (EltOut h₀ L m ((I, oI) :: (C, oC) :: (K, oK) :: (D, lst ys) :: led) { s with heap := h, toks := tk } (Y i)) (fun _ _ => False) { s with heap := h, toks := tk })
    (fin : ∀ ys, Picked (fun _ => true) Y n ys → ∀ D h tk, Fr h₀ L h m → News h₀ L h ((D, lst ys) :: led) → Off1 D led → Q (.ref D) { s with heap := h, toks := tk }) :
    CellSrc prog w A h₀ L m env elt x scope cl Q (.ref r) s :=
  ⟨r, lo, hi, t, u, v, n, led, Y, rfl, hh, F, N, hr, hsm, hn, hsz, fun s₂ ⟨g, e⟩ => by
    subst e
    exact fun i v ys I oI C oC K oK D h tk hi ⟨t, e⟩ hK F N ne off => step i t v ys I oI C oC K oK D h tk hi e hK F N ne off, fin⟩
theorem ListComp_C {elt iter : Expr} {x : Str} {px : Pos} {scope : Scope} {cl : List (Str × Addr)} {pos : Pos} {Q : Value → Shared → Prop} (F₀ : Fr h₀ L s.heap m)
    (hclos : closureFor scope env = pure cl) (hO : OwnCell scope x) (hkind : scope.kind = .function)
    (hnames : ∀ y ∈ scope.names, y.2 = .local → scope.names.lookup y.1 = some .local) (hx : ∀ cl C, (compEnvC scope cl C env).kindOf x = some .cell)
    (h : wpAny (model prog w) A (eval iter env) (CellSrc prog w A h₀ L m env elt x scope cl Q) E s)
    (hs : ∀ x, foldedSetIterable iter env x = pure x := by intro _; rfl) :
    wpAny (model prog w) A (eval (.ListComp elt [⟨.Name x px, iter, [], 0⟩] scope pos) env) Q E s := by
  rw [eval_ListComp]
  refine wpAny_comprehension_free (use := none) rfl hs hclos hkind hnames (wpAny_mono h (fun xv s₁ h₁ => ?_) fun _ _ e => e)
  refine veil fun vG hG => ?_; obtain ⟨r, a, b, t, u, v, n, led, Y, rfl, hh, F, N, hr, hsm, hn, hsz, R, fin⟩ := h₁; refine hG ?_; clear hG vG
  refine wpAny_pyIter_range hr hsm ?_
  refine block_C (range_walks hh a n) hsz (fun i h st => ⟨_, st⟩) (fun i h h' o st e e' => by
    have st' : h.get? s₁.heap.objs.size = some _ := st
    show h'.get? s₁.heap.objs.size = some _
    rw [e', ← e]; exact st') hO hkind hx (by show IsRangeIter _ _ _ _ _; rw [hn]; simpa using Heap.get?_push_size _ rfl) (fun b hb => ?_)
    (F.keeps fun _ _ e => Heap.get?_push_of_some _ e) (N.grown fun _ _ e => Heap.get?_push_of_some _ e) (Nat.ne_of_lt F.ns.lt) (next_is_new F) (fun p hp => Nat.ne_of_lt (Heap.lt_size (N p hp).1)) (R _ ⟨_, rfl⟩) ?_
  · rw [List.mem_singleton.mp hb]
    show s₁.heap.objs.size < (s₁.heap.push _).objs.size
    rw [Heap.size_push]; exact Nat.lt_succ_self _
  · intro ys hp D C h tk m' F' N' o1 hn hC₀ hCL hCD offC
    refine ⟨m', hn, fun h'' hs'' => fin ys hp D h'' tk (F'.change hs'' hCL hC₀) (fun p hp => ?_) o1⟩
    refine ⟨hs''.extBut _ _ ?_ (N' p hp).1, (N' p hp).2⟩
    rcases List.mem_cons.mp hp with rfl | hp
    · exact Ne.symm hCD
    · exact offC p hp
end
end
section
noncomputable def pickQ : List Stmt → List Stmt
  | _ :: _ :: _ :: _ :: _ :: _ :: _ :: _ :: _ :: _ :: _ :: _ :: _ :: _ :: _ :: _ :: a :: _ => [a]
  | _ => []
noncomputable abbrev partQ : List Stmt := by
  refine (fun (_ : pickQ body30 = ?b) => ?b) ?h
  case h => conv => lhs; whnf
noncomputable def touches (ps : List (Int × Int × Int)) (k : Int) : Int := ((ps.filter fun p => decide (k = p.1) || decide (k = p.2.2)).length : Nat)
noncomputable def countF (ps : List (Int × Int × Int)) : List Int := (List.range 5).map fun (i : Nat) => 1 + touches ps (1 + (i : Int))
section
set_option maxHeartbeats 4000000
local macro_rules | `(tactic| walk_at "compareOp NotEq ref ref") => `(tactic| refine Stop.intro ?_)
local macro_rules | `(tactic| walk_at "compareOp In int ref") => `(tactic| refine Stop.intro ?_)
local macro_rules | `(tactic| walk_at "CellSrc") => `(tactic| refine Stop.intro ?_)
local macro_rules | `(tactic| walk_at "subscriptTail Name Constant ref int") => `(tactic| walk_at "mine tup")
theorem law_q (w : World) {lo : List Str} {mean : ExcName → Option Value} {mg mb : Str → Option Value} (fa : Addr) (cc : Value) (base g : Heap) (L : Addr) (m : Str → Option Value) (s : Shared) (Q : Flow → Shared → Prop)
    (B : Below callerA base [] g) (X : (K w.params).In g) (T : Top q lo mean mg mb g) (hD : DictAt w g) (F : Fr g L s.heap m) (o1 o2 o3 o4 o5 o6 o7 o8 : Obj)
    (ex : CbLed) (hE : Seqs ex) (c1 c3 c4 c5 c6 c7 c8 : Option Value) (aP aT : Addr) (vsP vsT : List Value) (kP kT : Nat) (ps : List (Int × Int × Int)) (ts : List Int)
    (d1 : o1.data = Data.cell c1) (d2 : o2.data = Data.cell (some (.ref aP))) (d3 : o3.data = Data.cell c3) (d4 : o4.data = Data.cell c4) (d5 : o5.data = Data.cell c5) (d6 : o6.data = Data.cell c6) (d7 : o7.data = Data.cell c7) (d8 : o8.data = Data.cell c8)
    (mm : m (Str.ofString "turns") = some (.ref aT)) (mP : (aP, listOf vsP.toArray kP) ∈ ex) (iP : All2 (PTup ex) vsP ps) (hpl : ps.length ≤ 10) (mT : (aT, listOf vsT.toArray kT) ∈ ex) (iT : IntsAre vsT ts) (heq : ts = countF ps)
    (N : News g L s.heap ((L + 1 + 1 + 1 + 1 + 1 + 1 + 1 + 1, o8) :: (L + 1 + 1 + 1 + 1 + 1 + 1 + 1, o7) :: (L + 1 + 1 + 1 + 1 + 1 + 1, o6) :: (L + 1 + 1 + 1 + 1 + 1, o5) :: (L + 1 + 1 + 1 + 1, o4) :: (L + 1 + 1 + 1, o3) :: (L + 1 + 1, o2) :: (L + 1, o1) :: ex))
    (hQ : ∀ (h' : Heap) (tk : Nat) (m' : Str → Option Value) (o1 o2 o3 o4 o5 o6 o7 o8 : Obj) (ex' : CbLed) , Fr g L h' m' → o1.data = Data.cell c1 → o2.data = Data.cell (some (.ref aP)) → o3.data = Data.cell c3 → o4.data = Data.cell c4 → o5.data = Data.cell c5 → o6.data = Data.cell c6 → o7.data = Data.cell c7 → o8.data = Data.cell c8 → Seqs ex' → News g L h' ((L + 1 + 1 + 1 + 1 + 1 + 1 + 1 + 1, o8) :: (L + 1 + 1 + 1 + 1 + 1 + 1 + 1, o7) :: (L + 1 + 1 + 1 + 1 + 1 + 1, o6) :: (L + 1 + 1 + 1 + 1 + 1, o5) :: (L + 1 + 1 + 1 + 1, o4) :: (L + 1 + 1 + 1, o3) :: (L + 1 + 1, o2) :: (L + 1, o1) :: ex') → ex' = ex → m' = m → Q .next { s with heap := h', toks := tk }) :
    wpAny (model PySem.Challenge.rw_tc0086_01.prog w) (callerA.deeper (envOfC (Str.ofString "law") scope30 L fa cc)) (execs partQ (envOfC (Str.ofString "law") scope30 L fa cc)) Q (fun _ _ => False) s := by
  revert X
  k_fill
  intro X
  k_steps
  refine Stop.go (ListComp_C (F₀ := by assumption) (by with_unfolding_all rfl) ⟨fun _ _ => rfl, fun _ => rfl⟩ (by rfl) (by decide) (fun _ _ => by rfl) ?_)
  k_steps
  rename_i hr F5 N5 hk5
  refine Stop.go (cell_range rfl F5 N5 hr (by decide) (n := 5) (by decide) (by decide) (Y := fun i v => ∃ t, v = .int (1 + touches ps (1 + (i : Int))) t) ?_ ?_)
  · intro i tv v ys I oI C oC K oK D h tk hi hv dK F N ne off
    subst hv
    k_steps
    refine Stop.go (PyProof.Rows.LCt.ListComp_T (F₀ := by assumption) (by with_unfolding_all rfl) (by decide) (by rfl) (by decide) (by rfl) ?_)
    k_steps
    refine Stop.go (src_T rfl (by assumption) (by assumption) (.tail _ (.tail _ (.tail _ (.tail _ (sub8 mP))))) ?_ (b := fun j => decide (1 + (i : Int) = (ps.getD j (0, 0, 0)).1) || decide (1 + (i : Int) = (ps.getD j (0, 0, 0)).2.2)) (Y := fun j y => vsP[j]? = some y) ?_ ?_)
    · rw [iP.len]; exact Nat.le_trans hpl (by decide)
    · intro j v ys I2 oI C oC D m₂ h tk hv hC hx F N off ne
      refine veil fun vG hG => ?_; obtain ⟨p, hp, ar, u1, u2, u3, rfl, har⟩ := iP.at hv; refine hG ?_; clear hG vG
      k_steps
      refine' Stop.go (in_tuple_ints ?t (ns := [_, _]) ?i ?_)
      case t => exact News.isTup (by assumption) (by k_mem)
      case i => exact .cons _ _ (.cons _ _ .nil)
      k_steps
      refine TestOut.intro ?_ (by assumption) (newsSub ‹News g L _ (_ :: _)› fun p hp => .tail _ hp) fun hok => ?_
      · rw [List.getD_eq_getElem?_getD, hp]
        simp only [List.any_cons, List.any_nil, Bool.or_false, Option.getD_some]
        congr 1 <;> (rw [Bool.eq_iff_iff]; simp only [beq_iff_eq, decide_eq_true_eq]; exact ⟨Eq.symm, Eq.symm⟩)
      · k_steps
        exact ⟨hv, _, _, rfl, by assumption, newsSub ‹News g L _ (_ :: _)› fun p hp => .tail _ hp⟩
    · intro ys hys D h tk F N off
      have h2 := hys.filter (ps := ps) (pr := fun p => decide (1 + (i : Int) = p.1) || decide (1 + (i : Int) = p.2.2)) (R := fun _ _ => True) (fun j p e => by rw [List.getD_eq_getElem?_getD, e]; rfl) (fun _ _ _ _ _ => trivial) (Nat.le_of_eq iP.len)
      have h3 : ys.length ≤ 10 := by rw [h2.len]; exact Nat.le_trans (List.length_filter_le _ _) (by rw [List.length_take]; omega)
      have hfit : ((ys.toArray).size : Int) < 2 ^ 63 := by rw [List.size_toArray]; omega
      have h4 : ys.toArray.size ≤ 10 := by rw [List.size_toArray]; exact h3
      have h5 : touches ps (1 + (i : Int)) = ys.toArray.size := by
        unfold touches
        rw [List.size_toArray, h2.len, iP.len, List.take_length]
      rw [h5]
      k_steps
      exact ⟨⟨_, rfl⟩, _, _, rfl, by assumption, newsSub ‹News g L _ (_ :: _)› fun p hp => .tail _ hp⟩
  · intro ys hys D h tk F N off
    have hI := ((Picked.all (ps := List.range 5) (R := fun v (i : Nat) => IntV v (1 + touches ps (1 + (i : Int)))) (fun i p y e hy => by
      obtain ⟨t, rfl⟩ := hy
      rcases Nat.lt_or_ge i 5 with h | h
      · rw [List.getElem?_range h] at e; cases e; exact ⟨t, rfl⟩
      · rw [List.getElem?_eq_none (by simpa using h)] at e; cases e) hys)).map.ints
    k_steps
    refine Stop.go (ne_same N (.tail _ (sub8 mT)) iT (k' := ys.length) (List.mem_cons.mpr (.inl rfl)) hI heq (by first | units_room | ktr_units | exact of_decide_eq_true rfl | exact Nat.le_of_ble_eq_true rfl) ?_)
    k_steps
    exact hQ _ _ _ o1 o2 o3 o4 o5 o6 o7 o8 ex (by assumption) d1 d2 d3 d4 d5 d6 d7 d8 hE (fun p hp => ‹News g L _ (_ :: _)› p (.tail _ hp)) rfl rfl
end
end
section
noncomputable def pickK : List Stmt → List Stmt
  | _ :: _ :: _ :: _ :: _ :: _ :: _ :: _ :: _ :: _ :: _ :: _ :: _ :: _ :: _ :: _ :: _ :: _ :: _ :: a :: b :: _ => [a, b]
  | _ => []
noncomputable abbrev partK : List Stmt := by
  refine (fun (_ : pickK body30 = ?b) => ?b) ?h
  case h => conv => lhs; whnf
section
set_option maxHeartbeats 4000000
local macro_rules | `(tactic| walk_at "binaryOp Add str str") => `(tactic| refine Stop.intro ?_)
theorem law_k (w : World) {lo : List Str} {mean : ExcName → Option Value} {mg mb : Str → Option Value} (fa : Addr) (cc : Value) (base g : Heap) (L : Addr) (m : Str → Option Value) (s : Shared) (Q : Flow → Shared → Prop)
    (B : Below callerA base [] g) (X : (K w.params).In g) (T : Top q lo mean mg mb g) (hD : DictAt w g) (F : Fr g L s.heap m) (o1 o2 o3 o4 o5 o6 o7 o8 : Obj)
    (ex : CbLed) (hE : Seqs ex) (aH aP aPl aC aT : Addr) (Ld : Str) (sz : Int) (tL tS : Tok) (v7 : Option Value) (vsPl : List Value) (kPl : Nat) (pls : List Int)
    (d1 : o1.data = Data.cell (some (.ref aH))) (d2 : o2.data = Data.cell (some (.ref aP))) (d3 : o3.data = Data.cell (some (.str Ld tL))) (d4 : o4.data = Data.cell (some (.int sz tS))) (d5 : o5.data = Data.cell (some (.ref aPl))) (d6 : o6.data = Data.cell (some (.ref aC))) (d7 : o7.data = Data.cell v7) (d8 : o8.data = Data.cell none)
    (hLd : Ld.length ≤ 900) (mPl : (aPl, listOf vsPl.toArray kPl) ∈ ex) (iPl : IntsAre vsPl pls) (hpn : pls.length = 6) (mm : m (Str.ofString "turns") = some (.ref aT))
    (N : News g L s.heap ((L + 1 + 1 + 1 + 1 + 1 + 1 + 1 + 1, o8) :: (L + 1 + 1 + 1 + 1 + 1 + 1 + 1, o7) :: (L + 1 + 1 + 1 + 1 + 1 + 1, o6) :: (L + 1 + 1 + 1 + 1 + 1, o5) :: (L + 1 + 1 + 1 + 1, o4) :: (L + 1 + 1 + 1, o3) :: (L + 1 + 1, o2) :: (L + 1, o1) :: ex))
    (hQ : ∀ (h' : Heap) (tk : Nat) (m' : Str → Option Value) (o1 o2 o3 o4 o5 o6 o7 o8 : Obj) (ex' : CbLed) (xa xb : Addr), Fr g L h' m' → o1.data = Data.cell (some (.ref aH)) → o2.data = Data.cell (some (.ref aP)) → o3.data = Data.cell (some (.str Ld tL)) → o4.data = Data.cell (some (.int sz tS)) → o5.data = Data.cell (some (.ref aPl)) → o6.data = Data.cell (some (.ref aC)) → o7.data = Data.cell v7 → o8.data = Data.cell none → Seqs ex' → News g L h' ((L + 1 + 1 + 1 + 1 + 1 + 1 + 1 + 1, o8) :: (L + 1 + 1 + 1 + 1 + 1 + 1 + 1, o7) :: (L + 1 + 1 + 1 + 1 + 1 + 1, o6) :: (L + 1 + 1 + 1 + 1 + 1, o5) :: (L + 1 + 1 + 1 + 1, o4) :: (L + 1 + 1 + 1, o3) :: (L + 1 + 1, o2) :: (L + 1, o1) :: ex') → (∀ p ∈ ex, p ∈ ex') → IsWs w.params (Txt.slice Ld none (some (pls.getD 0 0))) (.ref xa) ex' → IsWs w.params (Ld ++ Str.ofString "k\t ") (.ref xb) ex' → m' (Str.ofString "turns") = some (.ref aT) → m' (Str.ofString "ahead") = some (.ref xa) → m' (Str.ofString "whole") = some (.ref xb) → Q .next { s with heap := h', toks := tk }) :
    wpAny (model PySem.Challenge.rw_tc0086_01.prog w) (callerA.deeper (envOfC (Str.ofString "law") scope30 L fa cc)) (execs partK (envOfC (Str.ofString "law") scope30 L fa cc)) Q (fun _ _ => False) s := by
  revert X
  k_fill
  intro X
  have hsl : (Txt.slice Ld none (some (pls.getD 0 0))).length ≤ 1000 := Nat.le_trans (Txt.slice_le _ _ _) (by omega)
  have e3 : (Str.ofString "k\t ").length = 3 := by decide
  have hsl2 : (Ld ++ Str.ofString "k\t ").length ≤ 1000 := by rw [Str.length_append, e3]; omega
  k_steps
  refine' Stop.go (use_spec (ws_spec w _ _ _ hsl) ?B ?F ?x ?N ?T rfl ?hd ?hu ?hD ?_)
  case B => k_asm
  case F => k_asm
  case x => k_asm
  case N => k_asm
  case T => k_asm
  case hD => first | assumption | exact dict_up (by assumption) (by assumption)
  case hd => first | ktr_room | decide
  case hu => first | ktr_units | decide
  intro v1 new1 h1 tk1 hle1 F1 N1 P1
  refine veil fun vG hG => ?_; obtain ⟨wl, hw1, hw2, hw3⟩ := ws_only P1; refine hG ?_; clear hG vG
  have hr := hw3
  refine veil fun vG hG => ?_; obtain ⟨xa, da, na, ta, t1, k1, k2, k3, k4, k5, tn, tt, tb, nn, bb, us1, rfl, m1, m2, m3, m4, hus⟩ := hr; refine hG ?_; clear hG vG
  have N2 := swap8 (newsSub N1 (a := wl ++ _) fun p hp => by
    rcases List.mem_append.mp hp with hp | hp
    · exact List.mem_append_left _ (hw1 p hp)
    · exact List.mem_append_right _ hp)
  clear N1
  have hE2 : Seqs (wl ++ ex) := hw2.append hE
  k_steps
  refine Stop.go (SBL.add (fun t6 k6 hl6 => ?_) (by rw [sizeLine_eq]; omega))
  k_steps
  refine' Stop.go (use_spec (ws_spec w _ _ _ hsl2) ?B ?F ?x ?N ?T rfl ?hd ?hu ?hD ?_)
  case B => k_asm
  case F => k_asm
  case x => k_asm
  case N => k_asm
  case T => k_asm
  case hD => first | assumption | exact dict_up (by assumption) (by assumption)
  case hd => first | ktr_room | decide
  case hu => first | ktr_units | decide
  intro v2 new2 h2 tk2 hle2 F3 N3 P2
  refine veil fun vG hG => ?_; obtain ⟨wl2, hv1, hv2, hv3⟩ := ws_only P2; refine hG ?_; clear hG vG
  have hr := hv3
  refine veil fun vG hG => ?_; obtain ⟨xb, db, nb, tb2, t2, j1, j2, j3, j4, j5, sn, st, sb, nn2, bb2, us2, rfl, m5, m6, m7, m8, hus2⟩ := hr; refine hG ?_; clear hG vG
  have N4 := swap8 (newsSub N3 (a := wl2 ++ _) fun p hp => by
    rcases List.mem_append.mp hp with hp | hp
    · exact List.mem_append_left _ (hv1 p hp)
    · exact List.mem_append_right _ hp)
  clear N3
  k_steps
  exact hQ _ _ _ o1 o2 o3 o4 o5 o6 o7 o8 (wl2 ++ (wl ++ ex)) xa xb (by assumption) d1 d2 d3 d4 d5 d6 d7 d8 (hv2.append hE2) (by assumption) (fun p hp => List.mem_append_right _ (List.mem_append_right _ hp)) (IsWs.mono (fun p hp => List.mem_append_right _ (List.mem_append_left _ hp)) hw3) (IsWs.mono (fun p hp => List.mem_append_left _ hp) hv3) (by ((try dsimp only); repeat (first | assumption | exact if_pos rfl | refine (if_neg (by decide)).trans ?_))) (by ((try dsimp only); repeat (first | assumption | exact if_pos rfl | refine (if_neg (by decide)).trans ?_))) (by ((try dsimp only); repeat (first | assumption | exact if_pos rfl | refine (if_neg (by decide)).trans ?_)))
end
end
section
noncomputable def pickL : List Stmt → List Stmt
  | _ :: _ :: _ :: _ :: _ :: _ :: _ :: _ :: _ :: _ :: _ :: _ :: _ :: _ :: _ :: _ :: _ :: _ :: _ :: _ :: _ :: a :: _ => [a]
  | _ => []
noncomputable abbrev partL : List Stmt := by
  refine (fun (_ : pickL body30 = ?b) => ?b) ?h
  case h => conv => lhs; whnf
section
set_option maxHeartbeats 4000000
theorem law_l (w : World) {lo : List Str} {mean : ExcName → Option Value} {mg mb : Str → Option Value} (fa : Addr) (cc : Value) (base g : Heap) (L : Addr) (m : Str → Option Value) (s : Shared) (Q : Flow → Shared → Prop)
    (B : Below callerA base [] g) (X : (K w.params).In g) (T : Top q lo mean mg mb g) (hD : DictAt w g) (F : Fr g L s.heap m) (o1 o2 o3 o4 o5 o6 o7 o8 : Obj)
    (ex : CbLed) (hE : Seqs ex) (aH aP aPl aC aT xa xb : Addr) (Ld XA XB : Str) (sz : Int) (tL tS : Tok) (v7 : Option Value) (vsPl : List Value) (kPl : Nat) (pls : List Int)
    (d1 : o1.data = Data.cell (some (.ref aH))) (d2 : o2.data = Data.cell (some (.ref aP))) (d3 : o3.data = Data.cell (some (.str Ld tL))) (d4 : o4.data = Data.cell (some (.int sz tS))) (d5 : o5.data = Data.cell (some (.ref aPl))) (d6 : o6.data = Data.cell (some (.ref aC))) (d7 : o7.data = Data.cell v7) (d8 : o8.data = Data.cell none)
    (hsz : 0 < sz ∧ sz < 1000) (hLd : Ld.length ≤ 900) (mPl : (aPl, listOf vsPl.toArray kPl) ∈ ex) (iPl : IntsAre vsPl pls) (hpn : pls.length = 6) (mm : m (Str.ofString "turns") = some (.ref aT)) (ma : m (Str.ofString "ahead") = some (.ref xa)) (mw : m (Str.ofString "whole") = some (.ref xb)) (wa : IsWs w.params XA (.ref xa) ex) (wb : IsWs w.params XB (.ref xb) ex) (hXA : XA.length ≤ 1000) (hXB : XB.length ≤ 1000) (hlv : ∀ n ∈ [(1 : Int), 3, 5, sz], levelF XA n = pls.getD 0 0 ∧ levelF XB n = columnF Ld n)
    (N : News g L s.heap ((L + 1 + 1 + 1 + 1 + 1 + 1 + 1 + 1, o8) :: (L + 1 + 1 + 1 + 1 + 1 + 1 + 1, o7) :: (L + 1 + 1 + 1 + 1 + 1 + 1, o6) :: (L + 1 + 1 + 1 + 1 + 1, o5) :: (L + 1 + 1 + 1 + 1, o4) :: (L + 1 + 1 + 1, o3) :: (L + 1 + 1, o2) :: (L + 1, o1) :: ex))
    (hQ : ∀ (h' : Heap) (tk : Nat) (m' : Str → Option Value) (o1 o2 o3 o4 o5 o6 o7 o8 : Obj) (ex' : CbLed) , Fr g L h' m' → o1.data = Data.cell (some (.ref aH)) → o2.data = Data.cell (some (.ref aP)) → o3.data = Data.cell (some (.str Ld tL)) → o4.data = Data.cell (some (.int sz tS)) → o5.data = Data.cell (some (.ref aPl)) → o6.data = Data.cell (some (.ref aC)) → o7.data = Data.cell v7 → o8.data = Data.cell none → Seqs ex' → News g L h' ((L + 1 + 1 + 1 + 1 + 1 + 1 + 1 + 1, o8) :: (L + 1 + 1 + 1 + 1 + 1 + 1 + 1, o7) :: (L + 1 + 1 + 1 + 1 + 1 + 1, o6) :: (L + 1 + 1 + 1 + 1 + 1, o5) :: (L + 1 + 1 + 1 + 1, o4) :: (L + 1 + 1 + 1, o3) :: (L + 1 + 1, o2) :: (L + 1, o1) :: ex') → ex' = ex → m' (Str.ofString "turns") = some (.ref aT) → Q .next { s with heap := h', toks := tk }) :
    wpAny (model PySem.Challenge.rw_tc0086_01.prog w) (callerA.deeper (envOfC (Str.ofString "law") scope30 L fa cc)) (execs partL (envOfC (Str.ofString "law") scope30 L fa cc)) Q (fun _ _ => False) s := by
  revert X
  k_fill
  intro X
  have wa' := wa
  have wb' := wb
  refine veil fun vG hG => ?_; obtain ⟨xa', da, na, ta, t1, k1, k2, k3, k4, k5, tn, tt, tb, nn, bb, us1, ea, m1, m2, m3, m4, hus⟩ := wa'; refine hG ?_; clear hG vG
  refine veil fun vG hG => ?_; obtain ⟨xb', db, nb, tb2, t2, j1, j2, j3, j4, j5, sn, st, sb, nn2, bb2, us2, eb, m5, m6, m7, m8, hus2⟩ := wb'; refine hG ?_; clear hG vG
  cases ea
  cases eb
  k_steps
  refine Stop.go (wpAny_execs_cons (For_turns (by assumption) ?_))
  k_steps
  rename_i D h1 F1 N1 l1
  have N2 := swap8 (new := [(D, _)]) N1
  clear N1
  obtain ⟨tup, vsT, htup, hvs, N3⟩ : ∃ (tup : Obj) (vsT : List Value), tup = ({ cls := .type "tuple", data := .seq vsT.toArray } : Obj) ∧ (∀ (i : Nat) v, vsT[i]? = some v → ∃ n t, v = .int n t ∧ n ∈ [(1 : Int), 3, 5, sz]) ∧ News g L h1 ((L + 1 + 1 + 1 + 1 + 1 + 1 + 1 + 1, o8) :: (L + 1 + 1 + 1 + 1 + 1 + 1 + 1, o7) :: (L + 1 + 1 + 1 + 1 + 1 + 1, o6) :: (L + 1 + 1 + 1 + 1 + 1, o5) :: (L + 1 + 1 + 1 + 1, o4) :: (L + 1 + 1 + 1, o3) :: (L + 1 + 1, o2) :: (L + 1, o1) :: ((D, tup) :: ex)) := by
    refine ⟨_, [_, _, _, _], rfl, ?_, N2⟩
    intro i v hv
    match i, hv with
    | 0, hv => exact ⟨1, _, (Option.some.inj hv).symm, by simp⟩
    | 1, hv => exact ⟨3, _, (Option.some.inj hv).symm, by simp⟩
    | 2, hv => exact ⟨5, _, (Option.some.inj hv).symm, by simp⟩
    | 3, hv => exact ⟨sz, _, (Option.some.inj hv).symm, by simp⟩
    | i + 4, hv => cases hv
  refine seq_invC (ax := D) (lo := tup) (T := "tuple") (vs := vsT) (n := 0) (.inl rfl) rfl F1 N3 (sub8 (.head _)) (by rw [htup]) (by rw [htup]) (fun i m => m (Str.ofString "turns") = some (.ref aT) ∧ m (Str.ofString "ahead") = some (.ref xa) ∧ m (Str.ofString "whole") = some (.ref xb)) ⟨mm, ma, mw⟩ ?_ ?_
  · rintro i v m₁ h₁ tk₁ I o hv ⟨mm₁, ma₁, mw₁⟩ hlt F₁ N₁
    refine veil fun vG hG => ?_; obtain ⟨n, tn, rfl, hn⟩ := hvs i v hv; refine hG ?_; clear hG vG
    have hn2 : 0 < n ∧ n < 1000 := by
      simp only [List.mem_cons, List.not_mem_nil, or_false] at hn
      omega
    obtain ⟨q1, q2⟩ := hlv n hn
    k_steps
    refine' Stop.go (use_spec (indent_spec w _ XA hXA xa n tn hn2 ?mw) ?B ?F ?x ?N ?T rfl ?hd ?hu ?hD ?_)
    case B => k_asm
    case F => k_asm
    case x => k_asm
    case N => k_asm
    case T => k_asm
    case hD => first | assumption | exact dict_up (by assumption) (by assumption)
    case hd => first | ktr_room | decide
    case hu => first | ktr_units | decide
    case mw => exact IsWs.mono (fun p hp => .tail _ (sub8 (.tail _ hp))) wa
    intro v2 new2 h2 tk2 hle2 F2 N2 P2
    obtain ⟨rfl, t2, rfl⟩ := P2
    k_steps
    · exact absurd q1 (by assumption)
    refine' Stop.go (use_spec (indent_spec w _ XB hXB xb n tn hn2 ?mw2) ?B ?F ?x ?N ?T rfl ?hd ?hu ?hD ?_)
    case B => k_asm
    case F => k_asm
    case x => k_asm
    case N => k_asm
    case T => k_asm
    case hD => first | assumption | exact dict_up (by assumption) (by assumption)
    case hd => first | ktr_room | decide
    case hu => first | ktr_units | decide
    case mw2 => exact IsWs.mono (fun p hp => .tail _ (sub8 (.tail _ hp))) wb
    intro v3 new3 h3 tk3 hle3 F3 N3 P3
    obtain ⟨rfl, t3, rfl⟩ := P3
    k_steps
    refine' Stop.go (use_spec (column_spec w _ Ld _ n tn (by omega) hn2) ?B ?F ?x ?N ?T rfl ?hd ?hu ?hD ?_)
    case B => k_asm
    case F => k_asm
    case x => k_asm
    case N => k_asm
    case T => k_asm
    case hD => first | assumption | exact dict_up (by assumption) (by assumption)
    case hd => first | ktr_room | decide
    case hu => first | ktr_units | decide
    intro v4 new4 h4 tk4 hle4 F4 N4 P4
    obtain ⟨rfl, t4, rfl⟩ := P4
    k_steps
    · exact absurd q2 (by assumption)
    · exact ⟨rfl, _, _, _, rfl, by assumption, by assumption, by ((try dsimp only); repeat (first | assumption | exact if_pos rfl | refine (if_neg (by decide)).trans ?_)), by ((try dsimp only); repeat (first | assumption | exact if_pos rfl | refine (if_neg (by decide)).trans ?_)), by ((try dsimp only); repeat (first | assumption | exact if_pos rfl | refine (if_neg (by decide)).trans ?_))⟩
  · rintro h₁ tk₁ m₁ F₁ N₁ ⟨mm₁, ma₁, mw₁⟩
    k_steps
    exact hQ _ _ _ o1 o2 o3 o4 o5 o6 o7 o8 ex (by assumption) d1 d2 d3 d4 d5 d6 d7 d8 hE (newsSub ‹News g L _ (_ :: _)› fun p hp => by first | k_mem | exact sub8x hp) rfl mm₁
end
end
section
noncomputable def pickM : List Stmt → List Stmt
  | _ :: _ :: _ :: _ :: _ :: _ :: _ :: _ :: _ :: _ :: _ :: _ :: _ :: _ :: _ :: _ :: _ :: _ :: _ :: _ :: _ :: _ :: a :: _ => [a]
  | _ => []
noncomputable abbrev partM : List Stmt := by
  refine (fun (_ : pickM body30 = ?b) => ?b) ?h
  case h => conv => lhs; whnf
theorem rows_only' {new : CbLed} {vs : List Value} {rs : List (List Int)} (q : All2 (RowV new) vs rs) : ∃ tl : CbLed, (∀ p ∈ tl, p ∈ new) ∧ Seqs tl ∧ All2 (RowV tl) vs rs := by
  induction q with
  | nil => exact ⟨[], (fun _ h => absurd h List.not_mem_nil), (fun _ h => absurd h List.not_mem_nil), .nil⟩
  | cons x _ ih =>
    obtain ⟨a, us, k, e, hm, hi⟩ := x
    obtain ⟨tl, h1, h2, h3⟩ := ih
    exact ⟨(a, _) :: tl, List.forall_mem_cons.mpr ⟨hm, h1⟩, Seqs.cons rfl h2, All2.cons ⟨a, us, k, e, .head _, hi⟩ (h3.mono fun _ _ x => x.mono fun q hq => .tail _ hq)⟩
theorem rows_only {new : CbLed} {v : Value} {rs : List (List Int)} (h : IsRowsV rs v new) : ∃ a vs k tl, v = .ref a ∧ (∀ p ∈ (a, listOf (List.toArray vs) k) :: tl, p ∈ new) ∧ Seqs ((a, listOf (List.toArray vs) k) :: tl) ∧ All2 (RowV tl) vs rs := by
  refine veil fun vG hG => ?_; obtain ⟨a, vs, k, e, hm, hv⟩ := h; refine hG ?_; clear hG vG
  refine veil fun vG hG => ?_; obtain ⟨tl, h1, h2, h3⟩ := rows_only' hv; refine hG ?_; clear hG vG
  exact ⟨a, vs, k, tl, e, List.forall_mem_cons.mpr ⟨hm, h1⟩, Seqs.cons rfl h2, h3⟩
section
set_option maxHeartbeats 4000000
theorem law_m (w : World) {lo : List Str} {mean : ExcName → Option Value} {mg mb : Str → Option Value} (fa : Addr) (cc : Value) (base g : Heap) (L : Addr) (m : Str → Option Value) (s : Shared) (Q : Flow → Shared → Prop)
    (B : Below callerA base [] g) (X : (K w.params).In g) (T : Top q lo mean mg mb g) (hD : DictAt w g) (F : Fr g L s.heap m) (o1 o2 o3 o4 o5 o6 o7 o8 : Obj)
    (ex : CbLed) (hE : Seqs ex) (c1 c2 c3 c4 c5 c6 c7 : Option Value) (aT : Addr) (vsT : List Value) (kT : Nat) (ts : List Int)
    (d1 : o1.data = Data.cell c1) (d2 : o2.data = Data.cell c2) (d3 : o3.data = Data.cell c3) (d4 : o4.data = Data.cell c4) (d5 : o5.data = Data.cell c5) (d6 : o6.data = Data.cell c6) (d7 : o7.data = Data.cell c7) (d8 : o8.data = Data.cell none)
    (mm : m (Str.ofString "turns") = some (.ref aT)) (mT : (aT, listOf vsT.toArray kT) ∈ ex) (iT : IntsAre vsT ts) (htn : ts.length = 5) (hbd : BdAll ts)
    (N : News g L s.heap ((L + 1 + 1 + 1 + 1 + 1 + 1 + 1 + 1, o8) :: (L + 1 + 1 + 1 + 1 + 1 + 1 + 1, o7) :: (L + 1 + 1 + 1 + 1 + 1 + 1, o6) :: (L + 1 + 1 + 1 + 1 + 1, o5) :: (L + 1 + 1 + 1 + 1, o4) :: (L + 1 + 1 + 1, o3) :: (L + 1 + 1, o2) :: (L + 1, o1) :: ex))
    (hQ : ∀ (h' : Heap) (tk : Nat) (m' : Str → Option Value) (o1 o2 o3 o4 o5 o6 o7 o8 : Obj) (ex' : CbLed) (aF : Addr) (vsF : List Value) (kF : Nat), Fr g L h' m' → o1.data = Data.cell c1 → o2.data = Data.cell c2 → o3.data = Data.cell c3 → o4.data = Data.cell c4 → o5.data = Data.cell c5 → o6.data = Data.cell c6 → o7.data = Data.cell c7 → o8.data = Data.cell (some (.ref aF)) → Seqs ex' → News g L h' ((L + 1 + 1 + 1 + 1 + 1 + 1 + 1 + 1, o8) :: (L + 1 + 1 + 1 + 1 + 1 + 1 + 1, o7) :: (L + 1 + 1 + 1 + 1 + 1 + 1, o6) :: (L + 1 + 1 + 1 + 1 + 1, o5) :: (L + 1 + 1 + 1 + 1, o4) :: (L + 1 + 1 + 1, o3) :: (L + 1 + 1, o2) :: (L + 1, o1) :: ex') → (∀ p ∈ ex, p ∈ ex') → (aF, listOf vsF.toArray kF) ∈ ex' → All2 (RowV ex') vsF (friezeF ts) → m' = m → Q .next { s with heap := h', toks := tk }) :
    wpAny (model PySem.Challenge.rw_tc0086_01.prog w) (callerA.deeper (envOfC (Str.ofString "law") scope30 L fa cc)) (execs partM (envOfC (Str.ofString "law") scope30 L fa cc)) Q (fun _ _ => False) s := by
  revert X
  k_fill
  intro X
  k_steps
  refine' Stop.go (use_spec (frieze_spec w _ aT vsT kT ts ?mem iT htn hbd) ?B ?F ?x ?N ?T rfl ?hd ?hu ?hD ?_)
  case B => k_asm
  case F => k_asm
  case x => k_asm
  case N => k_asm
  case T => k_asm
  case hD => first | assumption | exact dict_up (by assumption) (by assumption)
  case hd => first | ktr_room | decide
  case hu => first | ktr_units | decide
  case mem => exact sub8 mT
  intro v1 new1 h1 tk1 hle1 F1 N1 P1
  refine veil fun vG hG => ?_; obtain ⟨aF, vsF, kF, tl, rfl, hsub, hSq, hR⟩ := rows_only P1; refine hG ?_; clear hG vG
  have N2 := swap8 (newsSub N1 (a := ((aF, listOf (List.toArray vsF) kF) :: tl) ++ _) fun p hp => by
    rcases List.mem_append.mp hp with hp | hp
    · exact List.mem_append_left _ (hsub p hp)
    · exact List.mem_append_right _ hp)
  clear N1
  have hE2 : Seqs (((aF, listOf (List.toArray vsF) kF) :: tl) ++ ex) := hSq.append hE
  have hO2 := hE2.off N2 (fun p hp => sub8 hp) (by k_mem) d8
  generalize hex : ((aF, listOf (List.toArray vsF) kF) :: tl) ++ ex = ex4 at N2 hE2 hO2
  have mF : (aF, listOf (List.toArray vsF) kF) ∈ ex4 := by rw [← hex]; simp
  have mE : ∀ p ∈ ex, p ∈ ex4 := fun p hp => by rw [← hex]; exact List.mem_append_right _ hp
  have hR4 : All2 (RowV ex4) vsF (friezeF ts) := hR.mono fun _ _ x => x.mono fun q hq => by rw [← hex]; simp [hq]
  k_steps
  exact hQ _ _ _ o1 o2 o3 o4 o5 o6 o7 _ ex4 aF vsF kF (by assumption) d1 d2 d3 d4 d5 d6 d7 (by assumption) hE2 (by assumption) mE mF hR4 rfl
end
end
section
local macro_rules | `(tactic| walk_at "execs cons") => `(tactic| (refine gen_toks (fun tk hle => ?_); (try dsimp only at hle); (with_reducible refine wpAny_execs_cons ?_); try dsimp only))
local macro_rules | `(tactic| walk_at "execs nil") => `(tactic| ((with_reducible refine wpAny_execs_nil ?_); try dsimp only))
section
noncomputable def pickB : List Stmt → List Stmt
  | _ :: _ :: _ :: a :: b :: c :: d :: _ => [a, b, c, d]
  | _ => []
noncomputable abbrev partB : List Stmt := by
  refine (fun (_ : pickB body30 = ?b) => ?b) ?h
  case h => conv => lhs; whnf
noncomputable def pageOf (hs : List Int) : Str := writtenF (typedF (plainOf hs) (hs.getD 2 0)) (hs.getD 3 0)
noncomputable def markOf (hs : List Int) : Str := Txt.item (Str.ofString "&t;") (((hs.getD 4 0).fdiv 27).fmod 3)
noncomputable def unseenOf (hs : List Int) : Str := ⟨#[(unseenL.getD ((hs.getD 4 0).fmod 27).toNat 0).toNat]⟩
noncomputable def besideOf (hs : List Int) : Str := ⟨#[(besideL.getD ((hs.getD 5 0).fmod 16).toNat 0).toNat]⟩
noncomputable def sentOf (hs : List Int) : Str := Txt.replace (pageOf hs) (markOf hs) (markOf hs ++ unseenOf hs) ++ besideOf hs ++ Str.ofString "Ж"
noncomputable def layersOf (hs : List Int) : Int := 1 + ((hs.getD 3 0).fdiv 3).fmod 2
section
variable {prog : Program} {w : World} {A : Around} {E : Value → Shared → Prop} {s : Shared} {x y : Str} {t u : Tok} {Q : Value → Shared → Prop}
theorem add_tok (hx : 0 < x.length) (hy : 0 < y.length) (hsz : x.length + y.length ≤ sizeLine) (h : Q (.str (x ++ y) s.toks) { s with toks := s.toks + 1 }) : wpAny (model prog w) A (binaryOp .Add (.str x t) (.str y u)) Q E s := by
  refine P.add_str ?_
  rw [if_neg (by rw [beq_iff_eq]; omega), if_neg (by rw [beq_iff_eq]; omega)]
  exact ⟨by rw [size_cat]; exact hsz, h⟩
end
theorem rep_ok {x z : Str} (h : x.length ≤ 40000) (hz : z.length = 2) : x.length + (x.length + 1) * z.length ≤ 16777216 := by rw [hz]; omega
theorem rep_len {x y z : Str} (h : x.length ≤ 40000) (hz : z.length = 2) : (Txt.replace x y z).length ≤ 200000 := by
  have := len_replace x y z
  rw [hz] at this
  omega
section
set_option maxHeartbeats 4000000
local macro_rules | `(tactic| walk_at "call builtin:str.replace") => `(tactic| refine Stop.intro ?_)
local macro_rules | `(tactic| walk_at "binaryOp Add str str") => `(tactic| refine Stop.intro ?_)
theorem law_b (w : World) {lo : List Str} {mean : ExcName → Option Value} {mg mb : Str → Option Value} (fa : Addr) (cc : Value) (base g : Heap) (L : Addr) (m : Str → Option Value) (s : Shared) (Q : Flow → Shared → Prop)
    (B : Below callerA base [] g) (X : (K w.params).In g) (T : Top q lo mean mg mb g) (hD : DictAt w g) (F : Fr g L s.heap m) (o1 o2 o3 o4 o5 o6 o7 o8 : Obj)
    (ex : CbLed) (hE : Seqs ex) (aH aP : Addr) (us : List Value) (k1 : Nat) (hs : List Int) (hH6 : hs.length = 6) (mH : (aH, listOf us.toArray k1) ∈ ex) (hu : IntsAre us hs) (tp : Tok)
    (d1 : o1.data = Data.cell (some (.ref aH))) (d2 : o2.data = Data.cell (some (.ref aP))) (d3 : o3.data = Data.cell none) (d4 : o4.data = Data.cell none) (d5 : o5.data = Data.cell none) (d6 : o6.data = Data.cell none) (d7 : o7.data = Data.cell none) (d8 : o8.data = Data.cell none)
    (mp : m (Str.ofString "plain") = some (.str (plainOf hs) tp)) (hpl : (plainOf hs).length + 1 ≤ 17) (hf : Fit (handS ((hs.getD 3 0).fmod 3).toNat) (typedF (plainOf hs) (hs.getD 2 0)))
    (hg : Fit (handS (((hs.getD 3 0).fdiv 6).fmod 5).toNat) (escs (handS ((hs.getD 3 0).fmod 3).toNat) (typedF (plainOf hs) (hs.getD 2 0)))) (hpg : (pageOf hs).length ≤ 40000)
    (N : News g L s.heap ((L + 1 + 1 + 1 + 1 + 1 + 1 + 1 + 1, o8) :: (L + 1 + 1 + 1 + 1 + 1 + 1 + 1, o7) :: (L + 1 + 1 + 1 + 1 + 1 + 1, o6) :: (L + 1 + 1 + 1 + 1 + 1, o5) :: (L + 1 + 1 + 1 + 1, o4) :: (L + 1 + 1 + 1, o3) :: (L + 1 + 1, o2) :: (L + 1, o1) :: ex))
    (hQ : ∀ (h' : Heap) (tk : Nat) (m' : Str → Option Value) (o1 o2 o3 o4 o5 o6 o7 o8 : Obj) (ex' : CbLed) (tp tl ts : Tok), Fr g L h' m' → o1.data = Data.cell (some (.ref aH)) → o2.data = Data.cell (some (.ref aP)) → o3.data = Data.cell none → o4.data = Data.cell none → o5.data = Data.cell none → o6.data = Data.cell none → o7.data = Data.cell none → o8.data = Data.cell none → Seqs ex' → News g L h' ((L + 1 + 1 + 1 + 1 + 1 + 1 + 1 + 1, o8) :: (L + 1 + 1 + 1 + 1 + 1 + 1 + 1, o7) :: (L + 1 + 1 + 1 + 1 + 1 + 1, o6) :: (L + 1 + 1 + 1 + 1 + 1, o5) :: (L + 1 + 1 + 1 + 1, o4) :: (L + 1 + 1 + 1, o3) :: (L + 1 + 1, o2) :: (L + 1, o1) :: ex') → ex' = ex → m' (Str.ofString "plain") = some (.str (plainOf hs) tp) → m' (Str.ofString "layers") = some (.int (layersOf hs) tl) → m' (Str.ofString "sent") = some (.str (sentOf hs) ts) → Q .next { s with heap := h', toks := tk }) :
    wpAny (model PySem.Challenge.rw_tc0086_01.prog w) (callerA.deeper (envOfC (Str.ofString "law") scope30 L fa cc)) (execs partB (envOfC (Str.ofString "law") scope30 L fa cc)) Q (fun _ _ => False) s := by
  revert X
  k_fill
  intro X
  k_steps
  refine' Stop.go (use_specT (typed_spec w _ _ _ _ _ hpl) ?B ?F ?x ?N ?T rfl ?hd ?hu ?hD ?hp ?_)
  case B => k_asm
  case F => k_asm
  case x => k_asm
  case N => k_asm
  case T => k_asm
  case hD => first | assumption | exact dict_up (by assumption) (by assumption)
  case hd => first | ktr_room | decide
  case hu => first | ktr_units | decide
  case hp => ((try dsimp only); omega)
  intro v1 new1 h1 tk1 hle1 F1 N1 P1
  obtain ⟨rfl, t1, rfl⟩ := P1
  k_steps
  refine' Stop.go (use_specT (written_spec w _ _ _ _ _ hf hg) ?B ?F ?x ?N ?T rfl ?hd ?hu ?hD ?hp ?_)
  case B => k_asm
  case F => k_asm
  case x => k_asm
  case N => k_asm
  case T => k_asm
  case hD => first | assumption | exact dict_up (by assumption) (by assumption)
  case hd => first | ktr_room | decide
  case hu => first | ktr_units | decide
  case hp => ((try dsimp only); omega)
  intro v2 new2 h2 tk2 hle2 F2 N2 P2
  obtain ⟨rfl, t2, rfl⟩ := P2
  k_steps
  refine' Stop.go (use_spec (unseen_spec w _ _ _) ?B ?F ?x ?N ?T rfl ?hd ?hu ?hD ?_)
  case B => k_asm
  case F => k_asm
  case x => k_asm
  case N => k_asm
  case T => k_asm
  case hD => first | assumption | exact dict_up (by assumption) (by assumption)
  case hd => first | ktr_room | decide
  case hu => first | ktr_units | decide
  intro v3 new3 h3 tk3 hle3 F3 N3 P3
  obtain ⟨rfl, t3, rfl⟩ := P3
  (try dsimp only at hle3)
  k_steps
  have e1 : (Txt.item (Str.ofString "&t;") (((hs.getD (Int.toNat 4) 0).fdiv 27).fmod 3)).length = 1 := len_item _ _
  have e2 : (⟨#[(unseenL.getD ((hs.getD (Int.toNat 4) 0).fmod 27).toNat 0).toNat]⟩ : Str).length = 1 := rfl
  refine Stop.go (add_tok (by omega) (by omega) (by rw [sizeLine_eq]; omega) ?_)
  k_steps
  have e3 : (Txt.item (Str.ofString "&t;") (((hs.getD (Int.toNat 4) 0).fdiv 27).fmod 3) ++ (⟨#[(unseenL.getD ((hs.getD (Int.toNat 4) 0).fmod 27).toNat 0).toNat]⟩ : Str)).length = 2 := by rw [Str.length_append, e1, e2]
  refine' Stop.go (SC.replace ?ra ?rb ?rc ?rd (rep_ok hpg e3) fun t' k' => ?_)
  case ra => (show (_ : Nat) ≠ _; (try dsimp only); omega)
  case rb => (show (_ : Nat) ≠ _; (try dsimp only); omega)
  case rc => (show (_ : Nat) ≠ _; (try dsimp only); omega)
  case rd =>
    rw [beq_eq_false_iff_ne]
    intro e
    have := congrArg Str.length e
    exact absurd (e1.symm.trans (this.trans e3)) (by decide)
  have e4 := rep_len (x := pageOf hs) (y := markOf hs) (z := markOf hs ++ unseenOf hs) hpg e3
  k_steps
  refine' Stop.go (use_spec (beside_spec w _ _ _) ?B ?F ?x ?N ?T rfl ?hd ?hu ?hD ?_)
  case B => k_asm
  case F => k_asm
  case x => k_asm
  case N => k_asm
  case T => k_asm
  case hD => first | assumption | exact dict_up (by assumption) (by assumption)
  case hd => first | ktr_room | decide
  case hu => first | ktr_units | decide
  intro v5 new5 h5 tk5 hle5 F5 N5 P5
  obtain ⟨rfl, t5, rfl⟩ := P5
  k_steps
  refine Stop.go (SBL.add (fun t6 k6 hl6 => ?_) (by rw [sizeLine_eq]; exact Nat.le_trans (Nat.add_le_add e4 (Nat.le_refl 1)) (by decide)))
  k_steps
  refine Stop.go (SBL.add (fun t7 k7 hl7 => ?_) (by rw [sizeLine_eq]; exact Nat.le_trans (Nat.add_le_add (Nat.le_trans hl6.2 (Nat.add_le_add e4 (Nat.le_refl 1))) (Nat.le_refl 1)) (by decide)))
  k_steps
  exact hQ _ _ _ o1 o2 o3 o4 o5 o6 o7 o8 ex _ _ _ (by assumption) d1 d2 d3 d4 d5 d6 d7 d8 hE ‹News g L _ (_ :: _)› rfl (by ((try dsimp only); repeat (first | assumption | exact if_pos rfl | refine (if_neg (by decide)).trans ?_))) (by ((try dsimp only); repeat (first | assumption | exact if_pos rfl | refine (if_neg (by decide)).trans ?_))) (by ((try dsimp only); repeat (first | assumption | exact if_pos rfl | refine (if_neg (by decide)).trans ?_)))
end
end
section
noncomputable def pickD : List Stmt → List Stmt
  | _ :: _ :: _ :: _ :: _ :: _ :: _ :: _ :: a :: b :: c :: _ => [a, b, c]
  | _ => []
noncomputable abbrev partD : List Stmt := by
  refine (fun (_ : pickD body30 = ?b) => ?b) ?h
  case h => conv => lhs; whnf
noncomputable def refOf (ly : Int) : Str := Str.ofString "&" ++ Txt.mul (Str.ofString "amp;") (ly - 1)
noncomputable def toldOf (pl : Str) (ly : Int) : Str := Txt.replace (Txt.replace pl (Str.ofString "<") (refOf ly ++ Str.ofString "lt;")) (Str.ofString ">") (refOf ly ++ Str.ofString "gt;")
theorem mul_len {ly : Int} (h : 1 ≤ ly ∧ ly ≤ 2) : (Txt.mul (Str.ofString "amp;") (ly - 1)).length ≤ 4 := by
  have : ly = 1 ∨ ly = 2 := by omega
  rcases this with rfl | rfl <;> decide
theorem ref_len {ly : Int} (h : 1 ≤ ly ∧ ly ≤ 2) : 1 ≤ (refOf ly).length ∧ (refOf ly).length ≤ 5 := by
  have := mul_len h
  have e : (refOf ly).length = 1 + (Txt.mul (Str.ofString "amp;") (ly - 1)).length := Str.length_append ..
  omega
theorem rep8 {x z : Str} (b : Nat) (h : x.length ≤ b) (hb : b ≤ 1000) (hz : z.length ≤ 8) : x.length + (x.length + 1) * z.length ≤ 16777216 := by
  have : (x.length + 1) * z.length ≤ 1001 * 8 := Nat.mul_le_mul (by omega) hz
  omega
theorem rep8_len {x y z : Str} (h : x.length ≤ 16) (hz : z.length ≤ 8) : (Txt.replace x y z).length ≤ 152 := by
  have h1 := len_replace x y z
  have : (x.length + 1) * z.length ≤ 17 * 8 := Nat.mul_le_mul (by omega) hz
  omega
theorem rep8_len2 {x y z : Str} (h : x.length ≤ 152) (hz : z.length ≤ 8) : (Txt.replace x y z).length ≤ 1376 := by
  have h1 := len_replace x y z
  have : (x.length + 1) * z.length ≤ 153 * 8 := Nat.mul_le_mul (by omega) hz
  omega
theorem contra_ne {x y : Str} (h : (x != y) = true) (e : x = y) : False := by
  subst e
  rw [bne_self_eq_false] at h; cases h
theorem ne_len {x y : Str} (h : x.length ≠ y.length) : (x == y) = false := by
  rw [beq_eq_false_iff_ne]
  intro e
  exact h (congrArg Str.length e)
section
set_option maxHeartbeats 4000000
local macro_rules | `(tactic| walk_at "call builtin:str.replace") => `(tactic| refine Stop.intro ?_)
local macro_rules | `(tactic| walk_at "binaryOp Add str str") => `(tactic| refine Stop.intro ?_)
theorem law_d (w : World) {lo : List Str} {mean : ExcName → Option Value} {mg mb : Str → Option Value} (fa : Addr) (cc : Value) (base g : Heap) (L : Addr) (m : Str → Option Value) (s : Shared) (Q : Flow → Shared → Prop)
    (B : Below callerA base [] g) (X : (K w.params).In g) (T : Top q lo mean mg mb g) (hD : DictAt w g) (F : Fr g L s.heap m) (o1 o2 o3 o4 o5 o6 o7 o8 : Obj)
    (ex : CbLed) (hE : Seqs ex) (aH aP : Addr) (us : List Value) (k1 : Nat) (hs : List Int) (hH6 : hs.length = 6) (mH : (aH, listOf us.toArray k1) ∈ ex) (hu : IntsAre us hs) (pr pl : Str) (ly : Int) (tp tl tr : Tok)
    (d1 : o1.data = Data.cell (some (.ref aH))) (d2 : o2.data = Data.cell (some (.ref aP))) (d3 : o3.data = Data.cell none) (d4 : o4.data = Data.cell none) (d5 : o5.data = Data.cell none) (d6 : o6.data = Data.cell none) (d7 : o7.data = Data.cell none) (d8 : o8.data = Data.cell none)
    (mP : m (Str.ofString "plain") = some (.str pl tp)) (mL : m (Str.ofString "layers") = some (.int ly tl)) (mR : m (Str.ofString "prepared") = some (.str pr tr)) (hly : 1 ≤ ly ∧ ly ≤ 2) (hpl : pl.length ≤ 16) (hpr : pr = toldOf pl ly ++ besideOf hs ++ Str.ofString "ж")
    (N : News g L s.heap ((L + 1 + 1 + 1 + 1 + 1 + 1 + 1 + 1, o8) :: (L + 1 + 1 + 1 + 1 + 1 + 1 + 1, o7) :: (L + 1 + 1 + 1 + 1 + 1 + 1, o6) :: (L + 1 + 1 + 1 + 1 + 1, o5) :: (L + 1 + 1 + 1 + 1, o4) :: (L + 1 + 1 + 1, o3) :: (L + 1 + 1, o2) :: (L + 1, o1) :: ex))
    (hQ : ∀ (h' : Heap) (tk : Nat) (m' : Str → Option Value) (o1 o2 o3 o4 o5 o6 o7 o8 : Obj) (ex' : CbLed) , Fr g L h' m' → o1.data = Data.cell (some (.ref aH)) → o2.data = Data.cell (some (.ref aP)) → o3.data = Data.cell none → o4.data = Data.cell none → o5.data = Data.cell none → o6.data = Data.cell none → o7.data = Data.cell none → o8.data = Data.cell none → Seqs ex' → News g L h' ((L + 1 + 1 + 1 + 1 + 1 + 1 + 1 + 1, o8) :: (L + 1 + 1 + 1 + 1 + 1 + 1 + 1, o7) :: (L + 1 + 1 + 1 + 1 + 1 + 1, o6) :: (L + 1 + 1 + 1 + 1 + 1, o5) :: (L + 1 + 1 + 1 + 1, o4) :: (L + 1 + 1 + 1, o3) :: (L + 1 + 1, o2) :: (L + 1, o1) :: ex') → ex' = ex → m' (Str.ofString "layers") = some (.int ly tl) → m' (Str.ofString "prepared") = some (.str pr tr) → Q .next { s with heap := h', toks := tk }) :
    wpAny (model PySem.Challenge.rw_tc0086_01.prog w) (callerA.deeper (envOfC (Str.ofString "law") scope30 L fa cc)) (execs partD (envOfC (Str.ofString "law") scope30 L fa cc)) Q (fun _ _ => False) s := by
  revert X
  k_fill
  intro X
  k_steps
  have r0 := ref_len hly
  have r1 := mul_len hly
  refine Stop.go (SBL.add (fun t6 k6 hl6 => ?_) (by rw [sizeLine_eq]; exact Nat.le_trans (Nat.add_le_add (Nat.le_refl 1) r1) (by decide)))
  k_steps
  have r2 : (refOf ly ++ Str.ofString "lt;").length = (refOf ly).length + 3 := Str.length_append ..
  have r3 : (refOf ly ++ Str.ofString "gt;").length = (refOf ly).length + 3 := Str.length_append ..
  have s3 : (Str.ofString "lt;").length = 3 := by decide
  have s4 : (Str.ofString "gt;").length = 3 := by decide
  have s5 : (Str.ofString "<").length = 1 := by decide
  have s6 : (Str.ofString ">").length = 1 := by decide
  refine Stop.go (add_tok (x := refOf ly) (by omega) (by omega) (by rw [sizeLine_eq]; omega) ?_)
  k_steps
  refine' Stop.go (growE (SC.replace ?ra ?rb ?rc (ne_len (by omega)) (rep8 16 hpl (by decide) (by omega)) fun t7 k7 hle7 => ?_))
  case ra => (show (_ : Nat) ≠ _; (try dsimp only); omega)
  case rb => (show (_ : Nat) ≠ _; (try dsimp only); omega)
  case rc => (show (_ : Nat) ≠ _; (try dsimp only); omega)
  dsimp only at hle7
  k_steps
  refine Stop.go (add_tok (x := refOf ly) (by omega) (by omega) (by rw [sizeLine_eq]; omega) ?_)
  have r4 := rep8_len (x := pl) (y := Str.ofString "<") (z := refOf ly ++ Str.ofString "lt;") hpl (by omega)
  have r5 := rep8_len2 (y := Str.ofString ">") (z := refOf ly ++ Str.ofString "gt;") r4 (by omega)
  k_steps
  refine' Stop.go (growE (SC.replace ?rd ?re ?rf (ne_len (by omega)) (rep8 152 r4 (by decide) (by omega)) fun t8 k8 hle8 => ?_))
  case rd => (show (_ : Nat) ≠ _; (try dsimp only); omega)
  case re => (show (_ : Nat) ≠ _; (try dsimp only); omega)
  case rf => (show (_ : Nat) ≠ _; (try dsimp only); omega)
  k_steps
  refine' Stop.go (use_spec (beside_spec w _ _ _) ?B ?F ?x ?N ?T rfl ?hd ?hu ?hD ?_)
  case B => k_asm
  case F => k_asm
  case x => k_asm
  case N => k_asm
  case T => k_asm
  case hD => first | assumption | exact dict_up (by assumption) (by assumption)
  case hd => first | ktr_room | decide
  case hu => first | ktr_units | decide
  intro v5 new5 h5 tk5 hle5 F5 N5 P5
  obtain ⟨rfl, t5, rfl⟩ := P5
  k_steps
  refine Stop.go (SBL.add (fun t9 k9 hl9 => ?_) (by rw [sizeLine_eq]; exact Nat.le_trans (Nat.add_le_add r5 (Nat.le_refl 1)) (by decide)))
  k_steps
  refine Stop.go (SBL.add (fun t10 k10 hl10 => ?_) (by rw [sizeLine_eq]; exact Nat.le_trans (Nat.add_le_add (Nat.le_trans hl9.2 (Nat.add_le_add r5 (Nat.le_refl 1))) (Nat.le_refl 1)) (by decide)))
  k_steps
  · exact (contra_ne (by assumption) hpr).elim
  · exact hQ _ _ _ o1 o2 o3 o4 o5 o6 o7 o8 ex (by assumption) d1 d2 d3 d4 d5 d6 d7 d8 hE ‹News g L _ (_ :: _)› rfl (by ((try dsimp only); repeat (first | assumption | exact if_pos rfl | refine (if_neg (by decide)).trans ?_))) (by ((try dsimp only); repeat (first | assumption | exact if_pos rfl | refine (if_neg (by decide)).trans ?_)))
end
end
section
local macro_rules | `(tactic| walk_at "subscriptTail Name Name ref int") => `(tactic| walk_at "mine rows")
local macro_rules | `(tactic| walk_at "subscriptTail Name BinOp ref int") => `(tactic| walk_at "mine rows")
local macro_rules | `(tactic| walk_at "subscriptTail Name Subscript ref int") => `(tactic| walk_at "mine rows")
local macro_rules | `(tactic| walk_at "subscriptTail Subscript Name Name Name ref int") => `(tactic| walk_at "mine intsA")
local macro_rules | `(tactic| walk_at "subscriptTail Subscript Name Name BinOp ref int") => `(tactic| walk_at "mine intsA")
local macro_rules | `(tactic| walk_at "subscriptTail Subscript Name BinOp Name ref int") => `(tactic| walk_at "mine intsA")
local macro_rules | `(tactic| walk_at "subscriptTail Subscript Name BinOp BinOp ref int") => `(tactic| walk_at "mine intsA")
local macro_rules | `(tactic| walk_at "subscriptTail Subscript Name Subscript Subscript ref int") => `(tactic| walk_at "mine intsA")
section
noncomputable def pickP : List Stmt → List Stmt
  | _ :: _ :: _ :: _ :: _ :: _ :: _ :: _ :: _ :: _ :: _ :: _ :: _ :: _ :: _ :: _ :: _ :: _ :: _ :: _ :: _ :: _ :: _ :: _ :: _ :: _ :: a :: b :: _ => [a, b]
  | _ => []
noncomputable abbrev partP : List Stmt := by
  refine (fun (_ : pickP body30 = ?b) => ?b) ?h
  case h => conv => lhs; whnf
noncomputable def PairV (led : CbLed) (v : Value) (p : Int × Int) : Prop := ∃ a t1 t2, v = .ref a ∧ (a, ({ cls := .type "tuple", data := .seq #[.int p.1 t1, .int p.2 t2] } : Obj)) ∈ led
/-- an entry of the frieze -/
noncomputable def fz (rs : List (List Int)) (i j : Int) : Int := (rs.getD i.toNat []).getD j.toNat 0
noncomputable def BdRows (rs : List (List Int)) : Prop := ∀ i j, -(2 ^ 64) < fz rs i j ∧ fz rs i j < 2 ^ 64
noncomputable def Quad (rs : List (List Int)) (p : Int × Int) : Prop := p.2 < 6 → fz rs p.1 p.2 * fz rs (p.1 + 1) (p.2 + 1) = fz rs p.1 (p.2 + 1) * fz rs (p.1 + 1) p.2 + 1
section
set_option maxHeartbeats 4000000
local macro_rules | `(tactic| walk_at "binaryOp Mult int int") => `(tactic| k_dflt (refine PyProof.Rows.mul_int ?_ (mulOk (‹BdRows _› _ _))))
theorem law_p (w : World) {lo : List Str} {mean : ExcName → Option Value} {mg mb : Str → Option Value} (fa : Addr) (cc : Value) (base g : Heap) (L : Addr) (m : Str → Option Value) (s : Shared) (Q : Flow → Shared → Prop)
    (B : Below callerA base [] g) (X : (K w.params).In g) (T : Top q lo mean mg mb g) (hD : DictAt w g) (F : Fr g L s.heap m) (o1 o2 o3 o4 o5 o6 o7 o8 : Obj)
    (ex : CbLed) (hE : Seqs ex) (c1 c2 c3 c4 c5 c6 c7 : Option Value) (aF aQ : Addr) (vsF vsQ : List Value) (kF kQ : Nat) (rs : List (List Int)) (prs : List (Int × Int))
    (d1 : o1.data = Data.cell c1) (d2 : o2.data = Data.cell c2) (d3 : o3.data = Data.cell c3) (d4 : o4.data = Data.cell c4) (d5 : o5.data = Data.cell c5) (d6 : o6.data = Data.cell c6) (d7 : o7.data = Data.cell c7) (d8 : o8.data = Data.cell (some (.ref aF)))
    (mm : m (Str.ofString "pairs") = some (.ref aQ)) (mF : (aF, listOf vsF.toArray kF) ∈ ex) (iF : All2 (RowV ex) vsF rs) (hl7 : rs.length = 7) (hr7 : ∀ r ∈ rs, 7 ≤ r.length ∧ r.length ≤ 8) (hbd : BdRows rs) (mQ : (aQ, listOf vsQ.toArray kQ) ∈ ex) (iQ : All2 (PairV ex) vsQ prs) (hpr : ∀ p ∈ prs, 0 ≤ p.1 ∧ p.1 + 2 ≤ p.2 ∧ p.2 ≤ 6 ∧ Quad rs p)
    (N : News g L s.heap ((L + 1 + 1 + 1 + 1 + 1 + 1 + 1 + 1, o8) :: (L + 1 + 1 + 1 + 1 + 1 + 1 + 1, o7) :: (L + 1 + 1 + 1 + 1 + 1 + 1, o6) :: (L + 1 + 1 + 1 + 1 + 1, o5) :: (L + 1 + 1 + 1 + 1, o4) :: (L + 1 + 1 + 1, o3) :: (L + 1 + 1, o2) :: (L + 1, o1) :: ex))
    (hQ : ∀ (h' : Heap) (tk : Nat) (m' : Str → Option Value), Fr g L h' m' → Q (.ret (.bool true)) { s with heap := h', toks := tk }) :
    wpAny (model PySem.Challenge.rw_tc0086_01.prog w) (callerA.deeper (envOfC (Str.ofString "law") scope30 L fa cc)) (execs partP (envOfC (Str.ofString "law") scope30 L fa cc)) Q (fun _ _ => False) s := by
  revert X
  k_fill
  intro X
  k_steps
  refine Stop.go (wpAny_execs_cons (For_turns (by assumption) ?_))
  k_steps
  refine seq_invC (ax := aQ) (lo := listOf vsQ.toArray kQ) (T := "list") (vs := vsQ) (n := kQ) (.inr rfl) rfl F N (sub8 mQ) rfl rfl (fun i m => True) trivial ?_ ?_
  · rintro i v m₁ h₁ tk₁ I o hv _ hlt F₁ N₁
    refine veil fun vG hG => ?_; obtain ⟨p, hp, a, t1, t2, rfl, ma⟩ := iQ.at hv; refine hG ?_; clear hG vG
    refine veil fun vG hG => ?_; obtain ⟨p1, p2, p3, p4⟩ := hpr p (List.mem_of_getElem? hp); refine hG ?_; clear hG vG
    k_steps
    all_goals first
      | exact ⟨rfl, _, _, _, rfl, by assumption, by assumption, trivial⟩
      | exact absurd (p4 (by assumption)) (by assumption)
  · rintro h₁ tk₁ m₁ F₁ N₁ _
    k_steps
    dsimp only
    exact hQ _ _ _ (by assumption)
end
end
end
end
section
open PySem.Calls PyProof.Rows.LCg
/-- a comprehension with two clauses -/
noncomputable abbrev two (elt : Expr) (x1 : Str) (p1 : Pos) (i1 : Expr) (x2 : Str) (p2 : Pos) (i2 : Expr) (scope : Scope) (pos : Pos) : Expr := .ListComp elt [⟨.Name x1 p1, i1, [], 0⟩, ⟨.Name x2 p2, i2, [], 0⟩] scope pos
section
variable {prog : Program} {w : World} {A : Around} {E : Value → Shared → Prop} {R : Result → Shared → Prop} {s : Shared} {elt i1 i2 : Expr} {x1 x2 : Str} {p1 p2 : Pos} {scope : Scope} {pos : Pos} {it acc : Value} {env : Env}
theorem compStart_two1 (h0 : codeAny (model prog w) A (.compLoop (two elt x1 p1 i1 x2 p2 i2 scope pos) 1 it acc env) R s)
    (h : wpAny (model prog w) A (pyIter it) (fun it' s' => codeAny (model prog w) A (.compLoop (two elt x1 p1 i1 x2 p2 i2 scope pos) 1 it' acc env) R s') (notedBy (model prog w) A env fun x s' => R (.error x) s') s) :
    codeAny (model prog w) A (.compStart (two elt x1 p1 i1 x2 p2 i2 scope pos) 1 it acc env) R s := by
  refine codeAny_of_tree ?_
  show wpAny _ _ ((compStart (two elt x1 p1 i1 x2 p2 i2 scope pos) 1 it acc env).onRaise (fun x => do noteFrame x env; standAt theWindowsPlace)) _ _ s
  refine wpAny_notedAt ?_
  unfold compStart
  show wpAny _ _ (ask >>= _) _ _ s
  refine wpAny_bind (wpAny_askSetting (wpAny_ite ?_))
  split
  · first
      | exact wpAny_bind (wpAny_pure (wpAny_pure (And.intro rfl h0)))
      | exact wpAny_pure (And.intro rfl h0)
  · first
      | exact wpAny_bind (wpAny_rule (wpAny_bind (wpAny_standAt (wpAny_bind (wpAny_mono h (fun it' s' h' => wpAny_pure (And.intro rfl h')) fun _ _ x => x)))))
      | (refine wpAny_bind (wpAny_rule ?_); show wpAny _ _ (standAt i2.pos >>= _) _ _ s; exact wpAny_bind (wpAny_standAt (wpAny_bind (wpAny_mono h (fun it' s' h' => wpAny_pure (And.intro rfl h')) fun _ _ x => x))))
theorem compTurn_two1 : compTurn (two elt x1 p1 i1 x2 p2 i2 scope pos) 1 it acc env = (standAt i2.pos >>= fun _ => pyNext it >>= fun r => match r with
      | none => pure (.done .next)
      | some v => letOwnedTupleGo (.Name x2 p2) it v >>= fun _ => assign (.Name x2 p2) env v >>= fun _ =>
        (eval elt env >>= fun x => call (.builtin "list.append") [acc, x] >>= fun _ => pure ()) >>= fun _ =>
          again (.compLoop (two elt x1 p1 i1 x2 p2 i2 scope pos) 1 it acc env)) := by rfl
theorem compTurn_two0 : compTurn (two elt x1 p1 i1 x2 p2 i2 scope pos) 0 it acc env = (standAt i1.pos >>= fun _ => pyNext it >>= fun r => match r with
      | none => pure (.done .next)
      | some v => letOwnedTupleGo (.Name x1 p1) it v >>= fun _ => assign (.Name x1 p1) env v >>= fun _ =>
        eval i2 env >>= fun x => standAt i2.pos >>= fun _ => foldedSetIterable i2 env x >>= fun x => holding [x] (pyIter x) >>= fun it2 => runOwn (.compStart (two elt x1 p1 i1 x2 p2 i2 scope pos) 1 it2 acc env) env >>= fun _ =>
          again (.compLoop (two elt x1 p1 i1 x2 p2 i2 scope pos) 0 it acc env)) := by rfl
theorem loop_two1 (I : Nat → Shared → Prop)
    (turn : ∀ n s, I n s → wpAny (model prog w) A (pyNext it) (fun r s₁ => match r with
      | none => R (.ok .next) s₁
      | some v => wpAny (model prog w) A (assign (.Name x2 p2) env v) (fun _ s₂ => wpAny (model prog w) A (eval elt env) (fun x s₃ =>
          wpAny (model prog w) A (call (.builtin "list.append") [acc, x]) (fun _ s₄ => ∃ m, m < n ∧ I m s₄) (notedBy (model prog w) A env fun e s' => R (.error e) s') s₃)
          (notedBy (model prog w) A env fun e s' => R (.error e) s') s₂) (notedBy (model prog w) A env fun e s' => R (.error e) s') s₁) (notedBy (model prog w) A env fun e s' => R (.error e) s') s)
    (n : Nat) (h : I n s) : codeAny (model prog w) A (.compLoop (two elt x1 p1 i1 x2 p2 i2 scope pos) 1 it acc env) R s := by
  refine codeAny_loop rfl I (fun n s hI => ?_) n h
  show wpAny _ A ((compTurn (two elt x1 p1 i1 x2 p2 i2 scope pos) 1 it acc env).onRaise (fun x => do noteFrame x env; theTreesLotGoes x)) _ _ s
  refine wpAny_noted ?_
  rw [compTurn_two1]
  refine wpAny_bind (wpAny_standAt (wpAny_bind (wpAny_mono (turn n s hI) (fun r s₁ h₁ => ?_) fun _ _ h' => h')))
  cases r with
  | none => exact wpAny_pure h₁
  | some v =>
    refine wpAny_bind (wpAny_of_eq (show letOwnedTupleGo (.Name x2 p2) it v = pure () by rfl) ?_)
    exact wpAny_bind (wpAny_mono h₁ (fun _ s₂ h₂ => wpAny_bind (wpAny_bind (wpAny_mono h₂ (fun x s₃ h₃ => wpAny_bind (wpAny_mono h₃
      (fun _ s₄ h₄ => wpAny_pure (wpAny_pure ⟨rfl, h₄⟩)) fun _ _ h' => h')) fun _ _ h' => h'))) fun _ _ h' => h')
theorem loop_two0 (hs2 : ∀ x, foldedSetIterable i2 env x = pure x) (I : Nat → Shared → Prop)
    (turn : ∀ n s, I n s → wpAny (model prog w) A (pyNext it) (fun r s₁ => match r with
      | none => R (.ok .next) s₁
      | some v => wpAny (model prog w) A (assign (.Name x1 p1) env v) (fun _ s₂ => wpAny (model prog w) A (eval i2 env) (fun x s₃ =>
          wpAny (model prog w) A (pyIter x) (fun it2 s₄ => codeAny (model prog w) A (.compStart (two elt x1 p1 i1 x2 p2 i2 scope pos) 1 it2 acc env) (fun r s₅ => (∃ f, r = .ok f) ∧ ∃ m, m < n ∧ I m s₅) s₄) (notedBy (model prog w) A env fun e s' => R (.error e) s') s₃)
          (notedBy (model prog w) A env fun e s' => R (.error e) s') s₂) (notedBy (model prog w) A env fun e s' => R (.error e) s') s₁) (notedBy (model prog w) A env fun e s' => R (.error e) s') s)
    (n : Nat) (h : I n s) : codeAny (model prog w) A (.compLoop (two elt x1 p1 i1 x2 p2 i2 scope pos) 0 it acc env) R s := by
  refine codeAny_loop rfl I (fun n s hI => ?_) n h
  show wpAny _ A ((compTurn (two elt x1 p1 i1 x2 p2 i2 scope pos) 0 it acc env).onRaise (fun x => do noteFrame x env; theTreesLotGoes x)) _ _ s
  refine wpAny_noted ?_
  rw [compTurn_two0]
  refine wpAny_bind (wpAny_standAt (wpAny_bind (wpAny_mono (turn n s hI) (fun r s₁ h₁ => ?_) fun _ _ h' => h')))
  cases r with
  | none => exact wpAny_pure h₁
  | some v =>
    refine wpAny_bind (wpAny_of_eq (show letOwnedTupleGo (.Name x1 p1) it v = pure () by rfl) ?_)
    refine wpAny_bind (wpAny_mono h₁ (fun _ s₂ h₂ => wpAny_bind (wpAny_mono h₂ (fun x s₃ h₃ => wpAny_bind (wpAny_standAt (wpAny_bind (wpAny_of_eq (hs2 x) (wpAny_bind (wpAny_holding (wpAny_mono h₃ (fun it2 s₄ h₄ => ?_) fun _ _ h' => h'))))))) fun _ _ h' => h')) fun _ _ h' => h')
    refine wpAny_bind (wpAny_runOwn (codeAny_mono h₄ fun r s₅ h₅ => ?_))
    obtain ⟨⟨f, rfl⟩, h₅⟩ := h₅
    exact wpAny_pure ⟨rfl, h₅⟩
end
end
section
open PySem.Calls PyProof.Rows.LCg
section
variable {prog : Program} {w : World} {A : Around} {E : Value → Shared → Prop} {R : Result → Shared → Prop} {s : Shared} {elt i1 i2 : Expr} {x1 x2 : Str} {p1 p2 : Pos} {scope : Scope} {pos : Pos} {env : Env} {h₀ : Heap} {L : Addr} {m : Str → Option Value} {cl : List (Str × Addr)}
noncomputable def Off4 (I2 I C D : Addr) (led : CbLed) : Prop := ∀ p ∈ led, p.1 ≠ I2 ∧ p.1 ≠ I ∧ p.1 ≠ C ∧ p.1 ≠ D
/-- what one element leaves, where it may lay new objects down -/
inductive EltG (h₀ : Heap) (L : Addr) (m : Str → Option Value) (pre : CbLed) (off : CbLed → Prop) (s : Shared) (J : Value → CbLed → Prop) (y : Value) (s' : Shared) : Prop
  | mk (h') (tk') (led')
    (p1 : s' = { s with heap := h', toks := tk' })
    (p2 : Fr h₀ L h' m)
    (p3 : News h₀ L h' (pre ++ led'))
    (p4 : off led')
    (p5 : J y led') : EltG h₀ L m pre off s J y s'
theorem range_keep {I : Addr} {a : Int} {n i : Nat} {h h' : Heap} {o : Obj} (st : IsRangeIter h I (a + (i : Nat) * 1) ((n : Int) - (i : Nat)) 1) (e : h.get? I = some o) (e' : h'.get? I = some o) : IsRangeIter h' I (a + (i : Nat) * 1) ((n : Int) - (i : Nat)) 1 := by
  have st' : h.get? I = some _ := st
  show h'.get? I = some _
  rw [e', ← e]; exact st'
noncomputable abbrev TwoStep (prog : Program) (w : World) (A : Around) (h₀ : Heap) (L : Addr) (m : Str → Option Value) (env : Env) (elt : Expr) (x1 x2 : Str) (scope : Scope) (cl : List (Str × Addr)) (s : Shared) (n2 : Nat) (a2 : Int) (v1 : Value) (J : Nat → List Value → CbLed → Prop) (I : Addr) (oI : Obj) (C D : Addr) : Prop :=
  ∀ j v2 ys I2 oI2 oC m₂ h tk led, j < n2 → (∃ t, v2 = .int (a2 + (j : Int)) t) → J j ys led → NsObj oC m₂ → m₂ x1 = some v1 → m₂ x2 = some v2 → Fr h₀ L h m → News h₀ L h ((I2, oI2) :: (I, oI) :: (C, oC) :: (D, lst ys) :: led) → Off4 I2 I C D led →
    wpAny (model prog w) A (eval elt (compEnvC scope cl C env)) (EltG h₀ L m [(I2, oI2), (I, oI), (C, oC), (D, lst ys)] (Off4 I2 I C D) { s with heap := h, toks := tk } (fun y led' => J (j + 1) (ys ++ [y]) led')) (fun _ _ => False) { s with heap := h, toks := tk }
inductive TwoIn (h₀ : Heap) (L : Addr) (m : Str → Option Value) (s : Shared) (I2 I C D : Addr) (oI : Obj) (n2 : Nat) (a2 : Int) (v1 : Value) (x1 : Str) (J : Nat → List Value → CbLed → Prop) (k : Nat) (s' : Shared) : Prop
  | mk (h' : Heap) (tk j : Nat) (ys : List Value) (led : CbLed) (m₂ : Str → Option Value) (oC : Obj) (p1 : s' = { s with heap := h', toks := tk }) (p2 : j ≤ n2) (p3 : k = n2 + 1 - j) (p4 : J j ys led) (p5 : IsRangeIter h' I2 (a2 + (j : Nat) * 1) ((n2 : Int) - (j : Nat)) 1) (p6 : Fr h₀ L h' m) (p7 : NsObj oC m₂) (p8 : m₂ x1 = some v1) (p9 : News h₀ L h' ((I, oI) :: (C, oC) :: (D, lst ys) :: led)) (p10 : Off4 I2 I C D led) : TwoIn h₀ L m s I2 I C D oI n2 a2 v1 x1 J k s'
theorem two_inner (hh : A.handled = none) {n2 : Nat} {a2 : Int} {v1 : Value} {J : Nat → List Value → CbLed → Prop} {I2 I C D : Addr} {oI oC₀ : Obj} {m₀ : Str → Option Value} {ys₀ : List Value} {led₀ : CbLed}
    (hkind : scope.kind = .function) (hx2 : scope.names.lookup x2 = some .local) (hx : x1 ≠ x2) (hlen : ∀ j ys led, J j ys led → ys.length ≤ sizeLine)
    (step : TwoStep prog w A h₀ L m env elt x1 x2 scope cl s n2 a2 v1 J I oI C D)
    (hst : IsRangeIter s.heap I2 (a2 + ((0 : Nat) : Int) * 1) ((n2 : Int) - ((0 : Nat) : Int)) 1) (F : Fr h₀ L s.heap m) (N : News h₀ L s.heap ((I, oI) :: (C, oC₀) :: (D, lst ys₀) :: led₀)) (hoC₀ : NsObj oC₀ m₀) (hm₀ : m₀ x1 = some v1) (h0 : J 0 ys₀ led₀)
    (hI2 : I2 ≠ I ∧ I2 ≠ C ∧ I2 ≠ D) (hne : I ≠ C ∧ I ≠ D ∧ C ≠ D) (hLI2 : L ≠ I2) (hI2₀ : h₀.get? I2 = none) (hoff : Off4 I2 I C D led₀)
    (hR : ∀ h tk ys led m₂ oC, Fr h₀ L h m → News h₀ L h ((I, oI) :: (C, oC) :: (D, lst ys) :: led) → NsObj oC m₂ → Off4 I2 I C D led → J n2 ys led → R (.ok .next) { s with heap := h, toks := tk }) :
    codeAny (model prog w) A (.compStart (two elt x1 p1 i1 x2 p2 i2 scope pos) 1 (.ref I2) (.ref D) (compEnvC scope cl C env)) R s := by
  have hC := (N (C, oC₀) (.tail _ (.head _))).2
  have hD := (N (D, lst ys₀) (.tail _ (.tail _ (.head _)))).2
  have W := range_walks (prog := prog) (w := w) (I := I2) hh a2 n2
  have loop : codeAny (model prog w) A (.compLoop (two elt x1 p1 i1 x2 p2 i2 scope pos) 1 (.ref I2) (.ref D) (compEnvC scope cl C env)) R s := by
    refine loop_two1
      (TwoIn h₀ L m s I2 I C D oI n2 a2 v1 x1 J) ?_ (n2 + 1)
      ⟨s.heap, s.toks, 0, ys₀, led₀, m₀, oC₀, rfl, Nat.zero_le _, rfl, h0, hst, F, hoC₀, hm₀, N, hoff⟩
    intro k s' z1; refine veil fun vG hG => ?_; obtain ⟨h', tk, j, ys, led, m₂, oC, rfl, hj, rfl, hJ, hst', F', hoC, hm₂, N', off'⟩ := z1; refine hG ?_; clear hG vG
    have offI2 : ∀ oC, ∀ p ∈ (I, oI) :: (C, oC) :: (D, lst ys) :: led, p.1 ≠ I2 := fun oC p hp => by
      simp only [List.mem_cons] at hp
      rcases hp with rfl | rfl | rfl | hp
      · exact Ne.symm hI2.1
      · exact Ne.symm hI2.2.1
      · exact Ne.symm hI2.2.2
      · exact (off' p hp).1
    by_cases hlt : j < n2
    · refine W.item j _ _ _ hlt hst' fun v h₂ tk₂ hPv hst₂ hk₂ => ?_
      have N₂ := news_but N' hk₂ (offI2 oC)
      have F₂ := fr_but F' hk₂ hLI2 hI2₀
      refine wpAny_assign_Name (wpAny_storeName_local (lookup_relabel_local hx2) (hoC.ns (N₂ (C, oC) (.tail _ (.head _))).1) (fun h₃ hn₃ hs₃ => ?_) (by simp [compEnvC, relabel, hkind]))
      obtain ⟨oC', heC, hoC'⟩ := ns_obj hn₃
      have eI2 : h₂.get? I2 = some _ := hst₂
      have eI3 := hs₃.extBut I2 _ hI2.2.1 eI2
      have hst₃ := range_keep hst₂ eI2 eI3
      have F₃ : Fr h₀ L h₃ m := F₂.change hs₃ hC.1 hC.2
      have N₃ : News h₀ L h₃ ((I2, _) :: (I, oI) :: (C, oC') :: (D, lst ys) :: led) := fun p hp => by
        simp only [List.mem_cons] at hp
        rcases hp with rfl | rfl | rfl | rfl | hp
        · exact ⟨eI3, Ne.symm hLI2, hI2₀⟩
        · have z := N₂ (I, oI) (.head _)
          exact ⟨hs₃.extBut _ _ hne.1 z.1, z.2⟩
        · exact ⟨heC, hC⟩
        · have z := N₂ (D, lst ys) (.tail _ (.tail _ (.head _)))
          exact ⟨hs₃.extBut _ _ (Ne.symm hne.2.2) z.1, z.2⟩
        · have z := N₂ p (.tail _ (.tail _ (.tail _ (hp))))
          exact ⟨hs₃.extBut _ _ (off' p hp).2.2.1 z.1, z.2⟩
      refine wpAny_mono (step j v ys I2 _ oC' _ h₃ _ led hlt hPv hJ hoC' (by show (if x1 = x2 then _ else m₂ x1) = _; rw [if_neg hx]; exact hm₂) (by show (if x2 = x2 then _ else _) = _; rw [if_pos rfl]) F₃ N₃ off') (fun y s₅ h₅ => ?_) fun _ _ e => e.elim
      refine veil fun vG hG => ?_; obtain ⟨h₄, tk₄, led', rfl, F₄, N₄, off₄, hJ₄⟩ := h₅; refine hG ?_; clear hG vG
      have zD := (N₄ (D, lst ys) (.tail _ (.tail _ (.tail _ (.head _))))).1
      have zI2 := (N₄ (I2, _) (List.mem_append_left _ List.mem_cons_self)).1
      have hst₄ := range_keep hst₃ eI3 zI2
      refine append_at (hsz := by show ys.toArray.size ≤ sizeLine; rw [List.size_toArray]; exact hlen _ _ _ hJ) zD fun h₅ hs₅ hD₅ => ?_
      refine ⟨n2 + 1 - (j + 1), by omega, h₅, tk₄, j + 1, ys ++ [y], led', _, oC', rfl, hlt, rfl, hJ₄, range_keep hst₄ zI2 (hs₅.extBut _ _ hI2.2.2 zI2), F₄.change hs₅ hD.1 hD.2, hoC', ?_, fun p hp => ?_, off₄⟩
      · show (if x1 = x2 then _ else m₂ x1) = _
        rw [if_neg hx]; exact hm₂
      · simp only [List.mem_cons] at hp
        rcases hp with rfl | rfl | rfl | hp
        · have z := N₄ (I, oI) (.tail _ (.head _))
          exact ⟨hs₅.extBut _ _ hne.2.1 z.1, z.2⟩
        · have z := N₄ (C, oC') (.tail _ (.tail _ (.head _)))
          exact ⟨hs₅.extBut _ _ hne.2.2 z.1, z.2⟩
        · exact ⟨hD₅.trans (congrArg some (lst_snoc ys y)), hD⟩
        · have z := N₄ p (.tail _ (.tail _ (.tail _ (.tail _ (hp)))))
          exact ⟨hs₅.extBut _ _ (off₄ p hp).2.2.2 z.1, z.2⟩
    · obtain rfl : j = n2 := Nat.le_antisymm hj (Nat.not_lt.mp hlt)
      refine W.done _ _ _ hst' fun h₂ tk₂ hk₂ => ?_
      exact hR _ _ ys led m₂ oC (fr_but F' hk₂ hLI2 hI2₀) (news_but N' hk₂ (offI2 oC)) hoC off' hJ
  exact compStart_two1 loop (W.self 0 _ _ _ hst loop)
end
end
section
open PySem.Calls PyProof.Rows.LCg
section
variable {prog : Program} {w : World} {A : Around} {E : Value → Shared → Prop} {s : Shared} {elt i1 i2 : Expr} {x1 x2 : Str} {p1 p2 : Pos} {scope : Scope} {pos : Pos} {env : Env} {h₀ : Heap} {L : Addr} {m : Str → Option Value} {cl : List (Str × Addr)}
/-- a range has been laid down -/
inductive RangeOut (h₀ : Heap) (L : Addr) (m : Str → Option Value) (led : CbLed) (s : Shared) (a : Int) (n : Nat) (xv : Value) (s' : Shared) : Prop
  | mk (r) (b) (t) (u) (v) (h') (tk')
    (p1 : xv = .ref r)
    (p2 : s' = { s with heap := h', toks := tk' })
    (p3 : Fr h₀ L h' m)
    (p4 : News h₀ L h' led)
    (p5 : IsRange h' r a b 1 t u v)
    (p6 : Builtin.Range.small a b 1 = true)
    (p7 : Builtin.Range.rangeSize a b 1 = ((n : Nat) : Int)) : RangeOut h₀ L m led s a n xv s'
/-- the source of a comprehension with two clauses: two ranges; J: what stands after i turns and j turns within -/
inductive TwoSrc (prog : Program) (w : World) (A : Around) (h₀ : Heap) (L : Addr) (m : Str → Option Value) (env : Env) (elt i2 : Expr) (x1 x2 : Str) (scope : Scope) (cl : List (Str × Addr)) (y : Str) (Q : Flow → Shared → Prop) (xv : Value) (s₁ : Shared) : Prop
  | mk (r : Addr) (a b : Int) (t u v : Tok) (n : Nat) (led : CbLed) (a2 : Nat → Int) (n2 : Nat → Nat) (J : Nat → Nat → List Value → CbLed → Prop)
    (p1 : xv = .ref r)
    (p2 : A.handled = none)
    (p3 : Fr h₀ L s₁.heap m)
    (p4 : News h₀ L s₁.heap led)
    (p5 : IsRange s₁.heap r a b 1 t u v)
    (p6 : Builtin.Range.small a b 1 = true)
    (p7 : Builtin.Range.rangeSize a b 1 = ((n : Nat) : Int))
    (p8 : J 0 0 [] led)
    (p9 : (∀ i ys led, i < n → J i (n2 i) ys led → J (i + 1) 0 ys led))
    (p10 : (∀ i j ys led, J i j ys led → ys.length ≤ sizeLine))
    (p11 : (∀ i v ys I oI C oC D m₂ h tk led, i < n → (∃ t, v = .int (a + (i : Int)) t) → J i 0 ys led → NsObj oC m₂ → m₂ x1 = some v → Fr h₀ L h m → News h₀ L h ((I, oI) :: (C, oC) :: (D, lst ys) :: led) →
      wpAny (model prog w) A (eval i2 (compEnvC scope cl C env)) (RangeOut h₀ L m ((I, oI) :: (C, oC) :: (D, lst ys) :: led) s₁ (a2 i) (n2 i)) (fun _ _ => False) { s₁ with heap := h, toks := tk }))
    (p12 : (∀ i v1, i < n → (∃ t, v1 = .int (a + (i : Int)) t) → ∀ I oI C D h tk, TwoStep prog w A h₀ L m env elt x1 x2 scope cl { s₁ with heap := h, toks := tk } (n2 i) (a2 i) v1 (J i) I oI C D))
    (p13 : (∀ ys led, J n 0 ys led → ∀ D h tk, Fr h₀ L h (fun z => if z = y then some (.ref D) else m z) → News h₀ L h ((D, lst ys) :: led) → Off1 D led → Q .next { s₁ with heap := h, toks := tk })) : TwoSrc prog w A h₀ L m env elt i2 x1 x2 scope cl y Q xv s₁
inductive TwoOut (h₀ : Heap) (L : Addr) (m : Str → Option Value) (s₁ : Shared) (I C D : Addr) (n : Nat) (a : Int) (J : Nat → Nat → List Value → CbLed → Prop) (k : Nat) (s' : Shared) : Prop
  | mk (h' : Heap) (tk i : Nat) (ys : List Value) (led : CbLed) (m₂ : Str → Option Value) (oC : Obj) (p1 : s' = { s₁ with heap := h', toks := tk }) (p2 : i ≤ n) (p3 : k = n + 1 - i) (p4 : J i 0 ys led) (p5 : IsRangeIter h' I (a + (i : Nat) * 1) ((n : Int) - (i : Nat)) 1) (p6 : Fr h₀ L h' m) (p7 : NsObj oC m₂) (p8 : News h₀ L h' ((C, oC) :: (D, lst ys) :: led)) (p9 : Off4 I I C D led) : TwoOut h₀ L m s₁ I C D n a J k s'
theorem Assign_Two {y : Str} {py spos : Pos} {Q : Flow → Shared → Prop} (hLe : env.locals = L)
    (hsw : swapsWith (two elt x1 p1 i1 x2 p2 i2 scope pos) (some (.Name y py)) spos.line env = pure true)
    (hclos : closureFor scope env = pure cl) (hcell : ∀ z ∈ scope.names, z.2 ≠ .cell) (hkind : scope.kind = .function)
    (hnames : ∀ z ∈ scope.names, z.2 = .local → scope.names.lookup z.1 = some .local) (hx1 : scope.names.lookup x1 = some .local) (hx2 : scope.names.lookup x2 = some .local) (hx : x1 ≠ x2)
    (hy : env.kindOf y = some .local) (hp : (env.scope.kind == .class || (env.scope.kind == .module && env.locals != env.globals)) = false)
    (h : wpAny (model prog w) A (eval i1 env) (TwoSrc prog w A h₀ L m env elt i2 x1 x2 scope cl y Q) E s)
    (hs : ∀ x, foldedSetIterable i1 env x = pure x := by intro _; rfl) (hs2 : ∀ C x, foldedSetIterable i2 (compEnvC scope cl C env) x = pure x := by intro _ _; rfl) :
    wpAny (model prog w) A (exec (.Assign [.Name y py] (two elt x1 p1 i1 x2 p2 i2 scope pos) spos) env) Q E s := by
  subst hLe
  rw [exec_Assign_Name_used _ _ _ _ hsw]
  refine wpAny_bind (wpAny_standAt (wpAny_bind ?_))
  show wpAny _ A (do let _ ← comprehension (two elt x1 p1 i1 x2 p2 i2 scope pos) scope env _ (newList []) false (eval i1 env) (some (assign (.Name y py) env))) _ _ s
  refine wpAny_bind (wpAny_mono (wpAny_comprehension_free (use := some (assign (.Name y py) env)) (Q := fun _ s' => Q .next s') rfl hs hclos hkind hnames
    (wpAny_mono h (fun xv s₁ h₁ => ?_) fun _ _ e => e)) (fun _ s' hq => wpAny_pure (wpAny_pure hq)) fun _ _ e => e)
  refine veil fun vG hG => ?_; obtain ⟨r, a, b, t, u, v, n, led, a2, n2, J, rfl, hh, F, N, hr, hsm, hn, h0, hJn, hJl, step1, step2, fin⟩ := h₁; refine hG ?_; clear hG vG
  refine wpAny_pyIter_range hr hsm ?_
  refine wpAny_newObj_type (wpAny_newFunctionEnv hcell (by intro y hy; simp at hy) (fun h₁ hns₁ hsb₁ => ?_) hkind)
  dsimp only at hns₁ hsb₁ ⊢
  show codeAny (model prog w) A (.compStart (two elt x1 p1 i1 x2 p2 i2 scope pos) 0 (.ref s₁.heap.objs.size) (.ref (s₁.heap.push _).objs.size) (compEnvC scope cl ((s₁.heap.push _).push _).objs.size env)) _ _
  generalize hH1 : s₁.heap.push { cls := Value.type "range_iterator", data := Data.fields #[rawInt a, rawInt (Builtin.Range.rangeSize a b 1), rawInt 1] } = H1 at hns₁ hsb₁ ⊢
  generalize hH2 : H1.push { cls := Value.type "list", data := Data.seq #[] } = H2 at hns₁ hsb₁ ⊢
  obtain ⟨I, hI⟩ : ∃ I : Nat, s₁.heap.objs.size = I := ⟨_, rfl⟩
  obtain ⟨D, hDa⟩ : ∃ D : Nat, H1.objs.size = D := ⟨_, rfl⟩
  obtain ⟨C, hCa⟩ : ∃ C : Nat, H2.objs.size = C := ⟨_, rfl⟩
  have hD : @Eq Nat D (I + 1) := by rw [← hDa, ← hH1, Heap.size_push, hI]
  have hC : @Eq Nat C (I + 2) := by rw [← hCa, ← hH2, Heap.size_push, hDa, hD]
  have hr1 : H1.get? I = some { cls := Value.type "range_iterator", data := Data.fields #[rawInt a, rawInt (Builtin.Range.rangeSize a b 1), rawInt 1] } := by
    rw [← hH1, ← hI]; exact Heap.get?_push_size _ rfl
  have hr2 : H2.get? I = some { cls := Value.type "range_iterator", data := Data.fields #[rawInt a, rawInt (Builtin.Range.rangeSize a b 1), rawInt 1] } := by rw [← hH2]; exact Heap.get?_push_of_some _ hr1
  have hl2 : H2.get? D = some (lst []) := by rw [← hH2, ← hDa]; exact Heap.get?_push_size _ rfl
  rw [hI, hDa, hCa]
  rw [hCa] at hns₁ hsb₁
  have hLlt : @LT.lt Nat _ env.locals I := by rw [← hI]; exact F.ns.lt
  have olt : ∀ b o, s₁.heap.get? b = some o → @LT.lt Nat _ b I := fun b o e => by rw [← hI]; exact Heap.lt_size e
  have up1 : ∀ b o, s₁.heap.get? b = some o → H2.get? b = some o := fun b o e => by
    rw [← hH2, ← hH1]; exact Heap.get?_push_of_some _ (Heap.get?_push_of_some _ e)
  have up2 : ∀ b o, H2.get? b = some o → h₁.get? b = some o := fun b o e => by
    have h1 : @LT.lt Nat _ b C := by rw [← hCa]; exact Heap.lt_size e
    exact hsb₁.extBut b o (fun q => by have q' : @Eq Nat b C := q; omega) (Heap.get?_push_of_some _ e)
  have fresh₀ : ∀ a : Nat, I ≤ a → h₀.get? a = none := fun a ha => by
    cases e : h₀.get? a with
    | none => rfl
    | some o' => have := olt _ _ (F.keep a o' e); omega
  have hI₀ := fresh₀ I (Nat.le_refl _)
  have hC₀ := fresh₀ C (by omega)
  have hD₀ := fresh₀ D (by omega)
  have hLI : env.locals ≠ I := by intro e; have e' : @Eq Nat env.locals I := e; omega
  have hCL : C ≠ env.locals := by intro e; have e' : @Eq Nat C env.locals := e; omega
  have hDL : D ≠ env.locals := by intro e; have e' : @Eq Nat D env.locals := e; omega
  have hIC : (I : Addr) ≠ C := by intro e; have e' : @Eq Nat I C := e; omega
  have hID : (I : Addr) ≠ D := by intro e; have e' : @Eq Nat I D := e; omega
  have hCD : (C : Addr) ≠ D := by intro e; have e' : @Eq Nat C D := e; omega
  have off₀ : Off4 I I C D led := fun p hp => by
    have h1 := olt _ _ (N p hp).1
    refine ⟨?_, ?_, ?_, ?_⟩ <;> (intro e; have e' : @Eq Nat p.1 _ := e; omega)
  obtain ⟨oC₀, heC, hoC₀⟩ := ns_obj hns₁
  have W := range_walks (prog := prog) (w := w) (I := I) hh a n
  have hst₀ : IsRangeIter h₁ I (a + ((0 : Nat) : Int) * 1) ((n : Int) - ((0 : Nat) : Int)) 1 := by
    show h₁.get? I = some _
    rw [up2 _ _ hr2, hn]; simp
  have loop : codeAny (model prog w) A (.compLoop (two elt x1 p1 i1 x2 p2 i2 scope pos) 0 (.ref I) (.ref D) (compEnvC scope cl C env)) (compPost (model prog w) A E (some (assign (.Name y py) env)) (fun _ s' => Q .next s') (.ref D) C) { s₁ with heap := h₁, toks := s₁.toks + 0 } := by
    refine loop_two0 (hs2 C)
      (TwoOut h₀ env.locals m s₁ I C D n a J) ?_ (n + 1)
      ⟨h₁, _, 0, [], led, _, oC₀, rfl, Nat.zero_le _, rfl, h0, hst₀, F.keeps (fun b o e => up2 b o (up1 b o e)), hoC₀, fun p hp => ?_, off₀⟩
    · intro k s' z1; refine veil fun vG hG => ?_; obtain ⟨h', tk, i, ys, led, m₂, oC, rfl, hi, rfl, hJ, hst', F', hoC, N', off'⟩ := z1; refine hG ?_; clear hG vG
      have offI : ∀ p ∈ (C, oC) :: (D, lst ys) :: led, p.1 ≠ I := fun p hp => by
        simp only [List.mem_cons] at hp
        rcases hp with rfl | rfl | hp
        · exact Ne.symm hIC
        · exact Ne.symm hID
        · exact (off' p hp).1
      by_cases hlt : i < n
      · refine W.item i _ _ _ hlt hst' fun v h₂ tk₂ hPv hst₂ hk₂ => ?_
        have N₂ := news_but N' hk₂ offI
        have F₂ := fr_but F' hk₂ hLI hI₀
        refine wpAny_assign_Name (wpAny_storeName_local (lookup_relabel_local hx1) (hoC.ns (N₂ (C, oC) (.head _)).1) (fun h₃ hn₃ hs₃ => ?_) (by simp [compEnvC, relabel, hkind]))
        obtain ⟨oC', heC', hoC'⟩ := ns_obj hn₃
        have eI2 : h₂.get? I = some _ := hst₂
        have eI3 := hs₃.extBut I _ hIC eI2
        have hst₃ := range_keep hst₂ eI2 eI3
        have F₃ : Fr h₀ env.locals h₃ m := F₂.change hs₃ hCL hC₀
        have N₃ : News h₀ env.locals h₃ ((I, _) :: (C, oC') :: (D, lst ys) :: led) := fun p hp => by
          simp only [List.mem_cons] at hp
          rcases hp with rfl | rfl | rfl | hp
          · exact ⟨eI3, Ne.symm hLI, hI₀⟩
          · exact ⟨heC', hCL, hC₀⟩
          · have z := N₂ (D, lst ys) (.tail _ (.head _))
            exact ⟨hs₃.extBut _ _ (Ne.symm hCD) z.1, z.2⟩
          · have z := N₂ p (.tail _ (.tail _ (hp)))
            exact ⟨hs₃.extBut _ _ (off' p hp).2.2.1 z.1, z.2⟩
        refine wpAny_mono (step1 i v ys I _ C oC' D _ h₃ _ led hlt hPv hJ hoC' (by show (if x1 = x1 then _ else _) = _; rw [if_pos rfl]) F₃ N₃) (fun xv2 s₄ h₄ => ?_) fun _ _ e => e.elim
        refine veil fun vG hG => ?_; obtain ⟨r2, b2, t2, u2, v2, h₄, tk₄, rfl, rfl, F₄, N₄, hr₄, hsm₄, hn₄⟩ := h₄; refine hG ?_; clear hG vG
        refine wpAny_pyIter_range hr₄ hsm₄ ?_
        obtain ⟨I2, hI2⟩ : ∃ I2 : Nat, h₄.objs.size = I2 := ⟨_, rfl⟩
        have lt4 : ∀ p ∈ (I, _) :: (C, oC') :: (D, lst ys) :: led, @LT.lt Nat _ p.1 I2 := fun p hp => by rw [← hI2]; exact Heap.lt_size (N₄ p hp).1
        have ltI := lt4 (I, _) List.mem_cons_self
        have ltC := lt4 (C, oC') (.tail _ (.head _))
        have ltD := lt4 (D, lst ys) (.tail _ (.tail _ (.head _)))
        dsimp only at ltI ltC ltD
        have up4 : ∀ b o, h₄.get? b = some o → (h₄.push { cls := Value.type "range_iterator", data := Data.fields #[rawInt (a2 i), rawInt (Builtin.Range.rangeSize (a2 i) b2 1), rawInt 1] }).get? b = some o := fun b o e => Heap.get?_push_of_some _ e
        have hr5 : (h₄.push { cls := Value.type "range_iterator", data := Data.fields #[rawInt (a2 i), rawInt (Builtin.Range.rangeSize (a2 i) b2 1), rawInt 1] }).get? I2 = some { cls := Value.type "range_iterator", data := Data.fields #[rawInt (a2 i), rawInt (Builtin.Range.rangeSize (a2 i) b2 1), rawInt 1] } := by
          rw [← hI2]; exact Heap.get?_push_size _ rfl
        have hI2₀ : h₀.get? I2 = none := fresh₀ I2 (by omega)
        show codeAny (model prog w) A (.compStart (two elt x1 p1 i1 x2 p2 i2 scope pos) 1 (.ref h₄.objs.size) (.ref D) (compEnvC scope cl C env)) _ _
        rw [hI2]
        refine two_inner (n2 := n2 i) (a2 := a2 i) (v1 := v) (J := J i) (oC₀ := oC') (ys₀ := ys) (led₀ := led) hh hkind hx2 hx (hJl i) (step2 i v hlt hPv I _ C D _ tk₄) ?_ (F₄.keeps up4) (N₄.grown up4) hoC' (by show (if x1 = x1 then _ else _) = _; rw [if_pos rfl]) hJ ⟨?_, ?_, ?_⟩ ⟨hIC, hID, hCD⟩ ?_ hI2₀ (fun p hp => ?_) ?_
        · show Heap.get? _ I2 = some _
          rw [hr5, hn₄]; simp
        · intro e; have e' : @Eq Nat I2 I := e; omega
        · intro e; have e' : @Eq Nat I2 C := e; omega
        · intro e; have e' : @Eq Nat I2 D := e; omega
        · intro e; have e' : @Eq Nat env.locals I2 := e; omega
        · have h1 := lt4 p (.tail _ (.tail _ (.tail _ (hp))))
          exact ⟨fun e => by have e' : @Eq Nat p.1 I2 := e; omega, (off' p hp).2⟩
        · intro h₅ tk₅ ys₅ led₅ m₅ oC₅ F₅ N₅ hoC₅ off₅ hJ₅
          have zI := (N₅ (I, _) List.mem_cons_self).1
          refine ⟨⟨_, rfl⟩, n + 1 - (i + 1), by omega, h₅, tk₅, i + 1, ys₅, led₅, m₅, oC₅, rfl, hlt, rfl, hJn _ _ _ hlt hJ₅, range_keep hst₃ eI3 zI, F₅, hoC₅, fun p hp => N₅ p (.tail _ hp), fun p hp => ?_⟩
          have z := off₅ p hp
          exact ⟨z.2.1, z.2.1, z.2.2⟩
      · obtain rfl : i = n := Nat.le_antisymm hi (Nat.not_lt.mp hlt)
        refine W.done _ _ _ hst' fun h₂ tk₂ hk₂ => ?_
        have N₂ := news_but N' hk₂ offI
        have F₂ := fr_but F' hk₂ hLI hI₀
        show wpAny _ A (assign (.Name y py) env (.ref D)) _ _ _
        refine wpAny_assign_Name (wpAny_storeName_local hy F₂.ns (fun h₃ hn₃ hs₃ => ?_) hp)
        have hL₀ : h₀.get? env.locals = none := Heap.get?_none_of_le F₂.above
        have F₃ : Fr h₀ env.locals h₃ (fun z => if z = y then some (.ref D) else m z) := ⟨hn₃, fun b o e => hs₃.extBut b o (fun q => by rw [q, hL₀] at e; cases e) (F₂.keep b o e), F₂.above⟩
        refine ⟨m₂, (hoC.ns (N₂ (C, oC) (.head _)).1).sameBut hs₃ hCL, fun h'' hs'' => fin ys led hJ D h'' _ (F₃.change hs'' hCL hC₀) (fun p hp => ?_) (offOne fun p hp => (off' p hp).2.2.2)⟩
        have z := N₂ p (.tail _ hp)
        have z3 : h₃.get? p.1 = some p.2 := hs₃.extBut _ _ z.2.1 z.1
        refine ⟨hs''.extBut _ _ ?_ z3, z.2⟩
        rcases List.mem_cons.mp hp with rfl | hp
        · exact Ne.symm hCD
        · exact (off' p hp).2.2.1
    · simp only [List.mem_cons] at hp
      rcases hp with rfl | rfl | hp
      · exact ⟨heC, hCL, hC₀⟩
      · exact ⟨up2 _ _ hl2, hDL, hD₀⟩
      · exact ⟨up2 _ _ (up1 _ _ (N p hp).1), (N p hp).2⟩
  exact codeAny_compStart_list loop (W.self 0 _ _ _ hst₀ loop)
end
end
section
open PyProof.Rows.LCg
noncomputable def pickR : List Stmt → List Stmt
  | _ :: _ :: _ :: _ :: _ :: _ :: _ :: _ :: _ :: _ :: _ :: _ :: _ :: _ :: _ :: _ :: _ :: _ :: _ :: _ :: _ :: _ :: _ :: a :: _ => [a]
  | _ => []
noncomputable abbrev partR : List Stmt := by
  refine (fun (_ : pickR body30 = ?b) => ?b) ?h
  case h => conv => lhs; whnf
noncomputable def pairRow (i j : Nat) : List (Int × Int) := (List.range j).map fun (j : Nat) => ((i : Int), (i : Int) + 2 + (j : Int))
noncomputable def pairsAt (i j : Nat) : List (Int × Int) := ((List.range i).flatMap fun k => pairRow k (5 - k)) ++ pairRow i j
noncomputable def pairsF : List (Int × Int) := pairsAt 5 0
theorem pairsAt_row (i : Nat) : pairsAt i (5 - i) = pairsAt (i + 1) 0 := by
  unfold pairsAt
  rw [List.range_succ, List.flatMap_append]
  simp [pairRow]
theorem pairsAt_next (i j : Nat) : pairsAt i (j + 1) = pairsAt i j ++ [((i : Int), (i : Int) + 2 + (j : Int))] := by
  unfold pairsAt pairRow
  rw [List.range_succ, List.map_append, ← List.append_assoc]
  rfl
theorem PairV.mono {a b : CbLed} (h : ∀ p ∈ a, p ∈ b) {v : Value} {r : Int × Int} : PairV a v r → PairV b v r := fun ⟨ar, t1, t2, e, hm⟩ => ⟨ar, t1, t2, e, h _ hm⟩
inductive PairsJ (R : CbLed) (i j : Nat) (ys : List Value) (led : CbLed) : Prop
  | mk (tl : CbLed) (p1 : led = tl ++ R) (p2 : Seqs tl) (p3 : All2 (PairV tl) ys (pairsAt i j)) (p4 : ys.length ≤ 5 * i + j) (p5 : j ≤ 5 - i) (p6 : i ≤ 5) : PairsJ R i j ys led
theorem TwoSrc.intro {prog : Program} {w : World} {A : Around} {h₀ : Heap} {L : Addr} {m : Str → Option Value} {env : Env} {elt i2 : Expr} {x1 x2 : Str} {scope : Scope} {cl : List (Str × Addr)} {y : Str} {Q : Flow → Shared → Prop} {r : Addr} {s₁ : Shared} {a b : Int} {t u v : Tok} (n : Nat) {led : CbLed} (a2 : Nat → Int) (n2 : Nat → Nat) (J : Nat → Nat → List Value → CbLed → Prop)
    (hh : A.handled = none) (F : Fr h₀ L s₁.heap m) (N : News h₀ L s₁.heap led) (hr : IsRange s₁.heap r a b 1 t u v) (hsm : Builtin.Range.small a b 1 = true) (hn : Builtin.Range.rangeSize a b 1 = ((n : Nat) : Int))
    (h0 : J 0 0 [] led) (hJ : ∀ i ys led, i < n → J i (n2 i) ys led → J (i + 1) 0 ys led) (hl : ∀ i j ys led, J i j ys led → ys.length ≤ sizeLine)
    (step1 : ∀ i v ys I oI C oC D m₂ h tk led, i < n → (∃ t, v = .int (a + (i : Int)) t) → J i 0 ys led → NsObj oC m₂ → m₂ x1 = some v → Fr h₀ L h m → News h₀ L h ((I, oI) :: (C, oC) :: (D, lst ys) :: led) →
      wpAny (model prog w) A (eval i2 (compEnvC scope cl C env)) (RangeOut h₀ L m ((I, oI) :: (C, oC) :: (D, lst ys) :: led) s₁ (a2 i) (n2 i)) (fun _ _ => False) { s₁ with heap := h, toks := tk })
    (step2 : ∀ i v1, i < n → (∃ t, v1 = .int (a + (i : Int)) t) → ∀ I oI C D h tk, TwoStep prog w A h₀ L m env elt x1 x2 scope cl { s₁ with heap := h, toks := tk } (n2 i) (a2 i) v1 (J i) I oI C D)
    (fin : ∀ ys led, J n 0 ys led → ∀ D h tk, Fr h₀ L h (fun z => if z = y then some (.ref D) else m z) → News h₀ L h ((D, lst ys) :: led) → Off1 D led → Q .next { s₁ with heap := h, toks := tk }) :
    TwoSrc prog w A h₀ L m env elt i2 x1 x2 scope cl y Q (.ref r) s₁ := ⟨r, a, b, t, u, v, n, led, a2, n2, J, rfl, hh, F, N, hr, hsm, hn, h0, hJ, hl, step1, step2, fin⟩
section
set_option maxHeartbeats 4000000
local macro_rules | `(tactic| walk_at "TwoSrc") => `(tactic| refine Stop.intro ?_)
theorem law_r (w : World) {lo : List Str} {mean : ExcName → Option Value} {mg mb : Str → Option Value} (fa : Addr) (cc : Value) (base g : Heap) (L : Addr) (m : Str → Option Value) (s : Shared) (Q : Flow → Shared → Prop)
    (B : Below callerA base [] g) (X : (K w.params).In g) (T : Top q lo mean mg mb g) (hD : DictAt w g) (F : Fr g L s.heap m) (o1 o2 o3 o4 o5 o6 o7 o8 : Obj)
    (ex : CbLed) (hE : Seqs ex) (c1 c2 c3 c4 c5 c6 c7 c8 : Option Value) (aT : Addr)
    (d1 : o1.data = Data.cell c1) (d2 : o2.data = Data.cell c2) (d3 : o3.data = Data.cell c3) (d4 : o4.data = Data.cell c4) (d5 : o5.data = Data.cell c5) (d6 : o6.data = Data.cell c6) (d7 : o7.data = Data.cell c7) (d8 : o8.data = Data.cell c8)
    (mm : m (Str.ofString "turns") = some (.ref aT))
    (N : News g L s.heap ((L + 1 + 1 + 1 + 1 + 1 + 1 + 1 + 1, o8) :: (L + 1 + 1 + 1 + 1 + 1 + 1 + 1, o7) :: (L + 1 + 1 + 1 + 1 + 1 + 1, o6) :: (L + 1 + 1 + 1 + 1 + 1, o5) :: (L + 1 + 1 + 1 + 1, o4) :: (L + 1 + 1 + 1, o3) :: (L + 1 + 1, o2) :: (L + 1, o1) :: ex))
    (hQ : ∀ (h' : Heap) (tk : Nat) (m' : Str → Option Value) (o1 o2 o3 o4 o5 o6 o7 o8 : Obj) (ex' : CbLed) (aQ : Addr) (vsQ : List Value) (kQ : Nat), Fr g L h' m' → o1.data = Data.cell c1 → o2.data = Data.cell c2 → o3.data = Data.cell c3 → o4.data = Data.cell c4 → o5.data = Data.cell c5 → o6.data = Data.cell c6 → o7.data = Data.cell c7 → o8.data = Data.cell c8 → Seqs ex' → News g L h' ((L + 1 + 1 + 1 + 1 + 1 + 1 + 1 + 1, o8) :: (L + 1 + 1 + 1 + 1 + 1 + 1 + 1, o7) :: (L + 1 + 1 + 1 + 1 + 1 + 1, o6) :: (L + 1 + 1 + 1 + 1 + 1, o5) :: (L + 1 + 1 + 1 + 1, o4) :: (L + 1 + 1 + 1, o3) :: (L + 1 + 1, o2) :: (L + 1, o1) :: ex') → (∀ p ∈ ex, p ∈ ex') → (aQ, listOf vsQ.toArray kQ) ∈ ex' → All2 (PairV ex') vsQ pairsF → m' (Str.ofString "turns") = some (.ref aT) → m' (Str.ofString "pairs") = some (.ref aQ) → Q .next { s with heap := h', toks := tk }) :
    wpAny (model PySem.Challenge.rw_tc0086_01.prog w) (callerA.deeper (envOfC (Str.ofString "law") scope30 L fa cc)) (execs partR (envOfC (Str.ofString "law") scope30 L fa cc)) Q (fun _ _ => False) s := by
  revert X
  k_fill
  intro X
  k_steps
  refine Stop.go (Assign_Two (h₀ := g) (L := L) (m := m) (by rfl) (by with_unfolding_all rfl) (by with_unfolding_all rfl) (by decide) (by rfl) (by decide) (by rfl) (by rfl) (by decide) (by rfl) (by rfl) ?_)
  k_steps
  rename_i hr F5 N5 hk5
  refine Stop.go (TwoSrc.intro 5 (fun i => 0 + (i : Int) + 2) (fun i => 5 - i) (PairsJ ((L+1+1+1+1+1+1+1+1, o8) :: (L+1+1+1+1+1+1+1, o7) :: (L+1+1+1+1+1+1, o6) :: (L+1+1+1+1+1, o5) :: (L+1+1+1+1, o4) :: (L+1+1+1, o3) :: (L+1+1, o2) :: (L+1, o1) :: ex)) rfl F5 N5 hr (by decide) (by decide) ⟨[], rfl, (fun _ h => absurd h List.not_mem_nil), .nil, Nat.le_refl _, by omega, by omega⟩ ?_ ?_ ?_ ?_ ?_)
  · intro i ys led hi z1; refine veil fun vG hG => ?_; obtain ⟨tl, rfl, hS, hA, hl, hj, hi5⟩ := z1; refine hG ?_; clear hG vG
    rw [pairsAt_row] at hA
    exact ⟨tl, rfl, hS, hA, by omega, by omega, by omega⟩
  · intro i j ys led z1; refine veil fun vG hG => ?_; obtain ⟨tl, rfl, hS, hA, hl, hj, hi5⟩ := z1; refine hG ?_; clear hG vG
    rw [sizeLine_eq]
    omega
  · intro i _ ys I oI C oC D m₂ h tk led hi z1 z2 hC hx F N; refine veil fun vG hG => ?_; obtain ⟨t, rfl⟩ := z1; obtain ⟨tl, rfl, hS, hA, hl, hj, _⟩ := z2; refine hG ?_; clear hG vG
    k_steps
    rename_i hr6 F6 N6 hk6
    exact ⟨_, _, _, _, _, _, _, rfl, rfl, F6, N6, hr6, small_one (by omega) (by omega) (by omega) (by omega), by rw [rangeSize_nat]; omega⟩
  · intro i _ hi z1 I oI C D h tk j _ ys I2 oI2 oC m₂ h tk led hj z2 z3 hC hx1 hx2 F N off; refine veil fun vG hG => ?_; obtain ⟨t1, rfl⟩ := z1; obtain ⟨t2, rfl⟩ := z2; obtain ⟨tl, rfl, hS, hA, hl, hj', hi5⟩ := z3; refine hG ?_; clear hG vG
    k_steps
    rename_i D' h6 F6 N6 l1
    have e1 : 0 + (i : Int) = i := Int.zero_add _
    rw [e1] at N6
    refine veil fun vG hG => ?_; obtain ⟨q1, q2, q3, q4, q5⟩ := l1; refine hG ?_; clear hG vG
    refine ⟨_, _, (D', { cls := Value.type "tuple", data := Data.seq #[Value.int i t1, Value.int (i + 2 + j) t2] }) :: (tl ++ _), rfl, F6, (fun p hp => N6 p ?_), fun p hp => ?_, _ :: tl, rfl, Seqs.cons rfl hS, ?_, ?_, by omega, hi5⟩
    · exact mov4 hp
    · rcases List.mem_cons.mp hp with rfl | hp
      · exact ⟨Nat.ne_of_gt q1, Nat.ne_of_gt q2, Nat.ne_of_gt q3, Nat.ne_of_gt q4⟩
      · exact off p hp
    · rw [pairsAt_next]
      exact (hA.mono fun _ _ x => x.mono fun q hq => .tail _ hq).snoc ⟨D', t1, t2, rfl, .head _⟩
    · rw [List.length_append, List.length_singleton]; omega
  · intro ys led z1 D h tk F N off; refine veil fun vG hG => ?_; obtain ⟨tl, rfl, hS, hA, hl, hj, _⟩ := z1; refine hG ?_; clear hG vG
    have N8 := swap8 (new := (D, _) :: tl) N
    clear N
    have hE8 : Seqs (((D, lst ys) :: tl) ++ ex) := (Seqs.cons rfl hS).append hE
    k_steps
    exact hQ _ _ _ o1 o2 o3 o4 o5 o6 o7 o8 (((D, lst ys) :: tl) ++ ex) D ys ys.length (by assumption) d1 d2 d3 d4 d5 d6 d7 d8 hE8 (by assumption) (fun p hp => List.mem_append_right _ hp) (List.mem_append_left _ List.mem_cons_self) (hA.mono fun _ _ x => x.mono fun q hq => List.mem_append_left _ (.tail _ hq)) (by ((try dsimp only); repeat (first | assumption | exact if_pos rfl | refine (if_neg (by decide)).trans ?_))) (by ((try dsimp only); repeat (first | assumption | exact if_pos rfl | refine (if_neg (by decide)).trans ?_)))
end
end
section
local macro_rules | `(tactic| walk_at "execs cons") => `(tactic| (refine gen_toks (fun tk hle => ?_); (try dsimp only at hle); (with_reducible refine wpAny_execs_cons ?_); try dsimp only))
local macro_rules | `(tactic| walk_at "execs nil") => `(tactic| ((with_reducible refine wpAny_execs_nil ?_); try dsimp only))
section
local macro_rules | `(tactic| walk_at "subscriptTail Name Name ref int") => `(tactic| walk_at "mine rows")
local macro_rules | `(tactic| walk_at "subscriptTail Name BinOp ref int") => `(tactic| walk_at "mine rows")
local macro_rules | `(tactic| walk_at "subscriptTail Name Subscript ref int") => `(tactic| walk_at "mine rows")
local macro_rules | `(tactic| walk_at "subscriptTail Subscript Name Name Name ref int") => `(tactic| walk_at "mine intsA")
local macro_rules | `(tactic| walk_at "subscriptTail Subscript Name Name BinOp ref int") => `(tactic| walk_at "mine intsA")
local macro_rules | `(tactic| walk_at "subscriptTail Subscript Name BinOp Name ref int") => `(tactic| walk_at "mine intsA")
local macro_rules | `(tactic| walk_at "subscriptTail Subscript Name BinOp BinOp ref int") => `(tactic| walk_at "mine intsA")
local macro_rules | `(tactic| walk_at "subscriptTail Subscript Name Subscript Subscript ref int") => `(tactic| walk_at "mine intsA")
section
noncomputable def pickO : List Stmt → List Stmt
  | _ :: _ :: _ :: _ :: _ :: _ :: _ :: _ :: _ :: _ :: _ :: _ :: _ :: _ :: _ :: _ :: _ :: _ :: _ :: _ :: _ :: _ :: _ :: _ :: _ :: a :: _ => [a]
  | _ => []
noncomputable abbrev partO : List Stmt := by
  refine (fun (_ : pickO body30 = ?b) => ?b) ?h
  case h => conv => lhs; whnf
theorem Picked.none {Y : Nat → Value → Prop} {n : Nat} {ys : List Value} (h : Picked (fun _ => false) Y n ys) : ys = [] := by
  induction h with
  | zero => rfl
  | skip _ _ ih => exact ih
  | take _ hb _ _ => cases hb
section
set_option maxHeartbeats 4000000
local macro_rules | `(tactic| walk_at "compareOp NotEq ref ref") => `(tactic| refine Stop.intro ?_)
local macro_rules | `(tactic| walk_at "subscriptTail Name Constant ref int") => `(tactic| walk_at "mine tup")
local macro_rules | `(tactic| walk_at "binaryOp Add ref ref") => `(tactic| (k_dflt (refine' kmk_add_ints ?F ?N ?a ?b ?i ?j ?_ ?z; (case F => assumption); (case N => assumption); (case a => exact News.isList (by assumption) (by k_mem)); (case b => exact News.isList (by assumption) (by k_mem)); (case i => assumption); (case j => assumption); (case z => ((try simp only [List.length_append]); rw [sizeLine_eq]; omega))); intro D' ws' h' F' N' l1 hI'))
theorem law_o (w : World) {lo : List Str} {mean : ExcName → Option Value} {mg mb : Str → Option Value} (fa : Addr) (cc : Value) (base g : Heap) (L : Addr) (m : Str → Option Value) (s : Shared) (Q : Flow → Shared → Prop)
    (B : Below callerA base [] g) (X : (K w.params).In g) (T : Top q lo mean mg mb g) (hD : DictAt w g) (F : Fr g L s.heap m) (o1 o2 o3 o4 o5 o6 o7 o8 : Obj)
    (ex : CbLed) (hE : Seqs ex) (c1 c2 c3 c4 c5 c7 : Option Value) (aC aT aF aQ : Addr) (vsC vsT vsF vsQ : List Value) (kC kT kF kQ : Nat) (cols ts : List Int) (rs : List (List Int)) (prs : List (Int × Int))
    (d1 : o1.data = Data.cell c1) (d2 : o2.data = Data.cell c2) (d3 : o3.data = Data.cell c3) (d4 : o4.data = Data.cell c4) (d5 : o5.data = Data.cell c5) (d6 : o6.data = Data.cell (some (.ref aC))) (d7 : o7.data = Data.cell c7) (d8 : o8.data = Data.cell (some (.ref aF)))
    (mm : m (Str.ofString "pairs") = some (.ref aQ)) (mt : m (Str.ofString "turns") = some (.ref aT)) (mC : (aC, listOf vsC.toArray kC) ∈ ex) (iC : IntsAre vsC cols) (hcn : cols.length = 6) (mT : (aT, listOf vsT.toArray kT) ∈ ex) (iT : IntsAre vsT ts) (htn : ts.length = 5) (mF : (aF, listOf vsF.toArray kF) ∈ ex) (iF : All2 (RowV ex) vsF rs) (hl7 : rs.length = 7) (hr7 : ∀ r ∈ rs, 7 ≤ r.length ∧ r.length ≤ 8) (mQ : (aQ, listOf vsQ.toArray kQ) ∈ ex) (iQ : All2 (PairV ex) vsQ prs) (hqn : prs.length ≤ 20) (hpr : ∀ p ∈ prs, 0 ≤ p.1 ∧ p.1 + 2 ≤ p.2 ∧ p.2 ≤ 6)
    (N : News g L s.heap ((L + 1 + 1 + 1 + 1 + 1 + 1 + 1 + 1, o8) :: (L + 1 + 1 + 1 + 1 + 1 + 1 + 1, o7) :: (L + 1 + 1 + 1 + 1 + 1 + 1, o6) :: (L + 1 + 1 + 1 + 1 + 1, o5) :: (L + 1 + 1 + 1 + 1, o4) :: (L + 1 + 1 + 1, o3) :: (L + 1 + 1, o2) :: (L + 1, o1) :: ex))
    (hQ : ∀ (h' : Heap) (tk : Nat) (m' : Str → Option Value) (o1 o2 o3 o4 o5 o6 o7 o8 : Obj) (ex' : CbLed) , Fr g L h' m' → o1.data = Data.cell c1 → o2.data = Data.cell c2 → o3.data = Data.cell c3 → o4.data = Data.cell c4 → o5.data = Data.cell c5 → o6.data = Data.cell (some (.ref aC)) → o7.data = Data.cell c7 → o8.data = Data.cell (some (.ref aF)) → Seqs ex' → News g L h' ((L + 1 + 1 + 1 + 1 + 1 + 1 + 1 + 1, o8) :: (L + 1 + 1 + 1 + 1 + 1 + 1 + 1, o7) :: (L + 1 + 1 + 1 + 1 + 1 + 1, o6) :: (L + 1 + 1 + 1 + 1 + 1, o5) :: (L + 1 + 1 + 1 + 1, o4) :: (L + 1 + 1 + 1, o3) :: (L + 1 + 1, o2) :: (L + 1, o1) :: ex') → ex' = ex → m' = m → Q .next { s with heap := h', toks := tk }) :
    wpAny (model PySem.Challenge.rw_tc0086_01.prog w) (callerA.deeper (envOfC (Str.ofString "law") scope30 L fa cc)) (execs partO (envOfC (Str.ofString "law") scope30 L fa cc)) Q (fun _ _ => False) s := by
  revert X
  k_fill
  intro X
  k_steps
  refine Stop.go (PyProof.Rows.LCt.ListComp_T (F₀ := by assumption) (by with_unfolding_all rfl) (by decide) (by rfl) (by decide) (by rfl) ?_)
  k_steps
  refine Stop.go (PyProof.Rows.LCg.ListComp_U (F₀ := by assumption) (by with_unfolding_all rfl) (by decide) (by rfl) (by decide) (by rfl) ?_)
  k_steps
  refine Stop.go (src_U rfl (by assumption) (by assumption) (.tail _ (sub8 mQ)) (by rw [iQ.len, sizeLine_eq]; omega) (Y := fun i v => ∃ t, v = .int (fz rs (prs.getD i (0, 0)).1 (prs.getD i (0, 0)).2) t) ?_ ?_)
  · intro i v ys I oI C oC D m₂ h tk hv hC hx F N off ne
    refine veil fun vG hG => ?_; obtain ⟨p, hp, a, t1, t2, rfl, ma⟩ := iQ.at hv; refine hG ?_; clear hG vG
    obtain ⟨p1, p2, p3⟩ := hpr p (List.mem_of_getElem? hp)
    have ep : prs.getD i (0, 0) = p := by rw [List.getD_eq_getElem?_getD, hp]; rfl
    rw [ep]
    k_steps
    exact ⟨⟨_, rfl⟩, _, _, rfl, by assumption, by assumption⟩
  · intro ys hys D h tk F N off
    rw [iQ.len] at hys
    have hI := ((hys.all (ps := prs) (R := fun v p => IntV v (fz rs p.1 p.2)) (fun i p y e hy => by
      obtain ⟨t, rfl⟩ := hy
      exact ⟨t, by rw [List.getD_eq_getElem?_getD, e]; rfl⟩)).map).ints
    have hIl : (prs.map fun p => fz rs p.1 p.2).length ≤ 20 := by rw [List.length_map]; exact hqn
    generalize (prs.map fun p => fz rs p.1 p.2) = fzs at hI hIl
    k_steps
    rename_i D2 ws2 h2 F2 N2 l2 hI2
    have hn2 := hI2.length
    refine Stop.go (src_T rfl (by assumption) (by assumption) (.head _) (by rw [hn2, sizeLine_eq]; simp only [List.length_append]; omega) (b := fun _ => false) (Y := fun _ _ => True) ?_ ?_)
    · intro i v zs I oI C oC Dc m₂ h tk hv hC hx F N off ne
      refine veil fun vG hG => ?_; obtain ⟨x, tx, rfl, hx2⟩ := IntsAre.at hI2 i v hv; refine hG ?_; clear hG vG
      k_steps
      exact TestOut.intro rfl (by assumption) (by assumption) fun hok => absurd hok (by decide)
    · intro zs hzs Dc h tk F N off
      obtain rfl := hzs.none
      k_steps
      rename_i l' h3 F3 N3 l3
      refine Stop.go (ne_same N3 (a := Dc) (b := l') (vs := []) (us := []) (k := 0) (k' := 0) (by k_mem) .nil (by k_mem) .nil rfl (by first | units_room | ktr_units | exact of_decide_eq_true rfl | exact Nat.le_of_ble_eq_true rfl) ?_)
      k_steps
      exact hQ _ _ _ o1 o2 o3 o4 o5 o6 o7 o8 ex (by assumption) d1 d2 d3 d4 d5 d6 d7 d8 hE (newsSub ‹News g L _ (_ :: _)› fun p hp => by first | k_mem | exact sub8x hp) rfl rfl
end
end
section
open PyProof.Rows.LCg
/-- a sort's questions answered by a plain function -/
noncomputable def kasRun {α : Type} (lt : Nat → Nat → Bool) : KasT α → α
  | .ret a => a
  | .ask i j k => kasRun lt (k (lt i j))
noncomputable def kasSafe {α : Type} (n : Nat) (lt : Nat → Nat → Bool) : KasT α → Bool
  | .ret _ => true
  | .ask i j k => decide (i < n) && decide (j < n) && kasSafe n lt (k (lt i j))
theorem kas_run {α : Type} {cmp : Nat → Nat → (Bool → Shared → Prop) → Shared → Prop} {n : Nat} {lt : Nat → Nat → Bool} {s : Shared} (hc : ∀ i j C, i < n → j < n → C (lt i j) s → cmp i j C s) {Q : α → Shared → Prop} : ∀ t : KasT α, kasSafe n lt t = true → Q (kasRun lt t) s → t.kasWp cmp Q s
  | .ret _, _, h => h
  | .ask i j k, hs, h => by
    unfold kasSafe at hs
    simp only [Bool.and_eq_true, decide_eq_true_eq] at hs
    exact hc i j _ hs.1.1 hs.1.2 (kas_run hc (k (lt i j)) hs.2 h)
noncomputable def ltPair (p q : Int × Int) : Bool := if p.1 = q.1 then decide (p.2 < q.2) else decide (p.1 < q.1)
noncomputable def ltAt (ps : List (Int × Int)) (i j : Nat) : Bool := ltPair (ps.getD i (0, 0)) (ps.getD j (0, 0))
noncomputable def sortOf (ps : List (Int × Int)) : List (Int × Int) := (kasRun (ltAt ps) (kas_sort ps.length)).toList.map fun i => ps.getD i (0, 0)
noncomputable def sortSafe (ps : List (Int × Int)) : Bool := kasSafe ps.length (ltAt ps) (kas_sort ps.length) && (kasRun (ltAt ps) (kas_sort ps.length)).toList.all fun i => decide (i < ps.length)
section
variable {prog : Program} {w : World} {A : Around} {E : Value → Shared → Prop} {s : Shared} {h₀ : Heap} {L : Addr} {m : Str → Option Value} {news ex : CbLed}
theorem All2.getD {vs : List Value} {ps : List (Int × Int)} (h : All2 (PairV news) vs ps) {i : Nat} (hi : i < ps.length) : ∃ a t1 t2, vs.getD i Value.none = .ref a ∧ (a, ({ cls := .type "tuple", data := .seq #[.int (ps.getD i (0, 0)).1 t1, .int (ps.getD i (0, 0)).2 t2] } : Obj)) ∈ news := by
  have hl := h.len
  have e : vs[i]? = some vs[i] := List.getElem?_eq_getElem (by omega)
  obtain ⟨p, hp, a, t1, t2, e2, hm⟩ := h.at e
  refine ⟨a, t1, t2, ?_, ?_⟩
  · rw [List.getD_eq_getElem?_getD, e]; exact e2
  · rw [List.getD_eq_getElem?_getD, hp]; exact hm
theorem lt_pairs {C : Bool → Shared → Prop} {vs : List Value} {ps : List (Int × Int)} (N : News h₀ L s.heap news) (h : All2 (PairV news) vs ps) {i j : Nat} (hi : i < ps.length) (hj : j < ps.length) (hC : C (ltAt ps i j) s) :
    kas_ask prog w A (tuples' true) vs i j C s := by
  obtain ⟨a, t1, t2, e1, m1⟩ := h.getD hi
  obtain ⟨b, u1, u2, e2, m2⟩ := h.getD hj
  unfold kas_ask
  rw [e1, e2]
  unfold ltAt at hC
  generalize ps.getD i (0, 0) = p at *
  generalize ps.getD j (0, 0) = q at *
  refine kat_lt (N.get m1) rfl (N.get m2) rfl ?_
  show KatLex prog w A true _ C [(.int p.1 t1, .int q.1 u1), (.int p.2 t2, .int q.2 u2)] 0 s
  refine kat_cons (wpAny_eqBool_int (kat_go (fun hk => ?_) (fun hk => ?_)))
  · have e : p.1 = q.1 := by simpa using hk
    refine kat_yes (kat_cons (wpAny_eqBool_int (kat_go (fun hk2 => kat_yes (kat_nil ?_)) (fun hk2 => kat_no (kat_one _ _ (PyProof.Rows.lt_int ?_))))))
    · have e2 : p.2 = q.2 := by simpa using hk2
      have : ltPair p q = false := by unfold ltPair; rw [if_pos e, e2]; simp
      rw [this] at hC
      exact hC
    · have : ltPair p q = decide (p.2 < q.2) := by unfold ltPair; rw [if_pos e]
      rw [this] at hC
      exact hC
  · have e : ¬ p.1 = q.1 := by simpa using hk
    refine kat_no (oneLt_int ?_)
    have : ltPair p q = decide (p.1 < q.1) := by unfold ltPair; rw [if_neg e]
    rw [this] at hC
    exact hC
theorem pair_tups {vs : List Value} {ps : List (Int × Int)} (N : News h₀ L s.heap news) (h : All2 (PairV news) vs ps) : ∃ fs, KatTups s.heap vs fs ∧ fs.length = ps.length ∧ ∀ v ∈ fs, Looks (model prog w) s.heap (typeOf v) (.type "int") := by
  induction h with
  | nil => exact ⟨[], .nil, rfl, fun v hv => nomatch hv⟩
  | cons hv _ ih =>
    obtain ⟨a, t1, t2, rfl, hm⟩ := hv
    obtain ⟨fs, h1, h2, h3⟩ := ih
    refine ⟨_ :: fs, .cons (N.get hm) rfl rfl (by rfl) h1, by simp [h2], List.forall_mem_cons.mpr ⟨Looks.of_pure rfl, h3⟩⟩
theorem sort_all {vs : List Value} {ps : List (Int × Int)} (h : All2 (PairV news) vs ps) : ∀ is : List Nat, (∀ i ∈ is, i < ps.length) → All2 (PairV news) (is.map fun i => vs.getD i Value.none) (is.map fun i => ps.getD i (0, 0))
  | [], _ => .nil
  | i :: r, hi => by
    obtain ⟨a, t1, t2, e, hm⟩ := h.getD (hi i List.mem_cons_self)
    exact .cons ⟨a, t1, t2, e, hm⟩ (sort_all h r fun j hj => hi j (List.mem_cons_of_mem _ hj))
theorem sorted_pairs {l : Addr} {k : Nat} {vs : List Value} {ps : List (Int × Int)} {Q : Value → Shared → Prop} (F : Fr h₀ L s.heap m) (N : News h₀ L s.heap news) (hm : (l, listOf vs.toArray k) ∈ news) (h : All2 (PairV news) vs ps) (h2 : 2 ≤ ps.length) (h64 : ps.length < 64) (hS : sortSafe ps = true)
    (hQ : ∀ D vs' c h', Fr h₀ L h' m → News h₀ L h' ((D, listOf (List.toArray vs') c) :: news) → (∀ q ∈ news, q.1 < D) → All2 (PairV news) vs' (sortOf ps) → Q (.ref D) { s with heap := h' }) :
    wpAny (model prog w) A (call (.builtin "sorted") [.ref l]) Q E s := by
  have hl := h.len
  unfold sortSafe at hS
  rw [Bool.and_eq_true] at hS
  refine kat_sorted F N (News.isList N hm) (by omega) (by omega) fun D e1 h' F' N' hlt => ?_
  have hA' : All2 (PairV ((D, seqObj "list" #[] e1) :: news)) vs ps := h.mono fun _ _ x => x.mono fun q hq => .tail _ hq
  obtain ⟨fs, t1, t2, t3⟩ := pair_tups (prog := prog) (w := w) (s := { s with heap := h' }) N' hA'
  refine kat_kind (s := { s with heap := h' }) t1 (by omega) t3 (by rfl) ?_
  show (kas_sort vs.length).kasWp (kas_ask prog w A.in1.in1 (tuples' true) vs) _ _
  rw [hl]
  refine kas_run (n := ps.length) (lt := ltAt ps) (fun i j C hi hj hC => lt_pairs (s := { s with heap := h' }) N' hA' hi hj hC) _ hS.1 ?_
  refine KasFin.intro F' N' (UpdF.head fun q hq => Nat.ne_of_lt (hlt q hq)) fun h'' c F'' N'' => ?_
  exact hQ D _ c h'' F'' N'' hlt (sort_all h _ (fun i hi => by simpa using (List.all_eq_true.mp hS.2) i hi))
theorem lay_pairs : ∀ ps : List (Int × Int), PyData.canLayAll0 (ps.map fun p => PyData.tuple [.int p.1, .int p.2]) = true
  | [] => by simp [PyData.canLayAll0]
  | p :: r => by simp [PyData.canLayAll0, PyData.canLay0, lay_pairs r]
theorem depth_pairs : ∀ ps : List (Int × Int), PyData.depthAll (ps.map fun p => PyData.tuple [.int p.1, .int p.2]) ≤ 8
  | [] => by simp [PyData.depthAll]
  | p :: r => by
    have := depth_pairs r
    simp only [List.map_cons, PyData.depthAll, PyData.depth]
    omega
theorem shaped_pairs (ps : List (Int × Int)) : PySem.SeqAt.shaped (.list (ps.map fun p => PyData.tuple [.int p.1, .int p.2])) = true := by
  have h1 := depth_pairs ps
  have h2 : PyData.depth (.list (ps.map fun p => PyData.tuple [.int p.1, .int p.2])) ≤ 64 := by simp only [PyData.depth]; omega
  show (PyData.canLay0 (.list (ps.map fun p => PyData.tuple [.int p.1, .int p.2])) && decide (PyData.depth (.list (ps.map fun p => PyData.tuple [.int p.1, .int p.2])) ≤ 64)) = true
  rw [Bool.and_eq_true]
  exact ⟨by simp only [PyData.canLay0]; exact lay_pairs ps, decide_eq_true h2⟩
theorem noMix_pairs : ∀ ps : List (Int × Int), PySem.SeqAt.noMixAll (ps.map fun p => PyData.tuple [.int p.1, .int p.2]) (ps.map fun p => PyData.tuple [.int p.1, .int p.2]) = true
  | [] => by simp [PySem.SeqAt.noMixAll]
  | p :: r => by simp [PySem.SeqAt.noMixAll, PySem.SeqAt.noMix, noMix_pairs r]
theorem same_pairs : ∀ ps : List (Int × Int), PySem.Spec.sameAll (ps.map fun p => PyData.tuple [.int p.1, .int p.2]) (ps.map fun p => PyData.tuple [.int p.1, .int p.2]) = true
  | [] => by simp [PySem.Spec.sameAll]
  | p :: r => by simp [PySem.Spec.sameAll, PySem.Spec.same, same_pairs r]
theorem reads_pairs {vs : List Value} {ps : List (Int × Int)} (N : News h₀ L s.heap news) (h : All2 (PairV news) vs ps) : ReadsAll s.heap vs (ps.map fun p => PyData.tuple [.int p.1, .int p.2]) [] := by
  induction h with
  | nil => exact .nil
  | cons hv _ ih =>
    obtain ⟨a, t1, t2, rfl, hm⟩ := hv
    exact ReadsAll.cons (as := []) (bs := []) (Reads.tuple (N.get hm) rfl rfl (ReadsAll.cons (as := []) (bs := []) (.int _ _) (ReadsAll.cons (as := []) (bs := []) (.int _ _) .nil))) ih
theorem ne_pairs {a b : Addr} {vs us : List Value} {k k' : Nat} {ps : List (Int × Int)} {Q : Value → Shared → Prop} (N : News h₀ L s.heap news) (ha : (a, listOf vs.toArray k) ∈ news) (hi : All2 (PairV news) vs ps) (hb : (b, listOf us.toArray k') ∈ news) (hi' : All2 (PairV news) us ps) (hu : A.units + 64 < cLine)
    (h : Q (.bool false) s) : wpAny (model prog w) A (compareOp .NotEq (.ref a) (.ref b)) Q E s := by
  refine ne_dataH_same (Reads.list (N.get ha) rfl rfl (by simpa using reads_pairs N hi)) (Reads.list (N.get hb) rfl rfl (by simpa using reads_pairs N hi')) (shaped_pairs ps) (shaped_pairs ps) hu (by simp only [PySem.SeqAt.noMix]; exact noMix_pairs ps) ?_
  simp only [PySem.Spec.same]
  rw [same_pairs]
  exact h
end
end
section
open PyProof.Rows.LCg PyProof.Rows.LCt
section
variable {prog : Program} {w : World} {A : Around} {s : Shared} {h₀ : Heap} {L : Addr} {m : Str → Option Value} {env : Env}
theorem rest_G {elt : Expr} {x : Str} {scope : Scope} {cl : List (Str × Addr)} {P : Nat → Value → Prop} {Fin : List Value → CbLed → Prop} {S : CbLed → Prop} {J : Nat → List Value → CbLed → Prop} {n : Nat} (hS : ∀ i ys l, J i ys l → S l)
    (step : ∀ i v ys I oI C oC D m₂ h tk l, P i v → J i ys l → NsObj oC m₂ → m₂ x = some v → Fr h₀ L h m → News h₀ L h ((I, oI) :: (C, oC) :: (D, lst ys) :: l) → Off3 I C D l → ((@Ne Nat I C) ∧ (@Ne Nat I D) ∧ (@Ne Nat C D)) →
      wpAny (model prog w) A (eval elt (compEnvC scope cl C env)) (EltG h₀ L m [(I, oI), (C, oC), (D, lst ys)] (Off3 I C D) { s with heap := h, toks := tk } (fun y l' => J (i + 1) (ys ++ [y]) l')) (fun _ _ => False) { s with heap := h, toks := tk }) :
    ∀ (k i : Nat) (ys : List Value) (l : CbLed), J i ys l → i + k = n → (∀ zs l, J n zs l → Fin zs l) → CompRest prog w A h₀ L m env elt x scope cl s S P Fin k i ys l
  | 0, i, ys, l, hj, e, hf => hf ys l (by rw [← e]; exact hj)
  | k + 1, i, ys, l, hj, e, hf => by
    intro v I oI C oC D m₂ h tk E' hP hC hv F N off ne
    refine wpAny_mono (step i v ys I oI C oC D m₂ h tk l hP hj hC hv F N off ne) (fun y s' hy => ?_) fun _ _ e => e.elim
    refine veil fun vG hG => ?_; obtain ⟨h', tk', l', rfl, F', N', off', hj'⟩ := hy; refine hG ?_; clear hG vG
    exact ⟨h', tk', l', rfl, F', N', off', hS _ _ _ hj', rest_G hS step k (i + 1) _ _ hj' (by omega) hf⟩
theorem src_G {elt : Expr} {x : Str} {scope : Scope} {cl : List (Str × Addr)} {Q : Value → Shared → Prop} {led : CbLed} {ax : Addr} {vs : List Value} {k : Nat} {J : Nat → List Value → CbLed → Prop}
    (hh : A.handled = none) (F : Fr h₀ L s.heap m) (N : News h₀ L s.heap led) (hsz : vs.length ≤ sizeLine) (h0 : J 0 [] led) (hJm : ∀ i ys l, J i ys l → (ax, listOf vs.toArray k) ∈ l)
    (step : ∀ i v ys I oI C oC D m₂ h tk l, vs[i]? = some v → J i ys l → NsObj oC m₂ → m₂ x = some v → Fr h₀ L h m → News h₀ L h ((I, oI) :: (C, oC) :: (D, lst ys) :: l) → Off3 I C D l → ((@Ne Nat I C) ∧ (@Ne Nat I D) ∧ (@Ne Nat C D)) →
      wpAny (model prog w) A (eval elt (compEnvC scope cl C env)) (EltG h₀ L m [(I, oI), (C, oC), (D, lst ys)] (Off3 I C D) { s with heap := h, toks := tk } (fun y l' => J (i + 1) (ys ++ [y]) l')) (fun _ _ => False) { s with heap := h, toks := tk })
    (fin : ∀ ys l, J vs.length ys l → ∀ D h tk, Fr h₀ L h m → News h₀ L h ((D, lst ys) :: l) → Off1 D l → Q (.ref D) { s with heap := h, toks := tk }) :
    CompSrc prog w A h₀ L m env elt x scope cl (fun s₂ => FinE h₀ L m s₂ Q) (.ref ax) s := by
  refine CompSrc.ledger hh F N (hJm _ _ _ h0) (by rw [List.size_toArray]; exact hsz) ?_
  intro g
  refine rest_G (s := { s with heap := g }) (P := fun i v => vs.toArray[i]? = some v) (J := J) (S := SrcAt h₀ ax vs.toArray) (fun i ys l hj => Or.inr ⟨_, hJm _ _ _ hj, rfl, _, rfl⟩) (fun i v ys I oI C oC D m₂ h tk l hv => step i v ys I oI C oC D m₂ h tk l (by simpa using hv)) vs.toArray.size 0 [] led h0 (Nat.zero_add _) ?_
  intro zs l hz
  rw [List.size_toArray] at hz
  exact fin zs l hz
end
noncomputable def pickN : List Stmt → List Stmt
  | _ :: _ :: _ :: _ :: _ :: _ :: _ :: _ :: _ :: _ :: _ :: _ :: _ :: _ :: _ :: _ :: _ :: _ :: _ :: _ :: _ :: _ :: _ :: _ :: a :: _ => [a]
  | _ => []
noncomputable abbrev partN : List Stmt := by
  refine (fun (_ : pickN body30 = ?b) => ?b) ?h
  case h => conv => lhs; whnf
noncomputable def spansOf (ps : List (Int × Int × Int)) : List (Int × Int) := ps.map fun p => (p.1, p.2.2)
theorem spans_next (ps : List (Int × Int × Int)) (i : Nat) (p : Int × Int × Int) (h : ps[i]? = some p) : spansOf (ps.take (i + 1)) = spansOf (ps.take i) ++ [(p.1, p.2.2)] := by
  unfold spansOf
  rw [take_nextC ps i p h, List.map_append]; rfl
section
set_option maxHeartbeats 4000000
local macro_rules | `(tactic| walk_at "compareOp NotEq ref ref") => `(tactic| refine Stop.intro ?_)
local macro_rules | `(tactic| walk_at "call builtin:sorted") => `(tactic| refine Stop.intro ?_)
local macro_rules | `(tactic| walk_at "subscriptTail Name Constant ref int") => `(tactic| walk_at "mine tup")
local macro_rules | `(tactic| walk_at "never asked") => `(tactic| skip)
theorem law_n (w : World) {lo : List Str} {mean : ExcName → Option Value} {mg mb : Str → Option Value} (fa : Addr) (cc : Value) (base g : Heap) (L : Addr) (m : Str → Option Value) (s : Shared) (Q : Flow → Shared → Prop)
    (B : Below callerA base [] g) (X : (K w.params).In g) (T : Top q lo mean mg mb g) (hD : DictAt w g) (F : Fr g L s.heap m) (o1 o2 o3 o4 o5 o6 o7 o8 : Obj)
    (ex : CbLed) (hE : Seqs ex) (c1 c3 c4 c5 c6 c7 : Option Value) (aP aF aQ : Addr) (vsP vsF vsQ : List Value) (kP kF kQ : Nat) (ps : List (Int × Int × Int)) (rs : List (List Int)) (prs : List (Int × Int))
    (d1 : o1.data = Data.cell c1) (d2 : o2.data = Data.cell (some (.ref aP))) (d3 : o3.data = Data.cell c3) (d4 : o4.data = Data.cell c4) (d5 : o5.data = Data.cell c5) (d6 : o6.data = Data.cell c6) (d7 : o7.data = Data.cell c7) (d8 : o8.data = Data.cell (some (.ref aF)))
    (mm : m (Str.ofString "pairs") = some (.ref aQ)) (mP : (aP, listOf vsP.toArray kP) ∈ ex) (iP : All2 (PTup ex) vsP ps) (hpl : ps.length = 5) (mF : (aF, listOf vsF.toArray kF) ∈ ex) (iF : All2 (RowV ex) vsF rs) (hl7 : rs.length = 7) (hr7 : ∀ r ∈ rs, 7 ≤ r.length ∧ r.length ≤ 8) (mQ : (aQ, listOf vsQ.toArray kQ) ∈ ex) (iQ : All2 (PairV ex) vsQ prs) (hqn : prs.length ≤ 20) (hpr : ∀ p ∈ prs, 0 ≤ p.1 ∧ p.1 + 2 ≤ p.2 ∧ p.2 ≤ 6) (hS : sortSafe (spansOf ps) = true) (heq : (prs.filter fun p => fz rs p.1 p.2 == 1) = sortOf (spansOf ps))
    (N : News g L s.heap ((L + 1 + 1 + 1 + 1 + 1 + 1 + 1 + 1, o8) :: (L + 1 + 1 + 1 + 1 + 1 + 1 + 1, o7) :: (L + 1 + 1 + 1 + 1 + 1 + 1, o6) :: (L + 1 + 1 + 1 + 1 + 1, o5) :: (L + 1 + 1 + 1 + 1, o4) :: (L + 1 + 1 + 1, o3) :: (L + 1 + 1, o2) :: (L + 1, o1) :: ex))
    (hQ : ∀ (h' : Heap) (tk : Nat) (m' : Str → Option Value) (o1 o2 o3 o4 o5 o6 o7 o8 : Obj) (ex' : CbLed) , Fr g L h' m' → o1.data = Data.cell c1 → o2.data = Data.cell (some (.ref aP)) → o3.data = Data.cell c3 → o4.data = Data.cell c4 → o5.data = Data.cell c5 → o6.data = Data.cell c6 → o7.data = Data.cell c7 → o8.data = Data.cell (some (.ref aF)) → Seqs ex' → News g L h' ((L + 1 + 1 + 1 + 1 + 1 + 1 + 1 + 1, o8) :: (L + 1 + 1 + 1 + 1 + 1 + 1 + 1, o7) :: (L + 1 + 1 + 1 + 1 + 1 + 1, o6) :: (L + 1 + 1 + 1 + 1 + 1, o5) :: (L + 1 + 1 + 1 + 1, o4) :: (L + 1 + 1 + 1, o3) :: (L + 1 + 1, o2) :: (L + 1, o1) :: ex') → ex' = ex → m' = m → Q .next { s with heap := h', toks := tk }) :
    wpAny (model PySem.Challenge.rw_tc0086_01.prog w) (callerA.deeper (envOfC (Str.ofString "law") scope30 L fa cc)) (execs partN (envOfC (Str.ofString "law") scope30 L fa cc)) Q (fun _ _ => False) s := by
  revert X
  k_fill
  intro X
  k_steps
  refine Stop.go (PyProof.Rows.LCt.ListComp_T (F₀ := by assumption) (by with_unfolding_all rfl) (by decide) (by rfl) (by decide) (by rfl) ?_)
  k_steps
  refine Stop.go (src_T rfl (by assumption) (by assumption) (sub8 mQ) (by rw [iQ.len, sizeLine_eq]; omega) (b := fun j => fz rs (prs.getD j (0, 0)).1 (prs.getD j (0, 0)).2 == 1) (Y := fun j y => vsQ[j]? = some y) ?_ ?_)
  · intro i v ys I oI C oC D m₂ h tk hv hC hx F N off ne
    refine veil fun vG hG => ?_; obtain ⟨p, hp, a, t1, t2, rfl, ma⟩ := iQ.at hv; refine hG ?_; clear hG vG
    obtain ⟨p1, p2, p3⟩ := hpr p (List.mem_of_getElem? hp)
    have ep : prs.getD i (0, 0) = p := by rw [List.getD_eq_getElem?_getD, hp]; rfl
    rw [ep]
    k_steps
    refine TestOut.intro ?_ (by assumption) (by assumption) fun hok => ?_
    · rfl
    · k_steps
      exact ⟨hv, _, _, rfl, by assumption, by assumption⟩
  · intro ys hys D h tk F N off
    have h2 := hys.filter (ps := prs) (pr := fun p => fz rs p.1 p.2 == 1) (R := PairV ex) (fun j p e => by rw [List.getD_eq_getElem?_getD, e]; rfl) (fun j p y e hy => by
      obtain ⟨p', hp', hr⟩ := iQ.at hy
      rw [e] at hp'
      rw [Option.some.inj hp']; exact hr) (Nat.le_of_eq iQ.len)
    rw [iQ.len, List.take_length] at h2
    k_steps
    refine Stop.go (PyProof.Rows.LCg.ListComp_U (F₀ := by assumption) (by with_unfolding_all rfl) (by decide) (by rfl) (by decide) (by rfl) ?_)
    k_steps
    refine Stop.go (src_G (ax := aP) (vs := vsP) (k := kP) rfl (by assumption) (by assumption) (by rw [iP.len, sizeLine_eq]; omega) (J := fun i zs l => ∃ tl, l = tl ++ ((D, lst ys) :: (L+1+1+1+1+1+1+1+1, o8) :: (L+1+1+1+1+1+1+1, o7) :: (L+1+1+1+1+1+1, o6) :: (L+1+1+1+1+1, o5) :: (L+1+1+1+1, o4) :: (L+1+1+1, o3) :: (L+1+1, o2) :: (L+1, o1) :: ex) ∧ All2 (PairV tl) zs (spansOf (ps.take i))) ⟨[], rfl, .nil⟩ ?_ ?_ ?_)
    · rintro i zs l ⟨tl, rfl, _⟩
      exact List.mem_append_right _ (.tail _ (sub8 mP))
    · rintro i v zs I oI C oC D2 m₂ h tk l hv ⟨tl, rfl, hz⟩ hC hx F N off ne
      refine veil fun vG hG => ?_; obtain ⟨p, hp, ar, u1, u2, u3, rfl, har⟩ := iP.at hv; refine hG ?_; clear hG vG
      k_steps
      rename_i D' h6 F6 N6 l1
      refine veil fun vG hG => ?_; obtain ⟨q1, q2, q3, q4⟩ := l1; refine hG ?_; clear hG vG
      refine ⟨_, _, (D', { cls := Value.type "tuple", data := Data.seq #[Value.int p.1 u1, Value.int p.2.2 u3] }) :: (tl ++ _), rfl, F6, (fun p hp => N6 p ?_), ⟨⟨Nat.ne_of_gt q1, Nat.ne_of_gt q2, Nat.ne_of_gt q3⟩, off⟩, _ :: tl, rfl, ?_⟩
      · exact mov3 hp
      · rw [spans_next ps i p hp]
        exact (hz.mono fun _ _ x => x.mono fun q hq => .tail _ hq).snoc ⟨D', u1, u3, rfl, .head _⟩
    · rintro zs l ⟨tl, rfl, hz⟩ D2 h tk F N off
      rw [iP.len, List.take_length] at hz
      have hsl : (spansOf ps).length = 5 := by unfold spansOf; rw [List.length_map]; exact hpl
      k_steps
      refine Stop.go (sorted_pairs F N (.head _) (hz.mono fun _ _ x => x.mono fun q hq => .tail _ (List.mem_append_left _ hq)) (by omega) (by omega) hS ?_)
      intro D3 vs3 c3' h3 F3 N3 hlt3 hA3
      rw [← heq] at hA3
      k_steps
      refine Stop.go (ne_pairs N3 (a := D) (b := D3) (vs := ys) (us := vs3) (k := ys.length) (k' := c3') (.tail _ (.tail _ (List.mem_append_right _ (.head _)))) (h2.mono fun _ _ x => x.mono fun q hq => .tail _ (.tail _ (List.mem_append_right _ (.tail _ (sub8 hq))))) (.head _) (hA3.mono fun _ _ x => x.mono fun q hq => .tail _ hq) (by first | units_room | ktr_units | exact of_decide_eq_true rfl | exact Nat.le_of_ble_eq_true rfl) ?_)
      k_steps
      exact hQ _ _ _ o1 o2 o3 o4 o5 o6 o7 o8 ex (by assumption) d1 d2 d3 d4 d5 d6 d7 d8 hE (newsSub ‹News g L _ (_ :: _)› fun p hp => by first | k_mem | exact sub8x hp) rfl rfl
end
end
end
end
end
section
/-- what the lead must meet -/
structure LeadFacts (ps : List (Int × Int × Int)) (ly : Int) (Ld : Str) (pls cols ts : List Int) (rs : List (List Int)) : Prop where
  len : Ld.length ≤ 900
  six : pls.length = 6
  bd : ∀ k ∈ pls, 0 ≤ k ∧ k < Ld.length
  cnt : ts = countF ps
  dnP : ts = stepsDown pls (4 * ly)
  dnC : ts = stepsDown cols (4 * ly)
  one : ts = stepsOne pls (4 * ly)
  lev : ∀ n ∈ [(1 : Int), 3, 5, 4 * ly], levelF (Txt.slice Ld none (some (pls.getD 0 0))) n = pls.getD 0 0 ∧ levelF (Ld ++ Str.ofString "k\t ") n = columnF Ld n
  bda : BdAll ts
  bdr : BdRows rs
  quad : ∀ p ∈ pairsF, Quad rs p
  safe : sortSafe (spansOf ps) = true
  ones : (pairsF.filter fun p => fz rs p.1 p.2 == 1) = sortOf (spansOf ps)
noncomputable abbrev Lead (ps : List (Int × Int × Int)) (ly : Int) (Ld : Str) : Prop :=
  LeadFacts ps ly Ld (placesOf Ld) (colsOf Ld (placesOf Ld) (4 * ly)) (stepsUp (colsOf Ld (placesOf Ld) (4 * ly)) (4 * ly)) (friezeF (stepsUp (colsOf Ld (placesOf Ld) (4 * ly)) (4 * ly)))
/-- what the six heaps must meet -/
structure Facts (hs : List Int) : Prop where
  parts5 : (partsOf hs).length = 5
  plain16 : (plainOf hs).length ≤ 16
  fit1 : Fit (handS ((hs.getD 3 0).fmod 3).toNat) (typedF (plainOf hs) (hs.getD 2 0))
  fit2 : Fit (handS (((hs.getD 3 0).fdiv 6).fmod 5).toNat) (escs (handS ((hs.getD 3 0).fmod 3).toNat) (typedF (plainOf hs) (hs.getD 2 0)))
  page : (pageOf hs).length ≤ 40000
  sent : (sentOf hs).length ≤ 200000
  seen : ((seenOf (sentOf hs)).map (·.length)).sum ≤ 1000000
  layers : 1 ≤ layersOf hs ∧ layersOf hs ≤ 2
  prep : prepOf (sentOf hs) = toldOf (plainOf hs) (layersOf hs) ++ besideOf hs ++ Str.ofString "ж"
  prepLen : (prepOf (sentOf hs)).length ≤ 900
  rest : Lead (partsOf hs) (layersOf hs) (leadOf (prepOf (sentOf hs)))
theorem rowF_len (ts : List Int) (f : Nat) (h : f < 7) : 7 ≤ (rowF ts f).length ∧ (rowF ts f).length ≤ 8 := by
  unfold rowF
  rw [rowAt_len]
  omega
theorem frieze_rows (ts : List Int) : (friezeF ts).length = 7 ∧ ∀ r ∈ friezeF ts, 7 ≤ r.length ∧ r.length ≤ 8 := by
  unfold friezeF tableAt
  refine ⟨by simp, fun r hr => ?_⟩
  obtain ⟨f, hf, rfl⟩ := List.mem_map.mp hr
  exact rowF_len ts f (List.mem_range.mp hf)
theorem pairs_bd : ∀ p ∈ pairsF, 0 ≤ p.1 ∧ p.1 + 2 ≤ p.2 ∧ p.2 ≤ 6 := by decide +kernel
theorem pairs_len : pairsF.length ≤ 20 := by decide +kernel
theorem colsOf_len (Ld : Str) (pls : List Int) (sz : Int) : (colsOf Ld pls sz).length = pls.length := by unfold colsOf; rw [List.length_map]
theorem stepsUp_len (l : List Int) (sz : Int) : (stepsUp l sz).length = 5 := by unfold stepsUp; simp
section
variable {M : Model} {A : Around} {E : Value → Shared → Prop} {s : Shared} {env : Env}
theorem execs_wp {Γ : Ctx} {l2 : List Stmt} {Q : Flow → Shared → Prop} (hΓ : Γ.In A) : ∀ (l1 : List Stmt) (p : Pos) (s : Shared), Sem.wp M Γ (execs l1 env) (fun f _ s' => f = .next ∧ wpAny M A (execs l2 env) Q E s') (fun e _ s' => E e s') p s → Sem.wp M Γ (execs (l1 ++ l2) env) (fun f _ s' => Q f s') (fun e _ s' => E e s') p s
  | [], p, s, h => by
    have h1 : _ ∧ _ := h
    exact h1.2 Γ p hΓ
  | st :: r, p, s, h => by
    show Sem.wp _ _ (execs (st :: (r ++ l2)) env) _ _ _ _
    rw [execs_cons, Sem.wp_bind'] at h ⊢
    refine Sem.wp_mono M Γ _ (fun f p' s' h' => ?_) (fun _ _ _ h' => h') _ _ h
    cases f with
    | next => exact execs_wp hΓ r p' s' h'
    | _ =>
      have h1 : _ ∧ _ := h'
      cases h1.1
theorem execs_app {l1 l2 : List Stmt} {Q : Flow → Shared → Prop} (h : wpAny M A (execs l1 env) (fun f s' => f = .next ∧ wpAny M A (execs l2 env) Q E s') E s) : wpAny M A (execs (l1 ++ l2) env) Q E s :=
  fun Γ p hΓ => execs_wp hΓ l1 p s (h Γ p hΓ)
end
end
section
theorem body_parts : body30 = partA ++ (partB ++ (partC ++ (partD ++ (partE ++ (partG ++ (partH ++ (partQ ++ (partI ++ (partJ ++ (partK ++ (partL ++ (partM ++ (partR ++ (partN ++ (partO ++ partP))))))))))))))) := by rfl
section
set_option maxHeartbeats 4000000
theorem law_body (w : World) {lo : List Str} {mean : ExcName → Option Value} {mg mb : Str → Option Value} (fa : Addr) (cc : Value) (base g : Heap) (L : Addr) (m : Str → Option Value) (s : Shared) (Q : Flow → Shared → Prop)
    (B : Below callerA base [] g) (X : (K w.params).In g) (T : Top q lo mean mg mb g) (hD : DictAt w g) (F : Fr g L s.heap m) (o1 o2 o3 o4 o5 o6 o7 o8 : Obj)
    (d1 : o1.data = Data.cell none) (d2 : o2.data = Data.cell none) (d3 : o3.data = Data.cell none) (d4 : o4.data = Data.cell none) (d5 : o5.data = Data.cell none) (d6 : o6.data = Data.cell none) (d7 : o7.data = Data.cell none) (d8 : o8.data = Data.cell none)
    (al : Addr) (vs : List Value) (ns : List Int) (hl : g.IsList al vs.toArray) (hi : IntsAre vs ns) (hz : vs.length ≤ 63) (hs : m (Str.ofString "script") = some (.ref al)) (FA : Facts (heapsF ns))
    (N : News g L s.heap [(L+1+1+1+1+1+1+1+1, o8), (L+1+1+1+1+1+1+1, o7), (L+1+1+1+1+1+1, o6), (L+1+1+1+1+1, o5), (L+1+1+1+1, o4), (L+1+1+1, o3), (L+1+1, o2), (L+1, o1)])
    (hQ : ∀ (h' : Heap) (tk : Nat) (m' : Str → Option Value), Fr g L h' m' → Q (.ret (.bool true)) { s with heap := h', toks := tk }) :
    wpAny (model PySem.Challenge.rw_tc0086_01.prog w) (callerA.deeper (envOfC (Str.ofString "law") scope30 L fa cc)) (execs body30 (envOfC (Str.ofString "law") scope30 L fa cc)) Q (fun _ _ => False) s := by
  have hH6 := heapsF_len ns
  rw [body_parts]
  refine execs_app (law_a (w := _) (fa := _) (cc := _) (base := _) (g := _) (L := _) (m := _) (s := _) (Q := _) (o1 := _) (o2 := _) (o3 := _) (o4 := _) (o5 := _) (o6 := _) (o7 := _) (o8 := _) (B := B) (X := X) (T := T) (hD := hD) (F := F) (ex := []) (hE := fun _ h => absurd h List.not_mem_nil) (al := al) (vs := vs) (ns := ns) (d1 := d1) (d2 := d2) (d3 := d3) (d4 := d4) (d5 := d5) (d6 := d6) (d7 := d7) (d8 := d8) (hl := hl) (hi := hi) (hz := hz) (hs := hs) (hpl := by rw [FA.parts5]; decide) (N := N) (hQ := ?_))
  clear F N d1 d2 d3 d4 d5 d6 d7 d8
  generalize heapsF ns = H at FA hH6 ⊢
  intro h' tk m o1 o2 o3 o4 o5 o6 o7 o8 ex aH aP us vsP k1 kP tp F d1 d2 d3 d4 d5 d6 d7 d8 hE N mH iH mP iP mpl
  refine ⟨rfl, ?_⟩
  refine execs_app (law_b (w := _) (fa := _) (cc := _) (base := _) (g := _) (L := _) (m := _) (Q := _) (o1 := _) (o2 := _) (o3 := _) (o4 := _) (o5 := _) (o6 := _) (o7 := _) (o8 := _) (ex := _) (aH := _) (aP := _) (us := _) (k1 := _) (hs := _) (tp := _) (s := { s with heap := h', toks := tk }) (B := B) (X := X) (T := T) (hD := hD) (F := F) (hE := hE) (d1 := d1) (d2 := d2) (d3 := d3) (d4 := d4) (d5 := d5) (d6 := d6) (d7 := d7) (d8 := d8) (hH6 := hH6) (mH := mH) (hu := iH) (mp := mpl) (hpl := Nat.succ_le_succ FA.plain16) (hf := FA.fit1) (hg := FA.fit2) (hpg := FA.page) (N := N) (hQ := ?_))
  clear F N d1 d2 d3 d4 d5 d6 d7 d8 hE
  intro h' tk m o1 o2 o3 o4 o5 o6 o7 o8 ex' tp2 tl ts F d1 d2 d3 d4 d5 d6 d7 d8 hE N e mpl mly mst
  subst e
  refine ⟨rfl, ?_⟩
  refine execs_app (law_c (w := _) (fa := _) (cc := _) (base := _) (g := _) (L := _) (m := _) (Q := _) (o1 := _) (o2 := _) (o3 := _) (o4 := _) (o5 := _) (o6 := _) (o7 := _) (o8 := _) (ex := _) (aH := _) (aP := _) (Z := _) (ts := _) (tp := _) (tl := _) (pl := _) (ly := _) (s := { s with heap := h', toks := tk }) (B := B) (X := X) (T := T) (hD := hD) (F := F) (hE := hE) (d1 := d1) (d2 := d2) (d3 := d3) (d4 := d4) (d5 := d5) (d6 := d6) (d7 := d7) (d8 := d8) (mS := mst) (mP := mpl) (mL := mly) (hX := FA.sent) (hj := FA.seen) (N := N) (hQ := ?_))
  clear F N d1 d2 d3 d4 d5 d6 d7 d8 hE
  intro h' tk m o1 o2 o3 o4 o5 o6 o7 o8 ex' tr F d1 d2 d3 d4 d5 d6 d7 d8 hE N e mpl mly mpr
  subst e
  refine ⟨rfl, ?_⟩
  refine execs_app (law_d (w := _) (fa := _) (cc := _) (base := _) (g := _) (L := _) (m := _) (Q := _) (o1 := _) (o2 := _) (o3 := _) (o4 := _) (o5 := _) (o6 := _) (o7 := _) (o8 := _) (ex := _) (aH := _) (aP := _) (us := _) (k1 := _) (hs := _) (pr := _) (pl := _) (ly := _) (tp := _) (tl := _) (tr := _) (s := { s with heap := h', toks := tk }) (B := B) (X := X) (T := T) (hD := hD) (F := F) (hE := hE) (d1 := d1) (d2 := d2) (d3 := d3) (d4 := d4) (d5 := d5) (d6 := d6) (d7 := d7) (d8 := d8) (hH6 := hH6) (mH := mH) (hu := iH) (mP := mpl) (mL := mly) (mR := mpr) (hly := FA.layers) (hpl := FA.plain16) (hpr := FA.prep) (N := N) (hQ := ?_))
  clear F N d1 d2 d3 d4 d5 d6 d7 d8 hE
  intro h' tk m o1 o2 o3 o4 o5 o6 o7 o8 ex' F d1 d2 d3 d4 d5 d6 d7 d8 hE N e mly mpr
  subst e
  refine ⟨rfl, ?_⟩
  have hly := FA.layers
  have hLF := FA.rest
  have hZ := FA.prepLen
  have h5 := FA.parts5
  generalize prepOf (sentOf H) = Z at mpr hLF hZ ⊢
  generalize layersOf H = ly at mly hly hLF ⊢
  generalize partsOf H = ps at iP hLF h5 ⊢
  clear FA mH iH
  refine execs_app (law_e (w := _) (fa := _) (cc := _) (base := _) (g := _) (L := _) (m := _) (Q := _) (o1 := _) (o2 := _) (o3 := _) (o4 := _) (o5 := _) (o6 := _) (o7 := _) (o8 := _) (ex := _) (aH := _) (aP := _) (Z := _) (ly := _) (tl := _) (tr := _) (s := { s with heap := h', toks := tk }) (B := B) (X := X) (T := T) (hD := hD) (F := F) (hE := hE) (d1 := d1) (d2 := d2) (d3 := d3) (d4 := d4) (d5 := d5) (d6 := d6) (d7 := d7) (d8 := d8) (mL := mly) (mR := mpr) (hly := hly) (hZ := hZ) (hLd := hLF.len) (N := N) (hQ := ?_))
  clear F N d1 d2 d3 d4 d5 d6 d7 d8 hE
  intro h' tk m o1 o2 o3 o4 o5 o6 o7 o8 ex' aPl tL tS vsPl kPl F d1 d2 d3 d4 d5 d6 d7 d8 hE N sub mPl iPl
  refine ⟨rfl, ?_⟩
  replace mP := sub _ mP
  replace iP := iP.mono fun _ _ x => PTup.mono (fun q hq => sub q hq) x
  clear sub
  generalize leadOf Z = Ld at *
  unfold Lead at hLF
  have hsz : 0 < 4 * ly ∧ 4 * ly < 1000 := by omega
  refine execs_app (law_g (w := _) (fa := _) (cc := _) (base := _) (g := _) (L := _) (m := _) (Q := _) (o1 := _) (o2 := _) (o3 := _) (o4 := _) (o5 := _) (o6 := _) (o7 := _) (o8 := _) (ex := _) (aH := _) (aP := _) (aPl := _) (Ld := _) (sz := _) (tL := _) (tS := _) (vsPl := _) (kPl := _) (pls := _) (s := { s with heap := h', toks := tk }) (B := B) (X := X) (T := T) (hD := hD) (F := F) (hE := hE) (d1 := d1) (d2 := d2) (d3 := d3) (d4 := d4) (d5 := d5) (d6 := d6) (d7 := d7) (d8 := d8) (hLd := hLF.len) (hsz := hsz) (mPl := mPl) (iPl := iPl) (hpn := by rw [hLF.six]; decide) (hpb := hLF.bd) (N := N) (hQ := ?_))
  clear F N d1 d2 d3 d4 d5 d6 d7 d8 hE
  intro h' tk m o1 o2 o3 o4 o5 o6 o7 o8 ex' aC vsC kC F d1 d2 d3 d4 d5 d6 d7 d8 hE N sub mC iC
  refine ⟨rfl, ?_⟩
  replace mP := sub _ mP
  replace mPl := sub _ mPl
  replace iP := iP.mono fun _ _ x => PTup.mono (fun q hq => sub q hq) x
  clear sub
  have hcn : (colsOf Ld (placesOf Ld) (4 * ly)).length = 6 := by rw [colsOf_len]; exact hLF.six
  generalize hcl : colsOf Ld (placesOf Ld) (4 * ly) = cols at *
  generalize hpl : placesOf Ld = pls at *
  refine execs_app (law_h (w := _) (fa := _) (cc := _) (base := _) (g := _) (L := _) (m := _) (Q := _) (o1 := _) (o2 := _) (o3 := _) (o4 := _) (o5 := _) (o6 := _) (o7 := _) (o8 := _) (ex := _) (aH := _) (aP := _) (aPl := _) (aC := _) (Ld := _) (sz := _) (tL := _) (tS := _) (vsC := _) (kC := _) (cols := _) (s := { s with heap := h', toks := tk }) (B := B) (X := X) (T := T) (hD := hD) (F := F) (hE := hE) (d1 := d1) (d2 := d2) (d3 := d3) (d4 := d4) (d5 := d5) (d6 := d6) (d7 := d7) (d8 := d8) (hsz := hsz) (mC := mC) (iC := iC) (hcn := hcn) (N := N) (hQ := ?_))
  clear F N d1 d2 d3 d4 d5 d6 d7 d8 hE
  intro h' tk m o1 o2 o3 o4 o5 o6 o7 o8 ex' aT vsT kT F d1 d2 d3 d4 d5 d6 d7 d8 hE N sub mT iT mm
  refine ⟨rfl, ?_⟩
  replace mP := sub _ mP
  replace mPl := sub _ mPl
  replace mC := sub _ mC
  replace iP := iP.mono fun _ _ x => PTup.mono (fun q hq => sub q hq) x
  clear sub
  have htn := stepsUp_len cols (4 * ly)
  generalize stepsUp cols (4 * ly) = ts at *
  refine execs_app (law_q (w := _) (fa := _) (cc := _) (base := _) (g := _) (L := _) (m := _) (Q := _) (o1 := _) (o2 := _) (o3 := _) (o4 := _) (o5 := _) (o6 := _) (o7 := _) (o8 := _) (ex := _) (c1 := _) (c3 := _) (c4 := _) (c5 := _) (c6 := _) (c7 := _) (c8 := _) (aP := _) (aT := _) (vsP := _) (vsT := _) (kP := _) (kT := _) (ps := _) (ts := _) (s := { s with heap := h', toks := tk }) (B := B) (X := X) (T := T) (hD := hD) (F := F) (hE := hE) (d1 := d1) (d2 := d2) (d3 := d3) (d4 := d4) (d5 := d5) (d6 := d6) (d7 := d7) (d8 := d8) (mm := mm) (mP := mP) (iP := iP) (hpl := by rw [h5]; decide) (mT := mT) (iT := iT) (heq := hLF.cnt) (N := N) (hQ := ?_))
  clear F N d1 d2 d3 d4 d5 d6 d7 d8 hE
  intro h' tk m' o1 o2 o3 o4 o5 o6 o7 o8 ex' F d1 d2 d3 d4 d5 d6 d7 d8 hE N e e2
  subst e e2
  refine ⟨rfl, ?_⟩
  refine execs_app (law_i (w := _) (fa := _) (cc := _) (base := _) (g := _) (L := _) (m := _) (Q := _) (o1 := _) (o2 := _) (o3 := _) (o4 := _) (o5 := _) (o6 := _) (o7 := _) (o8 := _) (ex := _) (aH := _) (aP := _) (aPl := _) (aC := _) (aT := _) (Ld := _) (sz := _) (tL := _) (tS := _) (vsPl := _) (vsC := _) (vsT := _) (kPl := _) (kC := _) (kT := _) (pls := _) (cols := _) (ts := _) (s := { s with heap := h', toks := tk }) (B := B) (X := X) (T := T) (hD := hD) (F := F) (hE := hE) (d1 := d1) (d2 := d2) (d3 := d3) (d4 := d4) (d5 := d5) (d6 := d6) (d7 := d7) (d8 := d8) (hsz := hsz) (mPl := mPl) (iPl := iPl) (hpn := hLF.six) (mC := mC) (iC := iC) (hcn := hcn) (mT := mT) (iT := iT) (mm := mm) (heq := hLF.dnP) (heq2 := hLF.dnC) (N := N) (hQ := ?_))
  clear F N d1 d2 d3 d4 d5 d6 d7 d8 hE mm
  intro h' tk m o1 o2 o3 o4 o5 o6 o7 o8 ex' v7 F d1 d2 d3 d4 d5 d6 d7 d8 hE N e mm
  subst e
  refine ⟨rfl, ?_⟩
  refine execs_app (law_j (w := _) (fa := _) (cc := _) (base := _) (g := _) (L := _) (m := _) (Q := _) (o1 := _) (o2 := _) (o3 := _) (o4 := _) (o5 := _) (o6 := _) (o7 := _) (o8 := _) (ex := _) (aH := _) (aP := _) (aPl := _) (aC := _) (aT := _) (Ld := _) (sz := _) (tL := _) (tS := _) (v7 := _) (vsPl := _) (vsT := _) (kPl := _) (kT := _) (pls := _) (ts := _) (s := { s with heap := h', toks := tk }) (B := B) (X := X) (T := T) (hD := hD) (F := F) (hE := hE) (d1 := d1) (d2 := d2) (d3 := d3) (d4 := d4) (d5 := d5) (d6 := d6) (d7 := d7) (d8 := d8) (hsz := hsz) (mPl := mPl) (iPl := iPl) (hpn := hLF.six) (mT := mT) (iT := iT) (mm := mm) (heq := hLF.one) (N := N) (hQ := ?_))
  clear F N d1 d2 d3 d4 d5 d6 d7 d8 hE
  intro h' tk m' o1 o2 o3 o4 o5 o6 o7 o8 ex' F d1 d2 d3 d4 d5 d6 d7 d8 hE N e e2
  subst e e2
  refine ⟨rfl, ?_⟩
  refine execs_app (law_k (w := _) (fa := _) (cc := _) (base := _) (g := _) (L := _) (m := _) (Q := _) (o1 := _) (o2 := _) (o3 := _) (o4 := _) (o5 := _) (o6 := _) (o7 := _) (o8 := _) (ex := _) (aH := _) (aP := _) (aPl := _) (aC := _) (aT := _) (Ld := _) (sz := _) (tL := _) (tS := _) (v7 := _) (vsPl := _) (kPl := _) (pls := _) (s := { s with heap := h', toks := tk }) (B := B) (X := X) (T := T) (hD := hD) (F := F) (hE := hE) (d1 := d1) (d2 := d2) (d3 := d3) (d4 := d4) (d5 := d5) (d6 := d6) (d7 := d7) (d8 := d8) (hLd := hLF.len) (mPl := mPl) (iPl := iPl) (hpn := hLF.six) (mm := mm) (N := N) (hQ := ?_))
  clear F N d1 d2 d3 d4 d5 d6 d7 d8 hE mm
  intro h' tk m o1 o2 o3 o4 o5 o6 o7 o8 ex' xa xb F d1 d2 d3 d4 d5 d6 d7 d8 hE N sub wa wb mm ma mw
  refine ⟨rfl, ?_⟩
  replace mP := sub _ mP
  replace mPl := sub _ mPl
  replace mC := sub _ mC
  replace mT := sub _ mT
  replace iP := iP.mono fun _ _ x => PTup.mono (fun q hq => sub q hq) x
  clear sub
  have e3 : (Str.ofString "k\t ").length = 3 := by decide
  have hlen := hLF.len
  refine execs_app (law_l (w := _) (fa := _) (cc := _) (base := _) (g := _) (L := _) (m := _) (Q := _) (o1 := _) (o2 := _) (o3 := _) (o4 := _) (o5 := _) (o6 := _) (o7 := _) (o8 := _) (ex := _) (aH := _) (aP := _) (aPl := _) (aC := _) (aT := _) (xa := _) (xb := _) (Ld := _) (XA := _) (XB := _) (sz := _) (tL := _) (tS := _) (v7 := _) (vsPl := _) (kPl := _) (pls := _) (s := { s with heap := h', toks := tk }) (B := B) (X := X) (T := T) (hD := hD) (F := F) (hE := hE) (d1 := d1) (d2 := d2) (d3 := d3) (d4 := d4) (d5 := d5) (d6 := d6) (d7 := d7) (d8 := d8) (hsz := hsz) (hLd := hlen) (mPl := mPl) (iPl := iPl) (hpn := hLF.six) (mm := mm) (ma := ma) (mw := mw) (wa := wa) (wb := wb) (hXA := Nat.le_trans (Txt.slice_le _ _ _) (by omega)) (hXB := by rw [Str.length_append, e3]; omega) (hlv := hLF.lev) (N := N) (hQ := ?_))
  clear F N d1 d2 d3 d4 d5 d6 d7 d8 hE mm ma mw wa wb
  intro h' tk m o1 o2 o3 o4 o5 o6 o7 o8 ex' F d1 d2 d3 d4 d5 d6 d7 d8 hE N e mm
  subst e
  refine ⟨rfl, ?_⟩
  refine execs_app (law_m (w := _) (fa := _) (cc := _) (base := _) (g := _) (L := _) (m := _) (Q := _) (o1 := _) (o2 := _) (o3 := _) (o4 := _) (o5 := _) (o6 := _) (o7 := _) (o8 := _) (ex := _) (c1 := _) (c2 := _) (c3 := _) (c4 := _) (c5 := _) (c6 := _) (c7 := _) (aT := _) (vsT := _) (kT := _) (ts := _) (s := { s with heap := h', toks := tk }) (B := B) (X := X) (T := T) (hD := hD) (F := F) (hE := hE) (d1 := d1) (d2 := d2) (d3 := d3) (d4 := d4) (d5 := d5) (d6 := d6) (d7 := d7) (d8 := d8) (mm := mm) (mT := mT) (iT := iT) (htn := htn) (hbd := hLF.bda) (N := N) (hQ := ?_))
  clear F N d1 d2 d3 d4 d5 d6 d7 d8 hE
  intro h' tk m' o1 o2 o3 o4 o5 o6 o7 o8 ex' aF vsF kF F d1 d2 d3 d4 d5 d6 d7 d8 hE N sub mF iF e2
  subst e2
  refine ⟨rfl, ?_⟩
  replace mP := sub _ mP
  replace mC := sub _ mC
  replace mT := sub _ mT
  replace iP := iP.mono fun _ _ x => PTup.mono (fun q hq => sub q hq) x
  clear sub mPl
  obtain ⟨hl7, hr7⟩ := frieze_rows ts
  generalize friezeF ts = rs at *
  refine execs_app (law_r (w := _) (fa := _) (cc := _) (base := _) (g := _) (L := _) (m := _) (Q := _) (o1 := _) (o2 := _) (o3 := _) (o4 := _) (o5 := _) (o6 := _) (o7 := _) (o8 := _) (ex := _) (c1 := _) (c2 := _) (c3 := _) (c4 := _) (c5 := _) (c6 := _) (c7 := _) (c8 := _) (aT := _) (s := { s with heap := h', toks := tk }) (B := B) (X := X) (T := T) (hD := hD) (F := F) (hE := hE) (d1 := d1) (d2 := d2) (d3 := d3) (d4 := d4) (d5 := d5) (d6 := d6) (d7 := d7) (d8 := d8) (mm := mm) (N := N) (hQ := ?_))
  clear F N d1 d2 d3 d4 d5 d6 d7 d8 hE mm
  intro h' tk m o1 o2 o3 o4 o5 o6 o7 o8 ex' aQ vsQ kQ F d1 d2 d3 d4 d5 d6 d7 d8 hE N sub mQ iQ mm mq
  refine ⟨rfl, ?_⟩
  replace mP := sub _ mP
  replace mC := sub _ mC
  replace mT := sub _ mT
  replace mF := sub _ mF
  replace iP := iP.mono fun _ _ x => PTup.mono (fun q hq => sub q hq) x
  replace iF := iF.mono fun _ _ x => RowV.mono (fun q hq => sub q hq) x
  clear sub
  refine execs_app (law_n (w := _) (fa := _) (cc := _) (base := _) (g := _) (L := _) (m := _) (Q := _) (o1 := _) (o2 := _) (o3 := _) (o4 := _) (o5 := _) (o6 := _) (o7 := _) (o8 := _) (ex := _) (c1 := _) (c3 := _) (c4 := _) (c5 := _) (c6 := _) (c7 := _) (aP := _) (aF := _) (aQ := _) (vsP := _) (vsF := _) (vsQ := _) (kP := _) (kF := _) (kQ := _) (ps := _) (rs := _) (prs := _) (s := { s with heap := h', toks := tk }) (B := B) (X := X) (T := T) (hD := hD) (F := F) (hE := hE) (d1 := d1) (d2 := d2) (d3 := d3) (d4 := d4) (d5 := d5) (d6 := d6) (d7 := d7) (d8 := d8) (mm := mq) (mP := mP) (iP := iP) (hpl := h5) (mF := mF) (iF := iF) (hl7 := hl7) (hr7 := hr7) (mQ := mQ) (iQ := iQ) (hqn := pairs_len) (hpr := pairs_bd) (hS := hLF.safe) (heq := hLF.ones) (N := N) (hQ := ?_))
  clear F N d1 d2 d3 d4 d5 d6 d7 d8 hE
  intro h' tk m' o1 o2 o3 o4 o5 o6 o7 o8 ex' F d1 d2 d3 d4 d5 d6 d7 d8 hE N e e2
  subst e e2
  refine ⟨rfl, ?_⟩
  refine execs_app (law_o (w := _) (fa := _) (cc := _) (base := _) (g := _) (L := _) (m := _) (Q := _) (o1 := _) (o2 := _) (o3 := _) (o4 := _) (o5 := _) (o6 := _) (o7 := _) (o8 := _) (ex := _) (c1 := _) (c2 := _) (c3 := _) (c4 := _) (c5 := _) (c7 := _) (aC := _) (aT := _) (aF := _) (aQ := _) (vsC := _) (vsT := _) (vsF := _) (vsQ := _) (kC := _) (kT := _) (kF := _) (kQ := _) (cols := _) (ts := _) (rs := _) (prs := _) (s := { s with heap := h', toks := tk }) (B := B) (X := X) (T := T) (hD := hD) (F := F) (hE := hE) (d1 := d1) (d2 := d2) (d3 := d3) (d4 := d4) (d5 := d5) (d6 := d6) (d7 := d7) (d8 := d8) (mm := mq) (mt := mm) (mC := mC) (iC := iC) (hcn := hcn) (mT := mT) (iT := iT) (htn := htn) (mF := mF) (iF := iF) (hl7 := hl7) (hr7 := hr7) (mQ := mQ) (iQ := iQ) (hqn := pairs_len) (hpr := pairs_bd) (N := N) (hQ := ?_))
  clear F N d1 d2 d3 d4 d5 d6 d7 d8 hE
  intro h' tk m' o1 o2 o3 o4 o5 o6 o7 o8 ex' F d1 d2 d3 d4 d5 d6 d7 d8 hE N e e2
  subst e e2
  refine ⟨rfl, ?_⟩
  refine law_p (w := _) (fa := _) (cc := _) (base := _) (g := _) (L := _) (m := _) (Q := _) (o1 := _) (o2 := _) (o3 := _) (o4 := _) (o5 := _) (o6 := _) (o7 := _) (o8 := _) (ex := _) (c1 := _) (c2 := _) (c3 := _) (c4 := _) (c5 := _) (c6 := _) (c7 := _) (aF := _) (aQ := _) (vsF := _) (vsQ := _) (kF := _) (kQ := _) (rs := _) (prs := _) (s := { s with heap := h', toks := tk }) (B := B) (X := X) (T := T) (hD := hD) (F := F) (hE := hE) (d1 := d1) (d2 := d2) (d3 := d3) (d4 := d4) (d5 := d5) (d6 := d6) (d7 := d7) (d8 := d8) (mm := mq) (mF := mF) (iF := iF) (hl7 := hl7) (hr7 := hr7) (hbd := hLF.bdr) (mQ := mQ) (iQ := iQ) (hpr := fun p hp => ⟨(pairs_bd p hp).1, (pairs_bd p hp).2.1, (pairs_bd p hp).2.2, hLF.quad p hp⟩) (N := N) (hQ := ?_)
  intro h' tk m' F
  exact hQ h' tk m' F
end
end
section
section
set_option maxHeartbeats 4000000
theorem law_walk (FA : ∀ ns : List Int, Facts (heapsF ns)) : LawWalk := by
  unfold LawWalk
  k_fill
  intro w s₀ s₁ mg mb G Y fa o pm cd doc dV kV ho hd hcd hD hmg hg args vals as hpre hlay hrd hwl hlo
  have KX := Y.1
  have hDict := Y.2
  refine Ground.open G ?_
  intro T B D TE TW
  try (refine guard_noD D (by decide +kernel) ?_; clear D)
  obtain ⟨wa, wb, M⟩ := bmod_of_top T
  have TA := at_of_top T
  try (obtain ⟨wc, wd, he, B0⟩ := based_of_top T rfl hmg ho hd; have he' : cd = _ := he; subst he'; clear he)
  clear hmg
  wrow_args hpre hlay hrd hwl hlo
  first | refine callC_kw (enter_call ?_) | refine enter_call ?_ | refine callC_kw (enter_callW ?_) | refine enter_callW ?_ | w_how
  w_top on
  try refine codeAny_mono ?_ (fun _ _ g => GoodW.toG g)
  have K0 := below_caller (Top.heap T)
  w_call any ho hd hcd hD T F
  clear hd TA
  k_drop
  rename_i ns hs0 hlay0 hL1 hr1 hl2 was1 was2 al vs wf hL ra w1 r0 hI hr63 hcond Htrue h1 tk1 oo8 oo7 oo6 oo5 oo4 oo3 oo2 oo1 d8 d7 d6 d5 d4 d3 d2 d1 N0 X0
  refine wpAny_mono (law_body w fa _ _ _ _ _ _ _ K0 KX T hDict F oo1 oo2 oo3 oo4 oo5 oo6 oo7 oo8 d1 d2 d3 d4 d5 d6 d7 d8 al vs ns hL hI ?_ (by rfl) (FA ns) N0 fun h' tk m' F' => ?_) (fun _ _ g => g) fun _ _ e => e.elim
  · have hlen := hI.length
    omega
  · refine ⟨.inl ⟨_, _, [], rfl, fun _ => rfl, ReadsW.bool true, ?_, fun _ => ⟨List.nodup_nil, fun _ hm => (nomatch hm)⟩⟩, F'.keep, rfl, hg⟩
    wrow_post
end
theorem holds_of (FA : ∀ ns : List Int, Facts (heapsF ns)) : PySem.Challenge.rw_tc0086_01.Holds := asm (law_walk FA)
end
end
section
noncomputable abbrev cs (x : Str) : List Nat := x.cps.toList
theorem cs_append (x y : Str) : cs (x ++ y) = cs x ++ cs y := by simp only [cs, Str.cps_append, Array.toList_append]
theorem join_hom (f : Nat → List Nat) {y z : Str} (h : (cs y).flatMap f = (cs z).flatMap f) : ∀ ps : List Str, (cs (Str.join y ps)).flatMap f = (cs (Str.join z ps)).flatMap f
  | [] => rfl
  | [_] => rfl
  | p :: q :: r => by
    have ih := join_hom f h (q :: r)
    show (cs (p ++ y ++ Str.join y (q :: r))).flatMap f = (cs (p ++ z ++ Str.join z (q :: r))).flatMap f
    rw [cs_append, cs_append, cs_append, cs_append, List.flatMap_append, List.flatMap_append, List.flatMap_append, List.flatMap_append, h, ih]
theorem replace_hom (f : Nat → List Nat) (x : Str) {y z : Str} (h : (cs y).flatMap f = (cs z).flatMap f) : (cs (Txt.replace x y z)).flatMap f = (cs x).flatMap f := by
  unfold Txt.replace
  split
  · rfl
  · have hy : Builtin.Str.glued y (Builtin.Str.partsBetween x (Builtin.Str.occurrences x y 0 x.length (x.length + 1)) y.length) = x := StrLaws.glued_between_self ..
    rw [StrLaws.glued_eq_join, ← join_hom f h, ← StrLaws.glued_eq_join, hy]
/-- a hand upon one sign -/
noncomputable def escC : List (Nat × List Nat) → Nat → List Nat
  | [], c => [c]
  | p :: r, c => (if c = p.1 then p.2 else [c]).flatMap (escC r)
noncomputable def toSteps (N : List (Nat × List Nat)) : List (Str × Str) := N.map fun p => (T [p.1], T p.2)
theorem escs_cs : ∀ (N : List (Nat × List Nat)) (x : Str), cs (escs (toSteps N) x) = (cs x).flatMap (escC N)
  | [], x => by
    show cs x = (cs x).flatMap fun c => [c]
    simp
  | p :: r, x => by
    show cs (escs (toSteps r) (Txt.replace x ⟨#[p.1]⟩ (T p.2))) = _
    rw [escs_cs r, cs, replace_list, sub1, List.flatMap_assoc]
    rfl
noncomputable abbrev nCdata : List (Nat × List Nat) := [(38, [38, 97, 109, 112, 59]), (60, [38, 108, 116, 59]), (62, [38, 103, 116, 59])]
noncomputable abbrev nAttrib : List (Nat × List Nat) := nCdata ++ [(34, [38, 113, 117, 111, 116, 59]), (13, [38, 35, 49, 51, 59]), (10, [38, 35, 49, 48, 59]), (9, [38, 35, 48, 57, 59])]
noncomputable abbrev nHtml : List (Nat × List Nat) := [(38, [38, 97, 109, 112, 59]), (62, [38, 103, 116, 59]), (34, [38, 113, 117, 111, 116, 59])]
noncomputable abbrev nCdataC : List (Nat × List Nat) := nCdata ++ [(13, [38, 35, 120, 68, 59])]
noncomputable abbrev nAttribC : List (Nat × List Nat) := [(38, [38, 97, 109, 112, 59]), (60, [38, 108, 116, 59]), (34, [38, 113, 117, 111, 116, 59]), (9, [38, 35, 120, 57, 59]), (10, [38, 35, 120, 65, 59]), (13, [38, 35, 120, 68, 59])]
noncomputable def handN (i : Nat) : List (Nat × List Nat) := match i with | 0 => nCdata | 1 => nCdataC | 2 => nAttrib | 3 => nHtml | _ => nAttribC
theorem handS_N : ∀ i, handS i = toSteps (handN i)
  | 0 => by decide
  | 1 => by decide
  | 2 => by decide
  | 3 => by decide
  | _ + 4 => by show stepsAttribC = toSteps nAttribC; decide
noncomputable def keysAll : List Nat := [38, 60, 62, 34, 13, 10, 9]
theorem escC_free : ∀ (N : List (Nat × List Nat)) (c : Nat), (∀ p ∈ N, p.1 ≠ c) → escC N c = [c]
  | [], _, _ => rfl
  | p :: r, c, h => by
    unfold escC
    rw [if_neg (Ne.symm (h p List.mem_cons_self))]
    simp [escC_free r c fun q hq => h q (.tail _ hq)]
theorem handN_keys : ∀ i, ∀ p ∈ handN i, p.1 ∈ keysAll
  | 0 => by decide
  | 1 => by decide
  | 2 => by decide
  | 3 => by decide
  | _ + 4 => by show ∀ p ∈ nAttribC, p.1 ∈ keysAll; decide
theorem hand_free (i c : Nat) (h : c ∉ keysAll) : escC (handN i) c = [c] := escC_free _ _ fun p hp e => h (e ▸ handN_keys i p hp)
/-- a hand's every beginning makes no sign longer than six -/
theorem hand_six : ∀ i k c, (escC ((handN i).take k) c).length ≤ 6 := by
  intro i k c
  by_cases h : c ∈ keysAll
  · have key : ∀ N ∈ [nCdata, nCdataC, nAttrib, nHtml, nAttribC], ∀ k ∈ List.range 8, ∀ c ∈ keysAll, (escC (N.take k) c).length ≤ 6 := by decide +kernel
    have hN : handN i ∈ [nCdata, nCdataC, nAttrib, nHtml, nAttribC] := by
      match i with
      | 0 => simp [handN]
      | 1 => simp [handN]
      | 2 => simp [handN]
      | 3 => simp [handN]
      | _ + 4 => simp [handN]
    have hl : (handN i).length ≤ 7 := (by decide : ∀ N ∈ [nCdata, nCdataC, nAttrib, nHtml, nAttribC], N.length ≤ 7) _ hN
    by_cases hk : k < 8
    · exact key _ hN k (List.mem_range.mpr hk) c h
    · have := key _ hN 7 (by decide) c h
      rw [List.take_of_length_le hl] at this
      rw [List.take_of_length_le (by omega)]
      exact this
  · rw [escC_free _ c fun p hp e => h (e ▸ handN_keys i p (List.mem_of_mem_take hp))]
    exact (by decide : 1 ≤ 6)
theorem flatMap_len (f : Nat → List Nat) (b : Nat) (h : ∀ c, (f c).length ≤ b) : ∀ l : List Nat, (l.flatMap f).length ≤ b * l.length
  | [] => by simp
  | c :: r => by
    rw [List.flatMap_cons, List.length_append, List.length_cons, Nat.mul_succ]
    have := h c
    have := flatMap_len f b h r
    omega
theorem cs_len (x : Str) : (cs x).length = x.length := by simp [cs, Str.length]
theorem hand_len (i k : Nat) (x : Str) : (escs (toSteps ((handN i).take k)) x).length ≤ 6 * x.length := by
  rw [← cs_len, escs_cs, ← cs_len x]
  exact flatMap_len _ _ (hand_six i k) _
theorem escs_append : ∀ (A B : List (Str × Str)) (x : Str), escs (A ++ B) x = escs B (escs A x)
  | [], _, _ => rfl
  | p :: r, B, x => escs_append r B _
theorem fit_of (i : Nat) (x : Str) (hx : x.length ≤ 10000) : Fit (handS i) x := by
  rw [handS_N]
  have hz : ∀ p ∈ handN i, p.2.length ≤ 6 := by
    match i with
    | 0 => decide
    | 1 => decide
    | 2 => decide
    | 3 => decide
    | _ + 4 => show ∀ p ∈ nAttribC, p.2.length ≤ 6; decide
  have key : ∀ (B A : List (Nat × List Nat)), handN i = A ++ B → Fit (toSteps B) (escs (toSteps A) x) := by
    intro B
    induction B with
    | nil => intro A _; trivial
    | cons p r ih =>
      intro A e
      have h1 : (escs (toSteps A) x).length ≤ 6 * x.length := by
        have := hand_len i A.length x
        rw [e, List.take_left] at this
        exact this
      have h2 : p.2.length ≤ 6 := hz p (by rw [e]; simp)
      have h3 : (T p.2).length = p.2.length := by simp [Str.length]
      refine ⟨?_, ?_⟩
      · show (escs (toSteps A) x).length + ((escs (toSteps A) x).length + 1) * (T p.2).length ≤ 16777216
        have h4 : ((escs (toSteps A) x).length + 1) * (T p.2).length ≤ 60001 * 6 := Nat.mul_le_mul (by omega) (by omega)
        omega
      · have := ih (A ++ [p]) (by rw [e]; simp)
        have e2 : toSteps (A ++ [p]) = toSteps A ++ [(T [p.1], T p.2)] := by simp [toSteps]
        rw [e2, escs_append] at this
        exact this
  exact key (handN i) [] rfl
theorem typed_len (x : Str) (n : Int) : (typedF x n).length + 1 ≤ 64 * (x.length + 1) := by
  have a0 : tyA x n 0 = (x, n) := rfl
  have a1 : tyA x n 1 = ty1 (tyA x n 0) (Str.ofString "ff", Str.ofString "ﬀ") := rfl
  have a2 : tyA x n 2 = ty1 (tyA x n 1) (Str.ofString "fi", Str.ofString "ﬁ") := rfl
  have a3 : tyA x n 3 = ty1 (tyA x n 2) (Str.ofString "kk", Str.ofString "㏍") := rfl
  have l1 := ty1_len (tyA x n 0) (Str.ofString "ff", Str.ofString "ﬀ") (by decide)
  have l2 := ty1_len (tyA x n 1) (Str.ofString "fi", Str.ofString "ﬁ") (by decide)
  have l3 := ty1_len (tyA x n 2) (Str.ofString "kk", Str.ofString "㏍") (by decide)
  rw [← a1] at l1
  rw [← a2] at l2
  rw [← a3] at l3
  have hc : (Str.ofString "fik").cps = #[102, 105, 107] := by decide
  have b1 : tyB (tyA x n 3) 1 = ty2 (tyB (tyA x n 3) 0) 102 := tyB_next (tyA x n 3) 0 102 (by rw [hc]; rfl)
  have b2 : tyB (tyA x n 3) 2 = ty2 (tyB (tyA x n 3) 1) 105 := tyB_next (tyA x n 3) 1 105 (by rw [hc]; rfl)
  have b3 : tyB (tyA x n 3) 3 = ty2 (tyB (tyA x n 3) 2) 107 := tyB_next (tyA x n 3) 2 107 (by rw [hc]; rfl)
  have m1 := ty2_len (tyB (tyA x n 3) 0) 102
  have m2 := ty2_len (tyB (tyA x n 3) 1) 105
  have m3 := ty2_len (tyB (tyA x n 3) 2) 107
  rw [← b1] at m1
  rw [← b2] at m2
  rw [← b3] at m3
  have e0 : tyB (tyA x n 3) 0 = tyA x n 3 := rfl
  rw [e0] at m1
  rw [a0] at l1
  replace l1 : (tyA x n 1).1.length + 1 ≤ 2 * (x.length + 1) := l1
  show (tyB (tyA x n 3) 3).1.length + 1 ≤ _
  omega
end
section
noncomputable def leadL (ps : List (Int × Int × Int)) (ly : Nat) : List Nat := ((textF ps (List.replicate 6 (Str.ofString "f"))).cps.toList.flatMap fun c => if c = 60 ∨ c = 62 then List.replicate (4 * ly) 32 else [9]) ++ [32, 32]
noncomputable def lead0 (ps : List (Int × Int × Int)) (ly : Nat) : Str := ⟨(leadL ps ly).toArray⟩
/-- a lead by its runs: some n: so many spaces; none: a tab -/
noncomputable def expand (l : List (Option Nat)) : List Nat := l.flatMap fun o => match o with | some n => List.replicate n 32 | none => [9]
noncomputable abbrev Sig : Type := List Int × Int × Int × Int
noncomputable def wsItem (σ : Sig) (o : Option Nat) : Sig := match o with | some n => (σ.1, σ.2.1 + n, σ.2.2.1 + n, σ.2.2.2) | none => wsStep σ 9
theorem ws_spaces : ∀ (n : Nat) (σ : Sig), (List.replicate n 32).foldl wsStep σ = (σ.1, σ.2.1 + n, σ.2.2.1 + n, σ.2.2.2)
  | 0, σ => by simp
  | n + 1, σ => by
    rw [List.replicate_succ, List.foldl_cons, ws_spaces n]
    unfold wsStep
    rw [if_pos rfl]
    simp only [Int.add_assoc]
    rw [show (1 : Int) + (n : Int) = ((n + 1 : Nat) : Int) by omega]
theorem ws_runs : ∀ (l : List (Option Nat)) (σ : Sig), (expand l).foldl wsStep σ = l.foldl wsItem σ
  | [], _ => rfl
  | some n :: r, σ => by
    show (List.replicate n 32 ++ expand r).foldl wsStep σ = _
    rw [List.foldl_append, ws_spaces, ws_runs r]; rfl
  | none :: r, σ => by
    show ([9] ++ expand r).foldl wsStep σ = _
    rw [List.foldl_append, ws_runs r]; rfl
theorem expand_ws (l : List (Option Nat)) : ∀ c ∈ expand l, (c == 32 || c == 9) = true := by
  intro c hc
  obtain ⟨o, _, ho⟩ := List.mem_flatMap.mp hc
  cases o with
  | none => rw [List.mem_singleton.mp ho]; rfl
  | some n => rw [List.eq_of_mem_replicate ho]; rfl
theorem takeWhile_all {p : Nat → Bool} : ∀ (l : List Nat) (m : List Nat), (∀ c ∈ l, p c = true) → (l ++ m).takeWhile p = l ++ m.takeWhile p
  | [], _, _ => rfl
  | c :: r, m, h => by
    rw [List.cons_append, List.takeWhile_cons, if_pos (h c List.mem_cons_self), takeWhile_all r m fun d hd => h d (.tail _ hd)]; rfl
noncomputable abbrev sig0 : Sig := ([], 0, 0, 0)
theorem wsF_runs (X : Str) (l : List (Option Nat)) (m : List Nat) (h : X.cps.toList = expand l ++ m) (hm : m.takeWhile (fun c => c == 32 || c == 9) = []) : wsF X = l.foldl wsItem sig0 := by
  unfold wsF
  rw [h, takeWhile_all _ _ (expand_ws l), hm, List.append_nil, ws_runs]
/-- the level that a state of the runs gives -/
noncomputable def lvOf (σ : Sig) (n : Int) : Int := σ.2.1 + n * (ilAt σ.1 n ((σ.1.length : Int) - n).toNat + σ.2.2.2)
theorem level_runs (X : Str) (n : Int) (l : List (Option Nat)) (m : List Nat) (h : X.cps.toList = expand l ++ m) (hm : m.takeWhile (fun c => c == 32 || c == 9) = []) : levelF X n = lvOf (l.foldl wsItem sig0) n := by
  unfold levelF
  rw [wsF_runs X l m h hm]; rfl
noncomputable def colItem (n : Int) (c : Int) (o : Option Nat) : Int := match o with | some k => c + k | none => (c.fdiv n + 1) * n
theorem col_runs (X : Str) (n : Int) (l : List (Option Nat)) (h : X.cps.toList = expand l) : columnF X n = l.foldl (colItem n) 0 := by
  have s32 : Str.ofString " " = ⟨#[32]⟩ := by decide
  have one : ∀ c : Nat, ((⟨#[c]⟩ : Str) == Str.ofString " ") = (c == 32) := by
    intro c
    rw [s32, Bool.eq_iff_iff, beq_iff_eq, beq_iff_eq]
    constructor
    · intro e; exact (List.cons.inj (congrArg (fun z : Str => z.cps.toList) e)).1
    · intro e; rw [e]
  have sp : ∀ (k : Nat) (σ : Int × Unit), ((List.replicate k 32).map fun c => (⟨#[c]⟩ : Str)).foldl (fun (σ : Int × Unit) k => if (k == Str.ofString " ") = true then (σ.fst + 1, ()) else ((σ.fst.fdiv n + 1) * n, ())) σ = (σ.1 + k, ()) := by
    intro k
    induction k with
    | zero => intro σ; simp
    | succ k ih =>
      intro σ
      rw [List.replicate_succ, List.map_cons, List.foldl_cons, ih, one, if_pos (by decide)]
      refine Prod.ext ?_ rfl
      dsimp only
      omega
  have go : ∀ (l : List (Option Nat)) (σ : Int × Unit), ((expand l).map fun c => (⟨#[c]⟩ : Str)).foldl (fun (σ : Int × Unit) k => if (k == Str.ofString " ") = true then (σ.fst + 1, ()) else ((σ.fst.fdiv n + 1) * n, ())) σ = (l.foldl (colItem n) σ.1, ()) := by
    intro l
    induction l with
    | nil => intro σ; rfl
    | cons o r ih =>
      intro σ
      cases o with
      | some k =>
        show ((List.replicate k 32 ++ expand r).map _).foldl _ σ = _
        rw [List.map_append, List.foldl_append, sp, ih]; rfl
      | none =>
        show (([9] ++ expand r).map _).foldl _ σ = _
        rw [List.map_append, List.foldl_append, ih, List.map_cons, List.map_nil, List.foldl_cons, List.foldl_nil, one, if_neg (by decide)]; rfl
  unfold columnF signs
  rw [h, go]
theorem slice_take (x : Str) (k : Nat) : (Txt.slice x none (some (k : Int))).cps.toList = x.cps.toList.take k := by
  have hi : Builtin.Str.strSliceIndices none (some (k : Int)) 1 x.length = List.range (min k x.length) := by
    unfold Builtin.Str.strSliceIndices sliceRange
    have h1 : max 0 (min (k : Int) (x.length : Int)) = ((min k x.length : Nat) : Int) := by omega
    simp only [show (1 : Int) > 0 by decide, if_true, if_neg (show ¬ (k : Int) < 0 by omega), h1, Int.sub_zero, Int.ediv_one, Int.one_mul, Int.zero_add]
    have h2 : (if (0 : Int) < ((min k x.length : Nat) : Int) then ((min k x.length : Nat) : Int) + 1 - 1 else 0).toNat = min k x.length := by split <;> omega
    rw [h2]
    simp
  have hl : x.length = x.cps.toList.length := by simp [Str.length]
  unfold Txt.slice
  rw [hi]
  split
  · rename_i h
    simp only [List.length_range, Bool.and_eq_true, beq_iff_eq] at h
    rw [List.take_of_length_le (by omega)]
  · show ((List.range (min k x.length)).filterMap fun i => x.cps[i]?).toArray.toList = _
    rw [hl]
    have e : ∀ i : Nat, x.cps[i]? = x.cps.toList[i]? := fun i => by simp
    simp only [e]
    generalize x.cps.toList = l
    have go : ∀ m, m ≤ l.length → (List.range m).filterMap (fun i => l[i]?) = l.take m := by
      intro m
      induction m with
      | zero => intro _; rfl
      | succ m ih =>
        intro h
        have hm : l[m]? = some l[m] := List.getElem?_eq_getElem h
        rw [List.range_succ, List.filterMap_append, ih (by omega), take_nextC l m _ hm]
        simp [hm]
    rw [go _ (Nat.min_le_right _ _)]
    exact List.take_eq_take_min.symm
noncomputable def posR (p : Nat) : List (Option Nat) → List Nat
  | [] => []
  | some n :: r => posR (p + n) r
  | none :: r => p :: posR (p + 1) r
theorem item_at (L : List Nat) (i : Nat) (h : i < L.length) : (Txt.item ⟨L.toArray⟩ (0 + (i : Int)) == Str.ofString "\t") = (L.getD i 0 == 9) := by
  have s9 : Str.ofString "\t" = ⟨#[9]⟩ := by decide
  have e : Txt.item ⟨L.toArray⟩ (0 + (i : Int)) = ⟨#[L.getD i 0]⟩ := by
    unfold Txt.item Txt.charAt
    have hl : (⟨L.toArray⟩ : Str).length = L.length := by simp [Str.length]
    have hs : seqIndex? (0 + (i : Int)) L.length = some i := by
      unfold seqIndex?
      have h1 : (if (0 + (i : Int)) < 0 then 0 + (i : Int) + (L.length : Int) else 0 + (i : Int)) = i := by
        rw [if_neg (by omega)]; omega
      simp only [h1]
      rw [if_pos (by simp; omega)]
      simp
    rw [hl, hs]
    show (⟨#[(L.toArray[i]?).getD 0]⟩ : Str) = _
    rw [List.getD_eq_getElem?_getD]
    simp
  rw [e, s9, Bool.eq_iff_iff, beq_iff_eq, beq_iff_eq]
  constructor
  · intro e; exact (List.cons.inj (congrArg (fun z : Str => z.cps.toList) e)).1
  · intro e; rw [e]
theorem pos_spaces : ∀ (n p : Nat) (r : List Nat) (f : Nat → Bool), (∀ j, j < n + r.length → f (p + j) = ((List.replicate n 32 ++ r).getD j 0 == 9)) → (List.range' p (n + r.length)).filter f = (List.range' (p + n) r.length).filter f
  | 0, p, r, f, _ => by simp
  | n + 1, p, r, f, h => by
    have h0 := h 0 (by omega)
    rw [Nat.add_zero] at h0
    have e : n + 1 + r.length = n + r.length + 1 := by omega
    rw [e, List.range'_succ, List.filter_cons, h0]
    rw [if_neg (by simp [List.replicate_succ]), pos_spaces n (p + 1) r f fun j hj => by
      have := h (j + 1) (by omega)
      rw [show p + 1 + j = p + (j + 1) by omega, this]
      simp [List.replicate_succ]]
    rw [show p + 1 + n = p + (n + 1) by omega]
theorem pos_runs : ∀ (l : List (Option Nat)) (p : Nat) (f : Nat → Bool), (∀ j, j < (expand l).length → f (p + j) = ((expand l).getD j 0 == 9)) → (List.range' p (expand l).length).filter f = posR p l
  | [], _, _, _ => rfl
  | some n :: r, p, f, h => by
    have e : expand (some n :: r) = List.replicate n 32 ++ expand r := rfl
    rw [e] at h ⊢
    rw [List.length_append, List.length_replicate] at h ⊢
    rw [pos_spaces n p (expand r) f h]
    show _ = posR (p + n) r
    exact pos_runs r (p + n) f fun j hj => by
      have := h (n + j) (by omega)
      rw [show p + n + j = p + (n + j) by omega, this, List.getD_eq_getElem?_getD, List.getD_eq_getElem?_getD, List.getElem?_append_right (by simp), List.length_replicate, Nat.add_sub_cancel_left]
  | none :: r, p, f, h => by
    have e : expand (none :: r) = 9 :: expand r := rfl
    rw [e] at h ⊢
    have h0 := h 0 (by simp)
    rw [Nat.add_zero] at h0
    rw [List.length_cons, List.range'_succ, List.filter_cons, h0, if_pos (by rfl)]
    show _ = p :: posR (p + 1) r
    rw [pos_runs r (p + 1) f fun j hj => by
      have := h (j + 1) (by simp; omega)
      rw [show p + 1 + j = p + (j + 1) by omega, this]
      simp]
theorem places_runs (l : List (Option Nat)) : placesOf ⟨(expand l).toArray⟩ = (posR 0 l).map fun i : Nat => 0 + (i : Int) := by
  unfold placesOf
  have hl : (⟨(expand l).toArray⟩ : Str).length = (expand l).length := by simp [Str.length]
  rw [hl, List.range_eq_range', pos_runs l 0 _ fun j hj => by rw [Nat.zero_add]; exact item_at _ j hj]
/-- the states behind each tab -/
noncomputable def sigR (σ : Sig) : List (Option Nat) → List Sig
  | [] => []
  | some n :: r => sigR (wsItem σ (some n)) r
  | none :: r => wsItem σ none :: sigR (wsItem σ none) r
theorem sig_runs (X : Str) : ∀ (l pre : List (Option Nat)), X.cps.toList = expand (pre ++ l) → ∀ n, ((posR (expand pre).length l).map fun i : Nat => levelF (Txt.slice X none (some (0 + (i : Int) + 1))) n) = (sigR (pre.foldl wsItem sig0) l).map fun σ => lvOf σ n
  | [], _, _, _ => rfl
  | some k :: r, pre, h, n => by
    have ih := sig_runs X r (pre ++ [some k]) (by rw [h]; simp) n
    rw [List.foldl_append] at ih
    have e : (expand (pre ++ [some k])).length = (expand pre).length + k := by simp [expand]
    rw [e] at ih
    exact ih
  | none :: r, pre, h, n => by
    have ih := sig_runs X r (pre ++ [none]) (by rw [h]; simp) n
    rw [List.foldl_append] at ih
    have e : (expand (pre ++ [none])).length = (expand pre).length + 1 := by simp [expand]
    rw [e] at ih
    show levelF (Txt.slice X none (some (0 + ((expand pre).length : Int) + 1))) n :: _ = lvOf (wsItem _ none) n :: _
    refine congr (congrArg List.cons ?_) ih
    have h2 : (0 + ((expand pre).length : Int) + 1) = (((expand pre).length + 1 : Nat) : Int) := by omega
    rw [h2]
    refine (level_runs _ n (pre ++ [none]) [] ?_ rfl).trans (by rw [List.foldl_append]; rfl)
    rw [slice_take, h, List.append_nil]
    have h3 : expand (pre ++ none :: r) = expand (pre ++ [none]) ++ expand r := by simp [expand]
    rw [h3, ← e, List.take_left]
theorem cols_runs (l : List (Option Nat)) (n : Int) : colsOf ⟨(expand l).toArray⟩ (placesOf ⟨(expand l).toArray⟩) n = (sigR sig0 l).map fun σ => lvOf σ n := by
  rw [places_runs]
  unfold colsOf
  rw [List.map_map]
  exact sig_runs ⟨(expand l).toArray⟩ l [] rfl n
theorem ahead_runs (X : Str) (a : Nat) (r : List (Option Nat)) (b : Nat) (h : X.cps.toList = expand (some a :: none :: r)) (n : Int) : levelF (Txt.slice X none (some (0 + ((0 + a : Nat) : Int)))) n = lvOf (wsItem sig0 (some a)) n := by
  have h2 : (0 + ((0 + a : Nat) : Int)) = ((a : Nat) : Int) := by omega
  rw [h2]
  refine level_runs _ n [some a] [] ?_ rfl
  rw [slice_take, h, List.append_nil]
  have h3 : expand (some a :: none :: r) = expand [some a] ++ expand (none :: r) := by simp [expand]
  have h4 : (expand [some a]).length = a := by simp [expand]
  rw [h3]
  have := List.take_left (l₁ := expand [some a]) (l₂ := expand (none :: r))
  rw [h4] at this
  exact this
noncomputable def opens (ps : List (Int × Int × Int)) (i : Nat) : Nat := (ps.filter fun p => decide (p.1 = 0 + (i : Int))).length
noncomputable def closes (ps : List (Int × Int × Int)) (i : Nat) : Nat := (ps.filter fun p => decide (p.2.2 = 0 + (i : Int) + 1)).length
noncomputable def runsAt (ps : List (Int × Int × Int)) (s : Nat) : Nat → List (Option Nat)
  | 0 => []
  | i + 1 => runsAt ps s i ++ [some (opens ps i * s), none, some (closes ps i * s)]
noncomputable def runsP (ps : List (Int × Int × Int)) (s : Nat) : List (Option Nat) := runsAt ps s 6 ++ [some 2]
theorem expand_append (a b : List (Option Nat)) : expand (a ++ b) = expand a ++ expand b := List.flatMap_append
theorem rep_flat (n s c : Nat) (f : Nat → List Nat) (h : f c = List.replicate s 32) : (List.replicate n c).flatMap f = List.replicate (n * s) 32 := by
  induction n with
  | zero => simp
  | succ n ih =>
    rw [List.replicate_succ, List.flatMap_cons, ih, h, List.replicate_append_replicate, Nat.succ_mul, Nat.add_comm]
theorem mul_cs (c : Nat) (n : Int) : (Txt.mul ⟨#[c]⟩ n).cps.toList = List.replicate n.toNat c := by
  have go : ∀ (k : Nat) (b : Array Nat), ((List.replicate k (#[c] : Array Nat)).foldl (· ++ ·) b).toList = b.toList ++ List.replicate k c := by
    intro k
    induction k with
    | zero => intro b; simp
    | succ k ih =>
      intro b
      rw [List.replicate_succ, List.foldl_cons, ih, List.replicate_succ]
      simp
  unfold Txt.mul
  split
  · rename_i h
    have : n.toNat = 0 := by omega
    rw [this]; rfl
  · split
    · rename_i h
      have e : n = 1 := by
        simp only [Bool.or_eq_true, beq_iff_eq] at h
        rcases h with h | h
        · exact h
        · cases h
      rw [e]; rfl
    · show ((List.replicate n.toNat (#[c] : Array Nat)).foldl (· ++ ·) #[]).toList = _
      rw [go]; rfl
theorem lead_runs (ps : List (Int × Int × Int)) (ly : Nat) : leadL ps ly = expand (runsP ps (4 * ly)) := by
  have s60 : Str.ofString "<" = ⟨#[60]⟩ := by decide
  have s62 : Str.ofString ">" = ⟨#[62]⟩ := by decide
  have go : ∀ i, i ≤ 6 → (textAt ps (List.replicate 6 (Str.ofString "f")) i).cps.toList.flatMap (fun c => if c = 60 ∨ c = 62 then List.replicate (4 * ly) 32 else [9]) = expand (runsAt ps (4 * ly) i) := by
    intro i
    induction i with
    | zero => intro _; rfl
    | succ i ih =>
      intro hi
      unfold textAt runsAt
      rw [s60, s62, expand_append, ← ih (by omega)]
      simp only [Str.cps_append, Array.toList_append, List.flatMap_append, mul_cs, Int.toNat_natCast]
      rw [rep_flat _ (4 * ly) 60 _ (if_pos (Or.inl rfl)), rep_flat _ (4 * ly) 62 _ (if_pos (Or.inr rfl))]
      have e2 : ((List.replicate 6 (Str.ofString "f")).getD i ⟨#[]⟩).cps.toList = [102] := by
        rw [List.getD_eq_getElem?_getD, List.getElem?_replicate, if_pos (by omega)]
        decide
      rw [e2]
      simp [expand, opens, closes]
  unfold leadL textF runsP
  rw [expand_append, go 6 (Nat.le_refl _)]
  rfl
noncomputable def chk (ps : List (Int × Int × Int)) (ly : Int) (len : Nat) (pls cols ts : List Int) (rs : List (List Int)) (lvA lvB lvC : Int → Int) : Bool :=
  decide (len ≤ 900) && decide (pls.length = 6) && pls.all (fun k => decide (0 ≤ k) && decide (k < len)) && decide (ts = countF ps) && decide (ts = stepsDown pls (4 * ly)) && decide (ts = stepsDown cols (4 * ly)) && decide (ts = stepsOne pls (4 * ly)) &&
  ([(1 : Int), 3, 5, 4 * ly].all fun n => decide (lvA n = pls.getD 0 0) && decide (lvB n = lvC n)) &&
  ts.all (fun x => decide (-(2 ^ 64) < x) && decide (x < 2 ^ 64)) && rs.all (fun r => r.all fun x => decide (-(2 ^ 64) < x) && decide (x < 2 ^ 64)) &&
  pairsF.all (fun p => decide (¬ p.2 < 6) || decide (fz rs p.1 p.2 * fz rs (p.1 + 1) (p.2 + 1) = fz rs p.1 (p.2 + 1) * fz rs (p.1 + 1) p.2 + 1)) &&
  sortSafe (spansOf ps) && decide ((pairsF.filter fun p => fz rs p.1 p.2 == 1) = sortOf (spansOf ps))
noncomputable def forceN {β : Type} (n : Nat) (k : Nat → β) : β := match n with | 0 => k 0 | m + 1 => k (m + 1)
theorem forceN_is {β : Type} (n : Nat) (k : Nat → β) : forceN n k = k n := by cases n <;> rfl
noncomputable def forceI {β : Type} (n : Int) (k : Int → β) : β := match n with | .ofNat m => forceN m fun m => k (Int.ofNat m) | .negSucc m => forceN m fun m => k (Int.negSucc m)
theorem forceI_is {β : Type} (n : Int) (k : Int → β) : forceI n k = k n := by
  cases n with
  | ofNat m => exact forceN_is m fun m => k (Int.ofNat m)
  | negSucc m => exact forceN_is m fun m => k (Int.negSucc m)
noncomputable def forceL {α β : Type} (f : α → (α → β) → β) : List α → (List α → β) → β
  | [], k => k []
  | c :: r, k => f c fun c => forceL f r fun r => k (c :: r)
theorem forceL_is {α β : Type} {f : α → (α → β) → β} (hf : ∀ c k, f c k = k c) : ∀ (l : List α) (k : List α → β), forceL f l k = k l
  | [], _ => rfl
  | c :: r, k => by
    unfold forceL
    rw [hf, forceL_is hf r]
noncomputable def forceO {β : Type} (o : Option Nat) (k : Option Nat → β) : β := match o with | none => k none | some n => forceN n fun n => k (some n)
theorem forceO_is {β : Type} (o : Option Nat) (k : Option Nat → β) : forceO o k = k o := by
  cases o with
  | none => rfl
  | some n => exact forceN_is n fun n => k (some n)
noncomputable def chkAt (ps : List (Int × Int × Int)) (ly : Nat) : Bool :=
  forceL forceO (runsP ps (4 * ly)) fun l => forceL forceI ((posR 0 l).map fun i : Nat => 0 + (i : Int)) fun pls => forceL forceI ((sigR sig0 l).map fun σ => lvOf σ (4 * (ly : Int))) fun cols => forceL forceI (stepsUp cols (4 * (ly : Int))) fun ts =>
    forceL (fun r k => forceL forceI r k) (friezeF ts) fun rs => chk ps ly (expand l).length pls cols ts rs (fun n => lvOf (wsItem sig0 (l.headD none)) n) (fun n => lvOf (l.foldl wsItem sig0) n) (fun n => l.foldl (colItem n) 0)
/-- all ways to part a run of sides -/
noncomputable def allP : Nat → Int → Nat → List (List (Int × Int × Int))
  | 0, _, _ => [[]]
  | n + 1, f, w => if w < 2 then [[]] else (List.range (w - 1)).flatMap fun k => (allP n f (k + 1)).flatMap fun A => (allP n (f + k + 1) (w - 1 - k)).map fun B => (f, f + k + 1, f + (w : Int)) :: (A ++ B)
noncomputable def all42 : List (List (Int × Int × Int)) := allP 7 0 6
noncomputable def ordStep (a : List Int × List Int) (i : Nat) : List Int × List Int := (a.1 ++ [a.2.getD i 0], a.2.eraseIdx i)
noncomputable def ordD (a b c d e : Nat) : List Int := (ordStep (ordStep (ordStep (ordStep (ordStep ([], [1, 2, 3, 4, 5]) a) b) c) d) e).1
theorem orderF_D (n : Int) : orderF n = ordD (n.fmod 5).toNat ((n.fdiv 5).fmod 4).toNat (((n.fdiv 5).fdiv 4).fmod 3).toNat ((((n.fdiv 5).fdiv 4).fdiv 3).fmod 2).toNat (((((n.fdiv 5).fdiv 4).fdiv 3).fdiv 2).fmod 1).toNat := rfl
theorem ord_all0 : ((List.range 5).all fun a => (List.range 4).all fun b => (List.range 3).all fun c => (List.range 2).all fun d => all42.contains (partsF 7 (ordD a b c d 0) 0 6)) = true := by decide +kernel
theorem ord_all (a b c d e : Nat) (ha : a < 5) (hb : b < 4) (hc : c < 3) (hd : d < 2) (he : e < 1) : partsF 7 (ordD a b c d e) 0 6 ∈ all42 := by
  obtain rfl : e = 0 := by omega
  have h1 := List.all_eq_true.mp ord_all0 a (List.mem_range.mpr ha)
  have h2 := List.all_eq_true.mp h1 b (List.mem_range.mpr hb)
  have h3 := List.all_eq_true.mp h2 c (List.mem_range.mpr hc)
  have h4 := List.all_eq_true.mp h3 d (List.mem_range.mpr hd)
  exact List.contains_iff_mem.mp h4
theorem digit (n k : Int) (h : 0 < k) : (n.fmod k).toNat < k.toNat := by
  have := fmod_bd n k h
  omega
theorem parts_in (n : Int) : partsF 7 (orderF n) 0 6 ∈ all42 := by
  rw [orderF_D]
  exact ord_all _ _ _ _ _ (digit _ 5 (by decide)) (digit _ 4 (by decide)) (digit _ 3 (by decide)) (digit _ 2 (by decide)) (digit _ 1 (by decide))
theorem all_five : ∀ ps ∈ all42, ps.length = 5 := by decide +kernel
theorem chk_all1 : all42.all (fun ps => chkAt ps 1) = true := by decide +kernel
theorem chk_all2 : all42.all (fun ps => chkAt ps 2) = true := by decide +kernel
theorem getD_all {r : List Int} {P : Int → Prop} (h0 : P 0) (h : ∀ x ∈ r, P x) (k : Nat) : P (r.getD k 0) := by
  rw [List.getD_eq_getElem?_getD]
  cases e : r[k]? with
  | none => exact h0
  | some x => exact h x (List.mem_of_getElem? e)
theorem lead_of_chk {ps : List (Int × Int × Int)} {ly : Int} {Ld : Str} {pls cols ts : List Int} {rs : List (List Int)} {lvA lvB lvC : Int → Int} (h : chk ps ly Ld.length pls cols ts rs lvA lvB lvC = true) (hA : ∀ n, levelF (Txt.slice Ld none (some (pls.getD 0 0))) n = lvA n) (hB : ∀ n, levelF (Ld ++ Str.ofString "k\t ") n = lvB n) (hC : ∀ n, columnF Ld n = lvC n) : LeadFacts ps ly Ld pls cols ts rs := by
  unfold chk at h
  simp only [Bool.and_eq_true, decide_eq_true_eq, List.all_eq_true, Bool.or_eq_true, and_assoc] at h
  obtain ⟨c1, c2, c3, c4, c5, c6, c7, c8, c9, c10, c11, c12, c13⟩ := h
  refine ⟨c1, c2, c3, c4, c5, c6, c7, fun n hn => ?_, ?_, ?_, ?_, c12, c13⟩
  · rw [hA, hB, hC]
    exact c8 n hn
  · exact fun k => getD_all (P := fun x => -(2 ^ 64) < x ∧ x < 2 ^ 64) (by decide) c9 k
  · intro i j
    unfold fz
    refine getD_all (P := fun x => -(2 ^ 64) < x ∧ x < 2 ^ 64) (by decide) ?_ _
    rw [List.getD_eq_getElem?_getD]
    cases e : rs[i.toNat]? with
    | none => exact fun x hx => nomatch hx
    | some r => exact c10 r (List.mem_of_getElem? e)
  · intro p hp h6
    rcases c11 p hp with h | h
    · exact absurd h6 h
    · exact h
theorem lead_at (ps : List (Int × Int × Int)) (ly : Nat) (h : chkAt ps ly = true) : Lead ps ly (lead0 ps ly) := by
  unfold chkAt at h
  rw [forceL_is forceO_is, forceL_is forceI_is, forceL_is forceI_is, forceL_is forceI_is, forceL_is (fun r k => forceL_is forceI_is r k)] at h
  obtain ⟨a, r, hl⟩ : ∃ a r, runsP ps (4 * ly) = some a :: none :: r := ⟨_, _, rfl⟩
  unfold Lead lead0
  rw [lead_runs, cols_runs, places_runs]
  rw [hl] at h ⊢
  have hlen : (⟨(expand (some a :: none :: r)).toArray⟩ : Str).length = (expand (some a :: none :: r)).length := by simp [Str.length]
  refine lead_of_chk (by rw [hlen]; exact h) (fun n => ?_) (fun n => ?_) fun n => ?_
  · exact ahead_runs ⟨(expand (some a :: none :: r)).toArray⟩ a r 0 rfl n
  · refine level_runs _ n (some a :: none :: r) [107, 9, 32] ?_ (by decide)
    have e : (Str.ofString "k\t ").cps.toList = [107, 9, 32] := by decide
    rw [Str.cps_append, Array.toList_append, e]
  · exact col_runs _ n _ rfl
theorem lead_ok (ps : List (Int × Int × Int)) (hp : ps ∈ all42) (ly : Int) (h : 1 ≤ ly ∧ ly ≤ 2) : Lead ps ly (lead0 ps ly.toNat) := by
  have : ly = 1 ∨ ly = 2 := by omega
  rcases this with rfl | rfl
  · exact lead_at ps 1 (List.all_eq_true.mp chk_all1 ps hp)
  · exact lead_at ps 2 (List.all_eq_true.mp chk_all2 ps hp)
end
section
theorem join_cs : ∀ l : List Str, cs (Txt.join (Str.ofString "") l) = l.flatMap cs := by
  intro l
  show cs (Builtin.Str.glued _ l) = _
  rw [StrLaws.glued_eq_join]
  induction l with
  | nil => rfl
  | cons x r ih =>
    cases r with
    | nil => simp [Str.join]
    | cons y q =>
      show cs (x ++ Str.ofString "" ++ Str.join (Str.ofString "") (y :: q)) = _
      rw [cs_append, cs_append, ih]
      have e : cs (Str.ofString "") = [] := by decide
      rw [e, List.append_nil]
      rfl
/-- how a sign is prepared -/
noncomputable def hF (c : Nat) : List Nat := if b1L.any (fun k => k == (c : Int)) then [] else cs (b3 c)
theorem hF_same : ∀ c ∈ [102, 105, 107, 38, 97, 109, 112, 59, 108, 116, 103], hF c = [c] := by decide +kernel
theorem hF_beside : ∀ c ∈ besideL, hF c.toNat = [c.toNat] := by decide +kernel
theorem hF_form : ∀ c ∈ [102, 105, 107], ∀ form ∈ (List.range 11), hF (tySign ((form : Int) + 1) c).toNat = [c] := by decide +kernel
theorem hF_pair : hF 64256 = [102, 102] ∧ hF 64257 = [102, 105] ∧ hF 13261 = [107, 107] ∧ hF 1046 = [1078] := by decide +kernel
theorem hF_unseen : ∀ c ∈ unseenL, hF c.toNat = [] := by decide +kernel
theorem prep_cs (X : Str) : cs (prepOf X) = (cs X).flatMap hF := by
  unfold prepOf seenOf
  rw [join_cs]
  show List.flatMap cs (List.map b3 (List.filter _ (cs X))) = _
  generalize cs X = l
  induction l with
  | nil => rfl
  | cons c r ih =>
    rw [List.flatMap_cons, ← ih, List.filter_cons]
    unfold hF
    cases h : b1L.any fun k => k == (c : Int) <;> simp
/-- how a sign is escaped -/
noncomputable def gF (n : Int) (c : Nat) : List Nat := if (n.fdiv 3).fmod 2 = 1 then (escC (handN (n.fmod 3).toNat) c).flatMap (escC (handN ((n.fdiv 6).fmod 5).toNat)) else escC (handN (n.fmod 3).toNat) c
theorem written_cs (x : Str) (n : Int) : cs (writtenF x n) = (cs x).flatMap (gF n) := by
  unfold writtenF gF
  dsimp only
  split
  · rw [handS_N, handS_N, escs_cs, escs_cs, List.flatMap_assoc]
  · rw [handS_N, escs_cs]
theorem gF_free (n : Int) (c : Nat) (h : c ∉ keysAll) : gF n c = [c] := by
  unfold gF
  rw [hand_free _ c h]
  split
  · rw [List.flatMap_cons, List.flatMap_nil, List.append_nil]
    exact hand_free _ c h
  · rfl
noncomputable def kF (n : Int) (c : Nat) : List Nat := (gF n c).flatMap hF
theorem kF_free (n : Int) (c : Nat) (h : c ∉ keysAll) : kF n c = hF c := by
  unfold kF
  rw [gF_free n c h]
  simp
theorem typed_hom (f : Nat → List Nat) (x : Str) (n : Int) (hA : ∀ p ∈ tyPairs, (cs p.1).flatMap f = (cs p.2).flatMap f) (hB : ∀ c ∈ [102, 105, 107], ∀ form ∈ (List.range 11), f (tySign ((form : Int) + 1) c).toNat = f c) :
    (cs (typedF x n)).flatMap f = (cs x).flatMap f := by
  have step1 : ∀ (a : Str × Int) (p : Str × Str), p ∈ tyPairs → (cs (ty1 a p).1).flatMap f = (cs a.1).flatMap f := by
    intro a p hp
    unfold ty1
    dsimp only
    split
    · exact replace_hom f _ (hA p hp)
    · rfl
  have all1 : ∀ (l : List (Str × Str)) (a : Str × Int), (∀ p ∈ l, p ∈ tyPairs) → (cs (l.foldl ty1 a).1).flatMap f = (cs a.1).flatMap f := by
    intro l
    induction l with
    | nil => intro a _; rfl
    | cons p r ih =>
      intro a h
      rw [List.foldl_cons, ih _ fun q hq => h q (.tail _ hq), step1 a p (h p List.mem_cons_self)]
  have step2 : ∀ (a : Str × Int) (c : Nat), c ∈ [102, 105, 107] → (cs (ty2 a c).1).flatMap f = (cs a.1).flatMap f := by
    intro a c hc
    unfold ty2
    dsimp only
    split
    · rfl
    · rename_i h
      have b := fmod_bd a.2 12 (by decide)
      refine replace_hom f _ ?_
      have e := hB c hc (a.2.fmod 12 - 1).toNat (List.mem_range.mpr (by omega))
      have e2 : (((a.2.fmod 12 - 1).toNat : Nat) : Int) + 1 = a.2.fmod 12 := by omega
      rw [e2] at e
      show [c].flatMap f = [(tySign (a.2.fmod 12) c).toNat].flatMap f
      simp [e]
  have all2 : ∀ (l : List Nat) (a : Str × Int), (∀ p ∈ l, p ∈ [102, 105, 107]) → (cs (l.foldl ty2 a).1).flatMap f = (cs a.1).flatMap f := by
    intro l
    induction l with
    | nil => intro a _; rfl
    | cons p r ih =>
      intro a h
      rw [List.foldl_cons, ih _ fun q hq => h q (.tail _ hq), step2 a p (h p List.mem_cons_self)]
  unfold typedF tyB tyA
  rw [all2 _ _ (fun p hp => by
    have h := List.mem_of_mem_take hp
    have e : fik.cps.toList = [102, 105, 107] := by decide
    rwa [e] at h), all1 _ _ fun p hp => List.mem_of_mem_take hp]
theorem kF_same (n : Int) (x : Str) (m : Int) : (cs (typedF x m)).flatMap (kF n) = (cs x).flatMap (kF n) := by
  have free : ∀ c ∈ [102, 105, 107, 64256, 64257, 13261], kF n c = hF c := fun c hc => kF_free n c ((by decide : ∀ c ∈ [102, 105, 107, 64256, 64257, 13261], c ∉ keysAll) c hc)
  have same : ∀ c ∈ [102, 105, 107], hF c = [c] := fun c hc => hF_same c ((by decide : ∀ c ∈ [102, 105, 107], c ∈ [102, 105, 107, 38, 97, 109, 112, 59, 108, 116, 103]) c hc)
  refine typed_hom _ x m ?_ ?_
  · have c1 : cs (Str.ofString "ff") = [102, 102] ∧ cs (Str.ofString "ﬀ") = [64256] ∧ cs (Str.ofString "fi") = [102, 105] ∧ cs (Str.ofString "ﬁ") = [64257] ∧ cs (Str.ofString "kk") = [107, 107] ∧ cs (Str.ofString "㏍") = [13261] := by decide
    obtain ⟨e1, e2, e3, e4, e5, e6⟩ := c1
    intro p hp
    simp only [tyPairs, List.mem_cons, List.not_mem_nil, or_false] at hp
    obtain ⟨q1, q2, q3, -⟩ := hF_pair
    rcases hp with rfl | rfl | rfl
    · rw [e1, e2]; simp only [List.flatMap_cons, List.flatMap_nil, List.append_nil]
      rw [free 102 (by decide), free 64256 (by decide), q1, same 102 (by decide)]; rfl
    · rw [e3, e4]; simp only [List.flatMap_cons, List.flatMap_nil, List.append_nil]
      rw [free 102 (by decide), free 105 (by decide), free 64257 (by decide), q2, same 102 (by decide), same 105 (by decide)]; rfl
    · rw [e5, e6]; simp only [List.flatMap_cons, List.flatMap_nil, List.append_nil]
      rw [free 107 (by decide), free 13261 (by decide), q3, same 107 (by decide)]; rfl
  · intro c hc form hf
    have nk : ∀ c ∈ [102, 105, 107], ∀ form ∈ List.range 11, (tySign ((form : Int) + 1) c).toNat ∉ keysAll := by decide
    rw [kF_free n _ (nk c hc form hf), hF_form c hc form hf]
    have : c ∈ [102, 105, 107, 64256, 64257, 13261] := by
      simp only [List.mem_cons, List.not_mem_nil, or_false] at hc ⊢
      rcases hc with h | h | h <;> simp [h]
    rw [free c this, same c hc]
end
section
theorem flat_congr {f g : Nat → List Nat} : ∀ l : List Nat, (∀ c ∈ l, f c = g c) → l.flatMap f = l.flatMap g
  | [], _ => rfl
  | c :: r, h => by rw [List.flatMap_cons, List.flatMap_cons, h c List.mem_cons_self, flat_congr r fun d hd => h d (.tail _ hd)]
/-- the six heaps' last: the sign beside -/
theorem beside_in (n : Int) : besideL.getD (n.fmod 16).toNat 0 ∈ besideL := by
  have := fmod_bd n 16 (by decide)
  rw [List.getD_eq_getElem?_getD, List.getElem?_eq_getElem (by show _ < 16; omega)]
  exact List.getElem_mem _
theorem unseen_in (n : Int) : unseenL.getD (n.fmod 27).toNat 0 ∈ unseenL := by
  have := fmod_bd n 27 (by decide)
  have hl : unseenL.length = 27 := by decide +kernel
  rw [List.getD_eq_getElem?_getD, List.getElem?_eq_getElem (by omega)]
  exact List.getElem_mem _
theorem sent_hom (hs : List Int) : (cs (sentOf hs)).flatMap hF = (cs (plainOf hs)).flatMap (kF (hs.getD 3 0)) ++ cs (besideOf hs) ++ [1078] := by
  have e1 : cs (Str.ofString "Ж") = [1046] := by decide
  have e2 : (cs (besideOf hs)).flatMap hF = cs (besideOf hs) := by
    show [_].flatMap hF = [_]
    rw [List.flatMap_cons, List.flatMap_nil, List.append_nil]
    exact hF_beside _ (beside_in _)
  have e3 : (cs (markOf hs)).flatMap hF = (cs (markOf hs ++ unseenOf hs)).flatMap hF := by
    rw [cs_append, List.flatMap_append]
    have : (cs (unseenOf hs)).flatMap hF = [] := by
      show [_].flatMap hF = []
      rw [List.flatMap_cons, List.flatMap_nil, List.append_nil]
      exact hF_unseen _ (unseen_in _)
    rw [this, List.append_nil]
  unfold sentOf
  rw [cs_append, cs_append, List.flatMap_append, List.flatMap_append, e1, e2, replace_hom hF _ e3]
  unfold pageOf
  rw [written_cs, List.flatMap_assoc]
  show (cs (typedF _ _)).flatMap (kF (hs.getD 3 0)) ++ _ ++ _ = _
  rw [kF_same]
  simp only [List.flatMap_cons, List.flatMap_nil, List.append_nil]
  rw [hF_pair.2.2.2]
/-- the text's signs, by a homomorphism that takes all letters alike -/
theorem text_hom (f : Nat → List Nat) (ps : List (Int × Int × Int)) (ls : List Str) (v : List Nat) (hl : ls.length = 6) (h : ∀ x ∈ ls, (cs x).flatMap f = v) (h102 : f 102 = v) : (cs (textF ps ls)).flatMap f = (cs (textF ps (List.replicate 6 (Str.ofString "f")))).flatMap f := by
  have go : ∀ i, i ≤ 6 → (cs (textAt ps ls i)).flatMap f = (cs (textAt ps (List.replicate 6 (Str.ofString "f")) i)).flatMap f := by
    intro i
    induction i with
    | zero => intro _; rfl
    | succ i ih =>
      intro hi
      unfold textAt
      simp only [cs_append, List.flatMap_append]
      rw [ih (by omega)]
      have e1 : (cs (ls.getD i ⟨#[]⟩)).flatMap f = v := by
        rw [List.getD_eq_getElem?_getD, List.getElem?_eq_getElem (by omega)]
        exact h _ (List.getElem_mem _)
      have e2 : (cs ((List.replicate 6 (Str.ofString "f")).getD i ⟨#[]⟩)).flatMap f = v := by
        rw [List.getD_eq_getElem?_getD, List.getElem?_replicate, if_pos (by omega)]
        have e : cs (Str.ofString "f") = [102] := by decide
        show (cs (Str.ofString "f")).flatMap f = v
        rw [e]
        simp [h102]
      rw [e1, e2]
  exact go 6 (Nat.le_refl _)
theorem text_signs (ps : List (Int × Int × Int)) (ls : List Str) (S : List Nat) (h60 : 60 ∈ S) (h62 : 62 ∈ S) (h : ∀ x ∈ ls, ∀ c ∈ cs x, c ∈ S) : ∀ c ∈ cs (textF ps ls), c ∈ S := by
  have s60 : Str.ofString "<" = ⟨#[60]⟩ := by decide
  have s62 : Str.ofString ">" = ⟨#[62]⟩ := by decide
  have go : ∀ i, ∀ c ∈ cs (textAt ps ls i), c ∈ S := by
    intro i
    induction i with
    | zero => intro c hc; exact nomatch hc
    | succ i ih =>
      intro c hc
      unfold textAt at hc
      rw [s60, s62] at hc
      simp only [cs_append, List.mem_append, mul_cs, List.mem_replicate] at hc
      rcases hc with ((hc | hc) | hc) | hc
      · exact ih c hc
      · rw [hc.2]; exact h60
      · rw [List.getD_eq_getElem?_getD] at hc
        cases e : ls[i]? with
        | none => rw [e] at hc; exact nomatch hc
        | some x => rw [e] at hc; exact h x (List.mem_of_getElem? e) c hc
      · rw [hc.2]; exact h62
  exact go 6
theorem letter_cs (n : Int) (i : Nat) : ∃ c ∈ [102, 105, 107], cs (letterF n i) = [c] := by
  unfold letterF
  generalize n.fdiv _ = k
  have b := fmod_bd k 3 (by decide)
  have key : ∀ d : Nat, d < 3 → ∃ c ∈ [102, 105, 107], cs (Txt.item (Str.ofString "fik") (d : Int)) = [c] := by
    intro d hd
    match d, hd with
    | 0, _ => exact ⟨102, by decide, by decide⟩
    | 1, _ => exact ⟨105, by decide, by decide⟩
    | 2, _ => exact ⟨107, by decide, by decide⟩
  have := key (k.fmod 3).toNat (by omega)
  rwa [show (((k.fmod 3).toNat : Nat) : Int) = k.fmod 3 by omega] at this
theorem letters_cs (hs : List Int) : (lettersOf hs).length = 6 ∧ ∀ x ∈ lettersOf hs, ∃ c ∈ [102, 105, 107], cs x = [c] := by
  unfold lettersOf
  refine ⟨by simp, fun x hx => ?_⟩
  obtain ⟨i, _, rfl⟩ := List.mem_map.mp hx
  exact letter_cs _ _
theorem plain_signs (hs : List Int) : ∀ c ∈ cs (plainOf hs), c ∈ [102, 105, 107, 60, 62] := by
  refine text_signs _ _ _ (by decide) (by decide) fun x hx c hc => ?_
  obtain ⟨d, hd, e⟩ := (letters_cs hs).2 x hx
  rw [e, List.mem_singleton] at hc
  rw [hc]
  simp only [List.mem_cons, List.not_mem_nil, or_false] at hd ⊢
  rcases hd with h | h | h <;> simp [h]
noncomputable def refL (ly : Int) : List Nat := if ly = 2 then [38, 97, 109, 112, 59] else [38]
theorem ref_cs (ly : Int) (h : 1 ≤ ly ∧ ly ≤ 2) : cs (refOf ly) = refL ly := by
  have : ly = 1 ∨ ly = 2 := by omega
  rcases this with rfl | rfl <;> decide
theorem gF_60 (n : Int) : gF n 60 = refL (1 + (n.fdiv 3).fmod 2) ++ [108, 116, 59] ∧ gF n 62 = refL (1 + (n.fdiv 3).fmod 2) ++ [103, 116, 59] := by
  have k1 : ∀ i < 3, escC (handN i) 60 = [38, 108, 116, 59] ∧ escC (handN i) 62 = [38, 103, 116, 59] := by decide
  have k2 : ∀ j < 5, [38, 108, 116, 59].flatMap (escC (handN j)) = [38, 97, 109, 112, 59, 108, 116, 59] ∧ [38, 103, 116, 59].flatMap (escC (handN j)) = [38, 97, 109, 112, 59, 103, 116, 59] := by decide
  have b1 := fmod_bd n 3 (by decide)
  have b2 := fmod_bd (n.fdiv 6) 5 (by decide)
  have b3 := fmod_bd (n.fdiv 3) 2 (by decide)
  obtain ⟨e1, e2⟩ := k1 (n.fmod 3).toNat (by omega)
  obtain ⟨e3, e4⟩ := k2 ((n.fdiv 6).fmod 5).toNat (by omega)
  unfold gF
  split
  · rename_i h
    rw [e1, e2, e3, e4, h]
    decide
  · have : (n.fdiv 3).fmod 2 = 0 := by omega
    rw [e1, e2, this]
    decide
theorem hF_list (l : List Nat) (h : ∀ c ∈ l, c ∈ [102, 105, 107, 38, 97, 109, 112, 59, 108, 116, 103]) : l.flatMap hF = l := by
  induction l with
  | nil => rfl
  | cons c r ih =>
    rw [List.flatMap_cons, hF_same c (h c List.mem_cons_self), ih fun d hd => h d (.tail _ hd)]
    rfl
theorem refL_signs (ly : Int) (z : List Nat) (h : ∀ c ∈ z, c ∈ [102, 105, 107, 38, 97, 109, 112, 59, 108, 116, 103]) : ∀ c ∈ refL ly ++ z, c ∈ [102, 105, 107, 38, 97, 109, 112, 59, 108, 116, 103] := by
  intro c hc
  rcases List.mem_append.mp hc with hc | hc
  · unfold refL at hc
    split at hc
    · exact (by decide : ∀ c ∈ [38, 97, 109, 112, 59], c ∈ [102, 105, 107, 38, 97, 109, 112, 59, 108, 116, 103]) c hc
    · exact (by decide : ∀ c ∈ [38], c ∈ [102, 105, 107, 38, 97, 109, 112, 59, 108, 116, 103]) c hc
  · exact h c hc
/-- a plain sign, prepared -/
noncomputable def mF (ly : Int) (c : Nat) : List Nat := if c = 60 then refL ly ++ [108, 116, 59] else if c = 62 then refL ly ++ [103, 116, 59] else [c]
theorem kF_plain (n : Int) : ∀ c ∈ [102, 105, 107, 60, 62], kF n c = mF (1 + (n.fdiv 3).fmod 2) c := by
  intro c hc
  simp only [List.mem_cons, List.not_mem_nil, or_false] at hc
  obtain ⟨g1, g2⟩ := gF_60 n
  rcases hc with rfl | rfl | rfl | rfl | rfl
  · rw [kF_free n 102 (by decide), hF_same 102 (by decide)]; rfl
  · rw [kF_free n 105 (by decide), hF_same 105 (by decide)]; rfl
  · rw [kF_free n 107 (by decide), hF_same 107 (by decide)]; rfl
  · unfold kF
    rw [g1, hF_list _ (refL_signs _ _ (by decide))]; rfl
  · unfold kF
    rw [g2, hF_list _ (refL_signs _ _ (by decide))]; rfl
theorem told_cs (pl : Str) (ly : Int) (h : 1 ≤ ly ∧ ly ≤ 2) : cs (toldOf pl ly) = (cs pl).flatMap (mF ly) := by
  have s60 : Str.ofString "<" = ⟨#[60]⟩ := by decide
  have s62 : Str.ofString ">" = ⟨#[62]⟩ := by decide
  have l1 : cs (Str.ofString "lt;") = [108, 116, 59] := by decide
  have l2 : cs (Str.ofString "gt;") = [103, 116, 59] := by decide
  unfold toldOf
  rw [s60, s62]
  show (Txt.replace _ _ _).cps.toList = _
  rw [replace_list, replace_list]
  show sub1 62 (cs _) (sub1 60 (cs _) (cs pl)) = _
  rw [cs_append, cs_append, ref_cs ly h, l1, l2]
  unfold sub1
  rw [List.flatMap_assoc]
  refine flat_congr _ fun c _ => ?_
  unfold mF
  by_cases h1 : c = 60
  · rw [if_pos h1, if_pos h1]
    refine sub1_free 62 _ _ ?_
    unfold refL
    split <;> decide
  · rw [if_neg h1, if_neg h1]
    simp
theorem prep_is (hs : List Int) : prepOf (sentOf hs) = toldOf (plainOf hs) (layersOf hs) ++ besideOf hs ++ Str.ofString "ж" := by
  have b3 := fmod_bd ((hs.getD 3 0).fdiv 3) 2 (by decide)
  have e1 : cs (Str.ofString "ж") = [1078] := by decide
  refine str_ext ?_
  show cs _ = cs _
  rw [prep_cs, sent_hom, cs_append, cs_append, e1, told_cs _ _ (by unfold layersOf; omega)]
  rw [flat_congr _ fun c hc => kF_plain _ c (plain_signs hs c hc)]
  rfl
end
section
noncomputable def sF (c : Nat) : List Nat := cs (leadSign c)
theorem sF_tab : ∀ c ∈ [102, 105, 107], sF c = [9] := by decide +kernel
theorem sF_sp : ∀ c ∈ [38, 97, 109, 112, 59, 108, 116, 103, 1078], sF c = [32] := by decide +kernel
theorem sF_beside : ∀ c ∈ besideL, sF c.toNat = [32] := by decide +kernel
theorem lead_cs (Z : Str) : cs (leadOf Z) = (cs Z).flatMap sF := by
  unfold leadOf
  rw [join_cs]
  show List.flatMap cs (List.map leadSign (cs Z)) = _
  rw [List.flatMap_map]
  rfl
theorem lead_same (Z : Str) : (leadOf Z).length = Z.length := by
  rw [← cs_len, lead_cs, ← cs_len]
  generalize cs Z = l
  induction l with
  | nil => rfl
  | cons c r ih =>
    rw [List.flatMap_cons, List.length_append, ih, List.length_cons]
    have : (sF c).length = 1 := by unfold sF; rw [cs_len]; exact leadSign_len c
    omega
theorem sF_refL (ly : Int) (h : 1 ≤ ly ∧ ly ≤ 2) : (refL ly ++ [108, 116, 59]).flatMap sF = List.replicate (4 * ly.toNat) 32 ∧ (refL ly ++ [103, 116, 59]).flatMap sF = List.replicate (4 * ly.toNat) 32 := by
  have : ly = 1 ∨ ly = 2 := by omega
  rcases this with rfl | rfl <;> decide +kernel
theorem lead_is (hs : List Int) : leadOf (prepOf (sentOf hs)) = lead0 (partsOf hs) (layersOf hs).toNat := by
  have b3 := fmod_bd ((hs.getD 3 0).fdiv 3) 2 (by decide)
  have hly : 1 ≤ layersOf hs ∧ layersOf hs ≤ 2 := by unfold layersOf; omega
  have e1 : cs (Str.ofString "ж") = [1078] := by decide
  refine str_ext ?_
  show cs (leadOf _) = leadL _ _
  rw [lead_cs, prep_is, cs_append, cs_append, e1, told_cs _ _ hly, List.flatMap_append, List.flatMap_append, List.flatMap_assoc]
  have eb : (cs (besideOf hs)).flatMap sF = [32] := by
    show [_].flatMap sF = [32]
    rw [List.flatMap_cons, List.flatMap_nil, List.append_nil]
    exact sF_beside _ (beside_in _)
  have ez : [1078].flatMap sF = [32] := by
    rw [List.flatMap_cons, List.flatMap_nil, List.append_nil]
    exact sF_sp _ (by decide)
  rw [eb, ez]
  obtain ⟨r1, r2⟩ := sF_refL _ hly
  obtain ⟨l6, hl⟩ := letters_cs hs
  have tab : ∀ c ∈ [102, 105, 107], (mF (layersOf hs) c).flatMap sF = [9] := by
    intro c hc
    have h60 : c ≠ 60 := fun e => by subst e; exact absurd hc (by decide)
    have h62 : c ≠ 62 := fun e => by subst e; exact absurd hc (by decide)
    unfold mF
    rw [if_neg h60, if_neg h62, List.flatMap_cons, List.flatMap_nil, List.append_nil, sF_tab c hc]
  unfold plainOf
  rw [text_hom (fun c => (mF (layersOf hs) c).flatMap sF) (partsOf hs) (lettersOf hs) [9] l6 (fun x hx => by
    obtain ⟨c, hc, e⟩ := hl x hx
    rw [e, List.flatMap_cons, List.flatMap_nil, List.append_nil, tab c hc]) (tab 102 (by decide))]
  unfold leadL
  rw [List.append_assoc]
  refine congrArg (· ++ [32, 32]) ?_
  refine flat_congr _ fun c hc => ?_
  have hc' : c ∈ [102, 60, 62] := text_signs _ _ _ (by decide) (by decide) (fun x hx d hd => by
    have := List.eq_of_mem_replicate hx
    subst this
    exact (by decide : ∀ d ∈ cs (Str.ofString "f"), d ∈ [102, 60, 62]) d hd) c hc
  simp only [List.mem_cons, List.not_mem_nil, or_false] at hc'
  rcases hc' with rfl | rfl | rfl
  · rw [tab 102 (by decide)]; rfl
  · rw [if_pos (by decide)]
    show (refL _ ++ _).flatMap sF = _
    exact r1
  · rw [if_pos (by decide)]
    show (refL _ ++ _).flatMap sF = _
    exact r2
theorem text_len : ∀ ps ∈ all42, (textF ps (List.replicate 6 (Str.ofString "f"))).length = 16 := by decide +kernel
theorem plain_len (hs : List Int) : (plainOf hs).length = 16 := by
  obtain ⟨l6, hl⟩ := letters_cs hs
  have h1 := text_hom (fun _ => [0]) (partsOf hs) (lettersOf hs) [0] l6 (fun x hx => by
    obtain ⟨c, hc, e⟩ := hl x hx
    rw [e]; rfl) rfl
  have cnt : ∀ l : List Nat, (l.flatMap fun _ => [0]).length = l.length := by
    intro l
    induction l with
    | nil => rfl
    | cons c r ih =>
      rw [List.flatMap_cons, List.length_append, ih, List.length_cons]
      exact Nat.add_comm _ _
  have h2 := congrArg List.length h1
  rw [cnt, cnt, cs_len, cs_len] at h2
  exact h2.trans (text_len _ (parts_in _))
theorem facts (hs : List Int) : Facts hs := by
  have b3 := fmod_bd ((hs.getD 3 0).fdiv 3) 2 (by decide)
  have hly : 1 ≤ layersOf hs ∧ layersOf hs ≤ 2 := by unfold layersOf; omega
  have hp := plain_len hs
  have ht := typed_len (plainOf hs) (hs.getD 2 0)
  have h1 : (escs (handS ((hs.getD 3 0).fmod 3).toNat) (typedF (plainOf hs) (hs.getD 2 0))).length ≤ 6 * (typedF (plainOf hs) (hs.getD 2 0)).length := by
    have := hand_len ((hs.getD 3 0).fmod 3).toNat 100 (typedF (plainOf hs) (hs.getD 2 0))
    rw [List.take_of_length_le (by
      generalize ((hs.getD 3 0).fmod 3).toNat = i
      match i with
      | 0 => decide
      | 1 => decide
      | 2 => decide
      | 3 => decide
      | _ + 4 => show nAttribC.length ≤ 100; decide), ← handS_N] at this
    exact this
  have hpage : (pageOf hs).length ≤ 40000 := by
    unfold pageOf writtenF
    dsimp only
    split
    · have := hand_len (((hs.getD 3 0).fdiv 6).fmod 5).toNat 100 (escs (handS ((hs.getD 3 0).fmod 3).toNat) (typedF (plainOf hs) (hs.getD 2 0)))
      rw [List.take_of_length_le (by
        generalize (((hs.getD 3 0).fdiv 6).fmod 5).toNat = i
        match i with
        | 0 => decide
        | 1 => decide
        | 2 => decide
        | 3 => decide
        | _ + 4 => show nAttribC.length ≤ 100; decide), ← handS_N] at this
      omega
    · omega
  have hlead := lead_is hs
  have hL := lead_ok (partsOf hs) (parts_in _) (layersOf hs) hly
  rw [← hlead] at hL
  have hz : (prepOf (sentOf hs)).length ≤ 900 := by
    rw [← lead_same]
    exact hL.len
  refine ⟨all_five _ (parts_in _), Nat.le_of_eq hp, fit_of _ _ (by omega), fit_of _ _ (by omega), hpage, ?_, ?_, hly, prep_is hs, hz, hL⟩
  · unfold sentOf
    rw [Str.length_append, Str.length_append]
    have e1 : (Str.ofString "Ж").length = 1 := by decide
    have e2 : (besideOf hs).length = 1 := rfl
    have e3 : (markOf hs ++ unseenOf hs).length = 2 := by rw [Str.length_append]; rfl
    have := len_replace (pageOf hs) (markOf hs) (markOf hs ++ unseenOf hs)
    rw [e3] at this
    omega
  · have e : ((seenOf (sentOf hs)).map (·.length)).sum = (prepOf (sentOf hs)).length := by
      rw [← cs_len]
      unfold prepOf
      rw [join_cs, List.length_flatMap]
      refine congrArg List.sum (List.map_congr_left fun x _ => (cs_len x).symm)
    omega
theorem holds : PySem.Challenge.rw_tc0086_01.Holds := holds_of fun ns => facts (heapsF ns)
end
end Mine
set_option maxRecDepth 100000 in
set_option maxHeartbeats 8000000 in
theorem PySem.Challenge.cw_tc0086_01_holds : PySem.Challenge.rw_tc0086_01.Holds :=
  Mine.holds
