import PyProof.Rows.All
import Wide.All
import OpenK.AllK
import Wide.FinOn
import Lean
import PySem.Challenge.RW_dm0070_02
set_option Elab.async false
section
open PySem PySem.W PyProof.Rows
namespace Mine

theorem step_done {den : Code → Sem PySem.Fin} {prog : Program} {w : World} {s s' : Shared} {t : Thread} {f : Flow} (h : step den prog w s t = .halt (.done f) s') : through t = true := by
  obtain ⟨heap, gens, drawn, toks, os⟩ := s
  obtain ⟨cur, code, pos, stack⟩ := t
  cases cur with
  | pure a =>
    cases a with
    | done g =>
      cases stack with
      | nil => rfl
      | cons fr r => cases fr <;> simp [step] at h
    | again c => simp [step] at h
  | raise e =>
    cases stack with
    | nil => simp only [step, finish] at h; split at h <;> simp at h
    | cons fr r => cases fr <;> simp [step] at h
  | _ => simp only [step] at h <;> (repeat' split at h) <;> simp at h

theorem run_back {den : Code → Sem PySem.Fin} {prog : Program} {w : World} {f : Flow} {s' : Shared} : ∀ (n : Nat) (s : Shared) (t : Thread), runN den prog w n s t = .halted (.done f) s' →
    ∃ m t₁, runN den prog w m s t = .running s' t₁ ∧ through t₁ = true
  | 0, s, t, h => by simp [runN] at h
  | n + 1, s, t, h => by
    simp only [runN] at h
    cases hs : step den prog w s t with
    | go s₂ t₂ =>
      rw [hs] at h
      obtain ⟨m, t₁, hm, ht⟩ := run_back n s₂ t₂ h
      exact ⟨m + 1, t₁, by simp only [runN, hs]; exact hm, ht⟩
    | halt o s₂ =>
      rw [hs] at h
      injection h with h1 h2
      subst h1 h2
      obtain rfl := step_halt_same den prog w s s₂ t _ hs
      exact ⟨0, t, rfl, step_done hs⟩

theorem stub_through {prog : Program} {w : World} {s : Shared} {t : Sem PySem.Fin} {P : Shared → Prop} (hreg : s.asleep)
    (h : wpAny (model prog w) callerA t (fun fin s' => (∃ f, fin = .done f) ∧ P s' ∧ s'.gens = #[]) (fun _ _ => False) s) :
    ∃ s₁, (∃ n t₁, schedN (denote table) prog w n (.single s ⟨t, .builtin "claim.caller" {}, default, []⟩) = .running (.single s₁ t₁) ∧ through t₁ = true) ∧ s₁.heap.life = s.heap.life ∧ P s₁ ∧ s₁.gens = #[] := by
  have hw := wp_of_wpAny_done (M := model prog w) (R := fun r s' => ((∃ f, r = .ok f) ∧ P s' ∧ s'.gens = #[]) ∧ leftWithCleanup s'.gens = false) caller_in
    (wpAny_mono h (fun fin s' ⟨⟨f, e⟩, p, g⟩ => ⟨f, e, ⟨⟨f, rfl⟩, p, g⟩, by rw [g]; simp [leftWithCleanup]⟩) fun _ _ x => x.elim) default
  obtain ⟨n, r, s', hn, ⟨f, rfl⟩, hP, hg⟩ := (wp_iff_halts t (fun r s' => (∃ f, r = .ok f) ∧ P s' ∧ s'.gens = #[]) default s).mp hw
  obtain ⟨s'', hr, hf, hc⟩ := runNI_real _ _ _ hn (outcomeOf_ends _)
  clear hn
  obtain rfl := Shared.eq_of_forget_eq hf hg
  have hn : runN (denote table) prog w n s ⟨t, .builtin "claim.caller" {}, default, []⟩ = .halted (.done f) s'' := hr
  have hne : ∀ k s₂, runN (denote table) prog w k s ⟨t, .builtin "claim.caller" {}, default, []⟩ ≠ .halted (.unsupported "lifetime:generator-with-cleanup-left-suspended") s₂ := by
    intro k s₂ hk
    have a := runN_mono _ _ _ n k _ _ _ _ hn
    have b := runN_mono _ _ _ k n _ _ _ s₂ hk
    rw [Nat.add_comm] at b
    have c := b.symm.trans a
    injection c with a1 _
    exact absurd a1 (by simp)
  obtain ⟨m, t₁, hm, ht⟩ := run_back n s _ hn
  exact ⟨_, ⟨m, t₁, (schedN_eq_runN _ _ _ s _ hreg ⟨hc, hne⟩ m).trans (congrArg Run.lift hm), ht⟩, runN_life_running hm, hP, hg⟩
end Mine
end

section
open PySem PySem.W PyProof.Rows
namespace Mine

inductive SI : List (Str × Value) → List (Str × Int) → Prop
  | nil : SI [] []
  | cons {x : Str} {i : Int} {t : Tok} {kvs : List (Str × Value)} {D : List (Str × Int)} : SI kvs D → SI ((x, .int i t) :: kvs) ((x, i) :: D)

theorem SI.append {a b : List (Str × Value)} {C D : List (Str × Int)} (h : SI a C) (k : SI b D) : SI (a ++ b) (C ++ D) := by
  induction h with
  | nil => exact k
  | cons _ ih => exact .cons ih
theorem SI.keys {a : List (Str × Value)} {C : List (Str × Int)} (h : SI a C) : a.map (·.1) = C.map (·.1) := by
  induction h with
  | nil => rfl
  | cons _ ih => simp [ih]
theorem SI.length {a : List (Str × Value)} {C : List (Str × Int)} (h : SI a C) : a.length = C.length := by
  induction h with
  | nil => rfl
  | cons _ ih => simp [ih]

theorem stored_new {kvs : List (Str × Value)} {k : Str} {v : Value} (h : k ∉ kvs.map (·.1)) : stored kvs k v = kvs ++ [(k, v)] := by
  unfold stored
  rw [if_neg]
  rw [List.any_eq_true]
  rintro ⟨kv, hkv, he⟩
  exact h (List.mem_map.mpr ⟨kv, hkv, of_decide_eq_true he⟩)

theorem merged_new : ∀ (more kvs : List (Str × Value)), ((kvs ++ more).map (·.1)).Nodup → merged kvs more = kvs ++ more
  | [], kvs, _ => by simp [merged]
  | (k, v) :: r, kvs, h => by
    have hk : k ∉ kvs.map (·.1) := by
      intro hm
      rw [List.map_append, List.nodup_append] at h
      exact h.2.2 k hm k (by simp) rfl
    show merged (stored kvs k v) r = _
    rw [stored_new hk, merged_new r (kvs ++ [(k, v)]) (by simpa using h)]
    simp

section
variable {prog : Program} {w : World} {A : Around}

structure IsPT (prog : Program) (w : World) (A : Around) (p : Sem Value × Sem Value) (x : Str) (i : Int) : Prop where
  key : ∀ (E : Value → Shared → Prop) (s : Shared) (Q : Value → Shared → Prop), (∀ t tk, Q (.str x t) { s with toks := tk }) → wpAny (model prog w) A p.1 Q E s
  val : ∀ (E : Value → Shared → Prop) (s : Shared) (Q : Value → Shared → Prop), (∀ t tk, Q (.int i t) { s with toks := tk }) → wpAny (model prog w) A p.2 Q E s

inductive PTs (prog : Program) (w : World) (A : Around) : List (Sem Value × Sem Value) → List (Str × Int) → Prop
  | nil : PTs prog w A [] []
  | cons {p : Sem Value × Sem Value} {x : Str} {i : Int} {ps : List (Sem Value × Sem Value)} {D : List (Str × Int)} : IsPT prog w A p x i → PTs prog w A ps D → PTs prog w A (p :: ps) ((x, i) :: D)

theorem PTs.append {a b : List (Sem Value × Sem Value)} {C D : List (Str × Int)} (h : PTs prog w A a C) (k : PTs prog w A b D) : PTs prog w A (a ++ b) (C ++ D) := by
  induction h with
  | nil => exact k
  | cons p _ ih => exact .cons p ih
theorem PTs.length {a : List (Sem Value × Sem Value)} {C : List (Str × Int)} (h : PTs prog w A a C) : a.length = C.length := by
  induction h with
  | nil => rfl
  | cons _ _ ih => simp [ih]

variable {E : Value → Shared → Prop}

inductive VI : List (Value × Value) → List (Str × Int) → Prop
  | nil : VI [] []
  | cons {x : Str} {i : Int} {t u : Tok} {vs : List (Value × Value)} {D : List (Str × Int)} : VI vs D → VI ((.str x t, .int i u) :: vs) ((x, i) :: D)

theorem evalPairs_pts {ps : List (Sem Value × Sem Value)} {D : List (Str × Int)} (h : PTs prog w A ps D) : ∀ (s : Shared) (Q : List (Value × Value) → Shared → Prop),
    (∀ vs tk, VI vs D → Q vs { s with toks := tk }) → wpAny (model prog w) A (evalPairs ps) Q E s := by
  induction h with
  | nil => exact fun s Q hq => evalPairs_nil (hq [] s.toks .nil)
  | cons p _ ih =>
    intro s Q hq
    refine evalPairs_cons (p.key _ _ _ fun t tk => p.val _ _ _ fun u tk' => ih _ _ fun vs tk'' hv => ?_)
    exact hq _ tk'' (.cons hv)

theorem dictSet_si {d : Addr} {s : Shared} {kvs : List (Str × Value)} {D : List (Str × Int)} {x : Str} {i : Int} {t u : Tok} {Q : Unit → Shared → Prop}
    (hm : s.heap.DictOf (PySem.strKind prog w) d kvs) (hs : SI kvs D) (hx : x ∉ D.map (·.1)) (hl : D.length ≤ 1000)
    (h : ∀ h' tk kvs', h'.DictOf (PySem.strKind prog w) d kvs' → SI kvs' (D ++ [(x, i)]) → Heap.SameBut d s.heap h' → Q () { s with heap := h', toks := tk }) :
    wpAny (model prog w) A (dictSet d (.str x t) (.int i u)) Q E s := by
  refine wpAny_dictSet_pairs (knd := PySem.strKind prog w) (k := x) (by simp [PySem.strKind, Value.isStrOf]) hm (fun h' hd hsb => ?_) (by rw [sizeLine_eq, hs.length]; omega)
  rw [stored_new (by rw [hs.keys]; exact hx)] at hd
  exact h h' _ _ hd (hs.append (.cons .nil)) hsb

theorem nodup_mid {D r : List (Str × Int)} {x : Str} {i : Int} (h : ((D ++ (x, i) :: r).map (·.1)).Nodup) : x ∉ D.map (·.1) := by
  intro hm
  rw [List.map_append, List.nodup_append] at h
  exact h.2.2 x hm x (by simp) rfl

theorem setAll_vi {d : Addr} {vs : List (Value × Value)} {C : List (Str × Int)} (hv : VI vs C) : ∀ (s : Shared) (kvs : List (Str × Value)) (D : List (Str × Int)) (Q : PUnit → Shared → Prop),
    s.heap.DictOf (PySem.strKind prog w) d kvs → SI kvs D → ((D ++ C).map (·.1)).Nodup → (D ++ C).length ≤ 1000 →
    (∀ h' tk kvs', h'.DictOf (PySem.strKind prog w) d kvs' → SI kvs' (D ++ C) → Heap.SameBut d s.heap h' → Q PUnit.unit { s with heap := h', toks := tk }) →
    wpAny (model prog w) A (forIn vs PUnit.unit fun (x : Value × Value) (_ : PUnit) => (do dictSet d x.1 x.2; pure (ForInStep.yield PUnit.unit) : Sem (ForInStep PUnit))) Q E s := by
  induction hv with
  | nil =>
    intro s kvs D Q hm hs hn hl h
    rw [List.forIn_nil]
    exact wpAny_pure (by simpa using h s.heap s.toks kvs hm (by simpa using hs) (Heap.SameBut.refl _ _))
  | cons _ ih =>
    rename_i x i t u vs C _
    intro s kvs D Q hm hs hn hl h
    rw [List.forIn_cons]
    refine wpAny_bind (wpAny_bind (dictSet_si hm hs (nodup_mid hn) (by simp at hl; omega) fun h₁ tk₁ kvs₁ hm₁ hs₁ sb₁ => wpAny_pure ?_))
    refine ih _ kvs₁ (D ++ [(x, i)]) Q hm₁ hs₁ (by simpa using hn) (by simpa using hl) fun h' tk kvs' hm' hs' sb' => ?_
    exact h h' tk kvs' hm' (by simpa using hs') (sb₁.trans sb')

theorem setAll_pts {d : Addr} {ps : List (Sem Value × Sem Value)} {C : List (Str × Int)} (hv : PTs prog w A ps C) : ∀ (s : Shared) (kvs : List (Str × Value)) (D : List (Str × Int)) (Q : PUnit → Shared → Prop),
    s.heap.DictOf (PySem.strKind prog w) d kvs → SI kvs D → ((D ++ C).map (·.1)).Nodup → (D ++ C).length ≤ 1000 →
    (∀ h' tk kvs', h'.DictOf (PySem.strKind prog w) d kvs' → SI kvs' (D ++ C) → Heap.SameBut d s.heap h' → Q PUnit.unit { s with heap := h', toks := tk }) →
    wpAny (model prog w) A (forIn ps PUnit.unit fun (x : Sem Value × Sem Value) (_ : PUnit) => (do
        let kv ← x.1
        let vv ← holding [kv] x.2
        holding [kv, vv] (dictSet d kv vv)
        pure (ForInStep.yield PUnit.unit) : Sem (ForInStep PUnit))) Q E s := by
  induction hv with
  | nil =>
    intro s kvs D Q hm hs hn hl h
    rw [List.forIn_nil]
    exact wpAny_pure (by simpa using h s.heap s.toks kvs hm (by simpa using hs) (Heap.SameBut.refl _ _))
  | cons p _ ih =>
    rename_i q x i ps C _
    intro s kvs D Q hm hs hn hl h
    rw [List.forIn_cons]
    refine wpAny_bind (wpAny_bind (p.key _ _ _ fun t tk₀ => wpAny_bind (wpAny_holding (p.val _ _ _ fun u tk₁ => wpAny_bind (wpAny_holding
      (dictSet_si (s := { s with toks := tk₁ }) hm hs (nodup_mid hn) (by simp at hl; omega) fun h₁ tk₂ kvs₁ hm₁ hs₁ sb₁ => wpAny_pure ?_))))))
    refine ih _ kvs₁ (D ++ [(x, i)]) Q hm₁ hs₁ (by simpa using hn) (by simpa using hl) fun h' tk kvs' hm' hs' sb' => ?_
    exact h h' tk kvs' hm' (by simpa using hs') (sb₁.trans sb')

theorem sub_pts {ps : List (Sem Value × Sem Value)} {C : List (Str × Int)} (hv : PTs prog w A ps C) {s : Shared} {Q : Addr → Shared → Prop}
    (hn : (C.map (·.1)).Nodup) (hl : C.length ≤ 1000)
    (h : ∀ h' tk kvs, h'.DictOf (PySem.strKind prog w) s.heap.objs.size kvs → SI kvs C → (∀ b o, s.heap.get? b = some o → h'.get? b = some o) → Q s.heap.objs.size { s with heap := h', toks := tk }) :
    wpAny (model prog w) A (subDict ps) Q E s := by
  unfold subDict
  refine wpAny_bind (wpAny_alloc (wpAny_bind (wpAny_holding ?_)))
  have keep : ∀ {h' : Heap}, Heap.SameBut s.heap.objs.size (s.heap.push { cls := .type "dict", data := .dict #[] }) h' → ∀ b o, s.heap.get? b = some o → h'.get? b = some o :=
    fun sb b o e => (sb.2 b (Nat.ne_of_lt (Heap.lt_size e))).trans (Heap.get?_push_of_some _ e)
  split
  · refine wpAny_bind (evalPairs_pts hv _ _ fun vs tk hvi => wpAny_holding (wpAny_bind ?_))
    refine setAll_vi hvi _ [] [] _ (Heap.DictOf.new _) .nil (by simpa using hn) (by simpa using hl) fun h' tk' kvs' hm' hs' sb' => wpAny_pure (wpAny_pure ?_)
    exact h h' tk' kvs' hm' (by simpa using hs') (keep sb')
  · refine wpAny_bind (wpAny_rule (wpAny_bind ?_))
    refine setAll_pts hv _ [] [] _ (Heap.DictOf.new _) .nil (by simpa using hn) (by simpa using hl) fun h' tk' kvs' hm' hs' sb' => wpAny_pure (wpAny_pure ?_)
    exact h h' tk' kvs' hm' (by simpa using hs') (keep sb')
end
end Mine
end

section
open PySem PySem.W PyProof.Rows
namespace Mine
section
variable {prog : Program} {w : World} {A : Around} {E : Value → Shared → Prop}

theorem put_new {d : Addr} {s : Shared} {kvs : List (Str × Value)} {k : Str} {key v : Value} {Q : Unit → Shared → Prop} (hkey : (PySem.strKind prog w).is k key = true) (hm : s.heap.DictOf (PySem.strKind prog w) d kvs) (hnot : k ∉ kvs.map (·.1))
    (hQ : ∀ h', h'.DictOf (PySem.strKind prog w) d (kvs ++ [(k, v)]) → Heap.SameBut d s.heap h' → Q () { s with heap := h' })
    (hsz : kvs.length ≤ sizeLine) : wpAny (model prog w) A (dictPut d ((PySem.strKind prog w).hash k) key v) Q E s := by
  obtain ⟨o, es, ep, ho, hc, hd, hk, hp, hn⟩ := hm
  have hes : es.size ≤ sizeLine := by
    have e1 := hp.length
    have e2 : es.toList.length = es.size := by simp
    omega
  unfold dictPut
  refine wpAny_bind (wpAny_dictFind_of hkey ho hd hk ?_)
  have hidx : (es.findIdx? fun e => (PySem.strKind prog w).is k e.key) = kvs.findIdx? fun kv => decide (kv.1 = k) := by
    rw [← hp.findIdx k]; obtain ⟨l⟩ := es; simp
  have hnone : (kvs.findIdx? fun kv => decide (kv.1 = k)) = none := by
    rw [List.findIdx?_eq_none_iff]
    intro kv hkv
    simp only [decide_eq_false_iff_not]
    exact fun e => hnot (List.mem_map.mpr ⟨kv, hkv, e⟩)
  rw [hidx, hnone]
  refine wpAny_updateDictKeys (hz := hes) ho hd (hQ _ ⟨_, _, ep + 1, Heap.get?_update_self _ ho (Obj.isFreed_of_dict (Obj.data_mapDictKeys hd _)),
      hc.mapDictKeys _, Obj.data_mapDictKeys hd _, hk.push hkey _, ?_, ?_⟩ (Heap.SameBut.update ..))
  · have := hp.append hkey ((PySem.strKind prog w).hash k) v
    obtain ⟨l⟩ := es
    simpa using this
  · rw [List.map_append, List.nodup_append]
    refine ⟨hn, by simp, ?_⟩
    intro a ha b hb
    simp only [List.map_cons, List.map_nil, List.mem_singleton] at hb
    subst hb
    exact fun e => hnot (e ▸ ha)

theorem merge_si {d a : Addr} {s : Shared} {kvs more : List (Str × Value)} {D C : List (Str × Int)} {Q : Unit → Shared → Prop}
    (hne : d ≠ a) (ha : (a == sysModules) = false) (hd : s.heap.DictOf (PySem.strKind prog w) d kvs) (hs : SI kvs D) (hm : s.heap.DictOf (PySem.strKind prog w) a more) (hsm : SI more C)
    (hn : ((D ++ C).map (·.1)).Nodup) (hl : (D ++ C).length ≤ 1000) (hD : D ≠ [])
    (h : ∀ h' tk kvs', h'.DictOf (PySem.strKind prog w) d kvs' → SI kvs' (D ++ C) → Heap.SameBut d s.heap h' → Q () { s with heap := h', toks := tk }) :
    wpAny (model prog w) A (mergeMapping d (.ref a) false) Q E s := by
  obtain ⟨od, esd, epd, hod, hcd, hdd, hkd, hpd, hnd⟩ := id hd
  obtain ⟨oo, eso, epo, hoo, hco, hdo, hko, hpo, hno⟩ := id hm
  unfold mergeMapping
  refine wpAny_bind (wpAny_isInstance (U := "dict") (b := true) (hm.typeIs (s := s)) (by rw [isSubtype_type]; kernel_rfl) ?_)
  rw [if_pos rfl]
  refine wpAny_bind (wpAny_specialOf (hm.typeIs (s := s)) F.slot_dict_iter.lookup ?_)
  have e1 : ((some (Value.builtin "dict.__iter__") : Option Value) == some (Value.builtin "dict.__iter__")) = true := by simp
  rw [e1]
  refine wpAny_bind (wpAny_pure ?_)
  dsimp only
  rw [if_neg (by rw [ha]; exact Bool.false_ne_true)]
  refine wpAny_bind (wpAny_dictEntries hod hdd ?_)
  have hemp : esd.isEmpty = false := by
    have e := hpd.length
    rw [hs.length] at e
    cases hE : esd.isEmpty with
    | false => rfl
    | true =>
      have h0 : esd = #[] := Array.isEmpty_iff.mp hE
      rw [h0] at e
      exact absurd (List.length_eq_zero_iff.mp (by simpa using e.symm)) hD
  rw [if_neg (by rw [hemp]; exact Bool.false_ne_true)]
  refine wpAny_bind (wpAny_dictEntries hoo hdo ?_)
  refine wpAny_bind (wpAny_dictEpoch hoo hdo ?_)
  have hlen : more.length = eso.size := by rw [← hpo.length]; simp
  have hnm : ((kvs ++ more).map (·.1)).Nodup := by
    rw [List.map_append, hs.keys, hsm.keys, ← List.map_append]; exact hn
  refine wpAny_bind ?_
  refine wpAny_forIn_list _
      (fun rest _ s' => ∃ h' i, s' = { s with heap := h' } ∧ rest = List.range' i (eso.size - i) ∧ i ≤ eso.size ∧ h'.DictOf (PySem.strKind prog w) d (kvs ++ more.take i) ∧ h'.get? a = some oo ∧ Heap.SameBut d s.heap h')
      _ ?_ ?_ _ _ ⟨s.heap, 0, rfl, by simp [List.range_eq_range'], Nat.zero_le _, by simpa using hd, hoo, Heap.SameBut.refl _ _⟩
  · rintro x rest b s' ⟨h', i, rfl, hr, hi, hd', hoo', hs'⟩
    have hlt : i < eso.size := by
      rcases Nat.lt_or_ge i eso.size with h | h
      · exact h
      · rw [Nat.sub_eq_zero_of_le h] at hr; simp at hr
    obtain ⟨rfl, hrest⟩ : x = i ∧ rest = List.range' (i + 1) (eso.size - (i + 1)) := by
      have e : eso.size - i = (eso.size - (i + 1)) + 1 := by omega
      rw [e, List.range'_succ] at hr
      injection hr with h1 h2
      exact ⟨h1, h2⟩
    refine wpAny_bind (wpAny_dictEntries hoo' hdo ?_)
    rw [Array.getElem?_eq_getElem hlt]
    have hlm : x < more.length := by rw [hlen]; exact hlt
    obtain ⟨kv, hkv⟩ : ∃ kv, more[x]? = some kv := ⟨more[x], List.getElem?_eq_getElem _⟩
    obtain ⟨k, v⟩ := kv
    obtain ⟨hkey, hval⟩ := hpo.get? (e := eso[x]) (by simp [hlt]) hkv
    obtain ⟨k', hkey', hhash⟩ := hko eso[x] (Array.getElem_mem hlt)
    obtain rfl : k' = k := (PySem.strKind prog w).inj _ _ _ hkey' hkey
    dsimp only
    rw [hhash, hval, if_neg Bool.false_ne_true]
    have htk : more.take (x + 1) = more.take x ++ [(k', v)] := by rw [List.take_add_one, hkv]; rfl
    have hnot : k' ∉ (kvs ++ more.take x).map (·.1) := by
      have e : (kvs ++ more) = (kvs ++ more.take x) ++ ((k', v) :: more.drop (x + 1)) := by
        have e2 := List.take_append_drop (x + 1) more
        rw [htk, List.append_assoc] at e2
        rw [List.append_assoc]
        exact congrArg (kvs ++ ·) e2.symm
      rw [e, List.map_append, List.nodup_append] at hnm
      exact fun hm => hnm.2.2 k' hm k' (by simp) rfl
    refine wpAny_bind (wpAny_holding (put_new (s := { s with heap := h' }) hkey hd' hnot (fun h'' hd'' hs'' => ?_) ?_))
    · have hoo'' : h''.get? a = some oo := (hs''.2 a (Ne.symm hne)).trans hoo'
      refine wpAny_bind (wpAny_dictEpoch hoo'' hdo ?_)
      rw [if_neg (by simp)]
      exact wpAny_pure ⟨h'', x + 1, rfl, hrest, hlt, by rw [htk, ← List.append_assoc]; exact hd'', hoo'', hs'.trans hs''⟩
    · have e2 : (more.take x).length ≤ more.length := by rw [List.length_take]; omega
      have e3 := hs.length
      have e4 := hsm.length
      rw [List.length_append] at hl
      rw [sizeLine_eq, List.length_append]; omega
  · rintro b s' ⟨h', i, rfl, hr, hi, hd', hoo', hs'⟩
    have hin : i = eso.size := by
      rcases Nat.lt_or_ge i eso.size with h | h
      · have e : eso.size - i = (eso.size - (i + 1)) + 1 := by omega
        rw [e, List.range'_succ] at hr; exact nomatch hr
      · exact Nat.le_antisymm hi h
    rw [hin, ← hlen, List.take_length] at hd'
    exact wpAny_pure (h h' _ _ hd' (hs.append hsm) hs')
end
end Mine
end

section
open PySem PySem.W PyProof.Rows
namespace Mine
section
variable {prog : Program} {w : World} {A : Around} {E : Value → Shared → Prop}

theorem dictOf_lt {K : Type} [DecidableEq K] {knd : PySem.KeyKind prog w K} {h : Heap} {d : Addr} {kvs : List (K × Value)} (x : h.DictOf knd d kvs) : d < h.objs.size :=
  let ⟨_, _, _, e, _⟩ := x
  Heap.lt_size e

/-- what the display's main dict holds so far -/
def MainIs (prog : Program) (w : World) (h : Heap) (N : Nat) : Option Addr → List (Str × Int) → Prop
  | none, D => D = []
  | some d, D => N ≤ d ∧ D ≠ [] ∧ ∃ kvs, h.DictOf (PySem.strKind prog w) d kvs ∧ SI kvs D

theorem flush_pts {s : Shared} {run : List (Sem Value × Sem Value)} {main : Option Addr} {D C : List (Str × Int)} {N : Nat} {Q : Option Addr → Shared → Prop} (hN : sysModules < N) (hNs : N ≤ s.heap.objs.size)
    (hv : PTs prog w A run C) (hm : MainIs prog w s.heap N main D) (hn : ((D ++ C).map (·.1)).Nodup) (hl : (D ++ C).length ≤ 1000)
    (h : ∀ main' h' tk, MainIs prog w h' N main' (D ++ C) → (∀ b o, b < N → s.heap.get? b = some o → h'.get? b = some o) → N ≤ h'.objs.size → Q main' { s with heap := h', toks := tk }) :
    wpAny (model prog w) A (do
      if run.isEmpty then return main
      match main with
      | none => return some (← subDict run)
      | some d =>
        let sub ← holding [.ref d] (subDict run)
        (holding [.ref d, .ref sub] (mergeMapping d (.ref sub) false)).onRaise fun x => do let _ ← holding [.ref d, x] (runValue (.builtin "proto.let_go" {}))
        return some d) Q E s := by
  cases hv with
  | nil => exact wpAny_pure (h main s.heap s.toks (by simpa using hm) (fun _ _ _ e => e) hNs)
  | cons p r =>
    rename_i q x i ps D'
    rw [if_neg (by simp)]
    cases main with
    | none =>
      obtain rfl : D = [] := hm
      refine wpAny_bind (sub_pts (.cons p r) (by simpa using hn) (by simpa using hl) fun h' tk kvs hd hs keep => wpAny_pure ?_)
      exact h _ h' tk ⟨hNs, by simp, kvs, hd, hs⟩ (fun b o _ e => keep b o e) (Nat.le_trans hNs (Nat.le_of_lt (dictOf_lt hd)))
    | some d =>
      obtain ⟨hNd, hD, kvs, hd, hs⟩ := hm
      have hn' := hn
      rw [List.map_append, List.nodup_append] at hn'
      refine wpAny_bind (wpAny_holding (sub_pts (.cons p r) hn'.2.1 (by simp at hl ⊢; omega) fun h₁ tk₁ kvs₁ hd₁ hs₁ keep₁ => ?_))
      have hlt : d < s.heap.objs.size := dictOf_lt hd
      have hsz : s.heap.objs.size < h₁.objs.size := dictOf_lt hd₁
      refine wpAny_bind (wpAny_onRaise (wpAny_holding (merge_si (s := { s with heap := h₁, toks := tk₁ }) (D := D) (C := (x, i) :: D') (Nat.ne_of_lt hlt)
        (beq_eq_false_iff_ne.mpr (Nat.ne_of_gt (Nat.lt_of_lt_of_le hN hNs))) (let ⟨o, es, ep, e, r⟩ := hd; ⟨o, es, ep, keep₁ _ _ e, r⟩) hs hd₁ hs₁ hn hl hD fun h₂ tk₂ kvs₂ hd₂ hs₂ sb₂ => wpAny_pure ?_)))
      exact h _ h₂ tk₂ ⟨hNd, by simp, kvs₂, hd₂, hs₂⟩ (fun b o hb e => (sb₂.2 b (Nat.ne_of_lt (Nat.lt_of_lt_of_le hb hNd))).trans (keep₁ b o e)) (by have e := sb₂.1; dsimp only at e; rw [e]; exact Nat.le_trans hNs (Nat.le_of_lt hsz))

theorem display_pts {pairs : List (Sem Value × Sem Value)} {D : List (Str × Int)} (hv : PTs prog w A pairs D) {s : Shared} {Q : Value → Shared → Prop} (h0 : D ≠ []) (hn : (D.map (·.1)).Nodup) (hl : D.length ≤ 1000) (hS : sysModules < s.heap.objs.size)
    (h : ∀ a h' tk kvs, s.heap.objs.size ≤ a → h'.DictOf (PySem.strKind prog w) a kvs → SI kvs D → (∀ b o, s.heap.get? b = some o → h'.get? b = some o) → Q (.ref a) { s with heap := h', toks := tk }) :
    wpAny (model prog w) A (dictDisplay (pairs.map fun p => (some p.1, p.2))) Q E s := by
  unfold dictDisplay
  dsimp only
  refine wpAny_bind (wpAny_forIn_list _ (fun rest (b : Option Addr × List (Sem Value × Sem Value)) s' => ∃ ps Dm Dr Dp h' tk, rest = ps.map (fun p => (some p.1, p.2)) ∧ s' = { s with heap := h', toks := tk } ∧ PTs prog w A ps Dp ∧ PTs prog w A b.2 Dr ∧
      MainIs prog w h' s.heap.objs.size b.1 Dm ∧ Dm ++ Dr ++ Dp = D ∧ (∀ b o, b < s.heap.objs.size → s.heap.get? b = some o → h'.get? b = some o) ∧ s.heap.objs.size ≤ h'.objs.size) _ ?_ ?_ _ _
      ⟨pairs, [], [], D, s.heap, s.toks, rfl, rfl, hv, .nil, rfl, by simp, fun _ _ _ e => e, Nat.le_refl _⟩)
  · rintro x rest ⟨main, run⟩ s' ⟨ps, Dm, Dr, Dp, h', tk, hr, rfl, hps, hrun, hmain, hD, keep, hsz⟩
    cases hps with
    | nil => simp at hr
    | cons p r =>
      rename_i q x' i ps' D'
      simp only [List.map_cons, List.cons.injEq] at hr
      obtain ⟨rfl, rfl⟩ := hr
      dsimp only
      have hrun' : PTs prog w A (run ++ [(q.1, q.2)]) (Dr ++ [(x', i)]) := hrun.append (.cons p .nil)
      split
      · subst hD
        refine wpAny_bind (flush_pts (s := { s with heap := h', toks := tk }) hS hsz hrun' hmain ?_ ?_ fun main' h₂ tk₂ hm₂ keep₂ hsz₂ => wpAny_pure ?_)
        · have e : Dm ++ Dr ++ (x', i) :: D' = (Dm ++ (Dr ++ [(x', i)])) ++ D' := by simp
          rw [e, List.map_append, List.nodup_append] at hn
          exact hn.1
        · simp at hl ⊢; omega
        · exact ⟨ps', _, [], D', h₂, tk₂, rfl, rfl, r, .nil, hm₂, by simp, fun b o hb e => keep₂ b o hb (keep b o hb e), hsz₂⟩
      · exact wpAny_pure ⟨ps', Dm, _, D', h', tk, rfl, rfl, r, hrun', hmain, by simpa using hD, keep, hsz⟩
  · rintro ⟨main, run⟩ s' ⟨ps, Dm, Dr, Dp, h', tk, hr, rfl, hps, hrun, hmain, hD, keep, hsz⟩
    have hps0 : ps = [] := by simpa using hr.symm
    subst hps0
    cases hps
    rw [List.append_nil] at hD
    subst hD
    dsimp only
    refine wpAny_bind (flush_pts (s := { s with heap := h', toks := tk }) hS hsz hrun hmain hn hl fun main' h₂ tk₂ hm₂ keep₂ hsz₂ => ?_)
    cases main' with
    | none => exact absurd hm₂ h0
    | some d =>
      obtain ⟨hNd, _, kvs, hd, hs⟩ := hm₂
      exact wpAny_pure (h d h₂ tk₂ kvs hNd hd hs fun b o e => keep₂ b o (Heap.lt_size e) (keep b o (Heap.lt_size e) e))
end
end Mine
end

section
open PySem PySem.W PyProof.Rows PySem.Calls
namespace Mine

/-- literal displays: str keys, int values -/
def litSI : List (Option Expr) → List Expr → Option (List (Str × Int))
  | [], [] => some []
  | some (.Constant (.str x) _ _) :: ks, .Constant (.int i) _ _ :: vs => (litSI ks vs).map ((x, i) :: ·)
  | _, _ => none

section
variable {prog : Program} {w : World} {A : Around} {E : Value → Shared → Prop}

theorem trees_pts {env : Env} {pos : Pos} : ∀ (ks : List (Option Expr)) (vs : List Expr) (D : List (Str × Int)), litSI ks vs = some D →
    PTs prog w A (pairTrees ks vs env pos) D ∧ ks.all (·.isSome) = true ∧ ks.length = vs.length := by
  intro ks vs
  fun_induction litSI ks vs with
  | case1 => intro D h; cases h; exact ⟨.nil, rfl, rfl⟩
  | case2 x c1 c2 ks i c3 c4 vs ih =>
    intro D h
    obtain ⟨D', hD, rfl⟩ := Option.map_eq_some_iff.mp h
    obtain ⟨p, a, l⟩ := ih D' hD
    refine ⟨.cons ⟨fun E s Q hq => wpAny_Constant_str (k := c1) (pos := c2) (env := env) (hq _ _), fun E s Q hq => ?_⟩ p, by simpa using a, by simp [l]⟩
    exact wpAny_bind (wpAny_Constant_int (k := c3) (pos := c4) (env := env) (wpAny_bind (wpAny_standAt (wpAny_pure (hq _ _)))))
  | case3 ks vs h1 h2 => intro D h; cases h

theorem dict_lits {ks : List (Option Expr)} {vs : List Expr} {D : List (Str × Int)} {pos : Pos} {env : Env} {s : Shared} {Q : Value → Shared → Prop} (hD : litSI ks vs = some D) (h0 : D ≠ []) (hn : (D.map (·.1)).Nodup) (hl : D.length ≤ 1000) (hS : sysModules < s.heap.objs.size)
    (h : ∀ a h' tk kvs, s.heap.objs.size ≤ a → h'.DictOf (PySem.strKind prog w) a kvs → SI kvs D → (∀ b o, s.heap.get? b = some o → h'.get? b = some o) → Q (.ref a) { s with heap := h', toks := tk }) :
    wpAny (model prog w) A (eval (.Dict ks vs pos) env) Q E s := by
  obtain ⟨p, a, l⟩ := trees_pts (prog := prog) (w := w) (A := A) (env := env) (pos := pos) ks vs D hD
  rw [arm_eval_Dict, zip_pairTrees ks vs env pos a l]
  exact wpAny_bind (wpAny_standAt (display_pts p h0 hn hl hS h))

/-- the built-in names that the top asks for -/
def used : List Str := ["range", "max", "list", "dict", "len"]

/-- the module's body: the globals, and all else that stood before it kept -/
structure TS (h₁ : Heap) (h : Heap) (mg : Str → Option Value) : Prop where
  ns : h.Ns mainGlobals mg
  keep : ∀ b o, b ≠ mainGlobals → h₁.get? b = some o → h.get? b = some o
  miss : ∀ y ∈ used, mg y = none

def bnd (mg : Str → Option Value) (x : Str) (v : Value) : Str → Option Value := fun y => if y = x then some v else mg y
theorem bnd_same {mg : Str → Option Value} {x : Str} {v : Value} : bnd mg x v x = some v := if_pos rfl
theorem bnd_ne {mg : Str → Option Value} {x y : Str} {v : Value} (h : y ≠ x) : bnd mg x v y = mg y := if_neg h

theorem TS.grown {h₁ h h' : Heap} {mg : Str → Option Value} (X : TS h₁ h mg) (hk : ∀ b o, h.get? b = some o → h'.get? b = some o) : TS h₁ h' mg :=
  ⟨X.ns.keeps hk, fun b o hb e => hk b o (X.keep b o hb e), X.miss⟩
theorem ne_new {h : Heap} {a b : Addr} {o : Obj} (e : h.get? b = some o) (n : h.get? a = none) : b ≠ a := fun q => by rw [q, n] at e; cases e
theorem new_of {h : Heap} {a : Addr} (ha : h.objs.size ≤ a) : h.get? a = none := by
  cases e : h.get? a with
  | none => rfl
  | some o => exact absurd (Heap.lt_size e) (Nat.not_lt.mpr ha)
theorem TS.bound {h₁ h h' : Heap} {mg mg' : Str → Option Value} (X : TS h₁ h mg) (hn : h'.Ns mainGlobals mg') (hs : Heap.SameBut mainGlobals h h') (hm : ∀ y ∈ used, mg' y = none) : TS h₁ h' mg' :=
  ⟨hn, fun b o hb e => (hs.2 b hb).trans (X.keep b o hb e), hm⟩

section
variable {c F : Addr} {h₁ : Heap} {mg : Str → Option Value} {s : Shared}
theorem ts_store {x : Str} {v : Value} {Q : Unit → Shared → Prop} (X : TS h₁ s.heap mg) (hk : prog.main.scope.kind = .module) (hl : prog.main.scope.names.lookup x = some .local) (hu : x ∉ used)
    (h : ∀ h' tk, TS h₁ h' (bnd mg x v) → Heap.SameBut mainGlobals s.heap h' → Q () { s with heap := h', toks := tk }) :
    wpAny (model prog w) A (storeName (mainEnv prog c F) x v) Q E s :=
  wpAny_storeName_local (env := mainEnv prog c F) hl X.ns (fun h' hn hs => h h' _ (X.bound hn hs fun y hy => (bnd_ne (mg := mg) (v := v) (fun e : y = x => hu (e ▸ hy))).trans (X.miss y hy)) hs)
    (by show (prog.main.scope.kind == .class || (prog.main.scope.kind == .module && mainGlobals != mainGlobals)) = false; rw [hk]; rfl)

theorem ts_load {x : Str} {v : Value} {pos : Pos} {Q : Value → Shared → Prop} (X : TS h₁ s.heap mg) (hk : prog.main.scope.kind = .module) (hv : mg x = some v) (h : Q v s)
    (hd : (x == Str.ofString "__debug__") = false) : wpAny (model prog w) A (eval (.Name x pos) (mainEnv prog c F)) Q E s :=
  Name_module (env := mainEnv prog c F) hk rfl (loadGlobal_global (env := mainEnv prog c F) X.ns hv h) hd

theorem ts_builtin {x : Str} {mb : Str → Option Value} {v : Value} {pos : Pos} {Q : Value → Shared → Prop} (X : TS h₁ s.heap mg) (hk : prog.main.scope.kind = .module) (hx : x ∈ used) (hb : h₁.Ns builtinsNs mb) (hv : mb x = some v) (h : Q v s)
    (hd : (x == Str.ofString "__debug__") = false) : wpAny (model prog w) A (eval (.Name x pos) (mainEnv prog c F)) Q E s :=
  Name_module (env := mainEnv prog c F) hk rfl (loadGlobal_builtin (env := mainEnv prog c F) X.ns (X.miss x hx) (hb.at fun o e => X.keep _ o (by decide) e) hv h) hd

theorem ts_assign {x : Str} {p pos : Pos} {value : Expr} {Q : Flow → Shared → Prop} (hk : prog.main.scope.kind = .module) (hl : prog.main.scope.names.lookup x = some .local) (hu : x ∉ used)
    (hsw : swapsWith value (some (.Name x p)) pos.line (mainEnv prog c F) = pure false)
    (hval : wpAny (model prog w) A (eval value (mainEnv prog c F)) (fun v s₁ => ∃ mg₁, TS h₁ s₁.heap mg₁ ∧ ∀ h' tk, TS h₁ h' (bnd mg₁ x v) → Heap.SameBut mainGlobals s₁.heap h' → Q .next { s₁ with heap := h', toks := tk }) E s) :
    wpAny (model prog w) A (exec (.Assign [.Name x p] value pos) (mainEnv prog c F)) Q E s :=
  wpAny_Assign_Name (wpAny_mono hval (fun _ _ ⟨_, X, h⟩ => ts_store X hk hl hu h) fun _ _ e => e) hsw

/-- statements 0 and 1: a long display bound to a name -/
theorem st_dict {x : Str} {p dp pos : Pos} {ks : List (Option Expr)} {vs : List Expr} {D : List (Str × Int)} {Q : Flow → Shared → Prop} (X : TS h₁ s.heap mg) (hk : prog.main.scope.kind = .module) (hl : prog.main.scope.names.lookup x = some .local) (hu : x ∉ used)
    (hg : mainGlobals < s.heap.objs.size) (hD : litSI ks vs = some D) (h0 : D ≠ []) (hn : (D.map (·.1)).Nodup) (hlen : D.length ≤ 1000)
    (hsw : swapsWith (.Dict ks vs dp) (some (.Name x p)) pos.line (mainEnv prog c F) = pure false)
    (h : ∀ h' tk a kvs, TS h₁ h' (bnd mg x (.ref a)) → s.heap.objs.size ≤ a → h'.DictOf (PySem.strKind prog w) a kvs → SI kvs D → (∀ b o, b ≠ mainGlobals → s.heap.get? b = some o → h'.get? b = some o) → Q .next { s with heap := h', toks := tk }) :
    wpAny (model prog w) A (exec (.Assign [.Name x p] (.Dict ks vs dp) pos) (mainEnv prog c F)) Q E s := by
  refine ts_assign (h₁ := h₁) hk hl hu hsw (dict_lits hD h0 hn hlen (Nat.lt_trans (by decide) hg) fun a h' tk kvs ha hd hs keep => ⟨mg, X.grown keep, fun h'' tk' X' sb => ?_⟩)
  have hne : a ≠ mainGlobals := Nat.ne_of_gt (Nat.lt_of_lt_of_le hg ha)
  exact h h'' tk' a kvs X' ha (hd.sameBut sb hne) hs fun b o hb e => (sb.2 b hb).trans (keep b o e)

theorem st_const {x y : Str} {p p' pos : Pos} {k : Nat} {Q : Flow → Shared → Prop} (X : TS h₁ s.heap mg) (hk : prog.main.scope.kind = .module) (hl : prog.main.scope.names.lookup x = some .local) (hu : x ∉ used)
    (h : ∀ h' tk t, TS h₁ h' (bnd mg x (.str y t)) → (∀ b o, b ≠ mainGlobals → s.heap.get? b = some o → h'.get? b = some o) → Q .next { s with heap := h', toks := tk }) :
    wpAny (model prog w) A (exec (.Assign [.Name x p] (.Constant (.str y) k p') pos) (mainEnv prog c F)) Q E s :=
  ts_assign (h₁ := h₁) hk hl hu rfl (wpAny_Constant_str ⟨mg, X, fun h' tk X' sb => h h' tk _ X' fun b _ hb e => (sb.2 b hb).trans e⟩)

theorem st_copyname {x y : Str} {v : Value} {p p' pos : Pos} {Q : Flow → Shared → Prop} (X : TS h₁ s.heap mg) (hk : prog.main.scope.kind = .module) (hl : prog.main.scope.names.lookup x = some .local) (hu : x ∉ used) (hy : mg y = some v)
    (hd : (y == Str.ofString "__debug__") = false)
    (h : ∀ h' tk, TS h₁ h' (bnd mg x v) → (∀ b o, b ≠ mainGlobals → s.heap.get? b = some o → h'.get? b = some o) → Q .next { s with heap := h', toks := tk }) :
    wpAny (model prog w) A (exec (.Assign [.Name x p] (.Name y p') pos) (mainEnv prog c F)) Q E s :=
  ts_assign (h₁ := h₁) hk hl hu rfl (ts_load X hk hy ⟨mg, X, fun h' tk X' sb => h h' tk X' fun b _ hb e => (sb.2 b hb).trans e⟩ hd)
end
end
end Mine
end

section
open PySem PySem.W PyProof.Rows PySem.Calls
namespace Mine
section
variable {prog : Program} {w : World} {A : Around} {K : Type} [DecidableEq K] {knd : PySem.KeyKind prog w K} {env : Env} {s : Shared}

/-- a for over dict.items() with two names; the body may write what J tells of -/
theorem loop_items {R : Result → Shared → Prop} {xk xv : Str} {pk pv pt : Pos} {x1} {body : List Stmt} {it d : Addr} {kvs : List (K × Value)} {ep : Nat} {m : Str → Option Value}
    (hh : A.handled = none) (hxk : env.kindOf xk = some .local) (hxv : env.kindOf xv = some .local)
    (hp : (env.scope.kind == .class || (env.scope.kind == .module && env.locals != env.globals)) = false)
    (hiL : it ≠ env.locals) (hdL : d ≠ env.locals) (hdi : d ≠ it)
    (hit : IsItemIter s.heap it d 0 kvs.length ep .none .none) (hm : s.heap.DictAt knd d kvs ep) (hn : s.heap.Ns env.locals m)
    (J : Nat → (Str → Option Value) → Heap → Prop) (h0 : J 0 m s.heap)
    (hJk : ∀ i m h h', J i m h → (∀ b o, b ≠ env.locals → b ≠ it → h.get? b = some o → h'.get? b = some o) → J i m h')
    (step : ∀ i k v key m₁ s₁, kvs[i]? = some (k, v) → knd.is k key = true → J i m₁ s₁.heap → s₁.heap.DictAt knd d kvs ep →
      s₁.heap.Ns env.locals (fun y => if y = xv then some v else if y = xk then some key else m₁ y) →
      ∀ E, wpAny (model prog w) A (execs body env) (fun f s₂ => f = .next ∧ (∃ h' tk, s₂ = { s₁ with heap := h', toks := tk }) ∧ s₂.heap.get? it = s₁.heap.get? it ∧ s₂.heap.DictAt knd d kvs ep ∧ ∃ m₂, s₂.heap.Ns env.locals m₂ ∧ J (i + 1) m₂ s₂.heap) E s₁)
    (hR : ∀ h' tk m', h'.Ns env.locals m' → J kvs.length m' h' → R (.ok .next) { s with heap := h', toks := tk }) :
    codeAny (model prog w) A (.forLoop (.Tuple [.Name xk pk, .Name xv pv] x1 pt) (.ref it) body [] env) R s := by
  refine codeAny_forLoop_any
    (fun n s' => ∃ h' tk m' i ok ov, s' = { s with heap := h', toks := tk } ∧ IsItemIter h' it d i kvs.length ep ok ov ∧ h'.DictAt knd d kvs ep ∧ h'.Ns env.locals m' ∧ J i m' h' ∧ i ≤ kvs.length ∧
      n = kvs.length + 1 - i) ?_ (kvs.length + 1)
    ⟨s.heap, s.toks, m, 0, .none, .none, rfl, hit, hm, hn, h0, Nat.zero_le _, rfl⟩
  rintro n s' ⟨H, tk, m', i, ok, ov, rfl, hit', hm', hn', hJ, hi, rfl⟩
  cases hv : kvs[i]? with
  | none =>
    have he : i = kvs.length := Nat.le_antisymm hi (by simpa using hv)
    refine wpAny_pyNext_items_end hh hit' hm' hv fun h₁ he₁ => wpAny_execs_nil ?_
    exact hR h₁ tk m' (hn'.extBut he₁ (Ne.symm hiL)) (hJk _ _ _ _ (he ▸ hJ) fun b o _ hbi x => he₁ b o hbi x)
  | some kv =>
    obtain ⟨k, v⟩ := kv
    have hlt : i < kvs.length := (List.getElem?_eq_some_iff.mp hv).1
    have hiH : it < H.objs.size := Heap.lt_size hit'
    have hLH : env.locals < H.objs.size := hn'.lt
    have hdH : d < H.objs.size := hm'.lt_size
    refine wpAny_pyNext_items_item hit' hm' hv fun key h₁ hkey heo ht₁ hz₁ hk₁ => ?_
    refine wpAny_letOwnedTupleGo_items heo fun h₂ he₂ hs₂ => ?_
    replace hs₂ : Heap.SameBut it h₁ h₂ := hs₂
    have ht₂ : h₂.IsTuple H.objs.size #[key, v] := ⟨_, (hs₂.2 _ (Nat.ne_of_gt hiH)).trans ht₁, rfl, _, rfl⟩
    have hz₂ : h₂.objs.size = H.objs.size + 1 := hs₂.1.trans hz₁
    refine wpAny_assign_Tuple hh ht₂ rfl rfl fun h₃ hx₃ => ?_
    replace hx₃ : Heap.ExtBut h₂.objs.size h₂ h₃ := hx₃
    have old₃ : ∀ b o, b < H.objs.size → h₂.get? b = some o → h₃.get? b = some o := fun b o hb x => hx₃ b o (by rw [hz₂]; exact Nat.ne_of_lt (Nat.lt_succ_of_lt hb)) x
    have hn₃ : h₃.Ns env.locals m' := (hn'.at fun o x => hk₁ _ o (Ne.symm hiL) x).sameBut hs₂ (Ne.symm hiL) |>.at fun o x => old₃ _ o hLH x
    show wpAny _ _ (do holding [v] (assign (.Name xk pk) env key); do holding [] (assign (.Name xv pv) env v); pure ()) _ _ _
    refine wpAny_bind (wpAny_holding (wpAny_assign_Name (wpAny_storeName_local hxk hn₃ (fun h₄ hn₄ hs₄ => ?_) hp)))
    replace hs₄ : Heap.SameBut env.locals h₃ h₄ := hs₄
    refine wpAny_bind (wpAny_holding (wpAny_assign_Name (wpAny_storeName_local hxv hn₄ (fun h₅ hn₅ hs₅ => wpAny_pure ?_) hp)))
    replace hs₅ : Heap.SameBut env.locals h₄ h₅ := hs₅
    have up₅ : ∀ b o, b ≠ env.locals → b < H.objs.size → h₂.get? b = some o → h₅.get? b = some o := fun b o hbL hb x => hs₅.extBut b o hbL (hs₄.extBut b o hbL (old₃ b o hb x))
    have hm₂ : h₂.DictAt knd d kvs ep := (hm'.at fun o x => hk₁ d o hdi x).extBut hs₂.extBut hdi
    have hit₅ : IsItemIter h₅ it d (i + 1) kvs.length ep key v := up₅ it _ hiL hiH he₂
    refine wpAny_mono (step i k v key m' _ hv hkey (hJk _ _ _ _ hJ fun b o hbL hbi x => up₅ b o hbL (Heap.lt_size x) (hs₂.extBut b o hbi (hk₁ b o hbi x))) (hm₂.at fun o x => up₅ d o hdL hdH x) hn₅ _) (fun f s₃ h₆ => ?_) fun _ _ x => x
    obtain ⟨rfl, ⟨h₆, tk₆, rfl⟩, hit₆, hm₆, m₂, hn₆, hJ₆⟩ := h₆
    exact ⟨kvs.length + 1 - (i + 1), by omega, h₆, tk₆, m₂, i + 1, key, v, rfl, hit₆.trans hit₅, hm₆, hn₆, hJ₆, hlt, rfl⟩
end
end Mine
end

section
open PySem PySem.W PyProof.Rows PySem.Calls
namespace Mine

theorem SI.get {kvs : List (Str × Value)} {D : List (Str × Int)} (h : SI kvs D) : ∀ {i : Nat} {k : Str} {v : Value}, kvs[i]? = some (k, v) → ∃ j t, v = .int j t ∧ (k, j) ∈ D := by
  induction h with
  | nil => intro i k v e; simp at e
  | cons _ ih =>
    rename_i x j t kvs D _
    intro i k v e
    cases i with
    | zero =>
      simp only [List.getElem?_cons_zero, Option.some.injEq, Prod.mk.injEq] at e
      obtain ⟨rfl, rfl⟩ := e
      exact ⟨j, t, rfl, List.mem_cons_self⟩
    | succ i =>
      rw [List.getElem?_cons_succ] at e
      obtain ⟨j', t', h1, h2⟩ := ih e
      exact ⟨j', t', h1, List.mem_cons_of_mem _ h2⟩

theorem str_shape {prog : Program} {w : World} {k : Str} {v : Value} (h : (PySem.strKind prog w).is k v = true) : ∃ t, v = .str k t := Value.isStrOf_shape h

section
variable {prog : Program} {w : World} {A : Around} {E : Value → Shared → Prop} {c F : Addr} {h₁ : Heap} {mg : Str → Option Value} {s : Shared}

theorem mload {x : Str} {v : Value} {m : Str → Option Value} {pos : Pos} {Q : Value → Shared → Prop} (hn : s.heap.Ns mainGlobals m) (hk : prog.main.scope.kind = .module) (hv : m x = some v) (h : Q v s)
    (hd : (x == Str.ofString "__debug__") = false) : wpAny (model prog w) A (eval (.Name x pos) (mainEnv prog c F)) Q E s :=
  Name_module (env := mainEnv prog c F) hk rfl (loadGlobal_global (env := mainEnv prog c F) hn hv h) hd

/-- statement 4: a table's items put into a list, place by place -/
theorem st_for1 {xk xv xd xl : Str} {pk pv pt pd pl apos cpos pos p1 p2 p3 p4 : Pos} {x1 d l : Nat} {kvs : List (Str × Value)} {D : List (Str × Int)} {items : Array Value} {Q : Flow → Shared → Prop}
    (X : TS h₁ s.heap mg) (hk : prog.main.scope.kind = .module) (hh : A.handled = none) (hlk : prog.main.scope.names.lookup xk = some .local) (hlv : prog.main.scope.names.lookup xv = some .local)
    (huk : xk ∉ used) (huv : xv ∉ used) (hne : (xk ≠ xv ∧ xd ≠ xk ∧ xd ≠ xv ∧ xl ≠ xk ∧ xl ≠ xv)) (hdb : (xk == Str.ofString "__debug__") = false ∧ (xv == Str.ofString "__debug__") = false ∧ (xd == Str.ofString "__debug__") = false ∧ (xl == Str.ofString "__debug__") = false)
    (hd : mg xd = some (.ref d)) (hl : mg xl = some (.ref l)) (hdl : d ≠ l) (hg : ∃ o, h₁.get? mainGlobals = some o) (hsy : ∃ o, h₁.get? sysModules = some o) (hd1 : h₁.get? d = none) (hl1 : h₁.get? l = none)
    (hD : s.heap.DictOf (PySem.strKind prog w) d kvs) (hs : SI kvs D) (h0 : D ≠ []) (hL : s.heap.IsList l items) (hr : ∀ p ∈ D, 0 ≤ p.2 ∧ p.2 < (items.size : Int)) (hsz : (items.size : Int) < 2 ^ 63)
    (hline : (apos.endLine == cpos.line) = true)
    (h : ∀ h' tk mg' items', TS h₁ h' mg' → (∀ y, y ≠ xk → y ≠ xv → mg' y = mg y) → (∃ v, mg' xk = some v) → h'.IsList l items' → items'.size = items.size →
      (∀ b o, b ≠ mainGlobals → b ≠ l → s.heap.get? b = some o → h'.get? b = some o) → Q .next { s with heap := h', toks := tk }) :
    wpAny (model prog w) A (exec (.For (.Tuple [.Name xk pk, .Name xv pv] x1 pt) (.Call (.Attribute (.Name xd pd) "items" apos) [] [] cpos)
      [.Assign [.Subscript (.Name xl pl) (.Name xv p1) p2] (.Name xk p3) p4] [] pos) (mainEnv prog c F)) Q (fun _ _ => False) s := by
  have hgd : d ≠ mainGlobals := Ne.symm (ne_new hg.choose_spec hd1)
  have hgl : l ≠ mainGlobals := Ne.symm (ne_new hg.choose_spec hl1)
  have hdS : (d == sysModules) = false := beq_eq_false_iff_ne.mpr (Ne.symm (ne_new hsy.choose_spec hd1))
  obtain ⟨ep, hm⟩ := hD.dictAt
  have hdlt : d < s.heap.objs.size := hm.lt_size
  refine wpAny_For (wpAny_Call_items hdS hD rfl hline (fun Q' hq => ts_load X hk hd hq hdb.2.2.1) ?_) (fun _ => rfl)
  refine wpAny_pyIter_items (knd := PySem.strKind prog w) (d := d) (kvs := kvs) (ep := ep) ⟨_, Heap.get?_push_size _ rfl, rfl, rfl⟩ (hm.push _) ?_
  have hz : (s.heap.push { cls := .type "dict_items", data := .fields #[.ref d] }).objs.size = s.heap.objs.size + 1 := Heap.size_push ..
  have old : ∀ b o, s.heap.get? b = some o → b ≠ (s.heap.push { cls := .type "dict_items", data := .fields #[.ref d] }).objs.size := fun b o e => by
    rw [hz]; exact Nat.ne_of_lt (Nat.lt_succ_of_lt (Heap.lt_size e))
  have up : ∀ b o, s.heap.get? b = some o → ((s.heap.push { cls := .type "dict_items", data := .fields #[.ref d] }).push { cls := .type "dict_itemiterator", data := .fields #[.none, .bool false, .ref d, .int 0 0, .int kvs.length 0, .int ep 0, .none, .none] }).get? b = some o :=
    fun b o e => Heap.get?_push_of_some _ (Heap.get?_push_of_some _ e)
  obtain ⟨og, _, _, hog, _⟩ := id X.ns
  obtain ⟨od, _, hod, _⟩ := id hm
  obtain ⟨ol, hol, _⟩ := id hL
  refine loop_items (knd := PySem.strKind prog w) (R := fun r s' => match r with | .ok f => Q f s' | .error e => cameBackBy (model prog w) A (mainEnv prog c F) (fun _ _ => False) e s') (m := mg) hh hlk hlv
    (by show (prog.main.scope.kind == .class || (prog.main.scope.kind == .module && mainGlobals != mainGlobals)) = false; rw [hk]; rfl)
    (Ne.symm (old _ _ hog)) hgd (old _ _ hod)
    (Heap.get?_push_size _ rfl) ((hm.push _).push _) ((X.ns.push _).push _)
    (fun i m hp => (∀ y, y ≠ xk → y ≠ xv → m y = mg y) ∧ (0 < i → ∃ v, m xk = some v) ∧ (∃ items', hp.IsList l items' ∧ items'.size = items.size) ∧
      ∀ b o, b ≠ mainGlobals → b ≠ l → s.heap.get? b = some o → hp.get? b = some o)
    ⟨fun _ _ _ => rfl, fun h => absurd h (Nat.lt_irrefl _), ⟨items, (hL.push _).push _, rfl⟩, fun b o _ _ e => up b o e⟩ ?_ ?_ ?_
  · rintro i m hp hp' ⟨a1, a2, ⟨it', a3, a4⟩, a5⟩ k
    exact ⟨a1, a2, ⟨it', a3.at fun o e => k l o hgl (old _ _ hol) e, a4⟩, fun b o hb hbl e => k b o hb (old _ _ e) (a5 b o hb hbl e)⟩
  · rintro i k v key m₁ s₁ hget hkey ⟨a1, a2, ⟨it', a3, a4⟩, a5⟩ hdat hns E'
    obtain ⟨j, t, rfl, hmem⟩ := hs.get hget
    obtain ⟨u, rfl⟩ := str_shape hkey
    obtain ⟨r0, r1⟩ := hr _ hmem
    refine wpAny_execs_cons (wpAny_Assign_Subscript (mload hns hk (v := .str k u) (by simp [hne.1]) ?_ hdb.1) rfl)
    refine mload hns hk (v := .ref l) (by simp only [if_neg hne.2.2.2.2, if_neg hne.2.2.2.1]; rw [a1 _ hne.2.2.2.1 hne.2.2.2.2]; exact hl) ?_ hdb.2.2.2
    refine mload hns hk (v := .int j t) (by simp) ?_ hdb.2.1
    refine wpAny_setItem_list a3 r0 (by dsimp only at r1; omega) (by rw [a4]; exact r1) fun h' hl' sb' => wpAny_execs_nil ?_
    refine ⟨rfl, ⟨h', s₁.toks, rfl⟩, (sb'.2 _ (Ne.symm (old _ _ hol))), hdat.extBut sb'.extBut hdl, _, hns.sameBut sb' (Ne.symm hgl), ?_, fun _ => ⟨.str k u, by simp [hne.1]⟩, ⟨_, hl', by rw [Array.size_setIfInBounds, a4]⟩, fun b o hb hbl e => (sb'.2 b hbl).trans (a5 b o hb hbl e)⟩
    intro y h1 h2
    simp only [if_neg h2, if_neg h1]
    exact a1 y h1 h2
  · rintro h' tk m' hns' ⟨a1, a2, ⟨it', a3, a4⟩, a5⟩
    refine h h' tk m' it' ⟨hns', fun b o hb e => a5 b o hb (ne_new e hl1) (X.keep b o hb e), fun y hy => ?_⟩ a1 (a2 ?_) a3 a4 a5
    · exact (a1 y (fun e => huk (e ▸ hy)) (fun e => huv (e ▸ hy))).trans (X.miss y hy)
    · rw [hs.length]; exact List.length_pos_iff.mpr h0
end
end Mine
end

section
open PySem PySem.W PyProof.Rows PySem.Calls
namespace Mine
section
variable {prog : Program} {w : World} {A : Around} {E : Value → Shared → Prop} {c F : Addr} {h₁ : Heap} {mg : Str → Option Value} {s : Shared}

/-- statement 9: a table's items laid into a list and into a dict, asserted to lie within -/
theorem st_for2 {xk xv xd xl xm : Str} {pk pv pt pd apos cpos pos q1 q2 q3 q4 q5 q6 p1 p2 p3 p4 p5 r1 r2 r3 r4 r5 : Pos} {x1 d l e₂ : Nat} {kvs kvs₂ : List (Str × Value)} {D : List (Str × Int)} {items : Array Value} {mb : Str → Option Value} {Q : Flow → Shared → Prop}
    (X : TS h₁ s.heap mg) (hk : prog.main.scope.kind = .module) (hh : A.handled = none) (hlk : prog.main.scope.names.lookup xk = some .local) (hlv : prog.main.scope.names.lookup xv = some .local)
    (huk : xk ∉ used) (huv : xv ∉ used) (hne : (xk ≠ xv ∧ xd ≠ xk ∧ xd ≠ xv ∧ xl ≠ xk ∧ xl ≠ xv ∧ xm ≠ xk ∧ xm ≠ xv))
    (hdb : (xk == Str.ofString "__debug__") = false ∧ (xv == Str.ofString "__debug__") = false ∧ (xd == Str.ofString "__debug__") = false ∧ (xl == Str.ofString "__debug__") = false ∧ (xm == Str.ofString "__debug__") = false)
    (hb : h₁.Ns builtinsNs mb) (hlen : mb "len" = some (.builtin "len"))
    (hd : mg xd = some (.ref d)) (hl : mg xl = some (.ref l)) (hm₂ : mg xm = some (.ref e₂)) (hdl : d ≠ l) (hde : d ≠ e₂) (hle : l ≠ e₂) (hg : ∃ o, h₁.get? mainGlobals = some o) (hsy : ∃ o, h₁.get? sysModules = some o) (hd1 : h₁.get? d = none) (hl1 : h₁.get? l = none) (he1 : h₁.get? e₂ = none)
    (hD : s.heap.DictOf (PySem.strKind prog w) d kvs) (hs : SI kvs D) (hE : s.heap.DictOf (PySem.strKind prog w) e₂ kvs₂) (hEl : kvs₂.length ≤ 1000) (hDl : D.length ≤ 1000)
    (hL : s.heap.IsList l items) (hr : ∀ p ∈ D, 0 ≤ p.2 ∧ p.2 < (items.size : Int)) (hsz : (items.size : Int) < 2 ^ 63)
    (hline : (apos.endLine == cpos.line) = true)
    (h : ∀ h' tk mg', TS h₁ h' mg' → (∀ y, y ≠ xk → y ≠ xv → mg' y = mg y) →
      (∀ b o, b ≠ mainGlobals → b ≠ l → b ≠ e₂ → s.heap.get? b = some o → h'.get? b = some o) → Q .next { s with heap := h', toks := tk }) :
    wpAny (model prog w) A (exec (.For (.Tuple [.Name xk pk, .Name xv pv] x1 pt) (.Call (.Attribute (.Name xd pd) "items" apos) [] [] cpos)
      [.Assert (.Compare (.Name xv q1) [.Lt] [.Call (.Name "len" q2) [.Name xl q3] [] q4] q5) none q6,
       .Assign [.Subscript (.Name xl p1) (.Name xv p2) p3] (.Name xk p4) p5,
       .Assign [.Subscript (.Name xm r1) (.Name xk r2) r3] (.Name xv r4) r5] [] pos) (mainEnv prog c F)) Q (fun _ _ => False) s := by
  have hgd : d ≠ mainGlobals := Ne.symm (ne_new hg.choose_spec hd1)
  have hgl : l ≠ mainGlobals := Ne.symm (ne_new hg.choose_spec hl1)
  have hge : e₂ ≠ mainGlobals := Ne.symm (ne_new hg.choose_spec he1)
  have hdS : (d == sysModules) = false := beq_eq_false_iff_ne.mpr (Ne.symm (ne_new hsy.choose_spec hd1))
  obtain ⟨ep, hm⟩ := hD.dictAt
  refine wpAny_For (wpAny_Call_items hdS hD rfl hline (fun Q' hq => ts_load X hk hd hq hdb.2.2.1) ?_) (fun _ => rfl)
  refine wpAny_pyIter_items (knd := PySem.strKind prog w) (d := d) (kvs := kvs) (ep := ep) ⟨_, Heap.get?_push_size _ rfl, rfl, rfl⟩ (hm.push _) ?_
  have hz : (s.heap.push { cls := .type "dict_items", data := .fields #[.ref d] }).objs.size = s.heap.objs.size + 1 := Heap.size_push ..
  have old : ∀ b o, s.heap.get? b = some o → b ≠ (s.heap.push { cls := .type "dict_items", data := .fields #[.ref d] }).objs.size := fun b o e => by
    rw [hz]; exact Nat.ne_of_lt (Nat.lt_succ_of_lt (Heap.lt_size e))
  have up : ∀ b o, s.heap.get? b = some o → ((s.heap.push { cls := .type "dict_items", data := .fields #[.ref d] }).push { cls := .type "dict_itemiterator", data := .fields #[.none, .bool false, .ref d, .int 0 0, .int kvs.length 0, .int ep 0, .none, .none] }).get? b = some o :=
    fun b o e => Heap.get?_push_of_some _ (Heap.get?_push_of_some _ e)
  obtain ⟨og, _, _, hog, _⟩ := id X.ns
  obtain ⟨od, _, hod, _⟩ := id hm
  obtain ⟨ol, hol, _⟩ := id hL
  obtain ⟨oe, _, _, hoe, _⟩ := id hE
  obtain ⟨ob, _, _, hob, _⟩ := id hb
  refine loop_items (knd := PySem.strKind prog w) (R := fun r s' => match r with | .ok f => Q f s' | .error e => cameBackBy (model prog w) A (mainEnv prog c F) (fun _ _ => False) e s') (m := mg) hh hlk hlv
    (by show (prog.main.scope.kind == .class || (prog.main.scope.kind == .module && mainGlobals != mainGlobals)) = false; rw [hk]; rfl)
    (Ne.symm (old _ _ hog)) hgd (old _ _ hod)
    (Heap.get?_push_size _ rfl) ((hm.push _).push _) ((X.ns.push _).push _)
    (fun i m hp => (∀ y, y ≠ xk → y ≠ xv → m y = mg y) ∧ i ≤ D.length ∧ (∃ items', hp.IsList l items' ∧ items'.size = items.size) ∧ (∃ k2, hp.DictOf (PySem.strKind prog w) e₂ k2 ∧ k2.length ≤ kvs₂.length + i) ∧
      ∀ b o, b ≠ mainGlobals → b ≠ l → b ≠ e₂ → s.heap.get? b = some o → hp.get? b = some o)
    ⟨fun _ _ _ => rfl, Nat.zero_le _, ⟨items, (hL.push _).push _, rfl⟩, ⟨kvs₂, (hE.push _).push _, Nat.le_refl _⟩, fun b o _ _ _ e => up b o e⟩ ?_ ?_ ?_
  · rintro i m hp hp' ⟨a1, a2, ⟨it', a3, a4⟩, ⟨k2, b1, b2⟩, a5⟩ k
    exact ⟨a1, a2, ⟨it', a3.at fun o e => k l o hgl (old _ _ hol) e, a4⟩, ⟨k2, let ⟨o, es, ep, e, r⟩ := b1; ⟨o, es, ep, k e₂ o hge (old _ _ hoe) e, r⟩, b2⟩, fun b o hb hbl hbe e => k b o hb (old _ _ e) (a5 b o hb hbl hbe e)⟩
  · rintro i k v key m₁ s₁ hget hkey ⟨a1, a2, ⟨it', a3, a4⟩, ⟨k2, b1, b2⟩, a5⟩ hdat hns E'
    have hi : i < D.length := by
      rw [← hs.length]; exact (List.getElem?_eq_some_iff.mp hget).1
    obtain ⟨j, t, rfl, hmem⟩ := hs.get hget
    obtain ⟨u, rfl⟩ := str_shape hkey
    obtain ⟨r0, r1⟩ := hr _ hmem
    dsimp only at r0 r1
    have vk : (fun y => if y = xv then some (Value.int j t) else if y = xk then some (Value.str k u) else m₁ y) xk = some (.str k u) := by simp [hne.1]
    have vv : (fun y => if y = xv then some (Value.int j t) else if y = xk then some (Value.str k u) else m₁ y) xv = some (.int j t) := by simp
    have vl : (fun y => if y = xv then some (Value.int j t) else if y = xk then some (Value.str k u) else m₁ y) xl = some (.ref l) := by
      simp only [if_neg hne.2.2.2.2.1, if_neg hne.2.2.2.1]; rw [a1 _ hne.2.2.2.1 hne.2.2.2.2.1]; exact hl
    have vm : (fun y => if y = xv then some (Value.int j t) else if y = xk then some (Value.str k u) else m₁ y) xm = some (.ref e₂) := by
      simp only [if_neg hne.2.2.2.2.2.2, if_neg hne.2.2.2.2.2.1]; rw [a1 _ hne.2.2.2.2.2.1 hne.2.2.2.2.2.2]; exact hm₂
    have vlen : (fun y => if y = xv then some (Value.int j t) else if y = xk then some (Value.str k u) else m₁ y) "len" = none := by
      have hu : ("len" : Str) ∈ used := by decide
      have n1 : ("len" : Str) ≠ xk := fun e => huk (e ▸ hu)
      have n2 : ("len" : Str) ≠ xv := fun e => huv (e ▸ hu)
      simp only [if_neg n1, if_neg n2]
      exact (a1 _ n1 n2).trans (X.miss _ hu)
    have hbs : s₁.heap.Ns builtinsNs mb := hb.at fun o e => a5 _ _ (by decide) (ne_new hob hl1) (ne_new hob he1) (X.keep _ o (by decide) e)
    refine wpAny_execs_cons (wpAny_Assert hh (wpAny_isTrue_Compare1 (mload hns hk vv ?_ hdb.2.1) rfl))
    refine Call_Name1 (Name_module (env := mainEnv prog c F) hk rfl (loadGlobal_builtin (env := mainEnv prog c F) hns vlen hbs hlen (PySem.callWith_builtin1 (mload hns hk vl (call_len_list a3 (by rw [a4]; exact hsz) ?_) hdb.2.2.2.1))) rfl) rfl
    refine lt_int (wpAny_truthy_bool ?_)
    rw [a4, if_pos (by simpa using r1)]
    refine wpAny_execs_cons (wpAny_Assign_Subscript (mload hns hk vk ?_ hdb.1) rfl)
    refine mload hns hk vl ?_ hdb.2.2.2.1
    refine mload hns hk vv ?_ hdb.2.1
    refine wpAny_setItem_list a3 r0 (by omega) (by rw [a4]; exact r1) fun h' hl' sb' => ?_
    have hns' : h'.Ns mainGlobals _ := hns.sameBut sb' (Ne.symm hgl)
    have b1' : h'.DictOf (PySem.strKind prog w) e₂ k2 := b1.sameBut sb' (Ne.symm hle)
    refine wpAny_execs_cons (wpAny_Assign_Subscript (mload hns' hk vv ?_ hdb.2.1) rfl)
    refine mload hns' hk vm ?_ hdb.2.2.2.2
    refine mload hns' hk vk ?_ hdb.1
    refine wpAny_setItem_pairs (knd := PySem.strKind prog w) (k := k) (by simp [PySem.strKind, Value.isStrOf]) b1' (fun h'' hd'' sb'' => wpAny_execs_nil ?_) (by rw [sizeLine_eq]; omega)
    refine ⟨rfl, ⟨h'', _, rfl⟩, (sb''.2 _ (Ne.symm (old _ _ hoe))).trans (sb'.2 _ (Ne.symm (old _ _ hol))), (hdat.extBut sb'.extBut hdl).extBut sb''.extBut hde, _, hns'.sameBut sb'' (Ne.symm hge), ?_, hi,
      ⟨_, hl'.extBut sb''.extBut hle, by rw [Array.size_setIfInBounds, a4]⟩, ⟨_, hd'', by have := stored_length_le k2 k (.int j t); omega⟩, fun b o hb hbl hbe e => (sb''.2 b hbe).trans ((sb'.2 b hbl).trans (a5 b o hb hbl hbe e))⟩
    intro y h1 h2
    simp only [if_neg h2, if_neg h1]
    exact a1 y h1 h2
  · rintro h' tk m' hns' ⟨a1, a2, _, _, a5⟩
    refine h h' tk m' ⟨hns', fun b o hb e => a5 b o hb (ne_new e hl1) (ne_new e he1) (X.keep b o hb e), fun y hy => ?_⟩ a1 a5
    exact (a1 y (fun e => huk (e ▸ hy)) (fun e => huv (e ▸ hy))).trans (X.miss y hy)
end
end Mine
end

section
open PySem PySem.W PyProof.Rows PySem.Calls
namespace Mine

theorem small_of {n : Nat} (h : n ≤ 2000) : Builtin.Range.small 0 (n : Int) 1 = true ∧ Builtin.Range.rangeSize 0 (n : Int) 1 = (n : Int) := by
  have e : Builtin.Range.rangeSize 0 (n : Int) 1 = (n : Int) := by
    unfold Builtin.Range.rangeSize
    simp only [Int.reduceLT, gt_iff_lt, if_true, Int.ediv_one]
    split <;> omega
  refine ⟨?_, e⟩
  unfold Builtin.Range.small
  rw [e]
  unfold Builtin.Range.rangeFitsLong
  simp only [Bool.and_eq_true, Bool.or_eq_true, decide_eq_true_eq, beq_iff_eq, if_true, gt_iff_lt, Int.reduceLT]
  omega

section
variable {prog : Program} {w : World} {A : Around} {E : Value → Shared → Prop} {c F : Addr} {h₁ : Heap} {mg : Str → Option Value} {s : Shared} {env : Env}

theorem call_values {o : Expr} {apos pos : Pos} {d : Addr} {kvs : List (Str × Value)} {Q : Value → Shared → Prop} (hdS : (d == sysModules) = false) (hm : s.heap.DictOf (PySem.strKind prog w) d kvs)
    (hbase : attributeBase o "values" env (eval o env) = eval o env) (hline : (apos.endLine == pos.line) = true)
    (ho : ∀ Q', Q' (.ref d) s → wpAny (model prog w) A (eval o env) Q' E s)
    (hQ : Q (.ref s.heap.objs.size) { s with heap := s.heap.push { cls := .type "dict_values", data := .fields #[.ref d] } }) :
    wpAny (model prog w) A (eval (.Call (.Attribute o "values" apos) [] [] pos) env) Q E s := by
  refine wpAny_Call_method (T := "dict") (id := "dict.values") hbase rfl hline F.plainAttrs_dict F.slot_dict_values F.type_dict_values (ho _ ⟨hm.typeIs, hm.mapOf.noDict, ?_⟩)
  show wpAny _ _ (callWith pos (.builtin "dict.values") [.ref d] [] []) Q E s
  exact method_meetsIn F.slot_dict_values F.entry_dict_values rfl (PySem.evalArgs_none ⟨rfl, hm.typeIs, F.args_dict_values_1 _, _, meets_dict_values (PySem.strKind prog w) d hdS, ⟨kvs, hm⟩, hQ⟩)

theorem SI.at {kvs : List (Str × Value)} {D : List (Str × Int)} (h : SI kvs D) : ∀ {i : Nat} {k : Str} {v : Value}, kvs[i]? = some (k, v) → ∃ t, v = .int ((D.map (·.2)).getD i 0) t := by
  induction h with
  | nil => intro i k v e; simp at e
  | cons _ ih =>
    rename_i x j t kvs D _
    intro i k v e
    cases i with
    | zero =>
      simp only [List.getElem?_cons_zero, Option.some.injEq, Prod.mk.injEq] at e
      obtain ⟨rfl, rfl⟩ := e
      exact ⟨t, rfl⟩
    | succ i =>
      rw [List.getElem?_cons_succ] at e
      obtain ⟨t', h1⟩ := ih e
      exact ⟨t', by simpa using h1⟩

/-- the greatest value of a table -/
theorem max_values {d v : Addr} {kvs : List (Str × Value)} {D : List (Str × Int)} {Q : Value → Shared → Prop} (hh : A.handled = none) (hm : s.heap.DictOf (PySem.strKind prog w) d kvs) (hs : SI kvs D) (h0 : D ≠ []) (hv : s.heap.IsValuesView v d)
    (h : ∀ M t h' tk, (∃ p ∈ D, p.2 = M) → (∀ p ∈ D, p.2 ≤ M) → (∀ b o, s.heap.get? b = some o → h'.get? b = some o) → Q (.int M t) { s with heap := h', toks := tk }) :
    wpAny (model prog w) A (call (.builtin "max") [.ref v]) Q E s := by
  obtain ⟨ep, hd⟩ := hm.dictAt
  have hlt : d < s.heap.objs.size := hd.lt_size
  have hlen : 0 < kvs.length := by rw [hs.length]; exact List.length_pos_iff.mpr h0
  refine call_max_walk (wpAny_pyIter_values (knd := PySem.strKind prog w) hv hd ?_)
  refine ⟨_, _, _, _, _, _, _, rfl, Walks.dictValues (knd := PySem.strKind prog w) (A := A.in1) hh s.heap.objs.size d (Nat.ne_of_lt hlt) kvs ep, ⟨⟨_, Heap.get?_push_size _ rfl, rfl, rfl⟩, hd.push _⟩, ?_, hlen,
    CmpOf.ints_gt (fun i => (D.map (·.2)).getD i 0) (fun i v ⟨k, e⟩ => hs.at e), fun vv h' tk hP hk => ?_⟩
  · intro b hb
    rw [Heap.size_push]
    rcases List.mem_cons.mp hb with rfl | hb
    · exact Nat.lt_succ_self _
    · rw [List.mem_singleton.mp hb]; exact Nat.lt_succ_of_lt hlt
  · obtain ⟨k, hget⟩ := hP
    obtain ⟨t, rfl⟩ := hs.at hget
    have hg := argBest_gt (fun i => (D.map (·.2)).getD i 0) (kvs.length - 1)
    refine h _ t h' tk ?_ ?_ fun b o e => hk b o (by simpa using Nat.ne_of_lt (Heap.lt_size e)) (Heap.get?_push_of_some _ e)
    · obtain ⟨j, t', h1, h2⟩ := hs.get hget
      refine ⟨_, h2, ?_⟩
      injection h1 with h1 _
      exact h1.symm
    · intro p hp
      obtain ⟨i, hi⟩ := List.getElem?_of_mem hp
      have hi' : i < D.length := (List.getElem?_eq_some_iff.mp hi).1
      have := hg.2 i (by rw [hs.length]; omega)
      refine Int.le_trans (Int.le_of_eq ?_) this
      simp [hi]

/-- one text of the comprehension -/
theorem joined_int {x : Str} {lp np vp rp jp : Pos} {lk rk : Nat} {a b : Str} {i : Int} {t : Tok} {m : Str → Option Value} {Q : Value → Shared → Prop}
    (hk : env.scope.kind = .function) (hl : env.kindOf x = some .local) (hn : s.heap.Ns env.locals m) (hv : m x = some (.int i t)) (hi : i.natAbs < 10 ^ 5) (ha : a.length ≤ 10) (hb : b.length ≤ 10) (hd : (x == Str.ofString "__debug__") = false)
    (h : ∀ y tk u, Q (.str y u) { s with toks := tk }) :
    wpAny (model prog w) A (eval (.JoinedStr [.Constant (.str a) lk lp, .FormattedValue (.Name x np) 114 none vp, .Constant (.str b) rk rp] jp) env) Q E s := by
  have hlog : i.natAbs.log2 < 1920 := by
    have : i.natAbs < 2 ^ 20 := Nat.lt_of_lt_of_le hi (by decide)
    rcases Nat.eq_zero_or_pos i.natAbs with h0 | h0
    · rw [h0]; decide
    · have := (Nat.log2_lt (Nat.ne_of_gt h0)).mpr this
      omega
  have hlen : (Str.ofString (toString i)).length ≤ 6 := by
    have := int_text_length_le10 (a := i) (k := 5) (by decide) hi
    rw [PySem.ofString_length]; exact this
  have hS := sizeLine_eq
  refine wpAny_JoinedStr ?_
  refine wpAny_Constant_str ⟨a, _, rfl, by rw [Str.empty_append]; rw [sizeLine_eq]; omega, ?_⟩
  refine wpAny_FormattedValue_repr (wpAny_Name (wpAny_loadName_local hk hl hn hv (pyReprObj_int hlog ?_)) hd)
  have h1 : ∀ (tk : Nat) (u : Tok), ∃ y t', (Value.str (Str.ofString (toString i)) u) = .str y t' ∧ (Str.empty ++ a ++ y).length ≤ sizeLine ∧ Joins (model prog w) A E (evalEach [.Constant (.str b) rk rp] env) (Str.empty ++ a ++ y)
      (fun out s₁ => out.length ≤ sizeLine ∧ Q (.str out s₁.toks) { s₁ with toks := s₁.toks + 1 }) { s with toks := tk } := by
    intro tk u
    refine ⟨_, _, rfl, by rw [Str.length_append, Str.empty_append]; omega, ?_⟩
    refine wpAny_Constant_str ⟨b, _, rfl, by rw [Str.length_append, Str.length_append, Str.empty_append]; omega, ?_⟩
    exact ⟨by rw [Str.length_append, Str.length_append, Str.empty_append]; omega, h _ _ _⟩
  exact wpAny_formatField_str (h1 _ _) (h1 _ _) (by omega)

theorem Paired.length_eq {α β : Type} {F : α → β → Prop} {a : List α} {b : List β} (h : Paired F a b) : a.length = b.length := by
  induction h with
  | nil => rfl
  | cons _ _ ih => simp [ih]

theorem range_then {n : Nat} {t : Tok} {Q : Value → Shared → Prop}
    (h : ∀ s₁ r u v, (∃ h' tk, s₁ = { s with heap := h', toks := tk }) → (∀ b o, s.heap.get? b = some o → s₁.heap.get? b = some o) → IsRange s₁.heap r 0 n 1 u t v → Q (.ref r) s₁) :
    wpAny (model prog w) A (call (.type "range") [.int n t]) Q E s :=
  call_range_1 (h _ _ _ _ ⟨_, _, rfl⟩ (fun _ _ e => Heap.get?_push_of_some _ e) (Heap.get?_push_size _ rfl))

theorem iter_then {n : Nat} {r : Addr} {t u v : Tok} {Q : Value → Shared → Prop} (hn : n ≤ 2000) (hr : IsRange s.heap r 0 n 1 t u v)
    (h : ∀ s₁ I, (∃ h', s₁ = { s with heap := h' }) → (∀ b o, s.heap.get? b = some o → s₁.heap.get? b = some o) → s.heap.objs.size ≤ I → I < s₁.heap.objs.size → IsRangeIter s₁.heap I (0 + (0 : Nat) * 1) ((n : Int) - (0 : Nat)) 1 → Q (.ref I) s₁) :
    wpAny (model prog w) A (pyIter (.ref r)) Q E s := by
  obtain ⟨sm, rs⟩ := small_of hn
  refine wpAny_pyIter_range hr sm (h _ _ ⟨_, rfl⟩ (fun _ _ e => Heap.get?_push_of_some _ e) (Nat.le_refl _) (by rw [Heap.size_push]; exact Nat.lt_succ_self _) ?_)
  show IsRangeIter _ _ _ _ _
  rw [rs]
  simpa using Heap.get?_push_size _ rfl

/-- statement 3: the list of texts -/
theorem st_comp {x xo xd : Str} {p pe1 pe2 pe3 pe4 pe5 px pn1 pn2 pn3 apos cpos pm pc pb pr lpos pos : Pos} {k1 k2 k3 d : Nat} {a b : Str} {scope : Scope} {kvs : List (Str × Value)} {D : List (Str × Int)} {mb : Str → Option Value} {Q : Flow → Shared → Prop}
    (X : TS h₁ s.heap mg) (hk : prog.main.scope.kind = .module) (hh : A.handled = none) (hl : prog.main.scope.names.lookup x = some .local) (hu : x ∉ used) (hd : mg xd = some (.ref d)) (hdb : (xd == Str.ofString "__debug__") = false ∧ (xo == Str.ofString "__debug__") = false)
    (hg : ∃ o, h₁.get? mainGlobals = some o) (hsy : ∃ o, h₁.get? sysModules = some o) (hd1 : h₁.get? d = none) (hb : h₁.Ns builtinsNs mb) (hmax : mb "max" = some (.builtin "max")) (hran : mb "range" = some (.type "range"))
    (hD : s.heap.DictOf (PySem.strKind prog w) d kvs) (hs : SI kvs D) (h0 : D ≠ []) (hr : ∀ p ∈ D, 0 ≤ p.2 ∧ p.2 < 1000) (ha : a.length ≤ 10) (hbl : b.length ≤ 10)
    (hline : (apos.endLine == cpos.line) = true)
    (hfree : ∀ y ∈ scope.names, y.2 ≠ .free) (hcell : ∀ y ∈ scope.names, y.2 ≠ .cell) (hkind : scope.kind = .function)
    (hnames : ∀ y ∈ scope.names, y.2 = .local → scope.names.lookup y.1 = some .local) (hx : scope.names.lookup xo = some .local)
    (hsw : swapsWith (.ListComp (.JoinedStr [.Constant (.str a) k1 pe1, .FormattedValue (.Name xo pe2) 114 none pe3, .Constant (.str b) k2 pe4] pe5) [⟨.Name xo px, .Call (.Name "range" pn1) [.BinOp (.Call (.Name "max" pn2) [.Call (.Attribute (.Name xd pn3) "values" apos) [] [] cpos] [] pm) .Add (.Constant (.int 1) k3 pc) pb] [] pr, [], 0⟩] scope lpos) (some (.Name x p)) pos.line (mainEnv prog c F) = pure false)
    (h : ∀ h' tk l items, TS h₁ h' (bnd mg x (.ref l)) → s.heap.get? l = none → h'.IsList l items → (∀ p ∈ D, p.2 < (items.size : Int)) → items.size ≤ 2000 → (∀ b o, b ≠ mainGlobals → s.heap.get? b = some o → h'.get? b = some o) → Q .next { s with heap := h', toks := tk }) :
    wpAny (model prog w) A (exec (.Assign [.Name x p] (.ListComp (.JoinedStr [.Constant (.str a) k1 pe1, .FormattedValue (.Name xo pe2) 114 none pe3, .Constant (.str b) k2 pe4] pe5) [⟨.Name xo px, .Call (.Name "range" pn1) [.BinOp (.Call (.Name "max" pn2) [.Call (.Attribute (.Name xd pn3) "values" apos) [] [] cpos] [] pm) .Add (.Constant (.int 1) k3 pc) pb] [] pr, [], 0⟩] scope lpos) pos) (mainEnv prog c F)) Q E s := by
  have hdS : (d == sysModules) = false := beq_eq_false_iff_ne.mpr (Ne.symm (ne_new hsy.choose_spec hd1))
  have hmg : mainGlobals < s.heap.objs.size := X.ns.lt
  refine ts_assign (h₁ := h₁) hk hl hu hsw (wpAny_ListComp_walk (fun _ => true) (fun _ _ => True) hfree hcell hkind hnames hx ?_ (fun _ => rfl))
  refine Call_Name1 (ts_builtin X hk (by decide) hb hran (PySem.callWith_type1 (wpAny_BinOp ?_)) rfl) rfl
  refine Call_Name1 (ts_builtin X hk (by decide) hb hmax (PySem.callWith_builtin1 (call_values hdS hD rfl hline (fun Q' hq => ts_load X hk hd hq hdb.1) ?_)) rfl) rfl
  refine max_values (kvs := kvs) (D := D) (d := d) hh (hD.push _) hs h0 ⟨_, Heap.get?_push_size _ rfl, rfl, rfl⟩ fun M t h' tk ⟨pM, hM, eM⟩ hle keep => ?_
  have hM0 := hr pM hM
  rw [eM] at hM0
  obtain ⟨n, hn⟩ : ∃ n : Nat, M + 1 = (n : Int) := ⟨(M + 1).toNat, by omega⟩
  have hn2 : n ≤ 2000 := by omega
  refine wpAny_Constant_int (add_int ?_)
  rw [hn]
  refine range_then fun s₁ r u v ⟨h₂, tk₂, e₂⟩ keep₂ hr₂ => iter_then hn2 hr₂ fun s₂ I ⟨h₃, e₃⟩ keep₃ hI hI2 hit => ?_
  have keepA : ∀ b o, s.heap.get? b = some o → s₂.heap.get? b = some o := fun b o e => keep₃ b o (keep₂ b o (keep b o (Heap.get?_push_of_some _ e)))
  have hbI : ∀ b o, s.heap.get? b = some o → b ≠ I := fun b o e => Nat.ne_of_lt (Nat.lt_of_lt_of_le (Heap.lt_size (keep₂ b o (keep b o (Heap.get?_push_of_some _ e)))) hI)
  have hsame : ∃ h' tk, s₂ = { s with heap := h', toks := tk } := ⟨h₃, tk₂, by subst e₃ e₂; rfl⟩
  clear e₂ e₃ keep₂ keep₃ keep hr₂
  obtain ⟨h₄, tk₄, rfl⟩ := hsame
  refine ⟨I, [I], [I], n, _, _, rfl, (Walks.range hh I 0 1 n).bound, by rw [sizeLine_eq]; omega, hit, ?_, ⟨?_, ?_⟩, ?_⟩
  · intro b hb
    rw [List.mem_singleton.mp hb]
    exact hI2
  · intro C i v s₃ m₃ E' hv hns hm hkk htk
    rw [List.forIn_nil]
    exact wpAny_pure ⟨rfl, s₃.heap, s₃.toks, rfl, fun _ _ e => e⟩
  · intro C i v s₃ m₃ E' hv hp hns hm hkk htk
    obtain ⟨hi, t, rfl⟩ := hv
    exact joined_int (env := compEnv scope C (mainEnv prog c F)) hkind hx hns hm (by omega) ha hbl hdb.2 fun y tk u => ⟨trivial, s₃.heap, tk, rfl, fun _ _ e => e⟩
  · intro L h'' tk' ys vs hL hl' hpl hlen hP hF hkp
    have kk : ∀ b o, s.heap.get? b = some o → h''.get? b = some o := fun b o e => hkp b o (by simpa using hbI b o e) (keepA b o e)
    have hLs : s.heap.get? L = none := by
      cases e : s.heap.get? L with
      | none => rfl
      | some o => rw [keepA _ _ e] at hL; cases hL
    have hsz : ys.size = n := by
      have := Paired.length_eq hF
      rw [List.filter_eq_self.mpr (fun _ _ => rfl), hlen] at this
      simpa using this.symm
    refine ⟨mg, X.grown kk, fun h₅ tk₅ X₅ sb₅ => ?_⟩
    obtain ⟨og, _, _, hog, _⟩ := id X.ns
    exact h h₅ tk₅ L ys X₅ hLs (hl'.extBut sb₅.extBut (Ne.symm (ne_new hog hLs))) (fun p hp => by have := hle p hp; omega) (by omega) fun b o hb e => (sb₅.2 b hb).trans (kk b o e)
end
end Mine
end

section
open PySem PySem.W PyProof.Rows PySem.Calls
namespace Mine
section
variable {prog : Program} {w : World} {A : Around} {E : Value → Shared → Prop} {c F : Addr} {h₁ : Heap} {mg : Str → Option Value} {s : Shared}

theorem TS.fresh {h : Heap} {a : Addr} (X : TS h₁ h mg) (ha : h.get? a = none) : h₁.get? a = none := by
  cases e : h₁.get? a with
  | none => rfl
  | some o =>
    exfalso
    by_cases hm : a = mainGlobals
    · obtain ⟨og, _, _, hog, _⟩ := id X.ns
      rw [hm, hog] at ha
      cases ha
    · rw [X.keep a o hm e] at ha
      cases ha
theorem TS.not_main {h : Heap} {a : Addr} (X : TS h₁ h mg) (ha : h.get? a = none) : a ≠ mainGlobals := by
  obtain ⟨og, _, _, hog, _⟩ := id X.ns
  exact Ne.symm (ne_new hog ha)
theorem dict_at {h h' : Heap} {d : Addr} {kvs : List (Str × Value)} (x : h.DictOf (PySem.strKind prog w) d kvs) (k : ∀ o, h.get? d = some o → h'.get? d = some o) : h'.DictOf (PySem.strKind prog w) d kvs :=
  let ⟨o, es, ep, e, r⟩ := x
  ⟨o, es, ep, k o e, r⟩
theorem dict_ne {h : Heap} {d a : Addr} {kvs : List (Str × Value)} (x : h.DictOf (PySem.strKind prog w) d kvs) (n : h.get? a = none) : d ≠ a :=
  let ⟨_, _, _, e, _⟩ := x
  ne_new e n
theorem list_ne {h : Heap} {d a : Addr} {its : Array Value} (x : h.IsList d its) (n : h.get? a = none) : d ≠ a :=
  let ⟨_, e, _⟩ := x
  ne_new e n

theorem st_listcopy {x xl : Str} {p p1 p2 p3 pos : Pos} {l : Addr} {items : Array Value} {mb : Str → Option Value} {Q : Flow → Shared → Prop} (X : TS h₁ s.heap mg) (hk : prog.main.scope.kind = .module)
    (hl : prog.main.scope.names.lookup x = some .local) (hu : x ∉ used) (hv : mg xl = some (.ref l)) (hdb : (xl == Str.ofString "__debug__") = false) (hb : h₁.Ns builtinsNs mb) (hlist : mb "list" = some (.type "list"))
    (hL : s.heap.IsList l items) (hsz : items.size ≤ sizeLine)
    (h : ∀ h' tk l', TS h₁ h' (bnd mg x (.ref l')) → s.heap.get? l' = none → h'.IsList l' items → (∀ b o, b ≠ mainGlobals → s.heap.get? b = some o → h'.get? b = some o) → Q .next { s with heap := h', toks := tk }) :
    wpAny (model prog w) A (exec (.Assign [.Name x p] (.Call (.Name "list" p1) [.Name xl p2] [] p3) pos) (mainEnv prog c F)) Q E s := by
  obtain ⟨o, ho, hc, n, hd⟩ := id hL
  obtain ⟨og, _, _, hog, _⟩ := id X.ns
  have hnew : s.heap.get? s.heap.objs.size = none := new_of (Nat.le_refl _)
  refine ts_assign (h₁ := h₁) hk hl hu rfl (Call_Name1 (ts_builtin X hk (by decide) hb hlist (PySem.callWith_type1 (ts_load X hk hv ?_ hdb)) rfl) rfl)
  refine call_list_seq (T := "list") (n := n) l (.inl rfl) ho hc hd (fun h' c' keep hnw => ⟨mg, X.grown keep, fun h'' tk X' sb => ?_⟩) hsz
  exact h h'' tk _ X' hnew (Heap.IsList.extBut (b := mainGlobals) ⟨_, hnw, rfl, c', rfl⟩ sb.extBut (Ne.symm (ne_new hog hnew))) fun b o hb e => (sb.2 b hb).trans (keep b o e)

theorem st_dictcopy {x xd : Str} {p p1 p2 p3 pos : Pos} {d : Addr} {kvs : List (Str × Value)} {mb : Str → Option Value} {Q : Flow → Shared → Prop} (X : TS h₁ s.heap mg) (hk : prog.main.scope.kind = .module)
    (hl : prog.main.scope.names.lookup x = some .local) (hu : x ∉ used) (hv : mg xd = some (.ref d)) (hdb : (xd == Str.ofString "__debug__") = false) (hb : h₁.Ns builtinsNs mb) (hdict : mb "dict" = some (.type "dict"))
    (hdS : (d == sysModules) = false) (hD : s.heap.DictOf (PySem.strKind prog w) d kvs) (hsz : kvs.length ≤ sizeLine)
    (h : ∀ h' tk d', TS h₁ h' (bnd mg x (.ref d')) → s.heap.get? d' = none → h'.DictOf (PySem.strKind prog w) d' kvs → (∀ b o, b ≠ mainGlobals → s.heap.get? b = some o → h'.get? b = some o) → Q .next { s with heap := h', toks := tk }) :
    wpAny (model prog w) A (exec (.Assign [.Name x p] (.Call (.Name "dict" p1) [.Name xd p2] [] p3) pos) (mainEnv prog c F)) Q E s := by
  obtain ⟨og, _, _, hog, _⟩ := id X.ns
  have hnew : s.heap.get? s.heap.objs.size = none := new_of (Nat.le_refl _)
  refine ts_assign (h₁ := h₁) hk hl hu rfl (Call_Name1 (ts_builtin X hk (by decide) hb hdict (PySem.callWith_type1 (ts_load X hk hv ?_ hdb)) rfl) rfl)
  refine kt_call_dict (knd := PySem.strKind prog w) hdS hD hsz fun h' hm sb₀ => ?_
  have keep : ∀ b o, s.heap.get? b = some o → h'.get? b = some o := fun b o e => (sb₀.2 b (Nat.ne_of_lt (Heap.lt_size e))).trans (Heap.get?_push_of_some _ e)
  refine ⟨mg, X.grown keep, fun h'' tk X' sb => ?_⟩
  exact h h'' tk _ X' hnew (hm.sameBut sb (Ne.symm (ne_new hog hnew))) fun b o hb e => (sb.2 b hb).trans (keep b o e)

def okSI (D : List (Str × Int)) : Bool := !D.isEmpty && decide ((D.map (·.1)).Nodup) && decide (D.length ≤ 1000) && D.all fun p => decide (0 ≤ p.2) && decide (p.2 < 1000)

theorem okSI_spec {D : List (Str × Int)} (h : okSI D = true) : D ≠ [] ∧ (D.map (·.1)).Nodup ∧ D.length ≤ 1000 ∧ ∀ p ∈ D, 0 ≤ p.2 ∧ p.2 < 1000 := by
  unfold okSI at h
  simp only [Bool.and_eq_true, Bool.not_eq_true', List.isEmpty_eq_false_iff, decide_eq_true_eq, List.all_eq_true] at h
  exact ⟨h.1.1.1, h.1.1.2, h.1.2, h.2⟩

def kOf (x : Str) (ns : List (Str × NameKind)) : Bool := decide (ns.lookup x = some .local)
def topNames : List Str := ["_specialized_opmap", "opmap", "__name__", "opname", "op_opcode", "i", "op_dis", "_all_opname", "_all_opmap", "name"]
/-- what the texts' own data must answer -/
def okTop (D₀ D₁ : List (Str × Int)) (ns : List (Str × NameKind)) (sc : Scope) (a b : Str) : Bool :=
  okSI D₀ && okSI D₁ && (D₀.all fun p => D₁.any fun q => decide (p.2 ≤ q.2)) && (topNames.all fun x => kOf x ns) && decide (a.length ≤ 10) && decide (b.length ≤ 10) &&
  (sc.names.all fun y => y.2 == .local && decide (sc.names.lookup y.1 = some .local)) && (sc.kind == .function) && decide (sc.names.lookup ("op" : Str) = some .local)

theorem top10 {D₀ D₁ : List (Str × Int)} {ks₀ ks₁ : List (Option Expr)} {vs₀ vs₁ : List Expr} {nm₁ nm₂ a b : Str} {sc : Scope} {rest : List Stmt}
    {k1 k2 k3 k4 k5 x1 x2 : Nat} {mb : Str → Option Value} {Q : Flow → Shared → Prop}
    {p01 p02 p03 p11 p12 p13 p21 p22 p23 p31 p32 p33 p34 p35 p36 p37 p38 p39 pa0 pa1 pa2 pa3 pa4 pa5 pa6 pa7 p41 p42 p43 p44 p45 p46 p47 p48 p49 p40 p4a p51 p52 p53 p61 p62 p63 p71 p72 p73 p74 p75 p81 p82 p83 p84 p85
     p91 p92 p93 p94 p95 p96 p97 q91 q92 q93 q94 q95 q96 r91 r92 r93 r94 r95 t91 t92 t93 t94 t95 t96 t97 : Pos}
    (ok : okTop D₀ D₁ prog.main.scope.names sc a b = true) (hD₀ : litSI ks₀ vs₀ = some D₀) (hD₁ : litSI ks₁ vs₁ = some D₁)
    (X : TS h₁ s.heap mg) (hs₁ : ∀ b o, h₁.get? b = some o → s.heap.get? b = some o) (hk : prog.main.scope.kind = .module) (hh : A.handled = none)
    (hg : ∃ o, h₁.get? mainGlobals = some o) (hsy : ∃ o, h₁.get? sysModules = some o) (hb : h₁.Ns builtinsNs mb)
    (bmax : mb "max" = some (.builtin "max")) (bran : mb "range" = some (.type "range")) (blist : mb "list" = some (.type "list")) (bdict : mb "dict" = some (.type "dict")) (blen : mb "len" = some (.builtin "len"))
    (l1 : (p37.endLine == p38.line) = true) (l2 : (p45.endLine == p46.line) = true) (l3 : (p95.endLine == p96.line) = true)
    (hsw0 : swapsWith (.Dict ks₀ vs₀ p02) (some (.Name "_specialized_opmap" p01)) p03.line (mainEnv prog c F) = pure false)
    (hsw1 : swapsWith (.Dict ks₁ vs₁ p12) (some (.Name "opmap" p11)) p13.line (mainEnv prog c F) = pure false)
    (hsw3 : swapsWith (.ListComp (.JoinedStr [.Constant (.str a) k1 p31, .FormattedValue (.Name "op" p32) 114 none p33, .Constant (.str b) k2 p34] p35) [⟨.Name "op" p36, .Call (.Name "range" pa1) [.BinOp (.Call (.Name "max" pa2) [.Call (.Attribute (.Name "opmap" pa3) "values" p37) [] [] p38] [] p39) .Add (.Constant (.int 1) k3 pa0) pa4] [] pa5, [], 0⟩] sc pa6) (some (.Name "opname" pa7)) p4a.line (mainEnv prog c F) = pure false)
    (h : ∀ h' tk mg', TS h₁ h' mg' → (∀ y, y ∉ topNames → mg' y = mg y) → wpAny (model prog w) A (execs rest (mainEnv prog c F)) Q (fun _ _ => False) { s with heap := h', toks := tk }) :
    wpAny (model prog w) A (execs (
      .Assign [.Name "_specialized_opmap" p01] (.Dict ks₀ vs₀ p02) p03 ::
      .Assign [.Name "opmap" p11] (.Dict ks₁ vs₁ p12) p13 ::
      .Assign [.Name "__name__" p21] (.Constant (.str nm₁) k4 p22) p23 ::
      .Assign [.Name "opname" pa7] (.ListComp (.JoinedStr [.Constant (.str a) k1 p31, .FormattedValue (.Name "op" p32) 114 none p33, .Constant (.str b) k2 p34] p35) [⟨.Name "op" p36, .Call (.Name "range" pa1) [.BinOp (.Call (.Name "max" pa2) [.Call (.Attribute (.Name "opmap" pa3) "values" p37) [] [] p38] [] p39) .Add (.Constant (.int 1) k3 pa0) pa4] [] pa5, [], 0⟩] sc pa6) p4a ::
      .For (.Tuple [.Name "op_opcode" p41, .Name "i" p42] x1 p43) (.Call (.Attribute (.Name "opmap" p44) "items" p45) [] [] p46) [.Assign [.Subscript (.Name "opname" p47) (.Name "i" p48) p49] (.Name "op_opcode" p40) p51] [] p52 ::
      .Assign [.Name "__name__" p53] (.Constant (.str nm₂) k5 p61) p62 ::
      .Assign [.Name "op_dis" p63] (.Name "op_opcode" p71) p72 ::
      .Assign [.Name "_all_opname" p73] (.Call (.Name "list" p74) [.Name "opname" p75] [] p81) p82 ::
      .Assign [.Name "_all_opmap" p83] (.Call (.Name "dict" p84) [.Name "opmap" p85] [] p91) p92 ::
      .For (.Tuple [.Name "name" p93, .Name "op_dis" p94] x2 p97) (.Call (.Attribute (.Name "_specialized_opmap" q91) "items" p95) [] [] p96)
        [.Assert (.Compare (.Name "op_dis" q92) [.Lt] [.Call (.Name "len" q93) [.Name "_all_opname" q94] [] q95] q96) none r91,
         .Assign [.Subscript (.Name "_all_opname" r92) (.Name "op_dis" r93) r94] (.Name "name" r95) t91,
         .Assign [.Subscript (.Name "_all_opmap" t92) (.Name "name" t93) t94] (.Name "op_dis" t95) t96] [] t97 :: rest) (mainEnv prog c F)) Q (fun _ _ => False) s := by
  unfold okTop at ok
  simp only [Bool.and_eq_true, decide_eq_true_eq, List.all_eq_true, List.any_eq_true, beq_iff_eq] at ok
  obtain ⟨⟨⟨⟨⟨⟨⟨⟨ok0, ok1⟩, okle⟩, oknm⟩, oka⟩, okb⟩, oksc⟩, okk⟩, okop⟩ := ok
  obtain ⟨z0, n0, len0, r0⟩ := okSI_spec ok0
  obtain ⟨z1, n1, len1, r1⟩ := okSI_spec ok1
  have loc : ∀ x ∈ topNames, prog.main.scope.names.lookup x = some .local := fun x hx => of_decide_eq_true (oknm x hx)
  have nd : ∀ (x : Str), x ∈ topNames → (x == Str.ofString "__debug__") = false := by decide
  have hgs : mainGlobals < s.heap.objs.size := X.ns.lt
  -- 0
  refine wpAny_execs_cons (st_dict X hk (loc _ (by decide)) (by decide) hgs hD₀ z0 n0 len0 hsw0 fun h₂ tk₂ d₀ kvs₀ X₂ hd₀ hD₀' hs₀ keep₂ => ?_)
  -- 1
  refine wpAny_execs_cons (st_dict (s := { s with heap := h₂, toks := tk₂ }) X₂ hk (loc _ (by decide)) (by decide) X₂.ns.lt hD₁ z1 n1 len1 hsw1 fun h₃ tk₃ d₁ kvs₁ X₃ hd₁ hD₁' hs₁' keep₃ => ?_)
  have e20 : d₀ ≠ mainGlobals := X.not_main (new_of hd₀)
  have e31 : d₁ ≠ mainGlobals := X₂.not_main (new_of hd₁)
  have f0 : h₁.get? d₀ = none := X.fresh (new_of hd₀)
  have f1 : h₁.get? d₁ = none := X₂.fresh (new_of hd₁)
  have D03 : h₃.DictOf (PySem.strKind prog w) d₀ kvs₀ := dict_at hD₀' fun o e => keep₃ _ o e20 e
  have v30 : bnd (bnd mg "_specialized_opmap" (.ref d₀)) "opmap" (.ref d₁) "_specialized_opmap" = some (.ref d₀) := by rw [bnd_ne (by decide), bnd_same]
  -- 2
  refine wpAny_execs_cons (st_const (s := { s with heap := h₃, toks := tk₃ }) X₃ hk (loc _ (by decide)) (by decide) fun h₄ tk₄ t₄ X₄ keep₄ => ?_)
  have D04 : h₄.DictOf (PySem.strKind prog w) d₀ kvs₀ := dict_at D03 fun o e => keep₄ _ o e20 e
  have D14 : h₄.DictOf (PySem.strKind prog w) d₁ kvs₁ := dict_at hD₁' fun o e => keep₄ _ o e31 e
  -- 3
  refine wpAny_execs_cons (st_comp (s := { s with heap := h₄, toks := tk₄ }) (D := D₁) X₄ hk hh (loc _ (by decide)) (by decide) (by rw [bnd_ne (by decide), bnd_same]) ⟨rfl, rfl⟩ hg hsy f1 hb bmax bran D14 hs₁' z1 r1 oka okb l1
    (fun y hy e => by have := (oksc y hy).1; rw [e] at this; cases this) (fun y hy e => by have := (oksc y hy).1; rw [e] at this; cases this) okk (fun y hy _ => (oksc y hy).2) okop hsw3 fun h₅ tk₅ l items X₅ hl hL hgt hsz keep₅ => ?_)
  have el : l ≠ mainGlobals := X₄.not_main hl
  have D05 : h₅.DictOf (PySem.strKind prog w) d₀ kvs₀ := dict_at D04 fun o e => keep₅ _ o e20 e
  have D15 : h₅.DictOf (PySem.strKind prog w) d₁ kvs₁ := dict_at D14 fun o e => keep₅ _ o e31 e
  have fl : h₁.get? l = none := X₄.fresh hl
  have n0l : d₀ ≠ l := dict_ne D04 hl
  have n1l : d₁ ≠ l := dict_ne D14 hl
  -- 4
  refine wpAny_execs_cons (st_for1 (s := { s with heap := h₅, toks := tk₅ }) (D := D₁) X₅ hk hh (loc _ (by decide)) (loc _ (by decide)) (by decide) (by decide) (by decide) ⟨rfl, rfl, rfl, rfl⟩
    (by rw [bnd_ne (by decide), bnd_ne (by decide), bnd_same]) bnd_same n1l hg hsy f1 fl D15 hs₁' z1 hL (fun p hp => ⟨(r1 p hp).1, hgt p hp⟩) (by omega) l2 fun h₆ tk₆ mg₆ items₆ X₆ a6 ⟨v6, hv6⟩ hL₆ hsz₆ keep₆ => ?_)
  have D06 : h₆.DictOf (PySem.strKind prog w) d₀ kvs₀ := dict_at D05 fun o e => keep₆ _ o e20 n0l e
  have D16 : h₆.DictOf (PySem.strKind prog w) d₁ kvs₁ := dict_at D15 fun o e => keep₆ _ o e31 n1l e
  -- 5
  refine wpAny_execs_cons (st_const (s := { s with heap := h₆, toks := tk₆ }) X₆ hk (loc _ (by decide)) (by decide) fun h₇ tk₇ t₇ X₇ keep₇ => ?_)
  -- 6
  refine wpAny_execs_cons (st_copyname (s := { s with heap := h₇, toks := tk₇ }) X₇ hk (loc _ (by decide)) (by decide) (by rw [bnd_ne (by decide)]; exact hv6) rfl fun h₈ tk₈ X₈ keep₈ => ?_)
  have D08 : h₈.DictOf (PySem.strKind prog w) d₀ kvs₀ := dict_at D06 fun o e => keep₈ _ o e20 (keep₇ _ o e20 e)
  have D18 : h₈.DictOf (PySem.strKind prog w) d₁ kvs₁ := dict_at D16 fun o e => keep₈ _ o e31 (keep₇ _ o e31 e)
  have hL₈ : h₈.IsList l items₆ := hL₆.at fun o e => keep₈ _ o el (keep₇ _ o el e)
  -- 7
  refine wpAny_execs_cons (st_listcopy (s := { s with heap := h₈, toks := tk₈ }) (l := l) X₈ hk (loc _ (by decide)) (by decide) (by rw [bnd_ne (by decide), bnd_ne (by decide), a6 _ (by decide) (by decide), bnd_same]) rfl hb blist hL₈ (by rw [sizeLine_eq]; omega) fun h₉ tk₉ l' X₉ hl' hL₉ keep₉ => ?_)
  have el' : l' ≠ mainGlobals := X₈.not_main hl'
  have fl' : h₁.get? l' = none := X₈.fresh hl'
  have D09 : h₉.DictOf (PySem.strKind prog w) d₀ kvs₀ := dict_at D08 fun o e => keep₉ _ o e20 e
  have D19 : h₉.DictOf (PySem.strKind prog w) d₁ kvs₁ := dict_at D18 fun o e => keep₉ _ o e31 e
  have n0l' : d₀ ≠ l' := dict_ne D08 hl'
  -- 8
  refine wpAny_execs_cons (st_dictcopy (s := { s with heap := h₉, toks := tk₉ }) (d := d₁) X₉ hk (loc _ (by decide)) (by decide) (by rw [bnd_ne (by decide), bnd_ne (by decide), bnd_ne (by decide), a6 _ (by decide) (by decide), bnd_ne (by decide), bnd_ne (by decide), bnd_same]) rfl hb bdict
    (beq_eq_false_iff_ne.mpr (Ne.symm (ne_new hsy.choose_spec f1))) D19 (by rw [sizeLine_eq, hs₁'.length]; omega) fun hA tkA d' XA hd' hDA keepA => ?_)
  have ed' : d' ≠ mainGlobals := X₉.not_main hd'
  have fd' : h₁.get? d' = none := X₉.fresh hd'
  have D0A : hA.DictOf (PySem.strKind prog w) d₀ kvs₀ := dict_at D09 fun o e => keepA _ o e20 e
  have hLA : hA.IsList l' items₆ := hL₉.at fun o e => keepA _ o el' e
  have n0d' : d₀ ≠ d' := dict_ne D09 hd'
  have nl'd' : l' ≠ d' := list_ne hL₉ hd'
  -- 9
  refine wpAny_execs_cons (st_for2 (s := { s with heap := hA, toks := tkA }) (D := D₀) XA hk hh (loc _ (by decide)) (loc _ (by decide)) (by decide) (by decide) (by decide) ⟨rfl, rfl, rfl, rfl, rfl⟩ hb blen
    (by rw [bnd_ne (by decide), bnd_ne (by decide), bnd_ne (by decide), bnd_ne (by decide), a6 _ (by decide) (by decide), bnd_ne (by decide), bnd_ne (by decide), bnd_ne (by decide), bnd_same])
    (by rw [bnd_ne (by decide), bnd_same]) bnd_same n0l' n0d' nl'd' hg hsy f0 fl' fd' D0A hs₀ hDA (by rw [hs₁'.length]; omega) len0 hLA (fun p hp => ⟨(r0 p hp).1, ?_⟩) (by omega) l3 fun hB tkB mgB XB aB keepB => ?_)
  · obtain ⟨q, hq, hle⟩ := okle p hp
    have := hgt q hq
    rw [hsz₆]
    omega
  · refine h hB tkB mgB XB fun y hy => ?_
    have ny : ∀ x ∈ topNames, y ≠ x := fun x hx e => hy (e ▸ hx)
    rw [aB y (ny _ (by decide)) (ny _ (by decide)), bnd_ne (ny _ (by decide)), bnd_ne (ny _ (by decide)), bnd_ne (ny _ (by decide)), bnd_ne (ny _ (by decide)), a6 y (ny _ (by decide)) (ny _ (by decide)), bnd_ne (ny _ (by decide)), bnd_ne (ny _ (by decide)), bnd_ne (ny _ (by decide)), bnd_ne (ny _ (by decide))]
end
end Mine
end

section
open PySem PySem.W PyProof.Rows PySem.Calls
namespace Mine
section
variable {prog : Program} {w : World}

theorem boot_ready (hbody : (opening prog).main.body = []) (hmore : (opening prog).main.more = []) : (∃ s, AfterImport (opening prog) w s) ∧ ∀ s, AfterImport (opening prog) w s → Ready [] [] [] [] s :=
  AfterImport.of_body (body_ok_of (by rw [hbody]; rfl) (by rw [hbody]; rfl) fun s mg c Pl F A Q X k => by
    rw [hbody]
    exact wpAny_execs_nil (k s.heap mg #[] s.toks X)) hmore

/-- the top's run, told by its body's walk -/
theorem top_ran {s₀ : Shared} {mg : Str → Option Value} {R : Heap → Prop} (hz : s₀.asleep) (hgens : s₀.gens = #[]) (hann : hasAnns (behindTheImports prog) = false) (hdoc : docOf (behindTheImports prog) = none)
    (hns : s₀.heap.Ns mainGlobals mg)
    (walk : ∀ s c Pl F A, (∃ h' tk, s = { s₀ with heap := h', toks := tk }) → (∀ b o, s₀.heap.get? b = some o → s.heap.get? b = some o) → s₀.heap.objs.size ≤ c → s₀.heap.objs.size ≤ Pl → s.heap.IsCode c Pl #[] → A.handled = none →
      wpAny (model prog w) A (execs (behindTheImports prog) (mainEnv prog c F)) (fun _ s' => (∃ h' tk, s' = { s with heap := h', toks := tk }) ∧ R s'.heap) (fun _ _ => False) s) :
    ∃ s₁, (∃ n t₁, schedN (denote table) prog w n (.single s₀ (topStub prog)) = .running (.single s₁ t₁) ∧ through t₁ = true) ∧ s₁.heap.life = s₀.heap.life ∧ (s₁.rest = s₀.rest ∧ R s₁.heap) ∧ s₁.gens = #[] := by
  refine stub_through (P := fun s₁ => s₁.rest = s₀.rest ∧ R s₁.heap) hz ?_
  refine wpAny_bind ?_
  unfold moduleCode
  refine wpAny_bind (wpAny_fresh (wpAny_newCodeX fun c Pl h₁ tk₁ keep₁ hc hP hcode htab hrec => ?_))
  refine wpAny_bind ?_
  unfold newBodyFrame
  refine wpAny_bind (wpAny_nsGet (hns.keeps keep₁) (wpAny_alloc ?_))
  refine wpAny_bind (wpAny_run (codeAny_body hann hdoc ?_))
  refine wpAny_mono (walk _ c Pl _ _ ⟨_, _, rfl⟩ (fun b o e => Heap.get?_push_of_some _ (keep₁ b o e)) hc hP (hcode.push _) rfl) ?_ (fun _ _ x => x.elim)
  rintro f s' ⟨⟨h', tk, rfl⟩, hR⟩
  exact wpAny_pure ⟨⟨_, rfl⟩, ⟨rfl, hR⟩, hgens⟩
end
end Mine
end

section
open PySem PySem.W PyProof.Rows PySem.Calls
namespace Mine

theorem globalOf_ns {h : Heap} {mg : Str → Option Value} (hn : h.Ns mainGlobals mg) (x : Str) : globalOf h x = mg x := by
  obtain ⟨o, es, ep, ho, hd, _, hm⟩ := hn
  unfold globalOf
  rw [show h.get? mainNs = some o from ho]
  dsimp only
  rw [hd]
  exact hm x
theorem builtinOf_ns {h : Heap} {mg : Str → Option Value} (hn : h.Ns builtinsNs mg) (x : Str) : builtinOf h x = mg x := by
  obtain ⟨o, es, ep, ho, hd, _, hm⟩ := hn
  unfold builtinOf
  rw [ho]
  dsimp only
  rw [hd]
  exact hm x
theorem staticOf_ns {h : Heap} {mg : Str → Option Value} (hn : h.Ns cStatics mg) (x : Str) : staticOf h x = mg x := by
  obtain ⟨o, es, ep, ho, hd, _, hm⟩ := hn
  unfold staticOf
  rw [ho]
  dsimp only
  rw [hd]
  exact hm x

/-- the body's walk, as the head asks for it -/
structure BodyWalk (prog : Program) (w : World) (defs : List DefItem) (objs : List (Str × (Obj → Prop))) (names : List Str) : Prop where
  run : ∀ (s : Shared) (mg mb : Str → Option Value) (c Pl F : Addr) (A : Around), s.heap.Main mg c Pl #[] → s.heap.Ns builtinsNs mb → (∀ x : Str, x ≠ "__name__" → mb x = bootBuiltins x) → (∀ x, x ∉ bootMainNames → mg x = none) →
    (∃ o, s.heap.get? sysModules = some o) → A.handled = none →
    wpAny (model prog w) A (execs (behindTheImports prog) (mainEnv prog c F)) (fun _ s' => ∃ h' tk mg' N, s' = { s with heap := h', toks := tk } ∧ h'.Ns mainGlobals mg' ∧ (∀ b o, b ≠ mainGlobals → b ≠ Pl → s.heap.get? b = some o → h'.get? b = some o) ∧
      (∀ x, x ∉ names → mg' x = mg x) ∧ (∀ d ∈ defs, d.Made N mg' h') ∧ (∀ p ∈ objs, ∃ a o, mainGlobals < a ∧ mg' p.1 = some (.ref a) ∧ h'.get? a = some o ∧ p.2 o)) (fun _ _ => False) s

theorem head_all {prog : Program} {defs : List DefItem} {objs : World → List (Str × (Obj → Prop))} {names : List Str}
    (h0 : (opening prog).main.body = []) (hmore : (opening prog).main.more = []) (hfence : ∀ s, fenceModules? prog s = some s)
    (hann : hasAnns (behindTheImports prog) = false) (hdoc : docOf (behindTheImports prog) = none)
    (hn1 : ∀ x ∈ names, x ∈ startupNames ∨ x ∈ prog.boundNames) (hn2 : ∀ x ∈ laidNames, x ∉ names) (hnb : ("__builtins__" : Str) ∉ names)
    (body : ∀ w, BodyWalk prog w defs (objs w) names) (w : World) :
    (∃ s, AfterRun (opening prog) w s) ∧ ∀ s, AfterRun (opening prog) w s → ∃ s₀, fenceModules? prog s = some s₀ ∧ s₀.gens = #[] ∧ ∃ s₁, TopRan prog w s₀ s₁ ∧ s₁.asleep ∧ s₁.gens = #[] ∧ sysModules < s₁.heap.objs.size ∧
      ∃ N mg mb, Glob N mg mb defs [] (objs w) names s₁.heap := by
  obtain ⟨e1, e2⟩ := boot_ready (w := w) h0 hmore
  refine ⟨e1, fun s hs => ⟨s, hfence s, ?_⟩⟩
  obtain ⟨N, mg, mb, hmg, hmb, hboot, hlim, hgens, _, _, hfree, hstat, _, _, hbm, hseer⟩ := e2 s hs
  refine ⟨hgens, ?_⟩
  have hz : s.asleep := AfterImport.life hs
  obtain ⟨mm, hmm, hpl⟩ := hseer.mods
  have hfree' : ∀ x, x ∉ bootMainNames → mg x = none := fun x hx => hfree x (by simp) hx
  obtain ⟨bm, ob, b1, b2, b3, b4, b5, b6⟩ := hbm
  have bG : bm ≠ mainGlobals := by
    rintro rfl
    obtain ⟨og, es, ep, hog, hd, _⟩ := id hmg
    rw [hog] at b3
    cases b3
    rw [hd] at b6
    cases b6
  obtain ⟨s₁, hrun, hlife, ⟨hrest, mg', N', r1, r2, r3, r4, r5⟩, hg⟩ := top_ran (prog := prog) (w := w) (s₀ := s) (mg := mg)
    (R := fun h' => ∃ mg' N, h'.Ns mainGlobals mg' ∧ (∀ b o, b ≠ mainGlobals → s.heap.get? b = some o → h'.get? b = some o) ∧
      (∀ x, x ∉ names → mg' x = mg x) ∧ (∀ d ∈ defs, d.Made N mg' h') ∧ (∀ p ∈ objs w, ∃ a o, mainGlobals < a ∧ mg' p.1 = some (.ref a) ∧ h'.get? a = some o ∧ p.2 o)) hz hgens hann hdoc hmg
    (fun s₂ c Pl F A ⟨h₂, tk₂, e⟩ keep hc hP hcode hA => by
      subst e
      refine wpAny_mono ((body w).run _ mg mb c Pl F A ⟨hmg.keeps keep, hcode, ⟨Nat.lt_of_lt_of_le hmg.lt hc, Nat.lt_of_lt_of_le hmg.lt hP⟩, ⟨bm, ob, b1, b2, bG, Nat.ne_of_lt (Nat.lt_of_lt_of_le (Heap.lt_size b3) hP), keep _ _ b3, b4, b5, b6⟩⟩
        (hmb.keeps keep) hboot hfree' (let ⟨o, _, _, e, _⟩ := hmm; ⟨o, keep _ _ e⟩) hA) ?_ fun _ _ x => x
      rintro f s' ⟨h', tk, mg', N, rfl, q1, q2, q3, q4, q5⟩
      exact ⟨⟨h', tk, rfl⟩, mg', N, q1, fun b o hb e => q2 b o hb (Nat.ne_of_lt (Nat.lt_of_lt_of_le (Heap.lt_size e) hP)) (keep b o e), q3, q4, q5⟩)
  have hmb' : s₁.heap.Ns builtinsNs mb := hmb.at fun o e => r2 _ o (by decide) e
  have hst' : s₁.heap.Ns cStatics (fun _ => none) := hstat.at fun o e => r2 _ o (by decide) e
  have hmm' : s₁.heap.Ns sysModules mm := hmm.at fun o e => r2 _ o (by decide) e
  have hbG : mg' "__builtins__" = some (.ref bm) := (r3 _ hnb).trans b1
  refine ⟨s₁, ⟨hrun, hlife, hrest, fun b o e hn => r2 b o (fun q => hn (.inl q)) e, ?_, ?_, ?_, ?_, ?_, ?_, ?_, ?_⟩, Shared.asleep_of_life hlife hz, hg, hmm'.lt, N', mg', mb, ?_⟩
  · intro key v hv
    rw [staticOf_ns hst'] at hv
    cases hv
  · intro key
    exact .inl ((staticOf_ns hst' key).trans (staticOf_ns hstat key).symm)
  · obtain ⟨o, es, ep, ho, hd, hk, _⟩ := r1
    exact ⟨o, es, ep, ho, hd, hk⟩
  · intro x hx
    exact (builtinOf_ns hmb' x).trans (hboot x hx)
  · exact ⟨bm, ob, (globalOf_ns r1 _).trans hbG, r2 _ _ bG b3, b4, b5⟩
  · intro g hgm
    rw [hg] at hgm
    simp at hgm
  · intro x v hv
    rw [globalOf_ns r1] at hv
    by_cases hx : x ∈ names
    · exact hn1 x hx
    · rw [r3 x hx] at hv
      by_cases hb : x ∈ bootMainNames
      · exact .inl hb
      · rw [hfree' x hb] at hv; cases hv
  · intro x hx
    rw [globalOf_ns r1, globalOf_ns hmg]
    exact r3 x (hn2 x hx)
  · exact ⟨r1, hmb', hboot, ⟨_, hst', rfl⟩, r4, (fun _ h => nomatch h), fun x hx hb => (r3 x hx).trans (hfree' x hb), ⟨_, hst', rfl⟩, r5,
      ⟨⟨_, hst', rfl, rfl⟩, ⟨mm, hmm', hpl⟩, ⟨mb, hmb', hboot⟩, ⟨mg', bm, ob, r1, hbG, r2 _ _ bG b3, b4, b5⟩⟩⟩
end Mine
end

section
open PySem PySem.W PyProof.Rows PySem.Calls
namespace Mine

theorem ints_of {R : WRecords} {cl : Str → Option Addr} {h : Heap} : ∀ {vs : List Value} {xs : List WData} {as : List Addr}, ReadsAllW R cl h vs xs as → WShape.hasItems R xs .int = true → ∃ ns, IntsAre vs ns ∧ ns.length = xs.length
  | _, _, _, .nil, _ => ⟨[], .nil, rfl⟩
  | _, x :: xs, _, .cons hr hrest, hi => by
    simp only [WShape.hasItems, Bool.and_eq_true] at hi
    obtain ⟨ns, h1, h2⟩ := ints_of hrest hi.2
    obtain ⟨i, rfl⟩ := hasW_int hi.1
    cases hr with
    | int _ t => exact ⟨i :: ns, .cons i t h1, by simp [h2]⟩

theorem script_of {l : OpenLaw} {h : Heap} {args : List WData} {vs : List Value} {as : List Addr} {cl : Str → Option Addr}
    (hm : l.most = some 63) (hpre : l.row.toRowW.claim.pre args = true) (hrd : ReadsAllW l.row.toRowW.records cl h vs args as) :
    ∃ a items ns, vs = [.ref a] ∧ h.IsList a (List.toArray items) ∧ IntsAre items ns ∧ ns.length ≤ 63 := by
  obtain ⟨h1, h2⟩ := pre_splitW hpre
  have h1' : WShape.hasAll l.row.toRowW.records args [.list .int] = true := h1
  obtain ⟨d, r, rfl, hd, hr⟩ := hasAllW_cons h1'
  obtain rfl := hasAllW_nil hr
  cases hrd with
  | cons hx hrest =>
    cases hrest
    obtain ⟨xs, rfl, hdi⟩ := hasW_list hd
    cases hx
    rename_i a o arr n as' ho hc hdat hall
    obtain ⟨ns, hn1, hn2⟩ := ints_of hall hdi
    refine ⟨a, arr.toList, ns, rfl, ⟨o, ho, hc, n, by simpa using hdat⟩, hn1, ?_⟩
    have h2' : l.pre.holds l.row.toRowW.records { args := [.list xs] } = true := h2
    rw [hn2]
    unfold OpenLaw.pre at h2'
    rw [hm] at h2'
    unfold WTm.holds at h2'
    simp only [WTm.value, List.getElem?_cons_zero, less?, Num.less?] at h2'
    by_cases hle : (63 : Int) < (xs.length : Int)
    · simp [hle] at h2'
    · omega

/-- the law's call, as the reduction asks for it -/
structure CallLaw (l : OpenLaw) (defs : List DefItem) (objs : World → List (Str × (Obj → Prop))) (names : List Str) : Prop where
  run : ∀ (w : World) (s : Shared) (N : Nat) (mg mb : Str → Option Value) (f a : Addr) (items : List Value) (ns : List Int), Glob N mg mb defs [] (objs w) names s.heap → mg l.name = some (.ref f) → s.gens = #[] → sysModules < s.heap.objs.size →
    s.heap.IsList a items.toArray → IntsAre items ns → ns.length ≤ 63 →
    wpAny (model l.prog w) callerA (call (.ref f) [.ref a]) (fun v s' => v = .bool true ∧ (∃ h' tk, s' = { s with heap := h', toks := tk }) ∧ ∀ b o, s.heap.get? b = some o → s'.heap.get? b = some o) (fun _ _ => False) s

theorem law_holds {l : OpenLaw} {defs : List DefItem} {objs : World → List (Str × (Obj → Prop))} {names : List Str} {d : DefItem} (said : l.row.wellSaid = true) (hw : l.row.toRowW.promised) (hm : l.most = some 63) (hwr : l.writes = false)
    (hb : l.prog.bare) (ho : opensWell l.prog = true)
    (head : ∀ w, (∃ s, AfterRun (opening l.prog) w s) ∧ ∀ s, AfterRun (opening l.prog) w s → ∃ s₀, fenceModules? l.prog s = some s₀ ∧ s₀.gens = #[] ∧ ∃ s₁, TopRan l.prog w s₀ s₁ ∧ s₁.asleep ∧ s₁.gens = #[] ∧ sysModules < s₁.heap.objs.size ∧
      ∃ N mg mb, Glob N mg mb defs [] (objs w) names s₁.heap)
    (hd : d ∈ defs) (hdn : d.name = l.name) (hdef : l.prog.theDef l.name = some (d.params, d.body, d.scope)) (hdf : d.params.defaults = []) (hkw : kwWritten? d.params.kwonlyargs d.params.kw_defaults = some [])
    (hcall : CallLaw l defs objs names) : l.row.Holds := by
  have hrec : l.row.toRowW.records = [] := rfl
  refine ⟨said, hw, ⟨hb, ho, rfl⟩, hw.witness, fun w => ⟨(head w).1, fun s' hs' => ?_⟩⟩
  obtain ⟨s₀, hf, hg0, s, hT, hz, hgens, hlow, N, mg, mb, G⟩ := (head w).2 s' hs'
  obtain ⟨a, c', o, pm, doc, _, _, h3, h4, h5, h6⟩ := (G.made d hd).plain hdf
  have hgl : globalOf s.heap l.name = some (.ref a) := by rw [globalOf_ns G.g, ← hdn]; exact h3
  refine ⟨s₀, hf, hg0, s, hT, ?_, (fun x hx => nomatch hx), (fun x hx => nomatch hx), ?_⟩
  · intro n hn
    obtain rfl : n = l.name := by simpa [OpenLaw.row] using hn
    exact ⟨a, o, _, d.params, d.body, d.scope, hgl, h4, h5, hdef, hdn, hdn, rfl, rfl, rfl, rfl, rfl, rfl, .inl ⟨hdf, rfl⟩, [], hkw, .inl ⟨rfl, rfl⟩⟩
  · refine ClaimW.callFrom_of_specG (c := l.row.toRowW.claim) (tree := fun vs => do match ← nsGet mainNs l.name with
      | some f => do ret (← PySem.call f vs)
      | none => unsupported "claim.caller:no-such-global") hz hgens fun args hpre hlay ord hord => ?_
    have hcl : ∀ c, ((l.row.toRowW.records : WRecords).fields? c).isSome = true → (classAt s.heap c).isSome = true := fun c hc => by rw [hrec] at hc; cases hc
    obtain ⟨⟨vs, s₁⟩, hlaid⟩ := Option.isSome_iff_exists.mp (layAllW_isSome (P := w.params) (ord := ord) hcl args l.row.toRowW.args s (pre_splitW hpre).1)
    have keeps := layAllW_keeps _ _ _ hlaid
    have hal := layAllW_rest _ _ _ hlaid
    obtain ⟨as, hrd, hin, hold⟩ := reads_layAllW hord _ _ _ hlaid hlay s₁.heap (fun _ _ e => e)
    obtain ⟨ax, items, ns, rfl, hL, hi, hlen⟩ := script_of (l := l) hm hpre hrd
    have G₁ : Glob N mg mb defs [] (objs w) names s₁.heap := G.keeps keeps
    have hsz : sysModules < s₁.heap.objs.size := by
      obtain ⟨mm, ⟨om, _, _, hom, _⟩, _⟩ := G.seer.mods
      exact Heap.lt_size (keeps _ _ hom)
    have hgs : s₁.gens = #[] := hal.1.trans hgens
    refine ⟨_, s₁, hlaid, wpAny_bind (wpAny_nsGet G₁.g ?_)⟩
    have hmg : mg l.name = some (.ref a) := by rw [← hdn]; exact h3
    rw [hmg]
    refine wpAny_bind (wpAny_mono (hcall.run w s₁ N mg mb a ax items ns G₁ hmg hgs hsz hL hi hlen) ?_ fun _ _ x => x.elim)
    rintro v s' ⟨rfl, ⟨h', tk, rfl⟩, hk⟩
    refine wpAny_pure ⟨_, rfl, ?_⟩
    have hpost : l.row.toRowW.claim.post args (.bool true) args = true := by
      simp [RowW.claim, OpenLaw.row, WShape.has, WShape.arms, WTm.holds, WTm.value, same]
    have gw : GoodW l.row.toRowW.claim (classAt s.heap) (ExcName.means s.heap) args s₁ (.ok (.ret (.bool true))) { s₁ with heap := h', toks := tk } :=
      ⟨.inl ⟨_, .bool true, [], rfl, (fun cls => rfl), .bool true, hpost, fun _ => ⟨List.nodup_nil, fun a ha => nomatch ha⟩⟩, hk, rfl, hgs⟩
    obtain ⟨z1, z2, z3⟩ := GoodW.ends (c := l.row.toRowW.claim) rfl (fun a b => by
      simp only [RowW.claim, OpenLaw.row, Bool.and_eq_true, List.all_eq_true, Bool.not_false, Bool.true_or, and_true]
      exact ⟨fun x _ => by cases x <;> rfl, fun x _ => by cases x <;> rfl⟩) hord hlaid hlay gw
    refine ⟨z1, z2, ?_, fun q => ?_⟩
    · rw [z3]; exact fun g hg => by simp at hg
    · exact absurd q (by show ¬ l.writes = true; rw [hwr]; exact Bool.false_ne_true)
end Mine
end

section
open PySem PySem.W PyProof.Rows PySem.Calls
namespace Mine

def stmtOf (d : DefItem) : Stmt := .FunctionDef d.name d.params d.body [] none [] d.scope none d.name d.pos

structure DefOk (prog : Program) (d : DefItem) : Prop where
  pd : PlainDefTree d.name d.params d.body d.scope d.pos
  free : ∀ x ∈ d.scope.names, x.2 ≠ .free
  doc : docOf d.body = none
  loc : prog.main.scope.names.lookup d.name = some .local
  qn : qualnameIn { scope := prog.main.scope, locals := mainGlobals, globals := mainGlobals, cells := [] } d.name d.name = d.name
  nb : d.name ≠ "__builtins__"
  nd : d.params.defaults = []

theorem codeAmong_snoc (pos : Pos) (a b : Int) (c : Value) (hne : a ≠ pos.line) : ∀ (l : List Value), TriplesOk l → codeAmong pos l = none → codeAmong pos (l ++ [rawInt a, rawInt b, c]) = none := by
  intro l h hn
  fun_induction TriplesOk l with
  | case1 =>
    show (if (a == pos.line && b == pos.col) = true then some c else codeAmong pos []) = none
    rw [if_neg (by simp [hne])]
    rfl
  | case2 a' t b' u x rest ih =>
    have e : codeAmong pos (.int a' t :: .int b' u :: x :: rest) = if (a' == pos.line && b' == pos.col) = true then some x else codeAmong pos rest := rfl
    rw [e] at hn
    show (if (a' == pos.line && b' == pos.col) = true then some x else codeAmong pos (rest ++ [rawInt a, rawInt b, c])) = none
    by_cases hc : (a' == pos.line && b' == pos.col) = true
    · rw [if_pos hc] at hn; cases hn
    · rw [if_neg hc] at hn ⊢; exact ih h hn
  | case3 l h1 h2 => exact h.elim

section
variable {M : Model} {A : Around} {E : Value → Shared → Prop} {prog : Program} {c Pl F : Addr} {h₀ : Heap} {mg₀ : Str → Option Value} {consts : List (Str × PyData)} {objs : List (Str × (Obj → Prop))} {rest : List Stmt} {Q : Flow → Shared → Prop}

theorem defs_walk (hmod : prog.main.scope.kind = .module) : ∀ (ds : List DefItem) (s : Shared) (mg : Str → Option Value) (ps : Array Value) (defs : List DefItem) (names : List Str), PyProof.Rows.Mod h₀ mg₀ c Pl s.heap mg ps defs consts objs names →
    (∀ d ∈ ds, DefOk prog d) → (ds.map (·.pos.line)).Nodup → (∀ d ∈ ds, codeAmong d.pos ps.toList = none) → (ds.map (·.name)).Nodup → (∀ d ∈ ds, d.name ∉ names) →
    (∀ h' mg' ps' tk, PyProof.Rows.Mod h₀ mg₀ c Pl h' mg' ps' (ds.reverse ++ defs) consts objs ((ds.map (·.name)).reverse ++ names) → (∀ p : Pos, (∀ d ∈ ds, d.pos.line ≠ p.line) → codeAmong p ps.toList = none → codeAmong p ps'.toList = none) →
      wpAny M A (execs rest (mainEnv prog c F)) Q E { s with heap := h', toks := tk }) →
    wpAny M A (execs (ds.map stmtOf ++ rest) (mainEnv prog c F)) Q E s
  | [], s, mg, ps, defs, names, X, _, _, _, _, _, k => by
    have := k s.heap mg ps s.toks (by simpa using X) (fun _ _ e => e)
    simpa using this
  | d :: ds, s, mg, ps, defs, names, X, ok, hl, hp, hn, hnn, k => by
    have o := ok d List.mem_cons_self
    rw [List.map_cons, List.nodup_cons] at hl hn
    have tr : TriplesOk ps.toList := let ⟨_, _, _, _, _, _, _, _, _, _, _, _, _, _, _, _, _, _, _, t, _⟩ := X.main.code; t
    rw [List.map_cons, List.cons_append]
    refine wpAny_execs_cons (Mod.def_plain X o.pd o.free o.doc o.loc o.qn (hnn d List.mem_cons_self) (fun h' mg' c' tk X' => ?_) o.nb hmod (hp d List.mem_cons_self) o.nd)
    have hps : (ps ++ #[rawInt d.pos.line, rawInt d.pos.col, .ref c']).toList = ps.toList ++ [rawInt d.pos.line, rawInt d.pos.col, .ref c'] := by simp
    refine defs_walk hmod ds _ mg' _ _ _ X' (fun e he => ok e (List.mem_cons_of_mem _ he)) hl.2 (fun e he => ?_) hn.2 (fun e he => ?_) fun h'' mg'' ps'' tk'' X'' kp => ?_
    · rw [hps]
      refine codeAmong_snoc e.pos _ _ _ ?_ _ tr (hp e (List.mem_cons_of_mem _ he))
      intro q
      have q' : d.pos.line = e.pos.line := by exact_mod_cast q
      exact hl.1 (List.mem_map.mpr ⟨e, he, q'.symm⟩)
    · rw [List.mem_cons]
      rintro (q | q)
      · exact hn.1 (List.mem_map.mpr ⟨e, he, q⟩)
      · exact hnn e (List.mem_cons_of_mem _ he) q
    · refine k h'' mg'' ps'' tk'' (by simpa using X'') fun p hpl hpc => kp p (fun e he => hpl e (List.mem_cons_of_mem _ he)) ?_
      rw [hps]
      refine codeAmong_snoc p _ _ _ ?_ _ tr hpc
      intro q
      exact hpl d List.mem_cons_self (by exact_mod_cast q)
end
end Mine
end

section
open PySem PySem.W PyProof.Rows PySem.Calls
namespace Mine

def defOfStmt : Stmt → DefItem
  | .FunctionDef name params body _ _ _ scope _ _ pos => ⟨name, params, body, scope, pos⟩
  | _ => ⟨Str.empty, default, [], default, default⟩
def defAt (p : Program) (i : Nat) : DefItem := defOfStmt (p.main.body.getD i default)

def flagsD : List (PyData × PyData) := [(.int 1, .str "OPTIMIZED"), (.int 2, .str "NEWLOCALS"), (.int 4, .str "VARARGS"), (.int 8, .str "VARKEYWORDS"), (.int 16, .str "NESTED"), (.int 32, .str "GENERATOR"), (.int 64, .str "NOFREE"),
  (.int 128, .str "COROUTINE"), (.int 256, .str "ITERABLE_COROUTINE"), (.int 512, .str "ASYNC_GENERATOR")]

theorem used_free : ∀ y ∈ used, y ∉ bootMainNames := by decide

theorem mod_start {h h' : Heap} {mg mg' : Str → Option Value} {c Pl : Addr} (M : h.Main mg c Pl #[]) (X : TS h h' mg') (hb : mg' "__builtins__" = mg "__builtins__") : PyProof.Rows.Mod h' mg' c Pl h' mg' #[] [] [] [] [] := by
  obtain ⟨bm, o, b1, b2, b3, b4, b5, r⟩ := M.bmod
  have hc : c ≠ mainGlobals := Nat.ne_of_gt M.low.1
  have hP : Pl ≠ mainGlobals := Nat.ne_of_gt M.low.2
  have hcode : h'.IsCode c Pl #[] := M.code.at2 (fun o e => X.keep c o hc e) (fun o e => X.keep Pl o hP e)
  exact ⟨⟨X.ns, hcode, M.low, ⟨bm, o, hb.trans b1, b2, b3, b4, X.keep _ _ b3 b5, r⟩⟩, fun _ _ _ _ e => e, (fun _ hd => nomatch hd), (fun _ hp => nomatch hp), fun _ _ => rfl, (fun _ hd => nomatch hd), (fun _ hp => nomatch hp), (fun _ hp => nomatch hp), (fun _ hp => nomatch hp), Nat.le_refl _, hcode.lt.2, X.ns.lt, (fun _ hd => nomatch hd)⟩

/-- the first ten statements of the text are of that shape -/
inductive TopShape (prog : Program) : Prop
  | mk (D₀ D₁ : List (Str × Int)) (ks₀ ks₁ : List (Option Expr)) (vs₀ vs₁ : List Expr) (nm₁ nm₂ a b : Str) (sc : Scope) (rest : List Stmt) (k1 k2 k3 k4 k5 x1 x2 : Nat)
  (p01 p02 p03 p11 p12 p13 p21 p22 p23 p31 p32 p33 p34 p35 p36 p37 p38 p39 pa0 pa1 pa2 pa3 pa4 pa5 pa6 pa7 p41 p42 p43 p44 p45 p46 p47 p48 p49 p40 p4a p51 p52 p53 p61 p62 p63 p71 p72 p73 p74 p75 p81 p82 p83 p84 p85 p91 p92 p93 p94 p95 p96 p97 q91 q92 q93 q94 q95 q96 r91 r92 r93 r94 r95 t91 t92 t93 t94 t95 t96 t97 : Pos)
    (e1 : behindTheImports prog = (.Assign [.Name "_specialized_opmap" p01] (.Dict ks₀ vs₀ p02) p03 ::
      .Assign [.Name "opmap" p11] (.Dict ks₁ vs₁ p12) p13 ::
      .Assign [.Name "__name__" p21] (.Constant (.str nm₁) k4 p22) p23 ::
      .Assign [.Name "opname" pa7] (.ListComp (.JoinedStr [.Constant (.str a) k1 p31, .FormattedValue (.Name "op" p32) 114 none p33, .Constant (.str b) k2 p34] p35) [⟨.Name "op" p36, .Call (.Name "range" pa1) [.BinOp (.Call (.Name "max" pa2) [.Call (.Attribute (.Name "opmap" pa3) "values" p37) [] [] p38] [] p39) .Add (.Constant (.int 1) k3 pa0) pa4] [] pa5, [], 0⟩] sc pa6) p4a ::
      .For (.Tuple [.Name "op_opcode" p41, .Name "i" p42] x1 p43) (.Call (.Attribute (.Name "opmap" p44) "items" p45) [] [] p46) [.Assign [.Subscript (.Name "opname" p47) (.Name "i" p48) p49] (.Name "op_opcode" p40) p51] [] p52 ::
      .Assign [.Name "__name__" p53] (.Constant (.str nm₂) k5 p61) p62 ::
      .Assign [.Name "op_dis" p63] (.Name "op_opcode" p71) p72 ::
      .Assign [.Name "_all_opname" p73] (.Call (.Name "list" p74) [.Name "opname" p75] [] p81) p82 ::
      .Assign [.Name "_all_opmap" p83] (.Call (.Name "dict" p84) [.Name "opmap" p85] [] p91) p92 ::
      .For (.Tuple [.Name "name" p93, .Name "op_dis" p94] x2 p97) (.Call (.Attribute (.Name "_specialized_opmap" q91) "items" p95) [] [] p96)
        [.Assert (.Compare (.Name "op_dis" q92) [.Lt] [.Call (.Name "len" q93) [.Name "_all_opname" q94] [] q95] q96) none r91,
         .Assign [.Subscript (.Name "_all_opname" r92) (.Name "op_dis" r93) r94] (.Name "name" r95) t91,
         .Assign [.Subscript (.Name "_all_opmap" t92) (.Name "name" t93) t94] (.Name "op_dis" t95) t96] [] t97 :: rest))
    (e2 : rest = prog.main.body.drop 10)
    (e3 : litSI ks₀ vs₀ = some D₀)
    (e4 : litSI ks₁ vs₁ = some D₁)
    (e5 : okTop D₀ D₁ prog.main.scope.names sc a b = true)
    (e6 : (p37.endLine == p38.line) = true)
    (e7 : (p45.endLine == p46.line) = true)
    (e8 : (p95.endLine == p96.line) = true) : TopShape prog


/-- the statements from the tenth on: the flags' table, defs, the name, defs -/
inductive RestShape (prog : Program) (ds₁ ds₂ : List DefItem) : Prop
  | mk (p dp pos q q' q'' : Pos) (ks : List (Option Expr)) (vs : List Expr) (nm : Str) (k : Nat)
    (e : prog.main.body.drop 10 = .Assign [.Name "COMPILER_FLAG_NAMES" p] (.Dict ks vs dp) pos :: (ds₁.map stmtOf ++ (.Assign [.Name "__name__" q] (.Constant (.str nm) k q') q'' :: (ds₂.map stmtOf ++ []))))
    (hD : litPairs ks vs = some flagsD) (hall : ks.all (·.isSome) = true) (hl : ks.length = vs.length) (h0 : ks ≠ []) (hlen : ks.length ≤ 15) : RestShape prog ds₁ ds₂

theorem rest_walk {prog : Program} {w : World} {A : Around} {c Pl F : Addr} {h₀ : Heap} {mg₀ : Str → Option Value} {ds₁ ds₂ : List DefItem} {s : Shared} {Q : Flow → Shared → Prop} {E : Value → Shared → Prop} (R : RestShape prog ds₁ ds₂)
    (hmod : prog.main.scope.kind = .module) (l1 : prog.main.scope.names.lookup ("COMPILER_FLAG_NAMES" : Str) = some .local) (l2 : prog.main.scope.names.lookup ("__name__" : Str) = some .local)
    (ok : ∀ d ∈ ds₁ ++ ds₂, DefOk prog d) (hlines : ((ds₁ ++ ds₂).map (·.pos.line)).Nodup) (hnames : ((ds₁ ++ ds₂).map (·.name)).Nodup) (hn : ∀ d ∈ ds₁ ++ ds₂, d.name ≠ "COMPILER_FLAG_NAMES" ∧ d.name ≠ "__name__")
    (X : PyProof.Rows.Mod h₀ mg₀ c Pl s.heap mg₀ #[] [] [] [] [])
    (k : ∀ h' mg' ps' tk consts, PyProof.Rows.Mod h₀ mg₀ c Pl h' mg' ps' (ds₂.reverse ++ ds₁.reverse) consts [("COMPILER_FLAG_NAMES", TabObj (PySem.intKind prog w) PyData.int flagsD)] ((ds₂.map (·.name)).reverse ++ (("__name__" : Str) :: ((ds₁.map (·.name)).reverse ++ (["COMPILER_FLAG_NAMES"] : List Str)))) → Q .next { s with heap := h', toks := tk }) :
    wpAny (model prog w) A (execs (prog.main.body.drop 10) (mainEnv prog c F)) Q E s := by
  obtain ⟨p, dp, pos, q, q', q'', ks, vs, nm, kk, e, hD, hall, hl, h0, hlen⟩ := R
  rw [e]
  simp only [List.map_append, List.nodup_append] at hlines hnames
  refine wpAny_execs_cons (Mod.assign_tab_int (w := w) X l1 (by simp) hD rfl (by decide) hall hl h0 hlen (fun h₁ mg₁ tk₁ X₁ => ?_) (by decide) hmod rfl)
  refine defs_walk hmod ds₁ _ mg₁ _ _ _ X₁ (fun d hd => ok d (List.mem_append.mpr (.inl hd))) hlines.1 (fun d hd => rfl) hnames.1 (fun d hd => by simpa using (hn d (List.mem_append.mpr (.inl hd))).1) fun h₂ mg₂ ps₂ tk₂ X₂ kp => ?_
  refine wpAny_execs_cons (Mod.assign (d := .str nm) X₂ l2 ?_ (fun Q' hq => wpAny_Constant_str (hq _ _ (fun h => .str nm _))) (fun h₃ mg₃ tk₃ X₃ => ?_) (by decide) hmod rfl)
  · simp only [List.mem_append, List.mem_reverse, List.mem_map, List.mem_cons, List.not_mem_nil, or_false]
    rintro (⟨d, hd, e⟩ | e)
    · exact (hn d (List.mem_append.mpr (.inl hd))).2 e
    · exact absurd e (by decide)
  · refine defs_walk hmod ds₂ _ mg₃ _ _ _ X₃ (fun d hd => ok d (List.mem_append.mpr (.inr hd))) hlines.2.1 (fun d hd => kp d.pos (fun d' hd' q => hlines.2.2 _ (List.mem_map.mpr ⟨d', hd', rfl⟩) _ (List.mem_map.mpr ⟨d, hd, rfl⟩) q) rfl) hnames.2.1 ?_ fun h₄ mg₄ ps₄ tk₄ X₄ _ => ?_
    · intro d hd
      simp only [List.mem_cons, List.mem_append, List.mem_reverse, List.mem_map, List.not_mem_nil, or_false]
      rintro (e | ⟨d', hd', e⟩ | e)
      · exact (hn d (List.mem_append.mpr (.inr hd))).2 e
      · exact hnames.2.2 _ (List.mem_map.mpr ⟨d', hd', rfl⟩) _ (List.mem_map.mpr ⟨d, hd, rfl⟩) e
      · exact (hn d (List.mem_append.mpr (.inr hd))).1 e
    · exact wpAny_execs_nil (k h₄ mg₄ ps₄ tk₄ _ (by simpa using X₄))

/-- the whole body -/
theorem body_walk {prog : Program} {ds₁ ds₂ : List DefItem} {defs : List DefItem} {names : List Str} (S : TopShape prog) (R : RestShape prog ds₁ ds₂)
    (hmod : prog.main.scope.kind = .module) (l1 : prog.main.scope.names.lookup ("COMPILER_FLAG_NAMES" : Str) = some .local) (l2 : prog.main.scope.names.lookup ("__name__" : Str) = some .local)
    (ok : ∀ d ∈ ds₁ ++ ds₂, DefOk prog d) (hlines : ((ds₁ ++ ds₂).map (·.pos.line)).Nodup) (hnames : ((ds₁ ++ ds₂).map (·.name)).Nodup) (hn : ∀ d ∈ ds₁ ++ ds₂, d.name ≠ "COMPILER_FLAG_NAMES" ∧ d.name ≠ "__name__")
    (hdefs : ∀ d ∈ defs, d ∈ ds₁ ++ ds₂) (hnm : ∀ x, x ∉ names → x ∉ topNames ∧ x ≠ "COMPILER_FLAG_NAMES" ∧ ∀ d ∈ ds₁ ++ ds₂, x ≠ d.name) (w : World) :
    BodyWalk prog w defs [("COMPILER_FLAG_NAMES", TabObj (PySem.intKind prog w) PyData.int flagsD)] names := by
  refine ⟨?_⟩
  intro s mg mb c Pl F A M hb hboot hfree hsy hA
  have X₀ : TS s.heap s.heap mg := ⟨M.g, fun _ _ _ e => e, fun y hy => hfree y (used_free y hy)⟩
  obtain ⟨og, _, _, hog, _⟩ := id M.g
  obtain ⟨D₀, D₁, ks₀, ks₁, vs₀, vs₁, nm₁, nm₂, a, b, sc, rest, k1, k2, k3, k4, k5, x1, x2, p01, p02, p03, p11, p12, p13, p21, p22, p23, p31, p32, p33, p34, p35, p36, p37, p38, p39, pa0, pa1, pa2, pa3, pa4, pa5, pa6, pa7, p41, p42, p43, p44, p45, p46, p47, p48, p49, p40, p4a, p51, p52, p53, p61, p62, p63, p71, p72, p73, p74, p75, p81, p82, p83, p84, p85, p91, p92, p93, p94, p95, p96, p97, q91, q92, q93, q94, q95, q96, r91, r92, r93, r94, r95, t91, t92, t93, t94, t95, t96, t97, e1, e2, e3, e4, e5, e6, e7, e8⟩ := S
  rw [e1]
  refine top10 (c := c) (F := F) (h₁ := s.heap) (mg := mg) (mb := mb) e5 e3 e4 X₀ (fun _ _ e => e) hmod hA ⟨_, hog⟩ hsy hb ?b1 ?b2 ?b3 ?b4 ?b5 e6 e7 e8 rfl rfl ?hsw ?_
  case b1 => rw [hboot _ (by decide)]; decide +kernel
  case b2 => rw [hboot _ (by decide)]; decide +kernel
  case b3 => rw [hboot _ (by decide)]; decide +kernel
  case b4 => rw [hboot _ (by decide)]; decide +kernel
  case b5 => rw [hboot _ (by decide)]; decide +kernel
  case hsw =>
    have hbk : ((mainEnv prog c F).blockKind == ScopeKind.function) = false := by
      have e : (mainEnv prog c F).blockKind = prog.main.scope.kind := by
        unfold Env.blockKind
        show (if prog.main.scope.kind.isAnnotationScope = true then ScopeKind.function else prog.main.scope.kind) = prog.main.scope.kind
        rw [hmod]
        rfl
      rw [e, hmod]
      rfl
    unfold swapsWith
    dsimp only
    rw [hbk]
    rfl
  clear e1 e3 e4 e5 e6 e7 e8
  intro h' tk mg' X hmg
  subst e2
  refine wpAny_mono (rest_walk (w := w) R hmod l1 l2 ok hlines hnames hn (mod_start M X (hmg _ (by decide))) (Q := fun _ s' => ∃ h'' tk mg'' ps consts, s' = { s with heap := h'', toks := tk } ∧ PyProof.Rows.Mod h' mg' c Pl h'' mg'' ps (ds₂.reverse ++ ds₁.reverse) consts
    [("COMPILER_FLAG_NAMES", TabObj (PySem.intKind prog w) PyData.int flagsD)] ((ds₂.map (·.name)).reverse ++ (("__name__" : Str) :: ((ds₁.map (·.name)).reverse ++ (["COMPILER_FLAG_NAMES"] : List Str))))) fun h'' mg'' ps tk consts X' => ⟨h'', tk, mg'', ps, consts, rfl, X'⟩) ?_ fun _ _ x => x
  rintro f s' ⟨h'', tk', mg'', ps, consts, rfl, X'⟩
  refine ⟨h'', tk', mg'', _, rfl, X'.main.g, fun b o hb hP e => X'.keep b o hP hb (X.keep b o hb e), fun x hx => ?_, fun d hd => X'.made d ?_, fun p hp => ?_⟩
  · obtain ⟨n1, n2, n3⟩ := hnm x hx
    rw [X'.others x ?_, hmg x n1]
    simp only [List.mem_append, List.mem_reverse, List.mem_map, List.mem_cons, List.not_mem_nil, or_false]
    rintro (⟨d, hd, e⟩ | e | ⟨d, hd, e⟩ | e)
    · exact n3 d (List.mem_append.mpr (.inr hd)) e.symm
    · exact n1 (by rw [e]; decide)
    · exact n3 d (List.mem_append.mpr (.inl hd)) e.symm
    · exact n2 e
  · have := hdefs d hd
    simp only [List.mem_append, List.mem_reverse] at this ⊢
    exact this.symm
  · obtain ⟨a, o, h1, h2, h3, h4⟩ := X'.held p hp
    exact ⟨a, o, Nat.lt_of_lt_of_le X'.lowG h1, h2, h3, h4⟩
end Mine
end

section
open PySem PySem.W PyProof.Rows PySem.Calls
namespace Mine
def ds2 : List DefItem := [defAt PySem.Challenge.pw_dm0070_02 13, defAt PySem.Challenge.pw_dm0070_02 14, defAt PySem.Challenge.pw_dm0070_02 15, defAt PySem.Challenge.pw_dm0070_02 16, defAt PySem.Challenge.pw_dm0070_02 17, defAt PySem.Challenge.pw_dm0070_02 18]
def names2 : List Str := (["law", "_law_turned", "_law_add", "_law_tell", "_law_read", "_law_words", "pretty_flags", "COMPILER_FLAG_NAMES"] : List Str) ++ topNames

set_option maxRecDepth 100000 in
set_option maxHeartbeats 2000000 in
theorem shape2 : TopShape PySem.Challenge.pw_dm0070_02 := .mk _ _ _ _ _ _ _ _ _ _ _ _ _ _ _ _ _ _ _ _ _ _ _ _ _ _ _ _ _ _ _ _ _ _ _ _ _ _ _ _ _ _ _ _ _ _ _ _ _ _ _ _ _ _ _ _ _ _ _ _ _ _ _ _ _ _ _ _ _ _ _ _ _ _ _ _ _ _ _ _ _ _ _ _ _ _ _ _ _ _ _ _ _ _ _ _ _ rfl rfl rfl rfl (by decide +kernel) rfl rfl rfl

set_option maxRecDepth 100000 in
set_option maxHeartbeats 2000000 in
theorem rest2 : RestShape PySem.Challenge.pw_dm0070_02 [defAt PySem.Challenge.pw_dm0070_02 11] ds2 := .mk _ _ _ _ _ _ _ _ _ _ rfl rfl rfl rfl (by decide) (by decide)

theorem defOk_of {p : Program} {d : DefItem} (pd : PlainDefTree d.name d.params d.body d.scope d.pos)
    (h : (d.scope.names.all (fun x => x.2 != .free) && (docOf d.body).isNone && decide (p.main.scope.names.lookup d.name = some .local) && decide (d.name ≠ "__builtins__") && d.params.defaults.isEmpty) = true)
    (hq : qualnameIn { scope := p.main.scope, locals := mainGlobals, globals := mainGlobals, cells := [] } d.name d.name = d.name) : DefOk p d := by
  simp only [Bool.and_eq_true, List.all_eq_true, bne_iff_ne, Option.isNone_iff_eq_none, decide_eq_true_eq, List.isEmpty_iff] at h
  obtain ⟨⟨⟨⟨h1, h2⟩, h3⟩, h4⟩, h5⟩ := h
  exact ⟨pd, h1, h2, h3, hq, h4, h5⟩

set_option maxRecDepth 100000 in
theorem ok2 : ∀ d ∈ [defAt PySem.Challenge.pw_dm0070_02 11] ++ ds2, DefOk PySem.Challenge.pw_dm0070_02 d := by
  intro d hd
  simp only [ds2, List.cons_append, List.nil_append, List.mem_cons, List.not_mem_nil, or_false] at hd
  rcases hd with rfl | rfl | rfl | rfl | rfl | rfl | rfl <;> exact defOk_of (fun _ => rfl) (by decide +kernel) rfl

end Mine
end

section
open PySem PySem.W PyProof.Rows PySem.Calls
namespace Mine
theorem m2 : PySem.Challenge.pw_dm0070_02.main.scope.kind = .module := by kernel_rfl
theorem n2a : PySem.Challenge.pw_dm0070_02.main.scope.names.lookup ("COMPILER_FLAG_NAMES" : Str) = some .local := by decide +kernel
theorem n2b : PySem.Challenge.pw_dm0070_02.main.scope.names.lookup ("__name__" : Str) = some .local := by decide +kernel
theorem u2a : (([defAt PySem.Challenge.pw_dm0070_02 11] ++ ds2).map (·.pos.line)).Nodup := by decide +kernel
theorem u2b : (([defAt PySem.Challenge.pw_dm0070_02 11] ++ ds2).map (·.name)).Nodup := by decide +kernel
theorem u2c : ∀ d ∈ [defAt PySem.Challenge.pw_dm0070_02 11] ++ ds2, d.name ≠ "COMPILER_FLAG_NAMES" ∧ d.name ≠ "__name__" := by decide +kernel
theorem u2d : ∀ d ∈ [defAt PySem.Challenge.pw_dm0070_02 11] ++ ds2, d.name ∈ names2 := by decide +kernel
theorem u2e : ∀ x, x ∉ names2 → x ∉ topNames ∧ x ≠ "COMPILER_FLAG_NAMES" ∧ ∀ d ∈ [defAt PySem.Challenge.pw_dm0070_02 11] ++ ds2, x ≠ d.name := fun x hx =>
  ⟨fun h => hx (List.mem_append.mpr (.inr h)), fun h => hx (by rw [h]; decide), fun d hd e => hx (e ▸ u2d d hd)⟩
theorem bw2a (w : World) : BodyWalk PySem.Challenge.pw_dm0070_02 w ([defAt PySem.Challenge.pw_dm0070_02 11] ++ ds2) [("COMPILER_FLAG_NAMES", TabObj (PySem.intKind PySem.Challenge.pw_dm0070_02 w) PyData.int flagsD)] names2 :=
  @body_walk PySem.Challenge.pw_dm0070_02 [defAt PySem.Challenge.pw_dm0070_02 11] ds2 ([defAt PySem.Challenge.pw_dm0070_02 11] ++ ds2) names2 shape2 rest2 m2 n2a n2b ok2 u2a u2b u2c (fun _ h => h) u2e w
theorem o2 : (opening PySem.Challenge.pw_dm0070_02).main.body = [] := by kernel_rfl
theorem o2b : (opening PySem.Challenge.pw_dm0070_02).main.more = [] := by kernel_rfl
theorem o2c : ∀ s, fenceModules? PySem.Challenge.pw_dm0070_02 s = some s := fun s => by kernel_rfl
theorem o2d : hasAnns (behindTheImports PySem.Challenge.pw_dm0070_02) = false := by decide +kernel
theorem o2e : docOf (behindTheImports PySem.Challenge.pw_dm0070_02) = none := by decide +kernel
theorem o2f : ∀ x ∈ names2, x ∈ startupNames ∨ x ∈ PySem.Challenge.pw_dm0070_02.boundNames := by decide +kernel
theorem o2g : ∀ x ∈ laidNames, x ∉ names2 := by decide +kernel
theorem o2h : ("__builtins__" : Str) ∉ names2 := by decide +kernel
def Objs (P : Program) (w : World) : List (Str × (Obj → Prop)) := [("COMPILER_FLAG_NAMES", TabObj (PySem.intKind P w) PyData.int flagsD)]
theorem bw2 (w : World) : BodyWalk PySem.Challenge.pw_dm0070_02 w ([defAt PySem.Challenge.pw_dm0070_02 11] ++ ds2) (Objs PySem.Challenge.pw_dm0070_02 w) names2 := bw2a w
theorem head2 (w : World) : (∃ s, AfterRun (opening PySem.Challenge.pw_dm0070_02) w s) ∧ ∀ s, AfterRun (opening PySem.Challenge.pw_dm0070_02) w s → ∃ s₀, fenceModules? PySem.Challenge.pw_dm0070_02 s = some s₀ ∧ s₀.gens = #[] ∧ ∃ s₁, TopRan PySem.Challenge.pw_dm0070_02 w s₀ s₁ ∧ s₁.asleep ∧ s₁.gens = #[] ∧ sysModules < s₁.heap.objs.size ∧
      ∃ N mg mb, Glob N mg mb ([defAt PySem.Challenge.pw_dm0070_02 11] ++ ds2) [] (Objs PySem.Challenge.pw_dm0070_02 w) names2 s₁.heap :=
  head_all (objs := Objs PySem.Challenge.pw_dm0070_02) o2 o2b o2c o2d o2e o2f o2g o2h bw2 w
theorem thedef2 : PySem.Challenge.pw_dm0070_02.theDef PySem.Challenge.rw_dm0070_02.name = some ((defAt PySem.Challenge.pw_dm0070_02 18).params, (defAt PySem.Challenge.pw_dm0070_02 18).body, (defAt PySem.Challenge.pw_dm0070_02 18).scope) := by kernel_rfl
set_option maxRecDepth 100000 in
theorem reduced2 (hcall : CallLaw PySem.Challenge.rw_dm0070_02 ([defAt PySem.Challenge.pw_dm0070_02 11] ++ ds2) (Objs PySem.Challenge.pw_dm0070_02) names2) : PySem.Challenge.rw_dm0070_02.Holds := by
  w_on
  o_law
  rename_i said
  exact law_holds (d := defAt PySem.Challenge.pw_dm0070_02 18) said (by w_witness2) rfl rfl ⟨rfl, rfl, rfl, rfl, rfl, by decide +kernel⟩ (by decide +kernel) head2 (by simp [ds2]) (by decide +kernel) thedef2 (by kernel_rfl) (by kernel_rfl) hcall
end Mine
end

section
open PySem PySem.W PyProof.Rows PySem.Calls
namespace Mine

/-- a part of the heap that a function has made for itself: its places, and what holds there -/
structure Cell where
  fp : List Addr
  P : Heap → Prop

def Cell.Ok (c : Cell) : Prop := ∀ h h' : Heap, c.P h → (∀ b ∈ c.fp, ∀ o, h.get? b = some o → h'.get? b = some o) → c.P h'

structure Own (h₀ : Heap) (L : Addr) (h : Heap) (m : Str → Option Value) (cs : List Cell) : Prop where
  fr : Fr h₀ L h m
  holds : ∀ c ∈ cs, c.P h
  ok : ∀ c ∈ cs, c.Ok
  live : ∀ c ∈ cs, ∀ b ∈ c.fp, (∃ o, h.get? b = some o) ∧ h₀.get? b = none ∧ b ≠ L
  apart : cs.Pairwise (fun c d => ∀ b ∈ c.fp, b ∉ d.fp)

def upd (m : Str → Option Value) (x : Str) (v : Value) : Str → Option Value := fun y => if y = x then some v else m y
theorem upd_same {m : Str → Option Value} {x : Str} {v : Value} : upd m x v x = some v := by simp [upd]
theorem upd_ne {m : Str → Option Value} {x y : Str} {v : Value} (h : y ≠ x) : upd m x v y = m y := by simp [upd, h]

section
variable {h₀ h h' : Heap} {L : Addr} {m m' : Str → Option Value} {c c' d : Cell} {cs cs' : List Cell}

theorem Own.start (F : Fr h₀ L h m) : Own h₀ L h m [] := ⟨F, by simp, by simp, by simp, .nil⟩

theorem Own.keep (O : Own h₀ L h m cs) (k : ∀ b o, h.get? b = some o → h'.get? b = some o) : Own h₀ L h' m cs where
  fr := ⟨O.fr.ns.keeps k, fun b o e => k b o (O.fr.keep b o e), O.fr.above⟩
  holds := fun c hc => O.ok c hc h h' (O.holds c hc) fun b _ o e => k b o e
  ok := O.ok
  live := fun c hc b hb => let ⟨⟨o, e⟩, r⟩ := O.live c hc b hb; ⟨⟨o, k b o e⟩, r⟩
  apart := O.apart

theorem Own.store (O : Own h₀ L h m cs) (hn : h'.Ns L m') (hs : Heap.SameBut L h h') : Own h₀ L h' m' cs where
  fr := O.fr.set hn hs
  holds := fun c hc => O.ok c hc h h' (O.holds c hc) fun b hb o e => (hs.2 b (O.live c hc b hb).2.2).trans e
  ok := O.ok
  live := fun c hc b hb => let ⟨⟨o, e⟩, r⟩ := O.live c hc b hb; ⟨⟨o, (hs.2 b r.2).trans e⟩, r⟩
  apart := O.apart

theorem Own.new (O : Own h₀ L h m cs) (k : ∀ b o, h.get? b = some o → h'.get? b = some o) (hP : c.P h') (ok : c.Ok)
    (hf : ∀ b ∈ c.fp, h.get? b = none ∧ ∃ o, h'.get? b = some o) : Own h₀ L h' m (c :: cs) := by
  have O' := O.keep k
  refine ⟨O'.fr, ?_, ?_, ?_, ?_⟩
  · intro d hd
    rcases List.mem_cons.mp hd with rfl | hd
    · exact hP
    · exact O'.holds d hd
  · intro d hd
    rcases List.mem_cons.mp hd with rfl | hd
    · exact ok
    · exact O'.ok d hd
  · intro d hd b hb
    rcases List.mem_cons.mp hd with rfl | hd
    · refine ⟨(hf b hb).2, ?_, ?_⟩
      · cases e : h₀.get? b with
        | none => rfl
        | some o => have := O.fr.keep b o e; rw [(hf b hb).1] at this; cases this
      · rintro rfl
        obtain ⟨o, _, _, e, _⟩ := O.fr.ns
        rw [(hf _ hb).1] at e; cases e
    · exact O'.live d hd b hb
  · refine .cons (fun d hd b hb hb' => ?_) O.apart
    obtain ⟨⟨o, e⟩, _⟩ := O.live d hd b hb'
    rw [(hf b hb).1] at e; cases e

theorem Own.upd (O : Own h₀ L h m (c :: cs)) (k : ∀ b o, b ∉ c.fp → h.get? b = some o → h'.get? b = some o) (hP : c'.P h') (ok : c'.Ok)
    (hs : ∀ b ∈ c'.fp, b ∈ c.fp) (hf : ∀ b ∈ c'.fp, ∃ o, h'.get? b = some o) : Own h₀ L h' m (c' :: cs) := by
  have hl := O.live c (by simp)
  have ap := List.pairwise_cons.mp O.apart
  have nL : L ∉ c.fp := fun x => (hl L x).2.2 rfl
  have n0 : ∀ b o, h₀.get? b = some o → b ∉ c.fp := fun b o e x => by rw [(hl b x).2.1] at e; cases e
  have hns : h'.Ns L m := O.fr.ns.at fun o e => k L o nL e
  refine ⟨⟨hns, fun b o e => k b o (n0 b o e) (O.fr.keep b o e), O.fr.above⟩, ?_, ?_, ?_, ?_⟩
  · intro d hd
    rcases List.mem_cons.mp hd with rfl | hd
    · exact hP
    · exact O.ok d (by simp [hd]) h h' (O.holds d (by simp [hd])) fun b hb o e => k b o (fun x => ap.1 d hd b x hb) e
  · intro d hd
    rcases List.mem_cons.mp hd with rfl | hd
    · exact ok
    · exact O.ok d (by simp [hd])
  · intro d hd b hb
    rcases List.mem_cons.mp hd with rfl | hd
    · exact ⟨hf b hb, (hl b (hs b hb)).2⟩
    · obtain ⟨⟨o, e⟩, r⟩ := O.live d (by simp [hd]) b hb
      exact ⟨⟨o, k b o (fun x => ap.1 d hd b x hb) e⟩, r⟩
  · exact .cons (fun d hd b hb => ap.1 d hd b (hs b hb)) ap.2

theorem Own.perm (O : Own h₀ L h m cs) (p : cs.Perm cs') : Own h₀ L h m cs' where
  fr := O.fr
  holds := fun c hc => O.holds c (p.mem_iff.mpr hc)
  ok := fun c hc => O.ok c (p.mem_iff.mpr hc)
  live := fun c hc => O.live c (p.mem_iff.mpr hc)
  apart := (p.pairwise_iff (fun {a b} hab x hx hx' => hab x hx' hx)).mp O.apart

theorem Own.drop (O : Own h₀ L h m (c :: cs)) : Own h₀ L h m cs where
  fr := O.fr
  holds := fun c hc => O.holds c (by simp [hc])
  ok := fun c hc => O.ok c (by simp [hc])
  live := fun c hc => O.live c (by simp [hc])
  apart := (List.pairwise_cons.mp O.apart).2
theorem Own.swap (O : Own h₀ L h m (c :: d :: cs)) : Own h₀ L h m (d :: c :: cs) := O.perm (.swap ..)
theorem Own.hd (O : Own h₀ L h m (c :: cs)) : c.P h := O.holds c (by simp)
theorem Own.snd (O : Own h₀ L h m (c :: d :: cs)) : d.P h := O.holds d (by simp)
theorem Own.size (O : Own h₀ L h m cs) : ∃ o, h.get? L = some o := let ⟨o, _, _, e, _⟩ := O.fr.ns; ⟨o, e⟩

def listC (D : Addr) (items : Array Value) : Cell := ⟨[D], fun h => h.PlainList D items⟩
theorem listC_ok {D : Addr} {items : Array Value} : (listC D items).Ok := fun h h' x k => Heap.PlainList.at x fun o e => k D (by simp [listC]) o e

theorem Own.list {D : Addr} {items : Array Value} (O : Own h₀ L h m (listC D items :: cs)) : h.PlainList D items := O.hd
end

section
variable {M : Model} {A : Around} {E : Value → Shared → Prop} {s : Shared} {name : Str} {scope : Scope} {L a : Addr} {cd : Value} {h₀ : Heap} {m : Str → Option Value} {cs : List Cell}
theorem stO {x : Str} {v : Value} {Q : Unit → Shared → Prop} (O : Own h₀ L s.heap m cs)
    (h : ∀ h' tk, Own h₀ L h' (upd m x v) cs → Q () { s with heap := h', toks := tk })
    (hk : scope.kind = .function := by rfl) (hl : (envOf name scope L a cd).kindOf x = some .local := by rfl) :
    wpAny M A (storeName (envOf name scope L a cd) x v) Q E s :=
  wpAny_storeName_local hl O.fr.ns (fun h' hn hs => h h' _ (O.store hn hs))
    (by show (scope.kind == .class || (scope.kind == .module && L != mainGlobals)) = false; rw [hk]; rfl)
theorem ldO {x : Str} {pos : Pos} {v : Value} {Q : Value → Shared → Prop} (O : Own h₀ L s.heap m cs) (hv : m x = some v) (h : Q v s)
    (hk : scope.kind = .function := by rfl) (hl : (envOf name scope L a cd).kindOf x = some .local := by rfl)
    (hd : (x == ("__debug__" : Str)) = false := by decide) :
    wpAny M A (eval (.Name x pos) (envOf name scope L a cd)) Q E s := ld O.fr hv h hk hl hd
end

section
variable {prog : Program} {w : World} {A : Around} {E : Value → Shared → Prop} {s : Shared} {name : Str} {scope : Scope} {L a : Addr} {cd : Value} {h₀ : Heap} {m : Str → Option Value} {cs : List Cell}

/-- a for over anything that walks, the target a name -/
theorem loopO {x : Str} {tpos : Pos} {body orelse : List Stmt} {I : Addr} {fp wr : List Addr} {n : Nat} {P : Nat → Value → Prop} {St : Nat → Heap → Prop} {Q : Flow → Shared → Prop}
    (W : Walks prog w A I fp wr n P St) (hlive : ∀ i h, St i h → ∀ b ∈ fp, ∃ o, h.get? b = some o)
    (inv : Nat → (Str → Option Value) → List Cell → Prop) (O : Own h₀ L s.heap m (⟨fp, St 0⟩ :: cs)) (h0 : inv 0 m cs)
    (turn : ∀ i m cs v h tk, i < n → P i v → inv i m cs → Own h₀ L h (upd m x v) (⟨fp, St (i + 1)⟩ :: cs) →
      wpAny (model prog w) A (execs body (envOf name scope L a cd)) (fun f s' => match f with
        | .next | .cont => ∃ h' tk' m' cs', s' = { s with heap := h', toks := tk' } ∧ inv (i + 1) m' cs' ∧ Own h₀ L h' m' (⟨fp, St (i + 1)⟩ :: cs')
        | .brk => Q .next s'
        | .ret v => Q (.ret v) s') (fun _ _ => False) { s with heap := h, toks := tk })
    (done : ∀ m cs h tk, inv n m cs → Own h₀ L h m cs → wpAny (model prog w) A (execs orelse (envOf name scope L a cd)) Q (fun _ _ => False) { s with heap := h, toks := tk })
    (hk : scope.kind = .function := by rfl) (hl : (envOf name scope L a cd).kindOf x = some .local := by rfl) :
    codeAny (model prog w) A (.forLoop (.Name x tpos) (.ref I) body orelse (envOf name scope L a cd))
      (fun r s' => match r with | .ok f => Q f s' | .error e => cameBackBy (model prog w) A (envOf name scope L a cd) E e s') s := by
  have hok : ∀ i, Cell.Ok ⟨fp, St i⟩ := fun i h h' x k => W.frame i h h' x k
  refine codeAny_forLoop (I := fun k s' => ∃ i h tk m cs, k = n - i ∧ i ≤ n ∧ s' = { s with heap := h, toks := tk } ∧ inv i m cs ∧ Own h₀ L h m (⟨fp, St i⟩ :: cs))
    ?_ n ⟨0, s.heap, s.toks, m, cs, by simp, Nat.zero_le _, rfl, h0, O⟩ (fun _ => rfl)
  rintro k s₁ ⟨i, h, tk, m, cs, rfl, hi, rfl, hinv, O⟩
  rcases Nat.lt_or_ge i n with hlt | hge
  · refine W.item i _ _ _ hlt O.hd fun v h' tk' hP hSt hkeep => ?_
    have O' : Own h₀ L h' m (⟨fp, St (i + 1)⟩ :: cs) := O.upd (fun b o hb e => hkeep b o (fun x => hb (W.sub b x)) e) hSt (hok _) (fun _ x => x) (fun b hb => hlive _ _ hSt b hb)
    refine wpAny_assign_Name (stO O' (fun h'' tk'' O'' => ?_) hk hl)
    refine wpAny_mono (turn i m cs v h'' tk'' hlt hP hinv O'') (fun f s' hf => ?_) fun _ _ x => x.elim
    cases f with
    | next => obtain ⟨h₃, tk₃, m₃, cs₃, rfl, b1, b2⟩ := hf; exact ⟨n - (i + 1), by omega, i + 1, h₃, tk₃, m₃, cs₃, rfl, by omega, rfl, b1, b2⟩
    | cont => obtain ⟨h₃, tk₃, m₃, cs₃, rfl, b1, b2⟩ := hf; exact ⟨n - (i + 1), by omega, i + 1, h₃, tk₃, m₃, cs₃, rfl, by omega, rfl, b1, b2⟩
    | brk => exact hf
    | ret v => exact hf
  · obtain rfl : i = n := by omega
    refine W.done _ _ _ O.hd fun h' tk' hkeep => ?_
    have O' : Own h₀ L h' m cs := by
      have ap := List.pairwise_cons.mp O.apart
      have hlf := O.live ⟨fp, St i⟩ (by simp)
      have nL : L ∉ wr := fun x => (hlf L (W.sub _ x)).2.2 rfl
      refine ⟨⟨O.fr.ns.at fun o e => hkeep L o nL e, fun b o e => hkeep b o (fun x => ?_) (O.fr.keep b o e), O.fr.above⟩, ?_, fun c hc => O.ok c (by simp [hc]), ?_, ap.2⟩
      · rw [(hlf b (W.sub _ x)).2.1] at e; cases e
      · intro c hc
        exact O.ok c (by simp [hc]) _ h' (O.holds c (by simp [hc])) fun b hb o e => hkeep b o (fun x => ap.1 c hc b (W.sub _ x) hb) e
      · intro c hc b hb
        obtain ⟨⟨o, e⟩, r⟩ := O.live c (by simp [hc]) b hb
        exact ⟨⟨o, hkeep b o (fun x => ap.1 c hc b (W.sub _ x) hb) e⟩, r⟩
    exact wpAny_mono (done m cs h' tk' hinv O') (fun _ _ x => x) fun _ _ x => x.elim

/-- the same, the loop's end said once: what a break or the else leaves -/
theorem loopF {x : Str} {tpos : Pos} {body orelse : List Stmt} {I : Addr} {fp wr : List Addr} {n : Nat} {P : Nat → Value → Prop} {St : Nat → Heap → Prop} {Q : Flow → Shared → Prop}
    (W : Walks prog w A I fp wr n P St) (hlive : ∀ i h, St i h → ∀ b ∈ fp, ∃ o, h.get? b = some o)
    (inv : Nat → (Str → Option Value) → List Cell → Prop) (Fin : (Str → Option Value) → List Cell → Prop) (O : Own h₀ L s.heap m (⟨fp, St 0⟩ :: cs)) (h0 : inv 0 m cs)
    (turn : ∀ i m cs v h tk, i < n → P i v → inv i m cs → Own h₀ L h (upd m x v) (⟨fp, St (i + 1)⟩ :: cs) →
      wpAny (model prog w) A (execs body (envOf name scope L a cd)) (fun f s' => match f with
        | .next | .cont => ∃ h' tk' m' cs', s' = { s with heap := h', toks := tk' } ∧ inv (i + 1) m' cs' ∧ Own h₀ L h' m' (⟨fp, St (i + 1)⟩ :: cs')
        | .brk => ∃ h' tk' m' cs' c, s' = { s with heap := h', toks := tk' } ∧ Fin m' cs' ∧ Own h₀ L h' m' (c :: cs')
        | .ret v => Q (.ret v) s') (fun _ _ => False) { s with heap := h, toks := tk })
    (done : ∀ m cs h tk, inv n m cs → Own h₀ L h m cs → wpAny (model prog w) A (execs orelse (envOf name scope L a cd)) (fun f s' => match f with
        | .next => ∃ h' tk' m' cs', s' = { s with heap := h', toks := tk' } ∧ Fin m' cs' ∧ Own h₀ L h' m' cs'
        | _ => False) (fun _ _ => False) { s with heap := h, toks := tk })
    (fin : ∀ m cs h tk, Fin m cs → Own h₀ L h m cs → Q .next { s with heap := h, toks := tk })
    (hk : scope.kind = .function := by rfl) (hl : (envOf name scope L a cd).kindOf x = some .local := by rfl) :
    codeAny (model prog w) A (.forLoop (.Name x tpos) (.ref I) body orelse (envOf name scope L a cd))
      (fun r s' => match r with | .ok f => Q f s' | .error e => cameBackBy (model prog w) A (envOf name scope L a cd) E e s') s := by
  refine loopO W hlive inv O h0 (fun i m cs v h tk h1 h2 h3 h4 => wpAny_mono (turn i m cs v h tk h1 h2 h3 h4) (fun f s' hf => ?_) fun _ _ x => x) (fun m cs h tk h1 h2 => wpAny_mono (done m cs h tk h1 h2) (fun f s' hf => ?_) fun _ _ x => x) hk hl
  · cases f with
    | next => exact hf
    | cont => exact hf
    | brk => obtain ⟨h', tk', m', cs', c, rfl, b1, b2⟩ := hf; exact fin m' cs' h' tk' b1 b2.drop
    | ret v => exact hf
  · cases f with
    | next => obtain ⟨h', tk', m', cs', rfl, b1, b2⟩ := hf; exact fin m' cs' h' tk' b1 b2
    | cont => exact hf.elim
    | brk => exact hf.elim
    | ret v => exact hf.elim

theorem call_def {N : Nat} {mg mb : Str → Option Value} {defs : List DefItem} {objs : List (Str × (Obj → Prop))} {names : List Str} {d : DefItem} {f : Addr} {args : List Value} {binds : List (Str × Value)} {Q : Value → Shared → Prop}
    (G : Glob N mg mb defs [] objs names s.heap) (hd : d ∈ defs) (hdf : d.params.defaults = []) (hf : mg d.name = some (.ref f)) (hroom : A.depth < recursionLimit)
    (hbind : ∀ pm cd doc, bindArgs (docDef d.name d.params d.body d.scope pm cd doc) ⟨args, []⟩ = pure binds)
    (hloc : ∀ x ∈ binds, d.scope.names.lookup x.1 = some .local)
    (h : ∀ h₁ tk cd, Own s.heap s.heap.objs.size h₁ (fun x => binds.reverse.lookup x) [] →
      wpAny (model prog w) (A.deeper (envOf d.name d.scope s.heap.objs.size f cd)) (execs d.body (envOf d.name d.scope s.heap.objs.size f cd))
        (fun fl s' => Q (match fl with | .ret v => v | _ => .none) s') (fun _ _ => False) { s with heap := h₁, toks := tk })
    (hco : d.scope.isCoroutine = false) (hgen : d.scope.isGenerator = false) (hk : d.scope.kind = .function) (hcell : ∀ x ∈ d.scope.names, x.2 ≠ .cell) :
    wpAny (model prog w) A (call (.ref f) args) Q E s := by
  obtain ⟨f', c', o, pm, doc, _, _, h3, h4, h5, h6⟩ := (G.made d hd).plain hdf
  obtain rfl : f' = f := by rw [hf] at h3; cases h3; rfl
  exact wpAny_call (call_plain_ret hroom h4 h5 G.nolimit h6 (hbind _ _ _) hloc (fun h₁ F => h h₁ _ _ (Own.start F)) hco hgen hk hcell)
end
end Mine
end

section
open PySem PySem.W PyProof.Rows PySem.Calls
namespace Mine

structure GB (w : World) (N : Nat) (mg mb : Str → Option Value) (h : Heap) : Prop where
  G : Glob N mg mb ([defAt PySem.Challenge.pw_dm0070_02 11] ++ ds2) [] (Objs PySem.Challenge.pw_dm0070_02 w) names2 h
theorem GB.keeps {w : World} {N : Nat} {mg mb : Str → Option Value} {h h' : Heap} (G : GB w N mg mb h) (k : ∀ b o, h.get? b = some o → h'.get? b = some o) : GB w N mg mb h' := ⟨G.G.keeps k⟩

section
variable {prog : Program} {w : World} {A : Around} {E : Value → Shared → Prop} {s : Shared} {name : Str} {scope : Scope} {L a : Addr} {cd : Value} {h₀ : Heap} {m : Str → Option Value} {cs : List Cell}
  {N : Nat} {mg mb : Str → Option Value}

theorem Own.glob (O : Own h₀ L s.heap m cs) (G : GB w N mg mb h₀) : GB w N mg mb s.heap := G.keeps O.fr.keep

theorem newListO {items : List Value} {Q : Value → Shared → Prop} (O : Own h₀ L s.heap m cs) (hl : items.length ≤ 2000)
    (h : ∀ D h', Own h₀ L h' m (listC D items.toArray :: cs) → s.heap.get? D = none → Q (.ref D) { s with heap := h' }) : wpAny (model prog w) A (newList items) Q E s := by
  have hn : s.heap.get? s.heap.objs.size = none := by
    cases e : s.heap.get? s.heap.objs.size with
    | none => rfl
    | some o => exact absurd (Heap.lt_size e) (Nat.lt_irrefl _)
  refine wpAny_newList (h _ _ (O.new (fun b o e => Heap.get?_push_of_some _ e) ⟨_, Heap.get?_push_size _ rfl⟩ listC_ok ?_) hn) (by rw [sizeLine_eq]; omega)
  intro b hb
  obtain rfl : b = s.heap.objs.size := by simpa [listC] using hb
  exact ⟨hn, _, Heap.get?_push_size _ rfl⟩

theorem list_nilO {env : Env} {pos : Pos} {Q : Value → Shared → Prop} (O : Own h₀ L s.heap m cs)
    (h : ∀ D h', Own h₀ L h' m (listC D #[] :: cs) → s.heap.get? D = none → Q (.ref D) { s with heap := h' }) : wpAny (model prog w) A (eval (.List [] pos) env) Q E s := by
  rw [arm_eval_List]
  exact wpAny_bind (wpAny_standAt (wpAny_bind (spliced_nil (newListO O (by decide) h))))

/-- the builtin's name, read in a function -/
theorem ldB {x : Str} {pos : Pos} {v : Value} {Q : Value → Shared → Prop} (O : Own h₀ L s.heap m cs) (G : GB w N mg mb h₀) (hv : bootBuiltins x = some v) (h : Q v s)
    (hfree : x ∉ names2) (hboot : x ∉ bootMainNames) (hn : x ≠ "__name__")
    (hk : scope.kind = .function := by rfl) (hx : (envOf name scope L a cd).kindOf x = some .globalImplicit := by rfl)
    (hd : (x == ("__debug__" : Str)) = false := by decide) : wpAny (model prog w) A (eval (.Name x pos) (envOf name scope L a cd)) Q E s :=
  ld_builtin (O.glob G).G hv h hfree hboot hn hk hx hd

theorem appendO {env : Env} {x : Str} {p apos pos pos' : Pos} {elt : Expr} {D : Addr} {items : Array Value} {Q : Flow → Shared → Prop} (O : Own h₀ L s.heap m (listC D items :: cs))
    (hx : ∀ Q' : Value → Shared → Prop, Q' (.ref D) s → wpAny (model prog w) A (eval (.Name x p) env) Q' E s)
    (h : wpAny (model prog w) A (eval elt env) (fun y s₂ => ∃ its cs', Own h₀ L s₂.heap m (listC D its :: cs') ∧ its.size ≤ 2000 ∧ ∀ h', Own h₀ L h' m (listC D (its.push y) :: cs') → Q .next { s₂ with heap := h' }) E s)
    (hline : (apos.endLine == pos.line) = true) (hs : starEach [elt] env = [(false, eval elt env)])
    (hi : interactive env = false := by rfl) (hsw : swapsWith (.Call (.Attribute (.Name x p) "append" apos) [elt] [] pos) none pos'.line env = pure false := by rfl)
    (hbase : attributeBase (.Name x p) "append" env (eval (.Name x p) env) = eval (.Name x p) env := by rfl) :
    wpAny (model prog w) A (exec (.Expr (.Call (.Attribute (.Name x p) "append" apos) [elt] [] pos) pos') env) Q E s := by
  refine wpAny_Expr ?_ hi hsw
  obtain ⟨n, e⟩ := O.list
  have ht : backTo pos (starEach [elt] env) = [(false, eval elt env)] := by rw [hs]; rfl
  refine wpAny_Call_append hbase (by rw [ht]; rfl) hline ht (hx _ ⟨D, items, rfl, ⟨_, n, e, rfl, rfl, rfl⟩, wpAny_mono h (fun y s₂ h₂ => ?_) fun _ _ x => x⟩)
  obtain ⟨its, cs', O₂, hsz, hq⟩ := h₂
  refine wpAny_list_append_plain O₂.list (fun h' hl' sb => ?_) (by rw [sizeLine_eq]; omega)
  refine hq h' (O₂.upd (fun b o hb e => (sb.2 b (fun x => hb (by simp [listC, x]))).trans e) hl' listC_ok (fun _ x => x) (fun b hb => ?_))
  obtain rfl : b = D := by simpa [listC] using hb
  exact ⟨_, hl'.choose_spec⟩

theorem forRangeF {x : Str} {tp p1 pc p2 pos : Pos} {k n : Nat} {body orelse : List Stmt} {Q : Flow → Shared → Prop} (O : Own h₀ L s.heap m cs) (G : GB w N mg mb h₀) (hA : A.handled = none) (hn : n ≤ 2000)
    (inv : Nat → (Str → Option Value) → List Cell → Prop) (Fin : (Str → Option Value) → List Cell → Prop) (h0 : inv 0 m cs)
    (turn : ∀ i m cs I t h tk, i < n → inv i m cs → Own h₀ L h (upd m x (.int i t)) (⟨[I], fun h => IsRangeIter h I (0 + ((i + 1 : Nat) : Int) * 1) ((n : Int) - ((i + 1 : Nat) : Int)) 1⟩ :: cs) →
      wpAny (model prog w) A (execs body (envOf name scope L a cd)) (fun f s' => match f with
        | .next | .cont => ∃ h' tk' m' cs', s' = { s with heap := h', toks := tk' } ∧ inv (i + 1) m' cs' ∧ Own h₀ L h' m' (⟨[I], fun h => IsRangeIter h I (0 + ((i + 1 : Nat) : Int) * 1) ((n : Int) - ((i + 1 : Nat) : Int)) 1⟩ :: cs')
        | .brk => ∃ h' tk' m' cs' c, s' = { s with heap := h', toks := tk' } ∧ Fin m' cs' ∧ Own h₀ L h' m' (c :: cs')
        | .ret v => Q (.ret v) s') (fun _ _ => False) { s with heap := h, toks := tk })
    (done : ∀ m cs h tk, inv n m cs → Own h₀ L h m cs → wpAny (model prog w) A (execs orelse (envOf name scope L a cd)) (fun f s' => match f with
        | .next => ∃ h' tk' m' cs', s' = { s with heap := h', toks := tk' } ∧ Fin m' cs' ∧ Own h₀ L h' m' cs'
        | _ => False) (fun _ _ => False) { s with heap := h, toks := tk })
    (fin : ∀ m cs h tk, Fin m cs → Own h₀ L h m cs → Q .next { s with heap := h, toks := tk })
    (hk : scope.kind = .function := by rfl) (hl : (envOf name scope L a cd).kindOf x = some .local := by rfl)
    (hx : (envOf name scope L a cd).kindOf "range" = some .globalImplicit := by rfl) :
    wpAny (model prog w) A (exec (.For (.Name x tp) (.Call (.Name "range" p1) [.Constant (.int n) k pc] [] p2) body orelse pos) (envOf name scope L a cd)) Q E s := by
  refine wpAny_For (Call_Name1 (ldB O G (v := .type "range") (by rfl) (PySem.callWith_type1 (wpAny_Constant_int ?_)) (by decide +kernel) (by decide) (by decide) hk hx) rfl) (fun _ => rfl)
  refine range_then fun s₁ r u v ⟨h₂, tk₂, e₂⟩ keep₂ hr₂ => iter_then hn hr₂ fun s₂ I ⟨h₃, e₃⟩ keep₃ hI hI2 hit => ?_
  subst e₂ e₃
  have keepA : ∀ b o, s.heap.get? b = some o → h₃.get? b = some o := fun b o e => keep₃ b o (keep₂ b o e)
  have hnI : s.heap.get? I = none := by
    cases e : s.heap.get? I with
    | none => rfl
    | some o => exact absurd (Nat.lt_of_lt_of_le (Heap.lt_size (keep₂ I o e)) hI) (Nat.lt_irrefl _)
  have W := Walks.range (prog := prog) (w := w) hA I 0 1 n
  have live : ∀ i h, IsRangeIter h I (0 + (i : Nat) * 1) ((n : Int) - (i : Nat)) 1 → ∀ b ∈ [I], ∃ o, h.get? b = some o := fun i h hi b hb => by
    obtain rfl : b = I := by simpa using hb
    exact ⟨_, hi⟩
  have O' : Own h₀ L h₃ m (⟨[I], fun h => IsRangeIter h I (0 + (0 : Nat) * 1) ((n : Int) - (0 : Nat)) 1⟩ :: cs) := by
    refine O.new keepA hit (fun h h' x k => W.frame 0 h h' x k) fun b hb => ?_
    obtain rfl : b = I := by simpa using hb
    exact ⟨hnI, live 0 h₃ hit _ (by simp)⟩
  refine loopF (s := { s with heap := h₃, toks := tk₂ }) W live inv Fin O' h0 (fun i m cs v h tk hi hP hinv hO => ?_) done fin hk hl
  obtain ⟨t, rfl⟩ := hP
  have e1 : (0 : Int) + (i : Nat) * 1 = i := by omega
  rw [e1] at hO
  exact turn i m cs I t h tk hi hinv hO
end
end Mine
end

section
open PySem PySem.W PyProof.Rows PySem.Calls
namespace Mine

def flagNames : List Str := ["OPTIMIZED", "NEWLOCALS", "VARARGS", "VARKEYWORDS", "NESTED", "GENERATOR", "NOFREE", "COROUTINE", "ITERABLE_COROUTINE", "ASYNC_GENERATOR"]
/-- the word of a place, as pretty_flags writes it -/
def wordAt (i : Nat) : Str := if i < 10 then flagNames.getD i (Str.ofString "") else baseText "0x" 16 (2 ^ i)
/-- the places below k that are set in n -/
def setBelow (n : Int) (k : Nat) : List Nat := (List.range k).filter fun i => n / 2 ^ i % 2 == 1
def partsOf (n : Int) : List Str := (setBelow n 32).map wordAt ++ (if n / 2 ^ 32 ≠ 0 ∨ setBelow n 32 = [] then [baseText "0x" 16 (n / 2 ^ 32 * 2 ^ 32)] else [])
def prettyOf (n : Int) : Str := Txt.join ", " (partsOf n)

theorem setBelow_succ (n : Int) (k : Nat) : setBelow n (k + 1) = setBelow n k ++ (if n / 2 ^ k % 2 = 1 then [k] else []) := by
  unfold setBelow
  rw [List.range_succ, List.filter_append]
  congr 1
  by_cases h : n / 2 ^ k % 2 = 1
  · simp [h]
  · simp [h]

theorem pow_pos2 (k : Nat) : (0 : Int) < 2 ^ k := Int.pow_pos (by decide)

theorem div_succ (n : Int) (k : Nat) : n / 2 ^ (k + 1) = n / 2 ^ k / 2 := by
  rw [Int.pow_succ, ← Int.ediv_ediv_of_nonneg (Int.le_of_lt (pow_pos2 k))]

theorem pow_cast (k : Nat) : ((2 ^ k : Nat) : Int) = 2 ^ k := by push_cast; rfl

theorem flags_get {i : Nat} {v : Value} (h : PyProof.V.Flat v ((Spec.lookup (.int (2 ^ i)) flagsD).getD (.str (baseText "0x" 16 (2 ^ i))))) : ∃ u, v = .str (wordAt i) u := by
  have key : (Spec.lookup (.int (2 ^ i)) flagsD).getD (.str (baseText "0x" 16 (2 ^ i))) = .str (wordAt i) := by
    rcases Nat.lt_or_ge i 10 with hi | hi
    · match i, hi with
      | 0, _ | 1, _ | 2, _ | 3, _ | 4, _ | 5, _ | 6, _ | 7, _ | 8, _ | 9, _ => kernel_rfl
    · have hb : (1024 : Int) ≤ 2 ^ i := by
        have : (2 : Nat) ^ 10 ≤ 2 ^ i := Nat.pow_le_pow_right (by decide) hi
        have h2 := pow_cast i
        omega
      have e : Spec.lookup (.int (2 ^ i)) flagsD = none := by
        have ne : ∀ k : Int, k < 1024 → Spec.same (.int k) (.int (2 ^ i)) = false := fun k hk => by
          simp only [Spec.same, beq_eq_false_iff_ne]; omega
        simp only [flagsD, Spec.lookup, ne _ (show (1 : Int) < 1024 by decide), ne _ (show (2 : Int) < 1024 by decide), ne _ (show (4 : Int) < 1024 by decide), ne _ (show (8 : Int) < 1024 by decide), ne _ (show (16 : Int) < 1024 by decide),
          ne _ (show (32 : Int) < 1024 by decide), ne _ (show (64 : Int) < 1024 by decide), ne _ (show (128 : Int) < 1024 by decide), ne _ (show (256 : Int) < 1024 by decide), ne _ (show (512 : Int) < 1024 by decide), Bool.false_eq_true, if_false]
      rw [e, wordAt, if_neg (by omega)]; rfl
  rw [key] at h
  exact h.str_inv

theorem hex_short {n : Int} {k : Nat} (hk : 1 ≤ k) (hn : n.natAbs < 16 ^ k) : (baseText "0x" 16 n).length ≤ k + 3 := by
  unfold baseText
  have h1 := PySem.toDigits_len_pow (b := 16) (by decide) hk hn
  rw [Str.length_append, Str.length_append, PySem.ofString_length, PySem.ofString_length, PySem.ofString_length]
  have h2 : (if n < 0 then "-" else "").length ≤ 1 := by split <;> decide
  have h3 : ("0x" : String).length = 2 := by decide
  have h4 : (String.ofList (Nat.toDigits 16 n.natAbs)).length = (Nat.toDigits 16 n.natAbs).length := String.length_ofList
  omega

theorem wordAt_short {i : Nat} (hi : i < 32) : (wordAt i).length ≤ 64 := by
  rcases Nat.lt_or_ge i 10 with h | h
  · match i, h with
    | 0, _ | 1, _ | 2, _ | 3, _ | 4, _ | 5, _ | 6, _ | 7, _ | 8, _ | 9, _ => decide +kernel
  · unfold wordAt
    rw [if_neg (by omega)]
    refine Nat.le_trans (hex_short (k := 10) (by decide) ?_) (by decide)
    have h1 : ((2 : Int) ^ i).natAbs = 2 ^ i := by rw [← pow_cast, Int.natAbs_natCast]
    rw [h1]
    exact Nat.lt_of_lt_of_le (Nat.pow_lt_pow_right (by decide) hi) (by decide)

theorem joinOk_small {texts : List Str} (h : ∀ t ∈ texts, t.length ≤ 1000) (hl : texts.length ≤ 1000) : JoinOk ", " texts = true := by
  have key : ∀ (l : List Str) (a : Nat), (∀ t ∈ l, t.length ≤ 1000) → l.foldl (fun x t => x + t.length + (", " : Str).length) a ≤ a + 1002 * l.length := by
    intro l
    induction l with
    | nil => intro a _; simp
    | cons x r ih =>
      intro a h
      have h1 := h x (by simp)
      have h2 := ih (a + x.length + (", " : Str).length) fun t ht => h t (by simp [ht])
      have h3 : (", " : Str).length = 2 := by decide
      rw [List.foldl_cons, List.length_cons]
      rw [h3] at h2 ⊢
      omega
  have := key texts 0 h
  unfold JoinOk PySem.Builtin.Str.tooLong
  simp only [List.foldl_toArray]
  rw [sizeLine_eq]
  simp only [Bool.not_eq_true', decide_eq_false_iff_not]
  omega
end Mine
end

section
open PySem PySem.W PyProof.Rows PySem.Calls
namespace Mine

theorem bit_flag (n : Int) (i : Nat) : Builtin.bitAnd (n / 2 ^ i * 2 ^ i) (1 * 2 ^ i) = n / 2 ^ i % 2 * 2 ^ i := by
  rw [Int.one_mul, kbt_bit, Int.mul_ediv_cancel _ (Int.ne_of_gt (pow_pos2 i))]
theorem xor_flag {n : Int} {i : Nat} (h : n / 2 ^ i % 2 = 1) : Builtin.bitXor (n / 2 ^ i * 2 ^ i) (1 * 2 ^ i) = n / 2 ^ (i + 1) * 2 ^ (i + 1) := by
  rw [bitXor_and, bit_flag, h, div_succ, Int.pow_succ]
  have e : n / 2 ^ i = 2 * (n / 2 ^ i / 2) + 1 := by omega
  generalize n / 2 ^ i = q at *
  generalize q / 2 = r at *
  subst e
  generalize (2 : Int) ^ i = p
  rw [Int.add_mul, Int.one_mul, ← Int.mul_assoc r p 2, Int.mul_comm 2 r, Int.mul_assoc r 2 p, Int.mul_comm 2 p, ← Int.mul_assoc]
  omega
theorem flag_not {n : Int} {i : Nat} (h : n / 2 ^ i % 2 ≠ 1) : n / 2 ^ i * 2 ^ i = n / 2 ^ (i + 1) * 2 ^ (i + 1) := by
  rw [div_succ, Int.pow_succ]
  have e : n / 2 ^ i = 2 * (n / 2 ^ i / 2) := by omega
  generalize n / 2 ^ i = q at *
  generalize q / 2 = r at *
  subst e
  generalize (2 : Int) ^ i = p
  rw [← Int.mul_assoc r p 2, Int.mul_comm 2 r, Int.mul_assoc r 2 p, Int.mul_comm 2 p, ← Int.mul_assoc]

theorem setBelow_mono {n : Int} {k j : Nat} (hkj : k ≤ j) (h : n / 2 ^ k = 0) : setBelow n j = setBelow n k := by
  induction hkj with
  | refl => rfl
  | @step j hj ih =>
    have e : n / 2 ^ j = 0 := by
      clear ih
      induction hj with
      | refl => exact h
      | @step j _ ih => rw [div_succ, ih]; rfl
    rw [setBelow_succ, e, ih]; simp
theorem div_mono {n : Int} {k j : Nat} (hkj : k ≤ j) (h : n / 2 ^ k = 0) : n / 2 ^ j = 0 := by
  induction hkj with
  | refl => exact h
  | @step j _ ih => rw [div_succ, ih]; rfl

theorem parts_break {n : Int} {k : Nat} (hk : k ≤ 32) (h : n / 2 ^ k = 0) (hne : setBelow n k ≠ []) : partsOf n = (setBelow n k).map wordAt := by
  unfold partsOf
  rw [setBelow_mono hk h, div_mono hk h]
  simp [hne]
theorem parts_end {n : Int} (h : setBelow n 32 ≠ [] → n / 2 ^ 32 ≠ 0) : partsOf n = (setBelow n 32).map wordAt ++ [baseText "0x" 16 (n / 2 ^ 32 * 2 ^ 32)] := by
  unfold partsOf
  rw [if_pos]
  by_cases e : setBelow n 32 = []
  · exact .inr e
  · exact .inl (h e)

theorem nat_hex {n : Int} (h : n.natAbs < 2 ^ 200) : (n / 2 ^ 32 * 2 ^ 32).natAbs < 16 ^ 60 := by
  have e1 : (2 : Nat) ^ 200 = 1606938044258990275541962092341162602522202993782792835301376 := by decide
  have e2 : (16 : Nat) ^ 60 = 1766847064778384329583297500742918515827483896875618958121606201292619776 := by decide
  rw [e1] at h; rw [e2]
  omega
theorem setBelow_lt {n : Int} {k i : Nat} (h : i ∈ setBelow n k) : i < k := by
  unfold setBelow at h
  exact List.mem_range.mp (List.mem_filter.mp h).1
theorem setBelow_len (n : Int) (k : Nat) : (setBelow n k).length ≤ k := by
  unfold setBelow
  exact Nat.le_trans (List.length_filter_le ..) (by simp)
theorem parts_ok {n : Int} (h : n.natAbs < 2 ^ 200) : JoinOk ", " (partsOf n) = true := by
  refine joinOk_small (fun t ht => ?_) ?_
  · unfold partsOf at ht
    rcases List.mem_append.mp ht with ht | ht
    · obtain ⟨i, hi, rfl⟩ := List.mem_map.mp ht
      exact Nat.le_trans (wordAt_short (setBelow_lt hi)) (by decide)
    · split at ht
      · obtain rfl := List.mem_singleton.mp ht
        exact Nat.le_trans (hex_short (k := 60) (by decide) (nat_hex h)) (by decide)
      · cases ht
  · unfold partsOf
    have := setBelow_len n 32
    rw [List.length_append, List.length_map]
    split <;> simp only [List.length_singleton, List.length_nil] <;> omega

theorem strValues_push (l : List (Str × Tok)) (x : Str) (t : Tok) : (strValues l).toArray.push (.str x t) = (strValues (l ++ [(x, t)])).toArray := by
  simp [strValues]

section
variable {w : World} {A : Around} {E : Value → Shared → Prop} {s : Shared} {name : Str} {scope : Scope} {L a : Addr} {cd : Value} {h₀ : Heap} {m : Str → Option Value} {cs : List Cell} {N : Nat} {mg mb : Str → Option Value}

/-- hex(x) of a local name -/
theorem hexO {x : Str} {p1 p2 pos : Pos} {i : Int} {t : Tok} {Q : Value → Shared → Prop} (O : Own h₀ L s.heap m cs) (G : GB w N mg mb h₀) (hv : m x = some (.int i t)) (hi : i.natAbs < 16 ^ 60)
    (h : ∀ u tk, Q (.str (baseText "0x" 16 i) u) { s with toks := tk })
    (hk : scope.kind = .function := by rfl) (hl : (envOf name scope L a cd).kindOf x = some .local := by rfl) (hx : (envOf name scope L a cd).kindOf "hex" = some .globalImplicit := by rfl) (hd : (x == ("__debug__" : Str)) = false := by decide) :
    wpAny (model PySem.Challenge.pw_dm0070_02 w) A (eval (.Call (.Name "hex" p1) [.Name x p2] [] pos) (envOf name scope L a cd)) Q E s := by
  refine Call_Name1 (ldB O G (v := .builtin "hex") (by rfl) (PySem.callWith_builtin1 (ldO O hv ?_ hk hl hd)) (by decide +kernel) (by decide) (by decide) hk hx) rfl
  have := hex_short (k := 60) (by decide) hi
  exact P.hex_of_int (h _ _) (by rw [sizeLine_eq]; omega)
end

section
variable {w : World} {A : Around} {E : Value → Shared → Prop} {s : Shared} {N : Nat} {mg mb : Str → Option Value}
set_option maxRecDepth 100000 in
set_option maxHeartbeats 4000000 in
theorem pretty_call {f : Addr} {n : Int} {t : Tok} {Q : Value → Shared → Prop} (G : GB w N mg mb s.heap) (hf : mg "pretty_flags" = some (.ref f))
   (hA : A.handled = none) (hroom : A.depth < recursionLimit) (hn : n.natAbs < 2 ^ 200) (hQ : ∀ h' tk u, (∀ b o, s.heap.get? b = some o → h'.get? b = some o) → Q (.str (prettyOf n) u) { s with heap := h', toks := tk }) :
   wpAny (model PySem.Challenge.pw_dm0070_02 w) A (call (.ref f) [.int n t]) Q E s := by
  refine call_def (d := defAt PySem.Challenge.pw_dm0070_02 11) (binds := [("flags", .int n t)]) G.G (by simp) (by rfl) hf hroom (fun _ _ _ => by rfl) (fun x hx => ?_) (fun h₁ tk cd O => ?_) (by decide +kernel) (by decide +kernel) (by decide +kernel) (by decide +kernel)
  · obtain rfl := List.mem_singleton.mp hx
    exact (by decide +kernel : (defAt PySem.Challenge.pw_dm0070_02 11).scope.names.lookup ("flags" : Str) = some .local)
  have hAd : (A.deeper (envOf (defAt PySem.Challenge.pw_dm0070_02 11).name (defAt PySem.Challenge.pw_dm0070_02 11).scope s.heap.objs.size f cd)).handled = none := hA
  generalize (A.deeper (envOf (defAt PySem.Challenge.pw_dm0070_02 11).name (defAt PySem.Challenge.pw_dm0070_02 11).scope s.heap.objs.size f cd)) = A' at *
  generalize hL : s.heap.objs.size = L at *
  refine wpAny_execs_cons (wpAny_Assign_Name (list_nilO O fun D h₂ O₂ hD => stO O₂ fun h₃ tk₃ O₃ => ?_))
  refine wpAny_execs_cons (forRangeF (n := 32) O₃ G hAd (by decide)
    (fun i m cs => ∃ l tf, m "names" = some (.ref D) ∧ m "flags" = some (.int (n / 2 ^ i * 2 ^ i) tf) ∧ cs = [listC D (strValues l).toArray] ∧ l.map (·.1) = (setBelow n i).map wordAt ∧ (setBelow n i ≠ [] → n / 2 ^ i ≠ 0))
    (fun m cs => ∃ l, m "names" = some (.ref D) ∧ cs = [listC D (strValues l).toArray] ∧ l.map (·.1) = partsOf n)
    ⟨[], t, by rfl, (upd_ne (by decide)).trans (by simp), by rfl, by simp [setBelow], by simp [setBelow]⟩ ?_ ?_ ?_)
  · rintro i m cs I ti h tk hi ⟨l, tf, m1, m2, rfl, hl, hz⟩ O
    refine wpAny_execs_cons (wpAny_Assign_Name (wpAny_BinOp (wpAny_Constant_int (ldO O upd_same (lshift_int_small (by omega) (by omega) (by decide) (stO O fun h₄ tk₄ O₄ => ?_))))))
    rw [Int.toNat_natCast] at O₄
    have f1 : upd (upd m "i" (.int i ti)) "flag" (.int (1 * 2 ^ i) (s.toks + 1)) "flags" = some (.int (n / 2 ^ i * 2 ^ i) tf) := (upd_ne (by decide)).trans ((upd_ne (by decide)).trans m2)
    refine wpAny_execs_cons (wpAny_If (isTrue_plain (wpAny_BinOp (ldO O₄ ((upd_ne (by decide)).trans ((upd_ne (by decide)).trans m2)) (ldO O₄ upd_same (and_int (P.truthy_int ?_)))))))
    rw [bit_flag]
    by_cases hb : n / 2 ^ i % 2 = 1
    · have hne : (n / 2 ^ i % 2 * 2 ^ i != 0) = true := by
        rw [hb, Int.one_mul, bne_iff_ne]; exact Int.ne_of_gt (pow_pos2 i)
      rw [hne, if_pos rfl]
      dsimp only at *
      refine wpAny_execs_cons (appendO O₄.swap (fun Q' hq => ldO O₄ ((upd_ne (by decide)).trans ((upd_ne (by decide)).trans m1)) hq) ?_ (by rfl) (by rfl))
      refine wpAny_Call_method (T := "dict") (id := "dict.get") (by rfl) (by rfl) (by rfl) F.plainAttrs_dict F.slot_dict_get F.type_dict_get (gl_tab (knd := PySem.intKind PySem.Challenge.pw_dm0070_02 w) (enc := PyData.int) (D := flagsD) O₄.fr G.G (List.mem_singleton.mpr rfl) fun b T => ?_)
      have T' := T.keep O₄.fr.keep
      refine ⟨T'.2.choose_spec.1.mapOf.typeIs, T'.2.choose_spec.1.mapOf.noDict, callWith_builtin (by rfl) (evalArgs_plain (spliced_cons (ldO O₄ upd_same (spliced_cons (hexO O₄ G upd_same ?_ fun u tk => spliced_nil ?_)))))⟩
      · have e : (1 * 2 ^ i : Int).natAbs = 2 ^ i := by rw [Int.one_mul, ← pow_cast, Int.natAbs_natCast]
        rw [e]
        exact Nat.lt_of_lt_of_le (Nat.pow_lt_pow_right (by decide) hi) (by decide)
      refine call_get2_intTab T' (PyProof.V.Flat.str _ _) fun v hv => ?_
      rw [Int.one_mul] at hv
      obtain ⟨u2, rfl⟩ := flags_get hv
      have hlen : l.length ≤ 32 := by
        have e := congrArg List.length hl
        rw [List.length_map, List.length_map] at e
        have := setBelow_len n i
        omega
      refine ⟨_, _, O₄.swap, by simp [strValues]; omega, fun h₅ O₅ => ?_⟩
      dsimp only at *
      rw [strValues_push] at O₅
      have hl' : (l ++ [(wordAt i, u2)]).map (·.1) = (setBelow n (i + 1)).map wordAt := by
        rw [setBelow_succ, if_pos hb, List.map_append, List.map_append, hl]; rfl
      have hne' : setBelow n (i + 1) ≠ [] := by rw [setBelow_succ, if_pos hb]; simp
      refine wpAny_execs_cons (wpAny_AugAssign_Name (ldn O₅.fr ((upd_ne (by decide)).trans ((upd_ne (by decide)).trans m2)) (ldO O₅ upd_same (ixor_int ?_))))
      rw [xor_flag hb]
      refine stO O₅ fun h₆ tk₆ O₆ => ?_
      dsimp only at *
      have k1 : (n / 2 ^ (i + 1) * 2 ^ (i + 1) != 0) = (n / 2 ^ (i + 1) != 0) := by
        rw [Bool.eq_iff_iff, bne_iff_ne, bne_iff_ne]
        have := pow_pos2 (i + 1)
        rw [ne_eq, ne_eq, Int.mul_eq_zero]
        exact not_congr ⟨fun x => x.resolve_right (Int.ne_of_gt this), .inl⟩
      refine wpAny_execs_cons (wpAny_If (isTrue_not (isTrue_plain (ldO O₆ upd_same (P.truthy_int ?_)))))
      rw [k1]
      by_cases hz' : n / 2 ^ (i + 1) = 0
      · rw [hz']
        simp only [bne_self_eq_false, Bool.not_false, if_true]
        refine wpAny_execs_cons (wpAny_Break ⟨_, _, _, _, _, rfl, ⟨l ++ [(wordAt i, u2)], ?_, rfl, hl'.trans (parts_break (by omega) hz' hne').symm⟩, O₆.swap⟩)
        exact (upd_ne (by decide)).trans ((upd_ne (by decide)).trans ((upd_ne (by decide)).trans m1))
      · have e : (n / 2 ^ (i + 1) != 0) = true := bne_iff_ne.mpr hz'
        simp only [e, Bool.not_true, Bool.false_eq_true, if_false]
        refine wpAny_execs_nil (wpAny_execs_nil (wpAny_execs_nil ⟨_, _, _, _, rfl, ⟨l ++ [(wordAt i, u2)], _, ?_, upd_same, rfl, hl', fun _ => hz'⟩, O₆.swap⟩))
        exact (upd_ne (by decide)).trans ((upd_ne (by decide)).trans ((upd_ne (by decide)).trans m1))
    · have h0 : n / 2 ^ i % 2 = 0 := by omega
      have e : (n / 2 ^ i % 2 * 2 ^ i != 0) = false := by rw [h0, Int.zero_mul]; rfl
      have es : setBelow n (i + 1) = setBelow n i := by rw [setBelow_succ, if_neg hb, List.append_nil]
      simp only [e, Bool.false_eq_true, if_false]
      refine wpAny_execs_nil (wpAny_execs_nil ⟨_, _, _, _, rfl, ⟨l, tf, (upd_ne (by decide)).trans ((upd_ne (by decide)).trans m1), ?_, rfl, by rw [es]; exact hl, fun hne => ?_⟩, O₄⟩)
      · rw [← flag_not hb]; exact (upd_ne (by decide)).trans ((upd_ne (by decide)).trans m2)
      · have := hz (es ▸ hne)
        rw [div_succ]
        omega
  · rintro m cs h tk ⟨l, tf, m1, m2, rfl, hl, hz⟩ O
    dsimp only at *
    have hlen : l.length ≤ 32 := by
      have e := congrArg List.length hl
      rw [List.length_map, List.length_map] at e
      have := setBelow_len n 32
      omega
    refine wpAny_execs_cons (appendO O (fun Q' hq => ldO O m1 hq) (hexO O G m2 (nat_hex hn) fun u tk => ⟨_, _, O, by simp [strValues]; omega, fun h₅ O₅ => wpAny_execs_nil ?_⟩) (by rfl) (by rfl))
    rw [strValues_push] at O₅
    exact ⟨_, _, _, _, rfl, ⟨_, m1, rfl, by rw [List.map_append, hl, parts_end hz]; rfl⟩, O₅⟩
  · rintro m cs h tk ⟨l, m1, rfl, hl⟩ O
    dsimp only at *
    refine wpAny_execs_cons (wpAny_Return_some ?_)
    with_reducible refine Call_method1 (by with_unfolding_all rfl) (by with_unfolding_all rfl) (by with_unfolding_all rfl) ?_
    refine Calls.Constant_str ?_
    with_reducible refine SB.join ?_
    refine ldO O m1 ?_
    refine ⟨D, l, rfl, O.list.isList, _, hl, parts_ok hn, fun t' k => ?_⟩
    exact hQ _ _ _ O.fr.keep
end
end Mine
end

section
open PySem PySem.W PyProof.Rows PySem.Calls
namespace Mine

section
variable {prog : Program} {w : World} {A : Around} {E : Value → Shared → Prop} {s : Shared} {name : Str} {scope : Scope} {L a : Addr} {cd : Value} {h₀ : Heap} {m : Str → Option Value} {cs : List Cell}
  {N : Nat} {mg mb : Str → Option Value}

theorem forRange10 {x : Str} {tp p1 pc pc2 p2 pos : Pos} {k k2 : Nat} {body orelse : List Stmt} {Q : Flow → Shared → Prop} (O : Own h₀ L s.heap m cs) (G : GB w N mg mb h₀) (hA : A.handled = none)
    (inv : Nat → (Str → Option Value) → List Cell → Prop) (Fin : (Str → Option Value) → List Cell → Prop) (h0 : inv 0 m cs)
    (turn : ∀ i m cs I t h tk, i < 22 → inv i m cs → Own h₀ L h (upd m x (.int (10 + (i : Int)) t)) (⟨[I], fun h => IsRangeIter h I (10 + ((i + 1 : Nat) : Int) * 1) (((22 : Nat) : Int) - ((i + 1 : Nat) : Int)) 1⟩ :: cs) →
      wpAny (model prog w) A (execs body (envOf name scope L a cd)) (fun f s' => match f with
        | .next | .cont => ∃ h' tk' m' cs', s' = { s with heap := h', toks := tk' } ∧ inv (i + 1) m' cs' ∧ Own h₀ L h' m' (⟨[I], fun h => IsRangeIter h I (10 + ((i + 1 : Nat) : Int) * 1) (((22 : Nat) : Int) - ((i + 1 : Nat) : Int)) 1⟩ :: cs')
        | .brk => ∃ h' tk' m' cs' c, s' = { s with heap := h', toks := tk' } ∧ Fin m' cs' ∧ Own h₀ L h' m' (c :: cs')
        | .ret v => Q (.ret v) s') (fun _ _ => False) { s with heap := h, toks := tk })
    (done : ∀ m cs h tk, inv 22 m cs → Own h₀ L h m cs → wpAny (model prog w) A (execs orelse (envOf name scope L a cd)) (fun f s' => match f with
        | .next => ∃ h' tk' m' cs', s' = { s with heap := h', toks := tk' } ∧ Fin m' cs' ∧ Own h₀ L h' m' cs'
        | _ => False) (fun _ _ => False) { s with heap := h, toks := tk })
    (fin : ∀ m cs h tk, Fin m cs → Own h₀ L h m cs → Q .next { s with heap := h, toks := tk })
    (hk : scope.kind = .function := by rfl) (hl : (envOf name scope L a cd).kindOf x = some .local := by rfl)
    (hx : (envOf name scope L a cd).kindOf "range" = some .globalImplicit := by rfl) :
    wpAny (model prog w) A (exec (.For (.Name x tp) (.Call (.Name "range" p1) [.Constant (.int 10) k pc, .Constant (.int 32) k2 pc2] [] p2) body orelse pos) (envOf name scope L a cd)) Q E s := by
  refine wpAny_For (Call_Name2 (ldB O G (v := .type "range") (by rfl) (PySem.callWith_type rfl (evalArgs_plain (spliced_cons (wpAny_Constant_int (spliced_cons (wpAny_Constant_int (spliced_nil (call_range_2 ?_)))))))) (by decide +kernel) (by decide) (by decide) hk hx) rfl) (fun _ => rfl)
  refine wpAny_pyIter_range (a := 10) (b := 32) (c := 1) (Heap.get?_push_size _ rfl) (by decide) ?_
  dsimp only
  generalize hh1 : s.heap.push { cls := .type "range", data := .fields #[.int 10 s.toks, .int 32 (s.toks + 1), .int 1 (s.toks + 1 + 1)] } = h₁
  generalize hI : h₁.objs.size = I
  generalize hh2 : h₁.push { cls := .type "range_iterator", data := .fields #[rawInt 10, rawInt (Builtin.Range.rangeSize 10 32 1), rawInt 1] } = h₂
  have hit : IsRangeIter h₂ I (10 + (0 : Nat) * 1) (((22 : Nat) : Int) - (0 : Nat)) 1 := by
    subst hI hh2; exact Heap.get?_push_size _ rfl
  have keep₁ : ∀ b o, s.heap.get? b = some o → h₁.get? b = some o := fun b o e => by subst hh1; exact Heap.get?_push_of_some _ e
  have keepA : ∀ b o, s.heap.get? b = some o → h₂.get? b = some o := fun b o e => by subst hh2; exact Heap.get?_push_of_some _ (keep₁ b o e)
  have hnI : s.heap.get? I = none := by
    cases e : s.heap.get? I with
    | none => rfl
    | some o => subst hI; exact absurd (Heap.lt_size (keep₁ _ o e)) (Nat.lt_irrefl _)
  have W := Walks.range (prog := prog) (w := w) hA I 10 1 22
  have live : ∀ i h, IsRangeIter h I (10 + (i : Nat) * 1) (((22 : Nat) : Int) - (i : Nat)) 1 → ∀ b ∈ [I], ∃ o, h.get? b = some o := fun i h hi b hb => by
    obtain rfl : b = I := by simpa using hb
    exact ⟨_, hi⟩
  have O' : Own h₀ L h₂ m (⟨[I], fun h => IsRangeIter h I (10 + (0 : Nat) * 1) (((22 : Nat) : Int) - (0 : Nat)) 1⟩ :: cs) := by
    refine O.new keepA hit (fun h h' x k => W.frame 0 h h' x k) fun b hb => ?_
    obtain rfl : b = I := by simpa using hb
    exact ⟨hnI, live 0 h₂ hit _ (by simp)⟩
  refine loopF (s := { s with heap := h₂, toks := s.toks + 1 + 1 + 1 }) W live inv Fin O' h0 (fun i m cs v h tk hi hP hinv hO => ?_) done fin hk hl
  obtain ⟨t, rfl⟩ := hP
  have e1 : (10 : Int) + (i : Nat) * 1 = 10 + i := by omega
  rw [e1] at hO
  exact turn i m cs I t h tk hi hinv hO

theorem strs_of : ∀ {vs : List Value} {xs : List Str}, DataAre vs (xs.map PyData.str) → ∃ l, vs = strValues l ∧ l.map (·.1) = xs
  | [], [], _ => ⟨[], rfl, rfl⟩
  | [], _ :: _, h => by cases h
  | _ :: _, [], h => by cases h
  | v :: vs, x :: xs, h => by
    cases h with
    | cons h1 h2 =>
      obtain ⟨t, rfl⟩ := h1.str
      obtain ⟨l, rfl, rfl⟩ := strs_of h2
      exact ⟨(x, t) :: l, rfl, rfl⟩

/-- a list of texts, written out -/
theorem list_strsO (xs : List Str) {env : Env} {elts : List Expr} {pos : Pos} {Q : Value → Shared → Prop} (O : Own h₀ L s.heap m cs) (hx : tupLitsOf elts = some (xs.map PyData.str)) (hlen : xs.length ≤ 2000)
    (h : ∀ D l h' tk, Own h₀ L h' m (listC D (strValues l).toArray :: cs) → l.map (·.1) = xs → Q (.ref D) { s with heap := h', toks := tk }) : wpAny (model prog w) A (eval (.List elts pos) env) Q E s := by
  rw [arm_eval_List]
  refine wpAny_bind (wpAny_standAt (wpAny_bind (spliced_lits elts _ _ _ hx fun vs tk hvs => ?_)))
  obtain ⟨l, rfl, rfl⟩ := strs_of hvs
  refine newListO (s := { s with toks := tk }) O ?_ fun D h' O' _ => h D l h' tk O' rfl
  rw [List.length_map] at hlen
  simpa [strValues] using hlen
end

local macro_rules | `(tactic| walk_at "B") => `(tactic| with_reducible refine wpAny_BinOp ?_)
local macro_rules | `(tactic| walk_at "S") => `(tactic| with_reducible refine Calls.Constant_str ?_)
local macro_rules | `(tactic| walk_at "I") => `(tactic| with_reducible refine wpAny_Constant_int ?_)
local macro_rules | `(tactic| walk_at "X") => `(tactic| with_reducible refine Subscript_ ?_)

def words32 : List Str := (List.range 32).map wordAt
theorem word_text {i : Nat} (hi : i < 22) : Str.ofString "0x" ++ Txt.item "1248" ((10 + (i : Int)).fmod 4) ++ Txt.mul "0" ((10 + (i : Int)).fdiv 4) = wordAt (10 + i) :=
  (by decide +kernel : ∀ i : Fin 22, Str.ofString "0x" ++ Txt.item "1248" ((10 + (i.val : Int)).fmod 4) ++ Txt.mul "0" ((10 + (i.val : Int)).fdiv 4) = wordAt (10 + i.val)) ⟨i, hi⟩
theorem sign4 {i : Nat} (hi : i < 22) : (Txt.charAt "1248" ((10 + (i : Int)).fmod 4)).isSome = true :=
  (by decide +kernel : ∀ i : Fin 22, (Txt.charAt "1248" ((10 + (i.val : Int)).fmod 4)).isSome = true) ⟨i, hi⟩
theorem sign4len {i : Nat} (hi : i < 22) : (Txt.item "1248" ((10 + (i : Int)).fmod 4)).length ≤ 10 :=
  (by decide +kernel : ∀ i : Fin 22, (Txt.item "1248" ((10 + (i.val : Int)).fmod 4)).length ≤ 10) ⟨i, hi⟩
theorem mul4len {i : Nat} (hi : i < 22) : (Txt.mul "0" ((10 + (i : Int)).fdiv 4)).length ≤ 10 :=
  (by decide +kernel : ∀ i : Fin 22, (Txt.mul "0" ((10 + (i.val : Int)).fdiv 4)).length ≤ 10) ⟨i, hi⟩

section
variable {w : World} {A : Around} {E : Value → Shared → Prop} {s : Shared} {N : Nat} {mg mb : Str → Option Value}
set_option maxRecDepth 100000 in
set_option maxHeartbeats 400000 in
theorem words_call {f : Addr} {Q : Value → Shared → Prop} (G : GB w N mg mb s.heap) (hf : mg "_law_words" = some (.ref f))
   (hA : A.handled = none) (hroom : A.depth < recursionLimit)
   (hQ : ∀ h' tk D l, (∀ b o, s.heap.get? b = some o → h'.get? b = some o) → h'.PlainList D (strValues l).toArray → l.map (·.1) = words32 → s.heap.get? D = none → Q (.ref D) { s with heap := h', toks := tk }) :
   wpAny (model PySem.Challenge.pw_dm0070_02 w) A (call (.ref f) []) Q E s := by
  refine call_def (d := defAt PySem.Challenge.pw_dm0070_02 13) (binds := []) G.G (by simp [ds2]) (by rfl) hf hroom (fun _ _ _ => by rfl) (fun x hx => nomatch hx) (fun h₁ tk cd O => ?_) (by decide +kernel) (by decide +kernel) (by decide +kernel) (by decide +kernel)
  have hAd : (A.deeper (envOf (defAt PySem.Challenge.pw_dm0070_02 13).name (defAt PySem.Challenge.pw_dm0070_02 13).scope s.heap.objs.size f cd)).handled = none := hA
  have hk : (defAt PySem.Challenge.pw_dm0070_02 13).scope.kind = .function := by decide +kernel
  have lp : (envOf (defAt PySem.Challenge.pw_dm0070_02 13).name (defAt PySem.Challenge.pw_dm0070_02 13).scope s.heap.objs.size f cd).kindOf "place" = some .local := by rfl
  generalize (A.deeper (envOf (defAt PySem.Challenge.pw_dm0070_02 13).name (defAt PySem.Challenge.pw_dm0070_02 13).scope s.heap.objs.size f cd)) = A' at *
  generalize hL : s.heap.objs.size = L at *
  refine wpAny_execs_cons ?_
  refine wpAny_Assign_Name ?_ ?_
  rotate_left
  · rfl
  refine @list_strsO _ _ _ _ _ _ _ _ _ flagNames _ _ _ _ O ?_ ?_ ?_
  · rfl
  · decide
  intro D l h₂ tk₂ O₂ hl
  refine stO O₂ fun h₃ tk₃ O₃ => ?_
  dsimp only at *
  refine wpAny_execs_cons (forRange10 O₃ G hAd
    (fun i m cs => ∃ l, m "words" = some (.ref D) ∧ cs = [listC D (strValues l).toArray] ∧ l.map (·.1) = (List.range (10 + i)).map wordAt)
    (fun m cs => ∃ l, m "words" = some (.ref D) ∧ cs = [listC D (strValues l).toArray] ∧ l.map (·.1) = words32)
    ⟨l, upd_same, rfl, hl.trans (by decide +kernel)⟩ ?_ ?_ ?_)
  · rintro i m cs I ti h tk hi ⟨l, m1, rfl, hl⟩ O
    dsimp only at *
    have hlen : l.length = 10 + i := by
      have e := congrArg List.length hl
      simpa using e
    have fm : (10 + (i : Int)).fmod 4 = (10 + (i : Int)) % 4 := Int.fmod_eq_emod_of_nonneg _ (by decide)
    have fd : (10 + (i : Int)).fdiv 4 = (10 + (i : Int)) / 4 := Int.fdiv_eq_ediv_of_nonneg _ (by decide)
    refine wpAny_execs_cons (appendO O.swap (fun Q' hq => ldO O ((upd_ne (by decide)).trans m1) hq) ?_ (by rfl) (by rfl))
    have c1 : -(((Str.ofString "1248").length : Nat) : Int) ≤ (10 + (i : Int)).fmod 4 ∧ (10 + (i : Int)).fmod 4 < (((Str.ofString "1248").length : Nat) : Int) := by
      have e : (Str.ofString "1248").length = 4 := by decide +kernel
      rw [fm, e]; omega
    have c2 : fitsSsize ((10 + (i : Int)).fmod 4) = true := by
      rw [fm]; unfold fitsSsize
      simp only [Bool.not_eq_true', Bool.or_eq_false_iff, decide_eq_false_iff_not]; omega
    have e1 : (Str.ofString "0x").length = 2 := by decide +kernel
    have e2 := sign4len hi
    have e3 := mul4len hi
    walk_at "B"; walk_at "B"; walk_at "S"; walk_at "X"; walk_at "S"; walk_at "B"
    with_reducible refine ldO O upd_same ?_ hk lp (by decide)
    walk_at "I"
    with_reducible refine PyProof.Rows.mod_int (by decide) ?_
    with_reducible refine item_str c2 c1.1 c1.2 (fun _ => ?_) (by with_unfolding_all rfl) (by intro _; with_unfolding_all rfl)
    with_reducible refine SB.add (fun t' k' => ?_) (by rw [sizeLine_eq]; omega)
    walk_at "B"; walk_at "S"; walk_at "B"
    with_reducible refine ldO O upd_same ?_ hk lp (by decide)
    walk_at "I"
    with_reducible refine floordiv_int (by decide) ?_ (Or.inl (PyProof.noPylong_small (by omega)))
    with_reducible refine SB.mul (mulOk_of 16 1000 (by decide) (by rw [fd]; omega) (by rw [fd]; omega) (by decide) (by decide)) (fun t2 k2 => ?_)
    with_reducible refine SB.add (fun t3 k3 => ?_) (by rw [Str.length_append, sizeLine_eq]; omega)
    refine ⟨_, _, O.swap, by simp [strValues]; omega, fun h₅ O₅ => wpAny_execs_nil ?_⟩
    rw [strValues_push] at O₅
    refine ⟨_, _, _, _, rfl, ⟨_, (upd_ne (by decide)).trans m1, rfl, ?_⟩, O₅.swap⟩
    rw [List.map_append, hl, ← Nat.add_assoc, List.range_succ, List.map_append]
    exact congrArg (fun z => List.map wordAt (List.range (10 + i)) ++ [z]) (word_text hi)
  · rintro m cs h tk ⟨l, m1, rfl, hl⟩ O
    exact wpAny_execs_nil ⟨_, _, _, _, rfl, ⟨l, m1, rfl, hl⟩, O⟩
  · rintro m cs h tk ⟨l, m1, rfl, hl⟩ O
    dsimp only at *
    refine wpAny_execs_cons (wpAny_Return_some (ldO O m1 ?_))
    have hD : s.heap.get? D = none := (O.live _ (List.mem_singleton.mpr rfl) D (by simp [listC])).2.1
    exact hQ _ _ _ _ O.fr.keep O.list hl hD
end
end Mine
end

section
open PySem PySem.W PyProof.Rows PySem.Calls
namespace Mine

def enumD (ws : List Str) : List (Str × Int) := ws.zipIdx.map fun p => (p.1, (p.2 : Int))
theorem enumD_snoc (ws : List Str) (x : Str) : enumD (ws ++ [x]) = enumD ws ++ [(x, (ws.length : Int))] := by
  simp [enumD, List.zipIdx_append]
theorem enumD_keys (ws : List Str) : (enumD ws).map (·.1) = ws := by
  unfold enumD
  rw [List.map_map]
  have : ((fun x : Str × Int => x.1) ∘ fun p : Str × Nat => (p.1, (p.2 : Int))) = Prod.fst := rfl
  rw [this, List.zipIdx_map_fst]
theorem stored_fresh {kvs : List (Str × Value)} {k : Str} {v : Value} (h : k ∉ kvs.map (·.1)) : stored kvs k v = kvs ++ [(k, v)] := by
  unfold stored
  rw [if_neg]
  simp only [List.any_eq_true, decide_eq_true_eq, not_exists, not_and]
  exact fun p hp e => h (List.mem_map.mpr ⟨p, hp, e⟩)

section
variable {prog : Program} {w : World} {A : Around} {E : Value → Shared → Prop} {R : Result → Shared → Prop} {s : Shared}

theorem comp_enum_loop {kp vp q1 q2 tp pos : Pos} {iterE : Expr} {scope : Scope} {k : Nat} {xi xw : Str} {e it l D : Addr} {ws : List (Str × Tok)} {cenv : Env} {m : Str → Option Value}
    (hh : A.handled = none) (hkc : cenv.scope.kind = .function) (hxi : cenv.kindOf xi = some .local) (hxw : cenv.kindOf xw = some .local) (hne : xi ≠ xw)
    (hdb : (xi == ("__debug__" : Str)) = false ∧ (xw == ("__debug__" : Str)) = false)
    (hei : e ≠ it) (hle : l ≠ e) (hli : l ≠ it) (heC : e ≠ cenv.locals) (hiC : it ≠ cenv.locals) (hlC : l ≠ cenv.locals) (hDC : D ≠ cenv.locals) (hDe : D ≠ e) (hDi : D ≠ it) (hDl : D ≠ l)
    (he : IsEnum s.heap e it 0 .none) (hit : s.heap.IsListIter it l 0) (hl : s.heap.IsList l (strValues ws).toArray) (hD : s.heap.DictOf (PySem.strKind prog w) D []) (hn : s.heap.Ns cenv.locals m)
    (hnd : (ws.map (·.1)).Nodup) (hsz : ws.length ≤ 1000)
    (hR : ∀ h' tk m' kvs, h'.Ns cenv.locals m' → h'.DictOf (PySem.strKind prog w) D kvs → SI kvs (enumD (ws.map (·.1))) →
      (∀ b o, b ≠ cenv.locals → b ≠ e → b ≠ it → b ≠ D → s.heap.get? b = some o → h'.get? b = some o) → R (.ok .next) { s with heap := h', toks := tk }) :
    codeAny (model prog w) A (.compLoop (.DictComp (.Name xw kp) (.Name xi vp) [⟨.Tuple [.Name xi q1, .Name xw q2] k tp, iterE, [], 0⟩] scope pos) 0 (.ref e) (.ref D) cenv) R s := by
  have hp : (cenv.scope.kind == .class || (cenv.scope.kind == .module && cenv.locals != cenv.globals)) = false := by rw [hkc]; rfl
  have hsize : (strValues ws).toArray.size = ws.length := by simp [strValues]
  refine codeAny_loop rfl
    (fun kk s' => ∃ h' tk m' i old kvs, s' = { s with heap := h', toks := tk } ∧ IsEnum h' e it ((i : Nat) : Int) old ∧ h'.IsListIter it l i ∧ h'.IsList l (strValues ws).toArray ∧ h'.Ns cenv.locals m' ∧ h'.DictOf (PySem.strKind prog w) D kvs ∧
      SI kvs (enumD ((ws.map (·.1)).take i)) ∧ i ≤ ws.length ∧ kk = ws.length + 1 - i ∧ ∀ b o, b ≠ cenv.locals → b ≠ e → b ≠ it → b ≠ D → s.heap.get? b = some o → h'.get? b = some o)
    (fun kk s' hI => ?_) (ws.length + 1)
    ⟨s.heap, s.toks, m, 0, .none, [], rfl, he, hit, hl, hn, hD, by simpa [enumD] using SI.nil, Nat.zero_le _, rfl, fun _ _ _ _ _ _ x => x⟩
  show wpAny _ A ((compTurn (.DictComp (.Name xw kp) (.Name xi vp) [⟨.Tuple [.Name xi q1, .Name xw q2] k tp, iterE, [], 0⟩] scope pos) 0 (.ref e) (.ref D) cenv).onRaise (fun x => do noteFrame x cenv; theTreesLotGoes x)) _ _ s'
  refine wpAny_noted ?_
  rw [compTurn_dict]
  refine wpAny_bind (wpAny_standAt (wpAny_bind ?_))
  obtain ⟨H, tk, m', i, old, kvs, rfl, he', hit', hl', hn', hD', hS, hi, rfl, hk⟩ := hI
  obtain ⟨oe, hoe⟩ : ∃ o, H.get? e = some o := ⟨_, he'⟩
  have heH : e < H.objs.size := Heap.lt_size he'
  have hLH : cenv.locals < H.objs.size := hn'.lt
  obtain ⟨oi, hoi, _⟩ := id hit'
  obtain ⟨ol, hol, _⟩ := id hl'
  obtain ⟨oD, _, _, hoD, _⟩ := id hD'
  have hiH : it < H.objs.size := Heap.lt_size hoi
  have hlH : l < H.objs.size := Heap.lt_size hol
  have hDH : D < H.objs.size := Heap.lt_size hoD
  rcases Nat.lt_or_ge i ws.length with hlt | hge
  · have hv : (strValues ws).toArray[i]? = some (.str ws[i].1 ws[i].2) := by simp [strValues, hlt]
    refine wpAny_pyNext_enum_item he' hit' hl' hv hei fun h₁ heo hit₁ ht₁ hz₁ hk₁ => ?_
    refine wpAny_bind (wpAny_letOwnedTupleGo_enum heo fun h₂ he₂ hs₂ => ?_)
    replace hs₂ : Heap.SameBut e h₁ h₂ := hs₂
    have ht₂ : h₂.IsTuple H.objs.size #[.int i tk, .str ws[i].1 ws[i].2] := ⟨_, (hs₂.2 _ (Nat.ne_of_gt heH)).trans ht₁, rfl, _, rfl⟩
    have hz₂ : h₂.objs.size = H.objs.size + 1 := hs₂.1.trans hz₁
    refine wpAny_bind (wpAny_assign_Tuple hh ht₂ rfl rfl fun h₃ hx₃ => ?_)
    replace hx₃ : Heap.ExtBut h₂.objs.size h₂ h₃ := hx₃
    have old₃ : ∀ b o, b < H.objs.size → h₂.get? b = some o → h₃.get? b = some o := fun b o hb x => hx₃ b o (by rw [hz₂]; exact Nat.ne_of_lt (Nat.lt_succ_of_lt hb)) x
    have hn₃ : h₃.Ns cenv.locals m' := (hn'.at fun o x => hk₁ _ o (Ne.symm heC) (Ne.symm hiC) x).sameBut hs₂ (Ne.symm heC) |>.at fun o x => old₃ _ o hLH x
    show wpAny _ A (do holding [.str ws[i].1 ws[i].2] (assign (.Name xi q1) cenv (.int i tk)); do holding [] (assign (.Name xw q2) cenv (.str ws[i].1 ws[i].2)); pure ()) _ _ _
    refine wpAny_bind (wpAny_holding (wpAny_assign_Name (wpAny_storeName_local hxi hn₃ (fun h₄ hn₄ hs₄ => ?_) hp)))
    replace hs₄ : Heap.SameBut cenv.locals h₃ h₄ := hs₄
    refine wpAny_bind (wpAny_holding (wpAny_assign_Name (wpAny_storeName_local hxw hn₄ (fun h₅ hn₅ hs₅ => wpAny_pure ?_) hp)))
    replace hs₅ : Heap.SameBut cenv.locals h₄ h₅ := hs₅
    have up : ∀ b o, b ≠ cenv.locals → b < H.objs.size → h₂.get? b = some o → h₅.get? b = some o := fun b o hbL hb x =>
      hs₅.extBut b o hbL (hs₄.extBut b o hbL (old₃ b o hb x))
    have hD₅ : h₅.DictOf (PySem.strKind prog w) D kvs := hD'.at fun o x => up D o hDC hDH (hs₂.extBut D o hDe (hk₁ D o hDe hDi x))
    have hnot : ws[i].1 ∉ kvs.map (·.1) := by
      rw [hS.keys, enumD_keys]
      intro hm
      obtain ⟨j, hj, ej⟩ := List.mem_iff_getElem.mp hm
      rw [List.getElem_take, List.getElem_map] at ej
      rw [List.length_take] at hj
      have hj1 : j < i := by omega
      exact List.pairwise_iff_getElem.mp hnd j i (by simp; omega) (by simpa using hlt) hj1 (by simpa using ej)
    have hkl : kvs.length ≤ 1000 := by
      have e1 := hS.length
      have e2 : (enumD ((ws.map (·.1)).take i)).length = min i ws.length := by simp [enumD]
      omega
    refine wpAny_bind (wpAny_pure ?_)
    dsimp only
    rw [if_pos rfl]
    refine wpAny_bind (wpAny_bind (wpAny_Name (wpAny_loadName_local hkc hxw hn₅ (if_pos rfl) (wpAny_bind (wpAny_holding (wpAny_Name (wpAny_loadName_local hkc hxi hn₅ ((if_neg hne).trans (if_pos rfl)) (wpAny_bind (wpAny_standAt (wpAny_holding (wpAny_dictSet_pairs (knd := PySem.strKind prog w) (k := ws[i].1) ?_ hD₅ (fun h₆ hl₆ hs₆ => ?_) (by rw [sizeLine_eq]; omega)))))) hdb.1)))) hdb.2))
    · exact PySem.strKind_is prog w _ _
    · rw [stored_fresh hnot] at hl₆
      refine wpAny_pure ⟨rfl, ws.length + 1 - (i + 1), by omega, h₆, _, _, i + 1, .str ws[i].1 ws[i].2, _, rfl, ?_, ?_, ?_, hn₅.sameBut hs₆ (Ne.symm hDC), hl₆, ?_, hlt, rfl, fun b o hbL hbe hbi hbD x => ?_⟩
      · have : ((i + 1 : Nat) : Int) = (i : Int) + 1 := by push_cast; rfl
        rw [this]
        exact hs₆.extBut _ _ (Ne.symm hDe) (up e _ heC heH he₂)
      · exact (hit₁.extBut hs₂.extBut (Ne.symm hei)).at fun o x => hs₆.extBut _ _ (Ne.symm hDi) (up it o hiC hiH x)
      · exact ((hl'.at fun o x => hk₁ l o hle hli x).extBut hs₂.extBut hle).at fun o x => hs₆.extBut _ _ (Ne.symm hDl) (up l o hlC hlH x)
      · have et : (ws.map (·.1)).take (i + 1) = (ws.map (·.1)).take i ++ [ws[i].1] := by
          rw [List.take_succ_eq_append_getElem (by simpa using hlt)]; simp
        rw [et, enumD_snoc]
        have el : ((ws.map (·.1)).take i).length = i := by simp; omega
        rw [el]
        exact hS.append (.cons .nil)
      · have hbH : b < H.objs.size := Heap.lt_size (hk b o hbL hbe hbi hbD x)
        exact hs₆.extBut b o hbD (up b o hbL hbH (hs₂.extBut b o hbe (hk₁ b o hbe hbi (hk b o hbL hbe hbi hbD x))))
  · obtain rfl : i = ws.length := by omega
    refine wpAny_pyNext_enum_end hh he' hit' hl' (Array.getElem?_eq_none (by rw [hsize]; exact Nat.le_refl _)) fun h₁ hx => wpAny_pure ?_
    refine hR h₁ tk m' kvs (hn'.extBut hx (Ne.symm hiC)) (hD'.at fun o x => hx D o hDi x) ?_ fun b o hbL hbe hbi hbD x => hx b o hbi (hk b o hbL hbe hbi hbD x)
    have : (ws.map (·.1)).take ws.length = ws.map (·.1) := List.take_of_length_le (by simp)
    rw [this] at hS; exact hS
end
end Mine
end

section
open PySem PySem.W PyProof.Rows PySem.Calls
namespace Mine

theorem neA {x y : Addr} (h : @Ne Nat x y) : x ≠ y := h
theorem none_at {h : Heap} {a : Addr} (ha : h.objs.size ≤ a) : h.get? a = none := by
  cases e : h.get? a with
  | none => rfl
  | some o' => exact absurd (Heap.lt_size e) (Nat.not_lt.mpr ha)

def dictC (prog : Program) (w : World) (D : Addr) (kvs : List (Str × Value)) : Cell := ⟨[D], fun h => h.DictOf (PySem.strKind prog w) D kvs⟩
theorem dictC_ok {prog : Program} {w : World} {D : Addr} {kvs : List (Str × Value)} : (dictC prog w D kvs).Ok := fun h h' x k => Heap.DictOf.at x fun o e => k D (by simp [dictC]) o e

section
variable {w : World} {A : Around} {E : Value → Shared → Prop} {s : Shared} {name : Str} {scope : Scope} {L a : Addr} {cd : Value} {h₀ : Heap} {m : Str → Option Value} {cs : List Cell} {N : Nat} {mg mb : Str → Option Value}

/-- y = {word: i for i, word in enumerate(list)} -/
theorem assign_enumO {kp vp q1 q2 tp pos p3 p4 p5 py spos : Pos} {cscope : Scope} {k : Nat} {xi xw xl y : Str} {l : Addr} {ws : List (Str × Tok)} {Q : Flow → Shared → Prop}
    (O : Own h₀ L s.heap m cs) (G : GB w N mg mb h₀) (hh : A.handled = none) (hv : m xl = some (.ref l)) (hL : s.heap.IsList l (strValues ws).toArray) (hnd : (ws.map (·.1)).Nodup) (hsz : ws.length ≤ 1000)
    (h : ∀ D h' tk kvs, Own h₀ L h' (upd m y (.ref D)) (dictC PySem.Challenge.pw_dm0070_02 w D kvs :: cs) → SI kvs (enumD (ws.map (·.1))) → Q .next { s with heap := h', toks := tk })
    (hsw : swapsWith (.DictComp (.Name xw kp) (.Name xi vp) [⟨.Tuple [.Name xi q1, .Name xw q2] k tp, .Call (.Name "enumerate" p3) [.Name xl p4] [] p5, [], 0⟩] cscope pos) (some (.Name y py)) spos.line (envOf name scope L a cd) = pure true)
    (hfree : ∀ y ∈ cscope.names, y.2 ≠ .free) (hcell : ∀ y ∈ cscope.names, y.2 ≠ .cell) (hkind : cscope.kind = .function)
    (hnames : ∀ y ∈ cscope.names, y.2 = .local → cscope.names.lookup y.1 = some .local) (hxi : cscope.names.lookup xi = some .local) (hxw : cscope.names.lookup xw = some .local) (hne : xi ≠ xw)
    (hdb : (xi == ("__debug__" : Str)) = false ∧ (xw == ("__debug__" : Str)) = false)
    (hk : scope.kind = .function) (hl : (envOf name scope L a cd).kindOf xl = some .local) (hy : (envOf name scope L a cd).kindOf y = some .local) (hx : (envOf name scope L a cd).kindOf "enumerate" = some .globalImplicit) (hd : (xl == ("__debug__" : Str)) = false) :
    wpAny (model PySem.Challenge.pw_dm0070_02 w) A (exec (.Assign [.Name y py] (.DictComp (.Name xw kp) (.Name xi vp) [⟨.Tuple [.Name xi q1, .Name xw q2] k tp, .Call (.Name "enumerate" p3) [.Name xl p4] [] p5, [], 0⟩] cscope pos) spos) (envOf name scope L a cd)) Q E s := by
  have hp : ((envOf name scope L a cd).scope.kind == .class || ((envOf name scope L a cd).scope.kind == .module && (envOf name scope L a cd).locals != (envOf name scope L a cd).globals)) = false := by
    show (scope.kind == .class || (scope.kind == .module && L != mainGlobals)) = false
    rw [hk]; rfl
  rw [exec_Assign_Name_used _ _ _ _ hsw]
  refine wpAny_bind (wpAny_standAt (wpAny_bind ?_))
  show wpAny _ A (do let _ ← comprehension (.DictComp (.Name xw kp) (.Name xi vp) [⟨.Tuple [.Name xi q1, .Name xw q2] k tp, .Call (.Name "enumerate" p3) [.Name xl p4] [] p5, [], 0⟩] cscope pos) cscope (envOf name scope L a cd) _ newDict false (eval (.Call (.Name "enumerate" p3) [.Name xl p4] [] p5) (envOf name scope L a cd)) (some (assign (.Name y py) (envOf name scope L a cd)))) _ _ s
  refine wpAny_bind (wpAny_mono (wpAny_comprehension_free (use := some (assign (.Name y py) (envOf name scope L a cd))) (cl := []) (Q := fun _ s' => Q .next s') rfl (fun _ => rfl) (closureFor_none hfree) hkind hnames ?_) (fun _ s' hq => wpAny_pure (wpAny_pure hq)) fun _ _ e => e)
  refine Call_Name1 (ldB O G (by rfl) (PySem.callWith_type1 (ldO O hv (call_enumerate_list hL fun h' he hit hz hkp => ?_) hk hl hd)) (by decide +kernel) (by decide) (by decide) hk hx) rfl
  refine wpAny_pyIter_enum he ?_
  obtain ⟨ol, hol, _⟩ := id hL
  have hll : @LT.lt Nat _ l s.heap.objs.size := Heap.lt_size hol
  generalize hit0 : s.heap.objs.size = it at *
  refine wpAny_newObj_type (wpAny_newFunctionEnv hcell (by intro y hy; simp at hy) (fun h₁ hns₁ hsb₁ => ?_) hkind)
  dsimp only at hns₁ hsb₁ ⊢
  have hD0 : (h'.push { cls := .type "dict", dict := none, data := .dict #[] }).DictOf (PySem.strKind PySem.Challenge.pw_dm0070_02 w) h'.objs.size [] := Heap.DictOf.new h'
  generalize hH2 : h'.push { cls := .type "dict", dict := none, data := .dict #[] } = H2 at hns₁ hsb₁ hD0 ⊢
  have hC : H2.objs.size = it + 3 := by rw [← hH2, Heap.size_push, hz]
  have old' : ∀ b o, h'.get? b = some o → h₁.get? b = some o := fun b o e => hsb₁.extBut b o (neA (by have : @LT.lt Nat _ b _ := Heap.lt_size e; omega)) (Heap.get?_push_of_some _ (hH2 ▸ Heap.get?_push_of_some _ e))
  have hDC : h'.objs.size ≠ H2.objs.size := by omega
  have hD₁ : h₁.DictOf (PySem.strKind PySem.Challenge.pw_dm0070_02 w) h'.objs.size [] := hD0.at fun o e => hsb₁.extBut _ _ hDC (Heap.get?_push_of_some _ e)
  have loop : codeAny (model PySem.Challenge.pw_dm0070_02 w) A (.compLoop (.DictComp (.Name xw kp) (.Name xi vp) [⟨.Tuple [.Name xi q1, .Name xw q2] k tp, .Call (.Name "enumerate" p3) [.Name xl p4] [] p5, [], 0⟩] cscope pos) 0 (.ref (it + 1)) (.ref h'.objs.size) (compEnvC cscope [] H2.objs.size (envOf name scope L a cd)))
      (compPost (model PySem.Challenge.pw_dm0070_02 w) A E (some (assign (.Name y py) (envOf name scope L a cd))) (fun _ s' => Q .next s') (.ref h'.objs.size) H2.objs.size) { s with heap := h₁, toks := s.toks + ([] : List (Str × Value)).length } := by
    refine comp_enum_loop (it := it) (l := l) (ws := ws) (cenv := compEnvC cscope [] H2.objs.size (envOf name scope L a cd)) hh (by simp [compEnvC, relabel, hkind]) (lookup_relabel_local hxi) (lookup_relabel_local hxw) hne hdb (neA (by omega)) (neA (by omega)) (neA (by omega))
      (neA (by show @Ne Nat (it + 1) H2.objs.size; omega)) (neA (by show @Ne Nat it H2.objs.size; omega)) (neA (by show @Ne Nat l H2.objs.size; omega)) hDC (neA (by omega)) (neA (by omega)) (neA (by omega))
      (old' _ _ he) (hit.at fun o e => old' _ o e) (hL.at fun o e => old' _ o (hkp _ o e)) hD₁ hns₁ hnd hsz fun h₂ tk m' kvs hn hdk hS hkeep => ?_
    have O₂ : Own h₀ L h₂ m (⟨[H2.objs.size, h'.objs.size], fun h => h.Ns H2.objs.size m' ∧ h.DictOf (PySem.strKind PySem.Challenge.pw_dm0070_02 w) h'.objs.size kvs⟩ :: cs) := by
      refine O.new (fun b o e => ?_) ⟨hn, hdk⟩ (fun h h' x k => ⟨x.1.at fun o e => k _ (by simp) o e, x.2.at fun o e => k _ (by simp) o e⟩) fun b hb => ?_
      · have hb : @LT.lt Nat _ b it := by rw [← hit0]; exact Heap.lt_size e
        exact hkeep b o (neA (by show @Ne Nat b H2.objs.size; omega)) (neA (by omega)) (neA (by omega)) (neA (by omega)) (old' b o (hkp b o e))
      · rcases List.mem_cons.mp hb with rfl | hb
        · exact ⟨none_at (by omega), let ⟨o, _, _, e, _⟩ := id hn; ⟨o, e⟩⟩
        · rw [List.mem_singleton.mp hb]
          exact ⟨none_at (by omega), let ⟨o, _, _, e, _⟩ := id hdk; ⟨o, e⟩⟩
    refine wpAny_assign_Name (stO O₂ (fun h₃ tk₃ O₃ => ?_) hk hy)
    refine ⟨m', O₃.hd.1, fun h₄ hs₄ => ?_⟩
    refine h h'.objs.size h₄ tk₃ kvs ?_ hS
    refine O₃.upd (fun b o hb e => (hs₄.2 b (fun x => hb (by simp [x]))).trans e) (O₃.hd.2.at fun o e => hs₄.extBut _ o hDC e) dictC_ok (fun b hb => ?_) (fun b hb => ?_)
    · rw [List.mem_singleton.mp hb]; simp
    · rw [List.mem_singleton.mp hb]
      obtain ⟨o, _, _, e, _⟩ := id O₃.hd.2
      exact ⟨o, hs₄.extBut _ o hDC e⟩
  refine codeAny_compStart_dict loop (wpAny_pyIter_enum (s := { s with heap := h₁, toks := s.toks + ([] : List (Str × Value)).length }) (old' _ _ he) loop)
end
end Mine
end

section
open PySem PySem.W PyProof.Rows PySem.Calls
namespace Mine

def lstC (D : Addr) (items : Array Value) : Cell := ⟨[D], fun h => h.IsList D items⟩
theorem lstC_ok {D : Addr} {items : Array Value} : (lstC D items).Ok := fun h h' x k => Heap.IsList.at x fun o e => k D (by simp [lstC]) o e

section
variable {prog : Program} {w : World} {A : Around} {E : Value → Shared → Prop} {s : Shared} {name : Str} {scope : Scope} {L a : Addr} {cd : Value} {h₀ : Heap} {m : Str → Option Value} {cs : List Cell}

theorem Own.newList (O : Own h₀ L s.heap m cs) {h' : Heap} {D : Addr} {items : Array Value} (hD : s.heap.get? D = none) (k : ∀ b o, s.heap.get? b = some o → h'.get? b = some o) (hl : h'.IsList D items) :
    Own h₀ L h' m (lstC D items :: cs) := by
  refine O.new k hl lstC_ok fun b hb => ?_
  obtain rfl : b = D := by simpa [lstC] using hb
  obtain ⟨o, e, _⟩ := hl
  exact ⟨hD, o, e⟩

open Builtin Builtin.Str in
/-- a text split by another -/
theorem splitM {x : Str} {t : Tok} {pos : Pos} {c : Sem Value} {Q : Value → Shared → Prop} (O : Own h₀ L s.heap m cs)
    (h : wpAny (model prog w) A c (fun v s₁ => ∃ y u, v = .str y u ∧ (y.length == 0) = false ∧ Own h₀ L s₁.heap m cs ∧ (partsBetween x (occurrences x y 0 x.length (x.length + 1)) y.length).length ≤ sizeLine ∧
      ∀ D l h' k, l.map (·.1) = Txt.split x y → Own h₀ L h' m (lstC D (strValues l).toArray :: cs) → Q (.ref D) { s₁ with heap := h', toks := k }) E s) (hx : x.length ≤ sizeLine) :
    MethodOnS prog w A E "split" (.str x t) pos [(false, c)] Q s := by
  refine ⟨"str", _, F.plainAttrs_str, F.slot_str_split, F.type_str_split, typeIs_str _ _ _, (fun _ e => nomatch e), method1_meets F.slot_str_split F.entry_str_split (wpAny_mono h (fun v s₁ h₁ => ?_) fun _ _ e => e)⟩
  obtain ⟨y, u, rfl, hy, O₁, hn, hq⟩ := h₁
  have fin : ∀ (l : List (Str × Tok)), Own h₀ L (s₁.heap.push { cls := .type "list", data := .seq (strValues l).toArray }) m (lstC s₁.heap.objs.size (strValues l).toArray :: cs) := fun l =>
    O₁.newList (none_at (Nat.le_refl _)) (fun b o e => Heap.get?_push_of_some _ e) ⟨_, Heap.get?_push_size _ rfl, rfl, _, rfl⟩
  refine ⟨typeIs_str _ _ _, F.args_str_split_2 _ _, ?_⟩
  cases h1 : (decide (x.length < y.length) || decide (Builtin.Str.strKind x < Builtin.Str.strKind y))
  · cases hf : (occurrences x y 0 x.length (x.length + 1)).isEmpty
    · refine ⟨_, meets_str_split_sep x y t u h1 hy hf hx hn, ?_⟩
      show wants Q E _ { s₁ with toks := _, heap := s₁.heap.push { cls := .type "list", data := .seq (strsFrom s₁.toks (partsBetween x (occurrences x y 0 x.length (x.length + 1)) y.length)).toArray } }
      rw [strsFrom_eq]
      exact hq _ (numbered s₁.toks _) _ _ ((numbered_texts _ _).trans ((if_neg (ne_true_of_eq_false h1)).trans (if_neg (ne_true_of_eq_false hf))).symm) (fin _)
    · exact ⟨_, meets_str_split_not_found x y t u h1 hy hf, hq _ [(x, t)] _ s₁.toks ((if_neg (ne_true_of_eq_false h1)).trans (if_pos hf)).symm (fin [(x, t)])⟩
  · exact ⟨_, meets_str_split_cannot_occur x y t u h1, hq _ [(x, t)] _ s₁.toks (if_pos h1).symm (fin [(x, t)])⟩

/-- a for over a list -/
theorem forListF {x : Str} {tp pos : Pos} {iter : Expr} {body orelse : List Stmt} {Q : Flow → Shared → Prop} (hA : A.handled = none) {s₀ : Shared}
    (inv : Nat → (Str → Option Value) → List Cell → Prop) (Fin : (Str → Option Value) → List Cell → Prop)
    (h : wpAny (model prog w) A (eval iter (envOf name scope L a cd)) (fun v s => ∃ D items m cs, v = .ref D ∧ Own h₀ L s.heap m (lstC D items :: cs) ∧ inv 0 m cs ∧
      (∀ i m cs I v h tk, items[i]? = some v → inv i m cs → Own h₀ L h (upd m x v) (⟨[I, D], fun h => h.IsListIter I D (i + 1) ∧ h.IsList D items⟩ :: cs) →
        wpAny (model prog w) A (execs body (envOf name scope L a cd)) (fun f s' => match f with
          | .next | .cont => ∃ h' tk' m' cs', s' = { s with heap := h', toks := tk' } ∧ inv (i + 1) m' cs' ∧ Own h₀ L h' m' (⟨[I, D], fun h => h.IsListIter I D (i + 1) ∧ h.IsList D items⟩ :: cs')
          | .brk => ∃ h' tk' m' cs' c, s' = { s with heap := h', toks := tk' } ∧ Fin m' cs' ∧ Own h₀ L h' m' (c :: cs')
          | .ret v => Q (.ret v) s') (fun _ _ => False) { s with heap := h, toks := tk }) ∧
      (∀ m cs h tk, inv items.size m cs → Own h₀ L h m cs → wpAny (model prog w) A (execs orelse (envOf name scope L a cd)) (fun f s' => match f with
          | .next => ∃ h' tk' m' cs', s' = { s with heap := h', toks := tk' } ∧ Fin m' cs' ∧ Own h₀ L h' m' cs'
          | _ => False) (fun _ _ => False) { s with heap := h, toks := tk }) ∧
      (∀ m cs h tk, Fin m cs → Own h₀ L h m cs → Q .next { s with heap := h, toks := tk })) E s₀)
    (hk : scope.kind = .function) (hl : (envOf name scope L a cd).kindOf x = some .local)
    (hs : ∀ x, foldedSetIterable iter (envOf name scope L a cd) x = pure x) :
    wpAny (model prog w) A (exec (.For (.Name x tp) iter body orelse pos) (envOf name scope L a cd)) Q E s₀ := by
  refine wpAny_For (wpAny_mono h (fun v s hv => ?_) fun _ _ e => e) hs
  obtain ⟨D, items, m, cs, rfl, O, h0, turn, done, fin⟩ := hv
  have hL : s.heap.IsList D items := O.hd
  refine wpAny_pyIter_list hL ?_
  obtain ⟨o, hD, _⟩ := id hL
  have hne : D ≠ s.heap.objs.size := Nat.ne_of_lt (Heap.lt_size hD)
  have W := Walks.list (prog := prog) (w := w) hA s.heap.objs.size D hne items
  generalize hI : s.heap.objs.size = I at *
  have live : ∀ (i : Nat) (h : Heap), (h.IsListIter I D i ∧ h.IsList D items) → ∀ b ∈ [I, D], ∃ o, h.get? b = some o := fun i h hi b hb => by
    rcases List.mem_cons.mp hb with rfl | hb
    · exact ⟨_, hi.1.choose_spec.1⟩
    · rw [List.mem_singleton.mp hb]; exact ⟨_, hi.2.choose_spec.1⟩
  have hst : (s.heap.push { cls := .type "list_iterator", data := .fields #[.ref D, .int 0 0] }).IsListIter I D 0 ∧ (s.heap.push { cls := .type "list_iterator", data := .fields #[.ref D, .int 0 0] }).IsList D items := by
    subst hI
    exact ⟨⟨_, Heap.get?_push_size _ rfl, rfl, rfl⟩, hL.push _⟩
  have O' : Own h₀ L (s.heap.push { cls := .type "list_iterator", data := .fields #[.ref D, .int 0 0] }) m (⟨[I, D], fun h => h.IsListIter I D 0 ∧ h.IsList D items⟩ :: cs) := by
    have Ok := O.keep (h' := s.heap.push { cls := .type "list_iterator", data := .fields #[.ref D, .int 0 0] }) fun b o e => Heap.get?_push_of_some _ e
    have hIn : s.heap.get? I = none := none_at (Nat.le_of_eq hI)
    refine ⟨Ok.fr, ?_, ?_, ?_, ?_⟩
    · intro c hc
      rcases List.mem_cons.mp hc with rfl | hc
      · exact hst
      · exact Ok.holds c (by simp [hc])
    · intro c hc
      rcases List.mem_cons.mp hc with rfl | hc
      · exact fun h h' x k => W.frame 0 h h' x k
      · exact Ok.ok c (by simp [hc])
    · intro c hc b hb
      rcases List.mem_cons.mp hc with rfl | hc
      · refine ⟨live 0 _ hst b hb, ?_⟩
        rcases List.mem_cons.mp hb with rfl | hb
        · refine ⟨?_, ?_⟩
          · cases e : h₀.get? b with
            | none => rfl
            | some o => have := O.fr.keep b o e; rw [hIn] at this; cases this
          · rintro rfl
            obtain ⟨o, e⟩ := O.size
            rw [hIn] at e; cases e
        · rw [List.mem_singleton.mp hb]
          exact (O.live (lstC D items) (by simp) D (by simp [lstC])).2
      · exact Ok.live c (by simp [hc]) b hb
    · have ap := List.pairwise_cons.mp O.apart
      refine .cons (fun d hd b hb hb' => ?_) ap.2
      rcases List.mem_cons.mp hb with rfl | hb
      · obtain ⟨⟨o, e⟩, _⟩ := O.live d (by simp [hd]) b hb'
        rw [hIn] at e; cases e
      · rw [List.mem_singleton.mp hb] at hb'
        exact ap.1 d hd D (by simp [lstC]) hb'
  exact loopF (s := { s with heap := s.heap.push { cls := .type "list_iterator", data := .fields #[.ref D, .int 0 0] } }) W live inv Fin O' h0 (fun i m cs v h tk _ hP hinv hO => turn i m cs I v h tk hP hinv hO) done fin hk hl
end
end Mine
end

section
open PySem PySem.W PyProof.Rows PySem.Calls
namespace Mine

/-- a text taken apart at ", " -/
def comma (l : List Nat) (i : Nat) : Bool := (l.drop i).take 2 == [44, 32]
def cutsL (l : List Nat) : List Nat := (List.range (l.length + 1)).filter (comma l)

theorem comma_iff {l : List Nat} {i : Nat} : comma l i = true ↔ l[i]? = some 44 ∧ l[i + 1]? = some 32 := by
  unfold comma
  rw [beq_iff_eq]
  constructor
  · intro h
    have e0 : ((l.drop i).take 2)[0]? = some 44 := by rw [h]; rfl
    have e1 : ((l.drop i).take 2)[1]? = some 32 := by rw [h]; rfl
    rw [List.getElem?_take_of_lt (by decide), List.getElem?_drop] at e0 e1
    exact ⟨e0, e1⟩
  · rintro ⟨h0, h1⟩
    apply List.ext_getElem?
    intro j
    rcases j with _ | _ | j
    · rw [List.getElem?_take_of_lt (by decide), List.getElem?_drop]; simpa using h0
    · rw [List.getElem?_take_of_lt (by decide), List.getElem?_drop]; simpa using h1
    · rw [List.getElem?_eq_none (by simp; omega), List.getElem?_eq_none (by simp)]

open Builtin Builtin.Str in
theorem occ_loop (x y : Str) (hy : y.cps.toList = [44, 32]) : ∀ (k a : Nat) (st : Array Nat × Nat), a + k = x.length + 1 → st.1.toList = (List.range a).filter (comma x.cps.toList) → (∀ i, a ≤ i → comma x.cps.toList i = true → st.2 ≤ i) →
    (forIn (List.range' a k) st (StrLaws.occBody x y x.length (x.length + 1))).run.fst.toList = (List.range (a + k)).filter (comma x.cps.toList)
  | 0, a, st, _, h, _ => by simpa using h
  | k + 1, a, st, hk, h, hf => by
    have hyl : y.length = 2 := by
      show y.cps.size = 2
      rw [← Array.length_toList, hy]; rfl
    have hsz : st.1.size ≤ a := by
      rw [← Array.length_toList, h]
      exact Nat.le_trans (List.length_filter_le ..) (by simp)
    have hsub : subAt x y a = comma x.cps.toList a := by
      rw [StrLaws.subAt_eq, hyl, hy]; rfl
    rw [List.range'_succ, List.forIn_cons]
    have e : a + (k + 1) = (a + 1) + k := by omega
    by_cases hc : comma x.cps.toList a = true
    · have hlt : a + 2 ≤ x.length := by
        have := (comma_iff.mp hc).2
        obtain ⟨hl, _⟩ := List.getElem?_eq_some_iff.mp this
        rw [Array.length_toList] at hl
        exact hl
      have hb : StrLaws.occBody x y x.length (x.length + 1) a st = pure (ForInStep.yield (st.1.push a, a + 2)) := by
        unfold StrLaws.occBody
        rw [hsub, hyl, if_pos ⟨⟨⟨by omega, hf a (Nat.le_refl _) hc⟩, hlt⟩, hc⟩]
      rw [hb, e]
      refine occ_loop x y hy k (a + 1) _ (by omega) ?_ ?_
      · rw [Array.toList_push, h, List.range_succ, List.filter_append]; simp [hc]
      · intro i hi hci
        rcases Nat.eq_or_lt_of_le hi with rfl | hi
        · have e1 := (comma_iff.mp hc).2
          have e2 := (comma_iff.mp hci).1
          rw [e1] at e2; cases e2
        · exact hi
    · have hb : StrLaws.occBody x y x.length (x.length + 1) a st = pure (ForInStep.yield (st.1, st.2)) := by
        unfold StrLaws.occBody
        rw [hsub, hyl, if_neg (fun h => hc h.2)]
      rw [hb, e]
      refine occ_loop x y hy k (a + 1) _ (by omega) ?_ fun i hi hci => hf i (by omega) hci
      rw [h, List.range_succ, List.filter_append]; simp [hc]

open Builtin Builtin.Str in
theorem occ_cuts (x y : Str) (hy : y.cps.toList = [44, 32]) : occurrences x y 0 x.length (x.length + 1) = cutsL x.cps.toList := by
  rw [StrLaws.occ_eq]
  have := occ_loop x y hy (x.length + 1) 0 (#[], 0) (by omega) (by simp) (fun _ _ _ => Nat.zero_le _)
  rw [show x.length + 1 - 0 = x.length + 1 from rfl, this]
  unfold cutsL
  rw [Nat.zero_add]
  rfl

theorem cuts_none {l : List Nat} (h : 44 ∉ l) : cutsL l = [] := by
  unfold cutsL
  rw [List.filter_eq_nil_iff]
  intro i _ hc
  exact h (List.mem_of_getElem? (comma_iff.mp hc).1)
theorem cuts_cons {w r : List Nat} (h : 44 ∉ w) : cutsL (w ++ [44, 32] ++ r) = w.length :: (cutsL r).map (· + (w.length + 2)) := by
  unfold cutsL
  have e : (w ++ [44, 32] ++ r).length + 1 = w.length + (2 + (r.length + 1)) := by simp; omega
  rw [e, List.range_add, List.filter_append]
  have f1 : (List.range w.length).filter (comma (w ++ [44, 32] ++ r)) = [] := by
    rw [List.filter_eq_nil_iff]
    intro i hi hc
    have hi' := List.mem_range.mp hi
    have e1 := (comma_iff.mp hc).1
    rw [List.append_assoc, List.getElem?_append_left hi'] at e1
    exact h (List.mem_of_getElem? e1)
  rw [f1, List.nil_append, List.filter_map, List.range_add, List.filter_append]
  have c0 : comma (w ++ [44, 32] ++ r) (w.length + 0) = true := by
    rw [comma_iff]; simp
  have c1 : comma (w ++ [44, 32] ++ r) (w.length + 1) = false := by
    rw [Bool.eq_false_iff]
    intro hc
    have e1 := (comma_iff.mp hc).1
    simp at e1
  have f2 : (List.range 2).filter (comma (w ++ [44, 32] ++ r) ∘ fun x => w.length + x) = [0] := by
    simp only [List.range_succ, List.range_zero, List.nil_append, List.filter_append, List.filter_cons, Function.comp, c0, c1, List.filter_nil]
    rfl
  rw [f2, List.filter_map, List.map_append, List.map_map]
  have f3 : ((comma (w ++ [44, 32] ++ r) ∘ fun x => w.length + x) ∘ fun x => 2 + x) = comma r := by
    funext i
    show comma (w ++ [44, 32] ++ r) (w.length + (2 + i)) = comma r i
    unfold comma
    congr 2
    have e2 : w.length + (2 + i) = (w ++ [44, 32]).length + i := by simp; omega
    rw [e2, List.drop_append]
    simp
  rw [f3]
  simp only [List.map_cons, List.map_nil, Nat.add_zero, List.singleton_append, List.cons.injEq, true_and]
  congr 1
  funext i
  show w.length + (2 + i) = i + (w.length + 2)
  omega

def partsFrom (l : List Nat) (a : Nat) : List Nat → List (List Nat)
  | [] => [(l.drop a).take (l.length - a)]
  | c :: cs => (l.drop a).take (c - a) :: partsFrom l (c + 2) cs
theorem parts_zip (l : List Nat) : ∀ (cs : List Nat) (a : Nat), ((a :: cs.map (· + 2)).zip (cs ++ [l.length])).map (fun (p : Nat × Nat) => (l.drop p.1).take (p.2 - p.1)) = partsFrom l a cs
  | [], a => rfl
  | c :: cs, a => by
    simp only [List.map_cons, List.cons_append, List.zip_cons_cons, partsFrom, List.cons.injEq, true_and]
    exact parts_zip l cs (c + 2)
def joinL : List (List Nat) → List Nat
  | [] => []
  | [x] => x
  | x :: y :: r => x ++ [44, 32] ++ joinL (y :: r)
theorem parts_join : ∀ (ws : List (List Nat)) (pre : List Nat), ws ≠ [] → (∀ w ∈ ws, 44 ∉ w) → partsFrom (pre ++ joinL ws) pre.length ((cutsL (joinL ws)).map (· + pre.length)) = ws
  | [], _, h, _ => absurd rfl h
  | [w], pre, _, h => by
    rw [joinL, cuts_none (h w (by simp))]
    simp [partsFrom]
  | w :: w2 :: r, pre, _, h => by
    rw [joinL, cuts_cons (h w (by simp))]
    simp only [List.map_cons, partsFrom, List.map_map, List.cons.injEq]
    constructor
    · rw [List.append_assoc, List.drop_append]
      simp
    · have ih := parts_join (w2 :: r) (pre ++ w ++ [44, 32]) (by simp) fun x hx => h x (by simp [hx])
      have e1 : pre ++ (w ++ [44, 32] ++ joinL (w2 :: r)) = pre ++ w ++ [44, 32] ++ joinL (w2 :: r) := by simp
      have e2 : w.length + pre.length + 2 = (pre ++ w ++ [44, 32]).length := by simp; omega
      have e3 : ((fun x => x + pre.length) ∘ fun x => x + (w.length + 2)) = fun x => x + (pre ++ w ++ [44, 32]).length := by
        funext i; simp; omega
      rw [e1, e2, e3]; exact ih

theorem join_toList : ∀ ws : List Str, (Str.join ", " ws).cps.toList = joinL (ws.map fun w => w.cps.toList)
  | [] => rfl
  | [x] => rfl
  | x :: y :: r => by
    show ((x ++ Str.ofString ", " ++ Str.join ", " (y :: r)) : Str).cps.toList = _
    have ih := join_toList (y :: r)
    have e : (Str.ofString ", ").cps.toList = [44, 32] := by decide +kernel
    show (x.cps ++ (Str.ofString ", ").cps ++ (Str.join ", " (y :: r)).cps).toList = _
    rw [Array.toList_append, Array.toList_append, e, ih]; rfl

theorem str_ext {x y : Str} (h : x.cps.toList = y.cps.toList) : x = y := by
  obtain ⟨⟨x⟩⟩ := x; obtain ⟨⟨y⟩⟩ := y; simp at h; simp [h]

open Builtin Builtin.Str in
theorem split_join {ws : List Str} (h0 : ws ≠ []) (h : ∀ w ∈ ws, 44 ∉ w.cps.toList) : Txt.split (Txt.join ", " ws) ", " = ws := by
  have hy : (Str.ofString ", ").cps.toList = [44, 32] := by decide +kernel
  have hyl : (Str.ofString ", ").length = 2 := by decide +kernel
  have hk : Builtin.Str.strKind (Str.ofString ", ") = 1 := by decide +kernel
  have hx : Txt.join ", " ws = Str.join ", " ws := StrLaws.glued_eq_join _ _
  have hxl : (Str.join ", " ws).cps.toList = joinL (ws.map fun w => w.cps.toList) := join_toList ws
  have hcut := occ_cuts (Str.join ", " ws) (Str.ofString ", ") hy
  have hp := parts_join (ws.map fun w => w.cps.toList) [] (by simpa using h0) (by simpa using h)
  rw [List.nil_append, List.length_nil] at hp
  simp only [Nat.add_zero, List.map_id'] at hp
  rw [← hxl] at hp
  have parts : partsBetween (Str.join ", " ws) (cutsL (Str.join ", " ws).cps.toList) 2 = ws := by
    have e := parts_zip (Str.join ", " ws).cps.toList (cutsL (Str.join ", " ws).cps.toList) 0
    rw [hp] at e
    unfold partsBetween
    have inj : ∀ a b : List Str, a.map (fun w => w.cps.toList) = b.map (fun w => w.cps.toList) → a = b := by
      intro a
      induction a with
      | nil => intro b hb; cases b with
        | nil => rfl
        | cons _ _ => simp at hb
      | cons x a ih => intro b hb; cases b with
        | nil => simp at hb
        | cons y b =>
          simp only [List.map_cons, List.cons.injEq] at hb
          rw [str_ext hb.1, ih b hb.2]
    apply inj
    rw [← e, List.map_map]
    congr 1
    · funext p
      exact StrLaws.strSub_toList _ _ _
  rw [hx]
  unfold Txt.split
  rw [hcut, hyl, hk]
  have hkx : ¬ Builtin.Str.strKind (Str.join ", " ws) < 1 := by unfold Builtin.Str.strKind; split <;> (try split) <;> decide
  by_cases hc : cutsL (Str.join ", " ws).cps.toList = []
  · have one : [Str.join ", " ws] = ws := by
      rw [hc] at parts
      have e : partsBetween (Str.join ", " ws) [] 2 = [Str.join ", " ws] := by
        unfold partsBetween
        simp only [List.map_nil, List.nil_append, List.zip_cons_cons, List.zip_nil_right, List.map_cons, List.cons.injEq, and_true]
        apply str_ext
        rw [StrLaws.strSub_toList]
        rw [List.drop_zero, Nat.sub_zero]
        exact List.take_of_length_le (by rw [Array.length_toList]; exact Nat.le_refl _)
      rw [e] at parts; exact parts
    rw [hc]
    simp only [List.isEmpty_nil, if_true]
    split <;> exact one
  · rw [if_neg, if_neg (by simpa using hc), parts]
    rw [Bool.or_eq_true, decide_eq_true_eq, decide_eq_true_eq]
    rintro (hlt | hlt)
    · obtain ⟨c, hcm⟩ := List.exists_mem_of_ne_nil _ hc
      have := (List.mem_filter.mp hcm).2
      obtain ⟨hl, _⟩ := List.getElem?_eq_some_iff.mp (comma_iff.mp this).2
      rw [Array.length_toList] at hl
      have : (Str.join ", " ws).length = (Str.join ", " ws).cps.size := rfl
      omega
    · exact hkx hlt
end Mine
end

section
open PySem PySem.W PyProof.Rows PySem.Calls
namespace Mine

def sg (d : Nat) : Nat := (Nat.digitChar d).toNat
def hexL (n : Nat) : List Nat := (Nat.toDigits 16 n).map Char.toNat
theorem hexL_eq (n : Nat) : hexL n = if n < 16 then [sg n] else hexL (n / 16) ++ [sg (n % 16)] := by
  unfold hexL
  rw [Nat.toDigits_eq_if (by decide)]
  split
  · rfl
  · rw [List.map_append]; rfl
def signs16 : Str := "0123456789abcdef"
def digV (c : Nat) : Int := Txt.find signs16 ⟨#[c]⟩
theorem sg_ok : ∀ d : Fin 16, digV (sg d.val) = d.val ∧ Txt.contains signs16 ⟨#[sg d.val]⟩ = true ∧ sg d.val ≠ 44 ∧ Txt.item signs16 d.val = ⟨#[sg d.val]⟩ ∧ sg d.val < 128 := by decide +kernel
theorem hexL_signs : ∀ (n c : Nat), c ∈ hexL n → ∃ d : Fin 16, c = sg d.val := by
  intro n
  induction n using Nat.strongRecOn with
  | ind n ih =>
    intro c hc
    rw [hexL_eq] at hc
    split at hc
    · rename_i h
      exact ⟨⟨n, h⟩, by simpa using hc⟩
    · rename_i h
      rcases List.mem_append.mp hc with hc | hc
      · exact ih (n / 16) (by omega) c hc
      · exact ⟨⟨n % 16, Nat.mod_lt _ (by decide)⟩, by simpa using hc⟩
def foldHex (l : List Nat) (a : Int) : Int := l.foldl (fun a c => 16 * a + digV c) a
theorem fold_hexL : ∀ n : Nat, foldHex (hexL n) 0 = n := by
  intro n
  induction n using Nat.strongRecOn with
  | ind n ih =>
    rw [hexL_eq]
    split
    · rename_i h
      unfold foldHex
      simp only [List.foldl_cons, List.foldl_nil]
      rw [(sg_ok ⟨n, h⟩).1]; simp
    · rename_i h
      unfold foldHex
      rw [List.foldl_append]
      have e := ih (n / 16) (by omega)
      unfold foldHex at e
      rw [e]
      simp only [List.foldl_cons, List.foldl_nil]
      rw [(sg_ok ⟨n % 16, Nat.mod_lt _ (by decide)⟩).1]
      push_cast
      omega
theorem base_list (H : Int) : (baseText "0x" 16 H).cps.toList = (if H < 0 then [45] else []) ++ [48, 120] ++ hexL H.natAbs := by
  unfold baseText
  rw [cps_toList_append, cps_toList_append, signs_ofString, signs_ofString, signs_ofString]
  have e : (String.ofList (Nat.toDigits 16 H.natAbs)).toList = Nat.toDigits 16 H.natAbs := by simp
  rw [e]
  split <;> rfl
theorem hexL_ne (n : Nat) : hexL n ≠ [] := by
  rw [hexL_eq]; split <;> simp
theorem base_comma (H : Int) : 44 ∉ (baseText "0x" 16 H).cps.toList := by
  rw [base_list]
  intro h
  rcases List.mem_append.mp h with h | h
  · split at h <;> simp at h
  · obtain ⟨d, e⟩ := hexL_signs _ _ h
    exact (sg_ok d).2.2.1 e.symm
theorem word_comma {i : Nat} (_ : i < 32) : 44 ∉ (wordAt i).cps.toList := by
  unfold wordAt
  split
  · rename_i h
    exact (by decide +kernel : ∀ i : Fin 10, 44 ∉ (flagNames.getD i.val (Str.ofString "")).cps.toList) ⟨i, h⟩
  · exact base_comma _

/-- a word's figures, its sign taken off -/
def figsOf (H : Int) : Str := baseText "0x" 16 (H.natAbs : Int)
theorem figs_list (H : Int) : (figsOf H).cps.toList = [48, 120] ++ hexL H.natAbs := by
  unfold figsOf
  rw [base_list, if_neg (by omega)]; simp
def digsOf (H : Int) : Str := ⟨(hexL H.natAbs).toArray⟩

theorem len_toList (x : Str) : x.length = x.cps.toList.length := by rw [Array.length_toList]; rfl
theorem slice_head (H : Int) : (Txt.slice (baseText "0x" 16 H) none (some 1)).cps.toList = if H < 0 then [45] else [48] := by
  have e : Txt.slice (baseText "0x" 16 H) none (some 1) = StrLaws.sliceText (baseText "0x" 16 H) none (some 1) := rfl
  rw [e, StrLaws.sliceText_to ⟨by decide, by rw [base_list]; simp; omega⟩, base_list]
  split <;> rfl
theorem slice_neg {H : Int} (h : H < 0) : Txt.slice (baseText "0x" 16 H) (some 1) none = figsOf H := by
  have e : Txt.slice (baseText "0x" 16 H) (some 1) none = StrLaws.sliceText (baseText "0x" 16 H) (some 1) none := rfl
  apply str_ext
  rw [e, StrLaws.sliceText_from ⟨by decide, by rw [base_list]; simp; omega⟩, base_list, if_pos h, figs_list]
  have : ((([45] ++ [48, 120] ++ hexL H.natAbs).length : Int) - 1).toNat = (hexL H.natAbs).length + 2 := by simp; omega
  rw [this]
  show List.take _ (List.drop 1 ([45] ++ [48, 120] ++ hexL H.natAbs)) = _
  apply List.take_of_length_le
  simp
theorem figs_pos {H : Int} (h : ¬ H < 0) : figsOf H = baseText "0x" 16 H := by
  unfold figsOf
  congr 1; omega
theorem slice_digs (H : Int) : Txt.slice (figsOf H) (some 2) none = digsOf H := by
  have e : Txt.slice (figsOf H) (some 2) none = StrLaws.sliceText (figsOf H) (some 2) none := rfl
  apply str_ext
  rw [e, StrLaws.sliceText_from ⟨by decide, by rw [figs_list]; simp; omega⟩, figs_list]
  have : ((([48, 120] ++ hexL H.natAbs).length : Int) - 2).toNat = (hexL H.natAbs).length := by simp; omega
  rw [this]
  show List.take _ (List.drop 2 ([48, 120] ++ hexL H.natAbs)) = hexL H.natAbs
  apply List.take_of_length_le
  simp
theorem figs_ne {H : Int} (h : H < 0) : (figsOf H).cps.toList ≠ (baseText "0x" 16 H).cps.toList := by
  rw [base_list, figs_list, if_pos h]
  intro e
  have := congrArg List.length e
  simp at this

/-- from the text of a number its number -/
theorem base_inj {H K : Int} (h : baseText "0x" 16 H = baseText "0x" 16 K) : H = K := by
  have e := congrArg (fun x : Str => x.cps.toList) h
  rw [base_list, base_list] at e
  have key : ∀ m n : Nat, hexL m = hexL n → m = n := fun m n e => by
    have := fold_hexL m
    rw [e, fold_hexL n] at this
    omega
  by_cases h1 : H < 0 <;> by_cases h2 : K < 0
  · simp only [if_pos h1, if_pos h2] at e
    have := key _ _ (by simpa using e)
    omega
  · simp only [if_pos h1, if_neg h2] at e; simp at e
  · simp only [if_neg h1, if_pos h2] at e; simp at e
  · simp only [if_neg h1, if_neg h2] at e
    have := key _ _ (by simpa using e)
    omega
/-- what stands behind the words is none of the words -/
theorem base_not_word {k : Int} {i : Nat} (hi : i < 32) : baseText "0x" 16 (k * 2 ^ 32) ≠ wordAt i := by
  intro h
  unfold wordAt at h
  split at h
  · rename_i h10
    have e := congrArg (fun x : Str => x.cps.toList.head?) h
    rw [base_list] at e
    have hn := (by decide +kernel : ∀ i : Fin 10, (flagNames.getD i.val (Str.ofString "")).cps.toList.head? ≠ some 45 ∧ (flagNames.getD i.val (Str.ofString "")).cps.toList.head? ≠ some 48) ⟨i, h10⟩
    split at e
    · exact hn.1 e.symm
    · exact hn.2 e.symm
  · have e := base_inj h
    have h1 : (2 : Int) ^ 32 = 4294967296 := by decide
    have h2 : (2 : Int) ^ i < 4294967296 := by
      rw [← h1]
      have : (2 : Nat) ^ i < 2 ^ 32 := Nat.pow_lt_pow_right (by decide) hi
      have c1 := pow_cast i
      have c2 := pow_cast 32
      omega
    have h3 := pow_pos2 i
    rw [h1] at e
    omega
end Mine
end

section
open PySem PySem.W PyProof.Rows PySem.Calls
namespace Mine

def Marks (items : Array Value) (f : Nat → Int) : Prop := items.size = 32 ∧ ∀ j, j < 32 → ∃ t, items[j]? = some (.int (f j) t)
theorem Marks.set {items : Array Value} {f : Nat → Int} (M : Marks items f) {k : Nat} (hk : k < 32) (v : Int) (t : Tok) : Marks (items.setIfInBounds k (.int v t)) (fun j => if j = k then v else f j) := by
  refine ⟨by rw [Array.size_setIfInBounds]; exact M.1, fun j hj => ?_⟩
  by_cases e : j = k
  · subst e
    exact ⟨t, by rw [Array.getElem?_setIfInBounds_self_of_lt (by rw [M.1]; exact hj)]; simp⟩
  · obtain ⟨u, hu⟩ := M.2 j hj
    exact ⟨u, by rw [Array.getElem?_setIfInBounds_ne (Ne.symm e)]; simp only [if_neg e]; exact hu⟩
theorem Marks.congr {items : Array Value} {f g : Nat → Int} (M : Marks items f) (h : ∀ j, j < 32 → f j = g j) : Marks items g :=
  ⟨M.1, fun j hj => by rw [← h j hj]; exact M.2 j hj⟩

theorem valueAt_some {kvs : List (Str × Value)} {D : List (Str × Int)} (h : SI kvs D) : ∀ {i : Nat} {x : Str} {j : Int}, (D.map (·.1)).Nodup → D[i]? = some (x, j) → ∃ t, valueAt kvs x = some (.int j t) := by
  induction h with
  | nil => intro i x j _ e; simp at e
  | cons hs ih =>
    rename_i y k t kvs D
    intro i x j hn e
    rw [List.map_cons, List.nodup_cons] at hn
    cases i with
    | zero =>
      simp only [List.getElem?_cons_zero, Option.some.injEq, Prod.mk.injEq] at e
      obtain ⟨rfl, rfl⟩ := e
      exact ⟨t, by simp [valueAt]⟩
    | succ i =>
      rw [List.getElem?_cons_succ] at e
      obtain ⟨t', h1⟩ := ih hn.2 e
      refine ⟨t', ?_⟩
      have hne : y ≠ x := by
        rintro rfl
        exact hn.1 (List.mem_map.mpr ⟨_, List.mem_of_getElem? e, rfl⟩)
      unfold valueAt at h1 ⊢
      rw [List.find?_cons_of_neg (by simpa using hne)]
      exact h1
theorem valueAt_none {kvs : List (Str × Value)} {D : List (Str × Int)} (h : SI kvs D) {x : Str} (hx : x ∉ D.map (·.1)) : valueAt kvs x = none := by
  unfold valueAt
  rw [Option.map_eq_none_iff, List.find?_eq_none]
  intro p hp
  simp only [decide_eq_true_eq]
  rintro rfl
  exact hx (by rw [← h.keys]; exact List.mem_map.mpr ⟨p, hp, rfl⟩)
theorem words32_nodup : words32.Nodup := by decide +kernel
theorem words32_at {i : Nat} (hi : i < 32) : (enumD words32)[i]? = some (wordAt i, (i : Int)) := by
  simp [enumD, words32, hi]
theorem spot_some {kvs : List (Str × Value)} (h : SI kvs (enumD words32)) {i : Nat} (hi : i < 32) : ∃ t, valueAt kvs (wordAt i) = some (.int i t) :=
  valueAt_some h (by rw [enumD_keys]; exact words32_nodup) (words32_at hi)
theorem spot_none {kvs : List (Str × Value)} (h : SI kvs (enumD words32)) {k : Int} : valueAt kvs (baseText "0x" 16 (k * 2 ^ 32)) = none := by
  refine valueAt_none h ?_
  rw [enumD_keys]
  intro hm
  obtain ⟨i, hi, e⟩ := List.mem_map.mp hm
  exact base_not_word (List.mem_range.mp hi) e.symm

section
variable {prog : Program} {w : World} {A : Around} {E : Value → Shared → Prop} {s : Shared} {name : Str} {scope : Scope} {L a : Addr} {cd : Value} {h₀ : Heap} {m : Str → Option Value} {cs : List Cell}

theorem mul_listO {l : Addr} {items : Array Value} {x : Int} {u : Tok} {Q : Value → Shared → Prop} (O : Own h₀ L s.heap m cs) (hl : s.heap.PlainList l items)
    (hlo : 0 ≤ x) (hhi : x < 1000) (hsz : items.size * x.toNat ≤ 2 ^ 24)
    (h : ∀ D h', Own h₀ L h' m (lstC D (List.foldl (fun x1 x2 => x1 ++ x2) #[] (List.replicate (if items.isEmpty = true then 0 else x.toNat) items)) :: cs) → Q (.ref D) { s with heap := h' }) :
    wpAny (model prog w) A (binaryOp .Mult (.ref l) (.int x u)) Q E s := by
  obtain ⟨k, e⟩ := hl
  refine wpAny_binaryOp_repeat_ref (T := "list") (U := "int") (by decide) ⟨_, e, rfl⟩ (fun s' => typeIs_int s' x u) noFill_list_mul F.fills_int_mul F.slot_int_rmul repeat_list F.slot_int_index.lookup
    (call_meets F.slot_int_rmul (typeIs_int s x u) F.entry_int_rmul (F.args_int_rmul_2 _ _) (int___rmul___int_list x u l items k)
      ⟨e, rfl, ⟨_, e, rfl⟩, call_meets F.slot_list_mul ⟨_, e, rfl⟩ F.entry_list_mul (F.args_list_mul_2 _ _)
        (AutoListH.list___mul___list_int_3 l items k x u (by simp [Builtin.List.listFitsIndex]; omega) (by omega) (by simp [Builtin.List.listTooLong, sizeLine]; omega)) ⟨e, ?_⟩⟩)
  exact h _ _ (O.newList (none_at (Nat.le_refl _)) (fun b o e => Heap.get?_push_of_some _ e) ⟨_, Heap.get?_push_size _ rfl, rfl, _, rfl⟩)

theorem list_intO {env : Env} {c : Int} {k : Nat} {p pos : Pos} {Q : Value → Shared → Prop} (O : Own h₀ L s.heap m cs)
    (h : ∀ D t h' tk, Own h₀ L h' m (listC D #[.int c t] :: cs) → Q (.ref D) { s with heap := h', toks := tk }) : wpAny (model prog w) A (eval (.List [.Constant (.int c) k p] pos) env) Q E s := by
  rw [arm_eval_List]
  refine wpAny_bind (wpAny_standAt (wpAny_bind (spliced_lits [.Constant (.int c) k p] [.int c] _ _ rfl fun vs tk hvs => ?_)))
  cases hvs with
  | cons h1 h2 =>
    cases h2
    obtain ⟨t, rfl⟩ := h1.int
    exact newListO (s := { s with toks := tk }) O (by simp) fun D h' O' _ => h D t h' tk O'

theorem fold_rep (v : Value) : ∀ (n : Nat) (acc : Array Value), (List.foldl (fun x1 x2 => x1 ++ x2) acc (List.replicate n #[v])).toList = acc.toList ++ List.replicate n v
  | 0, acc => by simp
  | n + 1, acc => by
    rw [List.replicate_succ, List.foldl_cons, fold_rep v n]
    simp [List.replicate_succ]
theorem zeros_list (t : Tok) : Marks (List.foldl (fun x1 x2 => x1 ++ x2) #[] (List.replicate (if (#[Value.int 0 t] : Array Value).isEmpty = true then 0 else (32 : Int).toNat) #[Value.int 0 t])) (fun _ => 0) := by
  have e0 : (if (#[Value.int 0 t] : Array Value).isEmpty = true then 0 else (32 : Int).toNat) = 32 := if_neg (by simp)
  rw [e0]
  have e := fold_rep (.int 0 t) 32 #[]
  generalize List.foldl (fun x1 x2 => x1 ++ x2) #[] (List.replicate 32 #[Value.int 0 t]) = z at e ⊢
  refine ⟨by rw [← Array.length_toList, e]; simp, fun j hj => ⟨t, ?_⟩⟩
  rw [← Array.getElem?_toList, e, List.nil_append, List.getElem?_replicate, if_pos hj]

/-- [0] * 32 -/
theorem zerosO {env : Env} {k k2 : Nat} {p p2 lp pos : Pos} {Q : Value → Shared → Prop} (O : Own h₀ L s.heap m cs)
    (h : ∀ D items h' tk, Own h₀ L h' m (lstC D items :: cs) → Marks items (fun _ => 0) → Q (.ref D) { s with heap := h', toks := tk }) :
    wpAny (model prog w) A (eval (.BinOp (.List [.Constant (.int 0) k p] lp) .Mult (.Constant (.int 32) k2 p2) pos) env) Q E s := by
  refine wpAny_BinOp (list_intO O fun D t h' tk O' => wpAny_Constant_int ?_)
  refine mul_listO (s := { s with heap := h', toks := tk + 1 }) O' O'.list (by decide) (by decide) (by simp) fun D' h'' O'' => ?_
  exact h D' _ h'' _ O''.swap.drop (zeros_list t)

theorem item_dictO {value slice : Expr} {d : Addr} {kvs : List (Str × Value)} {x : Str} {t : Tok} {v : Value} {Q : Value → Shared → Prop} (hd : s.heap.DictOf (PySem.strKind prog w) d kvs) (hv : valueAt kvs x = some v) (h : Q v { s with toks := s.toks + 1 })
    (hs : subscripted slice false (.ref d) (.str x t) = operate [.ref d, .str x t] (getItem (.ref d) (.str x t))) (hg : ∀ r, letTemporaryGo value (.ref d) r = pure ()) :
    wpAny (model prog w) A (subscriptTail value slice (.ref d) (.str x t)) Q E s :=
  subscriptTail_builtin hd.typeIs slot_dict_getitem.lookup (wpAny_getItem_of (PySem.strKind_is prog w x t) hd.mapOf hv h) hs hg

theorem ownKept : KeptH (fun h => Own h₀ L h m cs) := fun _ _ O => O.keep fun _ _ e => Heap.get?_push_of_some _ e
/-- x[:j] of a local text -/
theorem strToO {x : Str} {X : Str} {t : Tok} {j : Int} {k : Nat} {p p1 sp pos : Pos} {Q : Value → Shared → Prop} (O : Own h₀ L s.heap m cs) (hv : m x = some (.str X t)) (hX : X.length ≤ 1000)
    (h : ∀ h' u tk, Own h₀ L h' m cs → Q (.str (Txt.slice X none (some j)) u) { s with heap := h', toks := tk })
    (hk : scope.kind = .function) (hl : (envOf name scope L a cd).kindOf x = some .local) (hd : (x == ("__debug__" : Str)) = false) :
    wpAny (model prog w) A (eval (.Subscript (.Name x p1) (.Slice none (some (.Constant (.int j) k p)) none sp) pos) (envOf name scope L a cd)) Q E s := by
  refine Subscript_ (ldO O hv (wpAny_Slice (evalPart_none_step (evalPart_some_step (wpAny_Constant_int (evalPart_none_step ?_))))) hk hl hd)
  exact tail_of_ItemOn (SBH.sliceItem_ns (s := { s with toks := s.toks + 1 }) ownKept O (fun h' u tk O' => h h' u tk O') (by rw [sizeLine_eq]; omega)) (by with_unfolding_all rfl) (by intro _; with_unfolding_all rfl)
/-- x[i:] of a local text -/
theorem strFromO {x : Str} {X : Str} {t : Tok} {j : Int} {k : Nat} {p p1 sp pos : Pos} {Q : Value → Shared → Prop} (O : Own h₀ L s.heap m cs) (hv : m x = some (.str X t)) (hX : X.length ≤ 1000)
    (h : ∀ h' u tk, Own h₀ L h' m cs → Q (.str (Txt.slice X (some j) none) u) { s with heap := h', toks := tk })
    (hk : scope.kind = .function) (hl : (envOf name scope L a cd).kindOf x = some .local) (hd : (x == ("__debug__" : Str)) = false) :
    wpAny (model prog w) A (eval (.Subscript (.Name x p1) (.Slice (some (.Constant (.int j) k p)) none none sp) pos) (envOf name scope L a cd)) Q E s := by
  refine Subscript_ (ldO O hv (wpAny_Slice (evalPart_some_step (wpAny_Constant_int (evalPart_none_step (evalPart_none_step ?_))))) hk hl hd)
  exact tail_of_ItemOn (SBH.sliceItem_sn (s := { s with toks := s.toks + 1 }) ownKept O (fun h' u tk O' => h h' u tk O') (by rw [sizeLine_eq]; omega)) (by with_unfolding_all rfl) (by intro _; with_unfolding_all rfl)

/-- a for over a text -/
theorem forStrF {x : Str} {tp pos : Pos} {iter : Expr} {body orelse : List Stmt} {Q : Flow → Shared → Prop} (hA : A.handled = none) {s₀ : Shared}
    (inv : Nat → (Str → Option Value) → List Cell → Prop)
    (h : wpAny (model prog w) A (eval iter (envOf name scope L a cd)) (fun v s => ∃ X t m cs, v = .str X t ∧ X.cps.all (· < 128) = true ∧ Own h₀ L s.heap m cs ∧ inv 0 m cs ∧
      (∀ i m cs c C u h tk, X.cps[i]? = some C → inv i m cs → Own h₀ L h (upd m x (.str ⟨#[C]⟩ u)) (c :: cs) →
        wpAny (model prog w) A (execs body (envOf name scope L a cd)) (fun f s' => match f with
          | .next | .cont => ∃ h' tk' m' cs', s' = { s with heap := h', toks := tk' } ∧ inv (i + 1) m' cs' ∧ Own h₀ L h' m' (c :: cs')
          | _ => False) (fun _ _ => False) { s with heap := h, toks := tk }) ∧
      (∀ m cs h tk, inv X.cps.size m cs → Own h₀ L h m cs → Q .next { s with heap := h, toks := tk })) E s₀)
    (ho : orelse = []) (hk : scope.kind = .function) (hl : (envOf name scope L a cd).kindOf x = some .local)
    (hs : ∀ x, foldedSetIterable iter (envOf name scope L a cd) x = pure x) :
    wpAny (model prog w) A (exec (.For (.Name x tp) iter body orelse pos) (envOf name scope L a cd)) Q E s₀ := by
  subst ho
  refine wpAny_For (wpAny_mono h (fun v s hv => ?_) fun _ _ e => e) hs
  obtain ⟨X, t, m, cs, rfl, ha, O, h0, turn, fin⟩ := hv
  refine wpAny_pyIter_ascii ha ?_
  have W := Walks.strAscii (prog := prog) (w := w) hA s.heap.objs.size X t
  have live : ∀ (i : Nat) (h : Heap), h.IsStrIter s.heap.objs.size "str_ascii_iterator" X t i → ∀ b ∈ [s.heap.objs.size], ∃ o, h.get? b = some o := by
    rintro i h ⟨o, ho, _⟩ b hb
    rw [List.mem_singleton.mp hb]; exact ⟨o, ho⟩
  have hst : (s.heap.push { cls := .type "str_ascii_iterator", data := .fields #[.str X t, .int 0 0] }).IsStrIter s.heap.objs.size "str_ascii_iterator" X t 0 := ⟨_, Heap.get?_push_size _ rfl, rfl, rfl⟩
  have O' : Own h₀ L (s.heap.push { cls := .type "str_ascii_iterator", data := .fields #[.str X t, .int 0 0] }) m (⟨[s.heap.objs.size], fun h => h.IsStrIter s.heap.objs.size "str_ascii_iterator" X t 0⟩ :: cs) := by
    refine O.new (fun b o e => Heap.get?_push_of_some _ e) hst (fun h h' x k => W.frame 0 h h' x k) fun b hb => ?_
    rw [List.mem_singleton.mp hb]
    exact ⟨none_at (Nat.le_refl _), live 0 _ hst _ (by simp)⟩
  refine loopF (s := { s with heap := s.heap.push { cls := .type "str_ascii_iterator", data := .fields #[.str X t, .int 0 0] } }) W live inv (inv X.cps.size) O' h0 (fun i m cs v h tk hi hP hinv hO => ?_) (fun m cs h tk hinv hO => ?_) fin hk hl
  · obtain ⟨C, u, hC, rfl⟩ := hP
    refine wpAny_mono (turn i m cs _ C u h tk hC hinv hO) (fun f s' hf => ?_) fun _ _ e => e
    cases f with
    | next => exact hf
    | cont => exact hf
    | brk => exact hf.elim
    | ret v => exact hf.elim
  · exact wpAny_execs_nil ⟨h, tk, m, cs, rfl, hinv, hO⟩
end
end Mine
end

section
open PySem PySem.W PyProof.Rows PySem.Calls
namespace Mine

local macro_rules | `(tactic| walk_at "B") => `(tactic| with_reducible refine wpAny_BinOp ?_)
local macro_rules | `(tactic| walk_at "S") => `(tactic| with_reducible refine Calls.Constant_str ?_)
local macro_rules | `(tactic| walk_at "I") => `(tactic| with_reducible refine wpAny_Constant_int ?_)
local macro_rules | `(tactic| walk_at "X") => `(tactic| with_reducible refine Subscript_ ?_)
local macro_rules | `(tactic| walk_at "N") => `(tactic| with_reducible refine wpAny_execs_cons ?_)

/-- the words of a text: places, and what stands behind them -/
def tailOf : Option Int → List Str
  | none => []
  | some k => [baseText "0x" 16 (k * 2 ^ 32)]
def wsOf (l : List Nat) (o : Option Int) : List Str := l.map wordAt ++ tailOf o
def textOf (l : List Nat) (o : Option Int) : Str := Txt.join ", " (wsOf l o)
def highOf : Option Int → Int
  | none => 0
  | some k => k * 2 ^ 32

theorem ws_comma {l : List Nat} {o : Option Int} (hl : ∀ i ∈ l, i < 32) : ∀ x ∈ wsOf l o, 44 ∉ x.cps.toList := by
  intro x hx
  rcases List.mem_append.mp hx with hx | hx
  · obtain ⟨i, hi, rfl⟩ := List.mem_map.mp hx
    exact word_comma (hl i hi)
  · cases o with
    | none => cases hx
    | some k => rw [List.mem_singleton.mp hx]; exact base_comma _

theorem sum_le {l : List Nat} (h : ∀ x ∈ l, x ≤ 1000) : l.sum ≤ 1000 * l.length := by
  induction l with
  | nil => simp
  | cons a r ih =>
    have h1 := h a (by simp)
    have h2 := ih fun x hx => h x (by simp [hx])
    simp only [List.sum_cons, List.length_cons]
    omega
theorem text_short {l : List Nat} {o : Option Int} (hl : ∀ i ∈ l, i < 32) (hlen : l.length ≤ 32) (ho : ∀ k, o = some k → (k * 2 ^ 32).natAbs < 2 ^ 200) : (textOf l o).length ≤ 100000 := by
  have hw : (wsOf l o).length ≤ 33 := by
    unfold wsOf
    cases o <;> simp [tailOf] <;> omega
  have h := StrLaws.join_length_le (Str.ofString ", ") (wsOf l o)
  have e : textOf l o = Str.join (Str.ofString ", ") (wsOf l o) := StrLaws.glued_eq_join _ _
  have hs := sum_le (l := (wsOf l o).map (·.length)) (by
    intro x hx
    obtain ⟨y, hy, rfl⟩ := List.mem_map.mp hx
    unfold wsOf at hy
    rcases List.mem_append.mp hy with hy | hy
    · obtain ⟨i, hi, rfl⟩ := List.mem_map.mp hy
      exact Nat.le_trans (wordAt_short (hl i hi)) (by decide)
    · cases o with
      | none => cases hy
      | some k =>
        rw [List.mem_singleton.mp hy]
        exact Nat.le_trans (hex_short (k := 60) (by decide) (Nat.lt_trans (ho k rfl) (by decide))) (by decide))
  have e2 : (Str.ofString ", ").length = 2 := by decide +kernel
  rw [List.length_map] at hs
  rw [e]
  rw [e2] at h
  omega

theorem seqR {M : Model} {A : Around} {E : Value → Shared → Prop} {env : Env} {st : Stmt} {rest : List Stmt} {Q : Flow → Shared → Prop} {s : Shared} (R : Shared → Prop)
    (h1 : wpAny M A (exec st env) (fun f s' => f = .next ∧ R s') E s) (h2 : ∀ s', R s' → wpAny M A (execs rest env) Q E s') : wpAny M A (execs (st :: rest) env) Q E s := by
  refine wpAny_execs_cons (wpAny_mono h1 (fun f s' hf => ?_) fun _ _ e => e)
  obtain ⟨rfl, hr⟩ := hf
  exact h2 s' hr

section
variable {w : World} {A : Around} {E : Value → Shared → Prop} {s : Shared} {N : Nat} {mg mb : Str → Option Value}
set_option maxRecDepth 100000 in
set_option maxHeartbeats 4000000 in
theorem read_call {f wl : Addr} {ws : List (Str × Tok)} {l : List Nat} {o : Option Int} {t : Tok} {Q : Value → Shared → Prop} (G : GB w N mg mb s.heap) (hf : mg "_law_read" = some (.ref f))
   (hA : A.handled = none) (hroom : A.depth < recursionLimit) (hW : s.heap.IsList wl (strValues ws).toArray) (hws : ws.map (·.1) = words32)
   (hl : ∀ i ∈ l, i < 32) (hne : wsOf l o ≠ []) (hlen : l.length ≤ 32) (ho : ∀ k, o = some k → (k * 2 ^ 32).natAbs < 2 ^ 200)
   (hQ : ∀ h' tk T D items tH, (∀ b o, s.heap.get? b = some o → h'.get? b = some o) → s.heap.get? D = none → h'.IsTuple T #[.ref D, .int (highOf o) tH] → h'.IsList D items → Marks items (fun j => if j ∈ l then 1 else 0) → Q (.ref T) { s with heap := h', toks := tk }) :
   wpAny (model PySem.Challenge.pw_dm0070_02 w) A (call (.ref f) [.str (textOf l o) t, .ref wl]) Q E s := by
  refine call_def (d := defAt PySem.Challenge.pw_dm0070_02 14) (binds := [("text", .str (textOf l o) t), ("words", .ref wl)]) G.G (by simp [ds2]) (by rfl) hf hroom (fun _ _ _ => by rfl) (fun x hx => ?_) (fun h₁ tk cd O => ?_) (by decide +kernel) (by decide +kernel) (by decide +kernel) (by decide +kernel)
  · rcases List.mem_cons.mp hx with rfl | hx
    · exact (by decide +kernel : (defAt PySem.Challenge.pw_dm0070_02 14).scope.names.lookup ("text" : Str) = some .local)
    · rw [List.mem_singleton.mp hx]
      exact (by decide +kernel : (defAt PySem.Challenge.pw_dm0070_02 14).scope.names.lookup ("words" : Str) = some .local)
  have hAd : (A.deeper (envOf (defAt PySem.Challenge.pw_dm0070_02 14).name (defAt PySem.Challenge.pw_dm0070_02 14).scope s.heap.objs.size f cd)).handled = none := hA
  have hk : (defAt PySem.Challenge.pw_dm0070_02 14).scope.kind = .function := by decide +kernel
  have lo : ∀ x ∈ (["text", "words", "spots", "places", "high", "word", "figures", "sign"] : List Str), (envOf (defAt PySem.Challenge.pw_dm0070_02 14).name (defAt PySem.Challenge.pw_dm0070_02 14).scope s.heap.objs.size f cd).kindOf x = some .local := by
    have e := (by decide +kernel : ∀ x ∈ (["text", "words", "spots", "places", "high", "word", "figures", "sign"] : List Str), (defAt PySem.Challenge.pw_dm0070_02 14).scope.names.lookup x = some .local)
    exact e
  have en : (envOf (defAt PySem.Challenge.pw_dm0070_02 14).name (defAt PySem.Challenge.pw_dm0070_02 14).scope s.heap.objs.size f cd).kindOf "enumerate" = some .globalImplicit :=
    (by decide +kernel : (defAt PySem.Challenge.pw_dm0070_02 14).scope.names.lookup ("enumerate" : Str) = some .globalImplicit)
  have l_text := lo "text" (by decide)
  have l_words := lo "words" (by decide)
  have l_spots := lo "spots" (by decide)
  have l_places := lo "places" (by decide)
  have l_high := lo "high" (by decide)
  have l_word := lo "word" (by decide)
  have l_figures := lo "figures" (by decide)
  have l_sign := lo "sign" (by decide)
  clear lo
  generalize (A.deeper (envOf (defAt PySem.Challenge.pw_dm0070_02 14).name (defAt PySem.Challenge.pw_dm0070_02 14).scope s.heap.objs.size f cd)) = A' at *
  generalize hL : s.heap.objs.size = L at *
  generalize hm0 : (fun x : Str => List.lookup x ([("text", .str (textOf l o) t), ("words", .ref wl)] : List (Str × Value)).reverse) = m0 at O
  have m_text : m0 "text" = some (.str (textOf l o) t) := by rw [← hm0]; rfl
  have m_words : m0 "words" = some (.ref wl) := by rw [← hm0]; rfl
  clear hm0
  have hwn : (ws.map (·.1)).Nodup := by rw [hws]; exact words32_nodup
  have hwl : ws.length ≤ 1000 := by
    have e := congrArg List.length hws
    rw [List.length_map] at e
    have : words32.length = 32 := by decide +kernel
    omega
  have hWl : ∀ h' : Heap, (∀ b o, s.heap.get? b = some o → h'.get? b = some o) → h'.IsList wl (strValues ws).toArray := fun h' k => hW.at fun o e => k _ o e
  refine wpAny_execs_cons ?_
  with_reducible refine assign_enumO O G hAd m_words (hWl _ O.fr.keep) hwn hwl ?_ (by with_unfolding_all rfl) (by decide +kernel) (by decide +kernel) (by decide +kernel) (by decide +kernel) (by decide +kernel) (by decide +kernel) (by decide) (by decide) hk l_words l_spots en (by decide)
  intro d h₂ tk₂ kvs O₂ hS
  rw [hws] at hS
  dsimp only at *
  refine wpAny_execs_cons ?_
  refine wpAny_Assign_Name ?_ ?_
  rotate_left
  · rfl
  with_reducible refine zerosO O₂ ?_
  intro D items h₄ tk₄ O₄ M₄
  with_reducible refine stO O₄ (fun h₅ tk₅ O₅ => ?_) hk l_places
  dsimp only at *
  refine wpAny_execs_cons ?_
  refine wpAny_Assign_Name ?_ ?_
  rotate_left
  · rfl
  walk_at "I"
  with_reducible refine stO O₅ (fun h₆ tk₆ O₆ => ?_) hk l_high
  dsimp only at *
  have hdS : (d == sysModules) = false := by
    refine beq_eq_false_iff_ne.mpr ?_
    rintro rfl
    have e := (O₂.live (dictC PySem.Challenge.pw_dm0070_02 w sysModules kvs) (by simp) sysModules (by simp [dictC])).2.1
    obtain ⟨mm, ⟨om, _, _, hom, _⟩, _⟩ := G.G.seer.mods
    rw [hom] at e; cases e
  have hsplit : Txt.split (textOf l o) ", " = wsOf l o := split_join hne (ws_comma hl)
  refine wpAny_execs_cons ?_
  with_reducible refine forListF (h₀ := s.heap) hAd (fun i m cs => ∃ items tH, m "spots" = some (.ref d) ∧ m "places" = some (.ref D) ∧ m "high" = some (.int (if i ≤ l.length then 0 else highOf o) tH) ∧ cs = [lstC D items, dictC PySem.Challenge.pw_dm0070_02 w d kvs] ∧ Marks items (fun j => if j ∈ l.take i then 1 else 0)) (fun m cs => ∃ items tH, m "spots" = some (.ref d) ∧ m "places" = some (.ref D) ∧ m "high" = some (.int (highOf o) tH) ∧ cs = [lstC D items, dictC PySem.Challenge.pw_dm0070_02 w d kvs] ∧ Marks items (fun j => if j ∈ l then 1 else 0)) ?_ hk l_word (fun _ => by with_unfolding_all rfl)
  with_reducible refine Call_method1 (by with_unfolding_all rfl) (by with_unfolding_all rfl) (by with_unfolding_all rfl) ?_
  with_reducible refine ldO O₆ ((upd_ne (by decide)).trans ((upd_ne (by decide)).trans ((upd_ne (by decide)).trans m_text))) ?_ hk l_text (by decide)
  with_reducible refine splitM (s := { s with heap := h₆, toks := tk₆ }) O₆ ?_ ?_
  · walk_at "S"
    refine ⟨_, _, rfl, by decide +kernel, O₆, ?_, ?_⟩
    · have h1 := StrLaws.occ_length_le (textOf l o) (Str.ofString ", ") 0 (textOf l o).length ((textOf l o).length + 1)
      have h2 := text_short hl hlen ho
      rw [length_partsBetween, sizeLine_eq]
      omega
    intro X lw h₇ tk₇ hlw O₇
    rw [hsplit] at hlw
    refine ⟨X, (strValues lw).toArray, _, _, rfl, O₇, ⟨items, _, (upd_ne (by decide)).trans ((upd_ne (by decide)).trans upd_same), (upd_ne (by decide)).trans upd_same, by rw [if_pos (Nat.zero_le _)]; exact upd_same, rfl, by simpa using M₄⟩, ?_, ?_, ?_⟩
    · rintro i m cs I v h tk hv ⟨items, tH, m1, m2, m3, rfl, M⟩ O
      have hdic : h.DictOf (PySem.strKind PySem.Challenge.pw_dm0070_02 w) d kvs := O.holds (dictC PySem.Challenge.pw_dm0070_02 w d kvs) (by simp)
      obtain ⟨⟨x, u⟩, hp, rfl⟩ : ∃ p : Str × Tok, lw[i]? = some p ∧ v = .str p.1 p.2 := by
        simp only [strValues, List.getElem?_toArray, List.getElem?_map] at hv
        cases e : lw[i]? with
        | none => rw [e] at hv; cases hv
        | some p => rw [e] at hv; cases hv; exact ⟨p, rfl, rfl⟩
      have hx : (wsOf l o)[i]? = some x := by rw [← hlw, List.getElem?_map, hp]; rfl
      dsimp only at *
      with_reducible refine wpAny_execs_cons ?_
      with_reducible refine wpAny_If ?_
      with_reducible refine wpAny_isTrue_Compare1 ?_ (by with_unfolding_all rfl)
      with_reducible refine ldO O upd_same ?_ hk l_word (by decide)
      with_reducible refine ldO O ((upd_ne (by decide)).trans m1) ?_ hk l_spots (by decide)
      refine wpAny_in_of (PySem.strKind_is PySem.Challenge.pw_dm0070_02 w x u) hdS hdic.mapOf (wpAny_truthy_bool ?_)
      rcases Nat.lt_or_ge i l.length with hi | hi
      · have ex : x = wordAt l[i] := by
          unfold wsOf at hx
          rw [List.getElem?_append_left (by simpa using hi)] at hx
          simpa [hi] using hx.symm
        subst ex
        have hj : l[i] < 32 := hl _ (List.getElem_mem hi)
        obtain ⟨ts, hts⟩ := spot_some hS hj
        rw [hts]
        simp only [Option.isSome_some, if_true]
        refine wpAny_execs_cons ?_
        with_reducible refine wpAny_Assign_Subscript ?_ (by with_unfolding_all rfl)
        walk_at "I"
        with_reducible refine ldO O ((upd_ne (by decide)).trans m2) ?_ hk l_places (by decide)
        walk_at "X"
        with_reducible refine ldO O ((upd_ne (by decide)).trans m1) ?_ hk l_spots (by decide)
        with_reducible refine ldO O upd_same ?_ hk l_word (by decide)
        with_reducible refine item_dictO hdic hts ?_ (by with_unfolding_all rfl) (by intro _; with_unfolding_all rfl)
        refine wpAny_setItem_list (O.holds (lstC D items) (by simp)) (by omega) (by omega) (by rw [M.1]; omega) fun h₈ hl₈ sb₈ => ?_
        have O₈ := (O.swap.upd (c' := lstC D (items.setIfInBounds (l[i] : Int).toNat (.int 1 _))) (fun b o hb e => (sb₈.2 b (fun x => hb (by simp [lstC, x]))).trans e) hl₈ lstC_ok (fun _ x => x) (fun b hb => by
          obtain rfl : b = D := by simpa [lstC] using hb
          obtain ⟨o, e, _⟩ := hl₈
          exact ⟨o, e⟩)).swap
        refine wpAny_execs_nil (wpAny_execs_nil ⟨_, _, _, _, rfl, ⟨_, tH, (upd_ne (by decide)).trans m1, (upd_ne (by decide)).trans m2, ?_, rfl, ?_⟩, O₈⟩)
        · rw [if_pos (by omega)]
          rw [if_pos (by omega)] at m3
          exact (upd_ne (by decide)).trans m3
        · rw [Int.toNat_natCast]
          refine (M.set hj 1 _).congr fun j _ => ?_
          simp only [List.take_succ_eq_append_getElem hi, List.mem_append, List.mem_singleton]
          by_cases e : j = l[i] <;> simp [e]
      · obtain ⟨k, rfl, rfl, rfl⟩ : ∃ k, o = some k ∧ x = baseText "0x" 16 (k * 2 ^ 32) ∧ i = l.length := by
          unfold wsOf at hx
          rw [List.getElem?_append_right (by simpa using hi), List.length_map] at hx
          cases o with
          | none => simp [tailOf] at hx
          | some k =>
            simp only [tailOf, List.getElem?_singleton] at hx
            split at hx
            · cases hx; exact ⟨k, rfl, rfl, by omega⟩
            · cases hx
        have hHb := ho k rfl
        rw [spot_none hS]
        simp only [Option.isSome_none, Bool.false_eq_true, if_false]
        rw [if_pos (Nat.le_refl _)] at m3
        have hhi : highOf (some k) = k * 2 ^ 32 := rfl
        generalize k * 2 ^ 32 = H at *
        have hXl : (baseText "0x" 16 H).length ≤ 1000 := Nat.le_trans (hex_short (k := 60) (by decide) (Nat.lt_trans hHb (by decide))) (by decide)
        have hFl : (figsOf H).length ≤ 1000 := Nat.le_trans (hex_short (k := 60) (by decide) (Nat.lt_trans (by simpa using hHb) (by decide))) (by decide)
        refine wpAny_execs_cons ?_
        refine wpAny_Assign_Name ?_ ?_
        rotate_left
        · rfl
        with_reducible refine ldO O upd_same ?_ hk l_word (by decide)
        with_reducible refine stO O (fun h₈ tk₈ O₈ => ?_) hk l_figures
        dsimp only at *
        refine seqR (fun s' => ∃ h' tk' m' u', s' = { s with heap := h', toks := tk' } ∧ m' "spots" = some (.ref d) ∧ m' "places" = some (.ref D) ∧ m' "high" = some (.int 0 tH) ∧ m' "word" = some (.str (baseText "0x" 16 H) u) ∧ m' "figures" = some (.str (figsOf H) u') ∧
          Own s.heap L h' m' (⟨[I, X], fun h => h.IsListIter I X (l.length + 1) ∧ h.IsList X (strValues lw).toArray⟩ :: [lstC D items, dictC PySem.Challenge.pw_dm0070_02 w d kvs])) ?_ ?_
        · with_reducible refine wpAny_If ?_
          with_reducible refine wpAny_isTrue_Compare1 ?_ (by with_unfolding_all rfl)
          with_reducible refine strToO O₈ ((upd_ne (by decide)).trans upd_same) hXl ?_ hk l_word (by decide)
          intro h₉ u₉ tk₉ O₉
          walk_at "S"
          refine P.eq_str (wpAny_truthy_bool ?_)
          rw [slice_head]
          have em : (Str.ofString "-").cps.toList = [45] := by decide +kernel
          rw [em]
          by_cases hneg : H < 0
          · simp only [if_pos hneg, beq_self_eq_true, if_true]
            refine wpAny_execs_cons ?_
            refine wpAny_Assign_Name ?_ ?_
            rotate_left
            · rfl
            with_reducible refine strFromO O₉ ((upd_ne (by decide)).trans upd_same) hXl ?_ hk l_word (by decide)
            intro h₁₀ u₁₀ tk₁₀ O₁₀
            rw [slice_neg hneg]
            with_reducible refine stO O₁₀ (fun h₁₁ tk₁₁ O₁₁ => ?_) hk l_figures
            dsimp only at *
            refine wpAny_execs_nil ⟨rfl, _, _, _, _, rfl, ?_, ?_, ?_, ?_, upd_same, O₁₁⟩
            · exact (upd_ne (by decide)).trans ((upd_ne (by decide)).trans ((upd_ne (by decide)).trans m1))
            · exact (upd_ne (by decide)).trans ((upd_ne (by decide)).trans ((upd_ne (by decide)).trans m2))
            · exact (upd_ne (by decide)).trans ((upd_ne (by decide)).trans ((upd_ne (by decide)).trans m3))
            · exact (upd_ne (by decide)).trans ((upd_ne (by decide)).trans upd_same)
          · have ef : (([48] : List Nat) == [45]) = false := by decide
            simp only [if_neg hneg, ef, Bool.false_eq_true, if_false]
            refine wpAny_execs_nil ⟨rfl, _, _, _, _, rfl, ?_, ?_, ?_, ?_, by rw [figs_pos hneg]; exact upd_same, O₉⟩
            · exact (upd_ne (by decide)).trans ((upd_ne (by decide)).trans m1)
            · exact (upd_ne (by decide)).trans ((upd_ne (by decide)).trans m2)
            · exact (upd_ne (by decide)).trans ((upd_ne (by decide)).trans m3)
            · exact (upd_ne (by decide)).trans upd_same
        · rintro s' ⟨h', tk', m', u', rfl, n1, n2, n3, n4, n5, O'⟩
          refine seqR (fun s' => ∃ h' tk' m' tH', s' = { s with heap := h', toks := tk' } ∧ m' "spots" = some (.ref d) ∧ m' "places" = some (.ref D) ∧ m' "high" = some (.int H.natAbs tH') ∧ m' "word" = some (.str (baseText "0x" 16 H) u) ∧ m' "figures" = some (.str (figsOf H) u') ∧
            Own s.heap L h' m' (⟨[I, X], fun h => h.IsListIter I X (l.length + 1) ∧ h.IsList X (strValues lw).toArray⟩ :: [lstC D items, dictC PySem.Challenge.pw_dm0070_02 w d kvs])) ?_ ?_
          · with_reducible refine forStrF (h₀ := s.heap) hAd (fun j m' cs => ∃ tH', m' "spots" = some (.ref d) ∧ m' "places" = some (.ref D) ∧ m' "high" = some (.int (foldHex ((hexL H.natAbs).take j) 0) tH') ∧ m' "word" = some (.str (baseText "0x" 16 H) u) ∧ m' "figures" = some (.str (figsOf H) u') ∧ cs = (⟨[I, X], fun h => h.IsListIter I X (l.length + 1) ∧ h.IsList X (strValues lw).toArray⟩ :: [lstC D items, dictC PySem.Challenge.pw_dm0070_02 w d kvs])) ?_ rfl hk l_sign (fun _ => by with_unfolding_all rfl)
            with_reducible refine strFromO O' n5 hFl ?_ hk l_figures (by decide)
            intro h₁₂ u₁₂ tk₁₂ O₁₂
            rw [slice_digs]
            refine ⟨digsOf H, _, _, _, rfl, ?_, O₁₂, ⟨_, n1, n2, n3, n4, n5, rfl⟩, ?_, ?_⟩
            · unfold digsOf
              rw [List.all_toArray, List.all_eq_true]
              intro c hc
              obtain ⟨dd, rfl⟩ := hexL_signs _ _ hc
              exact decide_eq_true (sg_ok dd).2.2.2.2
            · rintro j m₂ cs₂ c C uC h₁₃ tk₁₃ hC ⟨tH', q1, q2, q3, q4, q5, rfl⟩ O₁₃
              have hC' : (hexL H.natAbs)[j]? = some C := by simpa [digsOf] using hC
              obtain ⟨dd, rfl⟩ := hexL_signs _ _ (List.mem_of_getElem? hC')
              refine wpAny_execs_cons ?_
              refine wpAny_Assign_Name ?_ ?_
              rotate_left
              · rfl
              walk_at "B"; walk_at "B"; walk_at "I"
              with_reducible refine ldO O₁₃ ((upd_ne (by decide)).trans q3) ?_ hk l_high (by decide)
              refine mul_int ?_ (IntMulOk.of_left (by decide))
              with_reducible refine Call_method1 (by with_unfolding_all rfl) (by with_unfolding_all rfl) (by with_unfolding_all rfl) ?_
              walk_at "S"
              refine SB.indexFound ?_
              with_reducible refine ldO O₁₃ upd_same ?_ hk l_sign (by decide)
              refine ⟨_, _, rfl, (sg_ok dd).2.1, add_int ?_⟩
              with_reducible refine stO O₁₃ (fun h₁₄ tk₁₄ O₁₄ => ?_) hk l_high
              have el : (hexL H.natAbs).take (j + 1) = (hexL H.natAbs).take j ++ [sg dd.val] := by
                obtain ⟨hj, ej⟩ := List.getElem?_eq_some_iff.mp hC'
                rw [List.take_succ_eq_append_getElem hj, ej]
              have ev : 16 * foldHex ((hexL H.natAbs).take j) 0 + Txt.find (Str.ofString "0123456789abcdef") ⟨#[sg dd.val]⟩ = foldHex ((hexL H.natAbs).take (j + 1)) 0 := by
                rw [el]; unfold foldHex; rw [List.foldl_append]; rfl
              rw [ev] at O₁₄
              refine wpAny_execs_nil ⟨_, _, _, _, rfl, ⟨_, ?_, ?_, upd_same, ?_, ?_, rfl⟩, O₁₄⟩
              · exact (upd_ne (by decide)).trans ((upd_ne (by decide)).trans q1)
              · exact (upd_ne (by decide)).trans ((upd_ne (by decide)).trans q2)
              · exact (upd_ne (by decide)).trans ((upd_ne (by decide)).trans q4)
              · exact (upd_ne (by decide)).trans ((upd_ne (by decide)).trans q5)
            · rintro m₂ cs₂ h₁₃ tk₁₃ ⟨tH', q1, q2, q3, q4, q5, rfl⟩ O₁₃
              have el : (hexL H.natAbs).take (digsOf H).cps.size = hexL H.natAbs := List.take_of_length_le (by simp [digsOf])
              rw [el, fold_hexL] at q3
              exact ⟨rfl, _, _, _, _, rfl, q1, q2, q3, q4, q5, O₁₃⟩
          · rintro s' ⟨h', tk', m', tH', rfl, n1, n2, n3, n4, n5, O'⟩
            have fin : ∀ (hz : Heap) (tkz : Nat) (mz : Str → Option Value) (tz : Tok), mz "spots" = some (.ref d) → mz "places" = some (.ref D) → mz "high" = some (.int H tz) →
                Own s.heap L hz mz (⟨[I, X], fun h => h.IsListIter I X (l.length + 1) ∧ h.IsList X (strValues lw).toArray⟩ :: [lstC D items, dictC PySem.Challenge.pw_dm0070_02 w d kvs]) →
                ∃ h' tk' m' cs', ({ s with heap := hz, toks := tkz } : Shared) = { s with heap := h', toks := tk' } ∧ (∃ items tH, m' "spots" = some (.ref d) ∧ m' "places" = some (.ref D) ∧ m' "high" = some (.int (if l.length + 1 ≤ l.length then 0 else highOf (some k)) tH) ∧ cs' = [lstC D items, dictC PySem.Challenge.pw_dm0070_02 w d kvs] ∧ Marks items (fun j => if j ∈ l.take (l.length + 1) then 1 else 0)) ∧
                  Own s.heap L h' m' (⟨[I, X], fun h => h.IsListIter I X (l.length + 1) ∧ h.IsList X (strValues lw).toArray⟩ :: cs') := by
              intro hz tkz mz tz z1 z2 z3 Oz
              refine ⟨hz, tkz, mz, _, rfl, ⟨items, tz, z1, z2, ?_, rfl, ?_⟩, Oz⟩
              · rw [if_neg (by omega), hhi]; exact z3
              · rw [List.take_of_length_le (Nat.le_succ _)]
                rw [List.take_of_length_le (Nat.le_refl _)] at M
                exact M
            refine wpAny_execs_cons ?_
            with_reducible refine wpAny_If ?_
            with_reducible refine wpAny_isTrue_Compare1 ?_ (by with_unfolding_all rfl)
            with_reducible refine ldO O' n5 ?_ hk l_figures (by decide)
            with_reducible refine ldO O' n4 ?_ hk l_word (by decide)
            refine P.ne_str (wpAny_truthy_bool ?_)
            by_cases hneg : H < 0
            · have e : ((figsOf H).cps.toList != (baseText "0x" 16 H).cps.toList) = true := bne_iff_ne.mpr (figs_ne hneg)
              simp only [e, if_true]
              refine wpAny_execs_cons ?_
              refine wpAny_Assign_Name ?_ ?_
              rotate_left
              · rfl
              with_reducible refine wpAny_UnaryOp ?_
              with_reducible refine ldO O' n3 ?_ hk l_high (by decide)
              refine P.neg_int ?_
              with_reducible refine stO O' (fun h₁₅ tk₁₅ O₁₅ => ?_) hk l_high
              have ev : -(H.natAbs : Int) = H := by omega
              rw [ev] at O₁₅
              exact wpAny_execs_nil (wpAny_execs_nil (wpAny_execs_nil (fin _ _ _ _ ((upd_ne (by decide)).trans n1) ((upd_ne (by decide)).trans n2) upd_same O₁₅)))
            · have e : ((figsOf H).cps.toList != (baseText "0x" 16 H).cps.toList) = false := by rw [figs_pos hneg]; simp
              simp only [e, Bool.false_eq_true, if_false]
              have ev : (H.natAbs : Int) = H := by omega
              rw [ev] at n3
              exact wpAny_execs_nil (wpAny_execs_nil (wpAny_execs_nil (fin _ _ _ _ n1 n2 n3 O')))
    · rintro m cs h tk ⟨items, tH, m1, m2, m3, rfl, M⟩ O
      have es : (strValues lw).toArray.size = (wsOf l o).length := by rw [← hlw]; simp [strValues]
      rw [es] at m3 M
      have hlw2 : l.length ≤ (wsOf l o).length := by unfold wsOf; simp
      refine wpAny_execs_nil ⟨h, tk, m, _, rfl, ⟨items, tH, m1, m2, ?_, rfl, ?_⟩, O⟩
      · cases o with
        | none =>
          rw [if_pos (by simp [wsOf, tailOf])] at m3
          exact m3
        | some k =>
          rw [if_neg (by simp [wsOf, tailOf])] at m3
          exact m3
      · rw [List.take_of_length_le hlw2] at M
        exact M
    · rintro m cs h tk ⟨items, tH, m1, m2, m3, rfl, M⟩ O
      dsimp only at *
      refine wpAny_execs_cons ?_
      with_reducible refine wpAny_Return_some ?_
      rw [arm_eval_Tuple]
      refine wpAny_bind (wpAny_standAt (wpAny_bind ?_))
      refine args_cons ?_ (by rfl)
      with_reducible refine ldO O m2 ?_ hk l_places (by decide)
      refine args_cons ?_ (by rfl)
      with_reducible refine ldO O m3 ?_ hk l_high (by decide)
      refine args_nil ?_
      refine wpAny_newTuple ?_ (by rw [sizeLine_eq]; simp)
      have hD := (O.live (lstC D items) (by simp) D (by simp [lstC])).2.1
      have hLD : h.IsList D items := O.hd
      exact hQ _ _ _ D items tH (fun b o e => Heap.get?_push_of_some _ (O.fr.keep b o e)) hD ⟨_, Heap.get?_push_size _ rfl, rfl, _, rfl⟩ (hLD.push _) M
  · have h2 := text_short hl hlen ho
    rw [sizeLine_eq]; omega
end
end Mine
end

section
open PySem PySem.W PyProof.Rows PySem.Calls
namespace Mine

/-- a variable's cell -/
def cellC (c : Addr) (v : Option Value) : Cell := ⟨[c], fun h => h.IsCell c v⟩
theorem cellC_ok {c : Addr} {v : Option Value} : (cellC c v).Ok := fun _ _ ⟨o, e, r⟩ k => ⟨o, k c (by simp [cellC]) o e, r⟩

theorem Own.ofCl {h₀ h : Heap} {L : Addr} {m cm : Str → Option Value} {cells : List (Str × Addr)} (F : Fr h₀ L h m) (X : Cl L cells h cm) (hlk : ∀ p ∈ cells, cells.lookup p.1 = some p.2) :
    Own h₀ L h m (cells.map fun p => cellC p.2 (cm p.1)) where
  fr := F
  holds := fun c hc => by
    obtain ⟨p, hp, rfl⟩ := List.mem_map.mp hc
    exact X.cell p.1 p.2 (hlk p hp)
  ok := fun c hc => by
    obtain ⟨p, hp, rfl⟩ := List.mem_map.mp hc
    exact cellC_ok
  live := fun c hc b hb => by
    obtain ⟨p, hp, rfl⟩ := List.mem_map.mp hc
    rw [List.mem_singleton.mp hb]
    have hab := X.above p.1 p.2 hp
    obtain ⟨o, e, _⟩ := X.cell p.1 p.2 (hlk p hp)
    exact ⟨⟨o, e⟩, none_at (Nat.le_of_lt (Nat.lt_of_le_of_lt F.above hab)), Nat.ne_of_gt hab⟩
  apart := by
    rw [List.pairwise_map]
    refine X.apart.imp fun {a b} hab x hx hx' => hab ?_
    rw [← List.mem_singleton.mp hx, ← List.mem_singleton.mp hx']

section
variable {M : Model} {A : Around} {E : Value → Shared → Prop} {s : Shared} {env : Env} {L : Addr} {h₀ : Heap} {m : Str → Option Value} {cs : List Cell}
theorem ldnE {x : Str} {v : Value} {Q : Value → Shared → Prop} (O : Own h₀ L s.heap m cs) (hL : env.locals = L) (hv : m x = some v) (h : Q v s)
    (hk : env.scope.kind = .function) (hl : env.kindOf x = some .local) : wpAny M A (loadName env x) Q E s := wpAny_loadName_local hk hl (hL ▸ O.fr.ns) hv h
theorem ldE {x : Str} {pos : Pos} {v : Value} {Q : Value → Shared → Prop} (O : Own h₀ L s.heap m cs) (hL : env.locals = L) (hv : m x = some v) (h : Q v s)
    (hk : env.scope.kind = .function) (hl : env.kindOf x = some .local) (hd : (x == ("__debug__" : Str)) = false) :
    wpAny M A (eval (.Name x pos) env) Q E s := wpAny_Name (ldnE O hL hv h hk hl) hd
theorem ldcE {x : Str} {pos : Pos} {c : Addr} {v : Value} {Q : Value → Shared → Prop} (hc : s.heap.IsCell c (some v)) (hx : env.cells.lookup x = some c) (h : Q v s)
    (hk : env.scope.kind = .function) (hl : env.kindOf x = some .cell) (hd : (x == ("__debug__" : Str)) = false) :
    wpAny M A (eval (.Name x pos) env) Q E s := wpAny_Name (wpAny_loadName_cell hk hl hx hc h) hd
theorem stE {x : Str} {v : Value} {Q : Unit → Shared → Prop} (O : Own h₀ L s.heap m cs) (hL : env.locals = L)
    (h : ∀ h' tk, Own h₀ L h' (upd m x v) cs → Q () { s with heap := h', toks := tk })
    (hk : env.scope.kind = .function) (hl : env.kindOf x = some .local) : wpAny M A (storeName env x v) Q E s :=
  wpAny_storeName_local hl (hL ▸ O.fr.ns) (fun h' hn hs => h h' _ (O.store (hL ▸ hn) (hL ▸ hs))) (by rw [hk]; rfl)
theorem stcE {x : Str} {c : Addr} {v₀ : Option Value} {v : Value} {Q : Unit → Shared → Prop} (O : Own h₀ L s.heap m (cellC c v₀ :: cs)) (hx : env.cells.lookup x = some c)
    (h : ∀ h', Own h₀ L h' m (cellC c (some v) :: cs) → Q () { s with heap := h' })
    (hk : env.scope.kind = .function) (hl : env.kindOf x = some .cell) : wpAny M A (storeName env x v) Q E s := by
  refine wpAny_storeName_cell hk hl hx O.hd fun h' hc hs => h h' ?_
  refine O.upd (fun b o hb e => (hs.2 b (fun x => hb (by simp [cellC, x]))).trans e) hc cellC_ok (fun _ x => x) fun b hb => ?_
  rw [List.mem_singleton.mp hb]
  exact ⟨_, hc.choose_spec.1⟩
end

section
variable {prog : Program} {w : World} {A : Around} {E : Value → Shared → Prop} {s : Shared} {name : Str} {scope : Scope} {L a : Addr} {cd : Value} {h₀ : Heap} {m : Str → Option Value} {cs : List Cell}

theorem call_defC {N : Nat} {mg mb : Str → Option Value} {defs : List DefItem} {objs : List (Str × (Obj → Prop))} {names : List Str} {d : DefItem} {f : Addr} {args : List Value} {binds : List (Str × Value)} {Q : Value → Shared → Prop}
    (G : Glob N mg mb defs [] objs names s.heap) (hd : d ∈ defs) (hdf : d.params.defaults = []) (hf : mg d.name = some (.ref f)) (hroom : A.depth < recursionLimit)
    (hbind : ∀ pm cd doc, bindArgs (docDef d.name d.params d.body d.scope pm cd doc) ⟨args, []⟩ = pure binds)
    (hkind : ∀ x ∈ binds, d.scope.names.lookup x.1 = some .local ∨ (d.scope.names.lookup x.1 = some .cell ∧ ((cellsFrom (s.heap.objs.size + 1) d.scope.names []).lookup x.1).isSome = true))
    (h : ∀ h₁ tk cd, Fr s.heap s.heap.objs.size h₁ (bindL (envOfC d.name d.scope s.heap.objs.size f cd).kindOf binds fun _ => none) →
      Cl s.heap.objs.size (cellsFrom (s.heap.objs.size + 1) d.scope.names []) h₁ (bindC (envOfC d.name d.scope s.heap.objs.size f cd).kindOf binds fun _ => none) →
      wpAny (model prog w) (A.deeper (envOfC d.name d.scope s.heap.objs.size f cd)) (execs d.body (envOfC d.name d.scope s.heap.objs.size f cd))
        (fun fl s' => Q (match fl with | .ret v => v | _ => .none) s') (fun _ _ => False) { s with heap := h₁, toks := tk })
    (hco : d.scope.isCoroutine = false) (hgen : d.scope.isGenerator = false) (hk : d.scope.kind = .function) :
    wpAny (model prog w) A (call (.ref f) args) Q E s := by
  obtain ⟨f', c', o, pm, doc, _, _, h3, h4, h5, h6⟩ := (G.made d hd).plain hdf
  obtain rfl : f' = f := by rw [hf] at h3; cases h3; rfl
  exact wpAny_call (call_cells_ret hroom h4 h5 G.nolimit h6 (hbind _ _ _) hkind (fun h₁ tk F X => h h₁ tk _ F X) hco hgen hk)
end
end Mine
end

section
open PySem PySem.W PyProof.Rows PySem.Calls
namespace Mine

section
variable {prog : Program} {w : World} {A : Around} {E : Value → Shared → Prop} {s : Shared} {env : Env} {L : Addr} {h₀ : Heap}

/-- y = [elt for x in iter if tests], in a function -/
theorem assign_compE {elt iter : Expr} {x y : Str} {px py : Pos} {ifs : List Expr} {cscope : Scope} {cl : List (Str × Addr)} {pos spos : Pos} {Q : Flow → Shared → Prop} (p : Value → Bool) (F : Value → Value → Prop)
    (hsw : swapsWith (.ListComp elt [⟨.Name x px, iter, ifs, 0⟩] cscope pos) (some (.Name y py)) spos.line env = pure true)
    (hclos : closureFor cscope env = pure cl) (hcell : ∀ z ∈ cscope.names, z.2 ≠ .cell) (hkind : cscope.kind = .function)
    (hnames : ∀ z ∈ cscope.names, z.2 = .local → cscope.names.lookup z.1 = some .local) (hx : cscope.names.lookup x = some .local)
    (hLe : env.locals = L) (hk : env.scope.kind = .function) (hy : env.kindOf y = some .local)
    (h : wpAny (model prog w) A (eval iter env) (fun xv s₁ => wpAny (model prog w) A (pyIter xv) (fun it s₂ => ∃ I fp wr n P St m cs, it = .ref I ∧ Walks prog w A I fp wr n P St ∧ n ≤ sizeLine ∧ Own h₀ L s₂.heap m (⟨fp, St 0⟩ :: cs) ∧
      QuietOnC prog w A env cscope cl x ifs elt wr P p F s₂ ∧
      (∀ R h' tk ys (vs : List Value), Own h₀ L h' (upd m y (.ref R)) (listC R ys :: cs) → vs.length = n → (∀ j v, vs[j]? = some v → P j v) → Paired F (vs.filter p) ys.toList → Q .next { s₂ with heap := h', toks := tk })) E s₁) E s)
    (hs : ∀ x, foldedSetIterable iter env x = pure x) :
    wpAny (model prog w) A (exec (.Assign [.Name y py] (.ListComp elt [⟨.Name x px, iter, ifs, 0⟩] cscope pos) spos) env) Q E s := by
  subst hLe
  refine wpAny_Assign_ListComp_free p F hsw hclos hcell hkind hnames hx hy (by rw [hk]; rfl) (wpAny_mono h (fun xv s₁ h₁ => wpAny_mono h₁ (fun it s₂ h₂ => ?_) fun _ _ e => e) fun _ _ e => e) hs
  obtain ⟨I, fp, wr, n, P, St, m, cs, rfl, W, hsz, O, hq, hQ⟩ := h₂
  have hlv := O.live ⟨fp, St 0⟩ (by simp)
  have ap := List.pairwise_cons.mp O.apart
  have nL : env.locals ∉ wr := fun hm => (hlv _ (W.sub _ hm)).2.2 rfl
  refine ⟨I, fp, wr, n, P, St, m, rfl, W, hsz, O.hd, fun b hb => let ⟨o, e⟩ := (hlv b hb).1; Heap.lt_size e, nL, O.fr.ns, hq, fun R h' tk ys vs hR _ hpl hlen hP hF hns hkeep => ?_⟩
  refine hQ R h' tk ys vs ?_ hlen hP hF
  have n0 : ∀ b o, h₀.get? b = some o → b ≠ env.locals ∧ b ∉ wr := fun b o e =>
    ⟨Nat.ne_of_lt (Nat.lt_of_lt_of_le (Heap.lt_size e) O.fr.above), fun hm => by rw [(hlv b (W.sub _ hm)).2.1] at e; cases e⟩
  have nc : ∀ c ∈ cs, ∀ b ∈ c.fp, b ≠ env.locals ∧ b ∉ wr := fun c hc b hb => ⟨(O.live c (by simp [hc]) b hb).2.2, fun hm => ap.1 c hc b (W.sub _ hm) hb⟩
  have RL : R ≠ env.locals := by
    rintro rfl
    obtain ⟨o, e⟩ := O.size
    rw [hR] at e; cases e
  refine ⟨⟨hns, fun b o e => hkeep b o (n0 b o e).1 (n0 b o e).2 (O.fr.keep b o e), O.fr.above⟩, ?_, ?_, ?_, ?_⟩
  · intro c hc
    rcases List.mem_cons.mp hc with rfl | hc
    · exact hpl
    · exact O.ok c (by simp [hc]) _ h' (O.holds c (by simp [hc])) fun b hb o e => hkeep b o (nc c hc b hb).1 (nc c hc b hb).2 e
  · intro c hc
    rcases List.mem_cons.mp hc with rfl | hc
    · exact listC_ok
    · exact O.ok c (by simp [hc])
  · intro c hc b hb
    rcases List.mem_cons.mp hc with rfl | hc
    · obtain rfl : b = R := by simpa [listC] using hb
      refine ⟨⟨_, hpl.choose_spec⟩, ?_, RL⟩
      cases e : h₀.get? b with
      | none => rfl
      | some o => have := O.fr.keep b o e; rw [hR] at this; cases this
    · obtain ⟨⟨o, e⟩, r⟩ := O.live c (by simp [hc]) b hb
      exact ⟨⟨o, hkeep b o (nc c hc b hb).1 (nc c hc b hb).2 e⟩, r⟩
  · refine .cons (fun d hd b hb hb' => ?_) ap.2
    obtain rfl : b = R := by simpa [listC] using hb
    obtain ⟨⟨o, e⟩, _⟩ := O.live d (by simp [hd]) b hb'
    rw [hR] at e; cases e
end
end Mine
end

section
open PySem PySem.W PyProof.Rows PySem.Calls
namespace Mine
section
variable {prog : Program} {w : World} {A : Around} {E : Value → Shared → Prop} {s : Shared} {env : Env} {L : Addr} {h₀ : Heap} {m : Str → Option Value} {cs : List Cell}

/-- an iterator over range(n) -/
theorem rangeIterE {p1 pc p2 : Pos} {k n : Nat} {Q : Value → Shared → Prop} (O : Own h₀ L s.heap m cs) (hA : A.handled = none) (hn : n ≤ 2000)
    (h1 : ∀ Q' : Value → Shared → Prop, Q' (.type "range") s → wpAny (model prog w) A (eval (.Name "range" p1) env) Q' E s)
    (h : ∀ I h' tk, Own h₀ L h' m (⟨[I], fun h => IsRangeIter h I (0 + (0 : Nat) * 1) ((n : Int) - (0 : Nat)) 1⟩ :: cs) → (∀ b o, s.heap.get? b = some o → h'.get? b = some o) → s.heap.get? I = none →
      Walks prog w A I [I] [I] n (fun i v => i < n ∧ ∃ t, v = .int (0 + (i : Nat) * 1) t) (fun i h => IsRangeIter h I (0 + (i : Nat) * 1) ((n : Int) - (i : Nat)) 1) → Q (.ref I) { s with heap := h', toks := tk }) :
    wpAny (model prog w) A (eval (.Call (.Name "range" p1) [.Constant (.int n) k pc] [] p2) env) (fun xv s₁ => wpAny (model prog w) A (pyIter xv) Q E s₁) E s := by
  refine Call_Name1 (h1 _ (PySem.callWith_type1 (wpAny_Constant_int ?_))) rfl
  refine range_then fun s₁ r u v ⟨h₂, tk₂, e₂⟩ keep₂ hr₂ => iter_then hn hr₂ fun s₂ I ⟨h₃, e₃⟩ keep₃ hI hI2 hit => ?_
  subst e₂ e₃
  have keepA : ∀ b o, s.heap.get? b = some o → h₃.get? b = some o := fun b o e => keep₃ b o (keep₂ b o e)
  have hnI : s.heap.get? I = none := by
    cases e : s.heap.get? I with
    | none => rfl
    | some o => exact absurd (Nat.lt_of_lt_of_le (Heap.lt_size (keep₂ I o e)) hI) (Nat.lt_irrefl _)
  have W := (Walks.range (prog := prog) (w := w) hA I 0 1 n).bound
  refine h I h₃ tk₂ (O.new keepA hit (fun h h' x k => W.frame 0 h h' x k) fun b hb => ?_) keepA hnI W
  rw [List.mem_singleton.mp hb]
  exact ⟨hnI, _, hit⟩
end
end Mine
end

section
open PySem PySem.W PyProof.Rows PySem.Calls
namespace Mine
section
variable {M : Model} {A : Around} {E : Value → Shared → Prop} {s : Shared} {env : Env}

theorem no_test {Q : Bool → Shared → Prop} (h : Q true s) :
    wpAny M A (forIn ([] : List Expr) true fun c r => if r = true then do let ok ← isTrue c env (eval c env); pure (ForInStep.yield ok) else pure (ForInStep.yield r)) Q E s := by
  rw [List.forIn_nil]; exact wpAny_pure h
theorem one_test {c : Expr} {Q : Bool → Shared → Prop} (h : wpAny M A (isTrue c env (eval c env)) Q E s) :
    wpAny M A (forIn [c] true fun c r => if r = true then do let ok ← isTrue c env (eval c env); pure (ForInStep.yield ok) else pure (ForInStep.yield r)) Q E s := by
  rw [List.forIn_cons, if_pos rfl]
  refine wpAny_bind (wpAny_bind (wpAny_mono h (fun b s' hb => wpAny_pure ?_) fun _ _ e => e))
  show wpAny M A (forIn ([] : List Expr) b _) Q E s'
  rw [List.forIn_nil]; exact wpAny_pure hb

theorem lookup_relabel_free {env : Env} (hk : env.scope.kind = .function) : ∀ {names : List (Str × NameKind)} {x : Str}, env.kindOf x = some .cell → names.lookup x = some .free →
    (names.map fun (n, k) => if (k == NameKind.free && env.scope.kind == .function && env.kindOf n == some .cell) then (n, NameKind.cell) else (n, k)).lookup x = some .cell
  | [], _, _, h => by simp at h
  | (n, k) :: r, x, hc, h => by
    have ih := @lookup_relabel_free env hk r x hc
    show List.lookup x ((if (k == NameKind.free && env.scope.kind == .function && env.kindOf n == some .cell) = true then (n, NameKind.cell) else (n, k)) :: _) = _
    cases hx : x == n with
    | true =>
      simp only [List.lookup_cons, hx] at h
      cases h
      have en : n = x := (beq_iff_eq.mp hx).symm
      subst en
      rw [if_pos (by rw [hk, hc]; rfl)]
      simp [List.lookup_cons]
    | false =>
      simp only [List.lookup_cons, hx] at h
      by_cases hcc : (k == NameKind.free && env.scope.kind == .function && env.kindOf n == some .cell) = true
      · rw [if_pos hcc]; simp only [List.lookup_cons, hx]; exact ih h
      · rw [if_neg hcc]; simp only [List.lookup_cons, hx]; exact ih h
end
end Mine
end

section
open PySem PySem.W PyProof.Rows PySem.Calls
namespace Mine

local macro_rules | `(tactic| walk_at "B") => `(tactic| with_reducible refine wpAny_BinOp ?_)
local macro_rules | `(tactic| walk_at "S") => `(tactic| with_reducible refine Calls.Constant_str ?_)
local macro_rules | `(tactic| walk_at "I") => `(tactic| with_reducible refine wpAny_Constant_int ?_)
local macro_rules | `(tactic| walk_at "X") => `(tactic| with_reducible refine Subscript_ ?_)

theorem hexL_len {n k : Nat} (hk : 1 ≤ k) (hn : n < 16 ^ k) : (hexL n).length ≤ k := by
  unfold hexL
  rw [List.length_map]
  exact PySem.toDigits_len_pow (b := 16) (by decide) hk hn

theorem mk_str (x : Str) : (⟨x.cps.toList.toArray⟩ : Str) = x := str_ext (by simp)

/-- the state between two figures -/
def FigInv (h₀ : Heap) (L : Addr) (m : Str → Option Value) (cs : List Cell) (n : Nat) (s : Shared) (j : Nat) (s' : Shared) : Prop :=
  ∃ h' tk m', ∃ (l : List Nat) (v : Nat), ∃ u u', s' = { s with heap := h', toks := tk } ∧ Own h₀ L h' m' cs ∧ (∀ y : Str, y ≠ "figures" → y ≠ "left" → m' y = m y) ∧
    m' "figures" = some (.str ⟨l.toArray⟩ u) ∧ m' "left" = some (.int (v : Nat) u') ∧ (if v = 0 ∧ l ≠ [] then [] else hexL v) ++ l = hexL n ∧ j = v + if l = [] then 1 else 0

section
variable {prog : Program} {w : World} {A : Around} {E : Value → Shared → Prop} {s : Shared} {env : Env} {L : Addr} {h₀ : Heap} {m : Str → Option Value} {cs : List Cell}

/-- figures of a number by sixteens, figure by figure -/
theorem whileFigs {p1 p2 p3 p4 p5 p6 q1 q2 q3 q4 q5 q6 q7 q8 q9 r1 r2 r3 r4 r5 : Pos} {k k2 k3 k4 n : Nat} {tf tl : Tok} {Q : Flow → Shared → Prop} (O : Own h₀ L s.heap m cs) (hLe : env.locals = L)
    (hk : env.scope.kind = .function) (l_fig : env.kindOf "figures" = some .local) (l_left : env.kindOf "left" = some .local)
    (m_fig : m "figures" = some (.str "" tf)) (m_left : m "left" = some (.int n tl)) (hn : n < 16 ^ 60)
    (h : ∀ h' tk m' u, Own h₀ L h' m' cs → (∀ y : Str, y ≠ "figures" → y ≠ "left" → m' y = m y) → m' "figures" = some (.str ⟨(hexL n).toArray⟩ u) → Q .next { s with heap := h', toks := tk }) :
    wpAny (model prog w) A (exec (.While (.BoolOp .Or [.Name "left" p1, .Compare (.Name "figures" p2) [.Eq] [.Constant (.str "") k p3] p4] p5)
      [.Assign [.Name "figures" q1] (.BinOp (.Subscript (.Constant (.str "0123456789abcdef") k2 q2) (.BinOp (.Name "left" q3) .Mod (.Constant (.int 16) k3 q4) q5) q6) .Add (.Name "figures" q7) q8) q9,
       .Assign [.Name "left" r1] (.BinOp (.Name "left" r2) .FloorDiv (.Constant (.int 16) k4 r3) r4) r5] [] p6) env) Q E s := by
  refine wpAny_While (codeAny_whileLoop (FigInv h₀ L m cs n s) ?_ _ ⟨s.heap, s.toks, m, [], n, tf, tl, rfl, O, fun _ _ _ => rfl, by rw [m_fig]; rfl, m_left, by simp, rfl⟩)
  rintro j s' ⟨h', tk, m', l, v, u, u', rfl, O', hm, f1, f2, hf, rfl⟩
  have el : ((⟨l.toArray⟩ : Str).cps.toList == (Str.ofString "").cps.toList) = decide (l = []) := by
    have e : (Str.ofString "").cps.toList = [] := by decide +kernel
    rw [e]
    cases l <;> simp
  have hlen : l.length ≤ 60 := by
    have e := congrArg List.length hf
    rw [List.length_append] at e
    have := hexL_len (k := 60) (by decide) hn
    omega
  by_cases hd : v = 0 ∧ l ≠ []
  · rw [if_pos hd] at hf
    obtain ⟨rfl, hl⟩ := hd
    refine isTrue_or (isTrue_plain (ldE O' hLe f2 (P.truthy_int ?_) hk l_left (by decide)))
    simp only [Int.cast_ofNat_Int, bne_self_eq_false, Bool.false_eq_true, if_false]
    refine isTrue_or (wpAny_isTrue_Compare1 (ldE O' hLe f1 (Calls.Constant_str (P.eq_str (wpAny_truthy_bool ?_))) hk l_fig (by decide)) (by with_unfolding_all rfl))
    rw [el, decide_eq_false hl]
    simp only [Bool.false_eq_true, if_false]
    refine isTrue_or_nil ?_
    simp only [Bool.false_eq_true, if_false]
    rw [List.nil_append] at hf
    subst hf
    exact wpAny_execs_nil (h _ _ _ _ O' hm f1)
  · rw [if_neg hd] at hf
    have body : ∀ tkz, wpAny (model prog w) A (execs [.Assign [.Name "figures" q1] (.BinOp (.Subscript (.Constant (.str "0123456789abcdef") k2 q2) (.BinOp (.Name "left" q3) .Mod (.Constant (.int 16) k3 q4) q5) q6) .Add (.Name "figures" q7) q8) q9,
       .Assign [.Name "left" r1] (.BinOp (.Name "left" r2) .FloorDiv (.Constant (.int 16) k4 r3) r4) r5] env) (fun f s₃ => match f with
            | .next | .cont => ∃ m₁, m₁ < (v + if l = [] then 1 else 0) ∧ FigInv h₀ L m cs n s m₁ s₃
            | .brk => Q .next s₃
            | .ret x => Q (.ret x) s₃) (notedBy (model prog w) A env fun e s' => cameBackBy (model prog w) A env E e s') { s with heap := h', toks := tkz } := by
      intro tkz
      have c1 : (v : Int).fmod 16 = ((v % 16 : Nat) : Int) := by rw [Int.fmod_eq_emod_of_nonneg _ (by decide)]; push_cast; rfl
      have c2 : (v : Int).fdiv 16 = ((v / 16 : Nat) : Int) := by rw [Int.fdiv_eq_ediv_of_nonneg _ (by decide)]; push_cast; rfl
      have h16 : v % 16 < 16 := Nat.mod_lt _ (by decide)
      have es : Txt.item (Str.ofString "0123456789abcdef") ((v % 16 : Nat) : Int) = ⟨#[sg (v % 16)]⟩ := (sg_ok ⟨v % 16, h16⟩).2.2.2.1
      have eL : (Str.ofString "0123456789abcdef").length = 16 := by decide +kernel
      refine wpAny_execs_cons ?_
      refine wpAny_Assign_Name ?_ (by with_unfolding_all rfl)
      walk_at "B"; walk_at "X"; walk_at "S"; walk_at "B"
      with_reducible refine ldE O' hLe f2 ?_ hk l_left (by decide)
      walk_at "I"
      with_reducible refine PyProof.Rows.mod_int (by decide) ?_
      rw [c1]
      with_reducible refine item_str (fitsSsize_of (N := 1000) (by omega) (by omega) (by decide)) (by rw [eL]; omega) (by rw [eL]; omega) (fun _ => ?_) (by with_unfolding_all rfl) (by intro _; with_unfolding_all rfl)
      with_reducible refine ldE O' hLe f1 ?_ hk l_fig (by decide)
      rw [es]
      have len2 : (⟨l.toArray⟩ : Str).length = l.length := rfl
      have len1 : (⟨#[sg (v % 16)]⟩ : Str).length = 1 := rfl
      with_reducible refine SB.add (fun t' k' => ?_) (by rw [len1, len2, sizeLine_eq]; omega)
      with_reducible refine stE O' hLe (fun h₁ tk₁ O₁ => ?_) hk l_fig
      refine wpAny_execs_cons ?_
      refine wpAny_Assign_Name ?_ (by with_unfolding_all rfl)
      walk_at "B"
      with_reducible refine ldE O₁ hLe ((upd_ne (by decide)).trans f2) ?_ hk l_left (by decide)
      walk_at "I"
      with_reducible refine floordiv_int (by decide) ?_ (Or.inl (PyProof.noPylong_small (by omega)))
      rw [c2]
      with_reducible refine stE O₁ hLe (fun h₂ tk₂ O₂ => ?_) hk l_left
      have ea : (⟨#[sg (v % 16)]⟩ : Str) ++ ⟨l.toArray⟩ = ⟨(sg (v % 16) :: l).toArray⟩ := str_ext (by rw [cps_toList_append]; rfl)
      rw [ea] at O₂
      refine wpAny_execs_nil ⟨v / 16, ?_, _, _, _, sg (v % 16) :: l, v / 16, _, _, rfl, O₂, fun y h1 h2 => (upd_ne h2).trans ((upd_ne h1).trans (hm y h1 h2)), (upd_ne (by decide)).trans upd_same, upd_same, ?_, by simp⟩
      · by_cases e : l = []
        · rw [if_pos e]; omega
        · rw [if_neg e]
          have : v ≠ 0 := fun x => hd ⟨x, e⟩
          omega
      · rw [← hf]
        rw [hexL_eq v]
        by_cases e : v < 16
        · rw [if_pos e, if_pos ⟨by omega, by simp⟩, Nat.mod_eq_of_lt e]; rfl
        · rw [if_neg e, if_neg (fun x => by have := x.1; omega)]; simp
    refine isTrue_or (isTrue_plain (ldE O' hLe f2 (P.truthy_int ?_) hk l_left (by decide)))
    by_cases hv : v = 0
    · have hl : l = [] := by
        by_cases e : l = []
        · exact e
        · exact absurd ⟨hv, e⟩ hd
      have e0 : ((v : Int) != 0) = false := by rw [hv]; rfl
      simp only [e0, Bool.false_eq_true, if_false]
      refine isTrue_or (wpAny_isTrue_Compare1 (ldE O' hLe f1 (Calls.Constant_str (P.eq_str (wpAny_truthy_bool ?_))) hk l_fig (by decide)) (by with_unfolding_all rfl))
      rw [el, decide_eq_true hl]
      simp only [if_true]
      exact body _
    · have e0 : ((v : Int) != 0) = true := by rw [bne_iff_ne]; omega
      simp only [e0, if_true]
      exact body _
end
end Mine
end

section
open PySem PySem.W PyProof.Rows PySem.Calls
namespace Mine

/-- a row made by a comprehension over places -/
theorem paired_row {p : Value → Bool} {q : Nat → Bool} (hp : ∀ (j : Nat) t, p (.int j t) = q j) : ∀ (vs ys : List Value) (k : Nat), (∀ (j : Nat) (v : Value), vs[j]? = some v → ∃ t, v = Value.int ((k + j : Nat) : Int) t) →
    Paired (fun (v y : Value) => ∃ (i : Nat) (t u : Tok), i < 32 ∧ v = Value.int (i : Int) t ∧ y = Value.str (wordAt i) u) (vs.filter p) ys → ∃ l, ys = strValues l ∧ l.map (·.1) = ((List.range' k vs.length).filter q).map wordAt
  | [], ys, k, _, h => by
    cases h
    exact ⟨[], rfl, rfl⟩
  | v :: vs, ys, k, hv, h => by
    obtain ⟨t, rfl⟩ := hv 0 v rfl
    have hv' : ∀ (j : Nat) (v : Value), vs[j]? = some v → ∃ t, v = Value.int ((k + 1 + j : Nat) : Int) t := fun j v e => by
      obtain ⟨t, rfl⟩ := hv (j + 1) v e
      exact ⟨t, by congr 2; omega⟩
    rw [List.length_cons, List.range'_succ, List.filter_cons]
    rw [List.filter_cons] at h
    have e : p (.int ((k + 0 : Nat) : Int) t) = q k := hp k t
    rw [e] at h
    by_cases hq : q k = true
    · rw [if_pos hq] at h ⊢
      cases h with
      | cons h1 h2 =>
        obtain ⟨l, rfl, hl⟩ := paired_row hp vs _ (k + 1) hv' h2
        obtain ⟨i, t', u, hi, e1, rfl⟩ := h1
        have : i = k := by
          injection e1 with e1 _
          omega
        subst this
        exact ⟨(wordAt i, u) :: l, rfl, by rw [List.map_cons, hl, List.map_cons]⟩
    · rw [if_neg hq] at h ⊢
      exact paired_row hp vs ys (k + 1) hv' h

theorem word_item {ws : List (Str × Tok)} (hws : ws.map (·.1) = words32) {i : Nat} (hi : i < 32) : ∃ u, (strValues ws).toArray[i]? = some (.str (wordAt i) u) := by
  have hl : ws.length = 32 := by
    have e := congrArg List.length hws
    rw [List.length_map] at e
    rw [e]; decide +kernel
  have hlt : i < ws.length := by omega
  refine ⟨ws[i].2, ?_⟩
  have e1 : (ws.map (·.1))[i]? = some (wordAt i) := by rw [hws]; unfold words32; rw [List.getElem?_map, List.getElem?_range hi]; rfl
  rw [List.getElem?_map, List.getElem?_eq_getElem hlt] at e1
  have e2 : ws[i].1 = wordAt i := by simpa using e1
  simp only [strValues, List.getElem?_toArray, List.getElem?_map, List.getElem?_eq_getElem hlt, Option.map_some, e2]

theorem ws_ok {l : List Nat} {o : Option Int} (hl : ∀ i ∈ l, i < 32) (hlen : l.length ≤ 32) (ho : ∀ k, o = some k → (k * 2 ^ 32).natAbs < 2 ^ 200) : JoinOk ", " (wsOf l o) = true := by
  refine joinOk_small (fun t ht => ?_) ?_
  · unfold wsOf at ht
    rcases List.mem_append.mp ht with ht | ht
    · obtain ⟨i, hi, rfl⟩ := List.mem_map.mp ht
      exact Nat.le_trans (wordAt_short (hl i hi)) (by decide)
    · cases o with
      | none => cases ht
      | some k =>
        rw [List.mem_singleton.mp ht]
        exact Nat.le_trans (hex_short (k := 60) (by decide) (Nat.lt_trans (ho k rfl) (by decide))) (by decide)
  · unfold wsOf
    cases o <;> simp [tailOf] <;> omega

/-- the places that are marked -/
def onesOf (f : Nat → Int) : List Nat := (List.range 32).filter fun j => f j != 0
theorem ones_lt {g : Nat → Int} : ∀ i ∈ onesOf g, i < 32 := fun i hi => List.mem_range.mp (List.mem_filter.mp hi).1
theorem ones_len {g : Nat → Int} : (onesOf g).length ≤ 32 := Nat.le_trans (List.length_filter_le ..) (by simp)

theorem tell_text {high : Int} : (Str.ofString (if high < 0 then "-0x" else "0x")) ++ ⟨(hexL high.natAbs).toArray⟩ = baseText "0x" 16 high := by
  apply str_ext
  rw [cps_toList_append, base_list]
  split
  · have e : (Str.ofString "-0x").cps.toList = [45, 48, 120] := by decide +kernel
    rw [e]; simp
  · have e : (Str.ofString "0x").cps.toList = [48, 120] := by decide +kernel
    rw [e]; simp
end Mine
end

section
open PySem PySem.W PyProof.Rows PySem.Calls
namespace Mine

section
variable {prog : Program} {w : World} {A : Around} {E : Value → Shared → Prop} {s : Shared} {env : Env} {L : Addr} {h₀ : Heap} {m : Str → Option Value} {cs : List Cell} {N : Nat} {mg mb : Str → Option Value}

/-- a builtin's name, in any frame -/
theorem ldBE {x : Str} {pos : Pos} {v : Value} {Q : Value → Shared → Prop} (O : Own h₀ L s.heap m cs) (G : GB w N mg mb h₀) (hv : bootBuiltins x = some v) (h : Q v s)
    (hfree : x ∉ names2) (hboot : x ∉ bootMainNames) (hn : x ≠ "__name__") (hg : env.globals = mainGlobals) (hb : env.builtins = builtinsNs)
    (hk : env.scope.kind = .function) (hx : env.kindOf x = some .globalImplicit) (hd : (x == ("__debug__" : Str)) = false) : wpAny (model prog w) A (eval (.Name x pos) env) Q E s := by
  have G' := (G.keeps O.fr.keep).G
  refine Calls.Name_function_global hk hx (Calls.loadGlobal_builtin (mg := mg) (mb := mb) ?_ (G'.free _ hfree hboot) ?_ ((G'.builtins _ hn).trans hv) h) hd
  · rw [hg]; exact G'.g
  · rw [hb]; exact G'.b
/-- a global's name, in any frame -/
theorem ldGE {x : Str} {pos : Pos} {v : Value} {Q : Value → Shared → Prop} (O : Own h₀ L s.heap m cs) (G : GB w N mg mb h₀) (hv : mg x = some v) (h : Q v s) (hg : env.globals = mainGlobals)
    (hk : env.scope.kind = .function) (hx : env.kindOf x = some .globalImplicit) (hd : (x == ("__debug__" : Str)) = false) : wpAny (model prog w) A (eval (.Name x pos) env) Q E s := by
  have G' := (G.keeps O.fr.keep).G
  refine Calls.Name_function_global hk hx (Calls.loadGlobal_global (mg := mg) ?_ hv h) hd
  rw [hg]; exact G'.g

theorem newListE {items : List Value} {Q : Value → Shared → Prop} (O : Own h₀ L s.heap m cs) (hl : items.length ≤ 2000)
    (h : ∀ D h', Own h₀ L h' m (listC D items.toArray :: cs) → s.heap.get? D = none → Q (.ref D) { s with heap := h' }) : wpAny (model prog w) A (newList items) Q E s := newListO O hl h
end
end Mine
end

section
open PySem PySem.W PyProof.Rows PySem.Calls
namespace Mine

local macro_rules | `(tactic| walk_at "B") => `(tactic| with_reducible refine wpAny_BinOp ?_)
local macro_rules | `(tactic| walk_at "S") => `(tactic| with_reducible refine Calls.Constant_str ?_)
local macro_rules | `(tactic| walk_at "I") => `(tactic| with_reducible refine wpAny_Constant_int ?_)
local macro_rules | `(tactic| walk_at "X") => `(tactic| with_reducible refine Subscript_ ?_)

section
variable {w : World} {A : Around} {E : Value → Shared → Prop} {s : Shared} {N : Nat} {mg mb : Str → Option Value}
set_option maxRecDepth 100000 in
set_option maxHeartbeats 4000000 in
theorem tell_call {f wl D : Addr} {ws : List (Str × Tok)} {items : Array Value} {g : Nat → Int} {k : Int} {t : Tok} {Q : Value → Shared → Prop} (G : GB w N mg mb s.heap) (hf : mg "_law_tell" = some (.ref f))
   (hA : A.handled = none) (hroom : A.depth < recursionLimit) (hW : s.heap.IsList wl (strValues ws).toArray) (hws : ws.map (·.1) = words32)
   (hD : s.heap.IsList D items) (hM : Marks items g) (hk : (k * 2 ^ 32).natAbs < 2 ^ 200)
   (hU : A.units + 3 < cLine) (hQ : ∀ h' tk u, (∀ b o, s.heap.get? b = some o → h'.get? b = some o) → Q (.str (textOf (onesOf g) (if k ≠ 0 ∨ onesOf g = [] then some k else none)) u) { s with heap := h', toks := tk }) :
   wpAny (model PySem.Challenge.pw_dm0070_02 w) A (call (.ref f) [.ref D, .int (k * 2 ^ 32) t, .ref wl]) Q E s := by
  have hcf : ∀ n, cellsFrom n (defAt PySem.Challenge.pw_dm0070_02 15).scope.names [] = ([("words", n + 1), ("places", n)] : List (Str × Addr)) := fun n => by rfl
  refine call_defC (d := defAt PySem.Challenge.pw_dm0070_02 15) (binds := [("places", .ref D), ("high", .int (k * 2 ^ 32) t), ("words", .ref wl)]) G.G (by simp [ds2]) (by rfl) hf hroom (fun _ _ _ => by rfl) (fun x hx => ?_) (fun h₁ tk cd F X => ?_) (by decide +kernel) (by decide +kernel) (by decide +kernel)
  · rw [hcf]
    rcases List.mem_cons.mp hx with rfl | hx
    · exact .inr ⟨(by decide +kernel : (defAt PySem.Challenge.pw_dm0070_02 15).scope.names.lookup ("places" : Str) = some .cell), rfl⟩
    rcases List.mem_cons.mp hx with rfl | hx
    · exact .inl (by decide +kernel : (defAt PySem.Challenge.pw_dm0070_02 15).scope.names.lookup ("high" : Str) = some .local)
    · rw [List.mem_singleton.mp hx]
      exact .inr ⟨(by decide +kernel : (defAt PySem.Challenge.pw_dm0070_02 15).scope.names.lookup ("words" : Str) = some .cell), rfl⟩
  have hAd : (A.deeper (envOfC (defAt PySem.Challenge.pw_dm0070_02 15).name (defAt PySem.Challenge.pw_dm0070_02 15).scope s.heap.objs.size f cd)).handled = none := hA
  have kf : ∀ x, (envOfC (defAt PySem.Challenge.pw_dm0070_02 15).name (defAt PySem.Challenge.pw_dm0070_02 15).scope s.heap.objs.size f cd).kindOf x = (defAt PySem.Challenge.pw_dm0070_02 15).scope.names.lookup x := fun _ => rfl
  have l_high : (envOfC (defAt PySem.Challenge.pw_dm0070_02 15).name (defAt PySem.Challenge.pw_dm0070_02 15).scope s.heap.objs.size f cd).kindOf "high" = some .local := (kf _).trans (by decide +kernel)
  have l_row : (envOfC (defAt PySem.Challenge.pw_dm0070_02 15).name (defAt PySem.Challenge.pw_dm0070_02 15).scope s.heap.objs.size f cd).kindOf "row" = some .local := (kf _).trans (by decide +kernel)
  have l_figures : (envOfC (defAt PySem.Challenge.pw_dm0070_02 15).name (defAt PySem.Challenge.pw_dm0070_02 15).scope s.heap.objs.size f cd).kindOf "figures" = some .local := (kf _).trans (by decide +kernel)
  have l_left : (envOfC (defAt PySem.Challenge.pw_dm0070_02 15).name (defAt PySem.Challenge.pw_dm0070_02 15).scope s.heap.objs.size f cd).kindOf "left" = some .local := (kf _).trans (by decide +kernel)
  have l_range : (envOfC (defAt PySem.Challenge.pw_dm0070_02 15).name (defAt PySem.Challenge.pw_dm0070_02 15).scope s.heap.objs.size f cd).kindOf "range" = some .globalImplicit := (kf _).trans (by decide +kernel)
  have l_abs : (envOfC (defAt PySem.Challenge.pw_dm0070_02 15).name (defAt PySem.Challenge.pw_dm0070_02 15).scope s.heap.objs.size f cd).kindOf "abs" = some .globalImplicit := (kf _).trans (by decide +kernel)
  have c_words : (envOfC (defAt PySem.Challenge.pw_dm0070_02 15).name (defAt PySem.Challenge.pw_dm0070_02 15).scope s.heap.objs.size f cd).kindOf "words" = some .cell := (kf _).trans (by decide +kernel)
  have c_places : (envOfC (defAt PySem.Challenge.pw_dm0070_02 15).name (defAt PySem.Challenge.pw_dm0070_02 15).scope s.heap.objs.size f cd).kindOf "places" = some .cell := (kf _).trans (by decide +kernel)
  have hkind : (envOfC (defAt PySem.Challenge.pw_dm0070_02 15).name (defAt PySem.Challenge.pw_dm0070_02 15).scope s.heap.objs.size f cd).scope.kind = .function := (by decide +kernel : (defAt PySem.Challenge.pw_dm0070_02 15).scope.kind = .function)
  have hcells : (envOfC (defAt PySem.Challenge.pw_dm0070_02 15).name (defAt PySem.Challenge.pw_dm0070_02 15).scope s.heap.objs.size f cd).cells = ([("words", s.heap.objs.size + 1 + 1), ("places", s.heap.objs.size + 1)] : List (Str × Addr)) := hcf _
  have hloc : (envOfC (defAt PySem.Challenge.pw_dm0070_02 15).name (defAt PySem.Challenge.pw_dm0070_02 15).scope s.heap.objs.size f cd).locals = s.heap.objs.size := rfl
  rw [hcf] at X
  have m_high : bindL (envOfC (defAt PySem.Challenge.pw_dm0070_02 15).name (defAt PySem.Challenge.pw_dm0070_02 15).scope s.heap.objs.size f cd).kindOf [("places", .ref D), ("high", .int (k * 2 ^ 32) t), ("words", .ref wl)] (fun _ => none) "high" = some (.int (k * 2 ^ 32) t) := by
    simp only [bindL, l_high, c_words, c_places, if_true]; rfl
  have m_words : bindC (envOfC (defAt PySem.Challenge.pw_dm0070_02 15).name (defAt PySem.Challenge.pw_dm0070_02 15).scope s.heap.objs.size f cd).kindOf [("places", .ref D), ("high", .int (k * 2 ^ 32) t), ("words", .ref wl)] (fun _ => none) "words" = some (.ref wl) := by
    simp only [bindC, l_high, c_words, c_places, if_true]; rfl
  have m_places : bindC (envOfC (defAt PySem.Challenge.pw_dm0070_02 15).name (defAt PySem.Challenge.pw_dm0070_02 15).scope s.heap.objs.size f cd).kindOf [("places", .ref D), ("high", .int (k * 2 ^ 32) t), ("words", .ref wl)] (fun _ => none) "places" = some (.ref D) := by
    simp only [bindC, l_high, c_words, c_places, if_true]; rfl
  generalize bindL (envOfC (defAt PySem.Challenge.pw_dm0070_02 15).name (defAt PySem.Challenge.pw_dm0070_02 15).scope s.heap.objs.size f cd).kindOf [("places", .ref D), ("high", .int (k * 2 ^ 32) t), ("words", .ref wl)] (fun _ => none) = m0 at *
  generalize bindC (envOfC (defAt PySem.Challenge.pw_dm0070_02 15).name (defAt PySem.Challenge.pw_dm0070_02 15).scope s.heap.objs.size f cd).kindOf [("places", .ref D), ("high", .int (k * 2 ^ 32) t), ("words", .ref wl)] (fun _ => none) = cm0 at *
  have O := Own.ofCl F X (fun p hp => by
    rcases List.mem_cons.mp hp with rfl | hp
    · rfl
    · rw [List.mem_singleton.mp hp]; rfl)
  simp only [List.map_cons, List.map_nil, m_words, m_places] at O
  clear F X
  generalize hE : envOfC (defAt PySem.Challenge.pw_dm0070_02 15).name (defAt PySem.Challenge.pw_dm0070_02 15).scope s.heap.objs.size f cd = env at *
  have hAd' : (A.deeper env).handled = none := hAd
  have hUd : (A.deeper env).units < cLine := hU
  generalize A.deeper env = A' at *
  generalize hL : s.heap.objs.size = L at *
  refine wpAny_execs_cons ?_
  refine assign_compE (h₀ := s.heap) (L := L) (cl := [("words", L + 1 + 1), ("places", L + 1)]) (fun v => match v with | .int i _ => g i.toNat != 0 | _ => false) (fun v y => ∃ i t u, i < 32 ∧ v = .int (i : Nat) t ∧ y = .str (wordAt i) u) (by rw [← hE]; with_unfolding_all rfl) ?_ (by decide +kernel) (by decide +kernel) (by decide +kernel) (by decide +kernel) hloc hkind l_row ?_ (fun _ => rfl)
  · simp only [closureFor, cellOf, hcells]
    rfl
  refine rangeIterE O hAd' (n := 32) (by decide) (fun Q' hq => ?_) fun I h₂ tk₂ O₂ keep₂ hI W => ?_
  · rw [← hE] at l_range ⊢
    refine Name_function_global (hE ▸ hkind) l_range (loadGlobal_builtin (G.keeps O.fr.keep).G.g ((G.G.free _ (by decide +kernel) (by decide))) (G.keeps O.fr.keep).G.b ((G.G.builtins _ (by decide)).trans (by rfl)) hq) (by decide)
  have hI0 : ∀ b o, s.heap.get? b = some o → b ∉ [I] := fun b o e hm => by
    rw [List.mem_singleton.mp hm] at e
    have := O.fr.keep _ _ e
    rw [hI] at this; cases this
  have kC : ∀ C x, env.kindOf x = some .cell → ([(".0", NameKind.local), ("i_v", .local), ("places", .free), ("words", .free)] : List (Str × NameKind)).lookup x = some .free →
      (compEnvC { kind := .function, names := [(".0", .local), ("i_v", .local), ("places", .free), ("words", .free)], isGenerator := false, isCoroutine := false } [("words", L + 1 + 1), ("places", L + 1)] C env).kindOf x = some .cell :=
    fun C x h1 h2 => lookup_relabel_free hkind h1 h2
  have cellW : ∀ h' : Heap, (∀ b o, b ∉ [I] → h₂.get? b = some o → h'.get? b = some o) → h'.IsCell (L + 1 + 1) (some (.ref wl)) ∧ h'.IsCell (L + 1) (some (.ref D)) ∧ h'.IsList D items ∧ h'.IsList wl (strValues ws).toArray := by
    intro h' hkp
    have ap := List.pairwise_cons.mp O₂.apart
    refine ⟨?_, ?_, ?_, ?_⟩
    · exact O₂.ok (cellC (L + 1 + 1) (some (.ref wl))) (by simp) _ h' (O₂.holds _ (by simp)) fun b hb o e => hkp b o (fun hm => ap.1 _ (by simp) b hm hb) e
    · exact O₂.ok (cellC (L + 1) (some (.ref D))) (by simp) _ h' (O₂.holds _ (by simp)) fun b hb o e => hkp b o (fun hm => ap.1 _ (by simp) b hm hb) e
    · exact hD.at fun o e => hkp _ o (hI0 _ o e) (O₂.fr.keep _ o e)
    · exact hW.at fun o e => hkp _ o (hI0 _ o e) (O₂.fr.keep _ o e)
  refine ⟨I, [I], [I], 32, _, _, m0, _, rfl, W, by decide +kernel, O₂, ⟨?_, ?_⟩, ?_⟩
  · rintro C i v s₃ m₃ E' hC ⟨hi, tv, rfl⟩ hns hmx hkp htk
    obtain ⟨w1, w2, w3, w4⟩ := cellW _ hkp
    obtain ⟨ti, hti⟩ := hM.2 i hi
    refine one_test (isTrue_plain (Subscript_ (ldcE w2 rfl (wpAny_Name (wpAny_loadName_local rfl (by rfl) hns hmx ?_) (by decide)) rfl (kC C _ c_places (by decide)) (by decide))))
    have e0 : (0 : Int) + (i : Nat) * 1 = (i : Nat) := by omega
    rw [e0]
    refine tail_any w3.typeIs slot_list_getitem.lookup (wpAny_getItem_list w3 (by omega) (by omega) (by rw [Int.toNat_natCast]; exact hti) (P.truthy_int ⟨?_, s₃.heap, _, rfl, fun _ _ e => e⟩)) (by with_unfolding_all rfl)
    dsimp only
    rw [Int.toNat_natCast]
  · rintro C i v s₃ m₃ E' hC ⟨hi, tv, rfl⟩ hp hns hmx hkp htk
    obtain ⟨w1, w2, w3, w4⟩ := cellW _ hkp
    refine (Subscript_ (ldcE w1 rfl (wpAny_Name (wpAny_loadName_local rfl (by rfl) hns hmx ?_) (by decide)) rfl (kC C _ c_words (by decide)) (by decide)))
    have e0 : (0 : Int) + (i : Nat) * 1 = (i : Nat) := by omega
    rw [e0]
    obtain ⟨u, hu⟩ := word_item hws hi
    refine tail_any w4.typeIs slot_list_getitem.lookup (wpAny_getItem_list w4 (by omega) (by omega) (by rw [Int.toNat_natCast]; exact hu) ⟨⟨i, tv, u, hi, rfl, rfl⟩, s₃.heap, _, rfl, fun _ _ e => e⟩) (by with_unfolding_all rfl)
  · intro R h₃ tk₃ ys vs O₃ hlen hP hF
    obtain ⟨lr, hys, hlr0⟩ := paired_row (q := fun j => g j != 0) (fun j t => by simp) vs ys.toList 0 (fun j v e => by
      obtain ⟨_, t, e1⟩ := hP j v e
      exact ⟨t, e1.trans (by congr 1; omega)⟩) hF
    have hlr : lr.map (·.1) = (onesOf g).map wordAt := by
      rw [hlr0, hlen]; unfold onesOf; rw [List.range_eq_range']
    obtain rfl : ys = (strValues lr).toArray := by rw [← hys]
    clear hlr0 hys hF hP hlen vs cellW kC W hI hI0 keep₂ O₂
    have l32 : lr.length ≤ 32 := by
      have e := congrArg List.length hlr
      rw [List.length_map, List.length_map] at e
      rw [e]; unfold onesOf
      exact Nat.le_trans (List.length_filter_le ..) (by simp)
    dsimp only at *
    have m_high₃ : upd m0 "row" (.ref R) "high" = some (.int (k * 2 ^ 32) t) := (upd_ne (by decide)).trans m_high
    have hGE : env.globals = mainGlobals := by rw [← hE]; rfl
    have hBE : env.builtins = builtinsNs := by rw [← hE]; rfl
    have hnil : (lr.length = 0) ↔ onesOf g = [] := by
      have e := congrArg List.length hlr
      rw [List.length_map, List.length_map] at e
      rw [e]; simp
    refine seqR (fun s' => ∃ h' tk' m' lz csz, s' = { s with heap := h', toks := tk' } ∧ m' "row" = some (.ref R) ∧ Own s.heap L h' m' (listC R (strValues lz).toArray :: csz) ∧
      lz.map (·.1) = wsOf (onesOf g) (if k ≠ 0 ∨ onesOf g = [] then some k else none)) ?_ ?_
    · have hH0 : ((k * 2 ^ 32 : Int) != 0) = decide (k ≠ 0) := by
        have e : (2 : Int) ^ 32 = 4294967296 := by decide
        rw [e, Bool.eq_iff_iff, bne_iff_ne, decide_eq_true_eq]; omega
      with_reducible refine wpAny_If ?_
      refine wpAny_mono (Q := fun b s' => b = decide (k ≠ 0 ∨ onesOf g = []) ∧ ∃ h' tk' csz, s' = { s with heap := h', toks := tk' } ∧ Own s.heap L h' (upd m0 "row" (.ref R)) (listC R (strValues lr).toArray :: csz)) ?_ ?_ fun _ _ e => e
      · with_reducible refine isTrue_or ?_
        with_reducible refine wpAny_isTrue_Compare1 ?_ (by with_unfolding_all rfl)
        with_reducible refine ldE O₃ hloc m_high₃ ?_ hkind l_high (by decide)
        walk_at "I"
        with_reducible refine P.ne_int ?_
        with_reducible refine wpAny_truthy_bool ?_
        rw [hH0]
        by_cases hk0 : k ≠ 0
        · rw [decide_eq_true hk0, if_pos rfl]
          exact ⟨(decide_eq_true (Or.inl hk0)).symm, _, _, _, rfl, O₃⟩
        · rw [decide_eq_false hk0, if_neg (by simp)]
          with_reducible refine isTrue_or ?_
          with_reducible refine wpAny_isTrue_Compare1 ?_ (by with_unfolding_all rfl)
          with_reducible refine ldE O₃ hloc upd_same ?_ hkind l_row (by decide)
          with_reducible refine list_nilO O₃ ?_
          intro D2 h₄ O₄ hD2
          have hl1 : h₄.PlainList R (strValues lr).toArray := O₄.snd
          have hl2 : h₄.PlainList D2 #[] := O₄.hd
          by_cases h0 : lr.length = 0
          · with_reducible refine SeqAt.eq_listAt (e := fun _ => true) hl1.isList hl2.isList ?_ hUd ?_ ?_
            · simp [strValues, h0]
            · intro j h1 h2
              simp at h2
            · with_reducible refine wpAny_truthy_bool ?_
              have e1 : (List.range (strValues lr).toArray.size).all (fun _ => true) = true := by simp
              rw [e1, if_pos rfl]
              exact ⟨(decide_eq_true (Or.inr (hnil.mp h0))).symm, _, _, _, rfl, O₄.swap⟩
          · with_reducible refine SeqAt.eq_list_lengthsAt hl1.isList hl2.isList ?_ hUd ?_
            · simp only [strValues, List.size_toArray, List.length_map, List.size_toArray, List.length_nil, bne_iff_ne, ne_eq]
              exact h0
            · with_reducible refine wpAny_truthy_bool ?_
              rw [if_neg (by simp)]
              with_reducible refine isTrue_or_nil ?_
              exact ⟨(decide_eq_false (fun x => x.elim hk0 fun y => h0 (hnil.mpr y))).symm, _, _, _, rfl, O₄.swap⟩
      · rintro b s' ⟨rfl, h₄, tk₄, csz, rfl, O₄⟩
        by_cases hc : k ≠ 0 ∨ onesOf g = []
        · rw [decide_eq_true hc, if_pos rfl, if_pos hc]
          generalize hH : k * 2 ^ 32 = H at *
          refine wpAny_execs_cons ?_
          refine wpAny_Assign_Name ?_ (by with_unfolding_all rfl)
          walk_at "S"
          with_reducible refine stE O₄ hloc (fun h₅ tk₅ O₅ => ?_) hkind l_figures
          refine wpAny_execs_cons ?_
          refine wpAny_Assign_Name ?_ (by with_unfolding_all rfl)
          refine Call_Name1 ?_ rfl
          with_reducible refine ldBE O₅ G (v := .builtin "abs") (by with_unfolding_all rfl) ?_ (by decide +kernel) (by decide) (by decide) hGE hBE hkind l_abs (by decide)
          refine PySem.callWith_builtin1 ?_
          with_reducible refine ldE O₅ hloc ((upd_ne (by decide)).trans m_high₃) ?_ hkind l_high (by decide)
          refine call_abs_int fun u₆ tk₆ => ?_
          have ea : (if H < 0 then -H else H) = (H.natAbs : Int) := by split <;> omega
          rw [ea]
          with_reducible refine stE O₅ hloc (fun h₇ tk₇ O₇ => ?_) hkind l_left
          refine wpAny_execs_cons ?_
          refine whileFigs O₇ hloc hkind l_figures l_left ((upd_ne (by decide)).trans upd_same) upd_same (Nat.lt_trans hk (by decide)) fun h₈ tk₈ m₈ u₈ O₈ q1 q2 => ?_
          have q_high : m₈ "high" = some (.int H t) := (q1 _ (by decide) (by decide)).trans ((upd_ne (by decide)).trans ((upd_ne (by decide)).trans m_high₃))
          have q_row : m₈ "row" = some (.ref R) := (q1 _ (by decide) (by decide)).trans ((upd_ne (by decide)).trans ((upd_ne (by decide)).trans upd_same))
          have dlen : (hexL H.natAbs).length ≤ 60 := hexL_len (by decide) (Nat.lt_trans hk (by decide))
          have e2 : (⟨(hexL H.natAbs).toArray⟩ : Str).length = (hexL H.natAbs).length := rfl
          have fin : ∀ (hz : Heap) (tkz : Nat) uz, Own s.heap L hz m₈ (listC R ((strValues lr).toArray.push (.str (baseText "0x" 16 H) uz)) :: csz) →
              ∃ h' tk' m' lz csz, ({ s with heap := hz, toks := tkz } : Shared) = { s with heap := h', toks := tk' } ∧ m' "row" = some (.ref R) ∧ Own s.heap L h' m' (listC R (strValues lz).toArray :: csz) ∧ lz.map (·.1) = wsOf (onesOf g) (some k) := by
            intro hz tkz uz Oz
            rw [strValues_push] at Oz
            exact ⟨hz, tkz, m₈, _, csz, rfl, q_row, Oz, by rw [List.map_append, hlr]; subst hH; rfl⟩
          refine wpAny_execs_cons ?_
          refine wpAny_If ?_
          with_reducible refine wpAny_isTrue_Compare1 ?_ (by with_unfolding_all rfl)
          with_reducible refine ldE O₈ hloc q_high ?_ hkind l_high (by decide)
          walk_at "I"
          with_reducible refine P.lt_int ?_
          with_reducible refine wpAny_truthy_bool ?_
          by_cases hneg : H < 0
          · rw [decide_eq_true hneg, if_pos rfl]
            have et := tell_text (high := H)
            rw [if_pos hneg] at et
            have e1 : (Str.ofString "-0x").length = 3 := by decide +kernel
            refine wpAny_execs_cons ?_
            refine appendO O₈ (fun Q' hq => ldE O₈ hloc q_row hq hkind l_row (by decide)) ?_ (by rfl) (by with_unfolding_all rfl) (by rw [← hE]; rfl) (by rw [← hE]; rfl) (by rw [← hE]; rfl)
            walk_at "B"; walk_at "S"
            with_reducible refine ldE O₈ hloc q2 ?_ hkind l_figures (by decide)
            with_reducible refine SB.add (fun t' k' => ?_) (by rw [e1, e2, sizeLine_eq]; omega)
            rw [et]
            exact ⟨_, _, O₈, by simp [strValues]; omega, fun h₉ O₉ => wpAny_execs_nil (wpAny_execs_nil ⟨rfl, fin _ _ _ O₉⟩)⟩
          · rw [decide_eq_false hneg, if_neg (by simp)]
            have et := tell_text (high := H)
            rw [if_neg hneg] at et
            have e1 : (Str.ofString "0x").length = 2 := by decide +kernel
            refine wpAny_execs_cons ?_
            refine appendO O₈ (fun Q' hq => ldE O₈ hloc q_row hq hkind l_row (by decide)) ?_ (by rfl) (by with_unfolding_all rfl) (by rw [← hE]; rfl) (by rw [← hE]; rfl) (by rw [← hE]; rfl)
            walk_at "B"; walk_at "S"
            with_reducible refine ldE O₈ hloc q2 ?_ hkind l_figures (by decide)
            with_reducible refine SB.add (fun t' k' => ?_) (by rw [e1, e2, sizeLine_eq]; omega)
            rw [et]
            exact ⟨_, _, O₈, by simp [strValues]; omega, fun h₉ O₉ => wpAny_execs_nil (wpAny_execs_nil ⟨rfl, fin _ _ _ O₉⟩)⟩
        · rw [decide_eq_false hc, if_neg (by simp), if_neg hc]
          exact wpAny_execs_nil ⟨rfl, _, _, _, lr, _, rfl, upd_same, O₄, by rw [hlr]; unfold wsOf; simp [tailOf]⟩
    · rintro s' ⟨h₄, tk₄, m', lz, csz, rfl, n1, O₄, hlz⟩
      refine wpAny_execs_cons ?_
      refine wpAny_Return_some ?_
      with_reducible refine Call_method1 (by with_unfolding_all rfl) (by with_unfolding_all rfl) (by with_unfolding_all rfl) ?_
      walk_at "S"
      have hl1 : h₄.PlainList R (strValues lz).toArray := O₄.hd
      refine SB.join (ldE O₄ hloc n1 ⟨R, lz, rfl, hl1.isList, _, hlz, ?_, fun t' k' => ?_⟩ hkind l_row (by decide))
      · refine ws_ok ones_lt ones_len fun k' e => ?_
        split at e
        · cases e; exact hk
        · cases e
      · exact hQ _ _ _ O₄.fr.keep
end
end Mine
end

section
open PySem PySem.W PyProof.Rows PySem.Calls
namespace Mine

section
variable {prog : Program} {w : World} {A : Around} {E : Value → Shared → Prop} {s : Shared} {env : Env} {L : Addr} {h₀ : Heap} {m : Str → Option Value} {cs : List Cell} {N : Nat} {mg mb : Str → Option Value}

/-- a for over anything that walks, the target a name -/
theorem loopE {x : Str} {tpos : Pos} {body orelse : List Stmt} {I : Addr} {fp wr : List Addr} {n : Nat} {P : Nat → Value → Prop} {St : Nat → Heap → Prop} {Q : Flow → Shared → Prop}
    (W : Walks prog w A I fp wr n P St) (hlive : ∀ i h, St i h → ∀ b ∈ fp, ∃ o, h.get? b = some o)
    (inv : Nat → (Str → Option Value) → List Cell → Prop) (O : Own h₀ L s.heap m (⟨fp, St 0⟩ :: cs)) (h0 : inv 0 m cs)
    (turn : ∀ i m cs v h tk, i < n → P i v → inv i m cs → Own h₀ L h (upd m x v) (⟨fp, St (i + 1)⟩ :: cs) →
      wpAny (model prog w) A (execs body env) (fun f s' => match f with
        | .next | .cont => ∃ h' tk' m' cs', s' = { s with heap := h', toks := tk' } ∧ inv (i + 1) m' cs' ∧ Own h₀ L h' m' (⟨fp, St (i + 1)⟩ :: cs')
        | .brk => Q .next s'
        | .ret v => Q (.ret v) s') (fun _ _ => False) { s with heap := h, toks := tk })
    (done : ∀ m cs h tk, inv n m cs → Own h₀ L h m cs → wpAny (model prog w) A (execs orelse env) Q (fun _ _ => False) { s with heap := h, toks := tk })
    (hLe : env.locals = L) (hk : env.scope.kind = .function ) (hl : env.kindOf x = some .local ) :
    codeAny (model prog w) A (.forLoop (.Name x tpos) (.ref I) body orelse env)
      (fun r s' => match r with | .ok f => Q f s' | .error e => cameBackBy (model prog w) A env E e s') s := by
  have hok : ∀ i, Cell.Ok ⟨fp, St i⟩ := fun i h h' x k => W.frame i h h' x k
  refine codeAny_forLoop (I := fun k s' => ∃ i h tk m cs, k = n - i ∧ i ≤ n ∧ s' = { s with heap := h, toks := tk } ∧ inv i m cs ∧ Own h₀ L h m (⟨fp, St i⟩ :: cs))
    ?_ n ⟨0, s.heap, s.toks, m, cs, by simp, Nat.zero_le _, rfl, h0, O⟩ (fun _ => rfl)
  rintro k s₁ ⟨i, h, tk, m, cs, rfl, hi, rfl, hinv, O⟩
  rcases Nat.lt_or_ge i n with hlt | hge
  · refine W.item i _ _ _ hlt O.hd fun v h' tk' hP hSt hkeep => ?_
    have O' : Own h₀ L h' m (⟨fp, St (i + 1)⟩ :: cs) := O.upd (fun b o hb e => hkeep b o (fun x => hb (W.sub b x)) e) hSt (hok _) (fun _ x => x) (fun b hb => hlive _ _ hSt b hb)
    refine wpAny_assign_Name (stE O' hLe (fun h'' tk'' O'' => ?_) hk hl)
    refine wpAny_mono (turn i m cs v h'' tk'' hlt hP hinv O'') (fun f s' hf => ?_) fun _ _ x => x.elim
    cases f with
    | next => obtain ⟨h₃, tk₃, m₃, cs₃, rfl, b1, b2⟩ := hf; exact ⟨n - (i + 1), by omega, i + 1, h₃, tk₃, m₃, cs₃, rfl, by omega, rfl, b1, b2⟩
    | cont => obtain ⟨h₃, tk₃, m₃, cs₃, rfl, b1, b2⟩ := hf; exact ⟨n - (i + 1), by omega, i + 1, h₃, tk₃, m₃, cs₃, rfl, by omega, rfl, b1, b2⟩
    | brk => exact hf
    | ret v => exact hf
  · obtain rfl : i = n := by omega
    refine W.done _ _ _ O.hd fun h' tk' hkeep => ?_
    have O' : Own h₀ L h' m cs := by
      have ap := List.pairwise_cons.mp O.apart
      have hlf := O.live ⟨fp, St i⟩ (by simp)
      have nL : L ∉ wr := fun x => (hlf L (W.sub _ x)).2.2 rfl
      refine ⟨⟨O.fr.ns.at fun o e => hkeep L o nL e, fun b o e => hkeep b o (fun x => ?_) (O.fr.keep b o e), O.fr.above⟩, ?_, fun c hc => O.ok c (by simp [hc]), ?_, ap.2⟩
      · rw [(hlf b (W.sub _ x)).2.1] at e; cases e
      · intro c hc
        exact O.ok c (by simp [hc]) _ h' (O.holds c (by simp [hc])) fun b hb o e => hkeep b o (fun x => ap.1 c hc b (W.sub _ x) hb) e
      · intro c hc b hb
        obtain ⟨⟨o, e⟩, r⟩ := O.live c (by simp [hc]) b hb
        exact ⟨⟨o, hkeep b o (fun x => ap.1 c hc b (W.sub _ x) hb) e⟩, r⟩
    exact wpAny_mono (done m cs h' tk' hinv O') (fun _ _ x => x) fun _ _ x => x.elim

/-- the same, the loop's end said once: what a break or the else leaves -/
theorem loopFE {x : Str} {tpos : Pos} {body orelse : List Stmt} {I : Addr} {fp wr : List Addr} {n : Nat} {P : Nat → Value → Prop} {St : Nat → Heap → Prop} {Q : Flow → Shared → Prop}
    (W : Walks prog w A I fp wr n P St) (hlive : ∀ i h, St i h → ∀ b ∈ fp, ∃ o, h.get? b = some o)
    (inv : Nat → (Str → Option Value) → List Cell → Prop) (Fin : (Str → Option Value) → List Cell → Prop) (O : Own h₀ L s.heap m (⟨fp, St 0⟩ :: cs)) (h0 : inv 0 m cs)
    (turn : ∀ i m cs v h tk, i < n → P i v → inv i m cs → Own h₀ L h (upd m x v) (⟨fp, St (i + 1)⟩ :: cs) →
      wpAny (model prog w) A (execs body env) (fun f s' => match f with
        | .next | .cont => ∃ h' tk' m' cs', s' = { s with heap := h', toks := tk' } ∧ inv (i + 1) m' cs' ∧ Own h₀ L h' m' (⟨fp, St (i + 1)⟩ :: cs')
        | .brk => ∃ h' tk' m' cs' c, s' = { s with heap := h', toks := tk' } ∧ Fin m' cs' ∧ Own h₀ L h' m' (c :: cs')
        | .ret v => Q (.ret v) s') (fun _ _ => False) { s with heap := h, toks := tk })
    (done : ∀ m cs h tk, inv n m cs → Own h₀ L h m cs → wpAny (model prog w) A (execs orelse env) (fun f s' => match f with
        | .next => ∃ h' tk' m' cs', s' = { s with heap := h', toks := tk' } ∧ Fin m' cs' ∧ Own h₀ L h' m' cs'
        | _ => False) (fun _ _ => False) { s with heap := h, toks := tk })
    (fin : ∀ m cs h tk, Fin m cs → Own h₀ L h m cs → Q .next { s with heap := h, toks := tk })
    (hLe : env.locals = L) (hk : env.scope.kind = .function ) (hl : env.kindOf x = some .local ) :
    codeAny (model prog w) A (.forLoop (.Name x tpos) (.ref I) body orelse env)
      (fun r s' => match r with | .ok f => Q f s' | .error e => cameBackBy (model prog w) A env E e s') s := by
  refine loopE W hlive inv O h0 (fun i m cs v h tk h1 h2 h3 h4 => wpAny_mono (turn i m cs v h tk h1 h2 h3 h4) (fun f s' hf => ?_) fun _ _ x => x) (fun m cs h tk h1 h2 => wpAny_mono (done m cs h tk h1 h2) (fun f s' hf => ?_) fun _ _ x => x) hLe hk hl
  · cases f with
    | next => exact hf
    | cont => exact hf
    | brk => obtain ⟨h', tk', m', cs', c, rfl, b1, b2⟩ := hf; exact fin m' cs' h' tk' b1 b2.drop
    | ret v => exact hf
  · cases f with
    | next => obtain ⟨h', tk', m', cs', rfl, b1, b2⟩ := hf; exact fin m' cs' h' tk' b1 b2
    | cont => exact hf.elim
    | brk => exact hf.elim
    | ret v => exact hf.elim


theorem forRangeE {x : Str} {tp p1 pc p2 pos : Pos} {k n : Nat} {body orelse : List Stmt} {Q : Flow → Shared → Prop} (O : Own h₀ L s.heap m cs) (G : GB w N mg mb h₀) (hA : A.handled = none) (hn : n ≤ 2000)
    (inv : Nat → (Str → Option Value) → List Cell → Prop) (Fin : (Str → Option Value) → List Cell → Prop) (h0 : inv 0 m cs)
    (turn : ∀ i m cs I t h tk, i < n → inv i m cs → Own h₀ L h (upd m x (.int i t)) (⟨[I], fun h => IsRangeIter h I (0 + ((i + 1 : Nat) : Int) * 1) ((n : Int) - ((i + 1 : Nat) : Int)) 1⟩ :: cs) →
      wpAny (model prog w) A (execs body env) (fun f s' => match f with
        | .next | .cont => ∃ h' tk' m' cs', s' = { s with heap := h', toks := tk' } ∧ inv (i + 1) m' cs' ∧ Own h₀ L h' m' (⟨[I], fun h => IsRangeIter h I (0 + ((i + 1 : Nat) : Int) * 1) ((n : Int) - ((i + 1 : Nat) : Int)) 1⟩ :: cs')
        | .brk => ∃ h' tk' m' cs' c, s' = { s with heap := h', toks := tk' } ∧ Fin m' cs' ∧ Own h₀ L h' m' (c :: cs')
        | .ret v => Q (.ret v) s') (fun _ _ => False) { s with heap := h, toks := tk })
    (done : ∀ m cs h tk, inv n m cs → Own h₀ L h m cs → wpAny (model prog w) A (execs orelse env) (fun f s' => match f with
        | .next => ∃ h' tk' m' cs', s' = { s with heap := h', toks := tk' } ∧ Fin m' cs' ∧ Own h₀ L h' m' cs'
        | _ => False) (fun _ _ => False) { s with heap := h, toks := tk })
    (fin : ∀ m cs h tk, Fin m cs → Own h₀ L h m cs → Q .next { s with heap := h, toks := tk })
    (hLe : env.locals = L) (hk : env.scope.kind = .function ) (hl : env.kindOf x = some .local )
    (hGe : env.globals = mainGlobals) (hBe : env.builtins = builtinsNs) (hx : env.kindOf "range" = some .globalImplicit ) :
    wpAny (model prog w) A (exec (.For (.Name x tp) (.Call (.Name "range" p1) [.Constant (.int n) k pc] [] p2) body orelse pos) env) Q E s := by
  refine wpAny_For (Call_Name1 (ldBE O G (v := .type "range") (by rfl) (PySem.callWith_type1 (wpAny_Constant_int ?_)) (by decide +kernel) (by decide) (by decide) hGe hBe hk hx (by decide)) rfl) (fun _ => rfl)
  refine range_then fun s₁ r u v ⟨h₂, tk₂, e₂⟩ keep₂ hr₂ => iter_then hn hr₂ fun s₂ I ⟨h₃, e₃⟩ keep₃ hI hI2 hit => ?_
  subst e₂ e₃
  have keepA : ∀ b o, s.heap.get? b = some o → h₃.get? b = some o := fun b o e => keep₃ b o (keep₂ b o e)
  have hnI : s.heap.get? I = none := by
    cases e : s.heap.get? I with
    | none => rfl
    | some o => exact absurd (Nat.lt_of_lt_of_le (Heap.lt_size (keep₂ I o e)) hI) (Nat.lt_irrefl _)
  have W := Walks.range (prog := prog) (w := w) hA I 0 1 n
  have live : ∀ i h, IsRangeIter h I (0 + (i : Nat) * 1) ((n : Int) - (i : Nat)) 1 → ∀ b ∈ [I], ∃ o, h.get? b = some o := fun i h hi b hb => by
    obtain rfl : b = I := by simpa using hb
    exact ⟨_, hi⟩
  have O' : Own h₀ L h₃ m (⟨[I], fun h => IsRangeIter h I (0 + (0 : Nat) * 1) ((n : Int) - (0 : Nat)) 1⟩ :: cs) := by
    refine O.new keepA hit (fun h h' x k => W.frame 0 h h' x k) fun b hb => ?_
    obtain rfl : b = I := by simpa using hb
    exact ⟨hnI, live 0 h₃ hit _ (by simp)⟩
  refine loopFE (s := { s with heap := h₃, toks := tk₂ }) W live inv Fin O' h0 (fun i m cs v h tk hi hP hinv hO => ?_) done fin hLe hk hl
  obtain ⟨t, rfl⟩ := hP
  have e1 : (0 : Int) + (i : Nat) * 1 = i := by omega
  rw [e1] at hO
  exact turn i m cs I t h tk hi hinv hO

/-- a for over a list -/
theorem forListE {x : Str} {tp pos : Pos} {iter : Expr} {body orelse : List Stmt} {Q : Flow → Shared → Prop} (hA : A.handled = none) {s₀ : Shared}
    (inv : Nat → (Str → Option Value) → List Cell → Prop) (Fin : (Str → Option Value) → List Cell → Prop)
    (h : wpAny (model prog w) A (eval iter env) (fun v s => ∃ D items m cs, v = .ref D ∧ Own h₀ L s.heap m (lstC D items :: cs) ∧ inv 0 m cs ∧
      (∀ i m cs I v h tk, items[i]? = some v → inv i m cs → Own h₀ L h (upd m x v) (⟨[I, D], fun h => h.IsListIter I D (i + 1) ∧ h.IsList D items⟩ :: cs) →
        wpAny (model prog w) A (execs body env) (fun f s' => match f with
          | .next | .cont => ∃ h' tk' m' cs', s' = { s with heap := h', toks := tk' } ∧ inv (i + 1) m' cs' ∧ Own h₀ L h' m' (⟨[I, D], fun h => h.IsListIter I D (i + 1) ∧ h.IsList D items⟩ :: cs')
          | .brk => ∃ h' tk' m' cs' c, s' = { s with heap := h', toks := tk' } ∧ Fin m' cs' ∧ Own h₀ L h' m' (c :: cs')
          | .ret v => Q (.ret v) s') (fun _ _ => False) { s with heap := h, toks := tk }) ∧
      (∀ m cs h tk, inv items.size m cs → Own h₀ L h m cs → wpAny (model prog w) A (execs orelse env) (fun f s' => match f with
          | .next => ∃ h' tk' m' cs', s' = { s with heap := h', toks := tk' } ∧ Fin m' cs' ∧ Own h₀ L h' m' cs'
          | _ => False) (fun _ _ => False) { s with heap := h, toks := tk }) ∧
      (∀ m cs h tk, Fin m cs → Own h₀ L h m cs → Q .next { s with heap := h, toks := tk })) E s₀)
    (hLe : env.locals = L) (hk : env.scope.kind = .function) (hl : env.kindOf x = some .local)
    (hs : ∀ x, foldedSetIterable iter env x = pure x) :
    wpAny (model prog w) A (exec (.For (.Name x tp) iter body orelse pos) env) Q E s₀ := by
  refine wpAny_For (wpAny_mono h (fun v s hv => ?_) fun _ _ e => e) hs
  obtain ⟨D, items, m, cs, rfl, O, h0, turn, done, fin⟩ := hv
  have hL : s.heap.IsList D items := O.hd
  refine wpAny_pyIter_list hL ?_
  obtain ⟨o, hD, _⟩ := id hL
  have hne : D ≠ s.heap.objs.size := Nat.ne_of_lt (Heap.lt_size hD)
  have W := Walks.list (prog := prog) (w := w) hA s.heap.objs.size D hne items
  generalize hI : s.heap.objs.size = I at *
  have live : ∀ (i : Nat) (h : Heap), (h.IsListIter I D i ∧ h.IsList D items) → ∀ b ∈ [I, D], ∃ o, h.get? b = some o := fun i h hi b hb => by
    rcases List.mem_cons.mp hb with rfl | hb
    · exact ⟨_, hi.1.choose_spec.1⟩
    · rw [List.mem_singleton.mp hb]; exact ⟨_, hi.2.choose_spec.1⟩
  have hst : (s.heap.push { cls := .type "list_iterator", data := .fields #[.ref D, .int 0 0] }).IsListIter I D 0 ∧ (s.heap.push { cls := .type "list_iterator", data := .fields #[.ref D, .int 0 0] }).IsList D items := by
    subst hI
    exact ⟨⟨_, Heap.get?_push_size _ rfl, rfl, rfl⟩, hL.push _⟩
  have O' : Own h₀ L (s.heap.push { cls := .type "list_iterator", data := .fields #[.ref D, .int 0 0] }) m (⟨[I, D], fun h => h.IsListIter I D 0 ∧ h.IsList D items⟩ :: cs) := by
    have Ok := O.keep (h' := s.heap.push { cls := .type "list_iterator", data := .fields #[.ref D, .int 0 0] }) fun b o e => Heap.get?_push_of_some _ e
    have hIn : s.heap.get? I = none := none_at (Nat.le_of_eq hI)
    refine ⟨Ok.fr, ?_, ?_, ?_, ?_⟩
    · intro c hc
      rcases List.mem_cons.mp hc with rfl | hc
      · exact hst
      · exact Ok.holds c (by simp [hc])
    · intro c hc
      rcases List.mem_cons.mp hc with rfl | hc
      · exact fun h h' x k => W.frame 0 h h' x k
      · exact Ok.ok c (by simp [hc])
    · intro c hc b hb
      rcases List.mem_cons.mp hc with rfl | hc
      · refine ⟨live 0 _ hst b hb, ?_⟩
        rcases List.mem_cons.mp hb with rfl | hb
        · refine ⟨?_, ?_⟩
          · cases e : h₀.get? b with
            | none => rfl
            | some o => have := O.fr.keep b o e; rw [hIn] at this; cases this
          · rintro rfl
            obtain ⟨o, e⟩ := O.size
            rw [hIn] at e; cases e
        · rw [List.mem_singleton.mp hb]
          exact (O.live (lstC D items) (by simp) D (by simp [lstC])).2
      · exact Ok.live c (by simp [hc]) b hb
    · have ap := List.pairwise_cons.mp O.apart
      refine .cons (fun d hd b hb hb' => ?_) ap.2
      rcases List.mem_cons.mp hb with rfl | hb
      · obtain ⟨⟨o, e⟩, _⟩ := O.live d (by simp [hd]) b hb'
        rw [hIn] at e; cases e
      · rw [List.mem_singleton.mp hb] at hb'
        exact ap.1 d hd D (by simp [lstC]) hb'
  exact loopFE (s := { s with heap := s.heap.push { cls := .type "list_iterator", data := .fields #[.ref D, .int 0 0] } }) W live inv Fin O' h0 (fun i m cs v h tk _ hP hinv hO => turn i m cs I v h tk hP hinv hO) done fin hLe hk hl

/-- a for over a text -/
theorem forStrE {x : Str} {tp pos : Pos} {iter : Expr} {body orelse : List Stmt} {Q : Flow → Shared → Prop} (hA : A.handled = none) {s₀ : Shared}
    (inv : Nat → (Str → Option Value) → List Cell → Prop)
    (h : wpAny (model prog w) A (eval iter env) (fun v s => ∃ X t m cs, v = .str X t ∧ X.cps.all (· < 128) = true ∧ Own h₀ L s.heap m cs ∧ inv 0 m cs ∧
      (∀ i m cs c C u h tk, X.cps[i]? = some C → inv i m cs → Own h₀ L h (upd m x (.str ⟨#[C]⟩ u)) (c :: cs) →
        wpAny (model prog w) A (execs body env) (fun f s' => match f with
          | .next | .cont => ∃ h' tk' m' cs', s' = { s with heap := h', toks := tk' } ∧ inv (i + 1) m' cs' ∧ Own h₀ L h' m' (c :: cs')
          | _ => False) (fun _ _ => False) { s with heap := h, toks := tk }) ∧
      (∀ m cs h tk, inv X.cps.size m cs → Own h₀ L h m cs → Q .next { s with heap := h, toks := tk })) E s₀)
    (ho : orelse = []) (hLe : env.locals = L) (hk : env.scope.kind = .function) (hl : env.kindOf x = some .local)
    (hs : ∀ x, foldedSetIterable iter env x = pure x) :
    wpAny (model prog w) A (exec (.For (.Name x tp) iter body orelse pos) env) Q E s₀ := by
  subst ho
  refine wpAny_For (wpAny_mono h (fun v s hv => ?_) fun _ _ e => e) hs
  obtain ⟨X, t, m, cs, rfl, ha, O, h0, turn, fin⟩ := hv
  refine wpAny_pyIter_ascii ha ?_
  have W := Walks.strAscii (prog := prog) (w := w) hA s.heap.objs.size X t
  have live : ∀ (i : Nat) (h : Heap), h.IsStrIter s.heap.objs.size "str_ascii_iterator" X t i → ∀ b ∈ [s.heap.objs.size], ∃ o, h.get? b = some o := by
    rintro i h ⟨o, ho, _⟩ b hb
    rw [List.mem_singleton.mp hb]; exact ⟨o, ho⟩
  have hst : (s.heap.push { cls := .type "str_ascii_iterator", data := .fields #[.str X t, .int 0 0] }).IsStrIter s.heap.objs.size "str_ascii_iterator" X t 0 := ⟨_, Heap.get?_push_size _ rfl, rfl, rfl⟩
  have O' : Own h₀ L (s.heap.push { cls := .type "str_ascii_iterator", data := .fields #[.str X t, .int 0 0] }) m (⟨[s.heap.objs.size], fun h => h.IsStrIter s.heap.objs.size "str_ascii_iterator" X t 0⟩ :: cs) := by
    refine O.new (fun b o e => Heap.get?_push_of_some _ e) hst (fun h h' x k => W.frame 0 h h' x k) fun b hb => ?_
    rw [List.mem_singleton.mp hb]
    exact ⟨none_at (Nat.le_refl _), live 0 _ hst _ (by simp)⟩
  refine loopFE (s := { s with heap := s.heap.push { cls := .type "str_ascii_iterator", data := .fields #[.str X t, .int 0 0] } }) W live inv (inv X.cps.size) O' h0 (fun i m cs v h tk hi hP hinv hO => ?_) (fun m cs h tk hinv hO => ?_) fin hLe hk hl
  · obtain ⟨C, u, hC, rfl⟩ := hP
    refine wpAny_mono (turn i m cs _ C u h tk hC hinv hO) (fun f s' hf => ?_) fun _ _ e => e
    cases f with
    | next => exact hf
    | cont => exact hf
    | brk => exact hf.elim
    | ret v => exact hf.elim
  · exact wpAny_execs_nil ⟨h, tk, m, cs, rfl, hinv, hO⟩
end
end Mine
end

section
open PySem PySem.W PyProof.Rows PySem.Calls
namespace Mine

section
variable {w : World} {A : Around} {E : Value → Shared → Prop} {s : Shared} {env : Env} {L : Addr} {h₀ : Heap} {m : Str → Option Value} {cs : List Cell} {N : Nat} {mg mb : Str → Option Value}

/-- a global def called by its name -/
theorem callGE {x : Str} {d : DefItem} {p pos : Pos} {e : Expr} {rest : List Expr} {fa : Addr} {Q : Value → Shared → Prop} (O : Own h₀ L s.heap m cs) (G : GB w N mg mb h₀)
    (hd : d ∈ [defAt PySem.Challenge.pw_dm0070_02 11] ++ ds2) (hdx : d.name = x) (hdf : d.params.defaults = []) (hf : mg x = some (.ref fa))
    (h : wpAny (model PySem.Challenge.pw_dm0070_02 w) A (spliced (backTo pos (starEach (e :: rest) env))) (fun vs s₁ => (∃ m cs, Own h₀ L s₁.heap m cs) ∧ wpAny (model PySem.Challenge.pw_dm0070_02 w) A (call (.ref fa) vs) Q E s₁) E s)
    (hg : env.globals = mainGlobals) (hk : env.scope.kind = .function) (hx : env.kindOf x = some .globalImplicit) (hnd : (x == ("__debug__" : Str)) = false)
    (he : starEach (e :: rest) env = (false, eval e env) :: starEach rest env) :
    wpAny (model PySem.Challenge.pw_dm0070_02 w) A (eval (.Call (.Name x p) (e :: rest) [] pos) env) Q E s := by
  obtain ⟨f', c', o, pm, doc, _, _, h3, h4, h5, h6⟩ := (G.G.made d hd).plain hdf
  obtain rfl : f' = fa := by rw [hdx, hf] at h3; cases h3; rfl
  refine Call_Name rfl (ldGE O G hf ?_ hg hk hx hnd)
  exact callWith_def h5 (wpAny_mono h (fun vs s₁ h₁ => by
    obtain ⟨⟨m', cs', O'⟩, h₂⟩ := h₁
    exact ⟨O'.fr.keep _ _ h4, h₂⟩) fun _ _ x => x) he

theorem callGE0 {x : Str} {d : DefItem} {p pos : Pos} {fa : Addr} {Q : Value → Shared → Prop} (O : Own h₀ L s.heap m cs) (G : GB w N mg mb h₀)
    (hd : d ∈ [defAt PySem.Challenge.pw_dm0070_02 11] ++ ds2) (hdx : d.name = x) (hdf : d.params.defaults = []) (hf : mg x = some (.ref fa))
    (h : wpAny (model PySem.Challenge.pw_dm0070_02 w) A (call (.ref fa) []) Q E s)
    (hg : env.globals = mainGlobals) (hk : env.scope.kind = .function) (hx : env.kindOf x = some .globalImplicit) (hnd : (x == ("__debug__" : Str)) = false) :
    wpAny (model PySem.Challenge.pw_dm0070_02 w) A (eval (.Call (.Name x p) [] [] pos) env) Q E s := by
  obtain ⟨f', c', o, pm, doc, _, _, h3, h4, h5, h6⟩ := (G.G.made d hd).plain hdf
  obtain rfl : f' = fa := by rw [hdx, hf] at h3; cases h3; rfl
  refine Call_Name0 (ldGE O G hf ?_ hg hk hx hnd)
  exact callWith_function (o := o) (PyProof.Rows.evalArgs_none ⟨⟨O.fr.keep _ _ h4, h5⟩, h⟩)

/-- x, y = a tuple of two -/
theorem assign2E {x y : Str} {p q pos : Pos} {k : Nat} {T : Addr} {a b : Value} {Q : Unit → Shared → Prop} (O : Own h₀ L s.heap m cs) (hh : A.handled = none) (ht : s.heap.IsTuple T #[a, b])
    (h : ∀ h' tk, (Own h₀ L h' (upd (upd m x a) y b) cs) → Q () { s with heap := h', toks := tk })
    (hLe : env.locals = L) (hk : env.scope.kind = .function) (hx : env.kindOf x = some .local) (hy : env.kindOf y = some .local) :
    wpAny (model PySem.Challenge.pw_dm0070_02 w) A (assign (.Tuple [.Name x p, .Name y q] k pos) env (.ref T)) Q E s := by
  refine wpAny_assign_Tuple hh ht rfl rfl fun h₃ hx₃ => ?_
  have O₃ : Own h₀ L h₃ m cs := O.keep fun c o e => hx₃ c o (Nat.ne_of_lt (Heap.lt_size e)) e
  show wpAny _ A (do holding [b] (assign (.Name x p) env a); do holding [] (assign (.Name y q) env b); pure ()) _ _ _
  refine wpAny_bind (wpAny_holding (wpAny_assign_Name (stE O₃ hLe (fun h₄ tk₄ O₄ => ?_) hk hx)))
  refine wpAny_bind (wpAny_holding (wpAny_assign_Name (stE O₄ hLe (fun h₅ tk₅ O₅ => wpAny_pure ?_) hk hy)))
  exact h h₅ _ O₅

/-- an item of a list at a place -/
theorem itemL {value slice : Expr} {l : Addr} {items : Array Value} {k : Int} {u : Tok} {x : Value} {Q : Value → Shared → Prop} (hl : s.heap.IsList l items) (h0 : 0 ≤ k) (hhi : k < 2 ^ 63) (hx : items[k.toNat]? = some x) (h : Q x s)
    (hs : subscripted slice false (.ref l) (.int k u) = operate [.ref l, .int k u] (getItem (.ref l) (.int k u))) :
    wpAny (model PySem.Challenge.pw_dm0070_02 w) A (subscriptTail value slice (.ref l) (.int k u)) Q E s := tail_any hl.typeIs slot_list_getitem.lookup (wpAny_getItem_list hl h0 hhi hx h) hs

theorem pow2 {q1 q2 q3 : Pos} {k k2 n : Nat} {Q : Value → Shared → Prop} (hn : n ≤ 1000) (h : ∀ t tk, Q (.int (2 ^ n) t) { s with toks := tk }) :
    wpAny (model PySem.Challenge.pw_dm0070_02 w) A (eval (.BinOp (.Constant (.int 2) k q1) .Pow (.Constant (.int n) k2 q2) q3) env) Q E s := by
  refine wpAny_BinOp (wpAny_Constant_int (wpAny_Constant_int (pow_int_small (by omega) (by omega) (by decide) ?_)))
  rw [Int.toNat_natCast]
  exact h _ _
end

section
variable {h₀ h h' : Heap} {L : Addr} {m : Str → Option Value}
/-- a list among the own cells is changed -/
theorem Own.setL (pre post : List Cell) {D : Addr} {its its' : Array Value} (O : Own h₀ L h m (pre ++ lstC D its :: post)) (hl : h'.IsList D its') (sb : Heap.SameBut D h h') : Own h₀ L h' m (pre ++ lstC D its' :: post) :=
  ((O.perm List.perm_middle).upd (c' := lstC D its') (fun b o hb e => (sb.2 b (fun x => hb (by simp [lstC, x]))).trans e) hl lstC_ok (fun _ x => x) (fun b hb => by
    obtain rfl : b = D := by simpa [lstC] using hb
    obtain ⟨o, e, _⟩ := hl
    exact ⟨o, e⟩)).perm List.perm_middle.symm
end

/-- a text of pretty_flags, by places and what stands behind them -/
def oOf (n : Int) : Option Int := if n / 2 ^ 32 ≠ 0 ∨ setBelow n 32 = [] then some (n / 2 ^ 32) else none
theorem pretty_text (n : Int) : prettyOf n = textOf (setBelow n 32) (oOf n) := by
  unfold prettyOf textOf partsOf wsOf oOf
  split <;> rfl
theorem high_text (n : Int) : highOf (oOf n) = n / 2 ^ 32 * 2 ^ 32 := by
  unfold oOf
  by_cases h : n / 2 ^ 32 ≠ 0 ∨ setBelow n 32 = []
  · rw [if_pos h]; rfl
  · rw [if_neg h]
    have : n / 2 ^ 32 = 0 := by
      by_cases e : n / 2 ^ 32 = 0
      · exact e
      · exact absurd (Or.inl e) h
    rw [this]; rfl
theorem text_ne (n : Int) : wsOf (setBelow n 32) (oOf n) ≠ [] := by
  unfold oOf wsOf
  by_cases h : n / 2 ^ 32 ≠ 0 ∨ setBelow n 32 = []
  · rw [if_pos h]; simp [tailOf]
  · rw [if_neg h]
    intro e
    rw [List.append_eq_nil_iff] at e
    exact h (.inr (by simpa using e.1))
theorem o_small {n : Int} (h : n.natAbs < 2 ^ 150) : ∀ k, oOf n = some k → (k * 2 ^ 32).natAbs < 2 ^ 200 := by
  intro k hk
  unfold oOf at hk
  split at hk
  · cases hk
    have e1 : (2 : Nat) ^ 150 = 1427247692705959881058285969449495136382746624 := by decide
    have e2 : (2 : Nat) ^ 200 = 1606938044258990275541962092341162602522202993782792835301376 := by decide
    rw [e1] at h; rw [e2]
    omega
  · cases hk
theorem marks_set {n : Int} {j : Nat} (hj : j < 32) : (if j ∈ setBelow n 32 then (1 : Int) else 0) = n / 2 ^ j % 2 := by
  have e : j ∈ setBelow n 32 ↔ n / 2 ^ j % 2 = 1 := by
    unfold setBelow
    rw [List.mem_filter, List.mem_range]
    simp [hj]
  by_cases h : n / 2 ^ j % 2 = 1
  · rw [if_pos (e.mpr h), h]
  · rw [if_neg (fun x => h (e.mp x))]; omega
theorem tell_pretty {n : Int} {g : Nat → Int} (hg : ∀ j, j < 32 → g j = n / 2 ^ j % 2) : textOf (onesOf g) (if n / 2 ^ 32 ≠ 0 ∨ onesOf g = [] then some (n / 2 ^ 32) else none) = prettyOf n := by
  have e : onesOf g = setBelow n 32 := by
    unfold onesOf setBelow
    apply List.filter_congr
    intro j hj
    rw [hg j (List.mem_range.mp hj), Bool.eq_iff_iff, bne_iff_ne, beq_iff_eq]
    omega
  rw [pretty_text, e]; rfl

/-- the carry into a place -/
def carryOf (a b : Int) (i : Nat) : Int := (a + b) / 2 ^ i - a / 2 ^ i - b / 2 ^ i
theorem carry_step (a b : Int) (i : Nat) : (a / 2 ^ i % 2 + b / 2 ^ i % 2 + carryOf a b i) / 2 = carryOf a b (i + 1) := by
  unfold carryOf
  rw [div_succ, div_succ, div_succ]
  omega
theorem carry_place (a b : Int) (i : Nat) : (a / 2 ^ i % 2 + b / 2 ^ i % 2 + carryOf a b i) % 2 = (a + b) / 2 ^ i % 2 := by
  unfold carryOf
  omega
theorem carry_end (a b : Int) : a / 2 ^ 32 * 2 ^ 32 + b / 2 ^ 32 * 2 ^ 32 + carryOf a b 32 * 2 ^ 32 = (a + b) / 2 ^ 32 * 2 ^ 32 := by
  unfold carryOf
  omega
theorem carry_small (a b : Int) (i : Nat) : 0 ≤ carryOf a b i ∧ carryOf a b i ≤ 1 := by
  unfold carryOf
  have hp := pow_pos2 i
  generalize (2 : Int) ^ i = p at *
  have h1 := Int.mul_ediv_add_emod a p
  have h2 := Int.mul_ediv_add_emod b p
  have h3 := Int.mul_ediv_add_emod (a + b) p
  have r1 := Int.emod_nonneg a (Int.ne_of_gt hp)
  have r2 := Int.emod_nonneg b (Int.ne_of_gt hp)
  have r3 := Int.emod_nonneg (a + b) (Int.ne_of_gt hp)
  have t1 := Int.emod_lt_of_pos a hp
  have t2 := Int.emod_lt_of_pos b hp
  have t3 := Int.emod_lt_of_pos (a + b) hp
  generalize a / p = x at *
  generalize b / p = y at *
  generalize (a + b) / p = z at *
  have e : p * (z - x - y) = p * z - p * x - p * y := by rw [Int.mul_sub, Int.mul_sub]
  have lo : -1 < z - x - y := by
    apply Int.lt_of_mul_lt_mul_left (a := p) _ (Int.le_of_lt hp)
    rw [e]; omega
  have hi : z - x - y < 2 := by
    apply Int.lt_of_mul_lt_mul_left (a := p) _ (Int.le_of_lt hp)
    rw [e]; omega
  omega
end Mine
end

section
open PySem PySem.W PyProof.Rows PySem.Calls
namespace Mine

local macro_rules | `(tactic| walk_at "B") => `(tactic| with_reducible refine wpAny_BinOp ?_)
local macro_rules | `(tactic| walk_at "S") => `(tactic| with_reducible refine Calls.Constant_str ?_)
local macro_rules | `(tactic| walk_at "I") => `(tactic| with_reducible refine wpAny_Constant_int ?_)
local macro_rules | `(tactic| walk_at "U") => `(tactic| repeat (first | exact upd_same | assumption | refine (upd_ne (by decide)).trans ?_))
local macro_rules | `(tactic| walk_at "X") => `(tactic| with_reducible refine Subscript_ ?_)

section
variable {w : World} {A : Around} {E : Value → Shared → Prop} {s : Shared} {env : Env} {L : Addr} {h₀ : Heap} {m : Str → Option Value} {cs : List Cell} {N : Nat} {mg mb : Str → Option Value}

theorem GB.addr (G : GB w N mg mb h₀) {d : DefItem} (hd : d ∈ [defAt PySem.Challenge.pw_dm0070_02 11] ++ ds2) (hdf : d.params.defaults = []) : ∃ f, mg d.name = some (.ref f) :=
  let ⟨f, _, _, _, _, _, _, h3, _⟩ := (G.G.made d hd).plain hdf
  ⟨f, h3⟩

/-- x, y = _law_read(z, words) -/
theorem readE {x y z : Str} {p q pos p1 p2 p3 p4 pos2 : Pos} {k : Nat} {wl : Addr} {ws : List (Str × Tok)} {a : Int} {t : Tok} {Q : Flow → Shared → Prop} (O : Own h₀ L s.heap m cs) (G : GB w N mg mb h₀)
    (hh : A.handled = none) (hroom : A.depth < recursionLimit) (hW : s.heap.IsList wl (strValues ws).toArray) (hws : ws.map (·.1) = words32) (ha : a.natAbs < 2 ^ 150)
    (m_z : m z = some (.str (prettyOf a) t)) (m_words : m "words" = some (.ref wl))
    (h : ∀ h' tk D items tH, Own h₀ L h' (upd (upd m x (.ref D)) y (.int (a / 2 ^ 32 * 2 ^ 32) tH)) (lstC D items :: cs) → (∀ b o, h₀.get? b = some o → h'.get? b = some o) → Marks items (fun j => a / 2 ^ j % 2) → Q .next { s with heap := h', toks := tk })
    (hLe : env.locals = L) (hg : env.globals = mainGlobals) (hk : env.scope.kind = .function) (l_x : env.kindOf x = some .local) (l_y : env.kindOf y = some .local) (l_z : env.kindOf z = some .local) (l_words : env.kindOf "words" = some .local)
    (g_read : env.kindOf "_law_read" = some .globalImplicit) (hdz : (z == ("__debug__" : Str)) = false)
    (hs : swapsWithSole [.Tuple [.Name x p, .Name y q] k pos] (.Call (.Name "_law_read" p1) [.Name z p2, .Name "words" p3] [] p4) pos2.line env = pure false)
    (hw : swappedStores [.Tuple [.Name x p, .Name y q] k pos] (.Call (.Name "_law_read" p1) [.Name z p2, .Name "words" p3] [] p4) env = pure none) :
    wpAny (model PySem.Challenge.pw_dm0070_02 w) A (exec (.Assign [.Tuple [.Name x p, .Name y q] k pos] (.Call (.Name "_law_read" p1) [.Name z p2, .Name "words" p3] [] p4) pos2) env) Q E s := by
  refine Assign_Tuple ?_ hs hw
  obtain ⟨fr, hfr⟩ := G.addr (d := defAt PySem.Challenge.pw_dm0070_02 14) (by simp [ds2]) (by rfl)
  have hfr : mg "_law_read" = some (.ref fr) := hfr
  refine callGE (d := defAt PySem.Challenge.pw_dm0070_02 14) O G (by simp [ds2]) (by rfl) (by rfl) hfr ?_ hg hk g_read (by decide) (by rfl)
  refine args_cons ?_ (by rfl)
  refine ldE O hLe m_z ?_ hk l_z hdz
  refine args_cons ?_ (by rfl)
  refine ldE O hLe m_words ?_ hk l_words (by decide)
  refine args_nil ⟨⟨_, _, O⟩, ?_⟩
  rw [pretty_text]
  refine read_call (O.glob G) hfr hh hroom hW hws (fun i hi => setBelow_lt hi) (text_ne a) (setBelow_len a 32) (o_small ha) fun h₁ tk₁ T D items tH keep hD hT hL hM => ?_
  rw [high_text] at hT
  have O₁ : Own h₀ L h₁ m (lstC D items :: cs) := O.newList hD keep hL
  refine assign2E O₁ hh hT (fun h₂ tk₂ O₂ => ?_) hLe hk l_x l_y
  exact h _ _ D items tH O₂ O₂.fr.keep (hM.congr fun j hj => marks_set hj)

set_option maxRecDepth 100000 in
set_option maxHeartbeats 4000000 in
theorem add_call {f wl : Addr} {ws : List (Str × Tok)} {a b : Int} {t t2 : Tok} {Q : Value → Shared → Prop} (G : GB w N mg mb s.heap) (hf : mg "_law_add" = some (.ref f))
   (hA : A.handled = none) (hroom : A.depth + 1 < recursionLimit) (hU : A.units + 6 < cLine) (hW : s.heap.IsList wl (strValues ws).toArray) (hws : ws.map (·.1) = words32) (ha : a.natAbs < 2 ^ 100) (hb : b.natAbs < 2 ^ 100)
   (hQ : ∀ h' tk u, (∀ b o, s.heap.get? b = some o → h'.get? b = some o) → Q (.str (prettyOf (a + b)) u) { s with heap := h', toks := tk }) :
   wpAny (model PySem.Challenge.pw_dm0070_02 w) A (call (.ref f) [.str (prettyOf a) t, .str (prettyOf b) t2, .ref wl]) Q E s := by
  refine call_def (d := defAt PySem.Challenge.pw_dm0070_02 16) (binds := [("one", .str (prettyOf a) t), ("two", .str (prettyOf b) t2), ("words", .ref wl)]) G.G (by simp [ds2]) (by rfl) hf (by omega) (fun _ _ _ => by rfl) (fun x hx => ?_) (fun h₁ tk cd O => ?_) (by decide +kernel) (by decide +kernel) (by decide +kernel) (by decide +kernel)
  · rcases List.mem_cons.mp hx with rfl | hx
    · exact (by decide +kernel : (defAt PySem.Challenge.pw_dm0070_02 16).scope.names.lookup ("one" : Str) = some .local)
    rcases List.mem_cons.mp hx with rfl | hx
    · exact (by decide +kernel : (defAt PySem.Challenge.pw_dm0070_02 16).scope.names.lookup ("two" : Str) = some .local)
    · rw [List.mem_singleton.mp hx]
      exact (by decide +kernel : (defAt PySem.Challenge.pw_dm0070_02 16).scope.names.lookup ("words" : Str) = some .local)
  have lo : ∀ x ∈ (["one", "two", "words", "places", "high", "others", "height", "carry", "i_v", "total"] : List Str), (envOf (defAt PySem.Challenge.pw_dm0070_02 16).name (defAt PySem.Challenge.pw_dm0070_02 16).scope s.heap.objs.size f cd).kindOf x = some .local :=
    (by decide +kernel : ∀ x ∈ (["one", "two", "words", "places", "high", "others", "height", "carry", "i_v", "total"] : List Str), (defAt PySem.Challenge.pw_dm0070_02 16).scope.names.lookup x = some .local)
  have gl : ∀ x ∈ (["_law_read", "range", "_law_tell"] : List Str), (envOf (defAt PySem.Challenge.pw_dm0070_02 16).name (defAt PySem.Challenge.pw_dm0070_02 16).scope s.heap.objs.size f cd).kindOf x = some .globalImplicit :=
    (by decide +kernel : ∀ x ∈ (["_law_read", "range", "_law_tell"] : List Str), (defAt PySem.Challenge.pw_dm0070_02 16).scope.names.lookup x = some .globalImplicit)
  have hkind : (envOf (defAt PySem.Challenge.pw_dm0070_02 16).name (defAt PySem.Challenge.pw_dm0070_02 16).scope s.heap.objs.size f cd).scope.kind = .function := (by decide +kernel : (defAt PySem.Challenge.pw_dm0070_02 16).scope.kind = .function)
  have hLe : (envOf (defAt PySem.Challenge.pw_dm0070_02 16).name (defAt PySem.Challenge.pw_dm0070_02 16).scope s.heap.objs.size f cd).locals = s.heap.objs.size := rfl
  have hGe : (envOf (defAt PySem.Challenge.pw_dm0070_02 16).name (defAt PySem.Challenge.pw_dm0070_02 16).scope s.heap.objs.size f cd).globals = mainGlobals := rfl
  have hBe : (envOf (defAt PySem.Challenge.pw_dm0070_02 16).name (defAt PySem.Challenge.pw_dm0070_02 16).scope s.heap.objs.size f cd).builtins = builtinsNs := rfl
  have hAd : (A.deeper (envOf (defAt PySem.Challenge.pw_dm0070_02 16).name (defAt PySem.Challenge.pw_dm0070_02 16).scope s.heap.objs.size f cd)).handled = none := hA
  have hdep : (A.deeper (envOf (defAt PySem.Challenge.pw_dm0070_02 16).name (defAt PySem.Challenge.pw_dm0070_02 16).scope s.heap.objs.size f cd)).depth < recursionLimit := hroom
  have hun : (A.deeper (envOf (defAt PySem.Challenge.pw_dm0070_02 16).name (defAt PySem.Challenge.pw_dm0070_02 16).scope s.heap.objs.size f cd)).units + 3 < cLine := hU
  generalize hE : envOf (defAt PySem.Challenge.pw_dm0070_02 16).name (defAt PySem.Challenge.pw_dm0070_02 16).scope s.heap.objs.size f cd = env at *
  generalize A.deeper env = A' at *
  generalize hL : s.heap.objs.size = L at *
  generalize hm0 : (fun x : Str => List.lookup x ([("one", .str (prettyOf a) t), ("two", .str (prettyOf b) t2), ("words", .ref wl)] : List (Str × Value)).reverse) = m0 at O
  have m_one : m0 "one" = some (.str (prettyOf a) t) := by rw [← hm0]; rfl
  have m_two : m0 "two" = some (.str (prettyOf b) t2) := by rw [← hm0]; rfl
  have m_words : m0 "words" = some (.ref wl) := by rw [← hm0]; rfl
  clear hm0
  have hWl : ∀ h' : Heap, (∀ b o, s.heap.get? b = some o → h'.get? b = some o) → h'.IsList wl (strValues ws).toArray := fun h' k => hW.at fun o e => k _ o e
  have ha2 : a.natAbs < 2 ^ 150 := Nat.lt_trans ha (by decide)
  have hb2 : b.natAbs < 2 ^ 150 := Nat.lt_trans hb (by decide)
  refine wpAny_execs_cons ?_
  with_reducible refine readE O G hAd hdep (hWl _ O.fr.keep) hws ha2 m_one m_words ?_ hLe hGe hkind (lo _ (by decide)) (lo _ (by decide)) (lo _ (by decide)) (lo _ (by decide)) (gl _ (by decide)) (by decide) (by with_unfolding_all rfl) (by with_unfolding_all rfl)
  intro h₂ tk₂ D items tH O₂ _ M₂
  dsimp only at *
  refine wpAny_execs_cons ?_
  with_reducible refine readE O₂ G hAd hdep (hWl _ O₂.fr.keep) hws hb2 ((upd_ne (by decide)).trans ((upd_ne (by decide)).trans m_two)) ((upd_ne (by decide)).trans ((upd_ne (by decide)).trans m_words)) ?_ hLe hGe hkind (lo _ (by decide)) (lo _ (by decide)) (lo _ (by decide)) (lo _ (by decide)) (gl _ (by decide)) (by decide) (by with_unfolding_all rfl) (by with_unfolding_all rfl)
  intro h₃ tk₃ D2 items2 tH2 O₃ _ M₃
  dsimp only at *
  refine wpAny_execs_cons ?_
  refine wpAny_Assign_Name ?_ (by with_unfolding_all rfl)
  walk_at "I"
  with_reducible refine stE O₃ hLe (fun h₄ tk₄ O₄ => ?_) hkind (lo _ (by decide))
  dsimp only at *
  have hMt : m0 = m0 := rfl
  refine wpAny_execs_cons ?_
  refine forRangeE (n := 32) O₄ G hAd (by decide)
    (fun i m cs => ∃ its tc, m "places" = some (.ref D) ∧ m "others" = some (.ref D2) ∧ m "high" = some (.int (a / 2 ^ 32 * 2 ^ 32) tH) ∧ m "height" = some (.int (b / 2 ^ 32 * 2 ^ 32) tH2) ∧ m "words" = some (.ref wl) ∧
      m "carry" = some (.int (carryOf a b i) tc) ∧ cs = [lstC D2 items2, lstC D its] ∧ Marks its (fun j => if j < i then (a + b) / 2 ^ j % 2 else a / 2 ^ j % 2))
    (fun m cs => ∃ its tc, m "places" = some (.ref D) ∧ m "high" = some (.int (a / 2 ^ 32 * 2 ^ 32) tH) ∧ m "height" = some (.int (b / 2 ^ 32 * 2 ^ 32) tH2) ∧ m "words" = some (.ref wl) ∧
      m "carry" = some (.int (carryOf a b 32) tc) ∧ cs = [lstC D2 items2, lstC D its] ∧ Marks its (fun j => (a + b) / 2 ^ j % 2)) ?_ ?_ ?_ ?_ hLe hkind (lo _ (by decide)) hGe hBe (gl _ (by decide))
  · refine ⟨items, tk₃, by walk_at "U", by walk_at "U", by walk_at "U", by walk_at "U", by walk_at "U", ?_, rfl, by simpa using M₂⟩
    have e0 : carryOf a b 0 = 0 := by unfold carryOf; simp; omega
    rw [e0]; exact upd_same
  · rintro i m cs I ti h tk hi ⟨its, tc, p1, p2, p3, p4, p5, p6, rfl, M⟩ O
    have hD : h.IsList D its := O.holds (lstC D its) (by simp)
    have hD2 : h.IsList D2 items2 := O.holds (lstC D2 items2) (by simp)
    obtain ⟨ta, hta⟩ := M.2 i hi
    obtain ⟨tb, htb⟩ := M₃.2 i hi
    simp only [Nat.lt_irrefl, if_false] at hta
    have n1 : upd m "i_v" (.int i ti) "places" = some (.ref D) := (upd_ne (by decide)).trans p1
    have n2 : upd m "i_v" (.int i ti) "others" = some (.ref D2) := (upd_ne (by decide)).trans p2
    have n3 : upd m "i_v" (.int i ti) "carry" = some (.int (carryOf a b i) tc) := (upd_ne (by decide)).trans p6
    refine wpAny_execs_cons ?_
    refine wpAny_Assign_Name ?_ (by with_unfolding_all rfl)
    walk_at "B"; walk_at "B"; walk_at "X"
    with_reducible refine ldE O hLe n1 ?_ hkind (lo _ (by decide)) (by decide)
    with_reducible refine ldE O hLe upd_same ?_ hkind (lo _ (by decide)) (by decide)
    refine itemL hD (by omega) (by omega) (by rw [Int.toNat_natCast]; exact hta) ?_ (by with_unfolding_all rfl)
    walk_at "X"
    with_reducible refine ldE O hLe n2 ?_ hkind (lo _ (by decide)) (by decide)
    with_reducible refine ldE O hLe upd_same ?_ hkind (lo _ (by decide)) (by decide)
    refine itemL hD2 (by omega) (by omega) (by rw [Int.toNat_natCast]; exact htb) ?_ (by with_unfolding_all rfl)
    refine add_int ?_
    with_reducible refine ldE O hLe n3 ?_ hkind (lo _ (by decide)) (by decide)
    refine add_int ?_
    with_reducible refine stE O hLe (fun h₅ tk₅ O₅ => ?_) hkind (lo _ (by decide))
    dsimp only at *
    have cp := carry_place a b i
    have cst := carry_step a b i
    have cs0 := carry_small a b i
    generalize hT : a / 2 ^ i % 2 + b / 2 ^ i % 2 + carryOf a b i = T at *
    have f1 : T.fmod 2 = T % 2 := Int.fmod_eq_emod_of_nonneg _ (by decide)
    have f2 : T.fdiv 2 = T / 2 := Int.fdiv_eq_ediv_of_nonneg _ (by decide)
    refine wpAny_execs_cons ?_
    refine wpAny_Assign_Subscript ?_ (by with_unfolding_all rfl)
    walk_at "B"
    with_reducible refine ldE O₅ hLe upd_same ?_ hkind (lo _ (by decide)) (by decide)
    walk_at "I"
    with_reducible refine PyProof.Rows.mod_int (by decide) ?_
    with_reducible refine ldE O₅ hLe ((upd_ne (by decide)).trans n1) ?_ hkind (lo _ (by decide)) (by decide)
    with_reducible refine ldE O₅ hLe ((upd_ne (by decide)).trans upd_same) ?_ hkind (lo _ (by decide)) (by decide)
    refine wpAny_setItem_list (O₅.holds (lstC D its) (by simp)) (by omega) (by omega) (by rw [M.1]; omega) fun h₆ hl₆ sb₆ => ?_
    have O₆ := Own.setL [_, _] [] O₅ hl₆ sb₆
    dsimp only [List.cons_append, List.nil_append] at O₆
    have M₆ := M.set hi (T.fmod 2) (tk₅ + 1)
    rw [f1, cp] at M₆
    dsimp only at *
    refine wpAny_execs_cons ?_
    refine wpAny_Assign_Name ?_ (by with_unfolding_all rfl)
    walk_at "B"
    with_reducible refine ldE O₆ hLe upd_same ?_ hkind (lo _ (by decide)) (by decide)
    walk_at "I"
    with_reducible refine floordiv_int (by decide) ?_ (Or.inl (PyProof.noPylong_small (by omega)))
    with_reducible refine stE O₆ hLe (fun h₇ tk₇ O₇ => ?_) hkind (lo _ (by decide))
    rw [f2, cst, Int.toNat_natCast, f1, cp] at O₇
    refine wpAny_execs_nil ⟨_, _, _, _, rfl, ⟨_, _, by walk_at "U", by walk_at "U", by walk_at "U", by walk_at "U", by walk_at "U", upd_same, rfl, M₆.congr fun j _ => ?_⟩, O₇⟩
    by_cases e : j = i
    · subst e; rw [if_pos rfl, if_pos (Nat.lt_succ_self _)]
    · rw [if_neg e]
      by_cases e2 : j < i
      · rw [if_pos e2, if_pos (by omega)]
      · rw [if_neg e2, if_neg (by omega)]
  · rintro m cs h tk ⟨its, tc, p1, p2, p3, p4, p5, p6, rfl, M⟩ O
    exact wpAny_execs_nil ⟨h, tk, m, _, rfl, ⟨its, tc, p1, p3, p4, p5, p6, rfl, M.congr fun j hj => if_pos hj⟩, O⟩
  · rintro m cs h tk ⟨its, tc, p1, p3, p4, p5, p6, rfl, M⟩ O
    dsimp only at *
    refine wpAny_execs_cons ?_
    refine wpAny_Return_some ?_
    obtain ⟨ft, hft⟩ := G.addr (d := defAt PySem.Challenge.pw_dm0070_02 15) (by simp [ds2]) (by rfl)
    have hft : mg "_law_tell" = some (.ref ft) := hft
    refine callGE (d := defAt PySem.Challenge.pw_dm0070_02 15) O G (by simp [ds2]) (by rfl) (by rfl) hft ?_ hGe hkind (gl _ (by decide)) (by decide) (by rfl)
    refine args_cons ?_ (by rfl)
    with_reducible refine ldE O hLe p1 ?_ hkind (lo _ (by decide)) (by decide)
    refine args_cons ?_ (by rfl)
    walk_at "B"; walk_at "B"
    with_reducible refine ldE O hLe p3 ?_ hkind (lo _ (by decide)) (by decide)
    with_reducible refine ldE O hLe p4 ?_ hkind (lo _ (by decide)) (by decide)
    refine add_int ?_
    walk_at "B"
    with_reducible refine ldE O hLe p6 ?_ hkind (lo _ (by decide)) (by decide)
    refine pow2 (n := 32) (by decide) fun tp tkp => ?_
    refine mul_int ?_ (IntMulOk.of_right (by decide))
    refine add_int ?_
    rw [carry_end]
    refine args_cons ?_ (by rfl)
    with_reducible refine ldE O hLe p5 ?_ hkind (lo _ (by decide)) (by decide)
    refine args_nil ⟨⟨_, _, O⟩, ?_⟩
    have hk : ((a + b) / 2 ^ 32 * 2 ^ 32).natAbs < 2 ^ 200 := by
      have e1 : (2 : Nat) ^ 100 = 1267650600228229401496703205376 := by decide
      have e2 : (2 : Nat) ^ 200 = 1606938044258990275541962092341162602522202993782792835301376 := by decide
      rw [e1] at ha hb; rw [e2]; omega
    refine tell_call (g := fun j => (a + b) / 2 ^ j % 2) (O.glob G) hft hAd hdep (hWl _ O.fr.keep) hws (O.holds (lstC D its) (by simp)) M hk hun fun h₈ tk₈ u₈ keep₈ => ?_
    rw [tell_pretty (n := a + b) fun j _ => rfl]
    exact hQ _ _ _ fun b o e => keep₈ b o (O.fr.keep b o e)
end
end Mine
end

section
open PySem PySem.W PyProof.Rows PySem.Calls
namespace Mine

theorem Own.afterComp {h₀ h h' : Heap} {L R : Addr} {m m' : Str → Option Value} {fp wr : List Addr} {P : Heap → Prop} {kc : Cell} {cs : List Cell} {ys : Array Value} (O : Own h₀ L h m (⟨fp, P⟩ :: cs)) (hwr : ∀ b ∈ wr, b ∈ fp) (hns : h'.Ns L m')
    (hkeep : ∀ b o, b ≠ L → b ∉ wr → h.get? b = some o → h'.get? b = some o) (kok : kc.Ok) (kfp : ∀ b ∈ kc.fp, b ∈ fp ∧ b ∉ wr) (kP : kc.P h) (hR : h.get? R = none) (hpl : h'.PlainList R ys) : Own h₀ L h' m' (listC R ys :: kc :: cs) := by
  have hlv := O.live ⟨fp, P⟩ (by simp)
  have ap := List.pairwise_cons.mp O.apart
  have n0 : ∀ b o, h₀.get? b = some o → b ≠ L ∧ b ∉ wr := fun b o e =>
    ⟨Nat.ne_of_lt (Nat.lt_of_lt_of_le (Heap.lt_size e) O.fr.above), fun hm => by rw [(hlv b (hwr _ hm)).2.1] at e; cases e⟩
  have nc : ∀ c ∈ cs, ∀ b ∈ c.fp, b ≠ L ∧ b ∉ wr := fun c hc b hb => ⟨(O.live c (by simp [hc]) b hb).2.2, fun hm => ap.1 c hc b (hwr _ hm) hb⟩
  have nk : ∀ b ∈ kc.fp, b ≠ L ∧ b ∉ wr := fun b hb => ⟨(hlv b (kfp b hb).1).2.2, (kfp b hb).2⟩
  have RL : R ≠ L := by
    rintro rfl
    obtain ⟨o, e⟩ := O.size
    rw [hR] at e; cases e
  refine ⟨⟨hns, fun b o e => hkeep b o (n0 b o e).1 (n0 b o e).2 (O.fr.keep b o e), O.fr.above⟩, ?_, ?_, ?_, ?_⟩
  · intro c hc
    rcases List.mem_cons.mp hc with rfl | hc
    · exact hpl
    rcases List.mem_cons.mp hc with rfl | hc
    · exact kok _ h' kP fun b hb o e => hkeep b o (nk b hb).1 (nk b hb).2 e
    · exact O.ok c (by simp [hc]) _ h' (O.holds c (by simp [hc])) fun b hb o e => hkeep b o (nc c hc b hb).1 (nc c hc b hb).2 e
  · intro c hc
    rcases List.mem_cons.mp hc with rfl | hc
    · exact listC_ok
    rcases List.mem_cons.mp hc with rfl | hc
    · exact kok
    · exact O.ok c (by simp [hc])
  · intro c hc b hb
    rcases List.mem_cons.mp hc with rfl | hc
    · obtain rfl : b = R := by simpa [listC] using hb
      refine ⟨⟨_, hpl.choose_spec⟩, ?_, RL⟩
      cases e : h₀.get? b with
      | none => rfl
      | some o => have := O.fr.keep b o e; rw [hR] at this; cases this
    rcases List.mem_cons.mp hc with rfl | hc
    · obtain ⟨⟨o, e⟩, r⟩ := hlv b (kfp b hb).1
      exact ⟨⟨o, hkeep b o (nk b hb).1 (nk b hb).2 e⟩, r⟩
    · obtain ⟨⟨o, e⟩, r⟩ := O.live c (by simp [hc]) b hb
      exact ⟨⟨o, hkeep b o (nc c hc b hb).1 (nc c hc b hb).2 e⟩, r⟩
  · refine .cons (fun d hd b hb hb' => ?_) (.cons (fun d hd b hb hb' => ap.1 d hd b (kfp b hb).1 hb') ap.2)
    obtain rfl : b = R := by simpa [listC] using hb
    rcases List.mem_cons.mp hd with rfl | hd
    · obtain ⟨⟨o, e⟩, _⟩ := hlv b (kfp b hb').1
      rw [hR] at e; cases e
    · obtain ⟨⟨o, e⟩, _⟩ := O.live d (by simp [hd]) b hb'
      rw [hR] at e; cases e

theorem Own.join {h₀ h : Heap} {L : Addr} {m : Str → Option Value} {a b : Cell} {cs : List Cell} (O : Own h₀ L h m (a :: b :: cs)) : Own h₀ L h m (⟨a.fp ++ b.fp, fun h => a.P h ∧ b.P h⟩ :: cs) := by
  have ap := List.pairwise_cons.mp O.apart
  have ap2 := List.pairwise_cons.mp ap.2
  refine ⟨O.fr, ?_, ?_, ?_, ?_⟩
  · intro c hc
    rcases List.mem_cons.mp hc with rfl | hc
    · exact ⟨O.hd, O.snd⟩
    · exact O.holds c (by simp [hc])
  · intro c hc
    rcases List.mem_cons.mp hc with rfl | hc
    · exact fun h h' x k => ⟨O.ok a (by simp) h h' x.1 fun b hb o e => k b (List.mem_append.mpr (.inl hb)) o e, O.ok b (by simp) h h' x.2 fun b hb o e => k b (List.mem_append.mpr (.inr hb)) o e⟩
    · exact O.ok c (by simp [hc])
  · intro c hc x hx
    rcases List.mem_cons.mp hc with rfl | hc
    · rcases List.mem_append.mp hx with hx | hx
      · exact O.live a (by simp) x hx
      · exact O.live b (by simp) x hx
    · exact O.live c (by simp [hc]) x hx
  · refine .cons (fun d hd x hx hx' => ?_) ap2.2
    rcases List.mem_append.mp hx with hx | hx
    · exact ap.1 d (by simp [hd]) x hx hx'
    · exact ap2.1 d hd x hx hx'

def nilC : Cell := ⟨[], fun _ => True⟩
theorem nilC_ok : nilC.Ok := fun _ _ _ _ => trivial

section
variable {prog : Program} {w : World} {A : Around} {E : Value → Shared → Prop} {s : Shared} {env : Env} {L : Addr} {h₀ : Heap}

/-- [elt for x in iter if tests], in a function -/
theorem compKE {elt iter : Expr} {x : Str} {px : Pos} {ifs : List Expr} {cscope : Scope} {cl : List (Str × Addr)} {pos : Pos} {Q : Value → Shared → Prop} (kc : Cell) (p : Value → Bool) (F : Value → Value → Prop)
    (hclos : closureFor cscope env = pure cl) (hcell : ∀ z ∈ cscope.names, z.2 ≠ .cell) (hkind : cscope.kind = .function)
    (hnames : ∀ z ∈ cscope.names, z.2 = .local → cscope.names.lookup z.1 = some .local) (hx : cscope.names.lookup x = some .local) (kok : kc.Ok)
    (h : wpAny (model prog w) A (eval iter env) (fun xv s₁ => wpAny (model prog w) A (pyIter xv) (fun it s₂ => ∃ I fp wr n P St m cs, it = .ref I ∧ Walks prog w A I fp wr n P St ∧ n ≤ sizeLine ∧ Own h₀ L s₂.heap m (⟨fp, St 0⟩ :: cs) ∧
      (∀ b ∈ kc.fp, b ∈ fp ∧ b ∉ wr) ∧ kc.P s₂.heap ∧ QuietOnC prog w A env cscope cl x ifs elt wr P p F s₂ ∧
      (∀ R h' tk ys (vs : List Value), Own h₀ L h' m (listC R ys :: kc :: cs) → vs.length = n → (∀ j v, vs[j]? = some v → P j v) → Paired F (vs.filter p) ys.toList → Q (.ref R) { s₂ with heap := h', toks := tk })) E s₁) E s)
    (hs : ∀ x, foldedSetIterable iter env x = pure x) :
    wpAny (model prog w) A (eval (.ListComp elt [⟨.Name x px, iter, ifs, 0⟩] cscope pos) env) Q E s := by
  refine wpAny_ListComp_free p F hclos hcell hkind hnames hx (wpAny_mono h (fun xv s₁ h₁ => wpAny_mono h₁ (fun it s₂ h₂ => ?_) fun _ _ e => e) fun _ _ e => e) hs
  obtain ⟨I, fp, wr, n, P, St, m, cs, rfl, W, hsz, O, kfp, kP, hq, hQ⟩ := h₂
  have hlv := O.live ⟨fp, St 0⟩ (by simp)
  refine ⟨I, fp, wr, n, P, St, rfl, W, hsz, O.hd, fun b hb => let ⟨o, e⟩ := (hlv b hb).1; Heap.lt_size e, hq, fun R h' tk ys vs hR _ hpl hlen hP hF hkeep => ?_⟩
  have nL : L ∉ wr := fun hm => (hlv _ (W.sub _ hm)).2.2 rfl
  exact hQ R h' tk ys vs (O.afterComp W.sub (O.fr.ns.at fun o e => hkeep _ o nL e) (fun b o _ hw e => hkeep b o hw e) kok kfp kP hR hpl) hlen hP hF

/-- y = [elt for x in iter if tests], in a function; what the iterator only reads stays -/
theorem assign_compKE {elt iter : Expr} {x y : Str} {px py : Pos} {ifs : List Expr} {cscope : Scope} {cl : List (Str × Addr)} {pos spos : Pos} {Q : Flow → Shared → Prop} (kc : Cell) (p : Value → Bool) (F : Value → Value → Prop)
    (hsw : swapsWith (.ListComp elt [⟨.Name x px, iter, ifs, 0⟩] cscope pos) (some (.Name y py)) spos.line env = pure true)
    (hclos : closureFor cscope env = pure cl) (hcell : ∀ z ∈ cscope.names, z.2 ≠ .cell) (hkind : cscope.kind = .function)
    (hnames : ∀ z ∈ cscope.names, z.2 = .local → cscope.names.lookup z.1 = some .local) (hx : cscope.names.lookup x = some .local) (kok : kc.Ok)
    (hLe : env.locals = L) (hk : env.scope.kind = .function) (hy : env.kindOf y = some .local)
    (h : wpAny (model prog w) A (eval iter env) (fun xv s₁ => wpAny (model prog w) A (pyIter xv) (fun it s₂ => ∃ I fp wr n P St m cs, it = .ref I ∧ Walks prog w A I fp wr n P St ∧ n ≤ sizeLine ∧ Own h₀ L s₂.heap m (⟨fp, St 0⟩ :: cs) ∧
      (∀ b ∈ kc.fp, b ∈ fp ∧ b ∉ wr) ∧ kc.P s₂.heap ∧ QuietOnC prog w A env cscope cl x ifs elt wr P p F s₂ ∧
      (∀ R h' tk ys (vs : List Value), Own h₀ L h' (upd m y (.ref R)) (listC R ys :: kc :: cs) → vs.length = n → (∀ j v, vs[j]? = some v → P j v) → Paired F (vs.filter p) ys.toList → Q .next { s₂ with heap := h', toks := tk })) E s₁) E s)
    (hs : ∀ x, foldedSetIterable iter env x = pure x) :
    wpAny (model prog w) A (exec (.Assign [.Name y py] (.ListComp elt [⟨.Name x px, iter, ifs, 0⟩] cscope pos) spos) env) Q E s := by
  subst hLe
  refine wpAny_Assign_ListComp_free p F hsw hclos hcell hkind hnames hx hy (by rw [hk]; rfl) (wpAny_mono h (fun xv s₁ h₁ => wpAny_mono h₁ (fun it s₂ h₂ => ?_) fun _ _ e => e) fun _ _ e => e) hs
  obtain ⟨I, fp, wr, n, P, St, m, cs, rfl, W, hsz, O, kfp, kP, hq, hQ⟩ := h₂
  have hlv := O.live ⟨fp, St 0⟩ (by simp)
  have nL : env.locals ∉ wr := fun hm => (hlv _ (W.sub _ hm)).2.2 rfl
  refine ⟨I, fp, wr, n, P, St, m, rfl, W, hsz, O.hd, fun b hb => let ⟨o, e⟩ := (hlv b hb).1; Heap.lt_size e, nL, O.fr.ns, hq, fun R h' tk ys vs hR _ hpl hlen hP hF hns hkeep => ?_⟩
  exact hQ R h' tk ys vs (O.afterComp W.sub hns hkeep kok kfp kP hR hpl) hlen hP hF

/-- an iterator over an own list; the list stays readable -/
theorem listIterE {D : Addr} {items : Array Value} {m : Str → Option Value} {cs : List Cell} {Q : Value → Shared → Prop} (O : Own h₀ L s.heap m (lstC D items :: cs)) (hA : A.handled = none)
    (h : ∀ I h' , Own h₀ L h' m (⟨[I, D], fun h => h.IsListIter I D 0 ∧ h.IsList D items⟩ :: cs) → (∀ b o, s.heap.get? b = some o → h'.get? b = some o) → s.heap.get? I = none → D ≠ I →
      Walks prog w A I [I, D] [I] items.size (fun i v => items[i]? = some v) (fun i h => h.IsListIter I D i ∧ h.IsList D items) → h'.IsList D items → Q (.ref I) { s with heap := h' }) :
    wpAny (model prog w) A (pyIter (.ref D)) Q E s := by
  have hL : s.heap.IsList D items := O.hd
  refine wpAny_pyIter_list hL ?_
  obtain ⟨o, hD, _⟩ := id hL
  have hne : D ≠ s.heap.objs.size := Nat.ne_of_lt (Heap.lt_size hD)
  have W := Walks.list (prog := prog) (w := w) hA s.heap.objs.size D hne items
  have hst : (s.heap.push { cls := .type "list_iterator", data := .fields #[.ref D, .int 0 0] }).IsListIter s.heap.objs.size D 0 ∧ (s.heap.push { cls := .type "list_iterator", data := .fields #[.ref D, .int 0 0] }).IsList D items :=
    ⟨⟨_, Heap.get?_push_size _ rfl, rfl, rfl⟩, hL.push _⟩
  generalize hI : s.heap.objs.size = I at *
  refine h I _ ?_ (fun b o e => Heap.get?_push_of_some _ e) (none_at (Nat.le_of_eq hI)) hne W (hL.push _)
  have O' : Own h₀ L (s.heap.push { cls := .type "list_iterator", data := .fields #[.ref D, .int 0 0] }) m (⟨[I], fun h => h.IsListIter I D 0⟩ :: lstC D items :: cs) := by
    refine O.new (fun b o e => Heap.get?_push_of_some _ e) hst.1 (fun h h' x k => x.at fun o e => k I (by simp) o e) fun b hb => ?_
    rw [List.mem_singleton.mp hb]
    exact ⟨none_at (Nat.le_of_eq hI), hst.1.choose, hst.1.choose_spec.1⟩
  exact O'.join
end
end Mine
end

section
open PySem PySem.W PyProof.Rows PySem.Calls
namespace Mine

local macro_rules | `(tactic| walk_at "B") => `(tactic| with_reducible refine wpAny_BinOp ?_)
local macro_rules | `(tactic| walk_at "S") => `(tactic| with_reducible refine Calls.Constant_str ?_)
local macro_rules | `(tactic| walk_at "I") => `(tactic| with_reducible refine wpAny_Constant_int ?_)
local macro_rules | `(tactic| walk_at "U") => `(tactic| repeat (first | exact upd_same | assumption | refine (upd_ne (by decide)).trans ?_))
local macro_rules | `(tactic| walk_at "X") => `(tactic| with_reducible refine Subscript_ ?_)

theorem paired_get {α β : Type} {F : α → β → Prop} {l : List α} {r : List β} (h : Paired F l r) : l.length = r.length ∧ ∀ (j : Nat) (a : α), l[j]? = some a → ∃ b : β, r[j]? = some b ∧ F a b := by
  induction h with
  | nil => exact ⟨rfl, fun j a e => by simp at e⟩
  | cons h1 _ ih =>
    refine ⟨by simp [ih.1], fun j a e => ?_⟩
    cases j with
    | zero => simp only [List.getElem?_cons_zero, Option.some.injEq] at e ⊢; subst e; exact ⟨_, rfl, h1⟩
    | succ j => rw [List.getElem?_cons_succ] at e ⊢; exact ih.2 j a e

theorem marks_neg {items ys : Array Value} {vs : List Value} {f : Nat → Int} (M : Marks items f) (hl : vs.length = items.size) (hP : ∀ (j : Nat) (v : Value), vs[j]? = some v → items[j]? = some v)
    (hF : Paired (fun v y => ∃ i t u, v = Value.int i t ∧ y = Value.int (1 - i) u) (vs.filter fun _ => true) ys.toList) : Marks ys (fun j => 1 - f j) := by
  rw [List.filter_eq_self.mpr (fun _ _ => rfl)] at hF
  obtain ⟨h1, h2⟩ := paired_get hF
  have hs : ys.size = 32 := by rw [← Array.length_toList, ← h1, hl, M.1]
  refine ⟨hs, fun j hj => ?_⟩
  obtain ⟨t, ht⟩ := M.2 j hj
  have hlt : j < vs.length := by rw [hl, M.1]; exact hj
  have hv := hP j vs[j] (List.getElem?_eq_getElem hlt)
  obtain ⟨b, hb, i, t', u, e1, rfl⟩ := h2 j vs[j] (List.getElem?_eq_getElem hlt)
  rw [ht] at hv
  cases hv.trans (congrArg some e1)
  exact ⟨u, by rw [← Array.getElem?_toList]; exact hb⟩

theorem turn_place (a : Int) (j : Nat) : 1 - a / 2 ^ j % 2 = (-a - 1) / 2 ^ j % 2 := by
  have h : (-a - 1) / 2 ^ j = -(a / 2 ^ j) - 1 := by
    have hp := pow_pos2 j
    have e : -a - 1 = -(a / 2 ^ j) * 2 ^ j + (-(a % 2 ^ j) - 1) := by
      have := Int.mul_ediv_add_emod a (2 ^ j)
      rw [Int.neg_mul, Int.mul_comm]; omega
    rw [e, Int.add_comm, Int.add_mul_ediv_right _ _ (Int.ne_of_gt hp)]
    have : (-(a % 2 ^ j) - 1) / 2 ^ j = -1 := by
      have r1 := Int.emod_nonneg a (Int.ne_of_gt hp)
      have t1 := Int.emod_lt_of_pos a hp
      have e2 : -(a % 2 ^ j) - 1 = (2 ^ j - 1 - a % 2 ^ j) + (-1) * 2 ^ j := by omega
      rw [e2, Int.add_mul_ediv_right _ _ (Int.ne_of_gt hp), Int.ediv_eq_zero_of_lt (by omega) (by omega)]
      rfl
    rw [this]; omega
  rw [h]; omega
theorem turn_high (a : Int) : -(a / 2 ^ 32 * 2 ^ 32) - 2 ^ 32 = (-a - 1) / 2 ^ 32 * 2 ^ 32 := by omega

section
variable {w : World} {A : Around} {E : Value → Shared → Prop} {s : Shared} {env : Env} {L : Addr} {h₀ : Heap} {m : Str → Option Value} {cs : List Cell} {N : Nat} {mg mb : Str → Option Value}

set_option maxRecDepth 100000 in
set_option maxHeartbeats 4000000 in
theorem turned_call {f wl : Addr} {ws : List (Str × Tok)} {a : Int} {t : Tok} {Q : Value → Shared → Prop} (G : GB w N mg mb s.heap) (hf : mg "_law_turned" = some (.ref f))
   (hA : A.handled = none) (hroom : A.depth + 1 < recursionLimit) (hU : A.units + 6 < cLine) (hW : s.heap.IsList wl (strValues ws).toArray) (hws : ws.map (·.1) = words32) (ha : a.natAbs < 2 ^ 100)
   (hQ : ∀ h' tk u, (∀ b o, s.heap.get? b = some o → h'.get? b = some o) → Q (.str (prettyOf (-a - 1)) u) { s with heap := h', toks := tk }) :
   wpAny (model PySem.Challenge.pw_dm0070_02 w) A (call (.ref f) [.str (prettyOf a) t, .ref wl]) Q E s := by
  refine call_def (d := defAt PySem.Challenge.pw_dm0070_02 17) (binds := [("text", .str (prettyOf a) t), ("words", .ref wl)]) G.G (by simp [ds2]) (by rfl) hf (by omega) (fun _ _ _ => by rfl) (fun x hx => ?_) (fun h₁ tk cd O => ?_) (by decide +kernel) (by decide +kernel) (by decide +kernel) (by decide +kernel)
  · rcases List.mem_cons.mp hx with rfl | hx
    · exact (by decide +kernel : (defAt PySem.Challenge.pw_dm0070_02 17).scope.names.lookup ("text" : Str) = some .local)
    · rw [List.mem_singleton.mp hx]
      exact (by decide +kernel : (defAt PySem.Challenge.pw_dm0070_02 17).scope.names.lookup ("words" : Str) = some .local)
  have lo : ∀ x ∈ (["text", "words", "places", "high"] : List Str), (envOf (defAt PySem.Challenge.pw_dm0070_02 17).name (defAt PySem.Challenge.pw_dm0070_02 17).scope s.heap.objs.size f cd).kindOf x = some .local :=
    (by decide +kernel : ∀ x ∈ (["text", "words", "places", "high"] : List Str), (defAt PySem.Challenge.pw_dm0070_02 17).scope.names.lookup x = some .local)
  have gl : ∀ x ∈ (["_law_read", "_law_tell"] : List Str), (envOf (defAt PySem.Challenge.pw_dm0070_02 17).name (defAt PySem.Challenge.pw_dm0070_02 17).scope s.heap.objs.size f cd).kindOf x = some .globalImplicit :=
    (by decide +kernel : ∀ x ∈ (["_law_read", "_law_tell"] : List Str), (defAt PySem.Challenge.pw_dm0070_02 17).scope.names.lookup x = some .globalImplicit)
  have hkind : (envOf (defAt PySem.Challenge.pw_dm0070_02 17).name (defAt PySem.Challenge.pw_dm0070_02 17).scope s.heap.objs.size f cd).scope.kind = .function := (by decide +kernel : (defAt PySem.Challenge.pw_dm0070_02 17).scope.kind = .function)
  have hLe : (envOf (defAt PySem.Challenge.pw_dm0070_02 17).name (defAt PySem.Challenge.pw_dm0070_02 17).scope s.heap.objs.size f cd).locals = s.heap.objs.size := rfl
  have hGe : (envOf (defAt PySem.Challenge.pw_dm0070_02 17).name (defAt PySem.Challenge.pw_dm0070_02 17).scope s.heap.objs.size f cd).globals = mainGlobals := rfl
  have hAd : (A.deeper (envOf (defAt PySem.Challenge.pw_dm0070_02 17).name (defAt PySem.Challenge.pw_dm0070_02 17).scope s.heap.objs.size f cd)).handled = none := hA
  have hdep : (A.deeper (envOf (defAt PySem.Challenge.pw_dm0070_02 17).name (defAt PySem.Challenge.pw_dm0070_02 17).scope s.heap.objs.size f cd)).depth < recursionLimit := hroom
  have hun : (A.deeper (envOf (defAt PySem.Challenge.pw_dm0070_02 17).name (defAt PySem.Challenge.pw_dm0070_02 17).scope s.heap.objs.size f cd)).units + 3 < cLine := hU
  generalize hE : envOf (defAt PySem.Challenge.pw_dm0070_02 17).name (defAt PySem.Challenge.pw_dm0070_02 17).scope s.heap.objs.size f cd = env at *
  generalize A.deeper env = A' at *
  generalize hL : s.heap.objs.size = L at *
  generalize hm0 : (fun x : Str => List.lookup x ([("text", .str (prettyOf a) t), ("words", .ref wl)] : List (Str × Value)).reverse) = m0 at O
  have m_text : m0 "text" = some (.str (prettyOf a) t) := by rw [← hm0]; rfl
  have m_words : m0 "words" = some (.ref wl) := by rw [← hm0]; rfl
  clear hm0
  have hWl : ∀ h' : Heap, (∀ b o, s.heap.get? b = some o → h'.get? b = some o) → h'.IsList wl (strValues ws).toArray := fun h' k => hW.at fun o e => k _ o e
  have ha2 : a.natAbs < 2 ^ 150 := Nat.lt_trans ha (by decide)
  refine wpAny_execs_cons ?_
  with_reducible refine readE O G hAd hdep (hWl _ O.fr.keep) hws ha2 m_text m_words ?_ hLe hGe hkind (lo _ (by decide)) (lo _ (by decide)) (lo _ (by decide)) (lo _ (by decide)) (gl _ (by decide)) (by decide) (by with_unfolding_all rfl) (by with_unfolding_all rfl)
  intro h₂ tk₂ D items tH O₂ _ M₂
  dsimp only at *
  refine wpAny_execs_cons ?_
  refine wpAny_Return_some ?_
  obtain ⟨ft, hft⟩ := G.addr (d := defAt PySem.Challenge.pw_dm0070_02 15) (by simp [ds2]) (by rfl)
  have hft : mg "_law_tell" = some (.ref ft) := hft
  refine callGE (d := defAt PySem.Challenge.pw_dm0070_02 15) O₂ G (by simp [ds2]) (by rfl) (by rfl) hft ?_ hGe hkind (gl _ (by decide)) (by decide) (by rfl)
  refine args_cons ?_ (by rfl)
  refine compKE (h₀ := s.heap) (L := L) nilC (fun _ => true) (fun v y => ∃ i t u, v = Value.int i t ∧ y = Value.int (1 - i) u) (closureFor_none (by decide +kernel)) (by decide +kernel) (by decide +kernel) (by decide +kernel) (by decide +kernel) nilC_ok ?_ (fun _ => rfl)
  with_reducible refine ldE O₂ hLe (by walk_at "U") ?_ hkind (lo _ (by decide)) (by decide)
  refine listIterE O₂ hAd fun I h₃ O₃ keep₃ hI hne W hLi => ?_
  have hsz : items.size ≤ sizeLine := by rw [M₂.1, sizeLine_eq]; omega
  refine ⟨I, [I, D], [I], _, _, _, _, _, rfl, W, hsz, O₃, (fun b hb => nomatch hb), trivial, ⟨?_, ?_⟩, ?_⟩
  · intro C i v s₃ m₃ E' hC hv hns hmx hkp htk
    refine no_test ⟨rfl, s₃.heap, _, rfl, fun _ _ e => e⟩
  · intro C i v s₃ m₃ E' hC hv hp hns hmx hkp htk
    have hlt : i < 32 := by
      have := (Array.getElem?_eq_some_iff.mp hv).1
      rw [M₂.1] at this; exact this
    obtain ⟨tv, htv⟩ := M₂.2 i hlt
    rw [htv] at hv
    cases hv
    walk_at "B"; walk_at "I"
    refine wpAny_Name (wpAny_loadName_local rfl (by rfl) hns hmx ?_) (by decide)
    refine sub_int ⟨⟨_, _, _, rfl, rfl⟩, _, _, rfl, fun _ _ e => e⟩
  · intro R h₄ tk₄ ys vs O₄ hlen hP hF
    have M₄ := marks_neg M₂ hlen hP hF
    refine args_cons ?_ (by rfl)
    walk_at "B"
    with_reducible refine wpAny_UnaryOp ?_
    with_reducible refine ldE O₄ hLe (by walk_at "U") ?_ hkind (lo _ (by decide)) (by decide)
    refine P.neg_int ?_
    refine pow2 (n := 32) (by decide) fun tp tkp => ?_
    refine sub_int ?_
    rw [turn_high]
    refine args_cons ?_ (by rfl)
    with_reducible refine ldE O₄ hLe (by walk_at "U") ?_ hkind (lo _ (by decide)) (by decide)
    refine args_nil ⟨⟨_, _, O₄⟩, ?_⟩
    have hk : ((-a - 1) / 2 ^ 32 * 2 ^ 32).natAbs < 2 ^ 200 := by
      have e1 : (2 : Nat) ^ 100 = 1267650600228229401496703205376 := by decide
      have e2 : (2 : Nat) ^ 200 = 1606938044258990275541962092341162602522202993782792835301376 := by decide
      rw [e1] at ha; rw [e2]; omega
    have hl4 : h₄.PlainList R ys := O₄.hd
    refine tell_call (g := fun j => 1 - a / 2 ^ j % 2) (O₄.glob G) hft hAd hdep (hWl _ O₄.fr.keep) hws hl4.isList M₄ hk hun fun h₈ tk₈ u₈ keep₈ => ?_
    rw [tell_pretty (n := -a - 1) fun j _ => turn_place a j]
    exact hQ _ _ _ fun b o e => keep₈ b o (O₄.fr.keep b o e)
end
end Mine
end

section
open PySem PySem.W PyProof.Rows PySem.Calls
namespace Mine

theorem Own.toL {h₀ h : Heap} {L D : Addr} {m : Str → Option Value} {cs : List Cell} {items : Array Value} (O : Own h₀ L h m (listC D items :: cs)) : Own h₀ L h m (lstC D items :: cs) :=
  O.upd (fun _ _ _ e => e) O.list.isList lstC_ok (fun _ x => x) (fun b hb => (O.live (listC D items) (by simp) b hb).1)

section
variable {prog : Program} {w : World} {A : Around} {E : Value → Shared → Prop} {s : Shared} {env : Env} {L : Addr} {h₀ : Heap} {m : Str → Option Value} {cs : List Cell}

/-- two lists in one -/
theorem add_listsE {l b : Addr} {vs ws : List Value} {Q : Value → Shared → Prop} (O : Own h₀ L s.heap m cs) (hl : s.heap.IsList l vs.toArray) (hb : s.heap.IsList b ws.toArray) (hsz : vs.length + ws.length ≤ sizeLine)
    (h : ∀ D h', Own h₀ L h' m (listC D (vs ++ ws).toArray :: cs) → Q (.ref D) { s with heap := h' }) :
    wpAny (model prog w) A (binaryOp .Add (.ref l) (.ref b)) Q E s := by
  obtain ⟨⟨cls, dd, data, sl⟩, ho, hc, n, hd⟩ := id hl
  obtain ⟨⟨cls2, dd2, data2, sl2⟩, ho2, hc2, n2, hd2⟩ := id hb
  simp only at hc hd hc2 hd2
  subst hc hd hc2 hd2
  have e : vs.toArray ++ ws.toArray = (vs ++ ws).toArray := by simp
  refine concat_meets ⟨_, ho, rfl⟩ ⟨_, ho2, rfl⟩ noFill_list_add seq_list_add PySem.F.slot_list_add PySem.F.entry_list_add (PySem.F.args_list_add_2 _ _) (list_addW l b vs.toArray ws.toArray n n2 dd dd2 sl sl2 (by simpa using hsz)) ⟨ho, ho2, ?_⟩
  rw [e]
  refine h _ _ (O.new (fun b o e => Heap.get?_push_of_some _ e) ⟨_, Heap.get?_push_size _ rfl⟩ listC_ok fun b hb => ?_)
  obtain rfl : b = s.heap.objs.size := by simpa [listC] using hb
  exact ⟨none_at (Nat.le_refl _), _, Heap.get?_push_size _ rfl⟩

/-- x[:j] of a local list -/
theorem listToE {x : Str} {l : Addr} {vs : List Value} {j : Nat} {k : Nat} {p p1 sp pos : Pos} {Q : Value → Shared → Prop} (O : Own h₀ L s.heap m cs) (hLe : env.locals = L) (hv : m x = some (.ref l)) (hl : s.heap.IsList l vs.toArray) (hsz : vs.length ≤ 2000)
    (h : ∀ D h' tk, Own h₀ L h' m (listC D (vs.take j).toArray :: cs) → Q (.ref D) { s with heap := h', toks := tk })
    (hk : env.scope.kind = .function) (hx : env.kindOf x = some .local) (hd : (x == ("__debug__" : Str)) = false) :
    wpAny (model prog w) A (eval (.Subscript (.Name x p1) (.Slice none (some (.Constant (.int j) k p)) none sp) pos) env) Q E s := by
  refine Subscript_ (ldE O hLe hv (wpAny_Slice (evalPart_none_step (evalPart_some_step (wpAny_Constant_int (evalPart_none_step ?_))))) hk hx hd)
  generalize hs' : ({ s with toks := s.toks + 1 } : Shared) = s'
  have hh : s'.heap = s.heap := by rw [← hs']
  have O' : Own h₀ L s'.heap m cs := hh ▸ O
  have hl' : s'.heap.IsList l vs.toArray := hh ▸ hl
  have hq : ∀ D h', Own h₀ L h' m (listC D (vs.take j).toArray :: cs) → Q (.ref D) { s' with heap := h' } := fun D h' O'' => by rw [← hs']; exact h D h' _ O''
  refine subscriptTail_ops (ops := [.ref s'.heap.objs.size, .ref l]) (Heap.IsList.typeIs (s := { s' with heap := s'.heap.push { cls := .type "slice", data := .fields #[.none, .int j _, .none] } }) (hl'.push _)) list_getitem_lookup
    (wpAny_getItem_list_slice (hl'.push _) (Heap.IsSliceOf.new ..) .none (.int j _) .none (by simp) ?_ (by rw [sizeLine_eq]; simp; omega)) (by with_unfolding_all rfl) (by intro _; with_unfolding_all rfl)
  have et : (slicePick vs.toArray none (some (j : Int)) none) = (vs.take j).toArray := slicePick_upto' _ j
  rw [et]
  have O1 := O'.keep (h' := s'.heap.push { cls := .type "slice", data := .fields #[.none, .int j s.toks, .none] }) fun b o e => Heap.get?_push_of_some _ e
  refine hq _ _ (O1.new (fun b o e => Heap.get?_push_of_some _ e) ⟨_, Heap.get?_push_size _ rfl⟩ listC_ok fun b hb => ?_)
  obtain rfl := List.mem_singleton.mp hb
  exact ⟨none_at (Nat.le_refl _), _, Heap.get?_push_size _ rfl⟩
end
end Mine
end

section
open PySem PySem.W PyProof.Rows PySem.Calls
namespace Mine

local macro_rules | `(tactic| walk_at "B") => `(tactic| with_reducible refine wpAny_BinOp ?_)
local macro_rules | `(tactic| walk_at "S") => `(tactic| with_reducible refine Calls.Constant_str ?_)
local macro_rules | `(tactic| walk_at "I") => `(tactic| with_reducible refine wpAny_Constant_int ?_)
local macro_rules | `(tactic| walk_at "U") => `(tactic| repeat (first | exact upd_same | assumption | refine (upd_ne (by decide)).trans ?_))
local macro_rules | `(tactic| walk_at "X") => `(tactic| with_reducible refine Subscript_ ?_)

theorem pretty_zero : prettyOf 0 = Str.ofString "0x0" := by decide +kernel
theorem pretty_one : prettyOf 1 = Str.ofString "OPTIMIZED" := by decide +kernel
def cutOf (n : Int) : Int := if n < 0 then -((n.natAbs : Int) % 2 ^ 60) else (n.natAbs : Int) % 2 ^ 60
theorem cut_small (n : Int) : (cutOf n).natAbs < 2 ^ 60 := by
  have e : (2 : Nat) ^ 60 = 1152921504606846976 := by decide
  unfold cutOf
  rw [e]
  split <;> omega
theorem ints_at {vs : List Value} {ns : List Int} (h : IntsAre vs ns) : ∀ {i : Nat} {v : Value}, vs[i]? = some v → ∃ n t, v = .int n t := by
  induction h with
  | nil => intro i v e; simp at e
  | cons n t _ ih =>
    intro i v e
    cases i with
    | zero => simp only [List.getElem?_cons_zero, Option.some.injEq] at e; exact ⟨n, t, e.symm⟩
    | succ i => rw [List.getElem?_cons_succ] at e; exact ih e

section
variable {w : World} {A : Around} {E : Value → Shared → Prop} {s : Shared} {env : Env} {L : Addr} {h₀ : Heap} {m : Str → Option Value} {cs : List Cell} {N : Nat} {mg mb : Str → Option Value}

/-- pretty_flags of an int that an expression gives -/
theorem prettyE {e : Expr} {p pos : Pos} {Q : Value → Shared → Prop} (O : Own h₀ L s.heap m cs) (G : GB w N mg mb h₀) (hA : A.handled = none) (hroom : A.depth < recursionLimit)
    (h : wpAny (model PySem.Challenge.pw_dm0070_02 w) A (eval e env) (fun v s₁ => ∃ n t m cs, v = .int n t ∧ n.natAbs < 2 ^ 200 ∧ Own h₀ L s₁.heap m cs ∧ ∀ h' tk u, Own h₀ L h' m cs → Q (.str (prettyOf n) u) { s₁ with heap := h', toks := tk }) E s)
    (hg : env.globals = mainGlobals) (hk : env.scope.kind = .function) (hx : env.kindOf "pretty_flags" = some .globalImplicit) (he : starEach [e] env = [(false, eval e env)]) :
    wpAny (model PySem.Challenge.pw_dm0070_02 w) A (eval (.Call (.Name "pretty_flags" p) [e] [] pos) env) Q E s := by
  obtain ⟨fp, hfp⟩ := G.addr (d := defAt PySem.Challenge.pw_dm0070_02 11) (by simp [ds2]) (by rfl)
  have hfp : mg "pretty_flags" = some (.ref fp) := hfp
  refine callGE (d := defAt PySem.Challenge.pw_dm0070_02 11) O G (by simp [ds2]) (by rfl) (by rfl) hfp ?_ hg hk hx (by decide) he
  refine args_cons (wpAny_mono h (fun v s₁ hv => ?_) fun _ _ x => x) he
  obtain ⟨n, t, m', cs', rfl, hn, O', hq⟩ := hv
  refine args_nil ⟨⟨_, _, O'⟩, ?_⟩
  exact pretty_call (O'.glob G) hfp hA hroom hn fun h' tk u keep => hq h' tk u (O'.keep keep)

set_option maxRecDepth 100000 in
set_option maxHeartbeats 4000000 in
theorem law_call {f sl : Addr} {vs : List Value} {ns : List Int} {Q : Value → Shared → Prop} (G : GB w N mg mb s.heap) (hf : mg "law" = some (.ref f))
   (hA : A.handled = none) (hroom : A.depth + 2 < recursionLimit) (hU : A.units + 9 < cLine) (hS : s.heap.IsList sl vs.toArray) (hI : IntsAre vs ns) (hlen : ns.length ≤ 63)
   (hQ : ∀ h' tk, (∀ b o, s.heap.get? b = some o → h'.get? b = some o) → Q (.bool true) { s with heap := h', toks := tk }) :
   wpAny (model PySem.Challenge.pw_dm0070_02 w) A (call (.ref f) [.ref sl]) Q E s := by
  refine call_def (d := defAt PySem.Challenge.pw_dm0070_02 18) (binds := [("script", .ref sl)]) G.G (by simp [ds2]) (by rfl) hf (by omega) (fun _ _ _ => by rfl) (fun x hx => ?_) (fun h₁ tk cd O => ?_) (by decide +kernel) (by decide +kernel) (by decide +kernel) (by decide +kernel)
  · rw [List.mem_singleton.mp hx]
    exact (by decide +kernel : (defAt PySem.Challenge.pw_dm0070_02 18).scope.names.lookup ("script" : Str) = some .local)
  have lo : ∀ x ∈ (["script", "words", "running", "total", "n", "number", "text"] : List Str), (envOf (defAt PySem.Challenge.pw_dm0070_02 18).name (defAt PySem.Challenge.pw_dm0070_02 18).scope s.heap.objs.size f cd).kindOf x = some .local :=
    (by decide +kernel : ∀ x ∈ (["script", "words", "running", "total", "n", "number", "text"] : List Str), (defAt PySem.Challenge.pw_dm0070_02 18).scope.names.lookup x = some .local)
  have gl : ∀ x ∈ (["_law_words", "abs", "pretty_flags", "_law_add", "_law_turned"] : List Str), (envOf (defAt PySem.Challenge.pw_dm0070_02 18).name (defAt PySem.Challenge.pw_dm0070_02 18).scope s.heap.objs.size f cd).kindOf x = some .globalImplicit :=
    (by decide +kernel : ∀ x ∈ (["_law_words", "abs", "pretty_flags", "_law_add", "_law_turned"] : List Str), (defAt PySem.Challenge.pw_dm0070_02 18).scope.names.lookup x = some .globalImplicit)
  have hkind : (envOf (defAt PySem.Challenge.pw_dm0070_02 18).name (defAt PySem.Challenge.pw_dm0070_02 18).scope s.heap.objs.size f cd).scope.kind = .function := (by decide +kernel : (defAt PySem.Challenge.pw_dm0070_02 18).scope.kind = .function)
  have hLe : (envOf (defAt PySem.Challenge.pw_dm0070_02 18).name (defAt PySem.Challenge.pw_dm0070_02 18).scope s.heap.objs.size f cd).locals = s.heap.objs.size := rfl
  have hGe : (envOf (defAt PySem.Challenge.pw_dm0070_02 18).name (defAt PySem.Challenge.pw_dm0070_02 18).scope s.heap.objs.size f cd).globals = mainGlobals := rfl
  have hBe : (envOf (defAt PySem.Challenge.pw_dm0070_02 18).name (defAt PySem.Challenge.pw_dm0070_02 18).scope s.heap.objs.size f cd).builtins = builtinsNs := rfl
  have hAd : (A.deeper (envOf (defAt PySem.Challenge.pw_dm0070_02 18).name (defAt PySem.Challenge.pw_dm0070_02 18).scope s.heap.objs.size f cd)).handled = none := hA
  have hdep : (A.deeper (envOf (defAt PySem.Challenge.pw_dm0070_02 18).name (defAt PySem.Challenge.pw_dm0070_02 18).scope s.heap.objs.size f cd)).depth + 1 < recursionLimit := hroom
  have hun : (A.deeper (envOf (defAt PySem.Challenge.pw_dm0070_02 18).name (defAt PySem.Challenge.pw_dm0070_02 18).scope s.heap.objs.size f cd)).units + 6 < cLine := hU
  generalize hE : envOf (defAt PySem.Challenge.pw_dm0070_02 18).name (defAt PySem.Challenge.pw_dm0070_02 18).scope s.heap.objs.size f cd = env at *
  generalize A.deeper env = A' at *
  generalize hL : s.heap.objs.size = L at *
  generalize hm0 : (fun x : Str => List.lookup x ([("script", .ref sl)] : List (Str × Value)).reverse) = m0 at O
  have m_script : m0 "script" = some (.ref sl) := by rw [← hm0]; rfl
  clear hm0
  have hdep0 : A'.depth < recursionLimit := Nat.lt_of_succ_lt hdep
  obtain ⟨fw, hfw⟩ := G.addr (d := defAt PySem.Challenge.pw_dm0070_02 13) (by simp [ds2]) (by rfl)
  have hfw : mg "_law_words" = some (.ref fw) := hfw
  obtain ⟨fa, hfa⟩ := G.addr (d := defAt PySem.Challenge.pw_dm0070_02 16) (by simp [ds2]) (by rfl)
  have hfa : mg "_law_add" = some (.ref fa) := hfa
  obtain ⟨ft, hft⟩ := G.addr (d := defAt PySem.Challenge.pw_dm0070_02 17) (by simp [ds2]) (by rfl)
  have hft : mg "_law_turned" = some (.ref ft) := hft
  refine wpAny_execs_cons ?_
  refine wpAny_Assign_Name ?_ (by with_unfolding_all rfl)
  refine callGE0 (d := defAt PySem.Challenge.pw_dm0070_02 13) O G (by simp [ds2]) (by rfl) (by rfl) hfw ?_ hGe hkind (gl _ (by decide)) (by decide)
  refine words_call (O.glob G) hfw hAd hdep0 fun h₂ tk₂ wl ws keep₂ hwl hws hwn => ?_
  have O₂ : Own s.heap L h₂ m0 [lstC wl (strValues ws).toArray] := O.newList hwn keep₂ hwl.isList
  with_reducible refine stE O₂ hLe (fun h₃ tk₃ O₃ => ?_) hkind (lo _ (by decide))
  dsimp only at *
  refine wpAny_execs_cons ?_
  refine wpAny_Assign_Name ?_ (by with_unfolding_all rfl)
  walk_at "S"
  rw [← pretty_zero]
  with_reducible refine stE O₃ hLe (fun h₄ tk₄ O₄ => ?_) hkind (lo _ (by decide))
  refine wpAny_execs_cons ?_
  refine wpAny_Assign_Name ?_ (by with_unfolding_all rfl)
  walk_at "I"
  with_reducible refine stE O₄ hLe (fun h₅ tk₅ O₅ => ?_) hkind (lo _ (by decide))
  dsimp only at *
  refine wpAny_execs_cons ?_
  refine forListE (h₀ := s.heap) (L := L) hAd (fun i m cs => ∃ (tot : Int) (t u : Tok), m "words" = some (.ref wl) ∧ m "running" = some (.str (prettyOf tot) t) ∧ m "total" = some (.int tot u) ∧ tot.natAbs ≤ i * 2 ^ 60 ∧ i ≤ 100 ∧ cs = [lstC wl (strValues ws).toArray]) (fun m cs => True) ?_ hLe hkind (lo _ (by decide)) (fun _ => by with_unfolding_all rfl)
  have hvl : vs.length ≤ 63 := by rw [hI.length]; exact hlen
  walk_at "B"
  rw [arm_eval_List]
  refine wpAny_bind (wpAny_standAt (wpAny_bind ?_))
  refine args_cons ?_ (by rfl)
  walk_at "I"
  refine args_cons ?_ (by rfl)
  walk_at "I"
  refine args_cons ?_ (by rfl)
  with_reducible refine wpAny_UnaryOp ?_
  walk_at "I"
  refine P.neg_int ?_
  refine args_nil ?_
  refine newListE O₅ (by simp) fun D₁ h₆ O₆ _ => ?_
  have hs6 : h₆.IsList sl vs.toArray := hS.at fun o e => O₆.fr.keep _ o e
  refine listToE (j := 5) O₆ hLe (by walk_at "U") hs6 (by omega) (fun D₂ h₇ tk₇ O₇ => ?_) hkind (lo _ (by decide)) (by decide)
  have hl1 : h₇.IsList D₁ _ := (O₇.snd : h₇.PlainList D₁ _).isList
  have hl2 : h₇.IsList D₂ _ := (O₇.hd : h₇.PlainList D₂ _).isList
  refine add_listsE O₇ hl1 hl2 (by rw [sizeLine_eq]; simp; omega) fun D₃ h₈ O₈ => ?_
  have O₈ := O₈.swap.drop.swap.drop.toL
  have hI3 : IntsAre ([Value.int 6 tk₅, Value.int 6 (tk₅ + 1), Value.int (-5) (tk₅ + 1 + 1 + 1)] ++ vs.take 5) ([6, 6, -5] ++ ns.take 5) := .cons _ _ (.cons _ _ (.cons _ _ (hI.take 5)))
  refine ⟨D₃, _, _, _, rfl, O₈, ⟨0, _, _, by walk_at "U", by walk_at "U", by walk_at "U", by simp, by omega, rfl⟩, ?_, ?_, ?_⟩
  · rintro i m cs I v h tk hv ⟨tot, t, u, p1, p2, p3, p4, p5, rfl⟩ O
    have hi8 : i < 8 := by
      have := (Array.getElem?_eq_some_iff.mp hv).1
      simp at this; omega
    obtain ⟨n, tn, rfl⟩ := ints_at hI3 (i := i) (by simpa using hv)
    have q1 : upd m "n" (.int n tn) "words" = some (.ref wl) := (upd_ne (by decide)).trans p1
    have q2 : upd m "n" (.int n tn) "running" = some (.str (prettyOf tot) t) := (upd_ne (by decide)).trans p2
    have q3 : upd m "n" (.int n tn) "total" = some (.int tot u) := (upd_ne (by decide)).trans p3
    have q4 : upd m "n" (.int n tn) "n" = some (.int n tn) := upd_same
    have hcs := cut_small n
    generalize upd m "n" (.int n tn) = m1 at *
    refine wpAny_execs_cons ?_
    refine wpAny_Assign_Name ?_ (by with_unfolding_all rfl)
    walk_at "B"
    refine Call_Name1 ?_ rfl
    with_reducible refine ldBE O G (v := .builtin "abs") (by with_unfolding_all rfl) ?_ (by decide +kernel) (by decide) (by decide) hGe hBe hkind (gl _ (by decide)) (by decide)
    refine PySem.callWith_builtin1 ?_
    with_reducible refine ldE O hLe q4 ?_ hkind (lo _ (by decide)) (by decide)
    refine call_abs_int fun u₆ tk₆ => ?_
    have ea : (if n < 0 then -n else n) = (n.natAbs : Int) := by split <;> omega
    rw [ea]
    refine pow2 (n := 60) (by decide) fun tp tkp => ?_
    with_reducible refine PyProof.Rows.mod_int (by decide) ?_
    rw [Int.fmod_eq_emod_of_nonneg _ (by decide)]
    with_reducible refine stE O hLe (fun h₉ tk₉ O₉ => ?_) hkind (lo _ (by decide))
    dsimp only at *
    refine seqR (fun s' => ∃ h' tk' m' tc, s' = { s with heap := h', toks := tk' } ∧ m' "words" = some (.ref wl) ∧ m' "running" = some (.str (prettyOf tot) t) ∧ m' "total" = some (.int tot u) ∧ m' "number" = some (.int (cutOf n) tc) ∧
      Own s.heap L h' m' (⟨[I, D₃], fun h => h.IsListIter I D₃ (i + 1) ∧ h.IsList D₃ ([Value.int 6 tk₅, Value.int 6 (tk₅ + 1), Value.int (-5) (tk₅ + 1 + 1 + 1)] ++ vs.take 5).toArray⟩ :: [lstC wl (strValues ws).toArray])) ?_ ?_
    · refine wpAny_If ?_
      with_reducible refine wpAny_isTrue_Compare1 ?_ (by with_unfolding_all rfl)
      with_reducible refine ldE O₉ hLe ((upd_ne (by decide)).trans q4) ?_ hkind (lo _ (by decide)) (by decide)
      walk_at "I"
      with_reducible refine P.lt_int ?_
      with_reducible refine wpAny_truthy_bool ?_
      by_cases hneg : n < 0
      · rw [decide_eq_true hneg, if_pos rfl]
        refine wpAny_execs_cons ?_
        refine wpAny_Assign_Name ?_ (by with_unfolding_all rfl)
        with_reducible refine wpAny_UnaryOp ?_
        with_reducible refine ldE O₉ hLe upd_same ?_ hkind (lo _ (by decide)) (by decide)
        refine P.neg_int ?_
        with_reducible refine stE O₉ hLe (fun h₁₀ tk₁₀ O₁₀ => ?_) hkind (lo _ (by decide))
        have ec : -((n.natAbs : Int) % 2 ^ 60) = cutOf n := by unfold cutOf; rw [if_pos hneg]
        rw [ec] at O₁₀
        exact wpAny_execs_nil ⟨rfl, _, _, _, _, rfl, by walk_at "U", by walk_at "U", by walk_at "U", upd_same, O₁₀⟩
      · rw [decide_eq_false hneg, if_neg (by simp)]
        have ec : (n.natAbs : Int) % 2 ^ 60 = cutOf n := by unfold cutOf; rw [if_neg hneg]
        rw [ec] at O₉
        exact wpAny_execs_nil ⟨rfl, _, _, _, _, rfl, by walk_at "U", by walk_at "U", by walk_at "U", upd_same, O₉⟩
    · rintro s' ⟨h', tk', m', tc, rfl, r1, r2, r3, r4, O'⟩
      generalize cutOf n = num at *
      have e60 : (2 : Nat) ^ 60 = 1152921504606846976 := by decide
      have e100 : (2 : Nat) ^ 100 = 1267650600228229401496703205376 := by decide
      have hn100 : num.natAbs < 2 ^ 100 := by rw [e100]; rw [e60] at hcs; omega
      have ht100 : tot.natAbs < 2 ^ 100 := by rw [e100]; rw [e60] at p4; omega
      have hs100 : (tot + num).natAbs < 2 ^ 100 := by rw [e100]; rw [e60] at p4 hcs; omega
      have big : ∀ z : Int, z.natAbs < 2 ^ 100 → z.natAbs < 2 ^ 200 := fun z hz => Nat.lt_trans hz (by decide)
      have wlAt : ∀ {hz : Heap} {mz : Str → Option Value} {c : Cell}, Own s.heap L hz mz (c :: [lstC wl (strValues ws).toArray]) → hz.IsList wl (strValues ws).toArray := fun Oz => Oz.snd
      refine wpAny_execs_cons ?_
      refine wpAny_Assign_Name ?_ (by with_unfolding_all rfl)
      refine prettyE O' G hAd hdep0 ?_ hGe hkind (gl _ (by decide)) (by rfl)
      with_reducible refine ldE O' hLe r4 ?_ hkind (lo _ (by decide)) (by decide)
      refine ⟨_, _, _, _, rfl, big _ hn100, O', fun h₁₁ tk₁₁ u₁₁ O₁₁ => ?_⟩
      with_reducible refine stE O₁₁ hLe (fun h₁₂ tk₁₂ O₁₂ => ?_) hkind (lo _ (by decide))
      dsimp only at *
      refine wpAny_execs_cons ?_
      refine wpAny_Assign_Name ?_ (by with_unfolding_all rfl)
      refine callGE (d := defAt PySem.Challenge.pw_dm0070_02 16) O₁₂ G (by simp [ds2]) (by rfl) (by rfl) hfa ?_ hGe hkind (gl _ (by decide)) (by decide) (by rfl)
      refine args_cons ?_ (by rfl)
      with_reducible refine ldE O₁₂ hLe ((upd_ne (by decide)).trans r2) ?_ hkind (lo _ (by decide)) (by decide)
      refine args_cons ?_ (by rfl)
      with_reducible refine ldE O₁₂ hLe upd_same ?_ hkind (lo _ (by decide)) (by decide)
      refine args_cons ?_ (by rfl)
      with_reducible refine ldE O₁₂ hLe ((upd_ne (by decide)).trans r1) ?_ hkind (lo _ (by decide)) (by decide)
      refine args_nil ⟨⟨_, _, O₁₂⟩, ?_⟩
      refine add_call (O₁₂.glob G) hfa hAd hdep hun (wlAt O₁₂) hws ht100 hn100 fun h₁₃ tk₁₃ u₁₃ keep₁₃ => ?_
      have O₁₃ := O₁₂.keep keep₁₃
      with_reducible refine stE O₁₃ hLe (fun h₁₄ tk₁₄ O₁₄ => ?_) hkind (lo _ (by decide))
      dsimp only at *
      refine wpAny_execs_cons ?_
      refine wpAny_AugAssign_Name ?_
      with_reducible refine ldnE O₁₄ hLe ((upd_ne (by decide)).trans ((upd_ne (by decide)).trans r3)) ?_ hkind (lo _ (by decide))
      with_reducible refine ldE O₁₄ hLe ((upd_ne (by decide)).trans ((upd_ne (by decide)).trans r4)) ?_ hkind (lo _ (by decide)) (by decide)
      refine iadd_int ?_
      with_reducible refine stE O₁₄ hLe (fun h₁₅ tk₁₅ O₁₅ => ?_) hkind (lo _ (by decide))
      dsimp only at *
      generalize hm5 : upd (upd (upd m' "text" (Value.str (prettyOf num) u₁₁)) "running" (Value.str (prettyOf (tot + num)) u₁₃)) "total" _ = m5 at O₁₅
      have k1 : m5 "words" = some (.ref wl) := by rw [← hm5]; walk_at "U"
      have k2 : m5 "running" = some (.str (prettyOf (tot + num)) u₁₃) := by rw [← hm5]; walk_at "U"
      have k3 : ∃ t3, m5 "total" = some (.int (tot + num) t3) := ⟨_, by rw [← hm5]; exact upd_same⟩
      have k4 : m5 "number" = some (.int num tc) := by rw [← hm5]; walk_at "U"
      have k5 : m5 "text" = some (.str (prettyOf num) u₁₁) := by rw [← hm5]; walk_at "U"
      obtain ⟨t3, k3⟩ := k3
      clear hm5 O₁₄ O₁₃ O₁₂ O'
      refine wpAny_execs_cons ?_
      refine wpAny_If ?_
      with_reducible refine wpAny_isTrue_Compare1 ?_ (by with_unfolding_all rfl)
      with_reducible refine ldE O₁₅ hLe k2 ?_ hkind (lo _ (by decide)) (by decide)
      refine prettyE O₁₅ G hAd hdep0 ?_ hGe hkind (gl _ (by decide)) (by rfl)
      with_reducible refine ldE O₁₅ hLe k3 ?_ hkind (lo _ (by decide)) (by decide)
      refine ⟨_, _, _, _, rfl, big _ hs100, O₁₅, fun h₁₆ tk₁₆ u₁₆ O₁₆ => ?_⟩
      refine P.ne_str (wpAny_truthy_bool ?_)
      rw [bne_self_eq_false, if_neg (by simp)]
      refine wpAny_execs_nil ?_
      dsimp only
      refine wpAny_execs_cons ?_
      refine wpAny_If ?_
      with_reducible refine wpAny_isTrue_Compare1 ?_ (by with_unfolding_all rfl)
      refine callGE (d := defAt PySem.Challenge.pw_dm0070_02 16) O₁₆ G (by simp [ds2]) (by rfl) (by rfl) hfa ?_ hGe hkind (gl _ (by decide)) (by decide) (by rfl)
      refine args_cons ?_ (by rfl)
      refine callGE (d := defAt PySem.Challenge.pw_dm0070_02 17) O₁₆ G (by simp [ds2]) (by rfl) (by rfl) hft ?_ hGe hkind (gl _ (by decide)) (by decide) (by rfl)
      refine args_cons ?_ (by rfl)
      with_reducible refine ldE O₁₆ hLe k5 ?_ hkind (lo _ (by decide)) (by decide)
      refine args_cons ?_ (by rfl)
      with_reducible refine ldE O₁₆ hLe k1 ?_ hkind (lo _ (by decide)) (by decide)
      refine args_nil ⟨⟨_, _, O₁₆⟩, ?_⟩
      refine turned_call (O₁₆.glob G) hft hAd hdep hun (wlAt O₁₆) hws hn100 fun h₁₇ tk₁₇ u₁₇ keep₁₇ => ?_
      have O₁₇ := O₁₆.keep keep₁₇
      refine args_cons ?_ (by rfl)
      walk_at "S"
      rw [← pretty_one]
      refine args_cons ?_ (by rfl)
      with_reducible refine ldE O₁₇ hLe k1 ?_ hkind (lo _ (by decide)) (by decide)
      refine args_nil ⟨⟨_, _, O₁₇⟩, ?_⟩
      have hneg100 : (-num - 1).natAbs < 2 ^ 100 := by rw [e100]; rw [e60] at hcs; omega
      refine add_call (O₁₇.glob G) hfa hAd hdep hun (wlAt O₁₇) hws hneg100 (by decide) fun h₁₈ tk₁₈ u₁₈ keep₁₈ => ?_
      have O₁₈ := O₁₇.keep keep₁₈
      refine prettyE O₁₈ G hAd hdep0 ?_ hGe hkind (gl _ (by decide)) (by rfl)
      with_reducible refine wpAny_UnaryOp ?_
      with_reducible refine ldE O₁₈ hLe k4 ?_ hkind (lo _ (by decide)) (by decide)
      refine P.neg_int ?_
      refine ⟨_, _, _, _, rfl, by rw [Int.natAbs_neg]; exact big _ hn100, O₁₈, fun h₁₉ tk₁₉ u₁₉ O₁₉ => ?_⟩
      refine P.ne_str (wpAny_truthy_bool ?_)
      have ev : -num - 1 + 1 = -num := by omega
      rw [ev, bne_self_eq_false, if_neg (by simp)]
      refine wpAny_execs_nil (wpAny_execs_nil ⟨_, _, _, _, rfl, ⟨tot + num, _, _, k1, k2, k3, ?_, by omega, rfl⟩, O₁₉⟩)
      rw [e60] at p4 hcs ⊢
      omega
  · intro m cs h tk hi O
    exact wpAny_execs_nil ⟨h, tk, m, cs, rfl, trivial, O⟩
  · intro m cs h tk hi O
    dsimp only
    refine wpAny_execs_cons ?_
    refine wpAny_Return_some ?_
    exact Constant_bool (hQ _ _ O.fr.keep)
end
end Mine
end

section
open PySem PySem.W PyProof.Rows PySem.Calls
namespace Mine
theorem call2 : CallLaw PySem.Challenge.rw_dm0070_02 ([defAt PySem.Challenge.pw_dm0070_02 11] ++ ds2) (Objs PySem.Challenge.pw_dm0070_02) names2 := by
  refine ⟨fun w s N mg mb f a items ns G hf hg hsys hl hi hlen => ?_⟩
  exact @law_call w callerA _ s N mg mb f a items ns _ ⟨G⟩ hf rfl (by decide +kernel) (by decide +kernel) hl hi hlen fun h' tk keep => ⟨rfl, ⟨h', tk, rfl⟩, keep⟩
end Mine
theorem PySem.Challenge.cw_dm0070_02_holds : PySem.Challenge.rw_dm0070_02.Holds :=
  Mine.reduced2 Mine.call2
end
