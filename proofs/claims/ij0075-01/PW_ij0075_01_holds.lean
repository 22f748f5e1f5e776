import PyProof.Rows.All
import Wide.All
import OpenK.AllK
import Wide.FinOn
import Lean
import PySem.Challenge.RW_ij0075_01
set_option Elab.async false
set_option linter.unusedVariables false
section
open PySem PySem.W PyProof.Rows
namespace Mine
set_option maxRecDepth 100000 in
set_option maxHeartbeats 8000000 in
open_top hd for PySem.Challenge.rw_ij0075_01
end Mine
end
section
open PySem PySem.W PyProof.Rows PySem.Builtin.Str
namespace Mine
/-- replace on lists of signs: k signs are skipped first -/
def rpg (y z : List Nat) : Nat → List Nat → List Nat
  | _, [] => []
  | k + 1, _ :: r => rpg y z k r
  | 0, c :: r => if y.isPrefixOf (c :: r) then z ++ rpg y z (y.length - 1) r else c :: rpg y z 0 r
theorem rpg_nil (y z : List Nat) (k : Nat) : rpg y z k [] = [] := by cases k <;> rfl
theorem rpg_skip (y z : List Nat) : ∀ (k : Nat) (l : List Nat), rpg y z k l = rpg y z 0 (l.drop k)
  | 0, _ => rfl
  | _ + 1, [] => rfl
  | k + 1, _ :: r => rpg_skip y z k r
theorem rpg_hit {y z : List Nat} (hw : 1 ≤ y.length) {l : List Nat} (h : y.isPrefixOf l = true) : rpg y z 0 l = z ++ rpg y z 0 (l.drop y.length) := by
  cases l with
  | nil =>
    cases y with
    | nil => simp at hw
    | cons a b => simp at h
  | cons c r =>
    show (if y.isPrefixOf (c :: r) then z ++ rpg y z (y.length - 1) r else c :: rpg y z 0 r) = _
    rw [if_pos h, rpg_skip]
    have e : y.length = (y.length - 1) + 1 := by omega
    conv => rhs; rw [e]
    rfl
theorem rpg_miss {y z : List Nat} {c : Nat} {r : List Nat} (h : ¬ y.isPrefixOf (c :: r) = true) : rpg y z 0 (c :: r) = c :: rpg y z 0 r := by
  show (if y.isPrefixOf (c :: r) then z ++ rpg y z (y.length - 1) r else c :: rpg y z 0 r) = _
  rw [if_neg h]
theorem at_iff {x y : Str} (hw : 1 ≤ y.length) (i : Nat) : StrLaws.At x y x.length i ↔ y.cps.toList.isPrefixOf (x.cps.toList.drop i) = true := by
  have hy : y.cps.toList.length = y.length := by simp [Str.length]
  have hx : x.cps.toList.length = x.length := by simp [Str.length]
  unfold StrLaws.At
  rw [StrLaws.subAt_eq, List.isPrefixOf_iff_prefix, List.prefix_iff_eq_take, hy, beq_iff_eq]
  constructor
  · exact fun h => h.2.symm
  · intro h
    refine ⟨?_, h.symm⟩
    have := congrArg List.length h
    simp only [hy, List.length_take, List.length_drop, hx] at this
    omega
theorem rpg_gap {x y : Str} (z : List Nat) (hw : 1 ≤ y.length) : ∀ (n a : Nat), a + n ≤ x.length → (∀ k, a ≤ k → k < a + n → ¬ StrLaws.At x y x.length k) →
    rpg y.cps.toList z 0 (x.cps.toList.drop a) = (x.cps.toList.drop a).take n ++ rpg y.cps.toList z 0 (x.cps.toList.drop (a + n))
  | 0, a, _, _ => by simp
  | n + 1, a, hn, hk => by
    have hx : x.cps.toList.length = x.length := by simp [Str.length]
    have hlt : a < x.cps.toList.length := by omega
    have e := List.drop_eq_getElem_cons hlt
    have h0 : ¬ y.cps.toList.isPrefixOf (x.cps.toList.drop a) = true := fun h => hk a (Nat.le_refl _) (by omega) ((at_iff hw a).mpr h)
    rw [e] at h0 ⊢
    rw [rpg_miss h0, rpg_gap z hw n (a + 1) (by omega) (fun k h1 h2 => hk k (by omega) (by omega)), List.take_succ_cons, List.cons_append]
    have e2 : a + 1 + n = a + (n + 1) := by omega
    rw [e2]
theorem rpg_chain {x y : Str} (z : Str) (hw : 1 ≤ y.length) : ∀ (cuts : List Nat) (a f : Nat), StrLaws.ChainG x y x.length a cuts f → (∀ k, f ≤ k → ¬ StrLaws.At x y x.length k) → a ≤ x.length →
    (Str.join z (StrLaws.partsFrom x y.length a cuts)).cps.toList = rpg y.cps.toList z.cps.toList 0 (x.cps.toList.drop a)
  | [], a, f, h, hn, ha => by
    have e : f = a := h
    subst e
    have hx : x.cps.toList.length = x.length := by simp [Str.length]
    rw [rpg_gap z.cps.toList hw (x.length - f) f (by omega) (fun k h1 _ => hn k h1)]
    have e2 : f + (x.length - f) = x.cps.toList.length := by omega
    rw [e2, List.drop_length, rpg_nil, List.append_nil]
    exact StrLaws.strSub_toList x f x.length
  | c :: r, a, f, h, hn, ha => by
    obtain ⟨hac, hAt, hgap, hrest⟩ := h
    have hy : y.cps.toList.length = y.length := by simp [Str.length]
    have hb := hAt.1
    have ih := rpg_chain z hw r (c + y.length) f hrest hn hb
    obtain ⟨p, q, e⟩ := StrLaws.partsFrom_ne x y.length (c + y.length) r
    show (Str.join z (strSub x a c :: StrLaws.partsFrom x y.length (c + y.length) r)).cps.toList = _
    rw [rpg_gap z.cps.toList hw (c - a) a (by omega) (fun k h1 h2 => hgap k h1 (by omega))]
    have e2 : a + (c - a) = c := by omega
    rw [e2, rpg_hit (by rw [hy]; exact hw) ((at_iff hw c).mp hAt), hy, List.drop_drop, ← ih, e]
    show (strSub x a c ++ z ++ Str.join z (p :: q)).cps.toList = _
    simp only [Str.cps_append, Array.toList_append, StrLaws.strSub_toList, List.append_assoc]
theorem rpg_replace (x : Str) {y : Str} (z : Str) (hw : 1 ≤ y.length) : (Txt.replace x y z).cps.toList = rpg y.cps.toList z.cps.toList 0 x.cps.toList := by
  obtain ⟨f, hG, hn⟩ := StrLaws.occ_tight x y hw
  have hc := rpg_chain z hw _ 0 f hG hn (Nat.zero_le _)
  rw [List.drop_zero] at hc
  unfold Txt.replace
  split
  · rename_i h
    rw [Bool.or_eq_true] at h
    rcases h with h | h
    · rw [List.isEmpty_iff.mp h] at hc
      rw [← hc]
      show _ = (strSub x 0 x.length).cps.toList
      rw [StrLaws.sub_whole]
    · rw [Bool.and_eq_true, beq_iff_eq] at h
      omega
  · rw [StrLaws.glued_eq_join, StrLaws.partsBetween_eq]
    exact hc
theorem rpg_len {y z : List Nat} (hz : z.length ≤ y.length) : ∀ (l : List Nat) (k : Nat), (rpg y z k l).length ≤ l.length - k
  | [], k => by rw [rpg_nil]; simp
  | c :: r, k + 1 => by
    have := rpg_len hz r k
    show (rpg y z k r).length ≤ _
    simp only [List.length_cons]
    omega
  | c :: r, 0 => by
    show (if y.isPrefixOf (c :: r) then z ++ rpg y z (y.length - 1) r else c :: rpg y z 0 r).length ≤ _
    split
    · rename_i h
      have h1 := (List.isPrefixOf_iff_prefix.mp h).length_le
      have := rpg_len hz r (y.length - 1)
      simp only [List.length_append, List.length_cons] at h1 ⊢
      omega
    · have := rpg_len hz r 0
      simp only [List.length_cons]
      omega
/-- a single sign replaced -/
theorem rpg_one (c : Nat) (z : List Nat) : ∀ l : List Nat, rpg [c] z 0 l = l.flatMap fun d => if d = c then z else [d]
  | [] => rfl
  | d :: r => by
    have ih := rpg_one c z r
    rw [List.flatMap_cons, ← ih]
    by_cases h : d = c
    · subst h
      have h1 : ([d] : List Nat).isPrefixOf (d :: r) = true := by simp [List.isPrefixOf]
      rw [rpg_hit (y := [d]) (Nat.le_refl 1) h1, if_pos rfl]
      rfl
    · have h1 : ¬ ([c] : List Nat).isPrefixOf (d :: r) = true := by
        simp [List.isPrefixOf]
        exact fun e => h e.symm
      rw [rpg_miss h1, if_neg h]
      rfl
theorem rpg_flat {y z : List Nat} {f g : Nat → List Nat} : ∀ l : List Nat, (∀ a ∈ l, ∀ r, rpg y z 0 (f a ++ r) = g a ++ rpg y z 0 r) → rpg y z 0 (l.flatMap f) = l.flatMap g
  | [], _ => rfl
  | a :: l, h => by
    rw [List.flatMap_cons, List.flatMap_cons, h a (List.mem_cons_self ..), rpg_flat l fun b hb => h b (List.mem_cons_of_mem _ hb)]
/-- the signs as they are written -/
def esc (q : Bool) (a : Nat) : List Nat :=
  if a = 38 then [38, 97, 109, 112, 59] else if a = 62 then [38, 103, 116, 59] else if a = 60 then [38, 108, 116, 59] else if a = 10 then [38, 35, 49, 48, 59]
  else if a = 13 then [38, 35, 49, 51, 59] else if a = 9 then [38, 35, 57, 59] else if q = true ∧ a = 34 then [38, 113, 117, 111, 116, 59] else [a]
theorem esc_len (q : Bool) (a : Nat) : (esc q a).length ≤ 6 := by
  unfold esc
  repeat' split
  all_goals exact Nat.le_of_ble_eq_true rfl
theorem flat_len (f : Nat → List Nat) (hf : ∀ a, (f a).length ≤ 6) : ∀ l : List Nat, (l.flatMap f).length ≤ 6 * l.length
  | [] => Nat.le_refl _
  | a :: r => by
    have := flat_len f hf r
    have := hf a
    rw [List.flatMap_cons, List.length_append, List.length_cons]
    omega
end Mine
end
section
open PySem PySem.W PyProof.Rows PySem.Calls
namespace Mine
/-- a dict object with its entries written out -/
abbrev dob (es : List DictEntry) (n : Nat) : Obj := { cls := .type "dict", data := .dict es.toArray n }
/-- an entry: a value under a text -/
abbrev ent (w : World) (p : Str × Tok × Value) : DictEntry := ⟨hashStr w p.1, .str p.1 p.2.1, p.2.2⟩
section
variable {prog : Program} {w : World} {A : Around} {E : Value → Shared → Prop} {s : Shared}
theorem ent_is (p : Str × Tok × Value) : (PySem.strKind prog w).is p.1 (ent w p).key = true := by
  show Value.isStrOf p.1 (.str p.1 p.2.1) = true
  simp [Value.isStrOf]
theorem ent_keys (ps : List (Str × Tok × Value)) : KeysOf (PySem.strKind prog w) (ps.map (ent w)).toArray := by
  intro e he
  obtain ⟨p, _, rfl⟩ := List.mem_map.mp (List.mem_toArray.mp he)
  exact ⟨p.1, ent_is p, rfl⟩
theorem ent_new {ps : List (Str × Tok × Value)} {k : Str} (h : k ∉ ps.map (·.1)) : ((ps.map (ent w)).toArray.findIdx? fun e => (PySem.strKind prog w).is k e.key) = none := by
  simp only [List.findIdx?_toArray, List.findIdx?_eq_none_iff]
  intro e he
  obtain ⟨p, hp, rfl⟩ := List.mem_map.mp he
  show Value.isStrOf k (.str p.1 p.2.1) = false
  simp only [Value.isStrOf, beq_eq_false_iff_ne]
  exact fun e => h (List.mem_map.mpr ⟨p, hp, e⟩)
theorem dset_new {d : Addr} {ps : List (Str × Tok × Value)} {n : Nat} {k : Str} {t : Tok} {v : Value} {Q : Unit → Shared → Prop} (ho : s.heap.get? d = some (dob (ps.map (ent w)) n))
    (hf : k ∉ ps.map (·.1)) (hz : ps.length ≤ 10)
    (hQ : ∀ h', Heap.SameBut d s.heap h' → h'.get? d = some (dob ((ps ++ [(k, t, v)]).map (ent w)) (n + 1)) → Q () { s with heap := h', toks := s.toks + 1 }) :
    wpAny (model prog w) A (dictSet d (.str k t) v) Q E s := by
  unfold dictSet
  refine wpAny_holding ?_
  refine wpAny_bind ((PySem.strKind prog w).pyHash (ent_is (k, t, v)) ?_)
  unfold dictSetHashed
  refine wpAny_holding ?_
  refine wpAny_bind (wpAny_dictFind_of (s := { s with toks := s.toks + 1 }) (ent_is (k, t, v)) ho rfl (ent_keys ps) ?_)
  rw [ent_new hf]
  refine wpAny_bind (wpAny_rule ?_)
  refine wpAny_updateDictKeys (s := { s with toks := s.toks + 1 }) ho rfl ?_ (by rw [sizeLine_eq]; simp; omega) (by simp)
  refine hQ _ (Heap.SameBut.update ..) (Heap.get?_update_self _ ho rfl |>.trans ?_)
  simp [Obj.mapDictKeys, dob]
  rfl
theorem dput_new {d : Addr} {ps : List (Str × Tok × Value)} {n : Nat} {k : Str} {t : Tok} {v : Value} {Q : Unit → Shared → Prop} (ho : s.heap.get? d = some (dob (ps.map (ent w)) n))
    (hf : k ∉ ps.map (·.1)) (hz : ps.length ≤ 10)
    (hQ : ∀ h', Heap.SameBut d s.heap h' → h'.get? d = some (dob ((ps ++ [(k, t, v)]).map (ent w)) (n + 1)) → Q () { s with heap := h' }) :
    wpAny (model prog w) A (dictPut d (hashStr w k) (.str k t) v) Q E s := by
  unfold dictPut
  refine wpAny_bind (wpAny_dictFind_of (knd := PySem.strKind prog w) (ent_is (k, t, v)) ho rfl (ent_keys ps) ?_)
  rw [ent_new hf]
  refine wpAny_updateDictKeys ho rfl ?_ (by rw [sizeLine_eq]; simp; omega) (by simp)
  refine hQ _ (Heap.SameBut.update ..) (Heap.get?_update_self _ ho rfl |>.trans ?_)
  simp [Obj.mapDictKeys, dob]
theorem store_new {d : Addr} : ∀ (qs ps : List (Str × Tok × Value)) (n : Nat) (s : Shared) {Q : PUnit → Shared → Prop}, s.heap.get? d = some (dob (ps.map (ent w)) n) →
    ((ps ++ qs).map (·.1)).Nodup → (ps ++ qs).length ≤ 10 →
    (∀ h', Heap.SameBut d s.heap h' → h'.get? d = some (dob ((ps ++ qs).map (ent w)) (n + qs.length)) → Q ⟨⟩ { s with heap := h', toks := s.toks + qs.length }) →
    wpAny (model prog w) A (storeAll d (qs.map fun q => (.str q.1 q.2.1, q.2.2))) Q E s
  | [], ps, n, s, Q, ho, _, _, hQ => by
    unfold storeAll
    rw [List.map_nil, List.forIn_nil]
    exact wpAny_pure (by simpa using hQ s.heap (Heap.SameBut.refl _ _) (by simpa using ho))
  | (k, t, v) :: qs, ps, n, s, Q, ho, hn, hz, hQ => by
    unfold storeAll
    rw [List.map_cons, List.forIn_cons]
    have hf : k ∉ ps.map (·.1) := by
      rw [List.map_append, List.nodup_append] at hn
      exact fun h => hn.2.2 k h k (by simp) rfl
    refine wpAny_bind (wpAny_bind (dset_new ho hf (by simp at hz; omega) fun h₁ hs₁ h₁o => wpAny_pure ?_))
    refine store_new qs (ps ++ [(k, t, v)]) (n + 1) { s with heap := h₁, toks := s.toks + 1 } h₁o (by simpa using hn) (by simpa using hz) fun h' hs' ho' => ?_
    have := hQ h' (hs₁.trans hs') (by simpa [Nat.add_assoc, Nat.add_comm 1] using ho')
    simpa [Nat.add_assoc, Nat.add_comm 1] using this

theorem merge_loop {d a : Addr} (had : a ≠ d) {ps : List (Str × Tok × Value)} {np : Nat} (hn : (ps.map (·.1)).Nodup) {f : Nat → PUnit → Sem (ForInStep PUnit)}
    (hf : ∀ (i : Nat) (x : Str × Tok × Value) (s : Shared) {Q' : ForInStep PUnit → Shared → Prop}, (ps.map (ent w)).toArray[i]? = some (ent w x) → i < ps.length → x.1 ∉ (ps.take i).map (·.1) →
      s.heap.get? a = some (dob (ps.map (ent w)) np) → s.heap.get? d = some (dob ((ps.take i).map (ent w)) i) →
      (∀ h₁, Heap.SameBut d s.heap h₁ → h₁.get? d = some (dob ((ps.take i ++ [x]).map (ent w)) (i + 1)) → h₁.get? a = some (dob (ps.map (ent w)) np) → Q' (.yield ⟨⟩) { s with heap := h₁ }) →
      wpAny (model prog w) A (f i ⟨⟩) Q' E s) :
    ∀ (k i : Nat) (s : Shared) {Q : PUnit → Shared → Prop}, i + k = ps.length → s.heap.get? a = some (dob (ps.map (ent w)) np) → s.heap.get? d = some (dob ((ps.take i).map (ent w)) i) →
    (∀ h', Heap.SameBut d s.heap h' → h'.get? d = some (dob (ps.map (ent w)) ps.length) → Q ⟨⟩ { s with heap := h' }) →
    wpAny (model prog w) A (forIn (List.range' i k) PUnit.unit f) Q E s
  | 0, i, s, Q, hi, _, ho, hQ => by
    rw [List.range'_zero, List.forIn_nil]
    have e : i = ps.length := by omega
    subst e
    rw [List.take_length] at ho
    exact wpAny_pure (hQ s.heap (Heap.SameBut.refl _ _) ho)
  | k + 1, i, s, Q, hi, ha, ho, hQ => by
    rw [List.range'_succ, List.forIn_cons]
    have hlt : i < ps.length := by omega
    obtain ⟨⟨kk, t, v⟩, hx⟩ : ∃ p, ps[i]? = some p := ⟨ps[i], by simp [hlt]⟩
    have htk : ps.take (i + 1) = ps.take i ++ [(kk, t, v)] := by rw [List.take_add_one, hx]; rfl
    have hfr : kk ∉ (ps.take i).map (·.1) := by
      have h2 : ((ps.take (i + 1)).map (·.1)).Nodup := by
        rw [List.map_take]; exact hn.sublist (List.take_sublist _ _)
      rw [htk, List.map_append, List.nodup_append] at h2
      exact fun h => h2.2.2 kk h kk (by simp) rfl
    have hx' : (ps.map (ent w)).toArray[i]? = some (ent w (kk, t, v)) := by simp [hx]
    refine wpAny_bind (hf i (kk, t, v) s hx' hlt hfr ha ho fun h₁ hs₁ h₁o ha₁ => ?_)
    refine merge_loop had hn hf k (i + 1) { s with heap := h₁ } (by omega) ha₁ (by rw [htk]; exact h₁o) fun h' hs' ho' => ?_
    exact hQ h' (hs₁.trans hs') ho'
theorem looks_idle {f : DictEntry → PUnit → Sem (ForInStep PUnit)} : ∀ (ps : List (Str × Tok × Value)) {Q : PUnit → Shared → Prop} (_ : ∀ p u, f (ent w p) u = pure (.yield ⟨⟩)) (_ : Q ⟨⟩ s),
    wpAny (model prog w) A (forIn (ps.map (ent w)) PUnit.unit f) Q E s
  | [], Q, _, h => by rw [List.map_nil, List.forIn_nil]; exact wpAny_pure h
  | p :: ps, Q, hf, h => by
    rw [List.map_cons, List.forIn_cons, hf]
    exact wpAny_bind (wpAny_pure (looks_idle ps hf h))
theorem merge_new {d a : Addr} (had : a ≠ d) (hm : (a == sysModules) = false) {ps : List (Str × Tok × Value)} {np : Nat} (hz : ps.length ≤ 10) (hn : (ps.map (·.1)).Nodup)
    {Q : Unit → Shared → Prop} (ha : s.heap.get? a = some (dob (ps.map (ent w)) np)) (ho : s.heap.get? d = some (dob [] 0))
    (hQ : ∀ h', Heap.SameBut d s.heap h' → h'.get? d = some (dob (ps.map (ent w)) ps.length) → Q ⟨⟩ { s with heap := h' }) :
    wpAny (model prog w) A (mergeMapping d (.ref a) false) Q E s := by
  have hT : s.TypeIs (.ref a) "dict" := ⟨_, ha, rfl⟩
  unfold mergeMapping
  refine wpAny_bind (wpAny_isInstance hT isSubtype_dict_dict ?_)
  simp only [if_true]
  refine wpAny_bind (wpAny_specialOf hT F.slot_dict_iter.lookup (wpAny_bind (wpAny_pure ?_)))
  simp only [beq_self_eq_true]
  rw [hm]
  simp only [Bool.false_eq_true, if_false]
  refine wpAny_bind (wpAny_dictEntries ho rfl ?_)
  simp only [List.isEmpty_toArray, List.isEmpty_nil, if_true]
  refine wpAny_bind (wpAny_dictEntries ha rfl ?_)
  rw [List.forIn_toArray]
  refine wpAny_bind (looks_idle ps (fun p u => rfl) ?_)
  refine wpAny_bind (wpAny_dictEntries ha rfl ?_)
  refine wpAny_bind (wpAny_dictEpoch ha rfl ?_)
  rw [List.range_eq_range']
  refine wpAny_bind ?_
  refine merge_loop (s := s) had hn (fun i x s₁ Q' hx hlt hfr ha₀ ho₀ k => ?_) _ 0 (by simp) ha (by simpa using ho) fun h' hs' ho' => wpAny_pure (hQ h' hs' ho')
  refine wpAny_bind (wpAny_dictEntries ha₀ rfl ?_)
  simp only [hx]
  refine wpAny_bind (wpAny_holding ?_)
  refine dput_new ho₀ hfr (by simp; omega) fun h₁ hs₁ h₁o => ?_
  have ha₁ : h₁.get? a = some (dob (ps.map (ent w)) np) := (hs₁.2 a had).trans ha₀
  refine wpAny_bind (wpAny_dictEpoch ha₁ rfl ?_)
  simp only [bne_self_eq_false, Bool.false_eq_true, if_false]
  exact wpAny_pure (k h₁ hs₁ h₁o ha₁)
/-- a display of texts under texts, no star -/
theorem subDict_new {pairs : List (Sem Value × Sem Value)} {qs : List (Str × Tok × Value)} {k : Nat} {Q : Addr → Shared → Prop} (hlen : pairs.length ≤ 15) (hn : (qs.map (·.1)).Nodup) (hz : qs.length ≤ 10)
    (hp : ∀ (s₀ : Shared) {Q' : List (Value × Value) → Shared → Prop}, s₀.toks = s.toks → Q' (qs.map fun q => (.str q.1 q.2.1, q.2.2)) { s₀ with toks := s₀.toks + k } → wpAny (model prog w) A (evalPairs pairs) Q' E s₀)
    (h : ∀ h', h'.get? s.heap.objs.size = some (dob (qs.map (ent w)) qs.length) → Heap.SameBut s.heap.objs.size (s.heap.push (dob [] 0)) h' → Q s.heap.objs.size { s with heap := h', toks := s.toks + k + qs.length }) :
    wpAny (model prog w) A (subDict pairs) Q E s := by
  refine wpAny_subDict_any hlen (hp _ rfl ?_)
  refine store_new qs [] 0 _ (Heap.get?_push_size _ rfl) (by simpa using hn) (by simpa using hz) fun h' hs' ho' => ?_
  exact h h' (by simpa using ho') hs'

section
variable {env : Env} {h₀ : Heap} {L : Addr} {m : Str → Option Value} {news : List (Addr × Obj)}
theorem disp_new {keys : List (Option Expr)} {values : List Expr} {pos : Pos} {qs : List (Str × Tok × Value)} {k : Nat} {Q : Value → Shared → Prop} (F : Fr h₀ L s.heap m) (N : News h₀ L s.heap news) (hbig : h₀.NoLimit)
    (hall : keys.all (·.isSome) = true) (hl : keys.length = values.length) (h0 : keys ≠ []) (hlen : keys.length ≤ 15) (hn : (qs.map (·.1)).Nodup) (hz : qs.length ≤ 10)
    (hp : ∀ (s₀ : Shared) {Q' : List (Value × Value) → Shared → Prop}, s₀.toks = s.toks → Q' (qs.map fun q => (.str q.1 q.2.1, q.2.2)) { s₀ with toks := s₀.toks + k } → wpAny (model prog w) A (evalPairs (pairTrees keys values env pos)) Q' E s₀)
    (h : ∀ d h', Fr h₀ L h' m → News h₀ L h' ((d, dob (qs.map (ent w)) qs.length) :: news) → (∀ p ∈ news, p.1 < d) → (d == sysModules) = false → Q (.ref d) { s with heap := h', toks := s.toks + k + qs.length }) :
    wpAny (model prog w) A (eval (.Dict keys values pos) env) Q E s := by
  refine wpAny_Dict_any hall hl h0 hlen (hp _ rfl ?_)
  refine store_new qs [] 0 _ (Heap.get?_push_size _ rfl) (by simpa using hn) (by simpa using hz) fun h' hs' ho' => ?_
  have hs2 : Heap.SameBut s.heap.objs.size (s.heap.push (dob [] 0)) h' := hs'
  have ho2 : h'.get? s.heap.objs.size = some (dob (qs.map (ent w)) qs.length) := by simpa using ho'
  have hk : ∀ b o, s.heap.get? b = some o → h'.get? b = some o := fun b o e => hs2.extBut b o (Nat.ne_of_lt (Heap.lt_size e)) (Heap.get?_push_of_some _ e)
  exact h _ h' (F.keeps hk) (news_pushed F N hk ho2 rfl) (fun p hp => Heap.lt_size (N p hp).1) (F.notModules (modules_low hbig))
theorem gather_on {d : Addr} (f : (Option (Sem Value) × Sem Value) → (Option Addr × List (Sem Value × Sem Value)) → Sem (ForInStep (Option Addr × List (Sem Value × Sem Value))))
    (hf : ∀ (p : Sem Value × Sem Value) (run : List (Sem Value × Sem Value)), run.length + 1 < 17 → f (some p.1, p.2) (some d, run) = pure (.yield (some d, run ++ [p]))) :
    ∀ (items run : List (Sem Value × Sem Value)), run.length + items.length < 17 → forIn (items.map fun p => (some p.1, p.2)) ((some d : Option Addr), run) f = pure (some d, run ++ items)
  | [], run, _ => by simp
  | p :: rest, run, h => by
    rw [List.map_cons, List.forIn_cons, hf p run (by simp at h; omega), pure_bind]
    have := gather_on f hf rest (run ++ [p]) (by simp at h ⊢; omega)
    simpa using this
theorem star_new {v0 : Expr} {keys : List (Option Expr)} {values : List Expr} {pos : Pos} {qs : List (Str × Tok × Value)} {k n0 : Nat} {a : Addr} {Q : Value → Shared → Prop} (F : Fr h₀ L s.heap m) (N : News h₀ L s.heap news) (hbig : h₀.NoLimit)
    (hall : keys.all (·.isSome) = true) (hl : keys.length = values.length) (h0 : keys ≠ []) (hlen : keys.length ≤ 15) (hn : (qs.map (·.1)).Nodup) (hz : qs.length ≤ 10)
    (ha : h₀.get? a = some (dob [] n0)) (ham : (a == sysModules) = false)
    (hv : ∀ (s₀ : Shared) {Q' : Value → Shared → Prop}, Fr h₀ L s₀.heap m → Q' (.ref a) s₀ → wpAny (model prog w) A (eval v0 env) Q' E s₀)
    (hp : ∀ (s₀ : Shared) {Q' : List (Value × Value) → Shared → Prop}, s₀.toks = s.toks → Q' (qs.map fun q => (.str q.1 q.2.1, q.2.2)) { s₀ with toks := s₀.toks + k } → wpAny (model prog w) A (evalPairs (pairTrees keys values env pos)) Q' E s₀)
    (h : ∀ d h', Fr h₀ L h' m → News h₀ L h' ((d, dob (qs.map (ent w)) qs.length) :: news) → (∀ p ∈ news, p.1 < d) → (d == sysModules) = false → Q (.ref d) { s with heap := h', toks := s.toks + k + qs.length }) :
    wpAny (model prog w) A (eval (.Dict (none :: keys) (v0 :: values) pos) env) Q E s := by
  have hnk := pairTrees_length keys values env pos hall hl
  have hp0 : pairTrees keys values env pos ≠ [] := by
    intro he
    rw [he] at hnk
    exact h0 (List.length_eq_zero_iff.mp hnk.symm)
  have hzip : (evalEachOpt (none :: keys) env).zip ((evalEach (v0 :: values) env).map fun v => (do let x ← v; standAt pos; pure x : Sem Value)) =
      (none, do let x ← eval v0 env; standAt pos; pure x) :: (pairTrees keys values env pos).map fun p => (some p.1, p.2) := by
    rw [← zip_pairTrees keys values env pos hall hl]
    rfl
  rw [arm_eval_Dict, hzip]
  refine wpAny_bind (wpAny_standAt ?_)
  unfold dictDisplay
  dsimp only
  rw [List.forIn_cons]
  refine wpAny_bind (wpAny_bind ?_)
  simp only [List.isEmpty_nil, if_true]
  refine wpAny_bind (wpAny_pure ?_)
  dsimp only
  refine wpAny_bind (wpAny_alloc ?_)
  have F1 : Fr h₀ L (s.heap.push (dob [] 0)) m := F.push _
  have N1 := news_pushed (D := s.heap.objs.size) (o := dob [] 0) (h' := s.heap.push (dob [] 0)) F N (fun b o e => Heap.get?_push_of_some _ e) (Heap.get?_push_size _ rfl) rfl
  have hlt := fun p hp => Heap.lt_size (N p hp).1
  have hnm := F.notModules (modules_low hbig)
  refine wpAny_bind (wpAny_holding (wpAny_bind (hv { s with heap := s.heap.push (dob [] 0) } F1 (wpAny_bind (wpAny_standAt (wpAny_pure ?_))))))
  have had : a ≠ s.heap.objs.size := Nat.ne_of_lt (Heap.lt_size (F.keep _ _ ha))
  refine wpAny_bind (wpAny_onRaise (wpAny_tryCatch (wpAny_onRaise (wpAny_holding ?_))))
  refine merge_new (s := { s with heap := s.heap.push (dob [] 0) }) (ps := []) had ham (by simp) (by simp) (Heap.get?_push_of_some _ (F.keep _ _ ha)) (Heap.get?_push_size _ rfl) fun h₁ hs₁ h₁o => ?_
  refine wpAny_pure ?_
  dsimp only
  rw [gather_on _ (fun p run h => by
    have hne : ((run ++ [(p.1, p.2)]).length == 17) = false := by simp; omega
    simp only [hne, Bool.false_eq_true, if_false]) (pairTrees keys values env pos) [] (by simp; omega)]
  refine wpAny_pure ?_
  have hpe : (pairTrees keys values env pos).isEmpty = false := by simpa using hp0
  simp only [List.nil_append, hpe, Bool.false_eq_true, if_false]
  have hk1 : ∀ b o, s.heap.get? b = some o → h₁.get? b = some o := fun b o e => hs₁.extBut b o (Nat.ne_of_lt (Heap.lt_size e)) (Heap.get?_push_of_some _ e)
  have F2 : Fr h₀ L h₁ m := F.keeps hk1
  have hsz1 : h₁.objs.size = s.heap.objs.size + 1 := by rw [hs₁.1, Heap.size_push]
  refine wpAny_bind (wpAny_bind (wpAny_holding ?_))
  refine subDict_new (qs := qs) (k := k) (by omega) hn hz (fun s₀ Q' e hq => hp s₀ e hq) fun h₂ h₂o hs₂ => ?_
  have hs2 : Heap.SameBut h₁.objs.size (h₁.push (dob [] 0)) h₂ := hs₂
  have hk2 : ∀ b o, h₁.get? b = some o → h₂.get? b = some o := fun b o e => hs2.extBut b o (Nat.ne_of_lt (Heap.lt_size e)) (Heap.get?_push_of_some _ e)
  have hds : h₁.objs.size ≠ s.heap.objs.size := by omega
  refine wpAny_bind (wpAny_onRaise (wpAny_holding ?_))
  refine merge_new (s := { s with heap := h₂, toks := s.toks + k + qs.length }) (ps := qs) hds (F2.notModules (modules_low hbig)) hz hn h₂o (hk2 _ _ h₁o) fun h₃ hs₃ h₃o => ?_
  refine wpAny_pure (wpAny_pure ?_)
  have hk3 : ∀ b o, s.heap.get? b = some o → h₃.get? b = some o := fun b o e => hs₃.extBut b o (Nat.ne_of_lt (Heap.lt_size e)) (hk2 b o (hk1 b o e))
  exact h _ h₃ (F.keeps hk3) (news_pushed F N hk3 h₃o rfl) hlt hnm
end
end
end Mine
end
section
open PySem PySem.W PyProof.Rows PySem.Calls
namespace Mine
theorem three (n : Int) : n.fmod 3 = 0 ∨ n.fmod 3 = 1 ∨ n.fmod 3 = 2 := by
  have h0 := Int.fmod_nonneg_of_pos n (show (0 : Int) < 3 by decide)
  have h1 := Int.fmod_lt_of_pos n (show (0 : Int) < 3 by decide)
  omega
theorem pick1 {r : Int} (x y z : Value) (e : r = 0) : kms_pick (#[x, y, z] : Array Value).toList none (some (1 + r)) = [x] := by subst e; rfl
theorem pick2 {r : Int} (x y z : Value) (e : r = 1) : kms_pick (#[x, y, z] : Array Value).toList none (some (1 + r)) = [x, y] := by subst e; rfl
theorem pick3 {r : Int} (x y z : Value) (e : r = 2) : kms_pick (#[x, y, z] : Array Value).toList none (some (1 + r)) = [x, y, z] := by subst e; rfl
section
variable {prog : Program} {w : World} {A : Around} {E : Value → Shared → Prop} {s : Shared}
abbrev kvOf (ps : List (Str × Tok × Value)) : List (Str × Value) := ps.map fun p => (p.1, p.2.2)
theorem dob_pairs : ∀ (ps : List (Str × Tok × Value)), Pairs (PySem.strKind prog w) (ps.map (ent w)) (kvOf ps)
  | [] => .nil
  | p :: ps => .cons (ent_is p) rfl (dob_pairs ps)
theorem dob_at {h : Heap} {d : Addr} {ps : List (Str × Tok × Value)} {n : Nat} (ho : h.get? d = some (dob (ps.map (ent w)) n)) (hn : (ps.map (·.1)).Nodup) : h.DictAt (PySem.strKind prog w) d (kvOf ps) n :=
  ⟨_, _, ho, ⟨rfl, rfl, rfl⟩, rfl, ent_keys ps, by simpa using dob_pairs ps, by simpa [kvOf, Function.comp_def] using hn⟩
/-- escape's three entries, unescape's two -/
abbrev ps3 (t : Nat) : List (Str × Tok × Value) := [(Str.ofString "\n", t, .str (Str.ofString "&#10;") (t + 1)), (Str.ofString "\r", t + 2, .str (Str.ofString "&#13;") (t + 3)), (Str.ofString "\t", t + 4, .str (Str.ofString "&#9;") (t + 5))]
theorem ps3_nodup (t : Nat) : ((ps3 t).map (·.1)).Nodup := (by decide +kernel : ([Str.ofString "\n", Str.ofString "\r", Str.ofString "\t"] : List Str).Nodup)
abbrev ps2 (t : Nat) : List (Str × Tok × Value) := [(Str.ofString "&quot;", t, .str (Str.ofString "\"") (t + 1)), (Str.ofString "&#10;", t + 2, .str (Str.ofString "\n") (t + 3))]
theorem ps2_nodup (t : Nat) : ((ps2 t).map (·.1)).Nodup := (by decide +kernel : ([Str.ofString "&quot;", Str.ofString "&#10;"] : List Str).Nodup)
/-- one turn of d.items() over a written dict: the key comes out with its own token -/
theorem next_exact {it d : Addr} {i np : Nat} {ps : List (Str × Tok × Value)} {q : Str × Tok × Value} {ok ov : Value} {Q : Option Value → Shared → Prop} (hit : IsItemIter s.heap it d i (kvOf ps).length np ok ov)
    (ho : s.heap.get? d = some (dob (ps.map (ent w)) np)) (hx : ps[i]? = some q)
    (hQ : ∀ h', IsItemIterOut h' it d (i + 1) (kvOf ps).length np (.str q.1 q.2.1) q.2.2 s.heap.objs.size →
      h'.get? s.heap.objs.size = some { cls := .type "tuple", data := .seq #[.str q.1 q.2.1, q.2.2] } →
      (∀ b o, b ≠ it → s.heap.get? b = some o → h'.get? b = some o) → Q (some (.ref s.heap.objs.size)) { s with heap := h' }) :
    wpAny (model prog w) A (pyNext (.ref it)) Q E s := by
  have hT : s.TypeIs (.ref it) "dict_itemiterator" := ⟨_, hit, rfl⟩
  have hlen : (kvOf ps).length = ps.length := by simp [kvOf]
  have hlt : i < ps.length := by
    rcases Nat.lt_or_ge i ps.length with h | h
    · exact h
    · rw [List.getElem?_eq_none h] at hx; cases hx
  have hen : ((ps.map (ent w)).toArray)[i]? = some (ent w q) := by simp [hx]
  have hsz : ((ps.map (ent w)).toArray).size = (kvOf ps).length := by simp [kvOf]
  have hil : it < s.heap.objs.size := Heap.lt_size hit
  unfold pyNext
  refine wpAny_bind (wpAny_attempt (wpAny_callSpecial?_slot (name := Str.ofString "__next__") hT F.slot_dict_itemiterator_next
    (wpAny_call_entry F.slot_dict_itemiterator_next hT F.entry_dict_itemiterator_next ?_ (F.args_dict_itemiterator_next_1 _))))
  refine wpAny_bind (wpAny_pure (wpAny_bind (wpAny_bind ?_)))
  refine wpAny_bind (wpAny_typeNameOfWhole_itemiter hT (wpAny_pure (wpAny_bind (wpAny_fieldsOf hit rfl ?_))))
  have hown : Builtin.Dict_items.ownsTuple "dict_itemiterator" = true := by decide
  rw [hown]
  show wpAny _ _ (ite ((Value.ref d == Value.none) = true) _ _) _ _ _
  rw [if_neg (show ¬ ((Value.ref d == Value.none) = true) from Bool.false_ne_true)]
  refine wpAny_bind (wpAny_pure (wpAny_bind (wpAny_dictEntries ho rfl ?_)))
  have hsz2 : ((((ps.map (ent w)).toArray).size : Int) != ((kvOf ps).length : Int)) = false := by rw [hsz]; simp
  rw [hsz2]
  refine wpAny_bind (wpAny_pure (wpAny_bind (wpAny_dictEpoch ho rfl ?_)))
  simp only [bne_self_eq_false, Bool.false_eq_true, if_false]
  refine wpAny_pure ?_
  have hpos : ¬ ((i : Int) < 0) := by omega
  simp only [hpos, if_false, Int.toNat_natCast, hen]
  refine wpAny_bind (wpAny_bind (wpAny_typeNameOfWhole_itemiter hT (wpAny_pure ?_)))
  refine wpAny_bind (wpAny_isOneOf_itemiter hT ?_)
  show wpAny _ _ (setField (.ref it) 3 (rawInt ((i : Int) + 1)) >>= _) _ _ s
  refine wpAny_bind (wpAny_setField_rec hit (by simp) fun h₁ e₁ s₁ => ?_)
  have i₁ : IsItemIter h₁ it d (i + 1) (kvOf ps).length np ok ov := by
    have e : ((i + 1 : Nat) : Int) = (i : Int) + 1 := by omega
    unfold IsItemIter
    rw [e]
    exact e₁
  have T₁ : Shared.TypeIs { s with heap := h₁ } (.ref it) "dict_itemiterator" := ⟨_, i₁, rfl⟩
  refine wpAny_bind (wpAny_holding ?_)
  refine wpAny_bind (wpAny_isOneOf_itemiter T₁ ?_)
  refine wpAny_bind (wpAny_isOneOf_itemiter T₁ ?_)
  show wpAny _ _ (Builtin.Dict_items.pairFromOwner (.ref it) 6 (.str q.1 q.2.1) q.2.2) _ _ { s with heap := h₁ }
  unfold Builtin.Dict_items.pairFromOwner
  refine wpAny_bind (wpAny_newTuple ?_)
  let tup : Obj := { cls := .type "tuple", data := .seq #[.str q.1 q.2.1, q.2.2] }
  have hz : h₁.objs.size = s.heap.objs.size := s₁.1
  have i₂ : IsItemIter (h₁.push tup) it d (i + 1) (kvOf ps).length np ok ov := Heap.get?_push_of_some _ i₁
  have t₂ : (h₁.push tup).get? h₁.objs.size = some tup := Heap.get?_push_size _ rfl
  have k₂ : ∀ b o, b ≠ it → s.heap.get? b = some o → (h₁.push tup).get? b = some o := fun b o hb e => Heap.get?_push_of_some _ (s₁.extBut b o hb e)
  have hne : h₁.objs.size ≠ it := by rw [hz]; exact Nat.ne_of_gt hil
  refine wpAny_bind (wpAny_bind (wpAny_field i₂ rfl (x := .none) rfl (wpAny_pure ?_)))
  simp only [if_true]
  refine wpAny_bind (wpAny_field i₂ rfl (x := ok) rfl (wpAny_bind (wpAny_field i₂ rfl (x := ov) rfl ?_)))
  refine wpAny_bind (wpAny_setField_rec i₂ (by simp) fun h₃ e₃ s₃ => ?_)
  refine wpAny_bind (wpAny_setField_rec e₃ (by simp) fun h₄ e₄ s₄ => ?_)
  refine wpAny_bind (wpAny_setField_rec e₄ (by simp) fun h₅ e₅ s₅ => ?_)
  refine wpAny_bind (wpAny_setField_rec e₅ (by simp) fun h₆ e₆ s₆ => ?_)
  have sk : Heap.SameBut it (h₁.push tup) h₆ := ((s₃.trans s₄).trans s₅).trans s₆
  refine wpAny_bind (wpAny_letGo (wpAny_pure (wpAny_pure ⟨_, rfl, wpAny_pure ?_⟩)))
  show Q (some (.ref h₁.objs.size)) { s with heap := h₆ }
  rw [hz]
  refine hQ h₆ ?_ ?_ fun b o hb e => sk.extBut b o hb (k₂ b o hb e)
  · rw [← hz]
    exact e₆
  · rw [← hz]
    exact sk.extBut _ _ hne t₂

theorem items_turns {elts : List Expr} {kk : Nat} {pos : Pos} (hh : A.handled = none) (I d : Addr) (hne : d ≠ I) (ps : List (Str × Tok × Value)) (np : Nat) (hn : (ps.map (·.1)).Nodup) :
    KTurns prog w A (.Tuple elts kk pos) I [I, d] [I] ps.length
      (fun i v h => ∃ T q, v = .ref T ∧ ps[i]? = some q ∧ h.IsTuple T #[.str q.1 q.2.1, q.2.2])
      (fun i v h => ∃ T q ok ov, v = .ref T ∧ ps[i]? = some q ∧ h.IsTuple T #[.str q.1 q.2.1, q.2.2] ∧ IsItemIterOut h I d (i + 1) (kvOf ps).length np ok ov T ∧ h.get? d = some (dob (ps.map (ent w)) np) ∧ T ≠ I)
      (fun i h => (∃ ok ov, IsItemIter h I d i (kvOf ps).length np ok ov) ∧ h.get? d = some (dob (ps.map (ent w)) np)) where
  sub := fun b hb => by simp at hb; simp [hb]
  frame := fun i h h' st hk => by
    obtain ⟨⟨ok, ov, he⟩, hm⟩ := st
    exact ⟨⟨ok, ov, hk I (by simp) _ he⟩, hk d (by simp) _ hm⟩
  item := fun i s Q E hi st hQ => by
    obtain ⟨⟨ok, ov, he⟩, hm⟩ := st
    obtain ⟨q, hx⟩ : ∃ q, ps[i]? = some q := ⟨ps[i], by simp [hi]⟩
    refine next_exact he hm hx fun h' ho hT hk => ?_
    exact hQ (.ref s.heap.objs.size) h' s.toks ⟨_, q, _, _, rfl, hx, ⟨_, hT, rfl, _, rfl⟩, ho, hk d _ hne hm, Nat.ne_of_gt (Heap.lt_size he)⟩ fun b o hb e => hk b o (fun h => hb (by simp [h])) e
  go := fun i v s Q E hm hQ => by
    obtain ⟨T, q, ok, ov, rfl, hx, hT, ho, hd, hTI⟩ := hm
    refine wpAny_letOwnedTupleGo_items ho fun h' he hs => ?_
    exact hQ h' ⟨T, q, rfl, hx, hT.at fun o e => hs.extBut T o hTI e⟩ ⟨⟨ok, ov, he⟩, hs.extBut d _ hne hd⟩ fun b o hb e => hs.extBut b o (fun h => hb (by simp [h])) e
  done := fun s Q E st hQ => by
    obtain ⟨⟨ok, ov, he⟩, hm⟩ := st
    have he' : IsItemIter s.heap I d ps.length (kvOf ps).length np ok ov := he
    exact wpAny_pyNext_items_end hh he' (dob_at hm hn) (by simp [kvOf]) fun h' hx => hQ h' s.toks fun b o hb e => hx b o (fun h => hb (by simp [h])) e
end
section
variable {prog : Program} {w : World} {A : Around} {E : Value → Shared → Prop} {s : Shared} {env : Env} {h₀ : Heap} {target : Expr} {body : List Stmt} {Q : Flow → Shared → Prop}
/-- the loop over d.items() of a written dict, its keys and values as they lie -/
theorem items_exact {elts : List Expr} {kk : Nat} {pos : Pos} {d vw : Addr} {ps : List (Str × Tok × Value)} {np : Nat} {m₀ : Str → Option Value} {news : List (Addr × Obj)}
    (hh : A.handled = none) (F : Fr h₀ env.locals s.heap m₀) (N : News h₀ env.locals s.heap news) (hvw : s.heap.IsItemsView vw d) (hm : (d, dob (ps.map (ent w)) np) ∈ news) (hn : (ps.map (·.1)).Nodup) {xs : List Itm} (hxs : xs = ps.map fun p => Itm.pair (fun _ => .str p.1 p.2.1) p.2.2)
    (rest₀ : ∀ I : Addr, (∀ p ∈ news, p.1 < I) → ItemsRest prog w A E h₀ env (.Tuple elts kk pos) body Q s [(I, "dict_itemiterator")] [(d, dob (ps.map (ent w)) np)] xs m₀ news) :
    wpAny (model prog w) A (pyIter (.ref vw)) (fun it s₂ => TurnsAt prog w A h₀ env (.Tuple elts kk pos) body Q E it s₂) E s := by
  subst hxs
  have hax := N _ hm
  have hat := dob_at (prog := prog) hax.1 hn
  have hdl : d < s.heap.objs.size := Heap.lt_size hax.1
  have hne : d ≠ s.heap.objs.size := Nat.ne_of_lt hdl
  refine wpAny_pyIter_items hvw hat ?_
  refine ktu_core (tk0 := s.toks) (keep := [(d, dob (ps.map (ent w)) np)]) (items_turns hh s.heap.objs.size d hne ps np hn) (by simp) ?_ ?_ ?_ ?_ ?_ ?_ ?_ ?_ (F.push _) (fun p hp => ⟨Heap.get?_push_of_some _ (N p hp).1, (N p hp).2⟩) (And.intro hm trivial) (rest₀ _ fun p hp => Heap.lt_size (N p hp).1)
  · rintro i v h ⟨T', q, rfl, hx, hT⟩
    exact ⟨.pair (fun _ => .str q.1 q.2.1) q.2.2, by rw [List.getElem?_map, hx]; rfl, T', 0, rfl, hT⟩
  · rintro i h ⟨⟨ok, ov, he⟩, _⟩
    exact ⟨[(s.heap.objs.size, _)], ⟨⟨rfl, rfl⟩, trivial⟩, fun p hp => by rw [List.mem_singleton.mp hp]; exact he⟩
  · intro b hb
    have hb' : b = s.heap.objs.size := by simpa using hb
    rw [hb']
    exact ⟨List.mem_cons_self .., next_is_new F⟩
  · intro b hb
    simpa using hb
  · intro b hb
    have hb' : b = s.heap.objs.size ∨ b = d := by simpa using hb
    rcases hb' with e | e
    · exact .inl (by simp [e])
    · exact .inr ⟨_, by simp [e]; rfl⟩
  · intro hI
    have hb' : env.locals = s.heap.objs.size ∨ env.locals = d := by simpa using hI
    rcases hb' with e | e
    · exact absurd F.ns.lt (e ▸ Nat.lt_irrefl _)
    · exact hax.2.1 e.symm
  · intro p hp hI
    exact absurd (Heap.lt_size (N p hp).1) ((List.mem_singleton.mp hI) ▸ Nat.lt_irrefl _)
  · exact ⟨⟨_, _, Heap.get?_push_size _ rfl⟩, Heap.get?_push_of_some _ hax.1⟩

variable {L d : Addr} {m : Str → Option Value} {news : List (Addr × Obj)} {ps : List (Str × Tok × Value)} {np : Nat}
theorem dob_of {h : Heap} {d : Addr} (ho : h.get? d = some (dob (ps.map (ent w)) np)) (hn : (ps.map (·.1)).Nodup) : h.DictOf (PySem.strKind prog w) d (kvOf ps) :=
  ⟨_, _, _, ho, ⟨rfl, rfl, rfl⟩, rfl, ent_keys ps, by simpa using dob_pairs ps, by simpa [kvOf, Function.comp_def] using hn⟩
theorem dob_true {q : Str × Tok × Value} {Q : Bool → Shared → Prop} (lo : (d == sysModules) = false) (N : News h₀ L s.heap news) (hm : (d, dob ((q :: ps).map (ent w)) np) ∈ news) (hn : ((q :: ps).map (·.1)).Nodup) (hz : ps.length ≤ 10)
    (h : Q true { s with toks := s.toks + 1 + 1 }) : wpAny (model prog w) A (truthy (.ref d)) Q E s :=
  wpAny_truthy_dict (knd := PySem.strKind prog w) lo (dob_of (N _ hm).1 hn) (by simp [kvOf]; omega) h
theorem dob_method {name : Str} {id : String} {pl : Sem Bool} {Q : Value × List Value → Shared → Prop} (slot : Slot "dict" name id) (hty : typeOf (.builtin id) = pure (.type "method_descriptor"))
    (N : News h₀ L s.heap news) (hm : (d, dob (ps.map (ent w)) np) ∈ news) (hn : (ps.map (·.1)).Nodup) (h : Q (.builtin id, [.ref d]) s) : wpAny (model prog w) A (getMethod (.ref d) name pl) Q E s :=
  getMethod_builtin (dob_of (prog := prog) (N _ hm).1 hn).typeIs PySem.F.plainAttrs_dict slot hty (dob_of (prog := prog) (N _ hm).1 hn).mapOf.noDict h
theorem dob_items {Q : Value → Shared → Prop} (lo : (d == sysModules) = false) (F : Fr h₀ L s.heap m) (N : News h₀ L s.heap news) (hm : (d, dob (ps.map (ent w)) np) ∈ news) (hn : (ps.map (·.1)).Nodup)
    (h : ∀ vw h', h'.IsItemsView vw d → Fr h₀ L h' m → News h₀ L h' news → (∀ p ∈ news, p.1 < vw) → Q (.ref vw) { s with heap := h' }) :
    wpAny (model prog w) A (call (.builtin "dict.items") [.ref d]) Q E s :=
  call_meetsIn PySem.F.slot_dict_items (dob_of (prog := prog) (N _ hm).1 hn).typeIs PySem.F.entry_dict_items (PySem.F.args_dict_items_1 _) (meets_dict_items (PySem.strKind prog w) d lo)
    ⟨⟨_, dob_of (N _ hm).1 hn⟩, h _ _ ⟨_, Heap.get?_push_size _ rfl, rfl, rfl⟩ (F.push _) (fun p hp => ⟨Heap.get?_push_of_some _ (N p hp).1, (N p hp).2⟩) (fun p hp => Heap.lt_size (N p hp).1)⟩
end
theorem unr_tail {h₀ : Heap} {L : Addr} {s₁ : Shared} {i : Addr} {o : Obj} {rest : (Str → Option Value) → List (Addr × Obj) → Prop} {h' : Heap} {tk : Nat} {m' : Str → Option Value} {news : List (Addr × Obj)} (F : Fr h₀ L h' m')
    (N : News h₀ L h' ((i, o) :: news)) (hl : ∀ p ∈ news, p.1 < i) (r : rest m' news) : UnrEndW h₀ L s₁ [(i, o)] rest { s₁ with heap := h', toks := tk } :=
  ⟨h', tk, m', news, rfl, F, N, fun p hp q hq => by
    rw [List.mem_singleton.mp hq]
    exact Nat.ne_of_lt (hl p hp), r⟩
section
variable {prog : Program} {w : World} {A : Around} {E : Value → Shared → Prop} {s : Shared} {env : Env}
theorem pairs2 {k1 v1 k2 v2 : Str} {n1 n2 n3 n4 : Nat} {p p1 p2 p3 p4 : Pos} (s₀ : Shared) {Q' : List (Value × Value) → Shared → Prop} {tk : Nat} (e : s₀.toks = tk)
    (h : Q' (([(k1, tk, .str v1 (tk + 1)), (k2, tk + 2, .str v2 (tk + 3))] : List (Str × Tok × Value)).map fun q => (.str q.1 q.2.1, q.2.2)) { s₀ with toks := s₀.toks + 4 }) :
    wpAny (model prog w) A (evalPairs (pairTrees [some (.Constant (.str k1) n1 p1), some (.Constant (.str k2) n2 p2)] [.Constant (.str v1) n3 p3, .Constant (.str v2) n4 p4] env p)) Q' E s₀ := by
  subst e
  exact evalPairs_cons (Constant_str (wpAny_bind (Constant_str (wpAny_bind (wpAny_standAt (wpAny_pure
    (evalPairs_cons (Constant_str (wpAny_bind (Constant_str (wpAny_bind (wpAny_standAt (wpAny_pure (evalPairs_nil h))))))))))))))
theorem pairs3 {k1 v1 k2 v2 k3 v3 : Str} {n1 n2 n3 n4 n5 n6 : Nat} {p p1 p2 p3 p4 p5 p6 : Pos} (s₀ : Shared) {Q' : List (Value × Value) → Shared → Prop} {tk : Nat} (e : s₀.toks = tk)
    (h : Q' (([(k1, tk, .str v1 (tk + 1)), (k2, tk + 2, .str v2 (tk + 3)), (k3, tk + 4, .str v3 (tk + 5))] : List (Str × Tok × Value)).map fun q => (.str q.1 q.2.1, q.2.2)) { s₀ with toks := s₀.toks + 6 }) :
    wpAny (model prog w) A (evalPairs (pairTrees [some (.Constant (.str k1) n1 p1), some (.Constant (.str k2) n2 p2), some (.Constant (.str k3) n5 p5)] [.Constant (.str v1) n3 p3, .Constant (.str v2) n4 p4, .Constant (.str v3) n6 p6] env p)) Q' E s₀ := by
  subst e
  exact evalPairs_cons (Constant_str (wpAny_bind (Constant_str (wpAny_bind (wpAny_standAt (wpAny_pure
    (evalPairs_cons (Constant_str (wpAny_bind (Constant_str (wpAny_bind (wpAny_standAt (wpAny_pure
      (evalPairs_cons (Constant_str (wpAny_bind (Constant_str (wpAny_bind (wpAny_standAt (wpAny_pure (evalPairs_nil h)))))))))))))))))))))
end
section
variable {prog : Program} {w : World} {A : Around} {E : Value → Shared → Prop} {s : Shared} {env : Env} {h₀ : Heap} {L : Addr} {m : Str → Option Value} {news : List (Addr × Obj)}
/-- quoteattr's own display: its star is the empty default, its three pairs are written -/
theorem star3 {v0 : Expr} {n1 n2 n3 n4 n5 n6 : Nat} {pos p1 p2 p3 p4 p5 p6 : Pos} {n0 : Nat} {a : Addr} {Q : Value → Shared → Prop} (F : Fr h₀ L s.heap m) (N : News h₀ L s.heap news) (hbig : h₀.NoLimit) (ht : 0 < s.toks)
    (ha : h₀.get? a = some (dob [] n0)) (ham : (a == sysModules) = false)
    (hv : ∀ (s₀ : Shared) {Q' : Value → Shared → Prop}, Fr h₀ L s₀.heap m → Q' (.ref a) s₀ → wpAny (model prog w) A (eval v0 env) Q' E s₀)
    (h : ∀ d h' tk tk', 0 < tk → 0 < tk' → Fr h₀ L h' m → News h₀ L h' ((d, dob ((ps3 tk).map (ent w)) 3) :: news) → (∀ p ∈ news, p.1 < d) → (d == sysModules) = false → ((ps3 tk).map (·.1)).Nodup → Q (.ref d) { s with heap := h', toks := tk' }) :
    wpAny (model prog w) A (eval (.Dict [none, some (.Constant (.str (Str.ofString "\n")) n1 p1), some (.Constant (.str (Str.ofString "\r")) n2 p2), some (.Constant (.str (Str.ofString "\t")) n5 p5)] [v0, .Constant (.str (Str.ofString "&#10;")) n3 p3, .Constant (.str (Str.ofString "&#13;")) n4 p4, .Constant (.str (Str.ofString "&#9;")) n6 p6] pos) env) Q E s :=
  star_new (qs := ps3 s.toks) (k := 6) F N hbig (by rfl) (by rfl) (List.cons_ne_nil _ _) (Nat.le_of_ble_eq_true rfl) (ps3_nodup _) (Nat.le_of_ble_eq_true rfl) ha ham hv (fun s₀ _ e hq => pairs3 s₀ e hq)
    fun d h' F' N' l lo => h d h' s.toks _ ht (by omega) F' N' l lo (ps3_nodup _)
/-- a display of two pairs -/
theorem disp2 {n1 n2 n3 n4 : Nat} {pos p1 p2 p3 p4 : Pos} {Q : Value → Shared → Prop} (F : Fr h₀ L s.heap m) (N : News h₀ L s.heap news) (hbig : h₀.NoLimit) (ht : 0 < s.toks)
    (h : ∀ d h' tk tk', 0 < tk → 0 < tk' → Fr h₀ L h' m → News h₀ L h' ((d, dob ((ps2 tk).map (ent w)) 2) :: news) → (∀ p ∈ news, p.1 < d) → (d == sysModules) = false → ((ps2 tk).map (·.1)).Nodup → Q (.ref d) { s with heap := h', toks := tk' }) :
    wpAny (model prog w) A (eval (.Dict [some (.Constant (.str (Str.ofString "&quot;")) n1 p1), some (.Constant (.str (Str.ofString "&#10;")) n2 p2)] [.Constant (.str (Str.ofString "\"")) n3 p3, .Constant (.str (Str.ofString "\n")) n4 p4] pos) env) Q E s :=
  disp_new (qs := ps2 s.toks) (k := 4) F N hbig (by rfl) (by rfl) (List.cons_ne_nil _ _) (Nat.le_of_ble_eq_true rfl) (ps2_nodup _) (Nat.le_of_ble_eq_true rfl) (fun s₀ _ e hq => pairs2 s₀ e hq)
    fun d h' F' N' l lo => h d h' s.toks _ ht (by omega) F' N' l lo (ps2_nodup _)
theorem comp_end {s₁ : Shared} {I C D : Addr} {oI oC oD : Obj} {S : List (Addr × Obj) → Prop} {rest : Value → List (Addr × Obj) → Prop} {y : Value} {h' : Heap} {tk : Nat} {nw : List (Addr × Obj)}
    (F : Fr h₀ L h' m) (N : News h₀ L h' ((I, oI) :: (C, oC) :: (D, oD) :: nw)) (off : LCg.Off3 I C D nw) (hS : S nw) (r : rest y nw) : LCg.CompEnd h₀ L m s₁ I oI C oC D oD S rest y { s₁ with heap := h', toks := tk } :=
  ⟨h', tk, nw, rfl, F, N, off, hS, r⟩
end
end Mine
end
section
open PySem PySem.W PyProof.Rows PySem.Calls PySem.Builtin PySem.Builtin.Str
namespace Mine
section
variable {prog : Program} {w : World} {A : Around} {E : Value → Shared → Prop} {s : Shared} {x y z : PySem.Str} {t u v : Tok} {Q : Value → Shared → Prop}
/-- str.replace of three texts: the tokens drawn do not sink, and a bound on the length -/
theorem rep_step (hu : u ≠ 0) (hv : v ≠ 0) (huv : u ≠ v) (hyz : (y == z) = false) (hx : x.length ≤ 1048576) (hz : z.length ≤ 14)
    (hq : ∀ t' k, s.toks ≤ k → (Txt.replace x y z).length ≤ 16777216 → Q (.str (Txt.replace x y z) t') { s with toks := k }) : wpAny (model prog w) A (call (.builtin "str.replace") [.str x t, .str y u, .str z v]) Q E s := by
  have h1 : (x.length + 1) * z.length ≤ (x.length + 1) * 14 := Nat.mul_le_mul_left _ hz
  have hb : x.length + (x.length + 1) * z.length ≤ 16777216 := by omega
  have hl : tooLong (x.length + (occurrences x y 0 x.length (x.length + 1)).length * z.length) = false := by
    have h1 := StrLaws.occ_length_le x y 0 x.length (x.length + 1)
    have h2 : (occurrences x y 0 x.length (x.length + 1)).length * z.length ≤ (x.length + 1) * z.length := Nat.mul_le_mul_right _ h1
    unfold tooLong
    rw [sizeLine_eq]
    exact decide_eq_false (by omega)
  refine call_gives F.slot_str_replace (typeIs_str _ _ _) F.entry_str_replace (F.args_str_replace_3 _ _ _)
    (gives_str_replace x y z t u v fun _ => ⟨by simp [hu, hv], by simp [huv], hyz, hl⟩) ?_
  have fit := fits_replaced y hb
  rw [sizeLine_eq] at fit
  have hq' := hq
  unfold Txt.replace at hq'
  cases hc : ((occurrences x y 0 x.length (x.length + 1)).isEmpty || (y.length == 0 && z.length == 0))
  · rw [hc] at hq'
    simp only [Bool.false_eq_true, if_false] at hq' ⊢
    exact ⟨by rw [sizeLine_eq]; exact fit, hq' _ _ (Nat.le_succ _) fit⟩
  · rw [hc] at hq'
    simp only [if_true] at hq' ⊢
    exact hq' t s.toks (Nat.le_refl _) (by omega)
end
end Mine
end
section
open PySem PySem.W PyProof.Rows PySem.Calls
namespace Mine
section
variable {prog : Program} {w : World} {A : Around} {E : Value → Shared → Prop} {s : Shared} {h₀ : Heap} {m : Str → Option Value} {news : List (Addr × Obj)}
abbrev litObj (ax : Addr) : Obj := { cls := .type "list_iterator", data := .fields #[.ref ax, .int 0 0] }
/-- iter(xs) of a made list: an iterator of the call's own -/
theorem iter_list {L l : Addr} {o : Obj} {vs : List Value} {n : Nat} {Q : Value → Shared → Prop} (F : Fr h₀ L s.heap m) (N : News h₀ L s.heap news) (hm : (l, o) ∈ news) (hc : o.cls = .type "list") (hd : o.data = .seq vs.toArray n)
    (h : ∀ I h', Fr h₀ L h' m → News h₀ L h' ((I, litObj l) :: news) → (∀ p ∈ news, p.1 < I) → Q (.ref I) { s with heap := h' }) :
    wpAny (model prog w) A (call (.builtin "iter") [.ref l]) Q E s := by
  have hl : s.heap.IsList l vs.toArray := ⟨o, (N _ hm).1, hc, n, hd⟩
  refine call_function_entry (by decide +kernel) (by decide +kernel) kdk_entry_iter (kdk_args_iter _) ?_
  unfold Builtin.«iter»
  refine wpAny_bind (m := someArgs "iter" 1 2 _) (wpAny_of_eq (a := [Value.ref l]) (by first | rfl | kernel_rfl!) ?_)
  show wpAny _ _ (pyIter (.ref l) >>= _) _ _ _
  refine wpAny_bind (wpAny_pyIter_list hl ?_)
  exact wpAny_pure ⟨_, rfl, h _ _ (F.push _) (News.push F N _ rfl) (fun q hq => Heap.lt_size (N q hq).1)⟩
variable {env : Env} {target : Expr} {body : List Stmt} {Q : Flow → Shared → Prop}
/-- a loop over an iterator that lies at the list's head -/
theorem iter_again {ax I : Addr} {lo : Obj} {vs : List Value} {n : Nat} (hh : A.handled = none) (F : Fr h₀ env.locals s.heap m) (N : News h₀ env.locals s.heap ((I, litObj ax) :: news)) (hI : AllLt I news) (hm : (ax, lo) ∈ news) (hc : lo.cls = .type "list") (hd : lo.data = .seq vs.toArray n)
    (rest₀ : ItemsRest prog w A E h₀ env target body Q s [(I, "list_iterator")] [(ax, lo)] (vs.map .val) m news) :
    wpAny (model prog w) A (pyIter (.ref I)) (fun it s₂ => TurnsAt prog w A h₀ env target body Q E it s₂) E s := by
  have hIn := N (I, litObj ax) (List.mem_cons_self ..)
  have N1 : News h₀ env.locals s.heap news := fun p hp => N p (List.mem_cons_of_mem _ hp)
  have hax := N1 _ hm
  have hl : s.heap.IsList ax vs.toArray := ⟨lo, hax.1, hc, n, hd⟩
  have hlt := ktn_ltOf hI
  have hne : ax ≠ I := Nat.ne_of_lt (hlt _ hm)
  have hit : s.heap.IsListIter I ax 0 := ⟨_, hIn.1, rfl, rfl⟩
  refine wpAny_pyIter_listiter hit ?_
  refine ktu_core (s := s) (hp := s.heap) (tk0 := s.toks) (keep := [(ax, lo)]) (KTurns.ofWalks (Walks.list hh I ax hne vs.toArray) fun i v s Q E st q => letGo_listiter st.1 q) (by simp) (fun i v h hp => ⟨.val v, ?_, rfl⟩) (fun i h st => ?_) (fun b hb => ?_) (fun b hb => by simpa using hb) (fun b hb => ?_) ?_ (fun p hp hI' => ?_) ?_ F N1 (And.intro hm True.intro) rest₀
  · have hp' : vs.toArray[i]? = some v := hp
    simpa using hp'
  · obtain ⟨it, hit, hic, _⟩ := st.1
    exact ⟨[(I, it)], ⟨⟨rfl, hic⟩, True.intro⟩, fun p hp => by rw [List.mem_singleton.mp hp]; exact hit⟩
  · have hb' : b = I := by simpa using hb
    rw [hb']
    exact ⟨List.mem_cons_self .., hIn.2.2⟩
  · have hb' : b = I ∨ b = ax := by simpa using hb
    rcases hb' with e | e
    · exact .inl (by simp [e])
    · exact .inr ⟨lo, by simp [e]⟩
  · intro hL
    rcases List.mem_cons.mp hL with e | hL
    · exact hIn.2.1 e.symm
    · exact hax.2.1 (List.mem_singleton.mp hL).symm
  · exact absurd (hlt p hp) ((List.mem_singleton.mp hI') ▸ Nat.lt_irrefl _)
  · exact ⟨hit, hl⟩
end
end Mine
end
section
open PySem PySem.W PyProof.Rows PySem.Calls
namespace Mine
section
variable {prog : Program} {w : World} {A₀ A : Around} {s : Shared} {base h₀ : Heap} {outer : List Env} {L : Addr} {m mg mb : Str → Option Value} {env : Env} {news : List (Addr × Obj)} {K : Frag} {p : Program} {loose : List Str} {mean : ExcName → Option Value}
  {R : Result → Shared → Prop} {name qual : Str} {params : Arguments} {body : List Stmt} {scope : Scope} {dV kV doc pm cdv ct oc : Value} {an od : Option Addr} {osl : Array (Option Value)} {f : Addr} {args : Args} {binds : List (Str × Value)}
/-- a def with cells is entered, and the tokens drawn so far are not sunk below -/
theorem enter_cells (B : Below A₀ base outer h₀) (F : Fr h₀ L s.heap m) (X₀ : K.In h₀) (N : News h₀ L s.heap news) (T : Top p loose mean mg mb h₀) (hA : A.frames = some (env :: outer)) (hf : env.frame = some L) (hke : env.scope.kind = .function)
    (ho : K.lookup f = some ⟨oc, od, .func (fnOf name qual params body scope dV kV doc pm an cdv ct), osl⟩) (hcd : codeIn K cdv qual = true) (hroom : A.depth < recursionLimit)
    (hbind : BindsTo s (fnOf name qual params body scope dV kV doc pm an cdv ct) args binds) (hkind : (binds.all fun y => scope.names.lookup y.1 == some .local || scope.names.lookup y.1 == some .cell) = true)
    (hnd : ((cellsFrom 0 scope.names []).map (·.1)).Nodup) (ht : 0 < s.toks)
    (h : ∀ g L' h₁ tk cells, 0 < tk → Fr h₀ L g m → Fr g L' h₁ (bindL (envOfC qual scope L' f cdv).kindOf binds fun _ => none) → News g L' h₁ (cells ++ news) →
      CellsAre (bindC (envOfC qual scope L' f cdv).kindOf binds fun _ => none) (cellsFrom (L' + 1) scope.names []) cells → Below A base (env :: outer) g → K.In g → Top p loose mean mg mb g → (∀ p ∈ news, p.1 < L') →
      wpAny (model prog w) (A.deeper (envOfC qual scope L' f cdv)) (execs body (envOfC qual scope L' f cdv))
        (fun fl s' => LeaveK h₀ L m g R (match fl with | .ret v => v | _ => .none) s')
        (fun e s' => wpAny (model prog w) (A.deeper (envOfC qual scope L' f cdv)) (leaving (envOfC qual scope L' f cdv) e) (fun _ s'' => R (.error e) s'') (fun e' s'' => R (.error e') s'') s')
        { s with heap := h₁, toks := tk })
    (hco : scope.isCoroutine = false) (hgen : scope.isGenerator = false) (hk : scope.kind = .function) : codeAny (model prog w) A (.call (.ref f) args) R s := by
  obtain ⟨FG, BG, st, lv⟩ := groundX (R := R) B F N hA hf hke
  refine codeAny_call_function hroom ((X₀.keeps F.keep) _ _ ho) rfl hco hgen rfl (codeRec_of (X₀.keeps F.keep) hcd) (hbind _ _ _ _ ?_)
  refine wpAny_with_toks (n := 1) ht ?_
  refine wpAny_newFunctionEnv_cells hk (kindsX hkind _) fun env' he s' x htk => ?_
  subst he
  refine ⟨(T.nolimit.keeps F.keep).keeps x.toInCall.keep, codeAny_func ?_⟩
  obtain ⟨h₁, tk, rfl, _⟩ := x.done
  have hk₁ := x.toInCall.keep
  obtain ⟨cells, NC, Y⟩ := Cl.news (h₀ := s.heap) (Nat.le_refl _) fun n c hm => ⟨x.cell n c (lookup_of_mem_nodup (cellsFrom_names scope.names 0 (s.heap.objs.size + 1) [] [] rfl ▸ hnd) hm), x.above n c hm⟩
  refine wpAny_mono (h _ s.heap.objs.size h₁ tk cells htk FG ⟨x.toInCall.ns, fun b o e => hk₁ b o (of_hideAll _ e), Nat.le_of_eq (hideAll_size _ _)⟩ (fun p hp => ?_) Y BG (X₀.keeps st) (T.keeps st) (fun p hp => Heap.lt_size (N p hp).1)) (fun fl s' hl => lv _ _ hl) fun _ _ y => y
  rcases List.mem_append.mp hp with hp | hp
  · refine ⟨(NC p hp).1, (NC p hp).2.1, ?_⟩
    cases q : (hideAll s.heap (news.map (·.1))).get? p.1 with
    | none => rfl
    | some o => have := of_hideAll _ q; rw [(NC p hp).2.2] at this; cases this
  · exact ⟨hk₁ _ _ (N p hp).1, Nat.ne_of_lt (Heap.lt_size (N p hp).1), hideAll_none _ (List.mem_map_of_mem hp)⟩
end
end Mine
end
section
open PySem PySem.W PyProof.Rows PySem.Calls
namespace Mine
abbrev zipObj (I : Nat) (f0 : Value) : Obj := { cls := .type "zip", dict := none, data := .fields #[f0, .bool false, .bool false, .ref (I + 3), .ref (I + 4)], slots := #[] }
/-- zip over three lists: its three iterators at I .. I + 2, its two tuples, itself at I + 5 -/
structure Z3 (h : Heap) (I l1 l2 l3 : Nat) (xs ys zs : Array Value) (k1 k2 k3 : Nat) (f0 a b c : Value) : Prop where
  z : h.get? (I + 5) = some (zipObj I f0)
  ti : h.get? (I + 3) = some { cls := .type "tuple", data := .seq #[.ref I, .ref (I + 1), .ref (I + 2)] }
  tO : h.get? (I + 4) = some { cls := .type "tuple", data := .seq #[a, b, c] }
  i1 : h.IsListIter I l1 k1
  i2 : h.IsListIter (I + 1) l2 k2
  i3 : h.IsListIter (I + 2) l3 k3
  b1 : h.IsList l1 xs
  b2 : h.IsList l2 ys
  b3 : h.IsList l3 zs
  lt : l1 < I ∧ l2 < I ∧ l3 < I
section
variable {h h' : Heap} {I l1 l2 l3 : Nat} {xs ys zs : Array Value} {k1 k2 k3 : Nat} {f0 f1 a b c a' b' c' : Value}
theorem Z3.keep (Z : Z3 h I l1 l2 l3 xs ys zs k1 k2 k3 f0 a b c) (hk : ∀ b o, b = I ∨ b = I + 1 ∨ b = I + 2 ∨ b = I + 3 ∨ b = I + 4 ∨ b = I + 5 ∨ b = l1 ∨ b = l2 ∨ b = l3 → h.get? b = some o → h'.get? b = some o) : Z3 h' I l1 l2 l3 xs ys zs k1 k2 k3 f0 a b c :=
  ⟨hk _ _ (by simp) Z.z, hk _ _ (by simp) Z.ti, hk _ _ (by simp) Z.tO, Z.i1.at fun o e => hk _ o (by simp) e, Z.i2.at fun o e => hk _ o (by simp) e, Z.i3.at fun o e => hk _ o (by simp) e,
    Z.b1.at fun o e => hk _ o (by simp) e, Z.b2.at fun o e => hk _ o (by simp) e, Z.b3.at fun o e => hk _ o (by simp) e, Z.lt⟩
theorem Z3.setZ (Z : Z3 h I l1 l2 l3 xs ys zs k1 k2 k3 f0 a b c) (hs : Heap.SameBut (I + 5) h h') (hz : h'.get? (I + 5) = some (zipObj I f1)) : Z3 h' I l1 l2 l3 xs ys zs k1 k2 k3 f1 a b c := by
  have lt := Z.lt
  exact ⟨hz, hs.extBut _ _ (neN (by omega)) Z.ti, hs.extBut _ _ (neN (by omega)) Z.tO, Z.i1.extBut hs.extBut (neN (by omega)), Z.i2.extBut hs.extBut (neN (by omega)), Z.i3.extBut hs.extBut (neN (by omega)),
    Z.b1.extBut hs.extBut (neN (by omega)), Z.b2.extBut hs.extBut (neN (by omega)), Z.b3.extBut hs.extBut (neN (by omega)), lt⟩
theorem Z3.setO (Z : Z3 h I l1 l2 l3 xs ys zs k1 k2 k3 f0 a b c) (hs : Heap.SameBut (I + 4) h h') (hz : h'.get? (I + 4) = some { cls := .type "tuple", data := .seq #[a', b', c'] }) : Z3 h' I l1 l2 l3 xs ys zs k1 k2 k3 f0 a' b' c' := by
  have lt := Z.lt
  exact ⟨hs.extBut _ _ (neN (by omega)) Z.z, hs.extBut _ _ (neN (by omega)) Z.ti, hz, Z.i1.extBut hs.extBut (neN (by omega)), Z.i2.extBut hs.extBut (neN (by omega)), Z.i3.extBut hs.extBut (neN (by omega)),
    Z.b1.extBut hs.extBut (neN (by omega)), Z.b2.extBut hs.extBut (neN (by omega)), Z.b3.extBut hs.extBut (neN (by omega)), lt⟩
theorem Z3.next1 (Z : Z3 h I l1 l2 l3 xs ys zs k1 k2 k3 f0 a b c) (hs : Heap.SameBut I h h') (hi : h'.IsListIter I l1 (k1 + 1)) : Z3 h' I l1 l2 l3 xs ys zs (k1 + 1) k2 k3 f0 a b c := by
  have lt := Z.lt
  exact ⟨hs.extBut _ _ (neN (by omega)) Z.z, hs.extBut _ _ (neN (by omega)) Z.ti, hs.extBut _ _ (neN (by omega)) Z.tO, hi, Z.i2.extBut hs.extBut (neN (by omega)), Z.i3.extBut hs.extBut (neN (by omega)),
    Z.b1.extBut hs.extBut (neN (by omega)), Z.b2.extBut hs.extBut (neN (by omega)), Z.b3.extBut hs.extBut (neN (by omega)), lt⟩
theorem Z3.next2 (Z : Z3 h I l1 l2 l3 xs ys zs k1 k2 k3 f0 a b c) (hs : Heap.SameBut (I + 1) h h') (hi : h'.IsListIter (I + 1) l2 (k2 + 1)) : Z3 h' I l1 l2 l3 xs ys zs k1 (k2 + 1) k3 f0 a b c := by
  have lt := Z.lt
  exact ⟨hs.extBut _ _ (neN (by omega)) Z.z, hs.extBut _ _ (neN (by omega)) Z.ti, hs.extBut _ _ (neN (by omega)) Z.tO, Z.i1.extBut hs.extBut (neN (by omega)), hi, Z.i3.extBut hs.extBut (neN (by omega)),
    Z.b1.extBut hs.extBut (neN (by omega)), Z.b2.extBut hs.extBut (neN (by omega)), Z.b3.extBut hs.extBut (neN (by omega)), lt⟩
theorem Z3.next3 (Z : Z3 h I l1 l2 l3 xs ys zs k1 k2 k3 f0 a b c) (hs : Heap.SameBut (I + 2) h h') (hi : h'.IsListIter (I + 2) l3 (k3 + 1)) : Z3 h' I l1 l2 l3 xs ys zs k1 k2 (k3 + 1) f0 a b c := by
  have lt := Z.lt
  exact ⟨hs.extBut _ _ (neN (by omega)) Z.z, hs.extBut _ _ (neN (by omega)) Z.ti, hs.extBut _ _ (neN (by omega)) Z.tO, Z.i1.extBut hs.extBut (neN (by omega)), Z.i2.extBut hs.extBut (neN (by omega)), hi,
    Z.b1.extBut hs.extBut (neN (by omega)), Z.b2.extBut hs.extBut (neN (by omega)), Z.b3.extBut hs.extBut (neN (by omega)), lt⟩
end
section
variable {prog : Program} {w : World} {A : Around} {E : Value → Shared → Prop} {s : Shared} {I l1 l2 l3 : Nat} {xs ys zs : Array Value} {k1 k2 k3 : Nat} {f0 a b c : Value}
theorem upd3 {T : Addr} {x : Value} {k : Nat} {Q : Unit → Shared → Prop} (hT : s.heap.get? T = some { cls := .type "tuple", data := .seq #[a, b, c] })
    (h : ∀ h', h'.get? T = some { cls := .type "tuple", data := .seq ((#[a, b, c] : Array Value).setIfInBounds k x) } → Heap.SameBut T s.heap h' → Q () { s with heap := h' }) :
    wpAny (model prog w) A (updateSeq T (·.setIfInBounds k x)) Q E s := by
  refine wpAny_updateSeq hT rfl (h _ ?_ (Heap.SameBut.update ..))
  rw [Heap.get?_update_self _ hT rfl]
  simp [Obj.mapSeq]
/-- what a turn of zip leaves as it lies -/
def Z3Keeps (I : Nat) (h h' : Heap) : Prop := ∀ c o, c ≠ I + 5 → c ≠ I + 4 → c ≠ I → c ≠ I + 1 → c ≠ I + 2 → h.get? c = some o → h'.get? c = some o
theorem zip3_item {x y v : Value} {Q : Value → Shared → Prop} (Z : Z3 s.heap I l1 l2 l3 xs ys zs k1 k2 k3 .none a b c) (hx : xs[k1]? = some x) (hy : ys[k2]? = some y) (hv : zs[k3]? = some v)
    (hQ : ∀ h', Z3 h' I l1 l2 l3 xs ys zs (k1 + 1) (k2 + 1) (k3 + 1) (rawInt s.heap.objs.size) x y v → h'.get? s.heap.objs.size = some { cls := .type "tuple", data := .seq #[x, y, v] } →
      Z3Keeps I s.heap h' → Q (.ref s.heap.objs.size) { s with heap := h' }) :
    wpAny (model prog w) A (Builtin.«zip.__next__» ⟨[.ref (I + 5)], []⟩) (fun fin s' => ∃ v, fin = .done (.ret v) ∧ Q v s') E s := by
  show wpAny _ _ (field (.ref (I + 5)) 2 >>= _) _ _ _
  refine wpAny_bind (wpAny_field Z.z rfl (x := .bool false) rfl ?_)
  show wpAny _ _ (field (.ref (I + 5)) 3 >>= _) _ _ _
  refine wpAny_bind (wpAny_field Z.z rfl (x := .ref (I + 3)) rfl ?_)
  refine wpAny_bind (wpAny_seqItems Z.ti rfl ?_)
  show wpAny _ _ (Builtin.SmallTypes.ownedTupleIsFree (.ref (I + 5)) >>= _) _ _ _
  refine wpAny_bind ?_
  unfold Builtin.SmallTypes.ownedTupleIsFree
  refine wpAny_bind (wpAny_field Z.z rfl (x := .none) rfl (wpAny_pure ?_))
  simp only [if_true]
  refine wpAny_bind (wpAny_rule ?_)
  refine wpAny_bind (wpAny_field Z.z rfl (x := .ref (I + 4)) rfl ?_)
  refine wpAny_bind (wpAny_setField_rec Z.z (by simp) fun h₁ e₁ s₁ => ?_)
  have Z₁ := Z.setZ (f1 := .ellipsis) s₁ e₁
  refine wpAny_bind ?_
  simp only [List.zipIdx_cons, List.zipIdx_nil, List.forIn_cons, List.forIn_nil]
  refine wpAny_bind (wpAny_bind (wpAny_onRaise ?_))
  show wpAny _ _ (Builtin.SmallTypes.nextOf (.ref I) >>= _) _ _ _
  refine wpAny_bind (wpAny_nextOf_list_item Z₁.i1 Z₁.b1 hx fun h₂ e₂ s₂ => wpAny_pure ?_)
  have Z₂ := Z₁.next1 s₂ e₂
  refine wpAny_bind (wpAny_seqItems Z₂.tO rfl ?_)
  refine wpAny_bind (upd3 Z₂.tO fun h₃ e₃ s₃ => ?_)
  have Z₃ := Z₂.setO (a' := x) (b' := b) (c' := c) s₃ e₃
  refine wpAny_bind (wpAny_letGo (wpAny_pure ?_))
  refine wpAny_bind (wpAny_bind (wpAny_onRaise ?_))
  show wpAny _ _ (Builtin.SmallTypes.nextOf (.ref (I + 1)) >>= _) _ _ _
  refine wpAny_bind (wpAny_nextOf_list_item Z₃.i2 Z₃.b2 hy fun h₄ e₄ s₄ => wpAny_pure ?_)
  have Z₄ := Z₃.next2 s₄ e₄
  refine wpAny_bind (wpAny_seqItems Z₄.tO rfl ?_)
  refine wpAny_bind (upd3 Z₄.tO fun h₅ e₅ s₅ => ?_)
  have Z₅ := Z₄.setO (a' := x) (b' := y) (c' := c) s₅ e₅
  refine wpAny_bind (wpAny_letGo (wpAny_pure ?_))
  refine wpAny_bind (wpAny_bind (wpAny_onRaise ?_))
  show wpAny _ _ (Builtin.SmallTypes.nextOf (.ref (I + 2)) >>= _) _ _ _
  refine wpAny_bind (wpAny_nextOf_list_item Z₅.i3 Z₅.b3 hv fun h₆ e₆ s₆ => wpAny_pure ?_)
  have Z₆ := Z₅.next3 s₆ e₆
  refine wpAny_bind (wpAny_seqItems Z₆.tO rfl ?_)
  refine wpAny_bind (upd3 Z₆.tO fun h₇ e₇ s₇ => ?_)
  have Z₇ := Z₆.setO (a' := x) (b' := y) (c' := v) s₇ e₇
  refine wpAny_bind (wpAny_letGo (wpAny_pure (wpAny_pure ?_)))
  refine wpAny_bind (wpAny_seqItems Z₇.tO rfl ?_)
  refine wpAny_bind (wpAny_newTuple ?_)
  have hsz : h₇.objs.size = s.heap.objs.size := by rw [s₇.1, s₆.1, s₅.1, s₄.1, s₃.1, s₂.1, s₁.1]
  have hlt : I + 5 < h₇.objs.size := Heap.lt_size Z₇.z
  have k₇ : Z3Keeps I s.heap h₇ := fun c o c5 c4 c0 c1 c2 e =>
    s₇.extBut _ _ c4 (s₆.extBut _ _ c2 (s₅.extBut _ _ c4 (s₄.extBut _ _ c1 (s₃.extBut _ _ c4 (s₂.extBut _ _ c0 (s₁.extBut _ _ c5 e))))))
  let T : Obj := { cls := .type "tuple", data := .seq #[x, y, v] }
  have Z₈ : Z3 (h₇.push T) I l1 l2 l3 xs ys zs (k1 + 1) (k2 + 1) (k3 + 1) .ellipsis x y v := Z₇.keep fun b o _ e => Heap.get?_push_of_some _ e
  show wpAny _ _ (Builtin.SmallTypes.ownedTupleHandOut (.ref (I + 5)) (.ref h₇.objs.size) >>= _) _ _ _
  refine wpAny_bind ?_
  unfold Builtin.SmallTypes.ownedTupleHandOut
  refine wpAny_bind (wpAny_setField_rec Z₈.z (by simp) fun h₉ e₉ s₉ => ?_)
  have Z₉ := Z₈.setZ (f1 := rawInt h₇.objs.size) s₉ e₉
  refine wpAny_setField_rec Z₉.z (by simp) fun h₁₀ e₁₀ s₁₀ => ?_
  have Z₁₀ := Z₉.setZ (f1 := rawInt h₇.objs.size) s₁₀ e₁₀
  have up : ∀ c o, c ≠ I + 5 → (h₇.push T).get? c = some o → h₁₀.get? c = some o := fun c o c5 e => s₁₀.extBut _ _ c5 (s₉.extBut _ _ c5 e)
  have hT : h₁₀.get? h₇.objs.size = some T := up _ _ (Nat.ne_of_gt hlt) (Heap.get?_push_size _ rfl)
  refine wpAny_pure ⟨_, rfl, ?_⟩
  show Q (.ref h₇.objs.size) { s with heap := h₁₀ }
  rw [hsz] at Z₁₀ hT ⊢
  exact hQ h₁₀ Z₁₀ hT fun c o c5 c4 c0 c1 c2 e => up c o c5 (Heap.get?_push_of_some _ (k₇ c o c5 c4 c0 c1 c2 e))
/-- the second list ends first -/
theorem zip3_end {x : Value} {Q : Fin → Shared → Prop} (hh : A.handled = none) (Z : Z3 s.heap I l1 l2 l3 xs ys zs k1 k2 k3 .none a b c) (hx : xs[k1]? = some x) (hy : ys[k2]? = none)
    (hE : ∀ h' e, Z3Keeps I s.heap h' → (∃ o, h'.get? e = some o ∧ o.cls = .type "StopIteration") → E (.ref e) { s with heap := h' }) :
    wpAny (model prog w) A (Builtin.«zip.__next__» ⟨[.ref (I + 5)], []⟩) Q E s := by
  show wpAny _ _ (field (.ref (I + 5)) 2 >>= _) _ _ _
  refine wpAny_bind (wpAny_field Z.z rfl (x := .bool false) rfl ?_)
  show wpAny _ _ (field (.ref (I + 5)) 3 >>= _) _ _ _
  refine wpAny_bind (wpAny_field Z.z rfl (x := .ref (I + 3)) rfl ?_)
  refine wpAny_bind (wpAny_seqItems Z.ti rfl ?_)
  show wpAny _ _ (Builtin.SmallTypes.ownedTupleIsFree (.ref (I + 5)) >>= _) _ _ _
  refine wpAny_bind ?_
  unfold Builtin.SmallTypes.ownedTupleIsFree
  refine wpAny_bind (wpAny_field Z.z rfl (x := .none) rfl (wpAny_pure ?_))
  simp only [if_true]
  refine wpAny_bind (wpAny_rule ?_)
  refine wpAny_bind (wpAny_field Z.z rfl (x := .ref (I + 4)) rfl ?_)
  refine wpAny_bind (wpAny_setField_rec Z.z (by simp) fun h₁ e₁ s₁ => ?_)
  have Z₁ := Z.setZ (f1 := .ellipsis) s₁ e₁
  refine wpAny_bind ?_
  simp only [List.zipIdx_cons, List.zipIdx_nil, List.forIn_cons, List.forIn_nil]
  refine wpAny_bind (wpAny_bind (wpAny_onRaise ?_))
  show wpAny _ _ (Builtin.SmallTypes.nextOf (.ref I) >>= _) _ _ _
  refine wpAny_bind (wpAny_nextOf_list_item Z₁.i1 Z₁.b1 hx fun h₂ e₂ s₂ => wpAny_pure ?_)
  have Z₂ := Z₁.next1 s₂ e₂
  refine wpAny_bind (wpAny_seqItems Z₂.tO rfl ?_)
  refine wpAny_bind (upd3 Z₂.tO fun h₃ e₃ s₃ => ?_)
  have Z₃ := Z₂.setO (a' := x) (b' := b) (c' := c) s₃ e₃
  refine wpAny_bind (wpAny_letGo (wpAny_pure ?_))
  refine wpAny_bind (wpAny_bind (wpAny_onRaise ?_))
  show wpAny _ _ (Builtin.SmallTypes.nextOf (.ref (I + 1)) >>= _) _ _ _
  refine wpAny_bind (wpAny_nextOf_list_end hh Z₃.i2 Z₃.b2 hy fun h₄ e s₄ he => ?_)
  obtain ⟨oe, hoe, hce⟩ := he
  have z₄ : h₄.get? (I + 5) = some (zipObj I .ellipsis) := s₄ _ _ (neN (by omega)) Z₃.z
  have hez : e ≠ I + 5 := fun x => by subst x; rw [z₄] at hoe; cases hoe; simp at hce
  refine wpAny_setField_rec z₄ (by simp) fun h₅ _ s₅ => hE h₅ e (fun c o c5 c4 c0 c1 _ x => s₅.extBut _ _ c5 (s₄ _ _ c1 (s₃.extBut _ _ c4 (s₂.extBut _ _ c0 (s₁.extBut _ _ c5 x))))) ⟨oe, s₅.extBut _ _ hez hoe, hce⟩
theorem next3_item {x y v : Value} {Q : Option Value → Shared → Prop} (Z : Z3 s.heap I l1 l2 l3 xs ys zs k1 k2 k3 .none a b c) (hx : xs[k1]? = some x) (hy : ys[k2]? = some y) (hv : zs[k3]? = some v)
    (hQ : ∀ h', Z3 h' I l1 l2 l3 xs ys zs (k1 + 1) (k2 + 1) (k3 + 1) (rawInt s.heap.objs.size) x y v → h'.get? s.heap.objs.size = some { cls := .type "tuple", data := .seq #[x, y, v] } →
      Z3Keeps I s.heap h' → Q (some (.ref s.heap.objs.size)) { s with heap := h' }) : wpAny (model prog w) A (pyNext (.ref (I + 5))) Q E s := by
  have hT : s.TypeIs (.ref (I + 5)) "zip" := ⟨_, Z.z, rfl⟩
  unfold pyNext
  exact wpAny_bind (wpAny_attempt (wpAny_callSpecial?_slot (name := Str.ofString "__next__") hT F.slot_zip_next
    (wpAny_call_entry F.slot_zip_next hT F.entry_zip_next (zip3_item Z hx hy hv fun h' a1 a2 a3 => wpAny_pure (hQ h' a1 a2 a3)) (F.args_zip_next_1 _))))
theorem next3_end {x : Value} {Q : Option Value → Shared → Prop} (hh : A.handled = none) (Z : Z3 s.heap I l1 l2 l3 xs ys zs k1 k2 k3 .none a b c) (hx : xs[k1]? = some x) (hy : ys[k2]? = none)
    (hQ : ∀ h', Z3Keeps I s.heap h' → Q none { s with heap := h' }) : wpAny (model prog w) A (pyNext (.ref (I + 5))) Q E s := by
  have hT : s.TypeIs (.ref (I + 5)) "zip" := ⟨_, Z.z, rfl⟩
  unfold pyNext
  refine wpAny_bind (wpAny_attempt (wpAny_callSpecial?_slot (name := Str.ofString "__next__") hT F.slot_zip_next
    (wpAny_call_entry F.slot_zip_next hT F.entry_zip_next (zip3_end hh Z hx hy fun h' e hk he => ?_) (F.args_zip_next_1 _))))
  obtain ⟨o, ho, hc⟩ := he
  refine wpAny_bind (wpAny_isInstance (T := "StopIteration") (b := true) ⟨o, ho, hc⟩ isSubtype_stop ?_)
  exact wpAny_pure (hQ _ hk)
/-- the turns of zip over lists of n + 1, n and n items -/
theorem zip3_turns {elts : List Expr} {kk : Nat} {pos : Pos} (hh : A.handled = none) (n : Nat) (hx : xs.size = n + 1) (hy : ys.size = n) (hv : zs.size = n) :
    KTurns prog w A (.Tuple elts kk pos) (I + 5) [I + 5, I + 3, I + 4, I, I + 1, I + 2, l1, l2, l3] [I + 5, I + 4, I, I + 1, I + 2] n
      (fun i v h => ∃ T x y z, v = .ref T ∧ xs[i]? = some x ∧ ys[i]? = some y ∧ zs[i]? = some z ∧ h.IsTuple T #[x, y, z])
      (fun i v h => ∃ T x y z, v = .ref T ∧ xs[i]? = some x ∧ ys[i]? = some y ∧ zs[i]? = some z ∧ h.IsTuple T #[x, y, z] ∧ T ≠ I + 5 ∧ ∃ a b c, Z3 h I l1 l2 l3 xs ys zs (i + 1) (i + 1) (i + 1) (rawInt T) a b c)
      (fun i h => ∃ a b c, Z3 h I l1 l2 l3 xs ys zs i i i .none a b c) where
  sub := fun b hb => by simp at hb ⊢; rcases hb with rfl | rfl | rfl | rfl | rfl <;> simp
  frame := fun i h h' st hk => by
    obtain ⟨a, b, c, Z⟩ := st
    exact ⟨a, b, c, Z.keep fun q o hq e => hk q (by rcases hq with rfl | rfl | rfl | rfl | rfl | rfl | rfl | rfl | rfl <;> simp) o e⟩
  item := fun i s Q E hi st hQ => by
    obtain ⟨a, b, c, Z⟩ := st
    have h1 : xs[i]? = some xs[i] := Array.getElem?_eq_getElem (by omega)
    have h2 : ys[i]? = some ys[i] := Array.getElem?_eq_getElem (by omega)
    have h3 : zs[i]? = some zs[i] := Array.getElem?_eq_getElem (by omega)
    refine next3_item Z h1 h2 h3 fun h' Z' hT hk => ?_
    exact hQ (.ref s.heap.objs.size) h' s.toks ⟨_, _, _, _, rfl, h1, h2, h3, ⟨_, hT, rfl, _, rfl⟩, Nat.ne_of_gt (Heap.lt_size Z.z), _, _, _, Z'⟩
      fun q o hq e => hk q o (fun x => hq (by simp [x])) (fun x => hq (by simp [x])) (fun x => hq (by simp [x])) (fun x => hq (by simp [x])) (fun x => hq (by simp [x])) e
  go := fun i v s Q E hm hQ => by
    obtain ⟨T, x, y, z, rfl, h1, h2, h3, hT, hne, a, b, c, Z⟩ := hm
    refine wpAny_letOwnedTupleGo_zip (TI := I + 3) (TO := I + 4) Z.z fun h' hz' hs' => ?_
    exact hQ h' ⟨T, x, y, z, rfl, h1, h2, h3, hT.at fun o e => hs'.extBut _ _ hne e⟩ ⟨a, b, c, Z.setZ hs' hz'⟩ fun q o hq e => hs'.extBut _ _ (fun x => hq (by simp [x])) e
  done := fun s Q E st hQ => by
    obtain ⟨a, b, c, Z⟩ := st
    have h1 : xs[n]? = some xs[n] := Array.getElem?_eq_getElem (by omega)
    exact next3_end hh Z h1 (Array.getElem?_eq_none (by omega)) fun h' hk => hQ h' s.toks
      fun q o hq e => hk q o (fun x => hq (by simp [x])) (fun x => hq (by simp [x])) (fun x => hq (by simp [x])) (fun x => hq (by simp [x])) (fun x => hq (by simp [x])) e
end
theorem typeCall_zip_3 (a b c : Value) : checkTypeCall "zip" ⟨[a, b, c], []⟩ = pure () := by kernel_rfl
theorem newCall_zip_3 (a b c : Value) : checkBuiltinCall "zip.__new__" ⟨[.type "zip", a, b, c], []⟩ = pure () := by kernel_rfl
theorem args_object_init_4 (a b c d : Value) : argsOk "object.__init__" ⟨[a, b, c, d], []⟩ := by
  unfold argsOk; rw [signature?_of (id := "object.__init__") (n := ['_', '_', 't', 'i', 'n', 'i', '_', '_']) (o := ['t', 'c', 'e', 'j', 'b', 'o']) (by kernel_rfl) F.owner_object]; kernel_rfl
abbrev litO (l : Addr) : Obj := { cls := .type "list_iterator", data := .fields #[.ref l, .int 0 0] }
abbrev zH1 (h : Heap) (l1 : Addr) : Heap := h.push (litO l1)
abbrev zH2 (h : Heap) (l1 l2 : Addr) : Heap := (zH1 h l1).push (litO l2)
abbrev zH3 (h : Heap) (l1 l2 l3 : Addr) : Heap := (zH2 h l1 l2).push (litO l3)
abbrev zH4 (h : Heap) (l1 l2 l3 : Addr) : Heap := (zH3 h l1 l2 l3).push { cls := .type "tuple", data := .seq #[.ref h.objs.size, .ref (zH1 h l1).objs.size, .ref (zH2 h l1 l2).objs.size] }
abbrev zH5 (h : Heap) (l1 l2 l3 : Addr) : Heap := (zH4 h l1 l2 l3).push { cls := .type "tuple", data := .seq #[.none, .none, .none] }
abbrev zH6 (h : Heap) (l1 l2 l3 : Addr) : Heap := (zH5 h l1 l2 l3).push { cls := .type "zip", data := .fields #[.none, .bool false, .bool false, .ref (zH3 h l1 l2 l3).objs.size, .ref (zH4 h l1 l2 l3).objs.size] }
set_option maxRecDepth 100000 in
set_option maxHeartbeats 8000000 in
theorem meets_zip3 (l1 l2 l3 : Addr) (xs ys zs : Array Value) :
    Meets (Builtin.«zip.__new__» ⟨[.type "zip", .ref l1, .ref l2, .ref l3], []⟩) (fun _ R s => s.heap.IsList l1 xs ∧ s.heap.IsList l2 ys ∧ s.heap.IsList l3 zs ∧
      R (.ok (.ret (.ref (zH5 s.heap l1 l2 l3).objs.size))) { s with heap := zH6 s.heap l1 l2 l3 }) :=
  .of_wp fun prog w A R s h => by
    obtain ⟨hp, g, d, tk, os⟩ := s; obtain ⟨hl1, hl2, hl3, h⟩ := h
    have hsub := sub_zip
    have hL1 : Heap.IsList (Shared.heap ⟨hp, g, d, tk, os⟩) l1 xs := hl1
    have hL2 : Heap.IsList (Shared.heap ⟨hp.push (litO l1), g, d, tk, os⟩) l2 ys := Heap.IsList.push hl2 _
    have hL3 : Heap.IsList (Shared.heap ⟨(hp.push (litO l1)).push (litO l2), g, d, tk, os⟩) l3 zs := Heap.IsList.push (Heap.IsList.push hl3 _) _
    wp_walk using wpAny_pyIter_list hL1, wpAny_pyIter_list hL2, wpAny_pyIter_list hL3
    exact ⟨_, rfl, h⟩
section
variable {prog : Program} {w : World} {A : Around} {E : Value → Shared → Prop} {s : Shared} {xs ys zs : Array Value}
theorem call_zip3 {l1 l2 l3 : Addr} {Q : Value → Shared → Prop} (hl1 : s.heap.IsList l1 xs) (hl2 : s.heap.IsList l2 ys) (hl3 : s.heap.IsList l3 zs)
    (h : ∀ h', Z3 h' s.heap.objs.size l1 l2 l3 xs ys zs 0 0 0 .none .none .none .none → (∀ c o, s.heap.get? c = some o → h'.get? c = some o) → Q (.ref (s.heap.objs.size + 5)) { s with heap := h' }) :
    wpAny (model prog w) A (call (.type "zip") [.ref l1, .ref l2, .ref l3]) Q E s := by
  refine callType_new F.called_zip (by decide) (typeCall_zip_3 _ _ _) (newCall_zip_3 _ _ _) (fun obj => args_object_init_4 obj _ _ _) F.entry_zip_new
    (meets_zip3 l1 l2 l3 xs ys zs) ⟨hl1, hl2, hl3, ?_⟩
  have z1 : (zH1 s.heap l1).objs.size = s.heap.objs.size + 1 := Heap.size_push ..
  have z2 : (zH2 s.heap l1 l2).objs.size = s.heap.objs.size + 2 := by rw [Heap.size_push, z1]
  have z3 : (zH3 s.heap l1 l2 l3).objs.size = s.heap.objs.size + 3 := by rw [Heap.size_push, z2]
  have z4 : (zH4 s.heap l1 l2 l3).objs.size = s.heap.objs.size + 4 := by rw [Heap.size_push, z3]
  have z5 : (zH5 s.heap l1 l2 l3).objs.size = s.heap.objs.size + 5 := by rw [Heap.size_push, z4]
  have up {h : Heap} {o' : Obj} {c : Addr} {o : Obj} (e : h.get? c = some o) : (h.push o').get? c = some o := Heap.get?_push_of_some _ e
  have g6 : (zH6 s.heap l1 l2 l3).get? (zH5 s.heap l1 l2 l3).objs.size = some _ := Heap.get?_push_size _ rfl
  have g5 : (zH6 s.heap l1 l2 l3).get? (zH4 s.heap l1 l2 l3).objs.size = some _ := up (Heap.get?_push_size _ rfl)
  have g4 : (zH6 s.heap l1 l2 l3).get? (zH3 s.heap l1 l2 l3).objs.size = some _ := up (up (Heap.get?_push_size _ rfl))
  have g3 : (zH6 s.heap l1 l2 l3).get? (zH2 s.heap l1 l2).objs.size = some _ := up (up (up (Heap.get?_push_size _ rfl)))
  have g2 : (zH6 s.heap l1 l2 l3).get? (zH1 s.heap l1).objs.size = some _ := up (up (up (up (Heap.get?_push_size _ rfl))))
  have g1 : (zH6 s.heap l1 l2 l3).get? s.heap.objs.size = some _ := up (up (up (up (up (Heap.get?_push_size _ rfl)))))
  have hk : ∀ c o, s.heap.get? c = some o → (zH6 s.heap l1 l2 l3).get? c = some o := fun c o x => up (up (up (up (up (up x)))))
  show _ ∧ _
  rw [z3, z4, z5] at g6
  rw [z4] at g5
  rw [z1, z2, z3] at g4
  rw [z2] at g3
  rw [z1] at g2
  rw [z5]
  refine ⟨⟨_, g6, rfl⟩, h _ ⟨g6, g4, g5, ⟨_, g1, rfl, rfl⟩, ⟨_, g2, rfl, rfl⟩, ⟨_, g3, rfl, rfl⟩, hl1.at fun o e => hk _ o e, hl2.at fun o e => hk _ o e, hl3.at fun o e => hk _ o e, ?_⟩ hk⟩
  obtain ⟨o1, e1, _⟩ := hl1
  obtain ⟨o2, e2, _⟩ := hl2
  obtain ⟨o3, e3, _⟩ := hl3
  exact ⟨Heap.lt_size e1, Heap.lt_size e2, Heap.lt_size e3⟩
end
end Mine
end
section
open PySem PySem.W PyProof.Rows PySem.Calls
namespace Mine
section
variable {prog : Program} {w : World} {A : Around} {E : Value → Shared → Prop} {s : Shared} {env : Env} {h₀ : Heap} {body : List Stmt} {Q : Flow → Shared → Prop}
theorem toksQ {α : Type} {M : Model} {A : Around} {E : Value → Shared → Prop} {s : Shared} {t : Sem α} {Q : α → Shared → Prop} {n : Nat} (hn : n ≤ s.toks) (h : wpAny M A t (fun a s' => n ≤ s'.toks → Q a s') E s) : wpAny M A t Q E s :=
  wpAny_mono (wpAny_toks_of hn h) (fun _ _ x => x.2 x.1) (fun _ _ x => x.2)
/-- a turn's end -/
def TripEnd (h₀ : Heap) (L : Addr) (s : Shared) (news : List (Addr × Obj)) (rest : (Str → Option Value) → Prop) (f : Flow) (s₃ : Shared) : Prop :=
  f = .next ∧ ∃ h' tk' m', s₃ = { s with heap := h', toks := tk' } ∧ Fr h₀ L h' m' ∧ News h₀ L h' news ∧ rest m'
theorem TripEnd.intro {L : Addr} {s : Shared} {news : List (Addr × Obj)} {rest : (Str → Option Value) → Prop} {h' : Heap} {tk' : Nat} {m' : Str → Option Value} (F : Fr h₀ L h' m') (N : News h₀ L h' news) (r : rest m') :
    TripEnd h₀ L s news rest .next { s with heap := h', toks := tk' } := ⟨rfl, _, _, _, rfl, F, N, r⟩
/-- what is left of a loop over triples -/
def TripRest (prog : Program) (w : World) (A : Around) (E : Value → Shared → Prop) (h₀ : Heap) (env : Env) (target : Expr) (body : List Stmt) (Q : Flow → Shared → Prop) (s : Shared) : List (Value × Value × Value) → (Str → Option Value) → List (Addr × Obj) → Prop
  | [], m, news => ∀ h tk, Fr h₀ env.locals h m → News h₀ env.locals h news → Q .next { s with heap := h, toks := tk }
  | a :: r, m, news => ∀ T h tk own, IsTup h T #[a.1, a.2.1, a.2.2] → Fr h₀ env.locals h m → News h₀ env.locals h (own ++ news) →
      wpAny (model prog w) A (assign target env (.ref T)) (fun _ s₂ => wpAny (model prog w) A (execs body env) (TripEnd h₀ env.locals s (own ++ news) fun m' => TripRest prog w A E h₀ env target body Q s r m' news) E s₂) E { s with heap := h, toks := tk }
theorem zip3_loop {elts : List Expr} {k : Nat} {pos : Pos} {l1 l2 l3 : Nat} {lo1 lo2 lo3 : Obj} {x0 : Value} {xs ys zs : List Value} {n1 n2 n3 : Nat} {m₀ : Str → Option Value} {news : List (Addr × Obj)}
    (hh : A.handled = none) (F : Fr h₀ env.locals s.heap m₀) (N : News h₀ env.locals s.heap news)
    (hm1 : (l1, lo1) ∈ news) (hc1 : lo1.cls = .type "list") (hd1 : lo1.data = .seq (xs ++ [x0]).toArray n1) (hm2 : (l2, lo2) ∈ news) (hc2 : lo2.cls = .type "list") (hd2 : lo2.data = .seq ys.toArray n2)
    (hm3 : (l3, lo3) ∈ news) (hc3 : lo3.cls = .type "list") (hd3 : lo3.data = .seq zs.toArray n3) (hxy : xs.length = ys.length) (hyz : ys.length = zs.length)
    (rest₀ : TripRest prog w A E h₀ env (.Tuple elts k pos) body Q s (xs.zip (ys.zip zs)) m₀ news) :
    wpAny (model prog w) A (call (.type "zip") [.ref l1, .ref l2, .ref l3]) (fun xv s₁ => wpAny (model prog w) A (pyIter xv) (fun it s₂ => TurnsAt prog w A h₀ env (.Tuple elts k pos) body Q E it s₂) E s₁) E s := by
  have a1 := N _ hm1
  have a2 := N _ hm2
  have a3 := N _ hm3
  have hl1 : s.heap.IsList l1 (xs ++ [x0]).toArray := ⟨lo1, a1.1, hc1, n1, hd1⟩
  have hl2 : s.heap.IsList l2 ys.toArray := ⟨lo2, a2.1, hc2, n2, hd2⟩
  have hl3 : s.heap.IsList l3 zs.toArray := ⟨lo3, a3.1, hc3, n3, hd3⟩
  refine call_zip3 hl1 hl2 hl3 fun h' Z hk => ?_
  refine wpAny_pyIter_zip (TI := s.heap.objs.size + 3) (TO := s.heap.objs.size + 4) Z.z ?_
  have hL : env.locals < s.heap.objs.size := F.ns.lt
  have hlt := Z.lt
  have hnew : ∀ k, h₀.get? (s.heap.objs.size + k) = none := fun k => ktu_new F (Nat.le_add_right _ _)
  let J : Nat → (Str → Option Value) → List (Addr × Obj) → Prop := fun i m₁ news₁ => news₁ = news ∧ TripRest prog w A E h₀ env (.Tuple elts k pos) body Q s ((xs.zip (ys.zip zs)).drop i) m₁ news
  refine ⟨s.heap.objs.size + 5, _, _, ys.length, _, _, _, m₀, news, J, rfl, zip3_turns (I := s.heap.objs.size) (l1 := l1) (l2 := l2) (l3 := l3) (xs := (xs ++ [x0]).toArray) (ys := ys.toArray) (zs := zs.toArray) hh ys.length (by simp [hxy]) (by simp) (by simp [hyz]), ?_, ?_, ?_, ⟨_, _, _, Z⟩, F.keeps hk, N.grown hk, ⟨rfl, by rw [List.drop_zero]; exact rest₀⟩, ?_, ?_⟩
  · intro hI
    have q1 := a1.2.1
    have q2 := a2.2.1
    have q3 := a3.2.1
    simp only [List.mem_cons, List.not_mem_nil, or_false] at hI
    rcases hI with e | e | e | e | e | e | e | e | e
    · exact ktu_ne 5 hL e
    · exact ktu_ne 3 hL e
    · exact ktu_ne 4 hL e
    · exact Nat.ne_of_lt hL e
    · exact ktu_ne 1 hL e
    · exact ktu_ne 2 hL e
    · exact q1 e.symm
    · exact q2 e.symm
    · exact q3 e.symm
  · intro b hb
    simp only [List.mem_cons, List.not_mem_nil, or_false] at hb
    rcases hb with rfl | rfl | rfl | rfl | rfl
    · exact hnew 5
    · exact hnew 4
    · exact hnew 0
    · exact hnew 1
    · exact hnew 2
  · intro p hp hI
    have hlp := Heap.lt_size (N p hp).1
    simp only [List.mem_cons, List.not_mem_nil, or_false] at hI
    rcases hI with e | e | e | e | e
    · exact ktu_ne 5 hlp e
    · exact ktu_ne 4 hlp e
    · exact Nat.ne_of_lt hlp e
    · exact ktu_ne 1 hlp e
    · exact ktu_ne 2 hlp e
  · rintro i v m₁ news₁ h₁ tk₁ own hin ⟨T, x, y, z, rfl, e1, e2, e3, hT⟩ ⟨rfl, hJ⟩ hoff hown hget hall hst F₁ N₁
    have hi : i < (xs.zip (ys.zip zs)).length := by simp only [List.length_zip]; omega
    have g1 : xs[i]? = some x := by
      have q : (xs ++ [x0])[i]? = some x := by simpa using e1
      rw [List.getElem?_append_left (by omega)] at q
      exact q
    have g2 : ys[i]? = some y := by simpa using e2
    have g3 : zs[i]? = some z := by simpa using e3
    have ha : (xs.zip (ys.zip zs))[i]? = some (x, y, z) := by
      rw [List.getElem?_zip_eq_some]
      exact ⟨g1, List.getElem?_zip_eq_some.mpr ⟨g2, g3⟩⟩
    have hdrop : (xs.zip (ys.zip zs)).drop i = (x, y, z) :: (xs.zip (ys.zip zs)).drop (i + 1) := by
      rw [List.drop_eq_getElem_cons hi]
      congr 1
      exact Option.some.inj ((List.getElem?_eq_getElem hi).symm.trans ha)
    rw [hdrop] at hJ
    refine wpAny_mono (hJ T h₁ tk₁ own hT F₁ N₁) (fun _ s₂ h₂ => wpAny_mono h₂ (fun f s₃ p => ?_) fun _ _ e => e) fun _ _ e => e
    obtain ⟨rfl, h', tk', m', rfl, F', N', r⟩ := p
    exact .next ⟨rfl, h', tk', m', _, rfl, F', N', hoff, rfl, r⟩
  · rintro h₁ tk m' news' F₁ N₁ _ ⟨rfl, hJ⟩
    have e : (xs.zip (ys.zip zs)).drop ys.length = [] := List.drop_eq_nil_of_le (by simp only [List.length_zip]; omega)
    rw [e] at hJ
    exact hJ h₁ tk F₁ N₁
theorem TripRest.cons {a : Value × Value × Value} {r : List (Value × Value × Value)} {target : Expr} {m : Str → Option Value} {news : List (Addr × Obj)}
    (h : ∀ T h tk own, IsTup h T #[a.1, a.2.1, a.2.2] → Fr h₀ env.locals h m → News h₀ env.locals h (own ++ news) →
      wpAny (model prog w) A (assign target env (.ref T)) (fun _ s₂ => wpAny (model prog w) A (execs body env) (TripEnd h₀ env.locals s (own ++ news) fun m' => TripRest prog w A E h₀ env target body Q s r m' news) E s₂) E { s with heap := h, toks := tk }) :
    TripRest prog w A E h₀ env target body Q s (a :: r) m news := h
theorem TripRest.nil {target : Expr} {m : Str → Option Value} {news : List (Addr × Obj)} (h : ∀ h tk, Fr h₀ env.locals h m → News h₀ env.locals h news → Q .next { s with heap := h, toks := tk }) :
    TripRest prog w A E h₀ env target body Q s [] m news := h
theorem zip3_loop1 {elts : List Expr} {k : Nat} {pos : Pos} {l1 l2 l3 : Nat} {lo1 lo2 lo3 : Obj} {xl x0 y0 z0 : Value} {n1 n2 n3 : Nat} {m₀ : Str → Option Value} {news : List (Addr × Obj)}
    (hh : A.handled = none) (F : Fr h₀ env.locals s.heap m₀) (N : News h₀ env.locals s.heap news)
    (hm1 : (l1, lo1) ∈ news) (hc1 : lo1.cls = .type "list") (hd1 : lo1.data = .seq #[x0, xl] n1) (hm2 : (l2, lo2) ∈ news) (hc2 : lo2.cls = .type "list") (hd2 : lo2.data = .seq #[y0] n2)
    (hm3 : (l3, lo3) ∈ news) (hc3 : lo3.cls = .type "list") (hd3 : lo3.data = .seq #[z0] n3)
    (rest₀ : TripRest prog w A E h₀ env (.Tuple elts k pos) body Q s [(x0, y0, z0)] m₀ news) :
    wpAny (model prog w) A (call (.type "zip") [.ref l1, .ref l2, .ref l3]) (fun xv s₁ => wpAny (model prog w) A (pyIter xv) (fun it s₂ => TurnsAt prog w A h₀ env (.Tuple elts k pos) body Q E it s₂) E s₁) E s :=
  zip3_loop (xs := [x0]) (ys := [y0]) (zs := [z0]) (x0 := xl) hh F N hm1 hc1 hd1 hm2 hc2 hd2 hm3 hc3 hd3 rfl rfl rest₀
theorem zip3_loop2 {elts : List Expr} {k : Nat} {pos : Pos} {l1 l2 l3 : Nat} {lo1 lo2 lo3 : Obj} {xl x0 x1 y0 y1 z0 z1 : Value} {n1 n2 n3 : Nat} {m₀ : Str → Option Value} {news : List (Addr × Obj)}
    (hh : A.handled = none) (F : Fr h₀ env.locals s.heap m₀) (N : News h₀ env.locals s.heap news)
    (hm1 : (l1, lo1) ∈ news) (hc1 : lo1.cls = .type "list") (hd1 : lo1.data = .seq #[x0, x1, xl] n1) (hm2 : (l2, lo2) ∈ news) (hc2 : lo2.cls = .type "list") (hd2 : lo2.data = .seq #[y0, y1] n2)
    (hm3 : (l3, lo3) ∈ news) (hc3 : lo3.cls = .type "list") (hd3 : lo3.data = .seq #[z0, z1] n3)
    (rest₀ : TripRest prog w A E h₀ env (.Tuple elts k pos) body Q s [(x0, y0, z0), (x1, y1, z1)] m₀ news) :
    wpAny (model prog w) A (call (.type "zip") [.ref l1, .ref l2, .ref l3]) (fun xv s₁ => wpAny (model prog w) A (pyIter xv) (fun it s₂ => TurnsAt prog w A h₀ env (.Tuple elts k pos) body Q E it s₂) E s₁) E s :=
  zip3_loop (xs := [x0, x1]) (ys := [y0, y1]) (zs := [z0, z1]) (x0 := xl) hh F N hm1 hc1 hd1 hm2 hc2 hd2 hm3 hc3 hd3 rfl rfl rest₀
theorem zip3_loop3 {elts : List Expr} {k : Nat} {pos : Pos} {l1 l2 l3 : Nat} {lo1 lo2 lo3 : Obj} {xl x0 x1 x2 y0 y1 y2 z0 z1 z2 : Value} {n1 n2 n3 : Nat} {m₀ : Str → Option Value} {news : List (Addr × Obj)}
    (hh : A.handled = none) (F : Fr h₀ env.locals s.heap m₀) (N : News h₀ env.locals s.heap news)
    (hm1 : (l1, lo1) ∈ news) (hc1 : lo1.cls = .type "list") (hd1 : lo1.data = .seq #[x0, x1, x2, xl] n1) (hm2 : (l2, lo2) ∈ news) (hc2 : lo2.cls = .type "list") (hd2 : lo2.data = .seq #[y0, y1, y2] n2)
    (hm3 : (l3, lo3) ∈ news) (hc3 : lo3.cls = .type "list") (hd3 : lo3.data = .seq #[z0, z1, z2] n3)
    (rest₀ : TripRest prog w A E h₀ env (.Tuple elts k pos) body Q s [(x0, y0, z0), (x1, y1, z1), (x2, y2, z2)] m₀ news) :
    wpAny (model prog w) A (call (.type "zip") [.ref l1, .ref l2, .ref l3]) (fun xv s₁ => wpAny (model prog w) A (pyIter xv) (fun it s₂ => TurnsAt prog w A h₀ env (.Tuple elts k pos) body Q E it s₂) E s₁) E s :=
  zip3_loop (xs := [x0, x1, x2]) (ys := [y0, y1, y2]) (zs := [z0, z1, z2]) (x0 := xl) hh F N hm1 hc1 hd1 hm2 hc2 hd2 hm3 hc3 hd3 rfl rfl rest₀
end
end Mine
end
section
open PySem PySem.W PyProof.Rows PySem.Calls PyProof.V PySem.Spec
namespace Mine
theorem tx_canLay : ∀ ts : List PySem.Str, (∀ t ∈ ts, PyData.strOk t = true) → PyData.canLayAll0 (ts.map PyData.str) = true
  | [], _ => rfl
  | a :: r, h => by simp [PyData.canLayAll0, PyData.canLay0, tx_canLay r fun t ht => h t (List.mem_cons_of_mem _ ht), h a (List.mem_cons_self ..)]
theorem tx_depth : ∀ ts : List PySem.Str, PyData.depthAll (ts.map PyData.str) = 0
  | [] => rfl
  | _ :: r => by simp [PyData.depthAll, PyData.depth, tx_depth r]
theorem tx_shaped (ts : List PySem.Str) (h : ∀ t ∈ ts, PyData.strOk t = true) : SeqAt.shaped (.list (ts.map PyData.str)) = true := by
  simp [SeqAt.shaped, PyData.canLay0, PyData.depth, tx_canLay ts h, tx_depth]
theorem tx_sameAll : ∀ ts : List PySem.Str, PySem.Spec.sameAll (ts.map PyData.str) (ts.map PyData.str) = true
  | [] => by simp [PySem.Spec.sameAll]
  | a :: r => by
    simp only [List.map_cons, PySem.Spec.sameAll, PySem.Spec.same, tx_sameAll r]
    simp
section
variable {prog : Program} {w : World} {A : Around} {E : Value → Shared → Prop} {s : Shared} {h₀ : Heap} {L a b : Addr} {news : List (Addr × Obj)} {xs ys : List Value} {ts rs : List PySem.Str} {n1 n2 : Nat} {Q : Value → Shared → Prop}
/-- two made lists of the same texts are equal -/
theorem eq_texts (N : News h₀ L s.heap news) (ha : (a, W.listOf xs.toArray n1) ∈ news) (hb : (b, W.listOf ys.toArray n2) ∈ news) (hi : StrsAre xs ts) (hj : StrsAre ys rs) (e : ts = rs) (hk : ∀ t ∈ ts, PyData.strOk t = true) (hu : A.units + 64 < cLine) (h : Q (.bool true) s) :
    wpAny (model prog w) A (compareOp .Eq (.ref a) (.ref b)) Q E s := by
  subst e
  exact eq_dataH_same (reads_newData ⟨_, (N _ ha).1, rfl, _, rfl⟩ hi.carried) (reads_newData ⟨_, (N _ hb).1, rfl, _, rfl⟩ hj.carried) (tx_shaped _ hk) (tx_shaped _ hk) hu
    (SeqAt.noMix_of_shape (.list .str) rfl _ _ (list_map_has fun _ => rfl) (list_map_has fun _ => rfl)) (by simp only [PySem.Spec.same, tx_sameAll]; exact h)
end
theorem strs2 {a b : PySem.Str} {t u : Tok} : StrsAre [.str a t, .str b u] [a, b] := .cons a t (.cons b u .nil)
theorem strs3 {a b c : PySem.Str} {t u v : Tok} : StrsAre [.str a t, .str b u, .str c v] [a, b, c] := .cons a t (.cons b u (.cons c v .nil))
theorem strs4 {a b c d : PySem.Str} {t u v w : Tok} : StrsAre [.str a t, .str b u, .str c v, .str d w] [a, b, c, d] := .cons a t (.cons b u (.cons c v (.cons d w .nil)))
end Mine
end
section
open PySem PySem.W PyProof.Rows PySem.Calls
namespace Mine
def e1 (x : Str) : Str := Txt.replace x (Str.ofString "&") (Str.ofString "&amp;")
def e2 (x : Str) : Str := Txt.replace (e1 x) (Str.ofString ">") (Str.ofString "&gt;")
def e3 (x : Str) : Str := Txt.replace (e2 x) (Str.ofString "<") (Str.ofString "&lt;")
def e4 (x : Str) : Str := Txt.replace (e3 x) (Str.ofString "\n") (Str.ofString "&#10;")
def e5 (x : Str) : Str := Txt.replace (e4 x) (Str.ofString "\r") (Str.ofString "&#13;")
def e6 (x : Str) : Str := Txt.replace (e5 x) (Str.ofString "\t") (Str.ofString "&#9;")
def e7 (x : Str) : Str := Txt.replace (e6 x) (Str.ofString "\"") (Str.ofString "&quot;")
theorem rp_one {x y z : Str} {c : Nat} {l : List Nat} (hy : y = ⟨#[c]⟩) (hz : z.cps.toList = l) : (Txt.replace x y z).cps.toList = x.cps.toList.flatMap fun d => if d = c then l else [d] := by
  subst hy hz
  rw [rpg_replace (y := ⟨#[c]⟩) _ _ (Nat.le_refl 1)]
  exact rpg_one c _ _
theorem flat_grows (c : Nat) (z : List Nat) (hz : 1 ≤ z.length) : ∀ l : List Nat, l.length ≤ (l.flatMap fun d => if d = c then z else [d]).length
  | [] => Nat.le_refl _
  | a :: r => by
    have ih := flat_grows c z hz r
    rw [List.flatMap_cons, List.length_append, List.length_cons]
    by_cases h : a = c
    · rw [if_pos h]; omega
    · rw [if_neg h]; simp only [List.length_singleton]; omega
theorem len_list (x : Str) : x.length = x.cps.toList.length := by simp [Str.length]
theorem e1_list (x : Str) : (e1 x).cps.toList = x.cps.toList.flatMap fun d => if d = 38 then [38, 97, 109, 112, 59] else [d] := rp_one (by decide +kernel) (by decide +kernel)
theorem e1_grows (x : Str) : x.length ≤ (e1 x).length := by
  rw [len_list, len_list, e1_list]
  exact flat_grows _ _ (Nat.le_of_ble_eq_true rfl) _
theorem e2_list (x : Str) : (e2 x).cps.toList = (e1 x).cps.toList.flatMap fun d => if d = 62 then [38, 103, 116, 59] else [d] := rp_one (by decide +kernel) (by decide +kernel)
theorem e2_grows (x : Str) : (e1 x).length ≤ (e2 x).length := by
  rw [len_list, len_list, e2_list]
  exact flat_grows _ _ (Nat.le_of_ble_eq_true rfl) _
theorem e3_list (x : Str) : (e3 x).cps.toList = (e2 x).cps.toList.flatMap fun d => if d = 60 then [38, 108, 116, 59] else [d] := rp_one (by decide +kernel) (by decide +kernel)
theorem e3_grows (x : Str) : (e2 x).length ≤ (e3 x).length := by
  rw [len_list, len_list, e3_list]
  exact flat_grows _ _ (Nat.le_of_ble_eq_true rfl) _
theorem e4_list (x : Str) : (e4 x).cps.toList = (e3 x).cps.toList.flatMap fun d => if d = 10 then [38, 35, 49, 48, 59] else [d] := rp_one (by decide +kernel) (by decide +kernel)
theorem e4_grows (x : Str) : (e3 x).length ≤ (e4 x).length := by
  rw [len_list, len_list, e4_list]
  exact flat_grows _ _ (Nat.le_of_ble_eq_true rfl) _
theorem e5_list (x : Str) : (e5 x).cps.toList = (e4 x).cps.toList.flatMap fun d => if d = 13 then [38, 35, 49, 51, 59] else [d] := rp_one (by decide +kernel) (by decide +kernel)
theorem e5_grows (x : Str) : (e4 x).length ≤ (e5 x).length := by
  rw [len_list, len_list, e5_list]
  exact flat_grows _ _ (Nat.le_of_ble_eq_true rfl) _
theorem e6_list (x : Str) : (e6 x).cps.toList = (e5 x).cps.toList.flatMap fun d => if d = 9 then [38, 35, 57, 59] else [d] := rp_one (by decide +kernel) (by decide +kernel)
theorem e6_grows (x : Str) : (e5 x).length ≤ (e6 x).length := by
  rw [len_list, len_list, e6_list]
  exact flat_grows _ _ (Nat.le_of_ble_eq_true rfl) _
theorem e7_list (x : Str) : (e7 x).cps.toList = (e6 x).cps.toList.flatMap fun d => if d = 34 then [38, 113, 117, 111, 116, 59] else [d] := rp_one (by decide +kernel) (by decide +kernel)
theorem e7_grows (x : Str) : (e6 x).length ≤ (e7 x).length := by
  rw [len_list, len_list, e7_list]
  exact flat_grows _ _ (Nat.le_of_ble_eq_true rfl) _
theorem e6_flat (x : Str) : (e6 x).cps.toList = x.cps.toList.flatMap (esc false) := by
  rw [e6_list, e5_list, e4_list, e3_list, e2_list, e1_list]
  simp only [List.flatMap_assoc]
  congr 1
  funext a
  by_cases h1 : a = 38
  · subst h1; rfl
  by_cases h2 : a = 62
  · subst h2; rfl
  by_cases h3 : a = 60
  · subst h3; rfl
  by_cases h4 : a = 10
  · subst h4; rfl
  by_cases h5 : a = 13
  · subst h5; rfl
  by_cases h6 : a = 9
  · subst h6; rfl
  simp [esc, h1, h2, h3, h4, h5, h6]
theorem e7_flat (x : Str) : (e7 x).cps.toList = x.cps.toList.flatMap (esc true) := by
  rw [e7_list, e6_flat]
  simp only [List.flatMap_assoc]
  congr 1
  funext a
  by_cases h1 : a = 38
  · subst h1; rfl
  by_cases h2 : a = 62
  · subst h2; rfl
  by_cases h3 : a = 60
  · subst h3; rfl
  by_cases h4 : a = 10
  · subst h4; rfl
  by_cases h5 : a = 13
  · subst h5; rfl
  by_cases h6 : a = 9
  · subst h6; rfl
  by_cases h7 : a = 34
  · subst h7; rfl
  simp [esc, h1, h2, h3, h4, h5, h6, h7]
theorem e7_len (x : Str) : (e7 x).length ≤ 6 * x.length := by
  rw [len_list, e7_flat, len_list x]
  exact flat_len _ (esc_len true) _
theorem e6_len (x : Str) : (e6 x).length ≤ 6 * x.length := Nat.le_trans (e7_grows x) (e7_len x)
theorem e5_len (x : Str) : (e5 x).length ≤ 6 * x.length := Nat.le_trans (e6_grows x) (e6_len x)
theorem e4_len (x : Str) : (e4 x).length ≤ 6 * x.length := Nat.le_trans (e5_grows x) (e5_len x)
theorem e3_len (x : Str) : (e3 x).length ≤ 6 * x.length := Nat.le_trans (e4_grows x) (e4_len x)
theorem e2_len (x : Str) : (e2 x).length ≤ 6 * x.length := Nat.le_trans (e3_grows x) (e3_len x)
theorem e1_len (x : Str) : (e1 x).length ≤ 6 * x.length := Nat.le_trans (e2_grows x) (e2_len x)
def u1 (x : Str) : Str := Txt.replace x (Str.ofString "&lt;") (Str.ofString "<")
def u2 (x : Str) : Str := Txt.replace (u1 x) (Str.ofString "&gt;") (Str.ofString ">")
def u3 (x : Str) : Str := Txt.replace (u2 x) (Str.ofString "&quot;") (Str.ofString "\"")
def u4 (x : Str) : Str := Txt.replace (u3 x) (Str.ofString "&#10;") (Str.ofString "\n")
def u5 (x : Str) : Str := Txt.replace (u4 x) (Str.ofString "&amp;") (Str.ofString "&")
theorem rp_many {x y z : Str} {k l : List Nat} (hy : y.cps.toList = k) (hz : z.cps.toList = l) (hk : 1 ≤ k.length) : (Txt.replace x y z).cps.toList = rpg k l 0 x.cps.toList := by
  subst hy hz
  exact rpg_replace x z (by rw [len_list]; exact hk)
theorem u1_list (x : Str) : (u1 x).cps.toList = rpg [38, 108, 116, 59] [60] 0 x.cps.toList := rp_many (by decide +kernel) (by decide +kernel) (Nat.le_of_ble_eq_true rfl)
theorem u1_len (x : Str) : (u1 x).length ≤ x.length := by
  rw [len_list, u1_list, len_list x]
  exact rpg_len (Nat.le_of_ble_eq_true rfl) _ 0
theorem u2_list (x : Str) : (u2 x).cps.toList = rpg [38, 103, 116, 59] [62] 0 (u1 x).cps.toList := rp_many (by decide +kernel) (by decide +kernel) (Nat.le_of_ble_eq_true rfl)
theorem u2_len (x : Str) : (u2 x).length ≤ x.length := by
  refine Nat.le_trans ?_ (u1_len x)
  rw [len_list, u2_list, len_list (u1 x)]
  exact rpg_len (Nat.le_of_ble_eq_true rfl) _ 0
theorem u3_list (x : Str) : (u3 x).cps.toList = rpg [38, 113, 117, 111, 116, 59] [34] 0 (u2 x).cps.toList := rp_many (by decide +kernel) (by decide +kernel) (Nat.le_of_ble_eq_true rfl)
theorem u3_len (x : Str) : (u3 x).length ≤ x.length := by
  refine Nat.le_trans ?_ (u2_len x)
  rw [len_list, u3_list, len_list (u2 x)]
  exact rpg_len (Nat.le_of_ble_eq_true rfl) _ 0
theorem u4_list (x : Str) : (u4 x).cps.toList = rpg [38, 35, 49, 48, 59] [10] 0 (u3 x).cps.toList := rp_many (by decide +kernel) (by decide +kernel) (Nat.le_of_ble_eq_true rfl)
theorem u4_len (x : Str) : (u4 x).length ≤ x.length := by
  refine Nat.le_trans ?_ (u3_len x)
  rw [len_list, u4_list, len_list (u3 x)]
  exact rpg_len (Nat.le_of_ble_eq_true rfl) _ 0
theorem u5_list (x : Str) : (u5 x).cps.toList = rpg [38, 97, 109, 112, 59] [38] 0 (u4 x).cps.toList := rp_many (by decide +kernel) (by decide +kernel) (Nat.le_of_ble_eq_true rfl)
theorem u5_len (x : Str) : (u5 x).length ≤ x.length := by
  refine Nat.le_trans ?_ (u4_len x)
  rw [len_list, u5_list, len_list (u4 x)]
  exact rpg_len (Nat.le_of_ble_eq_true rfl) _ 0
/-- there is a mark in the text -/
def dq (y : Str) : Bool := !(Builtin.Str.occurrences y (Str.ofString "\"") 0 y.length 1).isEmpty
def sq (y : Str) : Bool := !(Builtin.Str.occurrences y (Str.ofString "'") 0 y.length 1).isEmpty
/-- what _law_marks gives -/
def mk (x : Str) : Int := Txt.count x (Str.ofString "&") + (Txt.count x (Str.ofString "<") + (Txt.count x (Str.ofString ">") + (Txt.count x (Str.ofString "\n") + 0))) + (if dq x && sq x then Txt.count x (Str.ofString "\"") else 0)
theorem mk_no {x : Str} (h : (Builtin.Str.occurrences x (Str.ofString "\"") 0 x.length 1).isEmpty = true) : mk x = Txt.count x (Str.ofString "&") + (Txt.count x (Str.ofString "<") + (Txt.count x (Str.ofString ">") + (Txt.count x (Str.ofString "\n") + 0))) + 0 := by
  unfold mk dq; rw [h]; rfl
theorem mk_one {x : Str} (h : (Builtin.Str.occurrences x (Str.ofString "'") 0 x.length 1).isEmpty = true) : mk x = Txt.count x (Str.ofString "&") + (Txt.count x (Str.ofString "<") + (Txt.count x (Str.ofString ">") + (Txt.count x (Str.ofString "\n") + 0))) + 0 := by
  unfold mk sq; rw [h, Bool.not_true, Bool.and_false]; rfl
theorem mk_two {x : Str} (h : (Builtin.Str.occurrences x (Str.ofString "\"") 0 x.length 1).isEmpty = false) (h' : (Builtin.Str.occurrences x (Str.ofString "'") 0 x.length 1).isEmpty = false) : mk x = Txt.count x (Str.ofString "&") + (Txt.count x (Str.ofString "<") + (Txt.count x (Str.ofString ">") + (Txt.count x (Str.ofString "\n") + 0))) + Txt.count x (Str.ofString "\"") := by
  unfold mk dq sq; rw [h, h']; rfl
/-- what quoteattr gives -/
def qa (x : Str) : Str := if dq (e6 x) then (if sq (e6 x) then Str.ofString "\"" ++ e7 x ++ Str.ofString "\"" else Str.ofString "'" ++ e6 x ++ Str.ofString "'") else Str.ofString "\"" ++ e6 x ++ Str.ofString "\""
theorem qa_no {x : Str} (h : (Builtin.Str.occurrences (e6 x) (Str.ofString "\"") 0 (e6 x).length 1).isEmpty = true) : qa x = Str.ofString "\"" ++ e6 x ++ Str.ofString "\"" := by
  unfold qa dq; rw [h]; rfl
theorem qa_one {x : Str} (h : (Builtin.Str.occurrences (e6 x) (Str.ofString "\"") 0 (e6 x).length 1).isEmpty = false) (h' : (Builtin.Str.occurrences (e6 x) (Str.ofString "'") 0 (e6 x).length 1).isEmpty = true) : qa x = Str.ofString "'" ++ e6 x ++ Str.ofString "'" := by
  unfold qa dq sq; rw [h, h']; rfl
theorem qa_two {x : Str} (h : (Builtin.Str.occurrences (e6 x) (Str.ofString "\"") 0 (e6 x).length 1).isEmpty = false) (h' : (Builtin.Str.occurrences (e6 x) (Str.ofString "'") 0 (e6 x).length 1).isEmpty = false) : qa x = Str.ofString "\"" ++ e7 x ++ Str.ofString "\"" := by
  unfold qa dq sq; rw [h, h']; rfl
/-- what is opened out of a box -/
def op (n y : Str) : Str := u5 (Txt.slice y (some ((n.length : Int) + 3)) (some (-1)))
theorem op_len (n y : Str) : (op n y).length ≤ y.length := Nat.le_trans (u5_len _) (PySem.Txt.slice_le _ _ _)
/-- a box -/
def bx (n x : Str) : Str := Str.ofString "<" ++ n ++ Str.ofString "=" ++ qa x
theorem qa_len (x : Str) : (qa x).length ≤ 6 * x.length + 2 := by
  have h6 := e6_len x
  have h7 := e7_len x
  have q1 : (Str.ofString "\"").length = 1 := by decide +kernel
  have q2 : (Str.ofString "'").length = 1 := by decide +kernel
  unfold qa
  split
  · split
    · simp only [PySem.Str.length_append, q1]; omega
    · simp only [PySem.Str.length_append, q2]; omega
  · simp only [PySem.Str.length_append, q1]; omega
theorem bx_len (n x : Str) : (bx n x).length ≤ 6 * x.length + n.length + 4 := by
  have h := qa_len x
  have q1 : (Str.ofString "<").length = 1 := by decide +kernel
  have q2 : (Str.ofString "=").length = 1 := by decide +kernel
  unfold bx
  simp only [PySem.Str.length_append, q1, q2]; omega
section
variable {prog : Program} {w : World} {A : Around} {E : Value → Shared → Prop} {s : Shared} {x : PySem.Str} {t u v : Tok} {Q : Value → Shared → Prop}
theorem st_e1 (hx : x.length ≤ 4000) (hu : u ≠ 0) (hv : v ≠ 0) (huv : u ≠ v) (hq : ∀ t' k, s.toks ≤ k → Q (.str (e1 x) t') { s with toks := k }) :
    wpAny (model prog w) A (call (.builtin "str.replace") [.str x t, .str (Str.ofString "&") u, .str (Str.ofString "&amp;") v]) Q E s :=
  rep_step hu hv huv (by decide +kernel) (by omega) (by decide +kernel) fun t' k h _ => hq t' k h
theorem st_e2 (hx : x.length ≤ 4000) (hu : u ≠ 0) (hv : v ≠ 0) (huv : u ≠ v) (hq : ∀ t' k, s.toks ≤ k → Q (.str (e2 x) t') { s with toks := k }) :
    wpAny (model prog w) A (call (.builtin "str.replace") [.str (e1 x) t, .str (Str.ofString ">") u, .str (Str.ofString "&gt;") v]) Q E s :=
  rep_step hu hv huv (by decide +kernel) (Nat.le_trans (e1_len x) (by omega)) (by decide +kernel) fun t' k h _ => hq t' k h
theorem st_e3 (hx : x.length ≤ 4000) (hu : u ≠ 0) (hv : v ≠ 0) (huv : u ≠ v) (hq : ∀ t' k, s.toks ≤ k → Q (.str (e3 x) t') { s with toks := k }) :
    wpAny (model prog w) A (call (.builtin "str.replace") [.str (e2 x) t, .str (Str.ofString "<") u, .str (Str.ofString "&lt;") v]) Q E s :=
  rep_step hu hv huv (by decide +kernel) (Nat.le_trans (e2_len x) (by omega)) (by decide +kernel) fun t' k h _ => hq t' k h
theorem st_e4 (hx : x.length ≤ 4000) (hu : u ≠ 0) (hv : v ≠ 0) (huv : u ≠ v) (hq : ∀ t' k, s.toks ≤ k → Q (.str (e4 x) t') { s with toks := k }) :
    wpAny (model prog w) A (call (.builtin "str.replace") [.str (e3 x) t, .str (Str.ofString "\n") u, .str (Str.ofString "&#10;") v]) Q E s :=
  rep_step hu hv huv (by decide +kernel) (Nat.le_trans (e3_len x) (by omega)) (by decide +kernel) fun t' k h _ => hq t' k h
theorem st_e5 (hx : x.length ≤ 4000) (hu : u ≠ 0) (hv : v ≠ 0) (huv : u ≠ v) (hq : ∀ t' k, s.toks ≤ k → Q (.str (e5 x) t') { s with toks := k }) :
    wpAny (model prog w) A (call (.builtin "str.replace") [.str (e4 x) t, .str (Str.ofString "\r") u, .str (Str.ofString "&#13;") v]) Q E s :=
  rep_step hu hv huv (by decide +kernel) (Nat.le_trans (e4_len x) (by omega)) (by decide +kernel) fun t' k h _ => hq t' k h
theorem st_e6 (hx : x.length ≤ 4000) (hu : u ≠ 0) (hv : v ≠ 0) (huv : u ≠ v) (hq : ∀ t' k, s.toks ≤ k → Q (.str (e6 x) t') { s with toks := k }) :
    wpAny (model prog w) A (call (.builtin "str.replace") [.str (e5 x) t, .str (Str.ofString "\t") u, .str (Str.ofString "&#9;") v]) Q E s :=
  rep_step hu hv huv (by decide +kernel) (Nat.le_trans (e5_len x) (by omega)) (by decide +kernel) fun t' k h _ => hq t' k h
theorem st_e7 (hx : x.length ≤ 4000) (hu : u ≠ 0) (hv : v ≠ 0) (huv : u ≠ v) (hq : ∀ t' k, s.toks ≤ k → Q (.str (e7 x) t') { s with toks := k }) :
    wpAny (model prog w) A (call (.builtin "str.replace") [.str (e6 x) t, .str (Str.ofString "\"") u, .str (Str.ofString "&quot;") v]) Q E s :=
  rep_step hu hv huv (by decide +kernel) (Nat.le_trans (e6_len x) (by omega)) (by decide +kernel) fun t' k h _ => hq t' k h
theorem st_u1 (hx : x.length ≤ 4000) (hu : u ≠ 0) (hv : v ≠ 0) (huv : u ≠ v) (hq : ∀ t' k, s.toks ≤ k → Q (.str (u1 x) t') { s with toks := k }) :
    wpAny (model prog w) A (call (.builtin "str.replace") [.str x t, .str (Str.ofString "&lt;") u, .str (Str.ofString "<") v]) Q E s :=
  rep_step hu hv huv (by decide +kernel) (by omega) (by decide +kernel) fun t' k h _ => hq t' k h
theorem st_u2 (hx : x.length ≤ 4000) (hu : u ≠ 0) (hv : v ≠ 0) (huv : u ≠ v) (hq : ∀ t' k, s.toks ≤ k → Q (.str (u2 x) t') { s with toks := k }) :
    wpAny (model prog w) A (call (.builtin "str.replace") [.str (u1 x) t, .str (Str.ofString "&gt;") u, .str (Str.ofString ">") v]) Q E s :=
  rep_step hu hv huv (by decide +kernel) (Nat.le_trans (u1_len x) (by omega)) (by decide +kernel) fun t' k h _ => hq t' k h
theorem st_u3 (hx : x.length ≤ 4000) (hu : u ≠ 0) (hv : v ≠ 0) (huv : u ≠ v) (hq : ∀ t' k, s.toks ≤ k → Q (.str (u3 x) t') { s with toks := k }) :
    wpAny (model prog w) A (call (.builtin "str.replace") [.str (u2 x) t, .str (Str.ofString "&quot;") u, .str (Str.ofString "\"") v]) Q E s :=
  rep_step hu hv huv (by decide +kernel) (Nat.le_trans (u2_len x) (by omega)) (by decide +kernel) fun t' k h _ => hq t' k h
theorem st_u4 (hx : x.length ≤ 4000) (hu : u ≠ 0) (hv : v ≠ 0) (huv : u ≠ v) (hq : ∀ t' k, s.toks ≤ k → Q (.str (u4 x) t') { s with toks := k }) :
    wpAny (model prog w) A (call (.builtin "str.replace") [.str (u3 x) t, .str (Str.ofString "&#10;") u, .str (Str.ofString "\n") v]) Q E s :=
  rep_step hu hv huv (by decide +kernel) (Nat.le_trans (u3_len x) (by omega)) (by decide +kernel) fun t' k h _ => hq t' k h
theorem st_u5 (hx : x.length ≤ 4000) (hu : u ≠ 0) (hv : v ≠ 0) (huv : u ≠ v) (hq : ∀ t' k, s.toks ≤ k → Q (.str (u5 x) t') { s with toks := k }) :
    wpAny (model prog w) A (call (.builtin "str.replace") [.str (u4 x) t, .str (Str.ofString "&amp;") u, .str (Str.ofString "&") v]) Q E s :=
  rep_step hu hv huv (by decide +kernel) (Nat.le_trans (u4_len x) (by omega)) (by decide +kernel) fun t' k h _ => hq t' k h
end
end Mine
end
section
open PySem PySem.W PyProof.Rows PySem.Calls PySem.Builtin.Str
namespace Mine
/-- what stands between a box's marks; the mark -/
def hl (n y : Str) : Str := Txt.slice y (some ((n.length : Int) + 3)) (some (-1))
def mkr (x : Str) : Str := if dq x && !sq x then Str.ofString "'" else Str.ofString "\""
def Clean (x : Str) : Prop := 9 ∉ x.cps.toList ∧ 13 ∉ x.cps.toList ∧ PyData.strOk x = true
theorem mkr_no {x : Str} (h : (Builtin.Str.occurrences x (Str.ofString "\"") 0 x.length 1).isEmpty = true) : mkr x = Str.ofString "\"" := by
  unfold mkr dq; rw [h]; rfl
theorem mkr_one {x : Str} (h : (Builtin.Str.occurrences x (Str.ofString "\"") 0 x.length 1).isEmpty = false) (h' : (Builtin.Str.occurrences x (Str.ofString "'") 0 x.length 1).isEmpty = true) : mkr x = Str.ofString "'" := by
  unfold mkr dq sq; rw [h, h']; rfl
theorem mkr_two {x : Str} (h' : (Builtin.Str.occurrences x (Str.ofString "'") 0 x.length 1).isEmpty = false) : mkr x = Str.ofString "\"" := by
  unfold mkr sq; rw [h']; simp
theorem of_list {a b : Str} (h : a.cps.toList = b.cps.toList) : a = b := PySem.Str.ext' (Array.toList_inj.mp h)
theorem occ_free {x y : Str} {c : Nat} (hy : y = ⟨#[c]⟩) (h : c ∉ x.cps.toList) : (occurrences x y 0 x.length 1).isEmpty = true := by
  subst hy
  have := StrLaws.found_one x c
  rw [decide_eq_false h] at this
  cases hb : (occurrences x ⟨#[c]⟩ 0 x.length 1).isEmpty
  · rw [hb] at this; exact absurd this (by decide)
  · rfl
theorem dq_mem (x : Str) : dq x = decide (34 ∈ x.cps.toList) := by
  unfold dq
  rw [show Str.ofString "\"" = (⟨#[34]⟩ : Str) from by decide +kernel]
  exact StrLaws.found_one x 34
theorem sq_mem (x : Str) : sq x = decide (39 ∈ x.cps.toList) := by
  unfold sq
  rw [show Str.ofString "'" = (⟨#[39]⟩ : Str) from by decide +kernel]
  exact StrLaws.found_one x 39
theorem esc_cases (q : Bool) (a c : Nat) (h : c ∈ esc q a) : (c = a ∧ a ≠ 38 ∧ a ≠ 62 ∧ a ≠ 60 ∧ a ≠ 10 ∧ a ≠ 13 ∧ a ≠ 9 ∧ (q = true → a ≠ 34)) ∨ c ∈ [38, 97, 109, 112, 59, 103, 116, 108, 35, 49, 48, 51, 57, 113, 117, 111] := by
  unfold esc at h
  split at h
  · right; simp only [List.mem_cons, List.not_mem_nil, or_false] at h ⊢; omega
  split at h
  · right; simp only [List.mem_cons, List.not_mem_nil, or_false] at h ⊢; omega
  split at h
  · right; simp only [List.mem_cons, List.not_mem_nil, or_false] at h ⊢; omega
  split at h
  · right; simp only [List.mem_cons, List.not_mem_nil, or_false] at h ⊢; omega
  split at h
  · right; simp only [List.mem_cons, List.not_mem_nil, or_false] at h ⊢; omega
  split at h
  · right; simp only [List.mem_cons, List.not_mem_nil, or_false] at h ⊢; omega
  split at h
  · right; simp only [List.mem_cons, List.not_mem_nil, or_false] at h ⊢; omega
  · rename_i h1 h2 h3 h4 h5 h6 h7
    left
    exact ⟨List.mem_singleton.mp h, h1, h2, h3, h4, h5, h6, fun hq ha => h7 ⟨hq, ha⟩⟩
theorem esc_self {q : Bool} {a : Nat} (h : ¬ (q = true ∧ a = 34)) (h1 : a = 34 ∨ a = 39) : a ∈ esc q a := by
  unfold esc
  have h2 : a ≠ 38 := by omega
  have h3 : a ≠ 62 := by omega
  have h4 : a ≠ 60 := by omega
  have h5 : a ≠ 10 := by omega
  have h6 : a ≠ 13 := by omega
  have h7 : a ≠ 9 := by omega
  rw [if_neg h2, if_neg h3, if_neg h4, if_neg h5, if_neg h6, if_neg h7, if_neg h]
  exact List.mem_singleton.mpr rfl
theorem dq_e6 (x : Str) : dq (e6 x) = dq x := by
  rw [dq_mem, dq_mem, e6_flat, decide_eq_decide, List.mem_flatMap]
  constructor
  · rintro ⟨a, ha, h⟩
    rcases esc_cases _ _ _ h with h | h
    · rw [h.1]; exact ha
    · exact absurd h (by decide)
  · exact fun h => ⟨34, h, esc_self (by decide) (Or.inl rfl)⟩
theorem sq_e6 (x : Str) : sq (e6 x) = sq x := by
  rw [sq_mem, sq_mem, e6_flat, decide_eq_decide, List.mem_flatMap]
  constructor
  · rintro ⟨a, ha, h⟩
    rcases esc_cases _ _ _ h with h | h
    · rw [h.1]; exact ha
    · exact absurd h (by decide)
  · exact fun h => ⟨39, h, esc_self (by decide) (Or.inr rfl)⟩
/-- both marks stand in the text -/
def two (x : Str) : Bool := dq x && sq x
/-- what stands between the marks of x's box -/
def held (x : Str) : Str := if two x then e7 x else e6 x
theorem held_flat (x : Str) : (held x).cps.toList = x.cps.toList.flatMap (esc (two x)) := by
  unfold held
  cases two x
  · exact e6_flat x
  · exact e7_flat x
theorem qa_held (x : Str) : qa x = mkr x ++ held x ++ mkr x := by
  unfold qa held two mkr
  rw [dq_e6, sq_e6]
  cases dq x <;> cases sq x <;> rfl
theorem bx_parts (n x : Str) : bx n x = (Str.ofString "<" ++ n ++ Str.ofString "=" ++ mkr x) ++ held x ++ mkr x := by
  unfold bx
  rw [qa_held]
  simp only [PySem.Str.append_assoc]
theorem mkr_len (x : Str) : (mkr x).length = 1 := by
  unfold mkr
  split <;> decide +kernel
theorem slice_mid (p h q : Str) (i : Int) (hi : i = p.length) (hq : q.length = 1) : Txt.slice (p ++ h ++ q) (some i) (some (-1)) = h := by
  show StrLaws.sliceText (p ++ h ++ q) (some i) (some (-1)) = h
  have hl : (p ++ h ++ q).length = p.length + h.length + 1 := by rw [PySem.Str.length_append, PySem.Str.length_append, hq]
  have hl2 : (p ++ h ++ q).cps.toList.length = p.length + h.length + 1 := by rw [← len_list, hl]
  rw [StrLaws.sliceText_neg_hi _ _ (by omega) (by omega), StrLaws.sliceText_plain ⟨by omega, by omega, by omega⟩]
  apply of_list
  have e1 : i.toNat = p.cps.toList.length := by rw [← len_list]; omega
  have e2 : ((-1 + (((p ++ h ++ q).length : Nat) : Int)) - i).toNat = h.cps.toList.length := by rw [← len_list]; omega
  rw [e1, e2]
  show (((p ++ h ++ q).cps.toList.drop p.cps.toList.length).take h.cps.toList.length) = h.cps.toList
  simp only [PySem.Str.cps_append, Array.toList_append, List.append_assoc]
  rw [List.drop_left, List.take_left]
section
variable {n x : Str}
theorem hl_bx : Txt.slice (bx n x) (some ((n.length : Int) + 3)) (some (-1)) = held x := by
  rw [bx_parts]
  refine slice_mid _ _ _ _ ?_ (mkr_len x)
  have q1 : (Str.ofString "<").length = 1 := by decide +kernel
  have q2 : (Str.ofString "=").length = 1 := by decide +kernel
  simp only [PySem.Str.length_append, q1, q2, mkr_len]
  omega
theorem bx_whole (m : Str) (hm : mkr x = m) : (bx n x != Str.ofString "<" ++ n ++ Str.ofString "=" ++ m ++ Txt.slice (bx n x) (some ((n.length : Int) + 3)) (some (-1)) ++ m) = false := by
  rw [hl_bx, bx_parts, hm]
  simp
theorem held_free (c : Nat) {y : Str} (hy : y = ⟨#[c]⟩) (h : ∀ a ∈ x.cps.toList, c ∉ esc (two x) a) (e : (occurrences (Txt.slice (bx n x) (some ((n.length : Int) + 3)) (some (-1))) y 0 (Txt.slice (bx n x) (some ((n.length : Int) + 3)) (some (-1))).length 1).isEmpty = false) : False := by
  rw [hl_bx, occ_free hy] at e
  · exact absurd e (by decide)
  · rw [held_flat, List.mem_flatMap]
    rintro ⟨a, ha, hc⟩
    exact h a ha hc
theorem esc_out {q : Bool} {a c : Nat} (h : c = 60 ∨ c = 62 ∨ c = 10 ∨ c = 13 ∨ c = 9) : c ∉ esc q a := by
  intro hm
  rcases esc_cases _ _ _ hm with hm | hm
  · omega
  · rcases h with rfl | rfl | rfl | rfl | rfl <;> exact absurd hm (by decide)
theorem bad1 (h : (occurrences x (Str.ofString "\"") 0 x.length 1).isEmpty = true) (e : (bx n x != Str.ofString "<" ++ n ++ Str.ofString "=" ++ Str.ofString "\"" ++ Txt.slice (bx n x) (some ((n.length : Int) + 3)) (some (-1)) ++ Str.ofString "\"") = true) : False := by
  rw [bx_whole _ (mkr_no h)] at e
  exact absurd e (by decide)
theorem dq_no (h : (occurrences x (Str.ofString "\"") 0 x.length 1).isEmpty = true) : 34 ∉ x.cps.toList := by
  have := dq_mem x
  unfold dq at this
  rw [h] at this
  exact of_decide_eq_false this.symm
theorem dq_yes (h : (occurrences x (Str.ofString "\"") 0 x.length 1).isEmpty = false) : dq x = true := by unfold dq; rw [h]; rfl
theorem sq_no (h : (occurrences x (Str.ofString "'") 0 x.length 1).isEmpty = true) : 39 ∉ x.cps.toList := by
  have := sq_mem x
  unfold sq at this
  rw [h] at this
  exact of_decide_eq_false this.symm
theorem sq_yes (h : (occurrences x (Str.ofString "'") 0 x.length 1).isEmpty = false) : sq x = true := by unfold sq; rw [h]; rfl
theorem bad2 (h : (occurrences x (Str.ofString "\"") 0 x.length 1).isEmpty = true) (e : (occurrences (Txt.slice (bx n x) (some ((n.length : Int) + 3)) (some (-1))) (Str.ofString "\"") 0 (Txt.slice (bx n x) (some ((n.length : Int) + 3)) (some (-1))).length 1).isEmpty = false) : False := by
  refine held_free 34 (by decide +kernel) (fun a ha hm => ?_) e
  rcases esc_cases _ _ _ hm with hm | hm
  · exact dq_no h (by rw [hm.1]; exact ha)
  · exact absurd hm (by decide)
theorem bad3 (h : (occurrences x (Str.ofString "\"") 0 x.length 1).isEmpty = false) (h' : (occurrences x (Str.ofString "'") 0 x.length 1).isEmpty = true) (e : (bx n x != Str.ofString "<" ++ n ++ Str.ofString "=" ++ Str.ofString "'" ++ Txt.slice (bx n x) (some ((n.length : Int) + 3)) (some (-1)) ++ Str.ofString "'") = true) : False := by
  rw [bx_whole _ (mkr_one h h')] at e
  exact absurd e (by decide)
theorem bad4 (h : (occurrences x (Str.ofString "\"") 0 x.length 1).isEmpty = false) (h' : (occurrences x (Str.ofString "'") 0 x.length 1).isEmpty = true) (e : (occurrences (Txt.slice (bx n x) (some ((n.length : Int) + 3)) (some (-1))) (Str.ofString "'") 0 (Txt.slice (bx n x) (some ((n.length : Int) + 3)) (some (-1))).length 1).isEmpty = false) : False := by
  refine held_free 39 (by decide +kernel) (fun a ha hm => ?_) e
  rcases esc_cases _ _ _ hm with hm | hm
  · exact sq_no h' (by rw [hm.1]; exact ha)
  · exact absurd hm (by decide)
theorem bad5 (h : (occurrences x (Str.ofString "\"") 0 x.length 1).isEmpty = false) (h' : (occurrences x (Str.ofString "'") 0 x.length 1).isEmpty = false) (e : (bx n x != Str.ofString "<" ++ n ++ Str.ofString "=" ++ Str.ofString "\"" ++ Txt.slice (bx n x) (some ((n.length : Int) + 3)) (some (-1)) ++ Str.ofString "\"") = true) : False := by
  rw [bx_whole _ (mkr_two h')] at e
  exact absurd e (by decide)
theorem bad6 (h : (occurrences x (Str.ofString "\"") 0 x.length 1).isEmpty = false) (h' : (occurrences x (Str.ofString "'") 0 x.length 1).isEmpty = false) (e : (occurrences (Txt.slice (bx n x) (some ((n.length : Int) + 3)) (some (-1))) (Str.ofString "\"") 0 (Txt.slice (bx n x) (some ((n.length : Int) + 3)) (some (-1))).length 1).isEmpty = false) : False := by
  refine held_free 34 (by decide +kernel) (fun a _ hm => ?_) e
  have ht : two x = true := by unfold two; rw [dq_yes h, sq_yes h']; rfl
  rcases esc_cases _ _ _ hm with hm | hm
  · exact hm.2.2.2.2.2.2.2 ht hm.1.symm
  · exact absurd hm (by decide)
theorem bad7 (e : (occurrences (Txt.slice (bx n x) (some ((n.length : Int) + 3)) (some (-1))) (Str.ofString "<") 0 (Txt.slice (bx n x) (some ((n.length : Int) + 3)) (some (-1))).length 1).isEmpty = false) : False :=
  held_free 60 (by decide +kernel) (fun _ _ => esc_out (by omega)) e
theorem bad8 (e : (occurrences (Txt.slice (bx n x) (some ((n.length : Int) + 3)) (some (-1))) (Str.ofString ">") 0 (Txt.slice (bx n x) (some ((n.length : Int) + 3)) (some (-1))).length 1).isEmpty = false) : False :=
  held_free 62 (by decide +kernel) (fun _ _ => esc_out (by omega)) e
theorem bad9 (e : (occurrences (Txt.slice (bx n x) (some ((n.length : Int) + 3)) (some (-1))) (Str.ofString "\n") 0 (Txt.slice (bx n x) (some ((n.length : Int) + 3)) (some (-1))).length 1).isEmpty = false) : False :=
  held_free 10 (by decide +kernel) (fun _ _ => esc_out (by omega)) e
theorem count_cnt (x : Str) {y : Str} {c : Nat} (hy : y = ⟨#[c]⟩) : Txt.count x y = cnt c x.cps.toList := by
  subst hy
  exact count_is x c
theorem cnt_esc (q : Bool) : ∀ l : List Nat, 9 ∉ l → 13 ∉ l → cnt 38 (l.flatMap (esc q)) = cnt 38 l + (cnt 60 l + (cnt 62 l + (cnt 10 l + 0))) + (if q then cnt 34 l else 0)
  | [], _, _ => by cases q <;> rfl
  | a :: r, h9, h13 => by
    have ih := cnt_esc q r (fun h => h9 (List.mem_cons_of_mem _ h)) (fun h => h13 (List.mem_cons_of_mem _ h))
    have a9 : a ≠ 9 := fun h => h9 (h ▸ List.mem_cons_self ..)
    have a13 : a ≠ 13 := fun h => h13 (h ▸ List.mem_cons_self ..)
    have e : cnt 38 (esc q a) = (if a = 38 then 1 else 0) + ((if a = 60 then 1 else 0) + ((if a = 62 then 1 else 0) + ((if a = 10 then 1 else 0) + 0))) + (if q then (if a = 34 then 1 else 0) else 0) := by
      by_cases h1 : a = 38
      · subst h1; cases q <;> decide +kernel
      by_cases h2 : a = 62
      · subst h2; cases q <;> decide +kernel
      by_cases h3 : a = 60
      · subst h3; cases q <;> decide +kernel
      by_cases h4 : a = 10
      · subst h4; cases q <;> decide +kernel
      by_cases h5 : a = 34
      · subst h5; cases q <;> decide +kernel
      simp [esc, h1, h2, h3, h4, h5, a9, a13, cnt_cons, cnt_nil]
    rw [List.flatMap_cons, cnt_append, ih, e]
    simp only [cnt_cons]
    cases q
    · simp only [Bool.false_eq_true, if_false]; omega
    · simp only [if_true]; omega
theorem bad10 (hc : Clean x) (e : Txt.count (Txt.slice (bx n x) (some ((n.length : Int) + 3)) (some (-1))) (Str.ofString "&") ≠ mk x) : False := by
  apply e
  rw [hl_bx]
  unfold mk
  rw [count_cnt (held x) (c := 38) (by decide +kernel), count_cnt x (y := Str.ofString "&") (c := 38) (by decide +kernel), count_cnt x (y := Str.ofString "<") (c := 60) (by decide +kernel), count_cnt x (y := Str.ofString ">") (c := 62) (by decide +kernel), count_cnt x (y := Str.ofString "\n") (c := 10) (by decide +kernel), count_cnt x (y := Str.ofString "\"") (c := 34) (by decide +kernel), held_flat, cnt_esc _ _ hc.1 hc.2.1]
  rfl
/-- the signs after the first k replaces of unescape -/
def tb (k : Nat) (q : Bool) (a : Nat) : List Nat :=
  if a = 38 then (if 5 ≤ k then [38] else [38, 97, 109, 112, 59]) else if a = 62 then (if 2 ≤ k then [62] else [38, 103, 116, 59]) else if a = 60 then (if 1 ≤ k then [60] else [38, 108, 116, 59])
  else if a = 10 then (if 4 ≤ k then [10] else [38, 35, 49, 48, 59]) else if q = true ∧ a = 34 then (if 3 ≤ k then [34] else [38, 113, 117, 111, 116, 59]) else [a]
theorem tb_step {k k' : Nat} {y z : List Nat} {q : Bool} {y' : List Nat} (hy : y = 38 :: y')
    (h38 : ∀ r, rpg y z 0 (tb k q 38 ++ r) = tb k' q 38 ++ rpg y z 0 r) (h62 : ∀ r, rpg y z 0 (tb k q 62 ++ r) = tb k' q 62 ++ rpg y z 0 r) (h60 : ∀ r, rpg y z 0 (tb k q 60 ++ r) = tb k' q 60 ++ rpg y z 0 r)
    (h10 : ∀ r, rpg y z 0 (tb k q 10 ++ r) = tb k' q 10 ++ rpg y z 0 r) (h34 : ∀ r, rpg y z 0 (tb k q 34 ++ r) = tb k' q 34 ++ rpg y z 0 r) (l : List Nat) : rpg y z 0 (l.flatMap (tb k q)) = l.flatMap (tb k' q) := by
  refine rpg_flat l fun a _ r => ?_
  by_cases h1 : a = 38
  · subst h1; exact h38 r
  by_cases h2 : a = 62
  · subst h2; exact h62 r
  by_cases h3 : a = 60
  · subst h3; exact h60 r
  by_cases h4 : a = 10
  · subst h4; exact h10 r
  by_cases h5 : a = 34
  · subst h5; exact h34 r
  have e : ∀ j, tb j q a = [a] := fun j => by simp [tb, h1, h2, h3, h4, h5]
  rw [e, e]
  refine rpg_miss ?_
  subst hy
  simp [List.isPrefixOf]
  exact fun h => absurd h.symm h1
theorem un_flat {h : Str} {q : Bool} {l : List Nat} (e : h.cps.toList = l.flatMap (tb 0 q)) : (u5 h).cps.toList = l.flatMap (tb 5 q) := by
  rw [u5_list, u4_list, u3_list, u2_list, u1_list, e]
  rw [tb_step (k' := 1) (q := q) rfl (fun r => by cases q <;> rfl) (fun r => by cases q <;> rfl) (fun r => by cases q <;> rfl) (fun r => by cases q <;> rfl) (fun r => by cases q <;> rfl)]
  rw [tb_step (k' := 2) (q := q) rfl (fun r => by cases q <;> rfl) (fun r => by cases q <;> rfl) (fun r => by cases q <;> rfl) (fun r => by cases q <;> rfl) (fun r => by cases q <;> rfl)]
  rw [tb_step (k' := 3) (q := q) rfl (fun r => by cases q <;> rfl) (fun r => by cases q <;> rfl) (fun r => by cases q <;> rfl) (fun r => by cases q <;> rfl) (fun r => by cases q <;> rfl)]
  rw [tb_step (k' := 4) (q := q) rfl (fun r => by cases q <;> rfl) (fun r => by cases q <;> rfl) (fun r => by cases q <;> rfl) (fun r => by cases q <;> rfl) (fun r => by cases q <;> rfl)]
  rw [tb_step (k' := 5) (q := q) rfl (fun r => by cases q <;> rfl) (fun r => by cases q <;> rfl) (fun r => by cases q <;> rfl) (fun r => by cases q <;> rfl) (fun r => by cases q <;> rfl)]
theorem tb_zero (q : Bool) : ∀ l : List Nat, 9 ∉ l → 13 ∉ l → l.flatMap (esc q) = l.flatMap (tb 0 q)
  | [], _, _ => rfl
  | a :: r, h9, h13 => by
    have ih := tb_zero q r (fun h => h9 (List.mem_cons_of_mem _ h)) (fun h => h13 (List.mem_cons_of_mem _ h))
    have a9 : a ≠ 9 := fun h => h9 (h ▸ List.mem_cons_self ..)
    have a13 : a ≠ 13 := fun h => h13 (h ▸ List.mem_cons_self ..)
    have e : esc q a = tb 0 q a := by
      unfold esc tb
      rw [if_neg a13, if_neg a9]
      rfl
    rw [List.flatMap_cons, List.flatMap_cons, ih, e]
theorem tb_last (q : Bool) : ∀ l : List Nat, l.flatMap (tb 5 q) = l
  | [] => rfl
  | a :: r => by
    have e : tb 5 q a = [a] := by
      by_cases h1 : a = 38
      · subst h1; rfl
      by_cases h2 : a = 62
      · subst h2; rfl
      by_cases h3 : a = 60
      · subst h3; rfl
      by_cases h4 : a = 10
      · subst h4; rfl
      by_cases h5 : a = 34
      · subst h5; cases q <;> rfl
      simp [tb, h1, h2, h3, h4, h5]
    rw [List.flatMap_cons, tb_last q r, e]
    rfl
/-- a box opened gives what it holds -/
theorem op_bx (hc : Clean x) : op n (bx n x) = x := by
  unfold op
  rw [hl_bx]
  apply of_list
  rw [un_flat (q := two x) (l := x.cps.toList) (by rw [held_flat, tb_zero _ _ hc.1 hc.2.1]), tb_last]
theorem ok_list (x : Str) : PyData.strOk x = true ↔ ∀ c ∈ x.cps.toList, c < 1114112 := by
  unfold PyData.strOk
  rw [← Array.all_toList, List.all_eq_true]
  exact ⟨fun h c hc => of_decide_eq_true (h c hc), fun h c hc => decide_eq_true (h c hc)⟩
theorem clean_append {a b : Str} (ha : Clean a) (hb : Clean b) : Clean (a ++ b) := by
  refine ⟨?_, ?_, ?_⟩
  · rw [PySem.Str.cps_append, Array.toList_append, List.mem_append]
    exact fun h => h.elim ha.1 hb.1
  · rw [PySem.Str.cps_append, Array.toList_append, List.mem_append]
    exact fun h => h.elim ha.2.1 hb.2.1
  · rw [ok_list]
    intro c hc
    rw [PySem.Str.cps_append, Array.toList_append, List.mem_append] at hc
    exact hc.elim ((ok_list a).mp ha.2.2 c) ((ok_list b).mp hb.2.2 c)
theorem clean_mkr (x : Str) : Clean (mkr x) := by
  unfold mkr Clean
  split <;> decide +kernel
theorem clean_held (hc : Clean x) : Clean (held x) := by
  refine ⟨?_, ?_, ?_⟩
  · rw [held_flat, List.mem_flatMap]
    rintro ⟨a, _, h⟩
    exact esc_out (by omega) h
  · rw [held_flat, List.mem_flatMap]
    rintro ⟨a, _, h⟩
    exact esc_out (by omega) h
  · rw [ok_list]
    intro c h
    rw [held_flat, List.mem_flatMap] at h
    obtain ⟨a, ha, h⟩ := h
    rcases esc_cases _ _ _ h with h | h
    · rw [h.1]; exact (ok_list x).mp hc.2.2 a ha
    · simp only [List.mem_cons, List.not_mem_nil, or_false] at h
      omega
theorem clean_bx (hn : Clean n) (hc : Clean x) : Clean (bx n x) := by
  rw [bx_parts]
  have c1 : Clean (Str.ofString "<") := by unfold Clean; decide +kernel
  have c2 : Clean (Str.ofString "=") := by unfold Clean; decide +kernel
  exact clean_append (clean_append (clean_append (clean_append (clean_append c1 hn) c2) (clean_mkr x)) (clean_held hc)) (clean_mkr x)
end
end Mine
end
section
open PySem PySem.W PyProof.Rows PySem.Builtin.Str
namespace Mine
theorem text_len {n : Nat} {l : List Int} {x : Str} (h : x.length = l.length) (hl : l.length ≤ 6) : ([Str.ofString "<&", Str.ofString "<\"&"].getD n Str.empty ++ x).length ≤ 10 := by
  have h0 : ([Str.ofString "<&", Str.ofString "<\"&"].getD n Str.empty).length ≤ 3 := by
    match n with
    | 0 => exact Nat.le_of_ble_eq_true rfl
    | 1 => exact Nat.le_of_ble_eq_true rfl
    | _ + 2 => exact Nat.le_of_ble_eq_true rfl
  rw [PySem.Str.length_append]
  omega
theorem clean_empty : Clean Str.empty := by unfold Clean; decide +kernel
theorem clean_join {z : Str} (hz : Clean z) : ∀ t : List Str, (∀ p ∈ t, Clean p) → Clean (Str.join z t)
  | [], _ => clean_empty
  | [p], h => h p (List.mem_cons_self ..)
  | p :: q :: r, h => by
    have ih := clean_join hz (q :: r) fun a ha => h a (List.mem_cons_of_mem _ ha)
    show Clean (p ++ z ++ Str.join z (q :: r))
    exact clean_append (clean_append (h p (List.mem_cons_self ..)) hz) ih
theorem clean_sign (i : Int) (h0 : 0 ≤ i) (h9 : i < 9) : Clean (Txt.item (Str.ofString "&<>\"'\n;lt") i) := by
  have h : i = 0 ∨ i = 1 ∨ i = 2 ∨ i = 3 ∨ i = 4 ∨ i = 5 ∨ i = 6 ∨ i = 7 ∨ i = 8 := by omega
  unfold Clean
  rcases h with rfl | rfl | rfl | rfl | rfl | rfl | rfl | rfl | rfl <;> decide +kernel
theorem text_clean (n : Nat) (l : List Int) : Clean ([Str.ofString "<&", Str.ofString "<\"&"].getD n Str.empty ++ Txt.join (Str.ofString "") (l.map fun a => if (Txt.item (Str.ofString "&<>\"'\n;lt") (a.fmod 9)).length = 1 then Txt.item (Str.ofString "&<>\"'\n;lt") (a.fmod 9) else Str.empty)) := by
  refine clean_append ?_ ?_
  · match n with
    | 0 => exact (show Clean (Str.ofString "<&") from by unfold Clean; decide +kernel)
    | 1 => exact (show Clean (Str.ofString "<\"&") from by unfold Clean; decide +kernel)
    | _ + 2 => exact clean_empty
  · unfold Txt.join
    rw [StrLaws.glued_eq_join]
    refine clean_join (show Clean (Str.ofString "") from by unfold Clean; decide +kernel) _ fun p hp => ?_
    obtain ⟨a, _, rfl⟩ := List.mem_map.mp hp
    split
    · exact clean_sign _ (Int.fmod_nonneg_of_pos _ (by omega)) (Int.fmod_lt_of_pos _ (by omega))
    · exact clean_empty
end Mine
end
section
open PySem PySem.W PyProof.Rows PySem.Calls
namespace Mine
local macro_rules | `(tactic| k_room) => `(tactic| ((try simp only [ktrTop, depth_mark, depth_under_make, depth_under_kw, depth_in1, depth_deeper, depth_caller]); omega))
local macro_rules | `(tactic| walk_at "execs cons") => `(tactic| (k_here; (with_reducible refine wpAny_execs_cons ?_); try dsimp only))
local macro_rules | `(tactic| walk_at "execs nil") => `(tactic| (k_here; refine wpAny_execs_nil ?_))
local macro_rules | `(tactic| walk_at "exec For Tuple Call cons nil") => `(tactic| (k_here; (rename Fr _ _ _ _ => lF'); (rename News _ _ _ _ => lN'); with_unfolding_all ((refine' For_turns lF' ?_); k_whole; (refine MethodCall_ ?_); (refine ld lF' (by rfl) ?_); (refine dob_method PySem.F.slot_dict_items PySem.F.type_dict_items lN' (by k_mem) (by assumption) ?_); (refine callWith_method0 ?_); (refine dob_items (by assumption) lF' lN' (by k_mem) (by assumption) ?_); intro vw' h' hv' F' N' l0'; (refine items_exact (by rfl) F' N' hv' (by k_mem) (by assumption) (by simp only [ps3, ps2, List.map_cons, List.map_nil]; exact rfl) ?_)); clear lF' lN'; intro i' l1; (try k_lt l1); (try k_lt l0')))
local macro_rules | `(tactic| walk_at "call builtin:str.replace") => `(tactic| (k_here; first
  | ((with_reducible show wpAny _ _ (call (Value.builtin "str.replace") [Value.str (e1 _) _, Value.str (Str.ofString ">") _, _]) _ _ _); (refine' st_e2 ?rx ?ra ?rb ?rc ?_; (case rx => omega); (case ra => first | k_ne | with_unfolding_all exact Nat.succ_ne_zero _); (case rb => k_ne); (case rc => k_ne); k_whole); intro t' k' htk')
  | ((with_reducible show wpAny _ _ (call (Value.builtin "str.replace") [Value.str (e2 _) _, Value.str (Str.ofString "<") _, _]) _ _ _); (refine' st_e3 ?rx ?ra ?rb ?rc ?_; (case rx => omega); (case ra => first | k_ne | with_unfolding_all exact Nat.succ_ne_zero _); (case rb => k_ne); (case rc => k_ne); k_whole); intro t' k' htk')
  | ((with_reducible show wpAny _ _ (call (Value.builtin "str.replace") [Value.str (e3 _) _, Value.str (Str.ofString "\n") _, _]) _ _ _); (refine' st_e4 ?rx ?ra ?rb ?rc ?_; (case rx => omega); (case ra => first | k_ne | with_unfolding_all exact Nat.succ_ne_zero _); (case rb => k_ne); (case rc => k_ne); k_whole); intro t' k' htk')
  | ((with_reducible show wpAny _ _ (call (Value.builtin "str.replace") [Value.str (e4 _) _, Value.str (Str.ofString "\r") _, _]) _ _ _); (refine' st_e5 ?rx ?ra ?rb ?rc ?_; (case rx => omega); (case ra => first | k_ne | with_unfolding_all exact Nat.succ_ne_zero _); (case rb => k_ne); (case rc => k_ne); k_whole); intro t' k' htk')
  | ((with_reducible show wpAny _ _ (call (Value.builtin "str.replace") [Value.str (e5 _) _, Value.str (Str.ofString "\t") _, _]) _ _ _); (refine' st_e6 ?rx ?ra ?rb ?rc ?_; (case rx => omega); (case ra => first | k_ne | with_unfolding_all exact Nat.succ_ne_zero _); (case rb => k_ne); (case rc => k_ne); k_whole); intro t' k' htk')
  | ((with_reducible show wpAny _ _ (call (Value.builtin "str.replace") [Value.str (e6 _) _, Value.str (Str.ofString "\"") _, _]) _ _ _); (refine' st_e7 ?rx ?ra ?rb ?rc ?_; (case rx => omega); (case ra => first | k_ne | with_unfolding_all exact Nat.succ_ne_zero _); (case rb => k_ne); (case rc => k_ne); k_whole); intro t' k' htk')
  | ((with_reducible show wpAny _ _ (call (Value.builtin "str.replace") [Value.str (u1 _) _, Value.str (Str.ofString "&gt;") _, _]) _ _ _); (refine' st_u2 ?rx ?ra ?rb ?rc ?_; (case rx => omega); (case ra => first | k_ne | with_unfolding_all exact Nat.succ_ne_zero _); (case rb => k_ne); (case rc => k_ne); k_whole); intro t' k' htk')
  | ((with_reducible show wpAny _ _ (call (Value.builtin "str.replace") [Value.str (u2 _) _, Value.str (Str.ofString "&quot;") _, _]) _ _ _); (refine' st_u3 ?rx ?ra ?rb ?rc ?_; (case rx => omega); (case ra => first | k_ne | with_unfolding_all exact Nat.succ_ne_zero _); (case rb => k_ne); (case rc => k_ne); k_whole); intro t' k' htk')
  | ((with_reducible show wpAny _ _ (call (Value.builtin "str.replace") [Value.str (u3 _) _, Value.str (Str.ofString "&#10;") _, _]) _ _ _); (refine' st_u4 ?rx ?ra ?rb ?rc ?_; (case rx => omega); (case ra => first | k_ne | with_unfolding_all exact Nat.succ_ne_zero _); (case rb => k_ne); (case rc => k_ne); k_whole); intro t' k' htk')
  | ((with_reducible show wpAny _ _ (call (Value.builtin "str.replace") [Value.str (u4 _) _, Value.str (Str.ofString "&amp;") _, _]) _ _ _); (refine' st_u5 ?rx ?ra ?rb ?rc ?_; (case rx => omega); (case ra => first | k_ne | with_unfolding_all exact Nat.succ_ne_zero _); (case rb => k_ne); (case rc => k_ne); k_whole); intro t' k' htk')
  | ((with_reducible show wpAny _ _ (call (Value.builtin "str.replace") [Value.str _ _, Value.str (Str.ofString "&") _, _]) _ _ _); (refine' st_e1 ?rx ?ra ?rb ?rc ?_; (case rx => omega); (case ra => first | k_ne | with_unfolding_all exact Nat.succ_ne_zero _); (case rb => k_ne); (case rc => k_ne); k_whole); intro t' k' htk')
  | ((with_reducible show wpAny _ _ (call (Value.builtin "str.replace") [Value.str _ _, Value.str (Str.ofString "&lt;") _, _]) _ _ _); (refine' st_u1 ?rx ?ra ?rb ?rc ?_; (case rx => omega); (case ra => first | k_ne | with_unfolding_all exact Nat.succ_ne_zero _); (case rb => k_ne); (case rc => k_ne); k_whole); intro t' k' htk')))
local macro_rules | `(tactic| walk_at "UnrEndW") => `(tactic| (refine unr_tail (by assumption) (by assumption) (by assumption) (And.intro (And.intro (by assumption) True.intro) ?_)))
local macro_rules | `(tactic| walk_at "truthy ref") => `(tactic| (k_here; (refine dob_true (by assumption) (by k_asm) (by k_mem) (by assumption) (Nat.le_of_ble_eq_true rfl) ?_)))
local macro_rules | `(tactic| walk_at "CompEnd") => `(tactic| (refine comp_end (by assumption) (by assumption) (by first | assumption | (simp only [LCg.Off3, and_true]; assumption)) (by first | lcg_src | assumption) ?_))
section
variable {w : World} {p : Program} {loose : List Str} {mean : ExcName → Option Value} {mg mb : Str → Option Value} {dp un : Nat} {gd : Option (List Code)} {cn : Str} {nm : List (Str × NameKind)} {ig ic : Bool} {mo : List (Str × Const)} {a : Addr} {ccd : Value} {cl : List (Str × Addr)} {outer : List Env} {A₀ : Around} {base h₀ : Heap} {L : Addr} {m : Str → Option Value} {s : Shared} {Q E : Value → Shared → Prop} {news : List (Addr × Obj)}
set_option maxRecDepth 100000 in
set_option maxHeartbeats 8000000 in
theorem c_rep3 {x : Str} {t : Tok} {d : Addr} {tk np : Nat} (B : Below A₀ base outer h₀) (F : Fr h₀ L s.heap m) (X : (hd.heap_39 w.params).In h₀) (N : News h₀ L s.heap news) (T : Top p loose mean mg mb h₀)
    (hx : x.length ≤ 4000) (hm : (d, dob ((ps3 tk).map (ent w)) np) ∈ news) (hdm : (d == sysModules) = false) (htk : 0 < tk) (ht : 0 < s.toks)
    (hd : dp + 1 < recursionLimit)
    (hret : ∀ (t' : Tok) (h' : Heap) (tk' : Nat), 0 < tk' → Fr h₀ L h' m → News h₀ L h' news → Q (.str (e6 x) t') { s with heap := h', toks := tk' }) :
    wpAny (model PySem.Challenge.rw_ij0075_01.row.prog w) (ktrTop dp un gd cn { kind := .function, names := nm, isGenerator := ig, isCoroutine := ic, more := mo } L a ccd cl outer) (call (.ref 21) [.str (e3 x) t, .ref d]) Q E s := by
  have hn := ps3_nodup tk
  w_top off
  k_with_none
  revert X; k_fill; intro X
  refine wpAny_with_toks (n := 1) ht ?_
  k_steps
  exact hret _ _ _ (by assumption) (by assumption) (by assumption)
set_option maxRecDepth 100000 in
set_option maxHeartbeats 8000000 in
theorem c_rep2 {x : Str} {t : Tok} {d : Addr} {tk np : Nat} (B : Below A₀ base outer h₀) (F : Fr h₀ L s.heap m) (X : (hd.heap_39 w.params).In h₀) (N : News h₀ L s.heap news) (T : Top p loose mean mg mb h₀)
    (hx : x.length ≤ 4000) (hm : (d, dob ((ps2 tk).map (ent w)) np) ∈ news) (hdm : (d == sysModules) = false) (htk : 0 < tk) (ht : 0 < s.toks)
    (hd : dp + 1 < recursionLimit)
    (hret : ∀ (t' : Tok) (h' : Heap) (tk' : Nat), 0 < tk' → Fr h₀ L h' m → News h₀ L h' news → Q (.str (u4 x) t') { s with heap := h', toks := tk' }) :
    wpAny (model PySem.Challenge.rw_ij0075_01.row.prog w) (ktrTop dp un gd cn { kind := .function, names := nm, isGenerator := ig, isCoroutine := ic, more := mo } L a ccd cl outer) (call (.ref 21) [.str (u2 x) t, .ref d]) Q E s := by
  have hn := ps2_nodup tk
  revert X; k_fill; intro X
  refine wpAny_with_toks (n := 1) ht ?_
  k_steps
  exact hret _ _ _ (by assumption) (by assumption) (by assumption)
end
end Mine
end
section
open PySem PySem.W PyProof.Rows PySem.Calls
namespace Mine
local macro_rules | `(tactic| k_room) => `(tactic| ((try simp only [ktrTop, depth_mark, depth_under_make, depth_under_kw, depth_in1, depth_deeper, depth_caller]); omega))
local macro_rules | `(tactic| walk_at "execs cons") => `(tactic| (k_here; (with_reducible refine wpAny_execs_cons ?_); try dsimp only))
local macro_rules | `(tactic| walk_at "execs nil") => `(tactic| (k_here; refine wpAny_execs_nil ?_))
local macro_rules | `(tactic| walk_at "exec For Tuple Call cons nil") => `(tactic| (k_here; (rename Fr _ _ _ _ => lF'); (rename News _ _ _ _ => lN'); with_unfolding_all ((refine' For_turns lF' ?_); k_whole; (refine MethodCall_ ?_); (refine ld lF' (by rfl) ?_); (refine dob_method PySem.F.slot_dict_items PySem.F.type_dict_items lN' (by k_mem) (by assumption) ?_); (refine callWith_method0 ?_); (refine dob_items (by assumption) lF' lN' (by k_mem) (by assumption) ?_); intro vw' h' hv' F' N' l0'; (refine items_exact (by rfl) F' N' hv' (by k_mem) (by assumption) (by simp only [ps3, ps2, List.map_cons, List.map_nil]; exact rfl) ?_)); clear lF' lN'; intro i' l1; (try k_lt l1); (try k_lt l0')))
local macro_rules | `(tactic| walk_at "call builtin:str.replace") => `(tactic| (k_here; first
  | ((with_reducible show wpAny _ _ (call (Value.builtin "str.replace") [Value.str (e1 _) _, Value.str (Str.ofString ">") _, _]) _ _ _); (refine' st_e2 ?rx ?ra ?rb ?rc ?_; (case rx => omega); (case ra => first | k_ne | with_unfolding_all exact Nat.succ_ne_zero _); (case rb => k_ne); (case rc => k_ne); k_whole); intro t' k' htk')
  | ((with_reducible show wpAny _ _ (call (Value.builtin "str.replace") [Value.str (e2 _) _, Value.str (Str.ofString "<") _, _]) _ _ _); (refine' st_e3 ?rx ?ra ?rb ?rc ?_; (case rx => omega); (case ra => first | k_ne | with_unfolding_all exact Nat.succ_ne_zero _); (case rb => k_ne); (case rc => k_ne); k_whole); intro t' k' htk')
  | ((with_reducible show wpAny _ _ (call (Value.builtin "str.replace") [Value.str (e3 _) _, Value.str (Str.ofString "\n") _, _]) _ _ _); (refine' st_e4 ?rx ?ra ?rb ?rc ?_; (case rx => omega); (case ra => first | k_ne | with_unfolding_all exact Nat.succ_ne_zero _); (case rb => k_ne); (case rc => k_ne); k_whole); intro t' k' htk')
  | ((with_reducible show wpAny _ _ (call (Value.builtin "str.replace") [Value.str (e4 _) _, Value.str (Str.ofString "\r") _, _]) _ _ _); (refine' st_e5 ?rx ?ra ?rb ?rc ?_; (case rx => omega); (case ra => first | k_ne | with_unfolding_all exact Nat.succ_ne_zero _); (case rb => k_ne); (case rc => k_ne); k_whole); intro t' k' htk')
  | ((with_reducible show wpAny _ _ (call (Value.builtin "str.replace") [Value.str (e5 _) _, Value.str (Str.ofString "\t") _, _]) _ _ _); (refine' st_e6 ?rx ?ra ?rb ?rc ?_; (case rx => omega); (case ra => first | k_ne | with_unfolding_all exact Nat.succ_ne_zero _); (case rb => k_ne); (case rc => k_ne); k_whole); intro t' k' htk')
  | ((with_reducible show wpAny _ _ (call (Value.builtin "str.replace") [Value.str (e6 _) _, Value.str (Str.ofString "\"") _, _]) _ _ _); (refine' st_e7 ?rx ?ra ?rb ?rc ?_; (case rx => omega); (case ra => first | k_ne | with_unfolding_all exact Nat.succ_ne_zero _); (case rb => k_ne); (case rc => k_ne); k_whole); intro t' k' htk')
  | ((with_reducible show wpAny _ _ (call (Value.builtin "str.replace") [Value.str (u1 _) _, Value.str (Str.ofString "&gt;") _, _]) _ _ _); (refine' st_u2 ?rx ?ra ?rb ?rc ?_; (case rx => omega); (case ra => first | k_ne | with_unfolding_all exact Nat.succ_ne_zero _); (case rb => k_ne); (case rc => k_ne); k_whole); intro t' k' htk')
  | ((with_reducible show wpAny _ _ (call (Value.builtin "str.replace") [Value.str (u2 _) _, Value.str (Str.ofString "&quot;") _, _]) _ _ _); (refine' st_u3 ?rx ?ra ?rb ?rc ?_; (case rx => omega); (case ra => first | k_ne | with_unfolding_all exact Nat.succ_ne_zero _); (case rb => k_ne); (case rc => k_ne); k_whole); intro t' k' htk')
  | ((with_reducible show wpAny _ _ (call (Value.builtin "str.replace") [Value.str (u3 _) _, Value.str (Str.ofString "&#10;") _, _]) _ _ _); (refine' st_u4 ?rx ?ra ?rb ?rc ?_; (case rx => omega); (case ra => first | k_ne | with_unfolding_all exact Nat.succ_ne_zero _); (case rb => k_ne); (case rc => k_ne); k_whole); intro t' k' htk')
  | ((with_reducible show wpAny _ _ (call (Value.builtin "str.replace") [Value.str (u4 _) _, Value.str (Str.ofString "&amp;") _, _]) _ _ _); (refine' st_u5 ?rx ?ra ?rb ?rc ?_; (case rx => omega); (case ra => first | k_ne | with_unfolding_all exact Nat.succ_ne_zero _); (case rb => k_ne); (case rc => k_ne); k_whole); intro t' k' htk')
  | ((with_reducible show wpAny _ _ (call (Value.builtin "str.replace") [Value.str _ _, Value.str (Str.ofString "&") _, _]) _ _ _); (refine' st_e1 ?rx ?ra ?rb ?rc ?_; (case rx => omega); (case ra => first | k_ne | with_unfolding_all exact Nat.succ_ne_zero _); (case rb => k_ne); (case rc => k_ne); k_whole); intro t' k' htk')
  | ((with_reducible show wpAny _ _ (call (Value.builtin "str.replace") [Value.str _ _, Value.str (Str.ofString "&lt;") _, _]) _ _ _); (refine' st_u1 ?rx ?ra ?rb ?rc ?_; (case rx => omega); (case ra => first | k_ne | with_unfolding_all exact Nat.succ_ne_zero _); (case rb => k_ne); (case rc => k_ne); k_whole); intro t' k' htk')))
local macro_rules | `(tactic| walk_at "UnrEndW") => `(tactic| (refine unr_tail (by assumption) (by assumption) (by assumption) (And.intro (And.intro (by assumption) True.intro) ?_)))
local macro_rules | `(tactic| walk_at "call ref") => `(tactic| (k_here; (with_reducible show wpAny _ _ (call (Value.ref 21) [Value.str (e3 _) _, Value.ref _]) _ _ _); k_dflt (refine' c_rep3 ?k1 ?k2 ?k3 ?k4 ?k5 ?hx ?hm ?hdm ?htk ?ht ?hd ?_; (case k1 => k_asm); (case k2 => k_asm); (case k3 => k_asm); (case k4 => k_asm); (case k5 => k_asm); (case hx => first | assumption | omega); (case hm => k_mem); (case hdm => assumption); (case htk => first | assumption | omega); (case ht => first | assumption | omega | ((try simp only []); omega)); (case hd => ((try simp only [ktrTop, depth_mark, depth_under_make, depth_under_kw, depth_in1, depth_deeper, depth_caller]); omega)); k_whole); intro t9 h9 tk9 ht9 F9 N9; (try dsimp only); (try k_fold)))
local macro_rules | `(tactic| walk_at "call ref") => `(tactic| (k_here; (with_reducible show wpAny _ _ (call (Value.ref 21) [Value.str (u2 _) _, Value.ref _]) _ _ _); k_dflt (refine' c_rep2 ?k1 ?k2 ?k3 ?k4 ?k5 ?hx ?hm ?hdm ?htk ?ht ?hd ?_; (case k1 => k_asm); (case k2 => k_asm); (case k3 => k_asm); (case k4 => k_asm); (case k5 => k_asm); (case hx => first | assumption | omega); (case hm => k_mem); (case hdm => assumption); (case htk => first | assumption | omega); (case ht => first | assumption | omega | ((try simp only []); omega)); (case hd => ((try simp only [ktrTop, depth_mark, depth_under_make, depth_under_kw, depth_in1, depth_deeper, depth_caller]); omega)); k_whole); intro t9 h9 tk9 ht9 F9 N9; (try dsimp only); (try k_fold)))
local macro_rules | `(tactic| walk_at "truthy ref") => `(tactic| (k_here; (refine dob_true (by assumption) (by k_asm) (by k_mem) (by assumption) (Nat.le_of_ble_eq_true rfl) ?_)))
local macro_rules | `(tactic| walk_at "CompEnd") => `(tactic| (refine comp_end (by assumption) (by assumption) (by first | assumption | (simp only [LCg.Off3, and_true]; assumption)) (by first | lcg_src | assumption) ?_))
section
variable {w : World} {p : Program} {loose : List Str} {mean : ExcName → Option Value} {mg mb : Str → Option Value} {dp un : Nat} {gd : Option (List Code)} {cn : Str} {nm : List (Str × NameKind)} {ig ic : Bool} {mo : List (Str × Const)} {a : Addr} {ccd : Value} {cl : List (Str × Addr)} {outer : List Env} {A₀ : Around} {base h₀ : Heap} {L : Addr} {m : Str → Option Value} {s : Shared} {Q E : Value → Shared → Prop} {news : List (Addr × Obj)}
set_option maxRecDepth 100000 in
set_option maxHeartbeats 8000000 in
theorem c_esc {x : Str} {t : Tok} {d : Addr} {tk np : Nat} (B : Below A₀ base outer h₀) (F : Fr h₀ L s.heap m) (X : (hd.heap_39 w.params).In h₀) (N : News h₀ L s.heap news) (T : Top p loose mean mg mb h₀)
    (hx : x.length ≤ 4000) (hm : (d, dob ((ps3 tk).map (ent w)) np) ∈ news) (hdm : (d == sysModules) = false) (htk : 0 < tk) (ht : 0 < s.toks)
    (hd : dp + 2 < recursionLimit)
    (hret : ∀ (t' : Tok) (h' : Heap) (tk' : Nat), 0 < tk' → Fr h₀ L h' m → News h₀ L h' news → Q (.str (e6 x) t') { s with heap := h', toks := tk' }) :
    wpAny (model PySem.Challenge.rw_ij0075_01.row.prog w) (ktrTop dp un gd cn { kind := .function, names := nm, isGenerator := ig, isCoroutine := ic, more := mo } L a ccd cl outer) (call (.ref 30) [.str x t, .ref d]) Q E s := by
  have hn := ps3_nodup tk
  w_top off
  k_with_none
  revert X; k_fill; intro X
  refine wpAny_with_toks (n := 1) ht ?_
  k_steps
  exact hret _ _ _ (by assumption) (by assumption) (by assumption)
end
end Mine
end
section
open PySem PySem.W PyProof.Rows PySem.Calls
namespace Mine
local macro_rules | `(tactic| k_room) => `(tactic| ((try simp only [ktrTop, depth_mark, depth_under_make, depth_under_kw, depth_in1, depth_deeper, depth_caller]); omega))
local macro_rules | `(tactic| walk_at "execs cons") => `(tactic| (k_here; (with_reducible refine wpAny_execs_cons ?_); try dsimp only))
local macro_rules | `(tactic| walk_at "execs nil") => `(tactic| (k_here; refine wpAny_execs_nil ?_))
local macro_rules | `(tactic| walk_at "exec For Tuple Call cons nil") => `(tactic| (k_here; (rename Fr _ _ _ _ => lF'); (rename News _ _ _ _ => lN'); with_unfolding_all ((refine' For_turns lF' ?_); k_whole; (refine MethodCall_ ?_); (refine ld lF' (by rfl) ?_); (refine dob_method PySem.F.slot_dict_items PySem.F.type_dict_items lN' (by k_mem) (by assumption) ?_); (refine callWith_method0 ?_); (refine dob_items (by assumption) lF' lN' (by k_mem) (by assumption) ?_); intro vw' h' hv' F' N' l0'; (refine items_exact (by rfl) F' N' hv' (by k_mem) (by assumption) (by simp only [ps3, ps2, List.map_cons, List.map_nil]; exact rfl) ?_)); clear lF' lN'; intro i' l1; (try k_lt l1); (try k_lt l0')))
local macro_rules | `(tactic| walk_at "call builtin:str.replace") => `(tactic| (k_here; first
  | ((with_reducible show wpAny _ _ (call (Value.builtin "str.replace") [Value.str (e1 _) _, Value.str (Str.ofString ">") _, _]) _ _ _); (refine' st_e2 ?rx ?ra ?rb ?rc ?_; (case rx => omega); (case ra => first | k_ne | with_unfolding_all exact Nat.succ_ne_zero _); (case rb => k_ne); (case rc => k_ne); k_whole); intro t' k' htk')
  | ((with_reducible show wpAny _ _ (call (Value.builtin "str.replace") [Value.str (e2 _) _, Value.str (Str.ofString "<") _, _]) _ _ _); (refine' st_e3 ?rx ?ra ?rb ?rc ?_; (case rx => omega); (case ra => first | k_ne | with_unfolding_all exact Nat.succ_ne_zero _); (case rb => k_ne); (case rc => k_ne); k_whole); intro t' k' htk')
  | ((with_reducible show wpAny _ _ (call (Value.builtin "str.replace") [Value.str (e3 _) _, Value.str (Str.ofString "\n") _, _]) _ _ _); (refine' st_e4 ?rx ?ra ?rb ?rc ?_; (case rx => omega); (case ra => first | k_ne | with_unfolding_all exact Nat.succ_ne_zero _); (case rb => k_ne); (case rc => k_ne); k_whole); intro t' k' htk')
  | ((with_reducible show wpAny _ _ (call (Value.builtin "str.replace") [Value.str (e4 _) _, Value.str (Str.ofString "\r") _, _]) _ _ _); (refine' st_e5 ?rx ?ra ?rb ?rc ?_; (case rx => omega); (case ra => first | k_ne | with_unfolding_all exact Nat.succ_ne_zero _); (case rb => k_ne); (case rc => k_ne); k_whole); intro t' k' htk')
  | ((with_reducible show wpAny _ _ (call (Value.builtin "str.replace") [Value.str (e5 _) _, Value.str (Str.ofString "\t") _, _]) _ _ _); (refine' st_e6 ?rx ?ra ?rb ?rc ?_; (case rx => omega); (case ra => first | k_ne | with_unfolding_all exact Nat.succ_ne_zero _); (case rb => k_ne); (case rc => k_ne); k_whole); intro t' k' htk')
  | ((with_reducible show wpAny _ _ (call (Value.builtin "str.replace") [Value.str (e6 _) _, Value.str (Str.ofString "\"") _, _]) _ _ _); (refine' st_e7 ?rx ?ra ?rb ?rc ?_; (case rx => omega); (case ra => first | k_ne | with_unfolding_all exact Nat.succ_ne_zero _); (case rb => k_ne); (case rc => k_ne); k_whole); intro t' k' htk')
  | ((with_reducible show wpAny _ _ (call (Value.builtin "str.replace") [Value.str (u1 _) _, Value.str (Str.ofString "&gt;") _, _]) _ _ _); (refine' st_u2 ?rx ?ra ?rb ?rc ?_; (case rx => omega); (case ra => first | k_ne | with_unfolding_all exact Nat.succ_ne_zero _); (case rb => k_ne); (case rc => k_ne); k_whole); intro t' k' htk')
  | ((with_reducible show wpAny _ _ (call (Value.builtin "str.replace") [Value.str (u2 _) _, Value.str (Str.ofString "&quot;") _, _]) _ _ _); (refine' st_u3 ?rx ?ra ?rb ?rc ?_; (case rx => omega); (case ra => first | k_ne | with_unfolding_all exact Nat.succ_ne_zero _); (case rb => k_ne); (case rc => k_ne); k_whole); intro t' k' htk')
  | ((with_reducible show wpAny _ _ (call (Value.builtin "str.replace") [Value.str (u3 _) _, Value.str (Str.ofString "&#10;") _, _]) _ _ _); (refine' st_u4 ?rx ?ra ?rb ?rc ?_; (case rx => omega); (case ra => first | k_ne | with_unfolding_all exact Nat.succ_ne_zero _); (case rb => k_ne); (case rc => k_ne); k_whole); intro t' k' htk')
  | ((with_reducible show wpAny _ _ (call (Value.builtin "str.replace") [Value.str (u4 _) _, Value.str (Str.ofString "&amp;") _, _]) _ _ _); (refine' st_u5 ?rx ?ra ?rb ?rc ?_; (case rx => omega); (case ra => first | k_ne | with_unfolding_all exact Nat.succ_ne_zero _); (case rb => k_ne); (case rc => k_ne); k_whole); intro t' k' htk')
  | ((with_reducible show wpAny _ _ (call (Value.builtin "str.replace") [Value.str _ _, Value.str (Str.ofString "&") _, _]) _ _ _); (refine' st_e1 ?rx ?ra ?rb ?rc ?_; (case rx => omega); (case ra => first | k_ne | with_unfolding_all exact Nat.succ_ne_zero _); (case rb => k_ne); (case rc => k_ne); k_whole); intro t' k' htk')
  | ((with_reducible show wpAny _ _ (call (Value.builtin "str.replace") [Value.str _ _, Value.str (Str.ofString "&lt;") _, _]) _ _ _); (refine' st_u1 ?rx ?ra ?rb ?rc ?_; (case rx => omega); (case ra => first | k_ne | with_unfolding_all exact Nat.succ_ne_zero _); (case rb => k_ne); (case rc => k_ne); k_whole); intro t' k' htk')))
local macro_rules | `(tactic| walk_at "UnrEndW") => `(tactic| (refine unr_tail (by assumption) (by assumption) (by assumption) (And.intro (And.intro (by assumption) True.intro) ?_)))
local macro_rules | `(tactic| walk_at "call ref") => `(tactic| (k_here; (with_reducible show wpAny _ _ (call (Value.ref 21) [Value.str (e3 _) _, Value.ref _]) _ _ _); k_dflt (refine' c_rep3 ?k1 ?k2 ?k3 ?k4 ?k5 ?hx ?hm ?hdm ?htk ?ht ?hd ?_; (case k1 => k_asm); (case k2 => k_asm); (case k3 => k_asm); (case k4 => k_asm); (case k5 => k_asm); (case hx => first | assumption | omega); (case hm => k_mem); (case hdm => assumption); (case htk => first | assumption | omega); (case ht => first | assumption | omega | ((try simp only []); omega)); (case hd => ((try simp only [ktrTop, depth_mark, depth_under_make, depth_under_kw, depth_in1, depth_deeper, depth_caller]); omega)); k_whole); intro t9 h9 tk9 ht9 F9 N9; (try dsimp only); (try k_fold)))
local macro_rules | `(tactic| walk_at "call ref") => `(tactic| (k_here; (with_reducible show wpAny _ _ (call (Value.ref 21) [Value.str (u2 _) _, Value.ref _]) _ _ _); k_dflt (refine' c_rep2 ?k1 ?k2 ?k3 ?k4 ?k5 ?hx ?hm ?hdm ?htk ?ht ?hd ?_; (case k1 => k_asm); (case k2 => k_asm); (case k3 => k_asm); (case k4 => k_asm); (case k5 => k_asm); (case hx => first | assumption | omega); (case hm => k_mem); (case hdm => assumption); (case htk => first | assumption | omega); (case ht => first | assumption | omega | ((try simp only []); omega)); (case hd => ((try simp only [ktrTop, depth_mark, depth_under_make, depth_under_kw, depth_in1, depth_deeper, depth_caller]); omega)); k_whole); intro t9 h9 tk9 ht9 F9 N9; (try dsimp only); (try k_fold)))
local macro_rules | `(tactic| walk_at "truthy ref") => `(tactic| (k_here; (refine dob_true (by assumption) (by k_asm) (by k_mem) (by assumption) (Nat.le_of_ble_eq_true rfl) ?_)))
local macro_rules | `(tactic| walk_at "call ref") => `(tactic| (k_here; (with_reducible show wpAny _ _ (call (Value.ref 30) [Value.str _ _, Value.ref _]) _ _ _); k_dflt (refine' c_esc ?k1 ?k2 ?k3 ?k4 ?k5 ?hx ?hm ?hdm ?htk ?ht ?hd ?_; (case k1 => k_asm); (case k2 => k_asm); (case k3 => k_asm); (case k4 => k_asm); (case k5 => k_asm); (case hx => first | assumption | omega); (case hm => k_mem); (case hdm => assumption); (case htk => first | assumption | omega); (case ht => first | assumption | omega | ((try simp only []); omega)); (case hd => ((try simp only [ktrTop, depth_mark, depth_under_make, depth_under_kw, depth_in1, depth_deeper, depth_caller]); omega)); k_whole); intro t9 h9 tk9 ht9 F9 N9; (try dsimp only); (try k_fold)))
local macro_rules | `(tactic| walk_at "eval Dict") => `(tactic| (k_here; k_dflt (refine' star3 (a := 40) (n0 := 0) ?F ?N ?b ?t ?ha (by rfl) ?hv ?_; (case F => k_asm); (case N => k_asm); (case b => exact Top.nolimit (by k_asm)); (case t => first | omega | with_unfolding_all exact Nat.succ_pos _); (case ha => refine (by k_asm : Frag.In _ _) 40 _ ?_; k_is); (case hv => intro s₀ Q' F0 hq; exact ld F0 (by rfl) hq); k_whole); intro d' h' tk1' tk2' ht1' ht2' F' N' l1 lo' hn'; (try k_lt l1)))
local macro_rules | `(tactic| walk_at "CompEnd") => `(tactic| (refine comp_end (by assumption) (by assumption) (by first | assumption | (simp only [LCg.Off3, and_true]; assumption)) (by first | lcg_src | assumption) ?_))
section
variable {w : World} {p : Program} {loose : List Str} {mean : ExcName → Option Value} {mg mb : Str → Option Value} {dp un : Nat} {gd : Option (List Code)} {cn : Str} {nm : List (Str × NameKind)} {ig ic : Bool} {mo : List (Str × Const)} {a : Addr} {ccd : Value} {cl : List (Str × Addr)} {outer : List Env} {A₀ : Around} {base h₀ : Heap} {L : Addr} {m : Str → Option Value} {s : Shared} {Q E : Value → Shared → Prop} {news : List (Addr × Obj)}
set_option maxRecDepth 100000 in
set_option maxHeartbeats 8000000 in
theorem c_quote {x : Str} {t : Tok} (B : Below A₀ base outer h₀) (F : Fr h₀ L s.heap m) (X : (hd.heap_39 w.params).In h₀) (N : News h₀ L s.heap news) (T : Top p loose mean mg mb h₀)
    (hx : x.length ≤ 4000) (hd : dp + 3 < recursionLimit)
    (hret : ∀ (t' : Tok) (h' : Heap) (tk' : Nat), Fr h₀ L h' m → News h₀ L h' news → Q (.str (qa x) t') { s with heap := h', toks := tk' }) :
    wpAny (model PySem.Challenge.rw_ij0075_01.row.prog w) (ktrTop dp un gd cn { kind := .function, names := nm, isGenerator := ig, isCoroutine := ic, more := mo } L a ccd cl outer) (call (.ref 48) [.str x t]) Q E s := by
  have l6 := e6_len x
  have l7 := e7_len x
  w_top off
  k_with_none
  revert X; k_fill; intro X
  k_steps
  all_goals first
    | (rw [← qa_two (x := x) (by assumption) (by assumption)]; apply hret; assumption; apply kti_tail; assumption)
    | (rw [← qa_one (x := x) (by assumption) (by assumption)]; apply hret; assumption; apply kti_tail; assumption)
    | (rw [← qa_no (x := x) (by assumption)]; apply hret; assumption; apply kti_tail; assumption)
end
end Mine
end
section
open PySem PySem.W PyProof.Rows PySem.Calls
namespace Mine
local macro_rules | `(tactic| k_room) => `(tactic| ((try simp only [ktrTop, depth_mark, depth_under_make, depth_under_kw, depth_in1, depth_deeper, depth_caller]); omega))
local macro_rules | `(tactic| walk_at "execs cons") => `(tactic| (k_here; (with_reducible refine wpAny_execs_cons ?_); try dsimp only))
local macro_rules | `(tactic| walk_at "execs nil") => `(tactic| (k_here; refine wpAny_execs_nil ?_))
local macro_rules | `(tactic| walk_at "exec For Tuple Call cons nil") => `(tactic| (k_here; (rename Fr _ _ _ _ => lF'); (rename News _ _ _ _ => lN'); with_unfolding_all ((refine' For_turns lF' ?_); k_whole; (refine MethodCall_ ?_); (refine ld lF' (by rfl) ?_); (refine dob_method PySem.F.slot_dict_items PySem.F.type_dict_items lN' (by k_mem) (by assumption) ?_); (refine callWith_method0 ?_); (refine dob_items (by assumption) lF' lN' (by k_mem) (by assumption) ?_); intro vw' h' hv' F' N' l0'; (refine items_exact (by rfl) F' N' hv' (by k_mem) (by assumption) (by simp only [ps3, ps2, List.map_cons, List.map_nil]; exact rfl) ?_)); clear lF' lN'; intro i' l1; (try k_lt l1); (try k_lt l0')))
local macro_rules | `(tactic| walk_at "call builtin:str.replace") => `(tactic| (k_here; first
  | ((with_reducible show wpAny _ _ (call (Value.builtin "str.replace") [Value.str (e1 _) _, Value.str (Str.ofString ">") _, _]) _ _ _); (refine' st_e2 ?rx ?ra ?rb ?rc ?_; (case rx => omega); (case ra => first | k_ne | with_unfolding_all exact Nat.succ_ne_zero _); (case rb => k_ne); (case rc => k_ne); k_whole); intro t' k' htk')
  | ((with_reducible show wpAny _ _ (call (Value.builtin "str.replace") [Value.str (e2 _) _, Value.str (Str.ofString "<") _, _]) _ _ _); (refine' st_e3 ?rx ?ra ?rb ?rc ?_; (case rx => omega); (case ra => first | k_ne | with_unfolding_all exact Nat.succ_ne_zero _); (case rb => k_ne); (case rc => k_ne); k_whole); intro t' k' htk')
  | ((with_reducible show wpAny _ _ (call (Value.builtin "str.replace") [Value.str (e3 _) _, Value.str (Str.ofString "\n") _, _]) _ _ _); (refine' st_e4 ?rx ?ra ?rb ?rc ?_; (case rx => omega); (case ra => first | k_ne | with_unfolding_all exact Nat.succ_ne_zero _); (case rb => k_ne); (case rc => k_ne); k_whole); intro t' k' htk')
  | ((with_reducible show wpAny _ _ (call (Value.builtin "str.replace") [Value.str (e4 _) _, Value.str (Str.ofString "\r") _, _]) _ _ _); (refine' st_e5 ?rx ?ra ?rb ?rc ?_; (case rx => omega); (case ra => first | k_ne | with_unfolding_all exact Nat.succ_ne_zero _); (case rb => k_ne); (case rc => k_ne); k_whole); intro t' k' htk')
  | ((with_reducible show wpAny _ _ (call (Value.builtin "str.replace") [Value.str (e5 _) _, Value.str (Str.ofString "\t") _, _]) _ _ _); (refine' st_e6 ?rx ?ra ?rb ?rc ?_; (case rx => omega); (case ra => first | k_ne | with_unfolding_all exact Nat.succ_ne_zero _); (case rb => k_ne); (case rc => k_ne); k_whole); intro t' k' htk')
  | ((with_reducible show wpAny _ _ (call (Value.builtin "str.replace") [Value.str (e6 _) _, Value.str (Str.ofString "\"") _, _]) _ _ _); (refine' st_e7 ?rx ?ra ?rb ?rc ?_; (case rx => omega); (case ra => first | k_ne | with_unfolding_all exact Nat.succ_ne_zero _); (case rb => k_ne); (case rc => k_ne); k_whole); intro t' k' htk')
  | ((with_reducible show wpAny _ _ (call (Value.builtin "str.replace") [Value.str (u1 _) _, Value.str (Str.ofString "&gt;") _, _]) _ _ _); (refine' st_u2 ?rx ?ra ?rb ?rc ?_; (case rx => omega); (case ra => first | k_ne | with_unfolding_all exact Nat.succ_ne_zero _); (case rb => k_ne); (case rc => k_ne); k_whole); intro t' k' htk')
  | ((with_reducible show wpAny _ _ (call (Value.builtin "str.replace") [Value.str (u2 _) _, Value.str (Str.ofString "&quot;") _, _]) _ _ _); (refine' st_u3 ?rx ?ra ?rb ?rc ?_; (case rx => omega); (case ra => first | k_ne | with_unfolding_all exact Nat.succ_ne_zero _); (case rb => k_ne); (case rc => k_ne); k_whole); intro t' k' htk')
  | ((with_reducible show wpAny _ _ (call (Value.builtin "str.replace") [Value.str (u3 _) _, Value.str (Str.ofString "&#10;") _, _]) _ _ _); (refine' st_u4 ?rx ?ra ?rb ?rc ?_; (case rx => omega); (case ra => first | k_ne | with_unfolding_all exact Nat.succ_ne_zero _); (case rb => k_ne); (case rc => k_ne); k_whole); intro t' k' htk')
  | ((with_reducible show wpAny _ _ (call (Value.builtin "str.replace") [Value.str (u4 _) _, Value.str (Str.ofString "&amp;") _, _]) _ _ _); (refine' st_u5 ?rx ?ra ?rb ?rc ?_; (case rx => omega); (case ra => first | k_ne | with_unfolding_all exact Nat.succ_ne_zero _); (case rb => k_ne); (case rc => k_ne); k_whole); intro t' k' htk')
  | ((with_reducible show wpAny _ _ (call (Value.builtin "str.replace") [Value.str _ _, Value.str (Str.ofString "&") _, _]) _ _ _); (refine' st_e1 ?rx ?ra ?rb ?rc ?_; (case rx => omega); (case ra => first | k_ne | with_unfolding_all exact Nat.succ_ne_zero _); (case rb => k_ne); (case rc => k_ne); k_whole); intro t' k' htk')
  | ((with_reducible show wpAny _ _ (call (Value.builtin "str.replace") [Value.str _ _, Value.str (Str.ofString "&lt;") _, _]) _ _ _); (refine' st_u1 ?rx ?ra ?rb ?rc ?_; (case rx => omega); (case ra => first | k_ne | with_unfolding_all exact Nat.succ_ne_zero _); (case rb => k_ne); (case rc => k_ne); k_whole); intro t' k' htk')))
local macro_rules | `(tactic| walk_at "UnrEndW") => `(tactic| (refine unr_tail (by assumption) (by assumption) (by assumption) (And.intro (And.intro (by assumption) True.intro) ?_)))
local macro_rules | `(tactic| walk_at "call ref") => `(tactic| (k_here; (with_reducible show wpAny _ _ (call (Value.ref 21) [Value.str (e3 _) _, Value.ref _]) _ _ _); k_dflt (refine' c_rep3 ?k1 ?k2 ?k3 ?k4 ?k5 ?hx ?hm ?hdm ?htk ?ht ?hd ?_; (case k1 => k_asm); (case k2 => k_asm); (case k3 => k_asm); (case k4 => k_asm); (case k5 => k_asm); (case hx => first | assumption | omega); (case hm => k_mem); (case hdm => assumption); (case htk => first | assumption | omega); (case ht => first | assumption | omega | ((try simp only []); omega)); (case hd => ((try simp only [ktrTop, depth_mark, depth_under_make, depth_under_kw, depth_in1, depth_deeper, depth_caller]); omega)); k_whole); intro t9 h9 tk9 ht9 F9 N9; (try dsimp only); (try k_fold)))
local macro_rules | `(tactic| walk_at "call ref") => `(tactic| (k_here; (with_reducible show wpAny _ _ (call (Value.ref 21) [Value.str (u2 _) _, Value.ref _]) _ _ _); k_dflt (refine' c_rep2 ?k1 ?k2 ?k3 ?k4 ?k5 ?hx ?hm ?hdm ?htk ?ht ?hd ?_; (case k1 => k_asm); (case k2 => k_asm); (case k3 => k_asm); (case k4 => k_asm); (case k5 => k_asm); (case hx => first | assumption | omega); (case hm => k_mem); (case hdm => assumption); (case htk => first | assumption | omega); (case ht => first | assumption | omega | ((try simp only []); omega)); (case hd => ((try simp only [ktrTop, depth_mark, depth_under_make, depth_under_kw, depth_in1, depth_deeper, depth_caller]); omega)); k_whole); intro t9 h9 tk9 ht9 F9 N9; (try dsimp only); (try k_fold)))
local macro_rules | `(tactic| walk_at "truthy ref") => `(tactic| (k_here; (refine dob_true (by assumption) (by k_asm) (by k_mem) (by assumption) (Nat.le_of_ble_eq_true rfl) ?_)))
local macro_rules | `(tactic| walk_at "CompEnd") => `(tactic| (refine comp_end (by assumption) (by assumption) (by first | assumption | (simp only [LCg.Off3, and_true]; assumption)) (by first | lcg_src | assumption) ?_))
section
variable {w : World} {p : Program} {loose : List Str} {mean : ExcName → Option Value} {mg mb : Str → Option Value} {dp un : Nat} {gd : Option (List Code)} {cn : Str} {nm : List (Str × NameKind)} {ig ic : Bool} {mo : List (Str × Const)} {a : Addr} {ccd : Value} {cl : List (Str × Addr)} {outer : List Env} {A₀ : Around} {base h₀ : Heap} {L : Addr} {m : Str → Option Value} {s : Shared} {Q E : Value → Shared → Prop} {news : List (Addr × Obj)}
set_option maxRecDepth 100000 in
set_option maxHeartbeats 8000000 in
theorem c_une {x : Str} {t : Tok} {d : Addr} {tk np : Nat} (B : Below A₀ base outer h₀) (F : Fr h₀ L s.heap m) (X : (hd.heap_39 w.params).In h₀) (N : News h₀ L s.heap news) (T : Top p loose mean mg mb h₀)
    (hx : x.length ≤ 4000) (hm : (d, dob ((ps2 tk).map (ent w)) np) ∈ news) (hdm : (d == sysModules) = false) (htk : 0 < tk) (hd : dp + 2 < recursionLimit)
    (hret : ∀ (t' : Tok) (h' : Heap) (tk' : Nat), Fr h₀ L h' m → News h₀ L h' news → Q (.str (u5 x) t') { s with heap := h', toks := tk' }) :
    wpAny (model PySem.Challenge.rw_ij0075_01.row.prog w) (ktrTop dp un gd cn { kind := .function, names := nm, isGenerator := ig, isCoroutine := ic, more := mo } L a ccd cl outer) (call (.ref 39) [.str x t, .ref d]) Q E s := by
  have hn := ps2_nodup tk
  w_top off
  k_with_none
  revert X; k_fill; intro X
  k_steps
  exact hret _ _ _ (by assumption) (by assumption)
end
end Mine
end
section
open PySem PySem.W PyProof.Rows PySem.Calls
namespace Mine
local macro_rules | `(tactic| k_room) => `(tactic| ((try simp only [ktrTop, depth_mark, depth_under_make, depth_under_kw, depth_in1, depth_deeper, depth_caller]); omega))
local macro_rules | `(tactic| walk_at "execs cons") => `(tactic| (k_here; (with_reducible refine wpAny_execs_cons ?_); try dsimp only))
local macro_rules | `(tactic| walk_at "execs nil") => `(tactic| (k_here; refine wpAny_execs_nil ?_))
local macro_rules | `(tactic| walk_at "exec For Tuple Call cons nil") => `(tactic| (k_here; (rename Fr _ _ _ _ => lF'); (rename News _ _ _ _ => lN'); with_unfolding_all ((refine' For_turns lF' ?_); k_whole; (refine MethodCall_ ?_); (refine ld lF' (by rfl) ?_); (refine dob_method PySem.F.slot_dict_items PySem.F.type_dict_items lN' (by k_mem) (by assumption) ?_); (refine callWith_method0 ?_); (refine dob_items (by assumption) lF' lN' (by k_mem) (by assumption) ?_); intro vw' h' hv' F' N' l0'; (refine items_exact (by rfl) F' N' hv' (by k_mem) (by assumption) (by simp only [ps3, ps2, List.map_cons, List.map_nil]; exact rfl) ?_)); clear lF' lN'; intro i' l1; (try k_lt l1); (try k_lt l0')))
local macro_rules | `(tactic| walk_at "call builtin:str.replace") => `(tactic| (k_here; first
  | ((with_reducible show wpAny _ _ (call (Value.builtin "str.replace") [Value.str (e1 _) _, Value.str (Str.ofString ">") _, _]) _ _ _); (refine' st_e2 ?rx ?ra ?rb ?rc ?_; (case rx => omega); (case ra => first | k_ne | with_unfolding_all exact Nat.succ_ne_zero _); (case rb => k_ne); (case rc => k_ne); k_whole); intro t' k' htk')
  | ((with_reducible show wpAny _ _ (call (Value.builtin "str.replace") [Value.str (e2 _) _, Value.str (Str.ofString "<") _, _]) _ _ _); (refine' st_e3 ?rx ?ra ?rb ?rc ?_; (case rx => omega); (case ra => first | k_ne | with_unfolding_all exact Nat.succ_ne_zero _); (case rb => k_ne); (case rc => k_ne); k_whole); intro t' k' htk')
  | ((with_reducible show wpAny _ _ (call (Value.builtin "str.replace") [Value.str (e3 _) _, Value.str (Str.ofString "\n") _, _]) _ _ _); (refine' st_e4 ?rx ?ra ?rb ?rc ?_; (case rx => omega); (case ra => first | k_ne | with_unfolding_all exact Nat.succ_ne_zero _); (case rb => k_ne); (case rc => k_ne); k_whole); intro t' k' htk')
  | ((with_reducible show wpAny _ _ (call (Value.builtin "str.replace") [Value.str (e4 _) _, Value.str (Str.ofString "\r") _, _]) _ _ _); (refine' st_e5 ?rx ?ra ?rb ?rc ?_; (case rx => omega); (case ra => first | k_ne | with_unfolding_all exact Nat.succ_ne_zero _); (case rb => k_ne); (case rc => k_ne); k_whole); intro t' k' htk')
  | ((with_reducible show wpAny _ _ (call (Value.builtin "str.replace") [Value.str (e5 _) _, Value.str (Str.ofString "\t") _, _]) _ _ _); (refine' st_e6 ?rx ?ra ?rb ?rc ?_; (case rx => omega); (case ra => first | k_ne | with_unfolding_all exact Nat.succ_ne_zero _); (case rb => k_ne); (case rc => k_ne); k_whole); intro t' k' htk')
  | ((with_reducible show wpAny _ _ (call (Value.builtin "str.replace") [Value.str (e6 _) _, Value.str (Str.ofString "\"") _, _]) _ _ _); (refine' st_e7 ?rx ?ra ?rb ?rc ?_; (case rx => omega); (case ra => first | k_ne | with_unfolding_all exact Nat.succ_ne_zero _); (case rb => k_ne); (case rc => k_ne); k_whole); intro t' k' htk')
  | ((with_reducible show wpAny _ _ (call (Value.builtin "str.replace") [Value.str (u1 _) _, Value.str (Str.ofString "&gt;") _, _]) _ _ _); (refine' st_u2 ?rx ?ra ?rb ?rc ?_; (case rx => omega); (case ra => first | k_ne | with_unfolding_all exact Nat.succ_ne_zero _); (case rb => k_ne); (case rc => k_ne); k_whole); intro t' k' htk')
  | ((with_reducible show wpAny _ _ (call (Value.builtin "str.replace") [Value.str (u2 _) _, Value.str (Str.ofString "&quot;") _, _]) _ _ _); (refine' st_u3 ?rx ?ra ?rb ?rc ?_; (case rx => omega); (case ra => first | k_ne | with_unfolding_all exact Nat.succ_ne_zero _); (case rb => k_ne); (case rc => k_ne); k_whole); intro t' k' htk')
  | ((with_reducible show wpAny _ _ (call (Value.builtin "str.replace") [Value.str (u3 _) _, Value.str (Str.ofString "&#10;") _, _]) _ _ _); (refine' st_u4 ?rx ?ra ?rb ?rc ?_; (case rx => omega); (case ra => first | k_ne | with_unfolding_all exact Nat.succ_ne_zero _); (case rb => k_ne); (case rc => k_ne); k_whole); intro t' k' htk')
  | ((with_reducible show wpAny _ _ (call (Value.builtin "str.replace") [Value.str (u4 _) _, Value.str (Str.ofString "&amp;") _, _]) _ _ _); (refine' st_u5 ?rx ?ra ?rb ?rc ?_; (case rx => omega); (case ra => first | k_ne | with_unfolding_all exact Nat.succ_ne_zero _); (case rb => k_ne); (case rc => k_ne); k_whole); intro t' k' htk')
  | ((with_reducible show wpAny _ _ (call (Value.builtin "str.replace") [Value.str _ _, Value.str (Str.ofString "&") _, _]) _ _ _); (refine' st_e1 ?rx ?ra ?rb ?rc ?_; (case rx => omega); (case ra => first | k_ne | with_unfolding_all exact Nat.succ_ne_zero _); (case rb => k_ne); (case rc => k_ne); k_whole); intro t' k' htk')
  | ((with_reducible show wpAny _ _ (call (Value.builtin "str.replace") [Value.str _ _, Value.str (Str.ofString "&lt;") _, _]) _ _ _); (refine' st_u1 ?rx ?ra ?rb ?rc ?_; (case rx => omega); (case ra => first | k_ne | with_unfolding_all exact Nat.succ_ne_zero _); (case rb => k_ne); (case rc => k_ne); k_whole); intro t' k' htk')))
local macro_rules | `(tactic| walk_at "UnrEndW") => `(tactic| (refine unr_tail (by assumption) (by assumption) (by assumption) (And.intro (And.intro (by assumption) True.intro) ?_)))
local macro_rules | `(tactic| walk_at "truthy ref") => `(tactic| (k_here; (refine dob_true (by assumption) (by k_asm) (by k_mem) (by assumption) (Nat.le_of_ble_eq_true rfl) ?_)))
local macro_rules | `(tactic| walk_at "CompEnd") => `(tactic| (refine comp_end (by assumption) (by assumption) (by first | assumption | (simp only [LCg.Off3, and_true]; assumption)) (by first | lcg_src | assumption) ?_))
section
variable {w : World} {p : Program} {loose : List Str} {mean : ExcName → Option Value} {mg mb : Str → Option Value} {dp un : Nat} {gd : Option (List Code)} {cn : Str} {nm : List (Str × NameKind)} {ig ic : Bool} {mo : List (Str × Const)} {a : Addr} {ccd : Value} {cl : List (Str × Addr)} {outer : List Env} {A₀ : Around} {base h₀ : Heap} {L : Addr} {m : Str → Option Value} {s : Shared} {Q E : Value → Shared → Prop} {news : List (Addr × Obj)}
set_option maxRecDepth 100000 in
set_option maxHeartbeats 8000000 in
theorem c_marks {x : Str} {t : Tok} (B : Below A₀ base outer h₀) (F : Fr h₀ L s.heap m) (X : (hd.heap_39 w.params).In h₀) (N : News h₀ L s.heap news) (T : Top p loose mean mg mb h₀)
    (hx : x.length ≤ 4000) (hd : dp + 1 < recursionLimit) (hu : un + 32 < cLine)
    (hret : ∀ (t' : Tok) (h' : Heap) (tk' : Nat), Fr h₀ L h' m → News h₀ L h' news → Q (.int (mk x) t') { s with heap := h', toks := tk' }) :
    wpAny (model PySem.Challenge.rw_ij0075_01.row.prog w) (ktrTop dp un gd cn { kind := .function, names := nm, isGenerator := ig, isCoroutine := ic, more := mo } L a ccd cl outer) (call (.ref 76) [.str x t]) Q E s := by
  w_top off
  k_with_none
  revert X; k_fill; intro X
  k_steps
  all_goals first
    | (rw [← mk_two (x := x) (by assumption) (by assumption)]; apply hret; assumption; (repeat' (first | assumption | apply kti_tail)))
    | (rw [← mk_no (x := x) (by assumption)]; apply hret; assumption; (repeat' (first | assumption | apply kti_tail)))
    | (rw [← mk_one (x := x) (by assumption)]; apply hret; assumption; (repeat' (first | assumption | apply kti_tail)))
end
end Mine
end
section
open PySem PySem.W PyProof.Rows PySem.Calls
namespace Mine
local macro_rules | `(tactic| walk_at "CompSrc") => `(tactic| (k_here; (try k_fmods); k_dflt (refine LCg.CompSrc.ledger (by rfl) (by k_asm) (by k_asm) (by k_mem) (by kcf_size) ?_; intro g'; (refine' kct_list _ (by first | assumption | l_ints) (fun k' t' I' oI' C' oC' D' m' ys' h' tk' E' hk' hC' hx' F' N' off' ne' => ?_) ?_); (all_goals (try (simp only [LCg.Off3, and_true] at off'))); (all_goals (try ((show KPfMark → _); intro hMark'))); kcf_last)))
local macro_rules | `(tactic| walk_at "execs cons") => `(tactic| (k_here; (with_reducible refine wpAny_execs_cons ?_); try dsimp only))
local macro_rules | `(tactic| walk_at "execs nil") => `(tactic| (k_here; refine wpAny_execs_nil ?_))
local macro_rules | `(tactic| walk_at "call ref") => `(tactic| (k_here; (with_reducible show wpAny _ _ (call (Value.ref 48) [Value.str _ _]) _ _ _); k_dflt (refine' c_quote ?k1 ?k2 ?k3 ?k4 ?k5 ?hx ?hd ?_; (case k1 => k_asm); (case k2 => k_asm); (case k3 => k_asm); (case k4 => k_asm); (case k5 => k_asm); (case hx => first | assumption | omega); (case hd => first | ((try simp only [ktrTop, depth_mark, depth_under_make, depth_under_kw, depth_in1, depth_deeper, depth_caller]); first | omega | decide)); k_whole); intro t9 h9 tk9 F9 N9; (try dsimp only); (try k_fold)))
local macro_rules | `(tactic| walk_at "call ref") => `(tactic| (k_here; (with_reducible show wpAny _ _ (call (Value.ref 39) [Value.str _ _, Value.ref _]) _ _ _); k_dflt (refine' c_une ?k1 ?k2 ?k3 ?k4 ?k5 ?hx ?hm ?hdm ?htk ?hd ?_; (case k1 => k_asm); (case k2 => k_asm); (case k3 => k_asm); (case k4 => k_asm); (case k5 => k_asm); (case hx => first | assumption | omega | exact Nat.le_trans (PySem.Txt.slice_le _ _ _) (by omega)); (case hm => k_mem); (case hdm => assumption); (case htk => assumption); (case hd => first | ((try simp only [ktrTop, depth_mark, depth_under_make, depth_under_kw, depth_in1, depth_deeper, depth_caller]); first | omega | decide)); k_whole); intro t9 h9 tk9 F9 N9; (try dsimp only); (try k_fold)))
local macro_rules | `(tactic| walk_at "call ref") => `(tactic| (k_here; (with_reducible show wpAny _ _ (call (Value.ref 76) [Value.str _ _]) _ _ _); k_dflt (refine' c_marks ?k1 ?k2 ?k3 ?k4 ?k5 ?hx ?hd ?hu ?_; (case k1 => k_asm); (case k2 => k_asm); (case k3 => k_asm); (case k4 => k_asm); (case k5 => k_asm); (case hx => first | assumption | omega); (case hd => first | ((try simp only [ktrTop, depth_mark, depth_under_make, depth_under_kw, depth_in1, depth_deeper, depth_caller]); first | omega | decide)); (case hu => first | decide | omega | ((simp only [cLine]); decide)); k_whole); intro t9 h9 tk9 F9 N9; (try dsimp only); (try k_fold)))
local macro_rules | `(tactic| walk_at "eval Dict") => `(tactic| (k_here; k_dflt (refine' disp2 ?F ?N ?b ?t ?_; (case F => k_asm); (case N => k_asm); (case b => exact Top.nolimit (by k_asm)); (case t => first | omega | with_unfolding_all exact Nat.succ_pos _); k_whole); intro d' h' tk1' tk2' ht1' ht2' F' N' l1 lo' hn'; (try k_lt l1)))
local macro_rules | `(tactic| walk_at "subscriptTail Name Slice ref ref") => `(tactic| (k_here; (with_reducible show wpAny _ _ (subscriptTail _ (PySem.Expr.Slice none (some (PySem.Expr.BinOp _ _ _ _)) none _) (Value.ref _) (Value.ref _)) _ _ _); (rename List Int => wz); (have e3 := three ((wz.length : Int) + 1)); (rcases e3 with e3 | e3 | e3) <;> (k_dflt (refine' kms_slice_lit ?F ?N ?l ?p ?q ?e ?_ ?s ?t ?z; (case F => k_asm); (case N => k_asm); (case l => kmk_list); (case p => kmk_part); (case q => kmk_part); (case e => first | exact pick1 _ _ _ e3 | exact pick2 _ _ _ e3 | exact pick3 _ _ _ e3); (case s => with_unfolding_all rfl); (case t => kmk_pure); (case z => kmk_size)); intro D' h' F' N' l1; (try k_lt l1); (try k_sweep))))
local macro_rules | `(tactic| walk_at "call builtin:iter") => `(tactic| (k_here; (with_reducible show wpAny _ _ (call (Value.builtin "iter") [Value.ref _]) _ _ _); k_dflt (refine' iter_list ?F ?N ?m ?c ?d ?_; (case F => k_asm); (case N => k_asm); (case m => k_mem); (case c => rfl); (case d => rfl); k_whole); intro I' h' F' N' l1; (try k_lt l1)))
local macro_rules | `(tactic| walk_at "exec For Name Name cons nil") => `(tactic| (k_here; (rename Fr _ _ _ _ => lF'); (rename News _ _ _ _ => lN'); with_unfolding_all ((refine' For_turns lF' ?_); k_whole; (refine ld lF' (by rfl) ?_); (refine iter_again (by rfl) lF' lN' (by (simp only [AllLt, and_true]; first | assumption | omega)) (by k_mem) (by rfl) (by rfl) ?_)); clear lF' lN'))
local macro_rules | `(tactic| size_fits) => `(tactic| (rw [sizeLine_eq]; omega))
local macro_rules | `(tactic| k_room) => `(tactic| ((try simp only [ktrTop, depth_mark, depth_under_make, depth_under_kw, depth_in1, depth_deeper, depth_caller]); omega))
section
variable {w : World} {p : Program} {loose : List Str} {mean : ExcName → Option Value} {mg mb : Str → Option Value} {dp un : Nat} {gd : Option (List Code)} {cn : Str} {nm : List (Str × NameKind)} {ig ic : Bool} {mo : List (Str × Const)} {a : Addr} {ccd : Value} {cl : List (Str × Addr)} {outer : List Env} {A₀ : Around} {base h₀ : Heap} {L : Addr} {m : Str → Option Value} {s : Shared} {Q E : Value → Shared → Prop} {news : List (Addr × Obj)}
theorem c_quoteG {x : Str} {t : Tok} (B : Below A₀ base outer h₀) (F : Fr h₀ L s.heap m) (X : (hd.heap_39 w.params).In h₀) (N : News h₀ L s.heap news) (T : Top p loose mean mg mb h₀)
    (hx : x.length ≤ 4000) (hd : dp + 3 < recursionLimit)
    (hret : ∀ (r : Str) (t' : Tok) (h' : Heap) (tk' : Nat), r = qa x → r.length ≤ 6 * x.length + 2 → Fr h₀ L h' m → News h₀ L h' news → Q (.str r t') { s with heap := h', toks := tk' }) :
    wpAny (model PySem.Challenge.rw_ij0075_01.row.prog w) (ktrTop dp un gd cn { kind := .function, names := nm, isGenerator := ig, isCoroutine := ic, more := mo } L a ccd cl outer) (call (.ref 48) [.str x t]) Q E s :=
  c_quote B F X N T hx hd fun t' h' tk' => hret _ t' h' tk' rfl (qa_len x)
end
local macro_rules | `(tactic| walk_at "call ref") => `(tactic| (k_here; (with_reducible show wpAny _ _ (call (Value.ref 48) [Value.str _ _]) _ _ _); k_dflt (refine' c_quoteG ?k1 ?k2 ?k3 ?k4 ?k5 ?hx ?hd ?_; (case k1 => k_asm); (case k2 => k_asm); (case k3 => k_asm); (case k4 => k_asm); (case k5 => k_asm); (case hx => first | assumption | omega); (case hd => first | ((try simp only [ktrTop, depth_mark, depth_under_make, depth_under_kw, depth_in1, depth_deeper, depth_caller]); first | omega | decide)); k_whole); intro r9 t9 h9 tk9 e9 l9 F9 N9; (try dsimp only); (try k_fold)))
section
variable {w : World} {p : Program} {loose : List Str} {mean : ExcName → Option Value} {mg mb : Str → Option Value} {dp un : Nat} {gd : Option (List Code)} {cn : Str} {nm : List (Str × NameKind)} {ig ic : Bool} {mo : List (Str × Const)} {a : Addr} {ccd : Value} {cl : List (Str × Addr)} {outer : List Env} {A₀ : Around} {base h₀ : Heap} {L : Addr} {m : Str → Option Value} {s : Shared} {Q E : Value → Shared → Prop} {news : List (Addr × Obj)}
set_option maxRecDepth 100000 in
set_option maxHeartbeats 8000000 in
theorem c_boxes1 {x : Str} {t : Tok} {nl : Addr} {n1 : Str} {t1 : Tok} (B : Below A₀ base outer h₀) (F : Fr h₀ L s.heap m) (X : (hd.heap_39 w.params).In h₀) (N : News h₀ L s.heap [(nl, W.listOf #[.str n1 t1] 0), (66, tabObj #[]), (59, tabObj #[])]) (T : Top p loose mean mg mb h₀)
    (CH : CodeHd base 63 59) (hnl : @LT.lt Nat _ 66 nl ∧ @LT.lt Nat _ 59 nl) (hx : x.length ≤ 600) (hn1 : n1.length ≤ 2)
    (hd : dp + 8 < recursionLimit) (ht : 0 < s.toks)
    (hret : ∀ (l : Addr) (u1 : Tok) (h' : Heap) (tk' : Nat) (ps : Array Value), 0 < tk' → @LT.lt Nat _ nl l → Fr h₀ L h' m → News h₀ L h' [(l, W.listOf #[.str x t, .str (bx n1 x) u1] 0), (nl, W.listOf #[.str n1 t1] 0), (66, tabObj #[]), (59, tabObj ps)] → Q (.ref l) { s with heap := h', toks := tk' }) :
    wpAny (model PySem.Challenge.rw_ij0075_01.row.prog w) (ktrTop dp un gd cn { kind := .function, names := nm, isGenerator := ig, isCoroutine := ic, more := mo } L a ccd cl outer) (call (.ref 64) [.ref nl, .str x t]) Q E s := by
  have q1 : (Str.ofString "<").length = 1 := by decide +kernel
  have q2 : (Str.ofString "=").length = 1 := by decide +kernel
  w_top off
  k_with_none
  revert X; k_fill; intro X
  refine wpAny_with_toks (n := 1) ht ?_
  k_steps
  subst_vars
  (rename News _ _ _ _ => NN)
  refine' hret _ _ _ _ _ (by assumption) ?ea ?eb (cb_drop NN ?ec)
  (case eb => assumption)
  (case ec => kcf_all)
  (case ea => omega)
set_option maxRecDepth 100000 in
set_option maxHeartbeats 8000000 in
theorem c_boxes2 {x : Str} {t : Tok} {nl : Addr} {n1 n2 : Str} {t1 t2 : Tok} (B : Below A₀ base outer h₀) (F : Fr h₀ L s.heap m) (X : (hd.heap_39 w.params).In h₀) (N : News h₀ L s.heap [(nl, W.listOf #[.str n1 t1, .str n2 t2] 0), (66, tabObj #[]), (59, tabObj #[])]) (T : Top p loose mean mg mb h₀)
    (CH : CodeHd base 63 59) (hnl : @LT.lt Nat _ 66 nl ∧ @LT.lt Nat _ 59 nl) (hx : x.length ≤ 60) (hn1 : n1.length ≤ 2) (hn2 : n2.length ≤ 2)
    (hd : dp + 8 < recursionLimit) (ht : 0 < s.toks)
    (hret : ∀ (l : Addr) (u1 u2 : Tok) (h' : Heap) (tk' : Nat) (ps : Array Value), 0 < tk' → @LT.lt Nat _ nl l → Fr h₀ L h' m → News h₀ L h' [(l, W.listOf #[.str x t, .str (bx n1 x) u1, .str (bx n2 (bx n1 x)) u2] 0), (nl, W.listOf #[.str n1 t1, .str n2 t2] 0), (66, tabObj #[]), (59, tabObj ps)] → Q (.ref l) { s with heap := h', toks := tk' }) :
    wpAny (model PySem.Challenge.rw_ij0075_01.row.prog w) (ktrTop dp un gd cn { kind := .function, names := nm, isGenerator := ig, isCoroutine := ic, more := mo } L a ccd cl outer) (call (.ref 64) [.ref nl, .str x t]) Q E s := by
  have q1 : (Str.ofString "<").length = 1 := by decide +kernel
  have q2 : (Str.ofString "=").length = 1 := by decide +kernel
  revert X; k_fill; intro X
  refine wpAny_with_toks (n := 1) ht ?_
  k_steps
  subst_vars
  (rename News _ _ _ _ => NN)
  refine' hret _ _ _ _ _ _ (by assumption) ?ea ?eb (cb_drop NN ?ec)
  (case eb => assumption)
  (case ec => kcf_all)
  (case ea => omega)
set_option maxRecDepth 100000 in
set_option maxHeartbeats 8000000 in
theorem c_boxes3 {x : Str} {t : Tok} {nl : Addr} {n1 n2 n3 : Str} {t1 t2 t3 : Tok} (B : Below A₀ base outer h₀) (F : Fr h₀ L s.heap m) (X : (hd.heap_39 w.params).In h₀) (N : News h₀ L s.heap [(nl, W.listOf #[.str n1 t1, .str n2 t2, .str n3 t3] 0), (66, tabObj #[]), (59, tabObj #[])]) (T : Top p loose mean mg mb h₀)
    (CH : CodeHd base 63 59) (hnl : @LT.lt Nat _ 66 nl ∧ @LT.lt Nat _ 59 nl) (hx : x.length ≤ 10) (hn1 : n1.length ≤ 2) (hn2 : n2.length ≤ 2) (hn3 : n3.length ≤ 2)
    (hd : dp + 8 < recursionLimit) (ht : 0 < s.toks)
    (hret : ∀ (l : Addr) (u1 u2 u3 : Tok) (h' : Heap) (tk' : Nat) (ps : Array Value), 0 < tk' → @LT.lt Nat _ nl l → Fr h₀ L h' m → News h₀ L h' [(l, W.listOf #[.str x t, .str (bx n1 x) u1, .str (bx n2 (bx n1 x)) u2, .str (bx n3 (bx n2 (bx n1 x))) u3] 0), (nl, W.listOf #[.str n1 t1, .str n2 t2, .str n3 t3] 0), (66, tabObj #[]), (59, tabObj ps)] → Q (.ref l) { s with heap := h', toks := tk' }) :
    wpAny (model PySem.Challenge.rw_ij0075_01.row.prog w) (ktrTop dp un gd cn { kind := .function, names := nm, isGenerator := ig, isCoroutine := ic, more := mo } L a ccd cl outer) (call (.ref 64) [.ref nl, .str x t]) Q E s := by
  have q1 : (Str.ofString "<").length = 1 := by decide +kernel
  have q2 : (Str.ofString "=").length = 1 := by decide +kernel
  revert X; k_fill; intro X
  refine wpAny_with_toks (n := 1) ht ?_
  k_steps
  subst_vars
  (rename News _ _ _ _ => NN)
  refine' hret _ _ _ _ _ _ _ (by assumption) ?ea ?eb (cb_drop NN ?ec)
  (case eb => assumption)
  (case ec => kcf_all)
  (case ea => omega)
end
end Mine
end
section
open PySem PySem.W PyProof.Rows PySem.Calls
namespace Mine
local macro_rules | `(tactic| walk_at "CompSrc") => `(tactic| (k_here; (try k_fmods); k_dflt (refine LCg.CompSrc.ledger (by rfl) (by k_asm) (by k_asm) (by k_mem) (by kcf_size) ?_; intro g'; (refine' kct_list _ (by first | assumption | l_ints) (fun k' t' I' oI' C' oC' D' m' ys' h' tk' E' hk' hC' hx' F' N' off' ne' => ?_) ?_); (all_goals (try (simp only [LCg.Off3, and_true] at off'))); (all_goals (try ((show KPfMark → _); intro hMark'))); kcf_last)))
local macro_rules | `(tactic| walk_at "execs cons") => `(tactic| (k_here; (with_reducible refine wpAny_execs_cons ?_); try dsimp only))
local macro_rules | `(tactic| walk_at "execs nil") => `(tactic| (k_here; refine wpAny_execs_nil ?_))
local macro_rules | `(tactic| walk_at "call ref") => `(tactic| (k_here; (with_reducible show wpAny _ _ (call (Value.ref 48) [Value.str _ _]) _ _ _); k_dflt (refine' c_quote ?k1 ?k2 ?k3 ?k4 ?k5 ?hx ?hd ?_; (case k1 => k_asm); (case k2 => k_asm); (case k3 => k_asm); (case k4 => k_asm); (case k5 => k_asm); (case hx => first | assumption | omega); (case hd => first | ((try simp only [ktrTop, depth_mark, depth_under_make, depth_under_kw, depth_in1, depth_deeper, depth_caller]); first | omega | decide)); k_whole); intro t9 h9 tk9 F9 N9; (try dsimp only); (try k_fold)))
local macro_rules | `(tactic| walk_at "call ref") => `(tactic| (k_here; (with_reducible show wpAny _ _ (call (Value.ref 39) [Value.str _ _, Value.ref _]) _ _ _); k_dflt (refine' c_une ?k1 ?k2 ?k3 ?k4 ?k5 ?hx ?hm ?hdm ?htk ?hd ?_; (case k1 => k_asm); (case k2 => k_asm); (case k3 => k_asm); (case k4 => k_asm); (case k5 => k_asm); (case hx => first | assumption | omega | exact Nat.le_trans (PySem.Txt.slice_le _ _ _) (by omega)); (case hm => k_mem); (case hdm => assumption); (case htk => assumption); (case hd => first | ((try simp only [ktrTop, depth_mark, depth_under_make, depth_under_kw, depth_in1, depth_deeper, depth_caller]); first | omega | decide)); k_whole); intro t9 h9 tk9 F9 N9; (try dsimp only); (try k_fold)))
local macro_rules | `(tactic| walk_at "call ref") => `(tactic| (k_here; (with_reducible show wpAny _ _ (call (Value.ref 76) [Value.str _ _]) _ _ _); k_dflt (refine' c_marks ?k1 ?k2 ?k3 ?k4 ?k5 ?hx ?hd ?hu ?_; (case k1 => k_asm); (case k2 => k_asm); (case k3 => k_asm); (case k4 => k_asm); (case k5 => k_asm); (case hx => first | assumption | omega); (case hd => first | ((try simp only [ktrTop, depth_mark, depth_under_make, depth_under_kw, depth_in1, depth_deeper, depth_caller]); first | omega | decide)); (case hu => first | decide | omega | ((simp only [cLine]); decide)); k_whole); intro t9 h9 tk9 F9 N9; (try dsimp only); (try k_fold)))
local macro_rules | `(tactic| walk_at "eval Dict") => `(tactic| (k_here; k_dflt (refine' disp2 ?F ?N ?b ?t ?_; (case F => k_asm); (case N => k_asm); (case b => exact Top.nolimit (by k_asm)); (case t => first | omega | with_unfolding_all exact Nat.succ_pos _); k_whole); intro d' h' tk1' tk2' ht1' ht2' F' N' l1 lo' hn'; (try k_lt l1)))
local macro_rules | `(tactic| walk_at "subscriptTail Name Slice ref ref") => `(tactic| (k_here; (with_reducible show wpAny _ _ (subscriptTail _ (PySem.Expr.Slice none (some (PySem.Expr.BinOp _ _ _ _)) none _) (Value.ref _) (Value.ref _)) _ _ _); (rename List Int => wz); (have e3 := three ((wz.length : Int) + 1)); (rcases e3 with e3 | e3 | e3) <;> (k_dflt (refine' kms_slice_lit ?F ?N ?l ?p ?q ?e ?_ ?s ?t ?z; (case F => k_asm); (case N => k_asm); (case l => kmk_list); (case p => kmk_part); (case q => kmk_part); (case e => first | exact pick1 _ _ _ e3 | exact pick2 _ _ _ e3 | exact pick3 _ _ _ e3); (case s => with_unfolding_all rfl); (case t => kmk_pure); (case z => kmk_size)); intro D' h' F' N' l1; (try k_lt l1); (try k_sweep))))
local macro_rules | `(tactic| walk_at "call builtin:iter") => `(tactic| (k_here; (with_reducible show wpAny _ _ (call (Value.builtin "iter") [Value.ref _]) _ _ _); k_dflt (refine' iter_list ?F ?N ?m ?c ?d ?_; (case F => k_asm); (case N => k_asm); (case m => k_mem); (case c => rfl); (case d => rfl); k_whole); intro I' h' F' N' l1; (try k_lt l1)))
local macro_rules | `(tactic| walk_at "exec For Name Name cons nil") => `(tactic| (k_here; (rename Fr _ _ _ _ => lF'); (rename News _ _ _ _ => lN'); with_unfolding_all ((refine' For_turns lF' ?_); k_whole; (refine ld lF' (by rfl) ?_); (refine iter_again (by rfl) lF' lN' (by (simp only [AllLt, and_true]; first | assumption | omega)) (by k_mem) (by rfl) (by rfl) ?_)); clear lF' lN'))
local macro_rules | `(tactic| size_fits) => `(tactic| (rw [sizeLine_eq]; omega))
local macro_rules | `(tactic| k_room) => `(tactic| ((try simp only [ktrTop, depth_mark, depth_under_make, depth_under_kw, depth_in1, depth_deeper, depth_caller]); omega))
local macro_rules | `(tactic| walk_at "call ref") => `(tactic| (k_here; (with_reducible show wpAny _ _ (call (Value.ref 71) [Value.ref _, Value.str _ _]) _ _ _); k_dflt (refine wpAny_call ?_; refine' enter_cells ?k1 ?k2 ?k3 ?k4 ?k5 ?kA ?kF ?kK ?k6 ?k7 ?k8 ?k9 ?kB ?kD ?kT ?_ ?c2 ?c3 ?c4; (case kA => exact rfl); (case kF => exact rfl); (case kK => exact rfl); (case k1 => k_asm); (case k2 => k_asm); (case k3 => k_asm); (case k4 => k_asm); (case k5 => k_asm); (case k6 => k_is); (case k7 => k_is); (case k8 => k_room); (case k9 => first | exact BindsTo.of_eq rfl | exact binds_K (by k_in) rfl (by k_is) rfl rfl rfl); (case kB => exact rfl); (case kD => decide +kernel); (case kT => assumption); (case c2 => exact rfl); (case c3 => exact rfl); (case c4 => exact rfl); k_whole; intro g' L' h' tk' cells' htk' FG' F' N' Y' B' X' T' l1; (try k_lt l1); k_cells Y'; (try simp only [List.cons_append, List.nil_append] at N'); (try dsimp only); (try k_lift B'); (try k_fold))))
section
variable {w : World} {p : Program} {loose : List Str} {mean : ExcName → Option Value} {mg mb : Str → Option Value} {dp un : Nat} {gd : Option (List Code)} {cn : Str} {nm : List (Str × NameKind)} {ig ic : Bool} {mo : List (Str × Const)} {a : Addr} {ccd : Value} {cl : List (Str × Addr)} {outer : List Env} {A₀ : Around} {base h₀ : Heap} {L : Addr} {m : Str → Option Value} {s : Shared} {Q E : Value → Shared → Prop} {news : List (Addr × Obj)}
theorem c_uneG {x : Str} {t : Tok} {d : Addr} {tk np : Nat} (B : Below A₀ base outer h₀) (F : Fr h₀ L s.heap m) (X : (hd.heap_39 w.params).In h₀) (N : News h₀ L s.heap news) (T : Top p loose mean mg mb h₀)
    (hx : x.length ≤ 4000) (hm : (d, dob ((ps2 tk).map (ent w)) np) ∈ news) (hdm : (d == sysModules) = false) (htk : 0 < tk) (hd : dp + 2 < recursionLimit)
    (hret : ∀ (r : Str) (t' : Tok) (h' : Heap) (tk' : Nat), r = u5 x → r.length ≤ 4000 → Fr h₀ L h' m → News h₀ L h' news → Q (.str r t') { s with heap := h', toks := tk' }) :
    wpAny (model PySem.Challenge.rw_ij0075_01.row.prog w) (ktrTop dp un gd cn { kind := .function, names := nm, isGenerator := ig, isCoroutine := ic, more := mo } L a ccd cl outer) (call (.ref 39) [.str x t, .ref d]) Q E s :=
  c_une B F X N T hx hm hdm htk hd fun t' h' tk' => hret _ t' h' tk' rfl (Nat.le_trans (u5_len x) hx)
end
local macro_rules | `(tactic| walk_at "call ref") => `(tactic| (k_here; (with_reducible show wpAny _ _ (call (Value.ref 39) [Value.str _ _, Value.ref _]) _ _ _); k_dflt (refine' c_uneG ?k1 ?k2 ?k3 ?k4 ?k5 ?hx ?hm ?hdm ?htk ?hd ?_; (case k1 => k_asm); (case k2 => k_asm); (case k3 => k_asm); (case k4 => k_asm); (case k5 => k_asm); (case hx => first | assumption | omega | exact Nat.le_trans (PySem.Txt.slice_le _ _ _) (by omega)); (case hm => k_mem); (case hdm => assumption); (case htk => assumption); (case hd => first | ((try simp only [ktrTop, depth_mark, depth_under_make, depth_under_kw, depth_in1, depth_deeper, depth_caller]); first | omega | decide)); k_whole); intro r9 t9 h9 tk9 e9 l9 F9 N9; (try dsimp only); (try k_fold)))
section
variable {w : World} {p : Program} {loose : List Str} {mean : ExcName → Option Value} {mg mb : Str → Option Value} {dp un : Nat} {gd : Option (List Code)} {cn : Str} {nm : List (Str × NameKind)} {ig ic : Bool} {mo : List (Str × Const)} {a : Addr} {ccd : Value} {cl : List (Str × Addr)} {outer : List Env} {A₀ : Around} {base h₀ : Heap} {L : Addr} {m : Str → Option Value} {s : Shared} {Q E : Value → Shared → Prop} {news : List (Addr × Obj)}
set_option maxRecDepth 100000 in
set_option maxHeartbeats 8000000 in
theorem c_opened1 {y : Str} {t : Tok} {bl nl : Addr} {n1 : Str} {t1 : Tok} {arr pz : Array Value} (B : Below A₀ base outer h₀) (F : Fr h₀ L s.heap m) (X : (hd.heap_39 w.params).In h₀) (N : News h₀ L s.heap [(bl, W.listOf arr 0), (nl, W.listOf #[.str n1 t1] 0), (66, tabObj #[]), (59, tabObj pz)]) (T : Top p loose mean mg mb h₀)
    (CH : CodeHd base 70 66) (hnl : @LT.lt Nat _ 66 nl ∧ @LT.lt Nat _ 59 nl) (hbl : @LT.lt Nat _ nl bl) (hy : y.length ≤ 4000) (hn1 : n1.length ≤ 2)
    (hd : dp + 8 < recursionLimit) (ht : 0 < s.toks)
    (hret : ∀ (l : Addr) (u1 : Tok) (h' : Heap) (tk' : Nat) (ps : Array Value), @LT.lt Nat _ bl l → Fr h₀ L h' m → News h₀ L h' [(l, W.listOf #[.str y t, .str (op n1 y) u1] 0), (bl, W.listOf arr 0), (nl, W.listOf #[.str n1 t1] 0), (66, tabObj ps), (59, tabObj pz)] → Q (.ref l) { s with heap := h', toks := tk' }) :
    wpAny (model PySem.Challenge.rw_ij0075_01.row.prog w) (ktrTop dp un gd cn { kind := .function, names := nm, isGenerator := ig, isCoroutine := ic, more := mo } L a ccd cl outer) (call (.ref 71) [.ref nl, .str y t]) Q E s := by
  w_top off
  k_with_none
  revert X; k_fill; intro X
  k_steps
  subst_vars
  (rename News _ _ _ _ => NN)
  refine' hret _ _ _ _ _ ?ea ?eb (cb_drop NN ?ec)
  (case eb => assumption)
  (case ec => kcf_all)
  (case ea => omega)
set_option maxRecDepth 100000 in
set_option maxHeartbeats 8000000 in
theorem c_opened2 {y : Str} {t : Tok} {bl nl : Addr} {n1 n2 : Str} {t1 t2 : Tok} {arr pz : Array Value} (B : Below A₀ base outer h₀) (F : Fr h₀ L s.heap m) (X : (hd.heap_39 w.params).In h₀) (N : News h₀ L s.heap [(bl, W.listOf arr 0), (nl, W.listOf #[.str n1 t1, .str n2 t2] 0), (66, tabObj #[]), (59, tabObj pz)]) (T : Top p loose mean mg mb h₀)
    (CH : CodeHd base 70 66) (hnl : @LT.lt Nat _ 66 nl ∧ @LT.lt Nat _ 59 nl) (hbl : @LT.lt Nat _ nl bl) (hy : y.length ≤ 4000) (hn1 : n1.length ≤ 2) (hn2 : n2.length ≤ 2)
    (hd : dp + 8 < recursionLimit) (ht : 0 < s.toks)
    (hret : ∀ (l : Addr) (u1 u2 : Tok) (h' : Heap) (tk' : Nat) (ps : Array Value), @LT.lt Nat _ bl l → Fr h₀ L h' m → News h₀ L h' [(l, W.listOf #[.str y t, .str (op n2 y) u1, .str (op n1 (op n2 y)) u2] 0), (bl, W.listOf arr 0), (nl, W.listOf #[.str n1 t1, .str n2 t2] 0), (66, tabObj ps), (59, tabObj pz)] → Q (.ref l) { s with heap := h', toks := tk' }) :
    wpAny (model PySem.Challenge.rw_ij0075_01.row.prog w) (ktrTop dp un gd cn { kind := .function, names := nm, isGenerator := ig, isCoroutine := ic, more := mo } L a ccd cl outer) (call (.ref 71) [.ref nl, .str y t]) Q E s := by
  revert X; k_fill; intro X
  k_steps
  subst_vars
  (rename News _ _ _ _ => NN)
  refine' hret _ _ _ _ _ _ ?ea ?eb (cb_drop NN ?ec)
  (case eb => assumption)
  (case ec => kcf_all)
  (case ea => omega)
set_option maxRecDepth 100000 in
set_option maxHeartbeats 8000000 in
theorem c_opened3 {y : Str} {t : Tok} {bl nl : Addr} {n1 n2 n3 : Str} {t1 t2 t3 : Tok} {arr pz : Array Value} (B : Below A₀ base outer h₀) (F : Fr h₀ L s.heap m) (X : (hd.heap_39 w.params).In h₀) (N : News h₀ L s.heap [(bl, W.listOf arr 0), (nl, W.listOf #[.str n1 t1, .str n2 t2, .str n3 t3] 0), (66, tabObj #[]), (59, tabObj pz)]) (T : Top p loose mean mg mb h₀)
    (CH : CodeHd base 70 66) (hnl : @LT.lt Nat _ 66 nl ∧ @LT.lt Nat _ 59 nl) (hbl : @LT.lt Nat _ nl bl) (hy : y.length ≤ 4000) (hn1 : n1.length ≤ 2) (hn2 : n2.length ≤ 2) (hn3 : n3.length ≤ 2)
    (hd : dp + 8 < recursionLimit) (ht : 0 < s.toks)
    (hret : ∀ (l : Addr) (u1 u2 u3 : Tok) (h' : Heap) (tk' : Nat) (ps : Array Value), @LT.lt Nat _ bl l → Fr h₀ L h' m → News h₀ L h' [(l, W.listOf #[.str y t, .str (op n3 y) u1, .str (op n2 (op n3 y)) u2, .str (op n1 (op n2 (op n3 y))) u3] 0), (bl, W.listOf arr 0), (nl, W.listOf #[.str n1 t1, .str n2 t2, .str n3 t3] 0), (66, tabObj ps), (59, tabObj pz)] → Q (.ref l) { s with heap := h', toks := tk' }) :
    wpAny (model PySem.Challenge.rw_ij0075_01.row.prog w) (ktrTop dp un gd cn { kind := .function, names := nm, isGenerator := ig, isCoroutine := ic, more := mo } L a ccd cl outer) (call (.ref 71) [.ref nl, .str y t]) Q E s := by
  revert X; k_fill; intro X
  k_steps
  subst_vars
  (rename News _ _ _ _ => NN)
  refine' hret _ _ _ _ _ _ _ ?ea ?eb (cb_drop NN ?ec)
  (case eb => assumption)
  (case ec => kcf_all)
  (case ea => omega)
end
end Mine
end
section
open PySem PySem.W PyProof.Rows PySem.Calls
namespace Mine
local macro_rules | `(tactic| walk_at "execs cons") => `(tactic| (k_here; (with_reducible refine wpAny_execs_cons ?_); try dsimp only))
local macro_rules | `(tactic| walk_at "execs nil") => `(tactic| (k_here; refine wpAny_execs_nil ?_))
local macro_rules | `(tactic| walk_at "call ref") => `(tactic| (k_here; (with_reducible show wpAny _ _ (call (Value.ref 76) [Value.str _ _]) _ _ _); k_dflt (refine' c_marks ?k1 ?k2 ?k3 ?k4 ?k5 ?hx ?hd ?hu ?_; (case k1 => k_asm); (case k2 => k_asm); (case k3 => k_asm); (case k4 => k_asm); (case k5 => k_asm); (case hx => first | assumption | omega); (case hd => first | ((try simp only [ktrTop, depth_mark, depth_under_make, depth_under_kw, depth_in1, depth_deeper, depth_caller]); first | omega | decide)); (case hu => first | decide | omega | ((simp only [cLine]); decide)); k_whole); intro t9 h9 tk9 F9 N9; (try dsimp only); (try k_fold)))
local macro_rules | `(tactic| walk_at "eval Dict") => `(tactic| (k_here; k_dflt (refine' disp2 ?F ?N ?b ?t ?_; (case F => k_asm); (case N => k_asm); (case b => exact Top.nolimit (by k_asm)); (case t => first | omega | with_unfolding_all exact Nat.succ_pos _); k_whole); intro d' h' tk1' tk2' ht1' ht2' F' N' l1 lo' hn'; (try k_lt l1)))
local macro_rules | `(tactic| walk_at "call builtin:iter") => `(tactic| (k_here; (with_reducible show wpAny _ _ (call (Value.builtin "iter") [Value.ref _]) _ _ _); k_dflt (refine' iter_list ?F ?N ?m ?c ?d ?_; (case F => k_asm); (case N => k_asm); (case m => k_mem); (case c => rfl); (case d => rfl); k_whole); intro I' h' F' N' l1; (try k_lt l1)))
local macro_rules | `(tactic| walk_at "exec For Name Name cons nil") => `(tactic| (k_here; (rename Fr _ _ _ _ => lF'); (rename News _ _ _ _ => lN'); with_unfolding_all ((refine' For_turns lF' ?_); k_whole; (refine ld lF' (by rfl) ?_); (refine iter_again (by rfl) lF' lN' (by (simp only [AllLt, and_true]; first | assumption | omega)) (by k_mem) (by rfl) (by rfl) ?_)); clear lF' lN'))
/-- the body of law's own loop, as the program has it -/
def lawBody : List Stmt := match PySem.Challenge.pw_ij0075_01.main.body.getLast? with
  | some (.FunctionDef _ _ body _ _ _ _ _ _ _) => body
  | _ => []
def lawScope : Scope := match PySem.Challenge.pw_ij0075_01.main.body.getLast? with
  | some (.FunctionDef _ _ _ _ _ _ sc _ _ _) => sc
  | _ => default
def turnBody : List Stmt := match lawBody.drop 4 with
  | .For _ _ body _ _ :: _ => body
  | _ => []
section
variable {w : World} {p : Program} {loose : List Str} {mean : ExcName → Option Value} {mg mb : Str → Option Value} {dp un : Nat} {gd : Option (List Code)} {cn : Str} {nm : List (Str × NameKind)} {ig ic : Bool} {mo : List (Str × Const)} {a : Addr} {ccd : Value} {cl : List (Str × Addr)} {outer : List Env} {A₀ : Around} {base h₀ : Heap} {L : Addr} {m : Str → Option Value} {s : Shared} {Q E : Value → Shared → Prop} {news : List (Addr × Obj)}
set_option maxRecDepth 100000 in
set_option maxHeartbeats 8000000 in
theorem c_turn {x n : Str} {t1 t2 t3 : Tok} {m0 : Str → Option Value} {Q : Flow → Shared → Prop} (B : Below A₀ base outer h₀) (F : Fr h₀ L s.heap (fun y => if y = Str.ofString "name" then some (.str n t3) else if y = Str.ofString "box" then some (.str (bx n x) t2) else if y = Str.ofString "inner" then some (.str x t1) else m0 y)) (X : (hd.heap_39 w.params).In h₀) (N : News h₀ L s.heap news) (T : Top p loose mean mg mb h₀)
    (hx : x.length ≤ 600) (hn1 : n.length ≤ 2) (hc : Clean x) (hd : dp + 8 < recursionLimit) (hu : un + 64 < cLine)
    (hret : ∀ (h' : Heap) (tk' : Nat) (t4 t5 : Tok), Fr h₀ L h' (fun y => if y = Str.ofString "held" then some (.str (hl n (bx n x)) t5) else if y = Str.ofString "mark" then some (.str (mkr x) t4) else if y = Str.ofString "name" then some (.str n t3) else if y = Str.ofString "box" then some (.str (bx n x) t2) else if y = Str.ofString "inner" then some (.str x t1) else m0 y) → News h₀ L h' news → Q .next { s with heap := h', toks := tk' }) :
    wpAny (model PySem.Challenge.rw_ij0075_01.row.prog w) (ktrTop dp un gd (Str.ofString "law") lawScope L a ccd [] outer) (execs turnBody (envOf (Str.ofString "law") lawScope L a ccd)) Q E s := by
  have lb := bx_len n x
  conv in turnBody => whnf
  conv in (occs := *) lawScope => all_goals whnf
  w_top off
  k_with_none
  revert X; k_fill; intro X
  unfold hl at hret
  k_steps
  all_goals first
    | exact (bad1 (n := n) (x := x) (by with_reducible assumption) (by with_reducible assumption)).elim
    | exact (bad2 (n := n) (x := x) (by with_reducible assumption) (by with_reducible assumption)).elim
    | exact (bad3 (n := n) (x := x) (by with_reducible assumption) (by with_reducible assumption) (by with_reducible assumption)).elim
    | exact (bad4 (n := n) (x := x) (by with_reducible assumption) (by with_reducible assumption) (by with_reducible assumption)).elim
    | exact (bad5 (n := n) (x := x) (by with_reducible assumption) (by with_reducible assumption) (by with_reducible assumption)).elim
    | exact (bad6 (n := n) (x := x) (by with_reducible assumption) (by with_reducible assumption) (by with_reducible assumption)).elim
    | exact (bad7 (n := n) (x := x) (by with_reducible assumption)).elim
    | exact (bad8 (n := n) (x := x) (by with_reducible assumption)).elim
    | exact (bad9 (n := n) (x := x) (by with_reducible assumption)).elim
    | exact (bad10 (n := n) (x := x) hc (by with_reducible assumption)).elim
    | ((rw [mkr_no (x := x) (by with_reducible assumption)] at hret); exact hret _ _ _ _ (by with_reducible assumption) (by with_reducible assumption))
    | ((rw [mkr_one (x := x) (by with_reducible assumption) (by with_reducible assumption)] at hret); exact hret _ _ _ _ (by with_reducible assumption) (by with_reducible assumption))
    | ((rw [mkr_two (x := x) (by with_reducible assumption)] at hret); exact hret _ _ _ _ (by with_reducible assumption) (by with_reducible assumption))
end
end Mine
end
section
open PySem PySem.W PyProof.Rows PySem.Calls
namespace Mine
local macro_rules | `(tactic| walk_at "execs cons") => `(tactic| (k_here; (with_reducible refine wpAny_execs_cons ?_); try dsimp only))
local macro_rules | `(tactic| walk_at "execs nil") => `(tactic| (k_here; refine wpAny_execs_nil ?_))
local macro_rules | `(tactic| size_fits) => `(tactic| (rw [sizeLine_eq]; omega))
local macro_rules | `(tactic| walk_at "call ref") => `(tactic| (k_here; (with_reducible show wpAny _ _ (call (Value.ref 64) [Value.ref _, Value.str _ _]) _ _ _); k_dflt (first | (refine' c_boxes1 ?k1 ?k2 ?k3 ?k4 ?k5 ?ch ?nl ?hx ?hn1 ?hd ?ht ?_; (case k1 => k_asm); (case k2 => k_asm); (case k3 => k_asm); (case k4 => k_asm); (case k5 => k_asm); (case ch => assumption); (case nl => omega); (case hx => omega); (case hn1 => decide +kernel); (case hd => first | ((try simp only [ktrTop, depth_mark, depth_under_make, depth_under_kw, depth_in1, depth_deeper, depth_caller]); first | omega | decide)); (case ht => first | assumption | omega | (dsimp only; omega)); k_whole; intro bl' u1' h9 tk9 ps9 ht9 l9 F9 N9) | (refine' c_boxes2 ?k1 ?k2 ?k3 ?k4 ?k5 ?ch ?nl ?hx ?hn1 ?hn2 ?hd ?ht ?_; (case k1 => k_asm); (case k2 => k_asm); (case k3 => k_asm); (case k4 => k_asm); (case k5 => k_asm); (case ch => assumption); (case nl => omega); (case hx => omega); (case hn1 => decide +kernel); (case hn2 => decide +kernel); (case hd => first | ((try simp only [ktrTop, depth_mark, depth_under_make, depth_under_kw, depth_in1, depth_deeper, depth_caller]); first | omega | decide)); (case ht => first | assumption | omega | (dsimp only; omega)); k_whole; intro bl' u1' u2' h9 tk9 ps9 ht9 l9 F9 N9) | (refine' c_boxes3 ?k1 ?k2 ?k3 ?k4 ?k5 ?ch ?nl ?hx ?hn1 ?hn2 ?hn3 ?hd ?ht ?_; (case k1 => k_asm); (case k2 => k_asm); (case k3 => k_asm); (case k4 => k_asm); (case k5 => k_asm); (case ch => assumption); (case nl => omega); (case hx => omega); (case hn1 => decide +kernel); (case hn2 => decide +kernel); (case hn3 => decide +kernel); (case hd => first | ((try simp only [ktrTop, depth_mark, depth_under_make, depth_under_kw, depth_in1, depth_deeper, depth_caller]); first | omega | decide)); (case ht => first | assumption | omega | (dsimp only; omega)); k_whole; intro bl' u1' u2' u3' h9 tk9 ps9 ht9 l9 F9 N9)); (try dsimp only); (try k_fold)))
local macro_rules | `(tactic| walk_at "call ref") => `(tactic| (k_here; (with_reducible show wpAny _ _ (call (Value.ref 71) [Value.ref _, Value.str _ _]) _ _ _); k_dflt (first | (refine' c_opened1 ?k1 ?k2 ?k3 ?k4 ?k5 ?ch ?nl ?bl ?hy ?hn1 ?hd ?ht ?_; (case k1 => k_asm); (case k2 => k_asm); (case k3 => k_asm); (case k4 => k_asm); (case k5 => k_asm); (case ch => assumption); (case nl => omega); (case bl => omega); (case hy => omega); (case hn1 => decide +kernel); (case hd => first | ((try simp only [ktrTop, depth_mark, depth_under_make, depth_under_kw, depth_in1, depth_deeper, depth_caller]); first | omega | decide)); (case ht => first | assumption | omega | (dsimp only; omega)); k_whole; intro ol' u1' h9 tk9 ps9 l9 F9 N9) | (refine' c_opened2 ?k1 ?k2 ?k3 ?k4 ?k5 ?ch ?nl ?bl ?hy ?hn1 ?hn2 ?hd ?ht ?_; (case k1 => k_asm); (case k2 => k_asm); (case k3 => k_asm); (case k4 => k_asm); (case k5 => k_asm); (case ch => assumption); (case nl => omega); (case bl => omega); (case hy => omega); (case hn1 => decide +kernel); (case hn2 => decide +kernel); (case hd => first | ((try simp only [ktrTop, depth_mark, depth_under_make, depth_under_kw, depth_in1, depth_deeper, depth_caller]); first | omega | decide)); (case ht => first | assumption | omega | (dsimp only; omega)); k_whole; intro ol' u1' u2' h9 tk9 ps9 l9 F9 N9) | (refine' c_opened3 ?k1 ?k2 ?k3 ?k4 ?k5 ?ch ?nl ?bl ?hy ?hn1 ?hn2 ?hn3 ?hd ?ht ?_; (case k1 => k_asm); (case k2 => k_asm); (case k3 => k_asm); (case k4 => k_asm); (case k5 => k_asm); (case ch => assumption); (case nl => omega); (case bl => omega); (case hy => omega); (case hn1 => decide +kernel); (case hn2 => decide +kernel); (case hn3 => decide +kernel); (case hd => first | ((try simp only [ktrTop, depth_mark, depth_under_make, depth_under_kw, depth_in1, depth_deeper, depth_caller]); first | omega | decide)); (case ht => first | assumption | omega | (dsimp only; omega)); k_whole; intro ol' u1' u2' u3' h9 tk9 ps9 l9 F9 N9)); (try dsimp only); (try k_fold)))
local macro_rules | `(tactic| walk_at "exec For Tuple Call cons nil") => `(tactic| (k_here; (rename Fr _ _ _ _ => lF'); (refine toksQ (n := 1) (by first | assumption | omega | (dsimp only; omega)) ?_); (with_unfolding_all refine' For_turns lF' ?_; k_whole)))
local macro_rules | `(tactic| walk_at "call type:zip") => `(tactic| (k_here; (with_reducible show wpAny _ _ (call (Value.type _) [Value.ref _, Value.ref _, Value.ref _]) _ _ _); (rename Fr _ _ _ _ => lF'); (rename News _ _ _ _ => lN'); k_dflt (first | (refine zip3_loop1 (by rfl) lF' lN' (by k_mem) (by rfl) (by rfl) (by k_mem) (by rfl) (by rfl) (by k_mem) (by rfl) (by rfl) ?_) | (refine zip3_loop2 (by rfl) lF' lN' (by k_mem) (by rfl) (by rfl) (by k_mem) (by rfl) (by rfl) (by k_mem) (by rfl) (by rfl) ?_) | (refine zip3_loop3 (by rfl) lF' lN' (by k_mem) (by rfl) (by rfl) (by k_mem) (by rfl) (by rfl) (by k_mem) (by rfl) (by rfl) ?_)); clear lF' lN'))
local macro_rules | `(tactic| walk_at "TripRest") => `(tactic| first
  | ((refine TripRest.cons ?_); intro T' h' tk' own' hT' F' N'; (try dsimp only at hT'))
  | ((refine TripRest.nil ?_); intro h' tk' F' N'; (replace N' := kti_tail N')))
local macro_rules | `(tactic| walk_at "TripEnd") => `(tactic| (k_dflt (refine TripEnd.intro (by assumption) (by assumption) ?_); (try dsimp only)))
local macro_rules | `(tactic| walk_at "execs cons") => `(tactic| (k_here; (with_reducible show wpAny _ _ (execs (PySem.Stmt.Assign [PySem.Expr.Name (Str.ofString "mark") _] _ _ :: _) _) _ _ _); k_dflt (refine' c_turn ?k1 ?k2 ?k3 ?k4 ?k5 ?hx ?hn ?hc ?hd ?hu ?_; (case k1 => k_asm); (case k2 => k_asm); (case k3 => k_asm); (case k4 => k_asm); (case k5 => k_asm); (case hx => omega); (case hn => decide +kernel); (case hc => with_reducible assumption); (case hd => first | ((try simp only [ktrTop, depth_mark, depth_under_make, depth_under_kw, depth_in1, depth_deeper, depth_caller]); first | omega | decide)); (case hu => first | omega | decide); k_whole; intro h9 tk9 t4' t5' F9 N9); (try dsimp only)))
local macro_rules | `(tactic| walk_at "eval Name") => `(tactic| (k_here; (with_reducible show wpAny _ _ (eval (PySem.Expr.Name (Str.ofString "zip") _) _) _ _ _); (with_reducible rename Fr _ _ _ _ => kF); with_unfolding_all refine guard_global (by rfl) ?_; k_dflt (refine' name_B kF ?k1 ?k2 ?k3 ?k4 ?k5 ?_; (case k1 => k_asm); (case k2 => k_asm); (case k3 => k_is); (case k4 => exact boot_zip); (case k5 => decide); k_whole)))
section
variable {w : World} {p : Program} {loose : List Str} {mean : ExcName → Option Value} {mg mb : Str → Option Value} {dp un : Nat} {gd : Option (List Code)} {cn : Str} {nm : List (Str × NameKind)} {ig ic : Bool} {mo : List (Str × Const)} {a : Addr} {ccd : Value} {cl : List (Str × Addr)} {outer : List Env} {A₀ : Around} {base h₀ : Heap} {L : Addr} {m : Str → Option Value} {s : Shared} {Q E : Value → Shared → Prop} {news : List (Addr × Obj)}
set_option maxRecDepth 100000 in
set_option maxHeartbeats 8000000 in
theorem c_tail1 {x : Str} {t v1 : Tok} {nl : Addr} {m0 : Str → Option Value} {Q : Flow → Shared → Prop} (B : Below A₀ base outer h₀) (F : Fr h₀ L s.heap (fun y => if y = Str.ofString "names" then some (.ref nl) else if y = Str.ofString "text" then some (.str x t) else m0 y)) (X : (hd.heap_39 w.params).In h₀) (N : News h₀ L s.heap [(nl, W.listOf #[.str (Str.ofString "a") v1] 0), (66, tabObj #[]), (59, tabObj #[])]) (T : Top p loose mean mg mb h₀)
    (CH : CodeHd base 63 59) (CG : CodeHd base 70 66) (hnl : @LT.lt Nat _ 66 nl ∧ @LT.lt Nat _ 59 nl)
    (hx : x.length ≤ 10) (hc : Clean x) (hd : dp + 12 < recursionLimit) (hu : un + 80 < cLine) (ht : 0 < s.toks)
    (hE : PassesOwn (model PySem.Challenge.rw_ij0075_01.row.prog w) (ktrTop dp un gd (Str.ofString "law") lawScope L a ccd [] outer) (envOf (Str.ofString "law") lawScope L a ccd) E)
    (hret : ∀ (h' : Heap) (tk' : Nat) (m' : Str → Option Value) (p1 p2 : Array Value), Fr h₀ L h' m' → News h₀ L h' [(66, tabObj p1), (59, tabObj p2)] → Q (.ret (.bool true)) { s with heap := h', toks := tk' }) :
    wpAny (model PySem.Challenge.rw_ij0075_01.row.prog w) (ktrTop dp un gd (Str.ofString "law") lawScope L a ccd [] outer) (execs (lawBody.drop 2) (envOf (Str.ofString "law") lawScope L a ccd)) Q E s := by
  have lb0 := bx_len (Str.ofString "a") x
  have la0 : (Str.ofString "a").length = 1 := by decide +kernel
  have cn0 : Clean (Str.ofString "a") := by unfold Clean; decide +kernel
  have hc1 := clean_bx cn0 hc
  conv in lawBody.drop 2 => whnf
  conv in (occs := *) lawScope => all_goals whnf
  w_top off
  k_with_none
  revert X; k_fill; intro X
  repeat' (first | (k_unfold; (try dsimp only)) | (k_end; wrow_close) | walk1 | (dsimp only; walk1) | (leave1; walk_say "STEP leave1"; try dsimp only) | (dsimp (config := { zetaDelta := true }) only) | fail "no step")
  · exact absurd (by with_reducible assumption : (x != x) = true) (by simp)
  · (rename News _ _ _ _ => NN)
    refine eq_texts NN (by k_mem) (by k_mem) strs2 strs2 (by simp only [op_bx hc]) ?_ ?_ ?_
    · intro q hq
      simp only [op_bx hc, List.mem_cons, List.not_mem_nil, or_false] at hq
      rcases hq with rfl | rfl
      · exact hc1.2.2
      · exact hc.2.2
    · show un + 64 < cLine
      omega
    repeat' (first | (k_unfold; (try dsimp only)) | (k_end; wrow_close) | walk1 | (dsimp only; walk1) | (leave1; walk_say "STEP leave1"; try dsimp only) | (dsimp (config := { zetaDelta := true }) only) | fail "no step")
    (rename News _ _ _ _ => NM)
    refine' hret _ _ _ _ _ ?ea (cb_drop NM ?ec)
    (case ea => assumption)
    (case ec => kcf_all)
set_option maxRecDepth 100000 in
set_option maxHeartbeats 8000000 in
theorem c_tail2 {x : Str} {t v1 v2 : Tok} {nl : Addr} {m0 : Str → Option Value} {Q : Flow → Shared → Prop} (B : Below A₀ base outer h₀) (F : Fr h₀ L s.heap (fun y => if y = Str.ofString "names" then some (.ref nl) else if y = Str.ofString "text" then some (.str x t) else m0 y)) (X : (hd.heap_39 w.params).In h₀) (N : News h₀ L s.heap [(nl, W.listOf #[.str (Str.ofString "a") v1, .str (Str.ofString "bc") v2] 0), (66, tabObj #[]), (59, tabObj #[])]) (T : Top p loose mean mg mb h₀)
    (CH : CodeHd base 63 59) (CG : CodeHd base 70 66) (hnl : @LT.lt Nat _ 66 nl ∧ @LT.lt Nat _ 59 nl)
    (hx : x.length ≤ 10) (hc : Clean x) (hd : dp + 12 < recursionLimit) (hu : un + 80 < cLine) (ht : 0 < s.toks)
    (hE : PassesOwn (model PySem.Challenge.rw_ij0075_01.row.prog w) (ktrTop dp un gd (Str.ofString "law") lawScope L a ccd [] outer) (envOf (Str.ofString "law") lawScope L a ccd) E)
    (hret : ∀ (h' : Heap) (tk' : Nat) (m' : Str → Option Value) (p1 p2 : Array Value), Fr h₀ L h' m' → News h₀ L h' [(66, tabObj p1), (59, tabObj p2)] → Q (.ret (.bool true)) { s with heap := h', toks := tk' }) :
    wpAny (model PySem.Challenge.rw_ij0075_01.row.prog w) (ktrTop dp un gd (Str.ofString "law") lawScope L a ccd [] outer) (execs (lawBody.drop 2) (envOf (Str.ofString "law") lawScope L a ccd)) Q E s := by
  have lb0 := bx_len (Str.ofString "a") x
  have la0 : (Str.ofString "a").length = 1 := by decide +kernel
  have lb1 := bx_len (Str.ofString "bc") (bx (Str.ofString "a") x)
  have la1 : (Str.ofString "bc").length = 2 := by decide +kernel
  have cn0 : Clean (Str.ofString "a") := by unfold Clean; decide +kernel
  have cn1 : Clean (Str.ofString "bc") := by unfold Clean; decide +kernel
  have hc1 := clean_bx cn0 hc
  have hc2 := clean_bx cn1 hc1
  conv in lawBody.drop 2 => whnf
  conv in (occs := *) lawScope => all_goals whnf
  revert X; k_fill; intro X
  repeat' (first | (k_unfold; (try dsimp only)) | (k_end; wrow_close) | walk1 | (dsimp only; walk1) | (leave1; walk_say "STEP leave1"; try dsimp only) | (dsimp (config := { zetaDelta := true }) only) | fail "no step")
  · exact absurd (by with_reducible assumption : (x != x) = true) (by simp)
  · (rename News _ _ _ _ => NN)
    refine eq_texts NN (by k_mem) (by k_mem) strs3 strs3 (by simp only [op_bx hc, op_bx hc1]) ?_ ?_ ?_
    · intro q hq
      simp only [op_bx hc, op_bx hc1, List.mem_cons, List.not_mem_nil, or_false] at hq
      rcases hq with rfl | rfl | rfl
      · exact hc2.2.2
      · exact hc1.2.2
      · exact hc.2.2
    · show un + 64 < cLine
      omega
    repeat' (first | (k_unfold; (try dsimp only)) | (k_end; wrow_close) | walk1 | (dsimp only; walk1) | (leave1; walk_say "STEP leave1"; try dsimp only) | (dsimp (config := { zetaDelta := true }) only) | fail "no step")
    (rename News _ _ _ _ => NM)
    refine' hret _ _ _ _ _ ?ea (cb_drop NM ?ec)
    (case ea => assumption)
    (case ec => kcf_all)
set_option maxRecDepth 100000 in
set_option maxHeartbeats 8000000 in
theorem c_tail3 {x : Str} {t v1 v2 v3 : Tok} {nl : Addr} {m0 : Str → Option Value} {Q : Flow → Shared → Prop} (B : Below A₀ base outer h₀) (F : Fr h₀ L s.heap (fun y => if y = Str.ofString "names" then some (.ref nl) else if y = Str.ofString "text" then some (.str x t) else m0 y)) (X : (hd.heap_39 w.params).In h₀) (N : News h₀ L s.heap [(nl, W.listOf #[.str (Str.ofString "a") v1, .str (Str.ofString "bc") v2, .str (Str.ofString "d") v3] 0), (66, tabObj #[]), (59, tabObj #[])]) (T : Top p loose mean mg mb h₀)
    (CH : CodeHd base 63 59) (CG : CodeHd base 70 66) (hnl : @LT.lt Nat _ 66 nl ∧ @LT.lt Nat _ 59 nl)
    (hx : x.length ≤ 10) (hc : Clean x) (hd : dp + 12 < recursionLimit) (hu : un + 80 < cLine) (ht : 0 < s.toks)
    (hE : PassesOwn (model PySem.Challenge.rw_ij0075_01.row.prog w) (ktrTop dp un gd (Str.ofString "law") lawScope L a ccd [] outer) (envOf (Str.ofString "law") lawScope L a ccd) E)
    (hret : ∀ (h' : Heap) (tk' : Nat) (m' : Str → Option Value) (p1 p2 : Array Value), Fr h₀ L h' m' → News h₀ L h' [(66, tabObj p1), (59, tabObj p2)] → Q (.ret (.bool true)) { s with heap := h', toks := tk' }) :
    wpAny (model PySem.Challenge.rw_ij0075_01.row.prog w) (ktrTop dp un gd (Str.ofString "law") lawScope L a ccd [] outer) (execs (lawBody.drop 2) (envOf (Str.ofString "law") lawScope L a ccd)) Q E s := by
  have lb0 := bx_len (Str.ofString "a") x
  have la0 : (Str.ofString "a").length = 1 := by decide +kernel
  have lb1 := bx_len (Str.ofString "bc") (bx (Str.ofString "a") x)
  have la1 : (Str.ofString "bc").length = 2 := by decide +kernel
  have lb2 := bx_len (Str.ofString "d") (bx (Str.ofString "bc") (bx (Str.ofString "a") x))
  have la2 : (Str.ofString "d").length = 1 := by decide +kernel
  have cn0 : Clean (Str.ofString "a") := by unfold Clean; decide +kernel
  have cn1 : Clean (Str.ofString "bc") := by unfold Clean; decide +kernel
  have cn2 : Clean (Str.ofString "d") := by unfold Clean; decide +kernel
  have hc1 := clean_bx cn0 hc
  have hc2 := clean_bx cn1 hc1
  have hc3 := clean_bx cn2 hc2
  conv in lawBody.drop 2 => whnf
  conv in (occs := *) lawScope => all_goals whnf
  revert X; k_fill; intro X
  repeat' (first | (k_unfold; (try dsimp only)) | (k_end; wrow_close) | walk1 | (dsimp only; walk1) | (leave1; walk_say "STEP leave1"; try dsimp only) | (dsimp (config := { zetaDelta := true }) only) | fail "no step")
  · exact absurd (by with_reducible assumption : (x != x) = true) (by simp)
  · (rename News _ _ _ _ => NN)
    refine eq_texts NN (by k_mem) (by k_mem) strs4 strs4 (by simp only [op_bx hc, op_bx hc1, op_bx hc2]) ?_ ?_ ?_
    · intro q hq
      simp only [op_bx hc, op_bx hc1, op_bx hc2, List.mem_cons, List.not_mem_nil, or_false] at hq
      rcases hq with rfl | rfl | rfl | rfl
      · exact hc3.2.2
      · exact hc2.2.2
      · exact hc1.2.2
      · exact hc.2.2
    · show un + 64 < cLine
      omega
    repeat' (first | (k_unfold; (try dsimp only)) | (k_end; wrow_close) | walk1 | (dsimp only; walk1) | (leave1; walk_say "STEP leave1"; try dsimp only) | (dsimp (config := { zetaDelta := true }) only) | fail "no step")
    (rename News _ _ _ _ => NM)
    refine' hret _ _ _ _ _ ?ea (cb_drop NM ?ec)
    (case ea => assumption)
    (case ec => kcf_all)
end
end Mine
end
section
open PySem PySem.W PyProof.Rows PySem.Calls
namespace Mine
local macro_rules | `(tactic| walk_at "CompSrc") => `(tactic| (k_here; (try k_fmods); k_dflt (refine LCg.CompSrc.ledger (by rfl) (by k_asm) (by k_asm) (by k_mem) (by kcf_size) ?_; intro g'; (refine' kct_list _ (by first | assumption | l_ints) (fun k' t' I' oI' C' oC' D' m' ys' h' tk' E' hk' hC' hx' F' N' off' ne' => ?_) ?_); (all_goals (try (simp only [LCg.Off3, and_true] at off'))); (all_goals (try ((show KPfMark → _); intro hMark'))); kcf_last)))
local macro_rules | `(tactic| walk_at "execs cons") => `(tactic| (k_here; (with_reducible refine wpAny_execs_cons ?_); try dsimp only))
local macro_rules | `(tactic| walk_at "execs nil") => `(tactic| (k_here; refine wpAny_execs_nil ?_))
local macro_rules | `(tactic| walk_at "eval Dict") => `(tactic| (k_here; k_dflt (refine' disp2 ?F ?N ?b ?t ?_; (case F => k_asm); (case N => k_asm); (case b => exact Top.nolimit (by k_asm)); (case t => first | omega | with_unfolding_all exact Nat.succ_pos _); k_whole); intro d' h' tk1' tk2' ht1' ht2' F' N' l1 lo' hn'; (try k_lt l1)))
local macro_rules | `(tactic| walk_at "subscriptTail Name Slice ref ref") => `(tactic| (k_here; (with_reducible show wpAny _ _ (subscriptTail _ (PySem.Expr.Slice none (some (PySem.Expr.BinOp _ _ _ _)) none _) (Value.ref _) (Value.ref _)) _ _ _); (rename List Int => wz); (have e3 := three ((wz.length : Int) + 1)); (rcases e3 with e3 | e3 | e3) <;> (k_dflt (refine' kms_slice_lit ?F ?N ?l ?p ?q ?e ?_ ?s ?t ?z; (case F => k_asm); (case N => k_asm); (case l => kmk_list); (case p => kmk_part); (case q => kmk_part); (case e => first | exact pick1 _ _ _ e3 | exact pick2 _ _ _ e3 | exact pick3 _ _ _ e3); (case s => with_unfolding_all rfl); (case t => kmk_pure); (case z => kmk_size)); intro D' h' F' N' l1; (try k_lt l1); (try k_sweep))))
local macro_rules | `(tactic| walk_at "call builtin:iter") => `(tactic| (k_here; (with_reducible show wpAny _ _ (call (Value.builtin "iter") [Value.ref _]) _ _ _); k_dflt (refine' iter_list ?F ?N ?m ?c ?d ?_; (case F => k_asm); (case N => k_asm); (case m => k_mem); (case c => rfl); (case d => rfl); k_whole); intro I' h' F' N' l1; (try k_lt l1)))
local macro_rules | `(tactic| walk_at "exec For Name Name cons nil") => `(tactic| (k_here; (rename Fr _ _ _ _ => lF'); (rename News _ _ _ _ => lN'); with_unfolding_all ((refine' For_turns lF' ?_); k_whole; (refine ld lF' (by rfl) ?_); (refine iter_again (by rfl) lF' lN' (by (simp only [AllLt, and_true]; first | assumption | omega)) (by k_mem) (by rfl) (by rfl) ?_)); clear lF' lN'))
local macro_rules | `(tactic| size_fits) => `(tactic| (rw [sizeLine_eq]; omega))
local macro_rules | `(tactic| walk_at "execs cons") => `(tactic| (k_here; (with_reducible show wpAny _ _ (execs (PySem.Stmt.Assign [PySem.Expr.Name (Str.ofString "boxes") _] _ _ :: _) _) _ _ _); (rename Fr _ _ _ _ => FF); (rename News _ _ _ _ => NN); (rename Below _ _ _ _ => BB); (rename List Int => wz); (have lt6 := List.length_take_le 6 wz); k_dflt (first | (refine' c_tail1 BB FF ?X (cb_drop NN ?nd) ?T ?CH ?CG ?nl ?hx ?hc ?hd ?hu ?ht ?hE ?_; (case nd => kcf_all); (case X => k_asm); (case T => k_asm); (case CH => assumption); (case CG => assumption); (case nl => omega); (case hx => exact text_len (by assumption) (by omega)); (case hc => exact text_clean _ _); (case hd => decide); (case hu => decide); (case ht => exact Nat.succ_pos _); (case hE => passes_own)) | (refine' c_tail2 BB FF ?X (cb_drop NN ?nd) ?T ?CH ?CG ?nl ?hx ?hc ?hd ?hu ?ht ?hE ?_; (case nd => kcf_all); (case X => k_asm); (case T => k_asm); (case CH => assumption); (case CG => assumption); (case nl => omega); (case hx => exact text_len (by assumption) (by omega)); (case hc => exact text_clean _ _); (case hd => decide); (case hu => decide); (case ht => exact Nat.succ_pos _); (case hE => passes_own)) | (refine' c_tail3 BB FF ?X (cb_drop NN ?nd) ?T ?CH ?CG ?nl ?hx ?hc ?hd ?hu ?ht ?hE ?_; (case nd => kcf_all); (case X => k_asm); (case T => k_asm); (case CH => assumption); (case CG => assumption); (case nl => omega); (case hx => exact text_len (by assumption) (by omega)); (case hc => exact text_clean _ _); (case hd => decide); (case hu => decide); (case ht => exact Nat.succ_pos _); (case hE => passes_own))); intro h9 tk9 m9 p91 p92 F9 N9; (try dsimp only)))
set_option maxRecDepth 100000 in
set_option maxHeartbeats 8000000 in
theorem w : PySem.Challenge.rw_ij0075_01.Holds := hd (by
  w_top off
  k_with_none
  k_with "table" => skip
  k_go0
  (all_goals try k_fold)
  k_steps)
end Mine
end
theorem PySem.Challenge.cw_ij0075_01_holds : PySem.Challenge.rw_ij0075_01.Holds :=
  Mine.w
