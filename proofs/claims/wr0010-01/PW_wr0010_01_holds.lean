import PyProof.Rows.All
import Wide.All
import OpenK.AllK
import Wide.FinOn
import PySem.Challenge.RW_wr0010_01
open PySem PySem.W PySem.Calls PyProof.Rows
set_option Elab.async false
set_option maxRecDepth 100000
set_option linter.unusedVariables false
set_option rowWalk.seconds 0
namespace Mine

/-! the open-addressed table: a clean laying always finds its slots -/
noncomputable def lcg (m i : Nat) : Nat := (i * 5 + 1) % m
noncomputable def lcgN (m : Nat) : Nat → Nat → Nat
  | 0, i => i
  | t + 1, i => lcgN m t (lcg m i)
noncomputable def GoodMask (mask : Nat) : Prop := mask = 7 ∨ mask = 15 ∨ mask = 31 ∨ mask = 63 ∨ mask = 127 ∨ mask = 255

theorem lcgN_add (m : Nat) : ∀ a b i, lcgN m (a + b) i = lcgN m b (lcgN m a i)
  | 0, b, i => by rw [Nat.zero_add]; rfl
  | a + 1, b, i => by rw [Nat.add_right_comm]; exact lcgN_add m a b (lcg m i)

noncomputable def orbit (m : Nat) : Nat → Nat → List Nat
  | 0, _ => []
  | n + 1, i => i :: orbit m n (lcg m i)
theorem orbit_mem (m : Nat) : ∀ n i j, j ∈ orbit m n i → ∃ t, t < n ∧ lcgN m t i = j
  | 0, _, _, h => nomatch h
  | n + 1, i, j, h => by
    rcases List.mem_cons.mp h with rfl | h
    · exact ⟨0, Nat.succ_pos _, rfl⟩
    · obtain ⟨t, ht, e⟩ := orbit_mem m n _ _ h
      exact ⟨t + 1, by omega, e⟩
noncomputable def fullCycle (m : Nat) : Bool := (List.range m).all (fun j => (orbit m m 0).contains j) && lcgN m m 0 == 0
theorem full_of_good {mask : Nat} (h : GoodMask mask) : fullCycle (mask + 1) = true := by
  rcases h with rfl | rfl | rfl | rfl | rfl | rfl <;> decide +kernel

theorem reach {mask i j : Nat} (h : GoodMask mask) (hi : i ≤ mask) (hj : j ≤ mask) : ∃ t, t ≤ mask ∧ lcgN (mask + 1) t i = j := by
  have f := full_of_good h
  unfold fullCycle at f
  rw [Bool.and_eq_true, List.all_eq_true, beq_iff_eq] at f
  obtain ⟨f1, f2⟩ := f
  obtain ⟨a, ha, ea⟩ := orbit_mem _ _ _ _ (List.contains_iff_mem.mp (f1 i (List.mem_range.mpr (by omega))))
  obtain ⟨b, hb, eb⟩ := orbit_mem _ _ _ _ (List.contains_iff_mem.mp (f1 j (List.mem_range.mpr (by omega))))
  by_cases hab : a ≤ b
  · refine ⟨b - a, by omega, ?_⟩
    rw [← ea, ← lcgN_add, show a + (b - a) = b by omega, eb]
  · refine ⟨mask + 1 - a + b, by omega, ?_⟩
    rw [← ea, ← lcgN_add, show a + (mask + 1 - a + b) = (mask + 1) + b by omega, lcgN_add, f2, eb]

noncomputable def leapN (mask : Nat) : Nat → Nat × Nat → Nat × Nat
  | 0, x => x
  | t + 1, x => leapN mask t (SetTable.leap mask x.1 x.2)
theorem leapN_add (mask : Nat) : ∀ a b x, leapN mask (a + b) x = leapN mask b (leapN mask a x)
  | 0, b, x => by rw [Nat.zero_add]; rfl
  | a + 1, b, x => by rw [Nat.add_right_comm]; exact leapN_add mask a b _
theorem leapN_zero (mask : Nat) : ∀ t i, leapN mask t (i, 0) = (lcgN (mask + 1) t i, 0)
  | 0, _ => rfl
  | t + 1, i => by
    show leapN mask t (SetTable.leap mask i 0) = _
    rw [show SetTable.leap mask i 0 = (lcg (mask + 1) i, 0) by simp [SetTable.leap, lcg]]
    exact leapN_zero mask t _
theorem leapN_perturb (mask : Nat) : ∀ t x, (leapN mask t x).2 = x.2 / 32 ^ t
  | 0, x => by simp [leapN]
  | t + 1, x => by
    show (leapN mask t (SetTable.leap mask x.1 x.2)).2 = _
    rw [leapN_perturb mask t, show (SetTable.leap mask x.1 x.2).2 = x.2 / 32 from rfl, Nat.div_div_eq_div_mul, Nat.pow_succ, Nat.mul_comm]
theorem leapN_le (mask : Nat) : ∀ t x, x.1 ≤ mask → (leapN mask t x).1 ≤ mask
  | 0, _, h => h
  | t + 1, x, _ => leapN_le mask t _ (by simp only [SetTable.leap]; exact Nat.le_of_lt_succ (Nat.mod_lt _ (Nat.succ_pos _)))

theorem leap_reach {mask i j p : Nat} (h : GoodMask mask) (hp : p < 2 ^ 64) (hi : i ≤ mask) (hj : j ≤ mask) : ∃ t, t < SetTable.turns mask ∧ (leapN mask t (i, p)).1 = j := by
  have e : leapN mask 13 (i, p) = ((leapN mask 13 (i, p)).1, 0) := by
    refine Prod.ext rfl ?_
    rw [leapN_perturb]
    exact Nat.div_eq_of_lt (Nat.lt_of_lt_of_le hp (by decide))
  obtain ⟨t, ht, et⟩ := reach h (leapN_le mask 13 (i, p) hi) hj
  refine ⟨13 + t, by unfold SetTable.turns; omega, ?_⟩
  rw [leapN_add, e, leapN_zero]
  exact et

theorem free_some {mask : Nat} {owner : Array (Option Nat)} {j : Nat} (hj : (owner.getD j (some 0)).isNone = true) :
    ∀ fuel i p t, t < fuel → (leapN mask t (i, p)).1 = j → ∃ r, SetTable.layClean.free mask owner fuel i p = some r ∧ (owner.getD r (some 0)).isNone = true
  | 0, _, _, _, h, _ => absurd h (Nat.not_lt_zero _)
  | fuel + 1, i, p, t, h, e => by
    rw [SetTable.layClean.free]
    split
    · rename_i k hk
      have hq := List.find?_some (p := fun k => (owner.getD (i + k) (some 0)).isNone) hk
      exact ⟨_, rfl, hq⟩
    · rename_i hk
      cases t with
      | zero =>
        have e' : i = j := e
        subst e'
        have := List.find?_eq_none.mp hk 0 (List.mem_range.mpr (by unfold SetTable.runEnd; split <;> omega))
        rw [Nat.add_zero] at this
        exact absurd hj this
      | succ t =>
        exact free_some hj fuel _ _ t (Nat.lt_of_succ_lt_succ h) e

theorem bits_lt (h : Int) : SetTable.bits h < 2 ^ 64 := by
  unfold SetTable.bits
  have h1 := Int.emod_nonneg h (b := (2 ^ 64 : Int)) (by decide)
  have h2 := Int.emod_lt_of_pos h (b := (2 ^ 64 : Int)) (by decide)
  omega

noncomputable def OwnerOk (mask : Nat) (owner : Array (Option Nat)) (k : Nat) : Prop := owner.size = mask + 1 ∧ List.Perm (owner.toList.filterMap id) (List.range k)

theorem filterMap_set : ∀ (l : List (Option Nat)) (j k : Nat), l[j]? = some none → List.Perm ((l.set j (some k)).filterMap id) (k :: l.filterMap id)
  | [], j, k, h => by simp at h
  | x :: l, 0, k, h => by simp at h; subst h; simp
  | x :: l, j + 1, k, h => by
    simp only [List.getElem?_cons_succ] at h
    have ih := filterMap_set l j k h
    cases x with
    | none => simpa using ih
    | some y => simpa using (ih.cons y).trans (List.Perm.swap k y _)

theorem none_of_few : ∀ (l : List (Option Nat)), (l.filterMap id).length < l.length → ∃ j, j < l.length ∧ l[j]? = some none
  | [], h => absurd h (Nat.lt_irrefl _)
  | none :: l, _ => ⟨0, Nat.succ_pos _, rfl⟩
  | some x :: l, h => by
    simp only [List.filterMap_cons, id, List.length_cons] at h
    obtain ⟨j, hj, e⟩ := none_of_few l (by omega)
    exact ⟨j + 1, Nat.succ_lt_succ hj, by simpa using e⟩

theorem getD_none {owner : Array (Option Nat)} {j : Nat} : (owner.getD j (some 0)).isNone = true ↔ owner.toList[j]? = some none := by
  rw [Array.getElem?_toList, Array.getD_eq_getD_getElem?]
  cases h : owner[j]? with
  | none => simp
  | some x => cases x <;> simp

theorem layStep {mask : Nat} (hm : GoodMask mask) {owner : Array (Option Nat)} {k : Nat} (ho : OwnerOk mask owner k) (hk : k ≤ mask) (h : Int) :
    ∃ owner', (do let j ← SetTable.layClean.free mask owner (SetTable.turns mask) (SetTable.bits h % (mask + 1)) (SetTable.bits h); pure (owner.setIfInBounds j (some k), k + 1)) = some (owner', k + 1) ∧ OwnerOk mask owner' (k + 1) := by
  obtain ⟨hs, hp⟩ := ho
  have hl : (owner.toList.filterMap id).length < owner.toList.length := by rw [hp.length_eq, List.length_range, Array.length_toList, hs]; omega
  obtain ⟨j, hj, e⟩ := none_of_few _ hl
  have hj' : j ≤ mask := by rw [Array.length_toList, hs] at hj; omega
  obtain ⟨t, ht, et⟩ := leap_reach (mask := mask) (i := SetTable.bits h % (mask + 1)) (p := SetTable.bits h) hm (bits_lt h) (Nat.le_of_lt_succ (Nat.mod_lt _ (Nat.succ_pos _))) hj'
  obtain ⟨r, hr, hn⟩ := free_some (mask := mask) (getD_none.mpr e) _ _ _ t ht et
  refine ⟨owner.setIfInBounds r (some k), by rw [hr]; rfl, by rw [Array.size_setIfInBounds, hs], ?_⟩
  rw [Array.toList_setIfInBounds]
  refine (filterMap_set _ _ _ (getD_none.mp hn)).trans ?_
  rw [List.range_succ]
  exact (hp.cons k).trans (List.perm_append_singleton k _).symm

theorem layAll {mask : Nat} (hm : GoodMask mask) : ∀ (l : List Int) (owner : Array (Option Nat)) (k : Nat), OwnerOk mask owner k → k + l.length ≤ mask + 1 →
    ∃ owner', l.foldl (fun (acc : Option (Array (Option Nat) × Nat)) h => do
      let (owner, k) ← acc
      let j ← SetTable.layClean.free mask owner (SetTable.turns mask) (SetTable.bits h % (mask + 1)) (SetTable.bits h)
      pure (owner.setIfInBounds j (some k), k + 1)) (some (owner, k)) = some (owner', k + l.length) ∧ OwnerOk mask owner' (k + l.length)
  | [], owner, k, ho, _ => ⟨owner, rfl, ho⟩
  | h :: l, owner, k, ho, hk => by
    rw [List.length_cons] at hk
    obtain ⟨o1, e1, ho1⟩ := layStep hm ho (by omega) h
    obtain ⟨o2, e2, ho2⟩ := layAll hm l o1 (k + 1) ho1 (by omega)
    refine ⟨o2, ?_, by rw [List.length_cons, show k + (l.length + 1) = k + 1 + l.length by omega]; exact ho2⟩
    rw [List.foldl_cons]
    rw [show (do let (owner, k) ← (some (owner, k) : Option (Array (Option Nat) × Nat)); let j ← SetTable.layClean.free mask owner (SetTable.turns mask) (SetTable.bits h % (mask + 1)) (SetTable.bits h); pure (owner.setIfInBounds j (some k), k + 1)) = some (o1, k + 1) from e1]
    rw [e2, List.length_cons, show k + (l.length + 1) = k + 1 + l.length by omega]

theorem layClean_ok {mask : Nat} (hm : GoodMask mask) {hashes : Array Int} (hn : hashes.size ≤ mask + 1) :
    ∃ owner, SetTable.layClean mask hashes = some owner ∧ OwnerOk mask owner hashes.size := by
  obtain ⟨o, e, ho⟩ := layAll hm hashes.toList (Array.replicate (mask + 1) none) 0 ⟨by simp, by simp⟩ (by rw [Array.length_toList]; omega)
  rw [Nat.zero_add, Array.length_toList] at ho
  refine ⟨o, ?_, ho⟩
  unfold SetTable.layClean
  rw [← Array.foldl_toList, e]
  rfl

theorem live_snd (owner : Array (Option Nat)) : (((List.range owner.size).filterMap fun j => (owner.getD j none).map (j, ·)).map (·.2)) = owner.toList.filterMap id := by
  have e : owner.toList = (List.range owner.size).map fun j => owner.getD j none := by
    refine List.ext_getElem (by simp) fun i h1 h2 => ?_
    simp only [List.getElem_map, List.getElem_range]
    simp only [Array.length_toList] at h1
    rw [Array.getElem_toList, Array.getD_eq_getD_getElem?, Array.getElem?_eq_getElem h1]; rfl
  rw [e, List.filterMap_map, List.map_filterMap]
  congr 1
  funext j
  simp only [Function.comp, id]
  cases owner.getD j none <;> rfl

theorem laid_ok {mask finger moves : Nat} {led plain : Bool} {hashes : Array Int} (hm : GoodMask mask) (hn : hashes.size ≤ mask + 1) :
    ∃ t order, SetTable.laid mask finger moves led plain hashes = some (t, order) ∧ List.Perm order.toList (List.range hashes.size) ∧ t.mask = mask ∧ t.dummies = #[] ∧ t.place.size = hashes.size ∧ t.led = led ∧ t.plain = plain ∧ t.finger = finger := by
  obtain ⟨owner, e, hs, hp⟩ := layClean_ok hm hn
  have hlen : ((List.range (mask + 1)).filterMap fun j => (owner.getD j none).map (j, ·)).length = hashes.size := by
    have := congrArg List.length (live_snd owner)
    rw [List.length_map, hs, hp.length_eq, List.length_range] at this
    exact this
  refine ⟨_, _, by unfold SetTable.laid; rw [e]; rfl, ?_, rfl, rfl, ?_, rfl, rfl, rfl⟩
  · have := live_snd owner
    rw [hs] at this
    show List.Perm (((List.range (mask + 1)).filterMap fun j => (owner.getD j none).map (j, ·)).map (·.2)).toArray.toList _
    rw [List.toList_toArray, this]
    exact hp
  · show (((List.range (mask + 1)).filterMap fun j => (owner.getD j none).map (j, ·)).map (·.1)).toArray.size = _
    rw [List.size_toArray, List.length_map, hlen]

theorem sizeAbove_good : ∀ n, n < 256 → GoodMask (SetTable.sizeAbove n - 1) ∧ n ≤ SetTable.sizeAbove n - 1 ∧ SetTable.sizeAbove n ≤ 256 := by
  unfold GoodMask
  decide +kernel

end Mine

namespace Mine

theorem erase_perm {α : Type} : ∀ (l : List α) (i : Nat) (h : i < l.length), List.Perm (l[i] :: l.eraseIdx i) l
  | [], _, h => absurd h (Nat.not_lt_zero _)
  | _ :: _, 0, _ => .rfl
  | x :: l, i + 1, h => by
    rw [List.getElem_cons_succ, List.eraseIdx_cons_succ]
    exact (List.Perm.swap x _ _).trans ((erase_perm l i (Nat.lt_of_succ_lt_succ h)).cons x)

/-! loops of the semantics' own -/
section
variable {M : Model} {A : Around} {E : Value → Shared → Prop} {s : Shared}

theorem wp_choose {src : Source} {n : Nat} {Q : Nat → Shared → Prop} (hn : n ≠ 0) (h : ∀ i d, i < n → Q i { s with drawn := d }) : wpAny M A (choose src n) Q E s :=
  fun _ _ _ => by
    show Sem.wp _ _ (.choose src n .pure) _ _ _ _
    rw [Sem.wp_choose]
    exact ⟨hn, h _ _ (Nat.mod_lt _ (Nat.pos_of_ne_zero hn))⟩

theorem wp_for {α : Type} {f : α → PUnit → Sem (ForInStep PUnit)} {Q : PUnit → Shared → Prop} (Inv : List α → Shared → Prop)
    (turn : ∀ x r s', Inv (x :: r) s' → wpAny M A (f x PUnit.unit) (fun y s'' => y = .yield PUnit.unit ∧ Inv r s'') E s') :
    ∀ (l : List α) (s : Shared), Inv l s → (∀ s', Inv [] s' → Q PUnit.unit s') → wpAny M A (forIn l PUnit.unit f) Q E s
  | [], s, hi, hq => by rw [List.forIn_nil]; exact wpAny_pure (hq s hi)
  | x :: r, s, hi, hq => by
    rw [List.forIn_cons]
    refine wpAny_bind (wpAny_mono (turn x r s hi) (fun y s' h => ?_) fun _ _ z => z)
    obtain ⟨rfl, h⟩ := h
    exact wp_for Inv turn r s' h hq

theorem drawOrder_any {α : Type} {Q : List α → Shared → Prop} : ∀ (n : Nat) (l : List α) (s : Shared), l.length = n → (∀ l' d, List.Perm l' l → Q l' { s with drawn := d }) → wpAny M A (drawOrder n l) Q E s
  | 0, l, s, hn, h => by
    have : l = [] := List.eq_nil_of_length_eq_zero hn
    subst this
    exact wpAny_pure (h [] s.drawn .rfl)
  | n + 1, [], s, hn, h => by simp at hn
  | n + 1, x :: l, s, hn, h => by
    rw [drawOrder]
    · refine wpAny_bind (wp_choose (by simp) fun i d hi => ?_)
      have he : (x :: l)[i]? = some (x :: l)[i] := List.getElem?_eq_getElem hi
      rw [he]
      dsimp only
      refine wpAny_bind (drawOrder_any n _ _ (by rw [List.length_eraseIdx, if_pos hi]; omega) fun l' d' hp => ?_)
      refine wpAny_pure (h _ d' ?_)
      exact (hp.cons _).trans (erase_perm _ _ hi)
    · simp
end

theorem pickOrder_go_perm {α : Type} (next : Nat → Nat) : ∀ (fuel k : Nat) (left : List α) (out : Array α), left.length ≤ fuel → List.Perm (pickOrder.go next fuel k left out).toList (out.toList ++ left)
  | 0, k, left, out, h => by
    have : left = [] := List.eq_nil_of_length_eq_zero (Nat.le_zero.mp h)
    subst this
    rw [pickOrder.go]; simp
  | fuel + 1, k, [], out, h => by rw [pickOrder.go]; simp
  | fuel + 1, k, x :: l, out, h => by
    have hi : next k % (x :: l).length < (x :: l).length := Nat.mod_lt _ (by simp)
    rw [pickOrder.go, List.getElem?_eq_getElem hi]
    dsimp only
    refine (pickOrder_go_perm next fuel (k + 1) _ _ (by rw [List.length_eraseIdx, if_pos hi]; simp at h ⊢; omega)).trans ?_
    rw [Array.toList_push, List.append_assoc]
    exact List.Perm.append_left _ (erase_perm _ _ hi)
theorem pickOrder_perm {α : Type} (next : Nat → Nat) (xs : Array α) : List.Perm (pickOrder next xs).toList xs.toList := by
  unfold pickOrder
  have := pickOrder_go_perm next xs.size 0 xs.toList #[] (by simp)
  simpa using this

/-! what a set of strs is -/
noncomputable def keysS (es : List (Int × Value)) : List Str := es.map fun e => strOf e.2
noncomputable def Ents (w : World) (es : List (Int × Value)) : Prop := ∀ e ∈ es, ∃ x t, e = (hashStr w x, .str x t)
noncomputable def TabOk (w : World) (es : Array (Int × Value)) (t : SetTable) : Prop :=
  t.fits es.size = true ∧ (w.params.followText "set-order" = false → t.led = true) ∧ (es.size ≠ 0 → t.plain = false) ∧ (t.fill = 0 → GoodMask t.mask)
noncomputable abbrev setO (es : Array (Int × Value)) (ep : Nat) (t : SetTable) : Obj := { cls := .type "set", data := .set es ep t }
noncomputable def SetObjS (w : World) (o : Obj) (ss : List Str) : Prop :=
  ∃ es ep t, o = setO es ep t ∧ Ents w es.toList ∧ List.Perm (keysS es.toList) ss ∧ ss.Nodup ∧ ss.length ≤ 60 ∧ TabOk w es t
noncomputable def IsSet (w : World) (h : Heap) (a : Addr) (ss : List Str) : Prop := ∃ o, h.get? a = some o ∧ SetObjS w o ss

theorem IsSet.at {w : World} {h h' : Heap} {a : Addr} {ss : List Str} (x : IsSet w h a ss) (k : ∀ o, h.get? a = some o → h'.get? a = some o) : IsSet w h' a ss := let ⟨o, e, r⟩ := x; ⟨o, k o e, r⟩
theorem SetObjS.perm {w : World} {o : Obj} {ss ss' : List Str} (x : SetObjS w o ss) (p : List.Perm ss ss') : SetObjS w o ss' :=
  let ⟨es, ep, t, e, h1, h2, h3, h4, h5⟩ := x; ⟨es, ep, t, e, h1, h2.trans p, p.nodup h3, p.length_eq ▸ h4, h5⟩
theorem IsSet.perm {w : World} {h : Heap} {a : Addr} {ss ss' : List Str} (x : IsSet w h a ss) (p : List.Perm ss ss') : IsSet w h a ss' := let ⟨o, e, r⟩ := x; ⟨o, e, r.perm p⟩

theorem Ents.mem {w : World} {es : List (Int × Value)} (h : Ents w es) {e : Int × Value} (he : e ∈ es) : e.1 = hashStr w (strOf e.2) ∧ ∃ t, e.2 = .str (strOf e.2) t := by
  obtain ⟨x, t, rfl⟩ := h e he; exact ⟨rfl, t, rfl⟩
theorem Ents.elems {prog : Program} {w : World} {es : List (Int × Value)} (h : Ents w es) : ElemsOf (strKind prog w) es := by
  intro e he
  obtain ⟨x, t, rfl⟩ := h e he
  exact ⟨⟨x, strKind_is prog w x t, rfl⟩, rfl⟩
theorem Ents.perm {w : World} {es es' : List (Int × Value)} (h : Ents w es) (p : List.Perm es' es) : Ents w es' := fun e he => h e (p.mem_iff.mp he)
theorem keysS_perm {es es' : List (Int × Value)} (p : List.Perm es es') : List.Perm (keysS es) (keysS es') := p.map _
theorem len_keys {es : Array (Int × Value)} {ss : List Str} (p : List.Perm (keysS es.toList) ss) : es.size = ss.length := by
  rw [← p.length_eq]; simp [keysS]

theorem ExactSet_setO (es : Array (Int × Value)) (ep : Nat) (t : SetTable) : (setO es ep t).ExactSet := ⟨rfl, rfl, rfl⟩

section
variable {prog : Program} {w : World} {A : Around} {E : Value → Shared → Prop} {s : Shared} {a : Addr} {es : Array (Int × Value)} {ep : Nat} {t : SetTable} {ss : List Str}

/-- where a str stands among the entries -/
noncomputable def idxOf (es : List (Int × Value)) (x : Str) : Option Nat := es.findIdx? (fun e => Value.isStrOf x e.2)
theorem isStrOf_ent {es : List (Int × Value)} (h : Ents w es) {e : Int × Value} (he : e ∈ es) (x : Str) : Value.isStrOf x e.2 = (strOf e.2 == x) := by
  obtain ⟨y, t, rfl⟩ := h e he; rfl
theorem idxOf_none {es : List (Int × Value)} (h : Ents w es) {x : Str} (e : idxOf es x = none) : x ∉ keysS es := by
  intro hx
  obtain ⟨y, hy, e2⟩ := List.mem_map.mp hx
  have := List.findIdx?_eq_none_iff.mp e y hy
  rw [isStrOf_ent h hy, e2] at this
  simp at this
theorem idxOf_some {es : List (Int × Value)} (h : Ents w es) {x : Str} {j : Nat} (e : idxOf es x = some j) : ∃ t, es[j]? = some (hashStr w x, .str x t) := by
  obtain ⟨hj, hp, _⟩ := List.findIdx?_eq_some_iff_getElem.mp e
  have hm := List.getElem_mem hj
  rw [isStrOf_ent h hm, beq_iff_eq] at hp
  obtain ⟨y, t, e3⟩ := h _ hm
  rw [e3] at hp
  subst hp
  exact ⟨t, by rw [List.getElem?_eq_getElem hj, e3]; rfl⟩

theorem setFind_any {x : Str} {tk : Tok} {Q : Option Nat → Shared → Prop} (ho : s.heap.get? a = some (setO es ep t)) (he : Ents w es.toList) (hb : es.size ≤ 1000) (hf : t.fits es.size = true)
    (h : Q (idxOf es.toList x) s) : wpAny (model prog w) A (setFind a (.str x tk) (hashStr w x)) Q E s := by
  unfold setFind setFindIn
  refine wpAny_bind (wpAny_setState_of ho rfl hf ?_)
  dsimp only
  rw [byScan_of (knd := strKind prog w) (x := .str x tk) rfl (by unfold scanBound; omega) he.elems]
  simp only [↓reduceIte]
  refine wpAny_bind (wpAny_rule ?_)
  refine wpAny_bind (wpAny_setScan_of (knd := strKind prog w) (k := x) (strKind_is prog w x tk) ho rfl hf he.elems ?_)
  have e : List.findIdx? (fun e => (strKind prog w).is x e.2) es.toList = idxOf es.toList x := rfl
  rw [e]
  cases hr : idxOf es.toList x with
  | none => rw [hr] at h; exact wpAny_pure h
  | some j => rw [hr] at h; dsimp only; rw [Nat.zero_add]; exact wpAny_pure h

theorem storeSet_any {es' : Array (Int × Value)} {t' : SetTable} {Q : Unit → Shared → Prop} (ho : s.heap.get? a = some (setO es ep t)) (hz : es'.size ≤ 1000)
    (h : ∀ h', Heap.SameBut a s.heap h' → h'.get? a = some (setO es' (ep + 1) t') → Q () { s with heap := h' }) : wpAny (model prog w) A (storeSet a es' t') Q E s := by
  refine wpAny_storeSet_of ho rfl (h _ (Heap.SameBut.update _ a _) ?_) (by rw [sizeLine_eq]; omega)
  have := Heap.get?_update_self (Obj.putSet es' t') ho (by rfl)
  exact this

theorem layNew_led (t : SetTable) (es : Array (Int × Value)) (h : Int) (x : Value) : (layNew t es h x).2.1.led = t.led := by
  unfold layNew
  split
  · simp only [SetTable.orStandIn]
    split <;> rfl
  · rfl
theorem relayAll_led (t : SetTable) (es : Array (Int × Value)) (n : Nat) : (relayAll t es n).2.1.led = t.led := by
  unfold relayAll
  split
  · rename_i t' order e
    unfold SetTable.relaid SetTable.laid at e
    simp only [Option.bind_eq_bind, Option.bind_eq_some_iff] at e
    obtain ⟨ow, _, e⟩ := e
    cases e
    dsimp only
    split <;> rfl
  · rfl
theorem relayAll_plain (t : SetTable) (es : Array (Int × Value)) (n : Nat) (h : t.plain = false) : (relayAll t es n).2.1.plain = false := by
  unfold relayAll
  split
  · rename_i t' order e
    unfold SetTable.relaid SetTable.laid at e
    simp only [Option.bind_eq_bind, Option.bind_eq_some_iff] at e
    obtain ⟨ow, _, e⟩ := e
    cases e
    dsimp only
    split
    · exact h
    · rfl
  · rfl
theorem fill_pos {n : Nat} (h : t.fits n = true) (hn : n ≠ 0) : t.fill ≠ 0 := by
  simp only [SetTable.fits, Bool.and_eq_true, beq_iff_eq, decide_eq_true_eq] at h
  unfold SetTable.fill; omega

theorem setAdd_any {x : Str} {tk : Tok} {Q : Bool → Shared → Prop} (ho : s.heap.get? a = some (setO es ep t)) (he : Ents w es.toList) (hp : List.Perm (keysS es.toList) ss) (hnd : ss.Nodup) (hl : ss.length + 1 ≤ 60) (ht : TabOk w es t)
    (hold : x ∈ ss → Q false s) (hnew : x ∉ ss → ∀ h', Heap.SameBut a s.heap h' → IsSet w h' a (x :: ss) → Q true { s with heap := h' }) :
    wpAny (model prog w) A (setAddHashed a (.str x tk) (hashStr w x)) Q E s := by
  have hsz : es.size = ss.length := len_keys hp
  obtain ⟨t1, t2, t3, t4⟩ := ht
  unfold setAddHashed setAddHashedIn
  refine wpAny_holding (wpAny_bind (wpAny_setState_of ho rfl t1 ?_))
  dsimp only
  rw [byScan_of (knd := strKind prog w) (x := .str x tk) rfl (by unfold scanBound; omega) he.elems]
  simp only [↓reduceIte]
  unfold setAddByScan
  refine wpAny_bind (wpAny_bind (wpAny_rule ?_))
  refine wpAny_bind (wpAny_setScan_of (knd := strKind prog w) (k := x) (strKind_is prog w x tk) ho rfl t1 he.elems ?_)
  have e : List.findIdx? (fun e => (strKind prog w).is x e.2) es.toList = idxOf es.toList x := rfl
  rw [e]
  cases hr : idxOf es.toList x with
  | some j =>
    dsimp only
    obtain ⟨u, hu⟩ := idxOf_some he hr
    have hx : x ∈ ss := hp.mem_iff.mp (List.mem_map.mpr ⟨_, List.mem_of_getElem? hu, rfl⟩)
    exact wpAny_pure (wpAny_pure (hold hx))
  | none =>
    dsimp only
    have hx : x ∉ ss := fun q => idxOf_none he hr (hp.mem_iff.mpr q)
    have hperm := layNew_perm t es (hashStr w x) (.str x tk)
    have hfits := layNew_fits t es (hashStr w x) (.str x tk)
    have hled := layNew_led t es (hashStr w x) (.str x tk)
    generalize hL : layNew t es (hashStr w x) (.str x tk) = L at hperm hfits hled ⊢
    obtain ⟨es1, t', wasDummy, gave⟩ := L
    dsimp only at hperm hfits hled ⊢
    rw [Array.toList_push] at hperm
    have he1 : Ents w es1.toList := Ents.perm (fun e he' => by
      rcases List.mem_append.mp he' with q | q
      · exact he e q
      · exact ⟨x, tk, List.mem_singleton.mp q⟩) hperm
    have hp1 : List.Perm (keysS es1.toList) (x :: ss) := by
      refine (keysS_perm hperm).trans ?_
      unfold keysS
      rw [List.map_append, List.map_cons, List.map_nil]
      exact (List.perm_append_singleton _ _).trans (hp.cons x)
    have hs1 : es1.size = ss.length + 1 := len_keys hp1
    have hnd1 : (x :: ss).Nodup := List.nodup_cons.mpr ⟨hx, hnd⟩
    refine wpAny_bind (show wpAny _ _ (match gave with | true => rule "set.scan.the-table-gave-way" | false => pure ()) _ _ _ from ?_)
    have gw : ∀ (b : Bool) {s₁ : Shared} {Q' : Unit → Shared → Prop}, Q' () s₁ → wpAny (model prog w) A (match b with | true => rule "set.scan.the-table-gave-way" | false => pure ()) Q' E s₁ :=
      fun b s₁ Q' hq => by cases b <;> first | exact wpAny_pure hq | exact wpAny_rule hq
    refine gw _ ?_
    have tail : ∀ T : SetTable, T.fits es1.size = true → T.led = t.led → T.plain = false →
        wpAny (model prog w) A (do
          storeSet a es1 T
          if (!wasDummy && T.tooFull) = true then do
              (match (relayAll T es1 (SetTable.grown es1.size)).2.2 with | true => rule "set.scan.the-table-gave-way" | false => pure ())
              storeSet a (relayAll T es1 (SetTable.grown es1.size)).1 (relayAll T es1 (SetTable.grown es1.size)).2.1
              pure (some true)
            else pure (some true)) (fun o s' => wpAny (model prog w) A (match o with | some added => pure added | none => setAddHashedIn a (.str x tk) (hashStr w x) 99999) Q E s') E s := by
      intro T hT hTl hTp
      refine wpAny_bind (storeSet_any ho (by omega) fun h1 hb1 ho1 => ?_)
      split
      · have hp2 := relayAll_perm T es1 (SetTable.grown es1.size)
        have hf2 := relayAll_fits T es1 (SetTable.grown es1.size)
        have hl2 := relayAll_led T es1 (SetTable.grown es1.size)
        have hq2 := relayAll_plain T es1 (SetTable.grown es1.size) hTp
        generalize relayAll T es1 (SetTable.grown es1.size) = Rl at hp2 hf2 hl2 hq2 ⊢
        obtain ⟨es2, T2, gave2⟩ := Rl
        dsimp only at hp2 hf2 hl2 hq2 ⊢
        have hs2 : es2.size = es1.size := by rw [← Array.length_toList, hp2.length_eq, Array.length_toList]
        refine wpAny_bind (gw _ ?_)
        refine wpAny_bind (storeSet_any ho1 (by omega) fun h2 hb2 ho2 => ?_)
        refine wpAny_pure (wpAny_pure (hnew hx h2 (hb1.trans hb2) ⟨_, ho2, es2, _, T2, rfl, he1.perm hp2, (keysS_perm hp2).trans hp1, hnd1, by simpa using hl, hf2, fun q => by rw [hl2, hTl]; exact t2 q, fun _ => hq2, fun q => absurd q (fill_pos hf2 (by omega))⟩))
      · exact wpAny_pure (wpAny_pure (hnew hx h1 hb1 ⟨_, ho1, es1, _, T, rfl, he1, hp1, hnd1, by simpa using hl, hT, fun q => by rw [hTl]; exact t2 q, fun _ => hTp, fun q => absurd q (fill_pos hT (by omega))⟩))
    cases hpl : t'.plain with
    | true =>
      simp only [↓reduceIte]
      refine wpAny_bind ?_
      rw [hashByValue_scannable 8 (x := .str x tk) rfl]
      refine wpAny_pure ?_
      exact tail { t' with plain := false } (SetTable.fits_plain_off hfits) hled rfl
    | false =>
      simp only [Bool.false_eq_true, ↓reduceIte]
      exact wpAny_bind (wpAny_pure (tail t' hfits hled hpl))

theorem add_IsSet {x : Str} {tk : Tok} {Q : Bool → Shared → Prop} (hS : IsSet w s.heap a ss) (hl : ss.length + 1 ≤ 60)
    (h : ∀ h', Heap.SameBut a s.heap h' → IsSet w h' a (if x ∈ ss then ss else x :: ss) → Q (!decide (x ∈ ss)) { s with heap := h' }) :
    wpAny (model prog w) A (setAddHashed a (.str x tk) (hashStr w x)) Q E s := by
  have hS' := hS
  obtain ⟨o, ho, es, ep, t, rfl, he, hp, hnd, hl', ht⟩ := hS
  refine setAdd_any ho he hp hnd hl ht (fun hx => ?_) fun hx h' hb hS' => ?_
  · have := h s.heap (Heap.SameBut.refl _ _) (by rw [if_pos hx]; exact hS')
    rw [decide_eq_true hx] at this
    exact this
  · have := h h' hb (by rw [if_neg hx]; exact hS')
    rw [decide_eq_false hx] at this
    exact this

end
end Mine

namespace Mine

section
variable {M : Model} {A : Around} {E : Value → Shared → Prop} {s : Shared}
theorem wp_forQ {α β : Type} {f : α → β → Sem (ForInStep β)} {b : β} {Q : β → Shared → Prop} : ∀ (l : List α), (∀ x ∈ l, ∀ Q' : ForInStep β → Shared → Prop, Q' (.yield b) s → wpAny M A (f x b) Q' E s) → Q b s → wpAny M A (forIn l b f) Q E s
  | [], _, hq => by rw [List.forIn_nil]; exact wpAny_pure hq
  | x :: r, hf, hq => by
    rw [List.forIn_cons]
    exact wpAny_bind (hf x (.head _) _ (wp_forQ r (fun y hy => hf y (.tail _ hy)) hq))
theorem wp_forQA {α β : Type} {f : α → β → Sem (ForInStep β)} {b : β} {Q : β → Shared → Prop} (l : Array α) (hf : ∀ x ∈ l.toList, ∀ Q' : ForInStep β → Shared → Prop, Q' (.yield b) s → wpAny M A (f x b) Q' E s) (hq : Q b s) : wpAny M A (forIn l b f) Q E s := by
  rw [← Array.forIn_toList]; exact wp_forQ _ hf hq
theorem wp_forA {α : Type} {f : α → PUnit → Sem (ForInStep PUnit)} {Q : PUnit → Shared → Prop} (Inv : List α → Shared → Prop)
    (turn : ∀ x r s', Inv (x :: r) s' → wpAny M A (f x PUnit.unit) (fun y s'' => y = .yield PUnit.unit ∧ Inv r s'') E s')
    (l : Array α) (s : Shared) (hi : Inv l.toList s) (hq : ∀ s', Inv [] s' → Q PUnit.unit s') : wpAny M A (forIn l PUnit.unit f) Q E s := by
  rw [← Array.forIn_toList]; exact wp_for Inv turn _ s hi hq
end

section
variable {prog : Program} {w : World} {A : Around} {E : Value → Shared → Prop} {s : Shared} {a : Addr} {es : Array (Int × Value)} {ep : Nat} {t : SetTable} {ss : List Str}

theorem setsQuiet_any {Q : Bool → Shared → Prop} (sets : List Addr) (h : ∀ a ∈ sets, ∃ ss, IsSet w s.heap a ss) (hq : Q true s) : wpAny (model prog w) A (setsQuiet sets) Q E s := by
  unfold setsQuiet
  refine wpAny_bind (wp_forQ sets (fun a ha Q' hq' => ?_) ?_)
  · obtain ⟨ss, o, ho, es, ep, t, rfl, he, _, _, _, ht⟩ := h a ha
    refine wpAny_bind (wpAny_setEntries_of ho rfl ht.1 ?_)
    refine wpAny_bind (wp_forQA es (fun e hee Q'' hq'' => ?_) ?_)
    · obtain ⟨x, tk, rfl⟩ := he e hee
      exact wpAny_pure hq''
    · exact wpAny_pure hq'
  · exact wpAny_pure hq

theorem byText_any {Q : Bool → Shared → Prop} (h : Q (w.params.followText "set-order") s) : wpAny (model prog w) A setsByText Q E s :=
  wpAny_bind (wpAny_askSetting (wpAny_pure h))

theorem setWalk_any {Q : Array (Int × Value) → Shared → Prop} (ho : s.heap.get? a = some (setO es ep t)) (ht : TabOk w es t)
    (h : ∀ es' d, List.Perm es'.toList es.toList → Q es' { s with drawn := d }) : wpAny (model prog w) A (setWalk a) Q E s := by
  obtain ⟨t1, t2, t3, t4⟩ := ht
  unfold setWalk
  refine wpAny_bind (wpAny_setState_of ho rfl t1 ?_)
  dsimp only
  refine wpAny_bind (byText_any ?_)
  cases hb : w.params.followText "set-order" with
  | true =>
    simp only [↓reduceIte]
    exact wpAny_bind (wpAny_askSetting (wpAny_pure (h _ s.drawn (pickOrder_perm _ _))))
  | false =>
    simp only [Bool.false_eq_true, ↓reduceIte]
    split
    · refine wpAny_bind (drawOrder_any _ _ _ (by simp) fun l d hp => ?_)
      exact wpAny_pure (h _ d (by simpa using hp))
    · refine wpAny_bind ?_
      show wpAny _ _ (if (!t.led && es.size > 1) = true then _ else pure ()) _ _ _
      rw [t2 hb]
      simp only [Bool.not_true, Bool.false_and, Bool.false_eq_true, ↓reduceIte]
      exact wpAny_pure (wpAny_pure (h es s.drawn .rfl))

/-- the walk over a set in an order of the world's; the set that is filled keeps what it holds -/
theorem walkUnseen_any {others : List Addr} {filled : Option Addr} {Q : Array (Int × Value) → Shared → Prop} (ho : s.heap.get? a = some (setO es ep t)) (he : Ents w es.toList) (hp : List.Perm (keysS es.toList) ss) (hnd : ss.Nodup) (hl : ss.length ≤ 60) (ht : TabOk w es t)
    (hq : ∀ b ∈ others, ∃ ss, IsSet w s.heap b ss) (hf : ∀ f, filled = some f → f ≠ a ∧ ∃ ss, IsSet w s.heap f ss)
    (h : ∀ es' h' d, List.Perm es'.toList es.toList → (∀ b, filled ≠ some b → h'.get? b = s.heap.get? b) → h'.objs.size = s.heap.objs.size → (∀ f, filled = some f → ∀ ss', IsSet w s.heap f ss' → IsSet w h' f ss') → Q es' { s with heap := h', drawn := d }) :
    wpAny (model prog w) A (setWalkUnseen a others filled) Q E s := by
  obtain ⟨t1, t2, t3, t4⟩ := id ht
  have plain : ∀ es' d, List.Perm es'.toList es.toList → Q es' { s with drawn := d } := fun es' d p => h es' s.heap d p (fun _ _ => rfl) rfl fun _ _ _ z => z
  unfold setWalkUnseen
  refine wpAny_bind (wpAny_setState_of ho rfl t1 ?_)
  dsimp only
  refine wpAny_bind (byText_any ?_)
  split
  · exact setWalk_any ho ht plain
  · refine wpAny_bind (setsQuiet_any _ (fun b hb => ?_) ?_)
    · rcases List.mem_cons.mp hb with rfl | hb
      · exact ⟨ss, _, ho, es, ep, t, rfl, he, hp, hnd, hl, ht⟩
      · exact hq b hb
    simp only [Bool.not_true, Bool.false_eq_true, ↓reduceIte]
    refine wpAny_bind (wpAny_rule ?_)
    cases filled with
    | none => exact wpAny_pure (plain es s.drawn .rfl)
    | some f =>
      obtain ⟨hne, ssf, of, hof, esf, epf, tf, rfl, hef, hpf, hndf, hlf, htf⟩ := hf f rfl
      obtain ⟨f1, f2, f3, f4⟩ := id htf
      dsimp only
      refine wpAny_bind (wpAny_setState_of hof rfl f1 ?_)
      dsimp only
      split
      · refine wpAny_bind (storeSet_any hof (by rw [len_keys hpf]; omega) fun h' hb ho' => ?_)
        refine wpAny_pure (h es h' s.drawn .rfl (fun b hb' => hb.2 b fun e => hb' (by rw [e])) hb.1 fun f' e ss' z => ?_)
        cases e
        obtain ⟨o2, ho2, es2, ep2, t2', rfl, he2, hp2, hnd2, hl2, ht2⟩ := z
        rw [hof] at ho2
        cases ho2
        refine ⟨_, ho', _, _, _, rfl, he2, hp2, hnd2, hl2, by cases tf; exact f1, fun q => ?_, fun q => ?_, by cases tf; exact f4⟩
        · show (tf.led && t.led) = true
          rw [f2 q, t2 q]; rfl
        · show (tf.plain && t.plain) = false
          rw [f3 q]; rfl
      · exact wpAny_pure (plain es s.drawn .rfl)

/-! striking out -/
theorem toList_eraseAt {α : Type} (xs : Array α) (p : Nat) : (SetTable.eraseAt xs p).toList = xs.toList.eraseIdx p := by
  unfold SetTable.eraseAt
  rw [List.eraseIdx_eq_take_drop_succ]
  simp [List.take_of_length_le]
theorem keys_erase {l : List (Int × Value)} {ss : List Str} {j : Nat} {x : Str} {tk : Tok} (hj : l[j]? = some (hashStr w x, .str x tk)) (hp : List.Perm (keysS l) ss) : List.Perm (keysS (l.eraseIdx j)) (ss.erase x) := by
  obtain ⟨hlt, e⟩ := List.getElem?_eq_some_iff.mp hj
  have p1 := keysS_perm (erase_perm l j hlt)
  rw [e] at p1
  have p2 : List.Perm (x :: keysS (l.eraseIdx j)) ss := p1.trans hp
  have hx : x ∈ ss := p2.mem_iff.mp (.head _)
  exact (p2.trans (List.perm_cons_erase hx)).cons_inv
end
end Mine

namespace Mine

section
variable {prog : Program} {w : World} {A : Around} {E : Value → Shared → Prop} {s : Shared} {a b f : Addr} {es : Array (Int × Value)} {ep : Nat} {t : SetTable} {ss ss₁ ss₂ : List Str}

theorem IsSet.but {h h' : Heap} {x : Addr} (S : IsSet w h a ss) (hb : Heap.SameBut x h h') (hne : a ≠ x) : IsSet w h' a ss := S.at fun _ e => (hb.2 a hne).trans e

theorem size_insertAt {α : Type} (xs : Array α) (p : Nat) (x : α) : (SetTable.insertAt xs p x).size = xs.size + 1 := by
  rw [← Array.length_toList, SetTable.toList_insertAt, List.length_append, List.length_cons, List.length_take, List.length_drop, Array.length_toList]
  omega
theorem drop_fits {j n : Nat} (h : t.fits n = true) (hj : j < n) : (t.drop j).fits (n - 1) = true ∧ (t.drop j).fill ≠ 0 ∧ (t.drop j).led = t.led ∧ (t.drop j).plain = t.plain := by
  simp only [SetTable.fits, Bool.and_eq_true, beq_iff_eq, decide_eq_true_eq] at h
  obtain ⟨h1, h2⟩ := h
  have hj' : j < t.place.size := by omega
  unfold SetTable.drop
  rw [Array.getElem?_eq_getElem hj']
  dsimp only
  have e1 : (SetTable.eraseAt t.place j).size = t.place.size - 1 := by
    rw [← Array.length_toList, toList_eraseAt, List.length_eraseIdx, if_pos (by simpa using hj'), Array.length_toList]
  simp only [SetTable.fits, SetTable.fill, size_insertAt, e1, Bool.and_eq_true, beq_iff_eq, decide_eq_true_eq]
  unfold SetTable.fill at h2
  refine ⟨⟨by omega, by omega⟩, by omega, trivial, trivial⟩

theorem discard_IsSet {x : Str} {tk : Tok} {Q : Bool → Shared → Prop} (hS : IsSet w s.heap a ss)
    (h : ∀ h', Heap.SameBut a s.heap h' → IsSet w h' a (ss.erase x) → Q (decide (x ∈ ss)) { s with heap := h' }) :
    wpAny (model prog w) A (Builtin.Frozenset.addrOf (.ref a) >>= fun a => setDiscardHashed a (.str x tk) (hashStr w x)) Q E s := by
  refine wpAny_bind (wpAny_pure ?_)
  obtain ⟨o, ho, es, ep, t, rfl, he, hp, hnd, hl, ht⟩ := id hS
  have hsz := len_keys hp
  unfold setDiscardHashed
  refine wpAny_bind (setFind_any ho he (by omega) ht.1 ?_)
  cases hr : idxOf es.toList x with
  | none =>
    have hx : x ∉ ss := fun q => idxOf_none he hr (hp.mem_iff.mpr q)
    have := h s.heap (Heap.SameBut.refl _ _) (by rw [List.erase_of_not_mem hx]; exact hS)
    rw [decide_eq_false hx] at this
    exact wpAny_pure this
  | some j =>
    obtain ⟨u, hu⟩ := idxOf_some he hr
    have hx : x ∈ ss := hp.mem_iff.mp (List.mem_map.mpr ⟨_, List.mem_of_getElem? hu, rfl⟩)
    have hj : j < es.size := by
      have := (List.getElem?_eq_some_iff.mp hu).1
      simpa using this
    dsimp only
    refine wpAny_bind (wpAny_setState_of ho rfl ht.1 ?_)
    dsimp only
    have e1 : (SetTable.eraseAt es j).size = es.size - 1 := by
      rw [← Array.length_toList, toList_eraseAt, List.length_eraseIdx, if_pos (by simpa using hj), Array.length_toList]
    obtain ⟨d1, d2, d3, d4⟩ := drop_fits ht.1 hj
    refine wpAny_bind (storeSet_any ho (by rw [e1]; omega) fun h' hb ho' => ?_)
    refine wpAny_bind (wpAny_point ?_)
    have := h h' hb ⟨_, ho', _, _, _, rfl, ?_, ?_, hnd.erase _, Nat.le_trans (List.length_erase_le) hl, by rw [e1]; exact d1, fun q => by rw [d3]; exact ht.2.1 q, fun q => by rw [d4]; exact ht.2.2.1 (by omega), fun q => absurd q d2⟩
    · rw [decide_eq_true hx] at this
      exact wpAny_pure this
    · rw [toList_eraseAt]; exact fun e hee => he e (List.mem_of_mem_eraseIdx hee)
    · rw [toList_eraseAt]; exact keys_erase hu hp

theorem discard_set {x : Str} {tk : Tok} {Q : Bool → Shared → Prop} (hS : IsSet w s.heap a ss)
    (h : ∀ h', Heap.SameBut a s.heap h' → IsSet w h' a (ss.erase x) → Q (decide (x ∈ ss)) { s with heap := h' }) :
    wpAny (model prog w) A (setDiscardHashed a (.str x tk) (hashStr w x)) Q E s := discard_IsSet hS h

/-! relaying a table -/
theorem filterMap_order {order : Array Nat} (hp : List.Perm order.toList (List.range es.size)) : List.Perm (order.filterMap (es[·]?)).toList es.toList := by
  rw [Array.toList_filterMap]
  exact (hp.filterMap _).trans (by rw [filterMap_getElem?_range])

theorem relay_any {wanted : Nat} {Q : Unit → Shared → Prop} (ho : s.heap.get? a = some (setO es ep t)) (he : Ents w es.toList) (hp : List.Perm (keysS es.toList) ss) (hnd : ss.Nodup) (hl : ss.length ≤ 60) (ht : TabOk w es t)
    (hw : wanted < 256) (hn : ss.length ≤ wanted)
    (h : ∀ h' es' t', Heap.SameBut a s.heap h' → h'.get? a = some (setO es' (ep + 1) t') → Ents w es'.toList → List.Perm (keysS es'.toList) ss → TabOk w es' t' → t'.dummies = #[] → t'.mask = SetTable.sizeAbove wanted - 1 → Q () { s with heap := h' }) :
    wpAny (model prog w) A (setRelay a wanted) Q E s := by
  have hsz := len_keys hp
  obtain ⟨g1, g2, g3⟩ := sizeAbove_good wanted hw
  unfold setRelay
  refine wpAny_bind (wpAny_setState_of ho rfl ht.1 ?_)
  dsimp only
  rw [if_neg (by rw [sizeLine_eq]; omega)]
  obtain ⟨t', order, e, hpo, m1, m2, m3, m4, m5, m6⟩ := laid_ok (mask := SetTable.sizeAbove wanted - 1) (finger := t.finger) (moves := t.movedTo (SetTable.sizeAbove wanted - 1)) (led := t.led) (plain := t.plain) (hashes := es.map (·.1)) g1 (by rw [Array.size_map]; omega)
  rw [Array.size_map] at hpo m3
  have hpe := filterMap_order (es := es) hpo
  have hse : (order.filterMap (es[·]?)).size = es.size := by rw [← Array.length_toList, hpe.length_eq, Array.length_toList]
  refine wpAny_bind ?_
  rw [show t.relaid (es.map (·.1)) wanted = some (t', order) from e]
  show wpAny _ _ (if ((order.filterMap (es[·]?)).size != es.size) = true then _ else pure (order.filterMap (es[·]?), t')) _ _ _
  rw [if_neg (by rw [hse]; simp)]
  refine wpAny_pure ?_
  dsimp only
  refine storeSet_any ho (by rw [hse]; omega) fun h' hb ho' => ?_
  refine h h' _ _ hb ho' (he.perm hpe) ((keysS_perm hpe).trans hp) ⟨?_, fun q => by rw [m4]; exact ht.2.1 q, fun q => by rw [m5]; exact ht.2.2.1 (by rwa [hse] at q), fun _ => by rw [m1]; exact g1⟩ m2 m1
  simp only [SetTable.fits, SetTable.fill, m2, m3, m1, hse, Bool.and_eq_true, beq_iff_eq, decide_eq_true_eq]
  exact ⟨trivial, by rw [Array.size_empty, Nat.add_zero]; omega⟩

theorem relay_IsSet {wanted : Nat} {Q : Unit → Shared → Prop} (hS : IsSet w s.heap a ss) (hw : wanted < 256) (hn : ss.length ≤ wanted) (h : ∀ h', Heap.SameBut a s.heap h' → IsSet w h' a ss → Q () { s with heap := h' }) :
    wpAny (model prog w) A (setRelay a wanted) Q E s := by
  obtain ⟨o, ho, es, ep, t, rfl, he, hp, hnd, hl, ht⟩ := hS
  exact relay_any ho he hp hnd hl ht hw hn fun h' es' t' hb ho' he' hp' ht' _ _ => h h' hb ⟨_, ho', es', _, t', rfl, he', hp', hnd, hl, ht'⟩

theorem tidy_IsSet {Q : Unit → Shared → Prop} (hS : IsSet w s.heap a ss) (h : ∀ h', Heap.SameBut a s.heap h' → IsSet w h' a ss → Q () { s with heap := h' }) : wpAny (model prog w) A (setTidy a) Q E s := by
  obtain ⟨o, ho, es, ep, t, rfl, he, hp, hnd, hl, ht⟩ := id hS
  have hsz := len_keys hp
  unfold setTidy
  refine wpAny_bind (wpAny_setState_of ho rfl ht.1 ?_)
  dsimp only
  split
  · refine relay_IsSet hS ?_ ?_ h
    · unfold SetTable.grown; split <;> omega
    · unfold SetTable.grown; split <;> omega
  · exact wpAny_pure (h s.heap (Heap.SameBut.refl _ _) hS)

theorem fresh_TabOk (led : Bool) (hled : led = !(w.params.followText "set-order")) : TabOk w #[] (.fresh 0 0 led) :=
  ⟨rfl, fun q => by rw [hled, q]; rfl, fun q => absurd rfl q, fun _ => .inl rfl⟩
theorem newSet_any {Q : Value → Shared → Prop} (h : ∀ h', (∀ b o, s.heap.get? b = some o → h'.get? b = some o) → IsSet w h' s.heap.objs.size [] → Q (.ref s.heap.objs.size) { s with heap := h' }) :
    wpAny (model prog w) A (newSet (.type "set")) Q E s := by
  unfold newSet
  refine wpAny_bind (byText_any ?_)
  dsimp only
  simp only [newObj]
  refine wpAny_bind (wpAny_alloc (wpAny_pure ?_))
  exact h _ (fun b o e => Heap.get?_push_of_some _ e) ⟨_, Heap.get?_push_size _ rfl, #[], 0, _, rfl, fun e he => by simp at he, .rfl, .nil, by simp, fresh_TabOk _ rfl⟩
end
end Mine

namespace Mine

section
variable {prog : Program} {w : World} {A : Around} {E : Value → Shared → Prop} {s : Shared} {a b f : Addr} {es : Array (Int × Value)} {ep : Nat} {t : SetTable} {ss ss₁ ss₂ : List Str}

theorem room_any {n : Nat} {Q : Unit → Shared → Prop} (hS : IsSet w s.heap a ss) (hn : ss.length + n ≤ 60)
    (h : ∀ h' es' ep' t', Heap.SameBut a s.heap h' → h'.get? a = some (setO es' ep' t') → Ents w es'.toList → List.Perm (keysS es'.toList) ss → TabOk w es' t' → (t'.fill = 0 → n ≤ t'.mask) → Q () { s with heap := h' }) :
    wpAny (model prog w) A (setRoomFor a n) Q E s := by
  obtain ⟨o, ho, es, ep, t, rfl, he, hp, hnd, hl, ht⟩ := hS
  have hsz := len_keys hp
  have hpl : t.place.size = es.size := by
    have := ht.1
    simp only [SetTable.fits, Bool.and_eq_true, beq_iff_eq] at this
    exact this.1
  unfold setRoomFor
  refine wpAny_bind (wpAny_setState_of ho rfl ht.1 ?_)
  dsimp only
  unfold SetTable.roomFor
  by_cases hc : (t.fill + n) * 5 ≥ t.mask * 3
  · rw [if_pos hc]
    dsimp only
    refine relay_any ho he hp hnd hl ht (by omega) (by omega) fun h' es' t' hb ho' he' hp' ht' hd hm => h h' es' _ t' hb ho' he' hp' ht' fun _ => ?_
    have := (sizeAbove_good ((t.place.size + n) * 2) (by omega)).2.1
    rw [hm]; omega
  · rw [if_neg hc]
    exact wpAny_pure (h s.heap es ep t (Heap.SameBut.refl _ _) ho he hp ht fun q => by rw [q] at hc; omega)

theorem unchanged_any {id : String} {Q : Unit → Shared → Prop} (ho : s.heap.get? a = some (setO es ep t)) (hf : t.fits es.size = true) (h : Q () s) : wpAny (model prog w) A (Builtin.Frozenset.unchanged id a ep) Q E s := by
  unfold Builtin.Frozenset.unchanged
  refine wpAny_bind (wpAny_setEpoch_of ho rfl hf ?_)
  simp only [bne_self_eq_false, Bool.false_eq_true, ↓reduceIte]
  exact wpAny_pure h

theorem merge_any {id : String} {Q : Unit → Shared → Prop} (hne : a ≠ b) (hS : IsSet w s.heap a ss₁) (hO : IsSet w s.heap b ss₂) (hl : ss₁.length + ss₂.length ≤ 60)
    (h : ∀ h' d ss', Heap.SameBut a s.heap h' → IsSet w h' a ss' → (∀ x, x ∈ ss' ↔ x ∈ ss₁ ∨ x ∈ ss₂) → Q () { s with heap := h', drawn := d }) :
    wpAny (model prog w) A (Builtin.Frozenset.merge id a b) Q E s := by
  have hO' := hO
  obtain ⟨oo, hoo, eo, epo, to, rfl, heo, hpo, hndo, hlo, hto⟩ := hO'
  have hszo := len_keys hpo
  have hto' := hto
  obtain ⟨to1, to2, to3, to4⟩ := hto'
  unfold Builtin.Frozenset.merge
  refine wpAny_bind (wpAny_setEpoch_of hoo rfl to1 ?_)
  unfold setMerge
  rw [if_neg (by simpa using hne)]
  refine wpAny_bind (wpAny_setState_of hoo rfl to1 ?_)
  dsimp only
  by_cases hem : eo.isEmpty = true
  · rw [if_pos hem]
    refine wpAny_pure (h s.heap s.drawn ss₁ (Heap.SameBut.refl _ _) hS fun x => ?_)
    have : ss₂ = [] := List.eq_nil_of_length_eq_zero (by rw [← hszo]; simpa using hem)
    rw [this]; simp
  rw [if_neg hem]
  have hpos : eo.size ≠ 0 := by simpa using hem
  refine wpAny_bind (room_any (n := eo.size) hS (by omega) fun h1 es1 ep1 t1 hb1 ho1 he1 hp1 ht1 hmask => ?_)
  have hoo1 : h1.get? b = some (setO eo epo to) := (hb1.2 b (Ne.symm hne)).trans hoo
  have hsz1 := len_keys hp1
  refine wpAny_bind (wpAny_setState_of ho1 rfl ht1.1 ?_)
  dsimp only
  have hnd1 : ss₁.Nodup := let ⟨_, _, _, _, _, _, _, _, q, _⟩ := hS; q
  have empty1 : t1.fill = 0 → ss₁ = [] := fun q => by
    have := ht1.1
    simp only [SetTable.fits, Bool.and_eq_true, beq_iff_eq] at this
    unfold SetTable.fill at q
    exact List.eq_nil_of_length_eq_zero (by omega)
  have mem2 : t1.fill = 0 → ∀ x, x ∈ ss₂ ↔ x ∈ ss₁ ∨ x ∈ ss₂ := fun q x => by rw [empty1 q]; simp
  split
  · rename_i hr
    have hf0 : t1.fill = 0 := by
      unfold SetTable.road at hr
      split at hr
      · cases hr
      · rename_i q; simpa using q
    refine storeSet_any ho1 (by omega) fun h2 hb2 ho2 => ?_
    refine h h2 s.drawn ss₂ (hb1.trans hb2) ⟨_, ho2, _, _, _, rfl, heo, hpo, hndo, hlo, by cases to; exact to1, fun q => ?_, fun q => ?_, fun q => absurd (show to.fill = 0 from q) (fill_pos to1 hpos)⟩ (mem2 hf0)
    · show (t1.led && to.led) = true
      rw [to2 q, ht1.2.1 q]; rfl
    · show (t1.plain && to.plain) = false
      rw [to3 hpos, Bool.and_false]
  · rename_i hr
    have hf0 : t1.fill = 0 := by
      unfold SetTable.road at hr
      split at hr
      · cases hr
      · rename_i q; simpa using q
    have gm := ht1.2.2.2 hf0
    obtain ⟨t', order, e, hpo', m1, m2, m3, m4, m5, m6⟩ := laid_ok (mask := t1.mask) (finger := t1.finger) (moves := t1.moves) (led := t1.led && to.led) (plain := t1.plain && to.plain) (hashes := eo.map (·.1)) gm (by rw [Array.size_map]; have := hmask hf0; omega)
    rw [Array.size_map] at hpo' m3
    have hpe := filterMap_order (es := eo) hpo'
    have hse : (order.filterMap (eo[·]?)).size = eo.size := by rw [← Array.length_toList, hpe.length_eq, Array.length_toList]
    refine wpAny_bind ?_
    rw [e]
    show wpAny _ _ (if ((order.filterMap (eo[·]?)).size != eo.size) = true then _ else pure (order.filterMap (eo[·]?), t')) _ _ _
    rw [if_neg (by rw [hse]; simp)]
    refine wpAny_pure ?_
    dsimp only
    refine storeSet_any ho1 (by rw [hse]; omega) fun h2 hb2 ho2 => ?_
    have hfit : t'.fits (order.filterMap (eo[·]?)).size = true := by
      simp only [SetTable.fits, SetTable.fill, m2, m3, m1, hse, Bool.and_eq_true, beq_iff_eq, decide_eq_true_eq]
      exact ⟨trivial, by rw [Array.size_empty, Nat.add_zero]; exact hmask hf0⟩
    refine h h2 s.drawn ss₂ (hb1.trans hb2) ⟨_, ho2, _, _, _, rfl, heo.perm hpe, (keysS_perm hpe).trans hpo, hndo, hlo, hfit, fun q => ?_, fun _ => ?_, fun _ => by rw [m1]; exact gm⟩ (mem2 hf0)
    · rw [m4, to2 q, ht1.2.1 q]; rfl
    · rw [m5, to3 hpos, Bool.and_false]
  · refine wpAny_bind (walkUnseen_any (s := { s with heap := h1 }) (a := b) hoo1 heo hpo hndo hlo hto (fun c hc => ?_) (fun c hc => ?_) fun es' h2 d2 hpe hk2 hz2 hf2 => ?_)
    · rw [List.mem_singleton.mp hc]; exact ⟨ss₁, _, ho1, es1, ep1, t1, rfl, he1, hp1, hnd1, by omega, ht1⟩
    · cases hc; exact ⟨hne, ss₁, _, ho1, es1, ep1, t1, rfl, he1, hp1, hnd1, by omega, ht1⟩
    have hS2 : IsSet w h2 a ss₁ := hf2 a rfl ss₁ ⟨_, ho1, es1, ep1, t1, rfl, he1, hp1, hnd1, by omega, ht1⟩
    have hb2 : Heap.SameBut a s.heap h2 := hb1.trans ⟨hz2, fun c hc => hk2 c fun q => hc (Option.some.inj q).symm⟩
    have he' : Ents w es'.toList := heo.perm hpe
    have hkey : ∀ x, x ∈ keysS es'.toList ↔ x ∈ ss₂ := fun x => ((keysS_perm hpe).trans hpo).mem_iff
    refine wpAny_bind (wp_forA (fun l s' => ∃ h' acc, s' = { s with heap := h', drawn := d2 } ∧ Heap.SameBut a s.heap h' ∧ IsSet w h' a acc ∧ acc.length + l.length ≤ 60 ∧ (∀ x, (x ∈ acc ∨ x ∈ keysS l) ↔ (x ∈ ss₁ ∨ x ∈ ss₂)) ∧ Ents w l)
      ?_ es' _ ⟨h2, ss₁, rfl, hb2, hS2, ?_, fun x => by rw [hkey], he'⟩ ?_)
    · rintro ⟨hx, v⟩ r s' ⟨h', acc, rfl, hb', hA, hlen, hmem, hent⟩
      obtain ⟨x, tk, ex⟩ := hent _ (.head _)
      cases ex
      rw [List.length_cons] at hlen
      dsimp only
      refine wpAny_bind (wpAny_holding (add_IsSet (s := { s with heap := h', drawn := d2 }) hA (by omega) fun h3 hb3 hS3 => ?_))
      have hoo3 : h3.get? b = some (setO eo epo to) := ((hb'.trans hb3).2 b (Ne.symm hne)).trans hoo
      refine wpAny_bind (unchanged_any (s := { s with heap := h3, drawn := d2 }) hoo3 to1 ?_)
      refine wpAny_bind (wpAny_setState_of (s := { s with heap := h3, drawn := d2 }) hoo3 rfl to1 ?_)
      simp only [bne_self_eq_false, Bool.false_eq_true, ↓reduceIte]
      refine wpAny_pure ⟨rfl, h3, _, rfl, hb'.trans hb3, hS3, ?_, fun y => ?_, fun e hee => hent e (.tail _ hee)⟩
      · split
        · omega
        · rw [List.length_cons]; omega
      · rw [← hmem y]
        have ek : keysS ((hashStr w x, Value.str x tk) :: r) = x :: keysS r := rfl
        rw [ek]
        split
        · rename_i hx
          simp only [List.mem_cons]
          constructor
          · rintro (q | q)
            · exact .inl q
            · exact .inr (.inr q)
          · rintro (q | rfl | q)
            · exact .inl q
            · exact .inl hx
            · exact .inr q
        · simp only [List.mem_cons]
          constructor
          · rintro ((rfl | q) | q)
            · exact .inr (.inl rfl)
            · exact .inl q
            · exact .inr (.inr q)
          · rintro (q | rfl | q)
            · exact .inl (.inr q)
            · exact .inl (.inl rfl)
            · exact .inr q
    · have e1 : es'.toList.length = eo.size := by rw [hpe.length_eq, Array.length_toList]
      omega
    · rintro s' ⟨h', acc, rfl, hb', hA, _, hmem, _⟩
      refine wpAny_pure (h h' d2 acc hb' hA fun x => ?_)
      rw [← hmem x]; simp [keysS]
end
end Mine

namespace Mine

section
variable {prog : Program} {w : World} {A : Around} {E : Value → Shared → Prop} {s : Shared} {a b f : Addr} {es : Array (Int × Value)} {ep : Nat} {t : SetTable} {ss ss₁ ss₂ : List Str}

theorem IsSet.typeIs (S : IsSet w s.heap a ss) : s.TypeIs (.ref a) "set" := by
  obtain ⟨o, ho, es, ep, t, rfl, _⟩ := S
  exact ⟨_, ho, rfl⟩
theorem anySet_any {Q : Bool → Shared → Prop} (S : IsSet w s.heap a ss) (h : Q true s) : wpAny (model prog w) A (Builtin.Frozenset.isAnySet (.ref a)) Q E s := by
  unfold Builtin.Frozenset.isAnySet
  refine wpAny_bind (wpAny_isInstance (T := "set") (b := true) S.typeIs sub_set_self ?_)
  exact wpAny_pure h
theorem base_any {Q : Value → Shared → Prop} (S : IsSet w s.heap a ss) (h : Q (.type "set") s) : wpAny (model prog w) A (Builtin.Frozenset.baseOf a) Q E s := by
  unfold Builtin.Frozenset.baseOf
  refine wpAny_bind (wpAny_isInstance (T := "set") (b := true) S.typeIs sub_set_self ?_)
  exact wpAny_pure h
theorem size_any {Q : Nat → Shared → Prop} (S : IsSet w s.heap a ss) (h : Q ss.length s) : wpAny (model prog w) A (Builtin.Frozenset.sizeOf a) Q E s := by
  obtain ⟨o, ho, es, ep, t, rfl, he, hp, hnd, hl, ht⟩ := S
  unfold Builtin.Frozenset.sizeOf
  refine wpAny_bind (wpAny_setEntries_of ho rfl ht.1 (wpAny_pure ?_))
  rw [len_keys hp]; exact h
theorem epoch_any {Q : Nat → Shared → Prop} (ho : s.heap.get? a = some (setO es ep t)) (ht : TabOk w es t) (h : Q ep s) : wpAny (model prog w) A (setEpoch a) Q E s := wpAny_setEpoch_of ho rfl ht.1 h
theorem isSet_len (S : IsSet w s.heap a ss) : ss.length ≤ 60 := let ⟨_, _, _, _, _, _, _, _, _, q, _⟩ := S; q
theorem isSet_nodup (S : IsSet w s.heap a ss) : ss.Nodup := let ⟨_, _, _, _, _, _, _, _, q, _⟩ := S; q
theorem IsSet.mono {h h' : Heap} (S : IsSet w h a ss) (k : ∀ c o, h.get? c = some o → h'.get? c = some o) : IsSet w h' a ss := S.at fun o e => k a o e
theorem isSet_lt {h : Heap} (S : IsSet w h a ss) : a < h.objs.size := let ⟨_, e, _⟩ := S; Heap.lt_size e

/-- one set's strs that another has, in a new set -/
theorem intersection_any {nm : String} {Q : Value → Shared → Prop} (hne : a ≠ b) (hS : IsSet w s.heap a ss₁) (hO : IsSet w s.heap b ss₂)
    (h : ∀ h' d ss', (∀ c o, s.heap.get? c = some o → h'.get? c = some o) → IsSet w h' s.heap.objs.size ss' → (∀ x, x ∈ ss' ↔ x ∈ ss₁ ∧ x ∈ ss₂) → Q (.ref s.heap.objs.size) { s with heap := h', drawn := d }) :
    wpAny (model prog w) A (Builtin.Frozenset.intersection nm a (.ref b)) Q E s := by
  unfold Builtin.Frozenset.intersection
  rw [if_neg (by simpa using Ne.symm hne)]
  refine wpAny_bind (base_any hS ?_)
  refine wpAny_bind (newSet_any fun h1 hk1 hS1 => ?_)
  refine wpAny_bind (wpAny_pure ?_)
  refine wpAny_bind (wpAny_holding ?_)
  have hSa := hS.mono hk1
  have hSb := hO.mono hk1
  refine wpAny_bind (anySet_any (s := { s with heap := h1 }) hSb ?_)
  simp only [↓reduceIte]
  refine wpAny_bind (wpAny_pure ?_)
  refine wpAny_bind (size_any (s := { s with heap := h1 }) hSb ?_)
  refine wpAny_bind (size_any (s := { s with heap := h1 }) hSa ?_)
  have hra : s.heap.objs.size ≠ a := Nat.ne_of_gt (isSet_lt hS)
  have hrb : s.heap.objs.size ≠ b := Nat.ne_of_gt (isSet_lt hO)
  -- walked and asked
  have core : ∀ (p q : Addr) (sp sq : List Str), s.heap.objs.size ≠ p → s.heap.objs.size ≠ q → IsSet w h1 p sp → IsSet w h1 q sq → p ≠ q → (∀ x, (x ∈ sp ∧ x ∈ sq) ↔ (x ∈ ss₁ ∧ x ∈ ss₂)) →
      wpAny (model prog w) A (do
        let was ← setEpoch q
        for (h, x) in ← setWalkUnseen q [p, s.heap.objs.size] (some s.heap.objs.size) do
          holding [x] do
            if (← setFind p x h).isSome then
              let _ ← setAddHashed s.heap.objs.size x h
          Builtin.Frozenset.unchanged nm q was) (fun _ s' => wpAny (model prog w) A (pure (Value.ref s.heap.objs.size)) Q E s') E { s with heap := h1 } := by
    intro p q sp sq hrp hrq hp hq hpq hmem
    obtain ⟨oq, hoq, eq, epq, tq, rfl, heq, hpq', hndq, hlq, htq⟩ := id hq
    refine wpAny_bind (epoch_any (s := { s with heap := h1 }) hoq htq ?_)
    refine wpAny_bind (walkUnseen_any (s := { s with heap := h1 }) hoq heq hpq' hndq hlq htq (fun c hc => ?_) (fun c hc => ?_) fun es' h2 d2 hpe hk2 hz2 hf2 => ?_)
    · rcases List.mem_cons.mp hc with rfl | hc
      · exact ⟨_, hp⟩
      · rw [List.mem_singleton.mp hc]; exact ⟨_, hS1⟩
    · cases hc; exact ⟨hrq, _, hS1⟩
    have hS2 : IsSet w h2 s.heap.objs.size [] := hf2 _ rfl [] hS1
    have k2 : ∀ c, c ≠ s.heap.objs.size → h2.get? c = h1.get? c := fun c hc => hk2 c fun q => hc (Option.some.inj q).symm
    have he' : Ents w es'.toList := heq.perm hpe
    have hkey : ∀ x, x ∈ keysS es'.toList ↔ x ∈ sq := fun x => ((keysS_perm hpe).trans hpq').mem_iff
    have hlen' : es'.toList.length = sq.length := by rw [hpe.length_eq, Array.length_toList, len_keys hpq']
    refine wpAny_bind (wp_forA (fun l s' => ∃ h' acc, s' = { s with heap := h', drawn := d2 } ∧ (∀ c, c ≠ s.heap.objs.size → h'.get? c = h1.get? c) ∧ IsSet w h' s.heap.objs.size acc ∧ acc.length + l.length ≤ 60 ∧ (∀ x, (x ∈ acc ∨ (x ∈ keysS l ∧ x ∈ sp)) ↔ (x ∈ sp ∧ x ∈ sq)) ∧ Ents w l)
      ?_ es' _ ⟨h2, [], rfl, k2, hS2, by simp only [List.length_nil]; omega, fun x => by rw [hkey]; simp [and_comm], he'⟩ ?_)
    · rintro ⟨hx, v⟩ r s' ⟨h', acc, rfl, hk', hA, hlen, hm, hent⟩
      obtain ⟨x, tk, ex⟩ := hent _ (.head _)
      cases ex
      rw [List.length_cons] at hlen
      have hoq' : h'.get? q = some (setO eq epq tq) := (hk' q (Ne.symm hrq)).trans hoq
      have ek : keysS ((hashStr w x, Value.str x tk) :: r) = x :: keysS r := rfl
      obtain ⟨op, hop, eqp, epp, tp, rfl, hep, hpp, hndp, hlp, htp⟩ := id hp
      have hop' : h'.get? p = some (setO eqp epp tp) := (hk' p (Ne.symm hrp)).trans hop
      dsimp only
      refine wpAny_bind (wpAny_holding ?_)
      refine wpAny_bind (setFind_any (s := { s with heap := h', drawn := d2 }) hop' hep (by rw [len_keys hpp]; omega) htp.1 ?_)
      cases hi : idxOf eqp.toList x with
      | none =>
        have hx : x ∉ sp := fun q => idxOf_none hep hi (hpp.mem_iff.mpr q)
        simp only [Option.isSome_none, Bool.false_eq_true, ↓reduceIte]
        refine wpAny_pure ?_
        refine wpAny_bind (unchanged_any (s := { s with heap := h', drawn := d2 }) hoq' htq.1 ?_)
        refine wpAny_pure ⟨rfl, h', acc, rfl, hk', hA, by omega, fun y => ?_, fun e hee => hent e (.tail _ hee)⟩
        rw [← hm y, ek, List.mem_cons]
        constructor
        · rintro (q | ⟨q, q'⟩)
          · exact .inl q
          · exact .inr ⟨.inr q, q'⟩
        · rintro (q | ⟨rfl | q, q'⟩)
          · exact .inl q
          · exact absurd q' hx
          · exact .inr ⟨q, q'⟩
      | some j =>
        obtain ⟨u, hu⟩ := idxOf_some hep hi
        have hx : x ∈ sp := hpp.mem_iff.mp (List.mem_map.mpr ⟨_, List.mem_of_getElem? hu, rfl⟩)
        simp only [Option.isSome_some, ↓reduceIte]
        refine wpAny_bind (add_IsSet (s := { s with heap := h', drawn := d2 }) hA (by omega) fun h3 hb3 hS3 => ?_)
        refine wpAny_pure ?_
        have hoq3 : h3.get? q = some (setO eq epq tq) := (hb3.2 q (Ne.symm hrq)).trans hoq'
        refine wpAny_bind (unchanged_any (s := { s with heap := h3, drawn := d2 }) hoq3 htq.1 ?_)
        refine wpAny_pure ⟨rfl, h3, _, rfl, fun c hc => (hb3.2 c hc).trans (hk' c hc), hS3, ?_, fun y => ?_, fun e hee => hent e (.tail _ hee)⟩
        · split
          · omega
          · rw [List.length_cons]; omega
        · rw [← hm y, ek, List.mem_cons]
          split
          · rename_i hxa
            constructor
            · rintro (q | ⟨q, q'⟩)
              · exact .inl q
              · exact .inr ⟨.inr q, q'⟩
            · rintro (q | ⟨rfl | q, q'⟩)
              · exact .inl q
              · exact .inl hxa
              · exact .inr ⟨q, q'⟩
          · rw [List.mem_cons]
            constructor
            · rintro ((rfl | q) | ⟨q, q'⟩)
              · exact .inr ⟨.inl rfl, hx⟩
              · exact .inl q
              · exact .inr ⟨.inr q, q'⟩
            · rintro (q | ⟨rfl | q, q'⟩)
              · exact .inl (.inr q)
              · exact .inl (.inl rfl)
              · exact .inr ⟨q, q'⟩
    · rintro s' ⟨h', acc, rfl, hk', hA, _, hm, _⟩
      refine wpAny_pure ?_
      refine wpAny_pure (h h' d2 acc (fun c o e => ?_) hA fun x => ?_)
      · rw [hk' c (Nat.ne_of_lt (Heap.lt_size e))]; exact hk1 c o e
      · rw [← hmem x, ← hm x]; simp [keysS]
  split
  · exact core b a ss₂ ss₁ hrb hra hSb hSa (Ne.symm hne) fun x => and_comm
  · exact core a b ss₁ ss₂ hra hrb hSa hSb hne fun x => Iff.rfl

theorem setDeaths_any {Q : Bool → Shared → Prop} (ho : s.heap.get? a = some (setO es ep t)) (ht : TabOk w es t) (h : ∀ r, Q r s) : wpAny (model prog w) A (setDeathsKnown a) Q E s := by
  unfold setDeathsKnown
  refine wpAny_bind (wpAny_setState_of ho rfl ht.1 ?_)
  exact wpAny_bind (byText_any (wpAny_pure (h _)))

theorem takeOver_any {r : Addr} {Q : Unit → Shared → Prop} (hne : a ≠ r) (hS : IsSet w s.heap a ss₁) (hR : IsSet w s.heap r ss₂)
    (h : ∀ h' d, Heap.SameBut a s.heap h' → IsSet w h' a ss₂ → Q () { s with heap := h', drawn := d }) : wpAny (model prog w) A (Builtin.Frozenset.takeOver a r) Q E s := by
  obtain ⟨o, ho, es, ep, t, rfl, he, hp, hnd, hl, ht⟩ := id hS
  obtain ⟨o2, hr, er, epr, tr, rfl, her, hpr, hndr, hlr, htr⟩ := id hR
  unfold Builtin.Frozenset.takeOver
  refine wpAny_bind ?_
  unfold setSwap
  refine wpAny_bind (setDeaths_any ho ht fun r' => ?_)
  cases r' with
  | true =>
    simp only [↓reduceIte]
    refine wpAny_bind (wpAny_bind (setWalk_any ho ht fun es' d _ => wpAny_pure (wpAny_bind (wpAny_pure ?_))))
    refine wpAny_bind (wpAny_setState_of (s := { s with drawn := d }) hr rfl htr.1 ?_)
    dsimp only
    refine wpAny_bind (wpAny_setState_of (s := { s with drawn := d }) ho rfl ht.1 ?_)
    dsimp only
    refine wpAny_bind (storeSet_any (s := { s with drawn := d }) ho (by rw [len_keys hpr]; omega) fun h' hb ho' => ?_)
    have z := h h' d hb ⟨_, ho', _, _, _, rfl, her, hpr, hndr, hlr, by cases tr; exact htr.1, fun q => by
      show (tr.led && (t.led || t.finger == 0)) = true
      rw [htr.2.1 q, ht.2.1 q]; rfl, fun q => by
      show (tr.plain && (t.plain || t.finger == 0)) = false
      rw [htr.2.2.1 q]; rfl, by cases tr; exact htr.2.2.2⟩
    refine wpAny_pure ?_
    exact wpAny_letGo z
  | false =>
    simp only [Bool.false_eq_true, ↓reduceIte]
    refine wpAny_bind (wpAny_pure ?_)
    refine wpAny_bind (wpAny_setState_of (s := { s with drawn := s.drawn }) hr rfl htr.1 ?_)
    dsimp only
    refine wpAny_bind (wpAny_setState_of (s := { s with drawn := s.drawn }) ho rfl ht.1 ?_)
    dsimp only
    refine wpAny_bind (storeSet_any (s := { s with drawn := s.drawn }) ho (by rw [len_keys hpr]; omega) fun h' hb ho' => ?_)
    have z := h h' s.drawn hb ⟨_, ho', _, _, _, rfl, her, hpr, hndr, hlr, by cases tr; exact htr.1, fun q => by
      show (tr.led && (t.led || t.finger == 0)) = true
      rw [htr.2.1 q, ht.2.1 q]; rfl, fun q => by
      show (tr.plain && (t.plain || t.finger == 0)) = false
      rw [htr.2.2.1 q]; rfl, by cases tr; exact htr.2.2.2⟩
    refine wpAny_pure ?_
    exact wpAny_point z

theorem difference_any {nm : String} {Q : Unit → Shared → Prop} (hne : a ≠ b) (hS : IsSet w s.heap a ss₁) (hO : IsSet w s.heap b ss₂)
    (h : ∀ h' d ss', (∀ c o, c ≠ a → s.heap.get? c = some o → h'.get? c = some o) → IsSet w h' a ss' → (∀ x, x ∈ ss' ↔ x ∈ ss₁ ∧ x ∉ ss₂) → Q () { s with heap := h', drawn := d }) :
    wpAny (model prog w) A (Builtin.Frozenset.differenceUpdate nm a (.ref b)) Q E s := by
  unfold Builtin.Frozenset.differenceUpdate
  rw [if_neg (by simpa using Ne.symm hne)]
  refine wpAny_bind (anySet_any hO ?_)
  simp only [↓reduceIte]
  have core : ∀ (q : Addr) (sq : List Str) (h1 : Heap) (d1 : Drawn), a ≠ q → (∀ c o, s.heap.get? c = some o → h1.get? c = some o) → IsSet w h1 q sq → (∀ x, (x ∈ ss₁ ∧ x ∉ sq) ↔ (x ∈ ss₁ ∧ x ∉ ss₂)) →
      wpAny (model prog w) A (do
          let was ← setEpoch q
          holding [Value.ref q] do
              let l ← setWalkUnseen q [a] none
              forIn l PUnit.unit fun x __s => do
                  let _ ← holding [x.snd] (setDiscardHashed a x.snd x.fst)
                  Builtin.Frozenset.unchanged nm q was
                  pure (ForInStep.yield PUnit.unit)
              pure ()
          setTidy a) Q E { s with heap := h1, drawn := d1 } := by
    intro q sq h1 d1 haq hk1 hq hmem
    have hSa := hS.mono hk1
    obtain ⟨oq, hoq, eq, epq, tq, rfl, heq, hpq', hndq, hlq, htq⟩ := id hq
    refine wpAny_bind (epoch_any (s := { s with heap := h1, drawn := d1 }) hoq htq ?_)
    refine wpAny_bind (wpAny_holding ?_)
    refine wpAny_bind (walkUnseen_any (s := { s with heap := h1, drawn := d1 }) hoq heq hpq' hndq hlq htq (fun c hc => ?_) (fun c hc => by cases hc) fun es' h2 d2 hpe hk2 hz2 _ => ?_)
    · rw [List.mem_singleton.mp hc]; exact ⟨_, hSa⟩
    have k2 : ∀ c, h2.get? c = h1.get? c := fun c => hk2 c (by simp)
    have he' : Ents w es'.toList := heq.perm hpe
    have hkey : ∀ x, x ∈ keysS es'.toList ↔ x ∈ sq := fun x => ((keysS_perm hpe).trans hpq').mem_iff
    refine wpAny_bind (wp_forA (fun l s' => ∃ h' acc, s' = { s with heap := h', drawn := d2 } ∧ (∀ c, c ≠ a → h'.get? c = h1.get? c) ∧ IsSet w h' a acc ∧ (∀ x, (x ∈ acc ∧ x ∉ keysS l) ↔ (x ∈ ss₁ ∧ x ∉ sq)) ∧ Ents w l)
      ?_ es' _ ⟨h2, ss₁, rfl, fun c _ => k2 c, hSa.at fun o e => (k2 a).trans e, fun x => by rw [hkey], he'⟩ ?_)
    · rintro ⟨hx, v⟩ r s' ⟨h', acc, rfl, hk', hA, hm, hent⟩
      obtain ⟨x, tk, ex⟩ := hent _ (.head _)
      cases ex
      have ek : keysS ((hashStr w x, Value.str x tk) :: r) = x :: keysS r := rfl
      dsimp only
      refine wpAny_bind (wpAny_holding (discard_set (s := { s with heap := h', drawn := d2 }) hA fun h3 hb3 hS3 => ?_))
      have hoq3 : h3.get? q = some (setO eq epq tq) := (hb3.2 q (Ne.symm haq)).trans ((hk' q (Ne.symm haq)).trans hoq)
      refine wpAny_bind (unchanged_any (s := { s with heap := h3, drawn := d2 }) hoq3 htq.1 ?_)
      refine wpAny_pure ⟨rfl, h3, _, rfl, fun c hc => (hb3.2 c hc).trans (hk' c hc), hS3, fun y => ?_, fun e hee => hent e (.tail _ hee)⟩
      rw [← hm y, ek, List.mem_cons, (isSet_nodup (s := { s with heap := h' }) hA).mem_erase_iff]
      constructor
      · rintro ⟨⟨q1, q2⟩, q3⟩
        exact ⟨q2, fun z => z.elim q1 q3⟩
      · rintro ⟨q2, q3⟩
        exact ⟨⟨fun z => q3 (.inl z), q2⟩, fun z => q3 (.inr z)⟩
    · rintro s' ⟨h', acc, rfl, hk', hA, hm, _⟩
      refine wpAny_pure ?_
      refine tidy_IsSet (s := { s with heap := h', drawn := d2 }) hA fun h3 hb3 hS3 => ?_
      refine h h3 d2 acc (fun c o hc e => (hb3.2 c hc).trans ((hk' c hc).trans (hk1 c o e))) hS3 fun x => ?_
      rw [← hmem x, ← hm x]; simp [keysS]
  refine wpAny_bind (wpAny_pure ?_)
  refine wpAny_bind (size_any hO ?_)
  refine wpAny_bind (size_any hS ?_)
  split
  · refine wpAny_bind (wpAny_rule ?_)
    refine wpAny_bind (intersection_any hne hS hO fun h1 d1 ss' hk1 hS1 hm1 => ?_)
    refine wpAny_bind (wpAny_pure ?_)
    exact core _ ss' h1 d1 (Nat.ne_of_lt (isSet_lt hS)) hk1 hS1 fun x => by
      rw [hm1 x]
      exact ⟨fun ⟨p, q⟩ => ⟨p, fun z => q ⟨p, z⟩⟩, fun ⟨p, q⟩ => ⟨p, fun z => q z.2⟩⟩
  · exact core b ss₂ s.heap s.drawn hne (fun _ _ e => e) hO fun x => Iff.rfl

theorem symdiff_any {nm : String} {Q : Unit → Shared → Prop} (hne : a ≠ b) (hS : IsSet w s.heap a ss₁) (hO : IsSet w s.heap b ss₂) (hl : ss₁.length + ss₂.length ≤ 60)
    (h : ∀ h' d ss', (∀ c o, c ≠ a → s.heap.get? c = some o → h'.get? c = some o) → IsSet w h' a ss' → (∀ x, x ∈ ss' ↔ ((x ∈ ss₁ ∧ x ∉ ss₂) ∨ (x ∉ ss₁ ∧ x ∈ ss₂))) → Q () { s with heap := h', drawn := d }) :
    wpAny (model prog w) A (Builtin.Frozenset.symmetricDifferenceUpdate nm a (.ref b)) Q E s := by
  unfold Builtin.Frozenset.symmetricDifferenceUpdate
  rw [if_neg (by simpa using Ne.symm hne)]
  refine wpAny_bind (wpAny_typeOf hO.typeIs ?_)
  rw [if_neg (by decide)]
  refine wpAny_bind (anySet_any hO ?_)
  simp only [↓reduceIte]
  refine wpAny_bind (wpAny_pure ?_)
  refine wpAny_bind (wpAny_pure ?_)
  obtain ⟨oq, hoq, eq, epq, tq, rfl, heq, hpq', hndq, hlq, htq⟩ := id hO
  refine wpAny_bind (epoch_any hoq htq ?_)
  refine wpAny_holding ?_
  refine wpAny_bind (walkUnseen_any hoq heq hpq' hndq hlq htq (fun c hc => ?_) (fun c hc => ?_) fun es' h2 d2 hpe hk2 hz2 hf2 => ?_)
  · rw [List.mem_singleton.mp hc]; exact ⟨_, hS⟩
  · cases hc; exact ⟨hne, _, hS⟩
  have hS2 : IsSet w h2 a ss₁ := hf2 _ rfl _ hS
  have k2 : ∀ c, c ≠ a → h2.get? c = s.heap.get? c := fun c hc => hk2 c fun q => hc (Option.some.inj q).symm
  have he' : Ents w es'.toList := heq.perm hpe
  have hkey : ∀ x, x ∈ keysS es'.toList ↔ x ∈ ss₂ := fun x => ((keysS_perm hpe).trans hpq').mem_iff
  have hlen' : es'.toList.length = ss₂.length := by rw [hpe.length_eq, Array.length_toList, len_keys hpq']
  have hnd' : (keysS es'.toList).Nodup := ((keysS_perm hpe).trans hpq').symm.nodup hndq
  refine wpAny_bind (wp_forA (fun l s' => ∃ h' acc, s' = { s with heap := h', drawn := d2 } ∧ (∀ c, c ≠ a → h'.get? c = s.heap.get? c) ∧ IsSet w h' a acc ∧ acc.length + l.length ≤ 60 ∧ (∀ x, ((x ∈ acc ∧ x ∉ keysS l) ∨ (x ∉ acc ∧ x ∈ keysS l)) ↔ ((x ∈ ss₁ ∧ x ∉ ss₂) ∨ (x ∉ ss₁ ∧ x ∈ ss₂))) ∧ Ents w l ∧ (keysS l).Nodup)
    ?_ es' _ ⟨h2, ss₁, rfl, k2, hS2, by omega, fun x => by rw [hkey], he', hnd'⟩ ?_)
  · rintro ⟨hx, v⟩ r s' ⟨h', acc, rfl, hk', hA, hlen, hm, hent, hnd⟩
    obtain ⟨x, tk, ex⟩ := hent _ (.head _)
    cases ex
    rw [List.length_cons] at hlen
    have ek : keysS ((hashStr w x, Value.str x tk) :: r) = x :: keysS r := rfl
    rw [ek, List.nodup_cons] at hnd
    have hnA := isSet_nodup (s := { s with heap := h' }) hA
    dsimp only
    refine wpAny_bind (wpAny_holding ?_)
    refine wpAny_bind (discard_set (s := { s with heap := h', drawn := d2 }) hA fun h3 hb3 hS3 => ?_)
    have hoq3 : h3.get? b = some (setO eq epq tq) := (hb3.2 b (Ne.symm hne)).trans ((hk' b (Ne.symm hne)).trans hoq)
    by_cases hxa : x ∈ acc
    · rw [decide_eq_true hxa]
      simp only [Bool.not_true, Bool.false_eq_true, ↓reduceIte]
      refine wpAny_pure ?_
      refine wpAny_bind (unchanged_any (s := { s with heap := h3, drawn := d2 }) hoq3 htq.1 ?_)
      refine wpAny_pure ⟨rfl, h3, _, rfl, fun c hc => (hb3.2 c hc).trans (hk' c hc), hS3, ?_, fun y => ?_, fun e hee => hent e (.tail _ hee), hnd.2⟩
      · have := List.length_erase_le (a := x) (l := acc); omega
      · rw [← hm y, ek, List.mem_cons, hnA.mem_erase_iff]
        by_cases hy : y = x
        · subst hy; simp [hxa, hnd.1]
        · simp [hy]
    · rw [decide_eq_false hxa]
      simp only [Bool.not_false, ↓reduceIte]
      have hA3 : IsSet w h3 a acc := by rw [List.erase_of_not_mem hxa] at hS3; exact hS3
      refine wpAny_bind (add_IsSet (s := { s with heap := h3, drawn := d2 }) hA3 (by omega) fun h4 hb4 hS4 => ?_)
      rw [if_neg hxa] at hS4
      refine wpAny_pure ?_
      have hoq4 : h4.get? b = some (setO eq epq tq) := (hb4.2 b (Ne.symm hne)).trans hoq3
      refine wpAny_bind (unchanged_any (s := { s with heap := h4, drawn := d2 }) hoq4 htq.1 ?_)
      refine wpAny_pure ⟨rfl, h4, _, rfl, fun c hc => (hb4.2 c hc).trans ((hb3.2 c hc).trans (hk' c hc)), hS4, by rw [List.length_cons]; omega, fun y => ?_, fun e hee => hent e (.tail _ hee), hnd.2⟩
      rw [← hm y, ek, List.mem_cons, List.mem_cons]
      by_cases hy : y = x
      · subst hy; simp [hxa, hnd.1]
      · simp [hy]
  · rintro s' ⟨h', acc, rfl, hk', hA, _, hm, _, _⟩
    refine wpAny_pure (h h' d2 acc (fun c o hc e => (hk' c hc).trans e) hA fun x => ?_)
    rw [← hm x]; simp [keysS]
end
end Mine

namespace Mine

section
variable {prog : Program} {w : World} {A : Around} {E : Value → Shared → Prop} {s : Shared} {a b f : Addr} {es : Array (Int × Value)} {ep : Nat} {t : SetTable} {ss ss₁ ss₂ : List Str}

theorem slot1_any {name : String} {x y : Value} {Q : Value × Value → Shared → Prop} (h : Q (x, y) s) : wpAny (model prog w) A (Builtin.Frozenset.slot1 name ⟨[x, y], []⟩) Q E s := by
  unfold Builtin.Frozenset.slot1 slotArgs
  simp only [List.isEmpty_nil, Bool.not_true, Bool.false_eq_true, ↓reduceIte, List.length_cons, List.length_nil, bne_self_eq_false]
  exact wpAny_bind (wpAny_pure (wpAny_pure h))

theorem inplace_set {op : Operator} {id : String} {B : Builtin} {Q : Value → Shared → Prop} (slot : Slot "set" (dunderI op.info.2) id) (entry : entryFor table id = some B) (args : ∀ x y, argsOk id ⟨[x, y], []⟩)
    (hseq : isSeqSlot (some (.builtin id)) = false) (hS : IsSet w s.heap a ss)
    (body : ∀ A' : Around, wpAny (model prog w) A' (B ⟨[.ref a, .ref b], []⟩) (fun fin s' => fin = .done (.ret (.ref a)) ∧ Q (.ref a) s') E s) :
    wpAny (model prog w) A (inplaceOp op (.ref a) (.ref b)) Q E s := by
  unfold inplaceOp
  refine wpAny_holding ?_
  dsimp only
  refine wpAny_bind (wpAny_typeOf hS.typeIs ?_)
  refine wpAny_bind ?_
  unfold fillsInplaceSlot
  dsimp only
  rw [slot.lookup]
  refine wpAny_bind (wpAny_pure ?_)
  rw [hseq]
  refine wpAny_pure ?_
  simp only [Option.isSome_some, Bool.not_false, Bool.and_self, ↓reduceIte]
  refine wpAny_bind ?_
  unfold tryMethod
  refine wpAny_bind (wpAny_callSpecial?_slot hS.typeIs slot (wpAny_call_entry slot hS.typeIs entry ?_ (args _ _)))
  refine wpAny_mono (body _) (fun fin s' h => ?_) fun _ _ z => z
  obtain ⟨rfl, h⟩ := h
  refine ⟨_, rfl, wpAny_pure ?_⟩
  exact wpAny_bind (wpAny_rule (wpAny_pure h))

theorem ior_any {Q : Value → Shared → Prop} (hne : a ≠ b) (hS : IsSet w s.heap a ss₁) (hO : IsSet w s.heap b ss₂) (hl : ss₁.length + ss₂.length ≤ 60)
    (h : ∀ h' d ss', (∀ c o, c ≠ a → s.heap.get? c = some o → h'.get? c = some o) → IsSet w h' a ss' → (∀ x, x ∈ ss' ↔ x ∈ ss₁ ∨ x ∈ ss₂) → Q (.ref a) { s with heap := h', drawn := d }) :
    wpAny (model prog w) A (inplaceOp .BitOr (.ref a) (.ref b)) Q E s := by
  refine inplace_set F.slot_set_ior F.entry_set_ior F.args_set_ior_2 (by decide +kernel) hS fun A' => ?_
  show wpAny _ _ (Builtin.Frozenset.slot1 "__ior__" ⟨[.ref a, .ref b], []⟩ >>= _) _ _ _
  refine wpAny_bind (slot1_any ?_)
  dsimp only
  refine wpAny_bind (anySet_any hO ?_)
  simp only [Bool.not_true, Bool.false_eq_true, ↓reduceIte]
  refine wpAny_bind (wpAny_pure ?_)
  refine wpAny_bind ?_
  unfold Builtin.Frozenset.updateFrom
  refine wpAny_bind (anySet_any hO ?_)
  simp only [↓reduceIte]
  refine wpAny_bind (wpAny_pure ?_)
  refine merge_any hne hS hO hl fun h' d ss' hb hS' hm => ?_
  exact (wpAny_pure ⟨rfl, h h' d ss' (fun c o hc e => (hb.2 c hc).trans e) hS' hm⟩)

theorem iand_any {Q : Value → Shared → Prop} (hne : a ≠ b) (hS : IsSet w s.heap a ss₁) (hO : IsSet w s.heap b ss₂)
    (h : ∀ h' d ss', (∀ c o, c ≠ a → s.heap.get? c = some o → h'.get? c = some o) → IsSet w h' a ss' → (∀ x, x ∈ ss' ↔ x ∈ ss₁ ∧ x ∈ ss₂) → Q (.ref a) { s with heap := h', drawn := d }) :
    wpAny (model prog w) A (inplaceOp .BitAnd (.ref a) (.ref b)) Q E s := by
  refine inplace_set F.slot_set_iand F.entry_set_iand F.args_set_iand_2 (by decide +kernel) hS fun A' => ?_
  show wpAny _ _ (Builtin.Frozenset.slot1 "__iand__" ⟨[.ref a, .ref b], []⟩ >>= _) _ _ _
  refine wpAny_bind (slot1_any ?_)
  dsimp only
  refine wpAny_bind (anySet_any hO ?_)
  simp only [Bool.not_true, Bool.false_eq_true, ↓reduceIte]
  refine wpAny_bind (wpAny_pure ?_)
  refine wpAny_bind ?_
  refine wpAny_bind (intersection_any hne hS hO fun h1 d1 ss' hk1 hS1 hm => ?_)
  refine wpAny_bind (wpAny_pure ?_)
  refine wpAny_holding ?_
  refine takeOver_any (s := { s with heap := h1, drawn := d1 }) (Nat.ne_of_lt (isSet_lt hS)) (hS.mono hk1) hS1 fun h2 d2 hb2 hS2 => ?_
  exact wpAny_pure ⟨rfl, h h2 d2 ss' (fun c o hc e => (hb2.2 c hc).trans (hk1 c o e)) hS2 hm⟩

theorem isub_any {Q : Value → Shared → Prop} (hne : a ≠ b) (hS : IsSet w s.heap a ss₁) (hO : IsSet w s.heap b ss₂)
    (h : ∀ h' d ss', (∀ c o, c ≠ a → s.heap.get? c = some o → h'.get? c = some o) → IsSet w h' a ss' → (∀ x, x ∈ ss' ↔ x ∈ ss₁ ∧ x ∉ ss₂) → Q (.ref a) { s with heap := h', drawn := d }) :
    wpAny (model prog w) A (inplaceOp .Sub (.ref a) (.ref b)) Q E s := by
  refine inplace_set F.slot_set_isub F.entry_set_isub F.args_set_isub_2 (by decide +kernel) hS fun A' => ?_
  show wpAny _ _ (Builtin.Frozenset.slot1 "__isub__" ⟨[.ref a, .ref b], []⟩ >>= _) _ _ _
  refine wpAny_bind (slot1_any ?_)
  dsimp only
  refine wpAny_bind (anySet_any hO ?_)
  simp only [Bool.not_true, Bool.false_eq_true, ↓reduceIte]
  refine wpAny_bind (wpAny_pure ?_)
  refine wpAny_bind (difference_any hne hS hO fun h' d ss' hk hS' hm => ?_)
  exact wpAny_pure ⟨rfl, h h' d ss' hk hS' hm⟩

theorem ixor_any {Q : Value → Shared → Prop} (hne : a ≠ b) (hS : IsSet w s.heap a ss₁) (hO : IsSet w s.heap b ss₂) (hl : ss₁.length + ss₂.length ≤ 60)
    (h : ∀ h' d ss', (∀ c o, c ≠ a → s.heap.get? c = some o → h'.get? c = some o) → IsSet w h' a ss' → (∀ x, x ∈ ss' ↔ ((x ∈ ss₁ ∧ x ∉ ss₂) ∨ (x ∉ ss₁ ∧ x ∈ ss₂))) → Q (.ref a) { s with heap := h', drawn := d }) :
    wpAny (model prog w) A (inplaceOp .BitXor (.ref a) (.ref b)) Q E s := by
  refine inplace_set F.slot_set_ixor F.entry_set_ixor F.args_set_ixor_2 (by decide +kernel) hS fun A' => ?_
  show wpAny _ _ (Builtin.Frozenset.slot1 "__ixor__" ⟨[.ref a, .ref b], []⟩ >>= _) _ _ _
  refine wpAny_bind (slot1_any ?_)
  dsimp only
  refine wpAny_bind (anySet_any hO ?_)
  simp only [Bool.not_true, Bool.false_eq_true, ↓reduceIte]
  refine wpAny_bind (wpAny_pure ?_)
  refine wpAny_bind (symdiff_any hne hS hO hl fun h' d ss' hk hS' hm => ?_)
  exact wpAny_pure ⟨rfl, h h' d ss' hk hS' hm⟩

/-- membership -/
theorem IsSet.setOf {h : Heap} (S : IsSet w h a ss) : h.SetOf (strKind prog w) a (fun x => decide (x ∈ ss)) ss.length := by
  obtain ⟨o, ho, es, ep, t, rfl, he, hp, hnd, hl, ht⟩ := S
  have hsz := len_keys hp
  refine ⟨_, es, ep, t, ho, ⟨rfl, rfl, rfl⟩, rfl, he.elems, fun x => ?_, by unfold scanBound; omega, ht.1, hsz⟩
  rw [decide_eq_true_eq, ← hp.mem_iff]
  constructor
  · intro hx
    obtain ⟨e, hee, rfl⟩ := List.mem_map.mp hx
    exact ⟨e, hee, by rw [show (strKind prog w).is (strOf e.2) e.2 = Value.isStrOf (strOf e.2) e.2 from rfl, isStrOf_ent he hee]; simp⟩
  · rintro ⟨e, hee, q⟩
    rw [show (strKind prog w).is x e.2 = Value.isStrOf x e.2 from rfl, isStrOf_ent he hee, beq_iff_eq] at q
    exact q ▸ List.mem_map_of_mem hee
theorem in_any {x : Str} {tk : Tok} {Q : Value → Shared → Prop} (S : IsSet w s.heap a ss) (h : Q (.bool (decide (x ∈ ss))) { s with toks := s.toks + 1 }) :
    wpAny (model prog w) A (compareOp .In (.str x tk) (.ref a)) Q E s := wpAny_inSet_of (knd := strKind prog w) (strKind_is prog w x tk) rfl S.setOf h
end
end Mine

namespace Mine

theorem strs_at : ∀ {vs : List Value} {ls : List Str}, StrsAre vs ls → ∀ (i : Nat) (v : Value), vs[i]? = some v → ∃ x t, v = .str x t ∧ ls[i]? = some x
  | _, _, .nil, i, v, h => by simp at h
  | _, _, .cons x t hr, 0, v, h => by simp at h; exact ⟨x, t, h.symm, rfl⟩
  | _, _, .cons x t hr, i + 1, v, h => by
    simp only [List.getElem?_cons_succ] at h ⊢
    exact strs_at hr i v h
theorem strs_len : ∀ {vs : List Value} {ls : List Str}, StrsAre vs ls → vs.length = ls.length
  | _, _, .nil => rfl
  | _, _, .cons _ _ hr => by rw [List.length_cons, List.length_cons, strs_len hr]

section
variable {prog : Program} {w : World} {A : Around} {E : Value → Shared → Prop} {R : Result → Shared → Prop} {s : Shared} {a b f : Addr} {ss ss₁ ss₂ : List Str}

theorem fill_loop {I l S : Addr} {items : Array Value} {ls : List Str} (W : Walks prog w A.in1 I [I, l] [I] items.size (fun i v => items[i]? = some v) (fun i h => h.IsListIter I l i ∧ h.IsList l items))
    (hSI : S ≠ I) (hSl : S ≠ l) (hi : StrsAre items.toList ls) (hb : items.size ≤ 60) :
    ∀ (k i : Nat) (h : Heap) (tk : Nat) (acc : List Str), items.size - i = k → i ≤ items.size → (h.IsListIter I l i ∧ h.IsList l items) → IsSet w h S acc → acc.length ≤ i → (∀ x, x ∈ acc ↔ x ∈ ls.take i) →
      (∀ h' tk' acc', (∀ c o, c ≠ S → c ≠ I → h.get? c = some o → h'.get? c = some o) → IsSet w h' S acc' → (∀ x, x ∈ acc' ↔ x ∈ ls) → R (.ok (.ret .none)) { s with heap := h', toks := tk' }) →
      codeAny (model prog w) A (.builtin "set.update.loop" ⟨[.ref S, .ref I], []⟩) R { s with heap := h, toks := tk } := by
  have hlen : items.size = ls.length := by rw [← strs_len hi, Array.length_toList]
  intro k
  induction k with
  | zero =>
    intro i h tk acc hk hle hst hS hl hm hR
    have hin : i = items.size := by omega
    subst hin
    refine codeAny_builtin F.entry_set_update_loop ?_
    rw [Around.under_plainId F.plain_set_update_loop _]
    show wpAny _ A.in1 (pyNext (.ref I) >>= _) _ _ _
    refine wpAny_bind (W.done _ _ _ hst fun h' tk' hk' => ?_)
    refine wpAny_pure (hR h' tk' acc (fun c o _ hc e => hk' c o (fun q => hc (List.mem_singleton.mp q)) e) (hS.at fun o e => hk' S o (fun q => hSI (List.mem_singleton.mp q)) e) fun x => ?_)
    rw [hm x, hlen, List.take_length]
  | succ k ih =>
    intro i h tk acc hk hle hst hS hl hm hR
    have hlt : i < items.size := by omega
    refine codeAny_builtin F.entry_set_update_loop ?_
    rw [Around.under_plainId F.plain_set_update_loop _]
    show wpAny _ A.in1 (pyNext (.ref I) >>= _) _ _ _
    refine wpAny_bind (W.item i _ _ _ hlt hst fun v h' tk' hP hst' hk' => ?_)
    obtain ⟨x, t, rfl, hx⟩ := strs_at hi i v (by rw [Array.getElem?_toList]; exact hP)
    have hS' : IsSet w h' S acc := hS.at fun o e => hk' S o (fun q => hSI (List.mem_singleton.mp q)) e
    show wpAny _ A.in1 (holding [Value.str x t] (setAdd S (.str x t)) >>= _) _ _ _
    refine wpAny_bind (wpAny_holding ?_)
    unfold setAdd
    refine wpAny_holding (wpAny_bind (wpAny_pyHash_str ?_))
    refine add_IsSet (s := { s with heap := h', toks := tk' + 1 }) hS' (by omega) fun h2 hb2 hS2 => ?_
    have off : ∀ c o, c ≠ S → c ≠ I → h.get? c = some o → h2.get? c = some o := fun c o h1 h3 e => (hb2.2 c h1).trans (hk' c o (fun q => h3 (List.mem_singleton.mp q)) e)
    refine wpAny_pure ⟨plainId_quiet F.plain_set_update_loop _, ih (i + 1) h2 (tk' + 1) _ (by omega) hlt (W.frame _ _ _ hst' fun c hc o e => ?_) hS2 ?_ (fun y => ?_) fun h3 tk3 acc3 hk3 hS3 hm3 => ?_⟩
    · refine (hb2.2 c fun q => ?_).trans e
      rcases List.mem_cons.mp hc with q' | q'
      · exact hSI (q.symm.trans q')
      · exact hSl (q.symm.trans (List.mem_singleton.mp q'))
    · split
      · omega
      · rw [List.length_cons]; omega
    · have ht : ls.take (i + 1) = ls.take i ++ [x] := by rw [List.take_add_one, hx]; rfl
      rw [ht, List.mem_append, List.mem_singleton, ← hm y]
      split
      · rename_i q
        exact ⟨.inl, fun z => z.elim (fun z => z) fun z => z ▸ q⟩
      · rw [List.mem_cons, Or.comm]
    · exact hR h3 tk3 acc3 (fun c o h1 h4 e => hk3 c o h1 h4 (off c o h1 h4 e)) hS3 hm3

theorem code_set_new (x : Value) {Q₁ : Value → Shared → Prop}
    (h : ∀ h', (∀ b o, s.heap.get? b = some o → h'.get? b = some o) → h'.objs.size = s.heap.objs.size + 1 → IsSet w h' s.heap.objs.size [] → (∃ led, h'.get? s.heap.objs.size = some (setO #[] 0 (.fresh 0 0 led))) → Q₁ (.ref s.heap.objs.size) { s with heap := h' }) :
    codeAny (model prog w) A (.call (.builtin "set.__new__") ⟨[.type "set", x], []⟩) (wants Q₁ E) s := by
  refine codeAny_of_tree ?_
  show wpAny _ A.in1 (do checkBuiltinCall "set.__new__" ⟨[.type "set", x], []⟩; again (.builtin "set.__new__" ⟨[.type "set", x], []⟩)) _ _ s
  refine wpAny_bind (wpAny_of_eq (F.newCall_set_1 x) (wpAny_pure ⟨plainId_quiet F.plain_set_new _, codeAny_builtin F.entry_set_new ?_⟩))
  rw [Around.under_plainId F.plain_set_new _]
  unfold Builtin.«set.__new__» Builtin.Frozenset.newClass
  have hsub := sub_set_self
  obtain ⟨hp, g, d, tk, os⟩ := s
  have hn : ∀ (A' : Around) (Q : Value → Shared → Prop), (∀ h', (∀ b o, hp.get? b = some o → h'.get? b = some o) → h'.objs.size = hp.objs.size + 1 → IsSet w h' hp.objs.size [] → (∃ led, h'.get? hp.objs.size = some (setO #[] 0 (.fresh 0 0 led))) → Q (.ref hp.objs.size) ⟨h', g, d, tk, os⟩) →
      wpAny (model prog w) A' (newSet (.type "set")) Q (fun e s' => wants Q₁ E (.error e) s') ⟨hp, g, d, tk, os⟩ := by
    intro A' Q hQ
    unfold newSet
    refine wpAny_bind (byText_any ?_)
    dsimp only
    simp only [newObj]
    refine wpAny_bind (wpAny_alloc (wpAny_pure ?_))
    exact hQ _ (fun b o e => Heap.get?_push_of_some _ e) (Heap.size_push ..) ⟨_, Heap.get?_push_size _ rfl, #[], 0, _, rfl, fun e he => by simp at he, .rfl, .nil, by simp, fresh_TabOk _ rfl⟩ ⟨_, Heap.get?_push_size _ rfl⟩
  dsimp only
  generalize hNS : newSet = NS at hn ⊢
  wp_walk
  exact hn _ _ fun h' hk hz hS ho => wpAny_pure (h h' hk hz hS ho)

set_option maxHeartbeats 3200000 in
theorem call_set_strs {l : Addr} {items : Array Value} {ls : List Str} {Q : Value → Shared → Prop} (hh : A.handled = none) (hl : s.heap.IsList l items) (hi : StrsAre items.toList ls) (hb : items.size ≤ 60)
    (h : ∀ h' tk ss, (∀ b o, s.heap.get? b = some o → h'.get? b = some o) → IsSet w h' s.heap.objs.size ss → (∀ x, x ∈ ss ↔ x ∈ ls) → Q (.ref s.heap.objs.size) { s with heap := h', toks := tk }) :
    wpAny (model prog w) A (call (.type "set") [.ref l]) Q E s := by
  obtain ⟨c, tl, hmro⟩ := F.called_set.mro
  have hmade := F.called_set.made
  have hsub := F.called_set.sub
  refine wpAny_call (codeAny_of_tree ?_)
  show wpAny _ _ (callAny (.type "set") _) _ _ _
  refine wpAny_pure ⟨Code.quiet_builtin _ (by decide +kernel), codeAny_builtin F.entry_type_call ?_⟩
  rw [Around.under_plain (weight_type_call_type "set" [.ref l] []) rfl]
  have h1 := F.called_set.notType
  have h2 := F.called_set.canCreate
  have hct := F.typeCall_set_1 (.ref l)
  repeat (any_goals (first | assumption | wp_step))
  refine codeAny_mono (code_set_new (.ref l) (E := E) (Q₁ := fun obj s₁ => ∃ h', obj = .ref s.heap.objs.size ∧ s₁ = { s with heap := h' } ∧ (∀ b o, s.heap.get? b = some o → h'.get? b = some o) ∧ h'.objs.size = s.heap.objs.size + 1 ∧ IsSet w h' s.heap.objs.size [] ∧ (∃ led, h'.get? s.heap.objs.size = some (setO #[] 0 (.fresh 0 0 led))))
    fun h' hk hz hS ho => ⟨h', rfl, rfl, hk, hz, hS, ho⟩) fun r s₁ hr => ?_
  cases r with
  | error e => exact hr
  | ok fl =>
    cases fl with
    | ret obj =>
      obtain ⟨h1, rfl, rfl, hk1, hz1, hS1, led, hSo⟩ := hr
      have hT : Shared.TypeIs { s with heap := h1 } (.ref s.heap.objs.size) "set" := hS1.typeIs (s := { s with heap := h1 })
      have hli := F.called_set.init.lookup
      have hbi := F.called_set.init.bind (.ref s.heap.objs.size)
      repeat (any_goals (first | assumption | wp_step))
      refine codeAny_mono (codeAny_call_builtin (R := wants (fun r s₂ => r = .none ∧ ∃ h' tk ss, s₂ = { s with heap := h', toks := tk } ∧ (∀ b o, s.heap.get? b = some o → h'.get? b = some o) ∧ IsSet w h' s.heap.objs.size ss ∧ (∀ x, x ∈ ss ↔ x ∈ ls)) E)
        F.called_set.init.plain F.entry_set_init (check_set_init_1 hT ?_)) fun r₂ s₂ hr₂ => ?_
      · have hl1 : h1.IsList l items := hl.at fun o e => hk1 _ o e
        have hlS : l < s.heap.objs.size := let ⟨_, e, _⟩ := hl; Heap.lt_size e
        obtain ⟨ol, hol, hcl, nl, hdl⟩ := id hl1
        obtain ⟨ocls, odict, odata, oslots⟩ := ol
        simp only at hcl hdl
        subst hcl; subst hdl
        have hsls := F.sub_list_set
        have hslf := F.sub_list_frozenset
        have hne : (Value.type "list" == Value.type "dict") = false := by decide
        unfold Builtin.«set.__init__» noKeywords Builtin.Frozenset.updateFrom
        generalize hPI : pyIter = PI
        wp_walk
        subst hPI
        refine wpAny_pyIter_list hl1 ?_
        refine wpAny_bind (wpAny_runValue ?_)
        have hh3 : A.in1.in1.in1.handled = none := by simp [hh]
        have hneI : l ≠ h1.objs.size := by rw [hz1]; exact Nat.ne_of_lt (Nat.lt_succ_of_lt hlS)
        refine fill_loop (S := s.heap.objs.size) (ls := ls) (Walks.list hh3 _ l hneI items) (by rw [hz1]; exact Nat.ne_of_lt (Nat.lt_succ_self _)) (Nat.ne_of_gt hlS) hi hb (items.size - 0) 0 _ _ [] (by omega) (Nat.zero_le _)
          ⟨⟨_, Heap.get?_push_size _ rfl, rfl, rfl⟩, (hl1.push _)⟩ (hS1.at fun _ e => Heap.get?_push_of_some _ e) (Nat.le_refl _) (fun x => by simp) fun h' tk' acc' hk' hS' hm' => ?_
        refine wpAny_pure ?_
        show wpAny _ _ (ret Value.none) _ _ _
        refine wpAny_pure ⟨rfl, h', tk', acc', rfl, fun b o e => ?_, hS', hm'⟩
        have hb' := Heap.lt_size e
        exact hk' b o (Nat.ne_of_lt hb') (by rw [hz1]; exact Nat.ne_of_lt (Nat.lt_succ_of_lt hb')) (Heap.get?_push_of_some _ (hk1 b o e))
      · cases r₂ with
        | error e => exact hr₂
        | ok fl₂ =>
          cases fl₂ with
          | ret r =>
            obtain ⟨rfl, h', tk, ss, rfl, hk', hS', hm⟩ := hr₂
            repeat (any_goals (first | assumption | wp_step))
            exact h _ _ _ hk' hS' hm
          | _ => exact hr₂.elim
    | _ => exact hr.elim
end
end Mine

namespace Mine

namespace SF
theorem slot_next : Slot "set_iterator" "__next__" "set_iterator.__next__" :=
  .of (owner := "set_iterator") (n := "__next__") (by rw [typeLookup_type, builtinLookup_eq_fast]; kernel_rfl) (by decide +kernel) (by decide +kernel) (by decide +kernel)
    (by first | exact .inl (by decide +kernel) | exact .inr (by decide +kernel)) (by rw [isSubtype_type]; kernel_rfl)
theorem entry_next : entryFor table "set_iterator.__next__" = some Builtin.«set_iterator.__next__» := entryFor_of_tree (by kernel_rfl)
theorem args_next (a : Value) : argsOk "set_iterator.__next__" ⟨[a], []⟩ := by unfold argsOk; kernel_rfl
theorem entry_iter : entryFor table "set.__iter__" = some Builtin.«frozenset.__iter__» :=
  entryFor_alias (id' := "frozenset.__iter__") (by rw [fastTable_eq_tree]; kernel_rfl) rfl (by rw [PySem.W.Fast.canonicalQ_eq]; kernel_rfl) (by rw [fastTable_eq_tree]; kernel_rfl)
end SF

section
variable {prog : Program} {w : World} {A : Around} {E : Value → Shared → Prop} {R : Result → Shared → Prop} {s : Shared} {a b f I : Addr} {es : Array (Int × Value)} {ep : Nat} {t : SetTable} {ss ss₁ ss₂ : List Str}

noncomputable abbrev iterO (first : Value) (i : Nat) (a : Addr) (n ep : Nat) : Obj := { cls := .type "set_iterator", data := .fields #[first, .int i 0, .ref a, .int n 0, .int ep 0] }
noncomputable abbrev placesO (ps : List Nat) : Obj := { cls := .type "tuple", data := .seq (ps.map fun (p : Nat) => rawInt p).toArray }

/-- the order that the world takes -/
inductive Mode (w : World) (h : Heap) (a : Addr) (es : Array (Int × Value)) (ep : Nat) (t : SetTable) (i : Nat) : Value → List Value → Prop where
  | drawn (T : Addr) (ps : List Nat) : h.get? T = some (placesO ps) → List.Perm ps (List.range es.size) → Mode w h a es ep t i (.ref T) (ps.map fun p => (es.getD p (0, .none)).2)
  | text (sl : Nat) : w.params.followText "set-order" = true → Mode w h a es ep t i (.int sl 0) ((pickOrder (w.params.setOrder a ep) es).toList.map (·.2))
  | one (sl : Nat) : w.params.followText "set-order" = false → es.size ≤ 1 → (∀ j, t.place[0]? = some j → sl = if i = 0 then 0 else j + 1) → Mode w h a es ep t i (.int sl 0) (es.toList.map (·.2))

theorem below_nil (j : Nat) : SetTable.below #[] j = 0 := rfl
theorem below_one (j k : Nat) : SetTable.below #[j] k = if j < k then 1 else 0 := by
  unfold SetTable.below
  simp only [List.size_toArray, List.length_cons, List.length_nil]
  rw [SetTable.below.go]
  simp only [Nat.zero_lt_succ, ↓reduceIte]
  split
  · rename_i h
    rw [if_pos (by simpa using h)]; rfl
  · rename_i h
    rw [if_neg (by simpa using h)]; rfl

theorem setNext_text {sl g : Nat} {Q : Option (Value × Nat) → Shared → Prop} (ho : s.heap.get? a = some (setO es ep t)) (ht : TabOk w es t) (hb : w.params.followText "set-order" = true)
    (h : Q (((pickOrder (w.params.setOrder a ep) es)[g]?).map fun e => (e.2, sl)) s) : wpAny (model prog w) A (setNext a sl g ep) Q E s := by
  unfold setNext
  refine wpAny_bind (wpAny_setState_of ho rfl ht.1 ?_)
  dsimp only
  refine wpAny_bind (byText_any ?_)
  rw [hb]
  simp only [↓reduceIte, bne_self_eq_false, Bool.false_eq_true]
  unfold setWalk
  refine wpAny_bind (wpAny_bind (wpAny_setState_of ho rfl ht.1 ?_))
  dsimp only
  refine wpAny_bind (byText_any ?_)
  rw [hb]
  simp only [↓reduceIte]
  exact wpAny_bind (wpAny_askSetting (wpAny_pure (wpAny_pure h)))

theorem setNext_one {sl g : Nat} {Q : Option (Value × Nat) → Shared → Prop} (ho : s.heap.get? a = some (setO es ep t)) (ht : TabOk w es t) (hb : w.params.followText "set-order" = false) (h1 : es.size ≤ 1)
    (h : Q (match es[SetTable.below t.place sl]?, t.place[SetTable.below t.place sl]? with | some (_, x), some j => some (x, j + 1) | _, _ => none) s) : wpAny (model prog w) A (setNext a sl g ep) Q E s := by
  unfold setNext
  refine wpAny_bind (wpAny_setState_of ho rfl ht.1 ?_)
  dsimp only
  refine wpAny_bind (byText_any ?_)
  rw [hb]
  simp only [Bool.false_eq_true, ↓reduceIte]
  split
  · rename_i q
    have q' : (!t.plain && decide (es.size > 1)) = true := q
    simp only [Bool.and_eq_true, decide_eq_true_eq] at q'
    omega
  · refine wpAny_bind ?_
    show wpAny _ _ (if (!t.led && !es.isEmpty) = true then _ else pure ()) _ _ _
    rw [ht.2.1 hb]
    simp only [Bool.not_true, Bool.false_and, Bool.false_eq_true, ↓reduceIte]
    exact wpAny_pure (wpAny_pure h)

theorem iter_item {i : Nat} {first v : Value} {xs : List Value} {Q : Value → Shared → Prop} (ha : s.heap.get? a = some (setO es ep t)) (ht : TabOk w es t) (hI : s.heap.get? I = some (iterO first i a es.size ep)) (hne : I ≠ a)
    (hm : Mode w s.heap a es ep t i first xs) (hx : xs[i]? = some v)
    (h : ∀ h' first', Heap.SameBut I s.heap h' → h'.get? I = some (iterO first' (i + 1) a es.size ep) → Mode w h' a es ep t (i + 1) first' xs → (∀ T, first' = .ref T → first = .ref T) → Q v { s with heap := h' }) :
    wpAny (model prog w) A (Builtin.«set_iterator.__next__» ⟨[.ref I], []⟩) (fun fin s' => ∃ r, fin = .done (.ret r) ∧ Q r s') E s := by
  have upd : ∀ {h₁ : Heap} {vs : Array Value} (k : Nat) (x : Value), h₁.get? I = some ({ cls := .type "set_iterator", data := .fields vs } : Obj) →
      (h₁.update I (Obj.mapFields (·.setIfInBounds k x))).get? I = some ({ cls := .type "set_iterator", data := .fields (vs.setIfInBounds k x) } : Obj) := fun k x e => Heap.get?_update_self _ e rfl
  unfold Builtin.«set_iterator.__next__» slotArgs
  simp only [List.isEmpty_nil, Bool.not_true, Bool.false_eq_true, ↓reduceIte, List.length_nil, bne_self_eq_false]
  refine wpAny_bind (wpAny_pure ?_)
  refine wpAny_bind (wpAny_fieldsOf hI rfl ?_)
  dsimp only
  refine wpAny_bind (wpAny_setEntries_of ha rfl ht.1 ?_)
  simp only [bne_self_eq_false, Bool.false_eq_true, ↓reduceIte]
  cases hm with
  | drawn T ps hT hp =>
    dsimp only
    refine wpAny_bind (wpAny_seqItems hT rfl ?_)
    dsimp only
    have hxi : ∃ p, ps[i]? = some p ∧ v = (es.getD p (0, .none)).2 := by
      rw [List.getElem?_map] at hx
      obtain ⟨p, hp1, hp2⟩ := Option.map_eq_some_iff.mp hx
      exact ⟨p, hp1, hp2.symm⟩
    obtain ⟨p, hpi, rfl⟩ := hxi
    have e1 : ((ps.map fun (p : Nat) => rawInt p).toArray)[((i : Nat) : Int).toNat]? = some (.int p 0) := by
      simp only [Int.toNat_natCast, List.getElem?_toArray, List.getElem?_map, hpi, Option.map_some, rawInt]
    rw [e1]
    dsimp only
    have hlt : p < es.size := List.mem_range.mp (hp.mem_iff.mp (List.mem_of_getElem? hpi))
    refine wpAny_bind ?_
    unfold setNextDrawn
    refine wpAny_bind (wpAny_setState_of ha rfl ht.1 ?_)
    simp only [Int.toNat_natCast, bne_self_eq_false, Bool.false_eq_true, ↓reduceIte]
    rw [Array.getElem?_eq_getElem hlt]
    dsimp only
    refine wpAny_pure ?_
    refine wpAny_bind (wpAny_setField hI rfl (by simp) ?_)
    refine wpAny_pure ⟨_, rfl, ?_⟩
    have hne' : T ≠ I := by
      rintro rfl
      rw [hT] at hI
      have q := congrArg Obj.cls (Option.some.inj hI)
      simp at q
    have z := h _ (.ref T) (Heap.SameBut.update _ I _) (upd 1 _ hI) (.drawn T ps ((Heap.get?_update_other _ _ (Ne.symm hne')).trans hT) hp) fun _ e => e
    have e2 : es.getD p (0, .none) = es[p] := by rw [Array.getD_eq_getD_getElem?, Array.getElem?_eq_getElem hlt]; rfl
    rw [e2] at z
    exact z
  | text sl hb =>
    dsimp only
    refine wpAny_bind (setNext_text (sl := ((sl : Nat) : Int).toNat) ha ht hb ?_)
    simp only [Int.toNat_natCast]
    rw [List.getElem?_map, Array.getElem?_toList] at hx
    obtain ⟨e, he1, he2⟩ := Option.map_eq_some_iff.mp hx
    rw [he1]
    subst he2
    dsimp only [Option.map_some]
    refine wpAny_bind (wpAny_setField hI rfl (by simp) ?_)
    refine wpAny_bind (wpAny_setField (upd 0 _ hI) rfl (by simp) ?_)
    refine wpAny_pure ⟨_, rfl, h _ (.int sl 0) ((Heap.SameBut.update _ I _).trans (Heap.SameBut.update _ I _)) (upd 1 _ (upd 0 _ hI)) (.text sl hb) fun _ e => by cases e⟩
  | one sl hb h1 hs =>
    dsimp only
    rw [List.getElem?_map, Array.getElem?_toList] at hx
    obtain ⟨e, he1, he2⟩ := Option.map_eq_some_iff.mp hx
    have hi : i = 0 := by
      have := (Array.getElem?_eq_some_iff.mp he1).1
      omega
    subst hi
    have hpl : t.place.size = es.size := by
      have := ht.1
      simp only [SetTable.fits, Bool.and_eq_true, beq_iff_eq] at this
      exact this.1
    have hes : es.size = 1 := by
      have := (Array.getElem?_eq_some_iff.mp he1).1
      omega
    obtain ⟨j, hj⟩ : ∃ j, t.place = #[j] := by
      rw [hes] at hpl
      match hq : t.place, hpl with
      | ⟨[j]⟩, _ => exact ⟨j, rfl⟩
    have hsl : sl = 0 := by have := hs j (by rw [hj]; rfl); simpa using this
    subst hsl
    refine wpAny_bind (setNext_one (sl := ((0 : Nat) : Int).toNat) ha ht hb h1 ?_)
    rw [hj, below_one]
    simp only [Int.toNat_natCast, Nat.not_lt_zero, ↓reduceIte]
    rw [he1]
    subst he2
    refine wpAny_bind (wpAny_setField hI rfl (by simp) ?_)
    refine wpAny_bind (wpAny_setField (upd 0 _ hI) rfl (by simp) ?_)
    refine wpAny_pure ⟨_, rfl, h _ (.int ((j + 1 : Nat) : Int) 0) ((Heap.SameBut.update _ I _).trans (Heap.SameBut.update _ I _)) (upd 1 _ (upd 0 _ hI)) (.one (j + 1) hb h1 fun j' hj' => ?_) fun _ e => by cases e⟩
    rw [hj] at hj'
    cases hj'
    rfl
end
end Mine

namespace Mine

namespace SF
theorem slot_iter2 : Slot "set_iterator" "__iter__" "set_iterator.__iter__" :=
  .of (owner := "set_iterator") (n := "__iter__") (by rw [typeLookup_type, builtinLookup_eq_fast]; kernel_rfl) (by decide +kernel) (by decide +kernel) (by decide +kernel)
    (by first | exact .inl (by decide +kernel) | exact .inr (by decide +kernel)) (by rw [isSubtype_type]; kernel_rfl)
theorem entry_iter2 : entryFor table "set_iterator.__iter__" = some Builtin.«dict_keyiterator.__iter__» :=
  entryFor_alias (id' := "dict_keyiterator.__iter__") (by rw [fastTable_eq_tree]; kernel_rfl) rfl (by rw [PySem.W.Fast.canonicalQ_eq]; kernel_rfl) (by rw [fastTable_eq_tree]; kernel_rfl)
theorem args_iter2 (a : Value) : argsOk "set_iterator.__iter__" ⟨[a], []⟩ := by unfold argsOk; kernel_rfl
end SF

section
variable {prog : Program} {w : World} {A : Around} {E : Value → Shared → Prop} {R : Result → Shared → Prop} {s : Shared} {a b f I : Addr} {es : Array (Int × Value)} {ep : Nat} {t : SetTable} {ss ss₁ ss₂ : List Str}

theorem stop_any {X : Type} {Q : X → Shared → Prop} (hh : A.handled = none) (h : ∀ h' e, (∀ b o, s.heap.get? b = some o → h'.get? b = some o) → (∃ o, h'.get? e = some o ∧ o.cls = .type "StopIteration") → E (.ref e) { s with heap := h' }) :
    wpAny (model prog w) A (newExc (.type "StopIteration") [] >>= fun e => (raiseNew e : Sem X)) Q E s := by
  refine wpAny_bind ?_
  simp only [newExc, newTuple]
  refine wpAny_bind (wpAny_newObj_type ?_ (by size_fits))
  refine wpAny_bind (m := firstArgMember _ _) (wpAny_of_eq (a := Value.none) (by first | rfl | (simp only [firstArgMember]; rfl)) ?_)
  refine wpAny_newObj_type ?_ (by size_fits)
  simp only [raiseNew]
  refine wpAny_bind (wpAny_handled ?_)
  rw [hh]
  refine wpAny_bind (wpAny_pure (wpAny_throw ?_))
  exact h _ _ (fun b o e => Heap.get?_push_of_some _ (Heap.get?_push_of_some _ e)) ⟨_, Heap.get?_push_size _ rfl, rfl⟩

theorem iter_end {first : Value} {xs : List Value} {Q : Value → Shared → Prop} {E' : Value → Shared → Prop} (hh : A.handled = none) (ha : s.heap.get? a = some (setO es ep t)) (ht : TabOk w es t) (hI : s.heap.get? I = some (iterO first xs.length a es.size ep)) (hne : I ≠ a)
    (hm : Mode w s.heap a es ep t xs.length first xs)
    (h : ∀ h' e, (∀ b o, b ≠ I → s.heap.get? b = some o → h'.get? b = some o) → (∃ o, h'.get? e = some o ∧ o.cls = .type "StopIteration") → E' (.ref e) { s with heap := h' }) :
    wpAny (model prog w) A (Builtin.«set_iterator.__next__» ⟨[.ref I], []⟩) (fun fin s' => ∃ r, fin = .done (.ret r) ∧ Q r s') E' s := by
  have upd : ∀ {h₁ : Heap} {vs : Array Value} (k : Nat) (x : Value), h₁.get? I = some ({ cls := .type "set_iterator", data := .fields vs } : Obj) →
      (h₁.update I (Obj.mapFields (·.setIfInBounds k x))).get? I = some ({ cls := .type "set_iterator", data := .fields (vs.setIfInBounds k x) } : Obj) := fun k x e => Heap.get?_update_self _ e rfl
  have fin : ∀ h₁, (∀ b, b ≠ I → h₁.get? b = s.heap.get? b) → wpAny (model prog w) A (newExc (.type "StopIteration") [] >>= fun e => (raiseNew e : Sem Fin)) (fun fin s' => ∃ r, fin = .done (.ret r) ∧ Q r s') E' { s with heap := h₁ } :=
    fun h₁ hk => stop_any (s := { s with heap := h₁ }) hh fun h' e hk' he => h h' e (fun b o hb q => hk' b o ((hk b hb).trans q)) he
  unfold Builtin.«set_iterator.__next__» slotArgs
  simp only [List.isEmpty_nil, Bool.not_true, Bool.false_eq_true, ↓reduceIte, List.length_nil, bne_self_eq_false]
  refine wpAny_bind (wpAny_pure ?_)
  refine wpAny_bind (wpAny_fieldsOf hI rfl ?_)
  dsimp only
  refine wpAny_bind (wpAny_setEntries_of ha rfl ht.1 ?_)
  simp only [bne_self_eq_false, Bool.false_eq_true, ↓reduceIte]
  cases hm with
  | drawn T ps hT hp =>
    dsimp only
    refine wpAny_bind (wpAny_seqItems hT rfl ?_)
    dsimp only
    have e1 : ((ps.map fun (p : Nat) => rawInt p).toArray)[(((ps.map fun p => (es.getD p (0, Value.none)).2).length : Nat) : Int).toNat]? = none := by
      rw [Int.toNat_natCast, List.getElem?_toArray, List.getElem?_eq_none]
      rw [List.length_map, List.length_map]; exact Nat.le_refl _
    rw [e1]
    dsimp only
    refine wpAny_bind (wpAny_setField hI rfl (by simp) ?_)
    refine wpAny_bind (wpAny_setField (upd 0 _ hI) rfl (by simp) ?_)
    exact fin _ fun b hb => ((Heap.SameBut.update s.heap I _).trans (Heap.SameBut.update _ I _)).2 b hb
  | text sl hb =>
    dsimp only
    refine wpAny_bind (setNext_text (sl := ((sl : Nat) : Int).toNat) ha ht hb ?_)
    have e1 : (pickOrder (w.params.setOrder a ep) es)[((((pickOrder (w.params.setOrder a ep) es).toList.map (·.2)).length : Nat) : Int).toNat]? = none := by
      rw [Int.toNat_natCast, List.length_map, Array.length_toList]
      exact Array.getElem?_eq_none (Nat.le_refl _)
    rw [show (pickOrder (w.params.setOrder a ((ep : Nat) : Int).toNat) es)[((((pickOrder (w.params.setOrder a ep) es).toList.map (·.2)).length : Nat) : Int).toNat]? = none from e1]
    dsimp only [Option.map_none]
    refine wpAny_bind (wpAny_setField hI rfl (by simp) ?_)
    exact fin _ fun b hb => (Heap.SameBut.update s.heap I _).2 b hb
  | one sl hb h1 hs =>
    dsimp only
    refine wpAny_bind (setNext_one (sl := ((sl : Nat) : Int).toNat) ha ht hb h1 ?_)
    have hpl : t.place.size = es.size := by
      have := ht.1
      simp only [SetTable.fits, Bool.and_eq_true, beq_iff_eq] at this
      exact this.1
    have e1 : es[SetTable.below t.place ((sl : Nat) : Int).toNat]? = none := by
      rw [Int.toNat_natCast]
      by_cases hes : es.size = 0
      · exact Array.getElem?_eq_none (by omega)
      · have hes : es.size = 1 := by omega
        obtain ⟨j, hj⟩ : ∃ j, t.place = #[j] := by
          rw [hes] at hpl
          match hq : t.place, hpl with
          | ⟨[j]⟩, _ => exact ⟨j, rfl⟩
        have hsl := hs j (by rw [hj]; rfl)
        rw [List.length_map, Array.length_toList, hes] at hsl
        simp only [Nat.one_ne_zero, ↓reduceIte] at hsl
        rw [hj, below_one, hsl, if_pos (Nat.lt_succ_self _)]
        exact Array.getElem?_eq_none (by omega)
    rw [e1]
    dsimp only
    refine wpAny_bind (wpAny_setField hI rfl (by simp) ?_)
    exact fin _ fun b hb => (Heap.SameBut.update s.heap I _).2 b hb

theorem Mode.at {h h' : Heap} {i : Nat} {first : Value} {xs : List Value} (m : Mode w h a es ep t i first xs) (k : ∀ T, first = .ref T → ∀ o, h.get? T = some o → h'.get? T = some o) : Mode w h' a es ep t i first xs := by
  cases m with
  | drawn T ps hT hp => exact .drawn T ps (k T rfl _ hT) hp
  | text sl hb => exact .text sl hb
  | one sl hb h1 hs => exact .one sl hb h1 hs

noncomputable def refsIn : Value → List Addr
  | .ref T => [T]
  | _ => []

/-- the walk of the order -/
theorem walks_set (hh : A.handled = none) {first₀ : Value} {xs : List Value} (ht : TabOk w es t) (hne : I ≠ a) (hnT : I ∉ refsIn first₀) :
    Walks prog w A I (I :: a :: refsIn first₀) [I] xs.length (fun i v => xs[i]? = some v)
      (fun i h => h.get? a = some (setO es ep t) ∧ ∃ first, h.get? I = some (iterO first i a es.size ep) ∧ Mode w h a es ep t i first xs ∧ (∀ T, first = .ref T → T ∈ refsIn first₀)) where
  sub := fun b hb => by rw [List.mem_singleton.mp hb]; exact .head _
  frame := fun i h h' ⟨ha, first, hI, hm, hT⟩ hk => ⟨hk a (.tail _ (.head _)) _ ha, first, hk I (.head _) _ hI, hm.at fun T e o q => hk T (.tail _ (.tail _ (hT T e))) o q, hT⟩
  item := fun i s Q E hi ⟨ha, first, hI, hm, hT⟩ hQ => by
    have hT' : s.TypeIs (.ref I) "set_iterator" := ⟨_, hI, rfl⟩
    unfold pyNext
    refine wpAny_bind (wpAny_attempt (wpAny_callSpecial?_slot (name := Str.ofString "__next__") hT' SF.slot_next
      (wpAny_call_entry SF.slot_next hT' SF.entry_next (iter_item ha ht hI hne hm (List.getElem?_eq_getElem hi) fun h' first' hb hI' hm' hsame => ?_) (SF.args_next _))))
    exact wpAny_pure (hQ _ h' s.toks (List.getElem?_eq_getElem hi) ⟨(hb.2 a (Ne.symm hne)).trans ha, first', hI', hm', fun T e => hT T (hsame T e)⟩ fun b o hb' e => (hb.2 b fun q => hb' (by rw [q]; exact List.mem_singleton.mpr rfl)).trans e)
  done := fun s Q E ⟨ha, first, hI, hm, hT⟩ hQ => by
    have hT' : s.TypeIs (.ref I) "set_iterator" := ⟨_, hI, rfl⟩
    unfold pyNext
    refine wpAny_bind (wpAny_attempt (wpAny_callSpecial?_slot (name := Str.ofString "__next__") hT' SF.slot_next
      (wpAny_call_entry SF.slot_next hT' SF.entry_next (iter_end (by exact hh) ha ht hI hne hm fun h' e hk he => ?_) (SF.args_next _))))
    obtain ⟨o, ho, hc⟩ := he
    refine wpAny_bind (wpAny_isInstance (T := "StopIteration") (b := true) ⟨o, ho, hc⟩ isSubtype_stop ?_)
    exact wpAny_pure (hQ h' s.toks fun b o hb e => hk b o (fun q => hb (by rw [q]; exact List.mem_singleton.mpr rfl)) e)
  self := fun i s Q E ⟨_, first, hI, _⟩ hQ => by
    have hT' : s.TypeIs (.ref I) "set_iterator" := ⟨_, hI, rfl⟩
    refine wpAny_pyIter_slot hT' SF.slot_iter2 (wpAny_call_entry SF.slot_iter2 hT' SF.entry_iter2 ?_ (SF.args_iter2 _))
    show wpAny _ _ (ret (.ref I)) _ _ s
    exact wpAny_pure ⟨_, rfl, "set_iterator", _, hT', SF.slot_next.lookup, hQ⟩

theorem isSet_vals {l : List (Int × Value)} {es : List (Int × Value)} (he : Ents w es) (p : List.Perm l es) : StrsAre (l.map (·.2)) (keysS l) := by
  have hl : Ents w l := he.perm p
  clear p
  induction l with
  | nil => exact .nil
  | cons e r ih =>
    obtain ⟨x, tk, rfl⟩ := hl e (.head _)
    exact .cons x tk (ih fun y hy => hl y (.tail _ hy))

theorem getD_range (es : Array (Int × Value)) : (List.range es.size).map (fun p => es.getD p (0, .none)) = es.toList := by
  refine List.ext_getElem (by simp) fun i h1 h2 => ?_
  simp only [List.getElem_map, List.getElem_range]
  simp only [Array.length_toList] at h2
  rw [Array.getElem_toList, Array.getD_eq_getD_getElem?, Array.getElem?_eq_getElem h2]; rfl

theorem pyIter_set {Q : Value → Shared → Prop} (ho : s.heap.get? a = some (setO es ep t)) (he : Ents w es.toList) (hp : List.Perm (keysS es.toList) ss) (hl : ss.length ≤ 60) (ht : TabOk w es t)
    (h : ∀ h' d I first xs, (∀ b o, s.heap.get? b = some o → h'.get? b = some o) → s.heap.get? I = none → I < h'.objs.size → I ∉ refsIn first → (∀ T ∈ refsIn first, s.heap.get? T = none ∧ T < h'.objs.size) → h'.get? I = some (iterO first 0 a es.size ep) → Mode w h' a es ep t 0 first xs → (∃ ls, StrsAre xs ls ∧ List.Perm ls ss) → Q (.ref I) { s with heap := h', drawn := d }) :
    wpAny (model prog w) A (pyIter (.ref a)) Q E s := by
  have hT : s.TypeIs (.ref a) "set" := ⟨_, ho, rfl⟩
  have hsz := len_keys hp
  have newAt : ∀ (hh : Heap) (b : Addr), hh.objs.size ≤ b → hh.get? b = none := fun hh b hb => by
    cases q : hh.get? b with
    | none => rfl
    | some o => exact absurd (Heap.lt_size q) (Nat.not_lt.mpr hb)
  refine wpAny_pyIter_slot hT F.slot_set_iter (wpAny_call_entry F.slot_set_iter hT SF.entry_iter ?_ (F.args_set_iter_1 _))
  unfold Builtin.«frozenset.__iter__»
  unfold Builtin.Frozenset.slot0 slotArgs
  simp only [List.isEmpty_nil, Bool.not_true, Bool.false_eq_true, ↓reduceIte, List.length_nil, bne_self_eq_false]
  refine wpAny_bind (wpAny_bind (wpAny_pure (wpAny_pure ?_)))
  refine wpAny_bind ?_
  unfold Builtin.Frozenset.sizeOf
  refine wpAny_bind (wpAny_setEntries_of ho rfl ht.1 (wpAny_pure ?_))
  have fin : ∀ (A' : Around) (h1 : Heap) (d : Drawn) (first : Value) (xs : List Value), h1.get? a = some (setO es ep t) → (∀ b o, s.heap.get? b = some o → h1.get? b = some o) → s.heap.objs.size ≤ h1.objs.size → (∀ T ∈ refsIn first, s.heap.get? T = none ∧ T < h1.objs.size) → Mode w h1 a es ep t 0 first xs →
      (∃ ls, StrsAre xs ls ∧ List.Perm ls ss) →
      wpAny (model prog w) A' (do ret (← newFields "set_iterator" [first, rawInt 0, .ref a, rawInt es.size, rawInt (← setEpoch a)])) (fun fin s' => ∃ v, fin = .done (.ret v) ∧ ∃ T' r, s'.TypeIs v T' ∧ typeLookup (.type T') "__next__" = pure (some r) ∧ Q v s') E { s with heap := h1, drawn := d } := by
    intro A' h1 d first xs ha hk hsz1 hnT hm hls
    refine wpAny_bind (epoch_any (s := { s with heap := h1, drawn := d }) ha ht ?_)
    refine wpAny_bind ?_
    unfold newFields
    refine wpAny_newObj_type ?_ (by size_fits)
    refine wpAny_pure ⟨_, rfl, "set_iterator", _, ⟨_, Heap.get?_push_size _ rfl, rfl⟩, SF.slot_next.lookup, ?_⟩
    refine h _ d h1.objs.size first xs (fun b o e => Heap.get?_push_of_some _ (hk b o e)) (newAt _ _ hsz1) (by rw [Heap.size_push]; exact Nat.lt_succ_self _) (fun hq => absurd (hnT _ hq).2 (Nat.lt_irrefl _)) (fun T hT => ⟨(hnT T hT).1, by rw [Heap.size_push]; exact Nat.lt_succ_of_lt (hnT T hT).2⟩) (Heap.get?_push_size _ rfl) (hm.at fun T e o q => Heap.get?_push_of_some _ q) hls
  unfold setDrawn
  refine wpAny_bind (wpAny_bind (wpAny_setState_of ho rfl ht.1 ?_))
  dsimp only
  refine wpAny_bind (byText_any (wpAny_pure ?_))
  cases hb : w.params.followText "set-order" with
  | true =>
    simp only [Bool.not_true, Bool.false_and, Bool.false_eq_true, ↓reduceIte]
    refine wpAny_bind (wpAny_pure ?_)
    refine fin _ s.heap s.drawn _ _ ho (fun _ _ e => e) (Nat.le_refl _) (fun T hT => nomatch hT) (.text 0 hb) ⟨_, isSet_vals he (pickOrder_perm _ _), (keysS_perm (pickOrder_perm _ _)).trans hp⟩
  | false =>
    simp only [Bool.not_false, Bool.true_and]
    split
    · refine wpAny_bind (drawOrder_any _ _ _ (by simp) fun ps d hps => ?_)
      have hlen : ps.length = es.size := by rw [hps.length_eq, List.length_range]
      refine wpAny_bind (wpAny_newTuple ?_ (by rw [List.length_map, hlen, sizeLine_eq]; omega))
      have pl : List.Perm (ps.map fun p => es.getD p (0, .none)) es.toList := (hps.map _).trans (by rw [getD_range])
      refine fin _ _ d _ (ps.map fun p => (es.getD p (0, .none)).2) (Heap.get?_push_of_some _ ho) (fun b o e => Heap.get?_push_of_some _ e) (by rw [Heap.size_push]; exact Nat.le_succ _) (fun T hT => ?_) (.drawn s.heap.objs.size ps ?_ hps) ⟨keysS (ps.map fun p => es.getD p (0, .none)), ?_, (keysS_perm pl).trans hp⟩
      · rw [List.mem_singleton.mp hT]
        exact ⟨newAt _ _ (Nat.le_refl _), by rw [Heap.size_push]; exact Nat.lt_succ_self _⟩
      · exact Heap.get?_push_size _ rfl
      · have := isSet_vals he pl
        rw [List.map_map] at this
        exact this
    · rename_i hc
      replace hc : ¬ (!t.plain && decide (es.size > 1)) = true := hc
      refine wpAny_bind (wpAny_pure ?_)
      have h1 : es.size ≤ 1 := by
        by_cases q : es.size ≤ 1
        · exact q
        · have := ht.2.2.1 (by omega)
          rw [this] at hc
          simp at hc
          omega
      exact fin _ s.heap s.drawn _ _ ho (fun _ _ e => e) (Nat.le_refl _) (fun T hT => nomatch hT) (.one 0 hb h1 fun j _ => rfl) ⟨_, isSet_vals he .rfl, hp⟩
end
end Mine

namespace Mine

section
variable {prog : Program} {w : World} {A : Around} {E : Value → Shared → Prop} {R : Result → Shared → Prop} {s : Shared} {a b f I : Addr} {es : Array (Int × Value)} {ep : Nat} {t : SetTable} {ss ss₁ ss₂ : List Str}

theorem items_eq {xs : List Value} {acc : Array Value} (h : ItemsOf (fun i v => xs[i]? = some v) acc xs.length) : acc.toList = xs := by
  refine List.ext_getElem? fun i => ?_
  rw [Array.getElem?_toList]
  cases hv : acc[i]? with
  | none =>
    have := h.1
    rw [Array.getElem?_eq_none_iff] at hv
    rw [List.getElem?_eq_none (by omega)]
  | some v => exact (h.2 i v hv).symm

theorem split_set_len : splitId "set.__len__" = some ("set", "__len__") := by decide +kernel

theorem collect_set {Q : List Value → Shared → Prop} (hh : A.handled = none) (hS : IsSet w s.heap a ss)
    (h : ∀ h' d tk vs ls, (∀ b o, s.heap.get? b = some o → h'.get? b = some o) → StrsAre vs ls → List.Perm ls ss → Q vs { s with heap := h', drawn := d, toks := tk }) :
    wpAny (model prog w) A (collect (.ref a)) Q E s := by
  obtain ⟨o, ho, es, ep, t, rfl, he, hp, hnd, hl, ht⟩ := hS
  have hsz := len_keys hp
  unfold collect
  refine wpAny_bind (wpAny_runValue (codeAny_builtin F.entry_proto_collect ?_))
  rw [Around.under_plainId F.plain_proto_collect _]
  show wpAny _ A.in1 (newList [] >>= fun l => again (.builtin "list.__iadd__" ⟨[l, .ref a], []⟩)) _ _ s
  refine wpAny_bind (wpAny_newObj_type ?_)
  refine wpAny_pure ⟨plainId_quiet F.plain_list_iadd _, codeAny_builtin F.entry_list_iadd ?_⟩
  rw [Around.under_plainId F.plain_list_iadd _]
  have hlt : a < s.heap.objs.size := Heap.lt_size ho
  have ho1 : (s.heap.push { cls := .type "list", data := .seq ([] : List Value).toArray }).get? a = some (setO es ep t) := Heap.get?_push_of_some _ ho
  have hS₁ : (s.heap.push { cls := .type "list", data := .seq ([] : List Value).toArray }).get? s.heap.objs.size = some { cls := .type "list", data := .seq ([] : List Value).toArray } := Heap.get?_push_size _ rfl
  have hT : Shared.TypeIs { s with heap := s.heap.push { cls := .type "list", data := .seq ([] : List Value).toArray } } (.ref a) "set" := ⟨_, ho1, rfl⟩
  have h1 : Builtin.List.listSameRef (.ref s.heap.objs.size) (.ref a) = false := by simp [Builtin.List.listSameRef, Nat.ne_of_gt hlt]
  show wpAny _ A.in1 (Builtin.List.listExtendWith (.ref s.heap.objs.size) (.ref a) (.ref s.heap.objs.size)) _ _ _
  unfold Builtin.List.listExtendWith
  refine wpAny_bind (wpAny_typeOf hT ?_)
  rw [if_neg (by rw [h1]; decide)]
  refine wpAny_bind (pyIter_set (s := { s with heap := s.heap.push { cls := .type "list", data := .seq ([] : List Value).toArray } }) ho1 he hp hl ht fun h2 d I first xs hk2 hI0 hIlt hIf hTs hI hm hls => ?_)
  obtain ⟨ls, hstr, hperm⟩ := hls
  have ho2 := hk2 a _ ho1
  have hT2 : Shared.TypeIs { s with heap := h2, drawn := d } (.ref a) "set" := ⟨_, ho2, rfl⟩
  refine wpAny_bind (wpAny_holding ?_)
  unfold Builtin.List.listLengthHint
  refine wpAny_bind (wpAny_specialOf hT2 F.slot_set_len.lookup ?_)
  generalize hid : ("set.__len__" : String) = id0
  wp_delta
  rw [show splitId id0 = some ("set", "__len__") from by subst hid; exact split_set_len]
  subst hid
  refine wpAny_bind (wpAny_isInstance (b := true) hT2 sub_set_self ?_)
  refine wpAny_bind (wpAny_typeOf hT2 ?_)
  refine wpAny_pure ?_
  rw [if_pos (by decide +kernel)]
  refine wpAny_bind (wpAny_rule ?_)
  refine wpAny_bind ?_
  have hS₂ := hk2 _ _ hS₁
  show wpAny _ A.in1 (updateSeq s.heap.objs.size (·.push .none) >>= fun _ => updateSeq s.heap.objs.size (·.pop)) _ _ _
  refine wpAny_bind (wpAny_updateSeq hS₂ rfl ?_)
  have hS₃ := Heap.get?_update_self (Obj.mapSeq (·.push Value.none)) hS₂ rfl
  refine wpAny_updateSeq (hz := by seq_fits) hS₃ rfl ?_
  have hS₄ := Heap.get?_update_self (Obj.mapSeq (·.pop)) hS₃ rfl
  have oth : ∀ b o, b ≠ s.heap.objs.size → h2.get? b = some o → ((h2.update s.heap.objs.size (Obj.mapSeq (·.push Value.none))).update s.heap.objs.size (Obj.mapSeq (·.pop))).get? b = some o :=
    fun b o hb e => (Heap.get?_update_other _ _ (Ne.symm hb)).trans ((Heap.get?_update_other _ _ (Ne.symm hb)).trans e)
  have nI : I ≠ s.heap.objs.size := fun q => by rw [q, show (s.heap.push _).get? s.heap.objs.size = _ from hS₁] at hI0; cases hI0
  have nT : ∀ T ∈ refsIn first, T ≠ s.heap.objs.size := fun T hT' q => by
    have := (hTs T hT').1
    rw [q, show (s.heap.push _).get? s.heap.objs.size = _ from hS₁] at this; cases this
  have nIa : I ≠ a := fun q => by rw [q, show (s.heap.push _).get? a = _ from ho1] at hI0; cases hI0
  have hxl : xs.length = ss.length := by rw [strs_len hstr, hperm.length_eq]
  have W := walks_set (prog := prog) (A := A.in1) (ep := ep) (by exact hh) (xs := xs) ht nIa hIf
  refine wpAny_pure ⟨plainId_quiet F.plain_extend_loop _, codeAny_extend_loopS W.toS (by rw [sizeLine_eq]; omega) _ ?_ _ xs.length 0 _ _ _ rfl (Nat.zero_le _) ?_ hS₄ (ItemsOf.nil _) fun s' acc' c' hm' hS' hacc => ?_⟩
  · intro hq
    rcases List.mem_cons.mp hq with q | hq
    · exact nI q.symm
    · rcases List.mem_cons.mp hq with q | hq
      · exact Nat.ne_of_gt hlt q
      · exact nT _ hq rfl
  · exact ⟨oth a _ (Nat.ne_of_lt hlt) ho2, first, oth I _ nI hI, hm.at fun T e o q => oth T o (nT T (by rw [e]; exact .head _)) q, fun T e => by rw [e]; exact .head _⟩
  · show wpAny _ A (load s.heap.objs.size >>= _) _ _ s'
    refine wpAny_bind (wpAny_load hS' ?_)
    refine wpAny_pure ?_
    rw [items_eq hacc]
    obtain ⟨h', g', d', tk', os'⟩ := s'
    have eg : g' = s.gens := hm'.gens
    have ed : d' = d := hm'.drawn
    have eo : os' = s.os := hm'.os
    subst eg; subst ed; subst eo
    refine h h' d' tk' xs ls (fun b o e => ?_) hstr hperm
    have hb := Heap.lt_size e
    refine hm'.heap b o (fun hq => ?_) (oth b o (Nat.ne_of_lt hb) (hk2 b o (Heap.get?_push_of_some _ e)))
    rcases List.mem_cons.mp hq with q | hq
    · exact Nat.ne_of_lt hb q
    · have q := List.mem_singleton.mp hq
      rw [← q, show (s.heap.push _).get? b = some o from Heap.get?_push_of_some _ e] at hI0
      cases hI0

/-- sorted(a set of strs) -/
theorem sorted_set {Q : Value → Shared → Prop} (hh : A.handled = none) (hS : IsSet w s.heap a ss)
    (h : ∀ h' d tk D vs ls n, (∀ b o, s.heap.get? b = some o → h'.get? b = some o) → s.heap.get? D = none → h'.get? D = some (listOf vs n) → StrsAre vs.toList ls → List.Perm ls ss → sortedS ls = true → Q (.ref D) { s with heap := h', drawn := d, toks := tk }) :
    wpAny (model prog w) A (call (.builtin "sorted") [.ref a]) Q E s := by
  have hl60 := isSet_len hS
  refine Calls.call_function_entry kind_sorted plain_sorted entry_sorted (args_sorted1 _) ?_
  unfold Builtin.«sorted»
  refine wpAny_bind (m := checkCount "sorted" 1 1 _) (wpAny_pure ?_)
  refine wpAny_bind (collect_set (by exact hh) hS fun h1 d tk vs ls hk hstr hp => ?_)
  have hlen : vs.length = ss.length := by rw [strs_len hstr, hp.length_eq]
  refine wpAny_bind (wpAny_newObj_type ?_ (by show vs.toArray.size ≤ sizeLine; rw [List.size_toArray, sizeLine_eq]; omega))
  have hoL : (h1.push (seqObj "list" vs.toArray 0)).get? h1.objs.size = some (seqObj "list" vs.toArray 0) := Heap.get?_push_size _ rfl
  refine wpAny_bind (wpAny_holding (wpAny_call_entry slot_list_sort ⟨_, hoL, rfl⟩ entry_list_sort (list_sort_treeK (κ := PyProof.Rows.strKind) strKind_oneLt hoL hstr.keysOf (fun v₁ v₂ rest e => keyKind_strs (by rw [← e]; exact hstr)) (by omega) fun st' a1 a2 => ⟨_, rfl, ?_⟩) (args_list_sort _)))
  obtain ⟨ls', b1, b2, b3⟩ := sorted_out_str hstr a1 a2
  refine wpAny_pure ⟨_, rfl, ?_⟩
  obtain ⟨n, hn⟩ := sortedHeap_at (out := (arrOf st').map (·.2)) hoL
  have hD : s.heap.get? h1.objs.size = none := by
    cases q : s.heap.get? h1.objs.size with
    | none => rfl
    | some o => exact absurd (Heap.lt_size (hk _ _ q)) (Nat.lt_irrefl _)
  refine h _ d tk h1.objs.size _ ls' n (fun b o e => ?_) hD hn b1 (b2.trans hp) b3
  have hb := Heap.lt_size (hk b o e)
  rw [sortedHeap_old (Nat.ne_of_lt hb) (by rw [Heap.size_push]; exact Nat.lt_succ_of_lt hb)]
  exact Heap.get?_push_of_some _ (hk b o e)
end
end Mine

open PySem PySem.W PyProof.Rows
namespace Mine
/-- the top's run told as one run, by the library's twins -/
theorem topFrom_ran {p : Program} {w : World} {N : Nat} {s₀ s : Shared} (z : (s₀.heap.isNs mainGlobals && s₀.gens.size == 0) = true)
    (r : topRun treeTable p w s₀.heap.objs.size (s₀.heap.nsMap mainGlobals "__annotations__") N s₀ (topStub p) = some s)
    (l : (staticsOk (importedModules p.main.body) s₀.heap s.heap && namesBound p s.heap && gensDone s && laidKept s₀.heap s.heap) = true) : topFrom treeTable p w N s₀ = some s := by
  simp only [topFrom, z, r, Option.bind_some, l]
theorem left_of_run {p q : Program} {loose : List Str} {Xt : Shared → Bool} {α : Type} {Yf : Shared → α} {Ya : World → α} {N n : Nat} {ann : Option Value} {g0 : Bool}
    (b : ∀ w : World, (fencedOpening treeTable p w N).map (fun s => (s.heap, s.gens, s.drawn, s.toks)) = some (boot_heap w.params, Array.mk [], boot_drawn, boot_toks))
    (z : ∀ w : World, ((boot_heap w.params).isNs mainGlobals, (boot_heap w.params).objs.size, (boot_heap w.params).nsMap mainGlobals "__annotations__") = (true, n, ann))
    (h : ∀ w : World, (fun os => (Fast.tw14082659384304107361 Fast.tw14364793385576792824 p w n ann N ⟨boot_heap w.params, Array.mk [], boot_drawn, boot_toks, os⟩ (topStub p)).map fun s =>
      ((staticsOk (importedModules p.main.body) (boot_heap w.params) s.heap && namesBound p s.heap && gensDone s && laidKept (boot_heap w.params) s.heap), Fast.tw4187177175401517315 q loose (importedModules p.main.body) Xt g0 s, Yf s)) =
      fun _ => some (true, openGood q loose, Ya w)) : LeftO p q loose Xt Yf Ya N g0 := by
  intro w
  have hb := b w
  cases e : fencedOpening treeTable p w N with
  | none => rw [e] at hb; cases hb
  | some s₀ =>
    rw [e] at hb
    cases s₀ with
    | mk hp gs dr tk os =>
      cases hb
      have e' : fencedOpening treeTable p w N = some ⟨boot_heap w.params, Array.mk [], boot_drawn, boot_toks, os⟩ := e
      clear e
      have hr := congrFun (h w) os
      simp only [← Fast.te14082659384304107361, ← Fast.te14364793385576792824, ← Fast.te4187177175401517315] at hr
      have hz := z w
      cases run : topRun treeTable p w n ann N ⟨boot_heap w.params, Array.mk [], boot_drawn, boot_toks, os⟩ (topStub p) with
      | none => rw [run] at hr; cases hr
      | some s =>
        rw [run] at hr
        simp only [Option.map_some, Option.some.injEq, Prod.mk.injEq] at hr hz
        obtain ⟨z1, z2, z3⟩ := hz
        have t := topFrom_ran (p := p) (w := w) (N := N) (s₀ := ⟨boot_heap w.params, Array.mk [], boot_drawn, boot_toks, os⟩) (s := s) (by rw [z1]; rfl) (by rw [z2, z3]; exact run) hr.1
        simp only [openEnds, e', Option.bind_some, t, Option.map_some, hr.2.1, hr.2.2]

section
local macro_rules | `(tactic| o_head ($_ $k $a $e)) => `(tactic| o_head (kmHook $k $a $e [69, 76]))
local macro_rules
  | `(tactic| refine $f:ident $args*) => do
    if f.getId != `PySem.W.holds_open then Lean.Macro.throwUnsupported
    `(tactic| (refine ($f $args*); (case hl => exact left_of_run (n := 11) (ann := some (.ref 6)) (boot_open (by kernel_rfl) (by kernel_rfl) (fun s => by kernel_rfl)) (fun w => by kernel_rfl) (fun w => by kernel_rfl))))
set_option maxRecDepth 100000 in
set_option maxHeartbeats 8000000 in
open_top hd for PySem.Challenge.rw_wr0010_01
end
end Mine

example : True := by
  w_top off
  trivial
namespace Mine

noncomputable abbrev prg : Program := PySem.Challenge.rw_wr0010_01.row.prog
noncomputable abbrev loose : List Str := looseW hd.view_39 [Str.ofString "_Accumulator"]
noncomputable abbrev GlobM (mg mb : Str → Option Value) (h : Heap) : Prop :=
  Glob 0 mg mb (List.map itemOf (recsOf hd.view_39)) (scalarsOf [] ++ constsW hd.view_39) [] (namesW hd.view_39 [Str.ofString "_Accumulator"]) h

/-- what stands at every heap of the call -/
structure St (w : World) (mean : ExcName → Option Value) (mg mb : Str → Option Value) (h : Heap) : Prop where
  X : (hd.heap_39 w.params).In h
  T : Top hd.view_39 loose mean mg mb h
  GL : GlobM mg mb h

theorem St.keeps {w : World} {mean : ExcName → Option Value} {mg mb : Str → Option Value} {h h' : Heap} (S : St w mean mg mb h) (k : h.StaysIn h') : St w mean mg mb h' :=
  ⟨S.X.keeps k, S.T.keeps k, S.GL.keeps k⟩

/-- a call of a plain def: its frame stands over the whole heap of the caller -/
theorem call_def {prog : Program} {w : World} {A : Around} {R : Result → Shared → Prop} {s : Shared} {K : Frag}
    {name qual : Str} {params : Arguments} {body : List Stmt} {scope : Scope} {dV kV doc pm cdv ct oc : Value} {an od : Option Addr} {osl : Array (Option Value)} {f : Addr} {args : Args} {binds : List (Str × Value)}
    (X : K.In s.heap) (hlim : s.heap.NoLimit)
    (ho : K.lookup f = some ⟨oc, od, .func (fnOf name qual params body scope dV kV doc pm an cdv ct), osl⟩) (hcd : codeIn K cdv qual = true) (hroom : A.depth < recursionLimit)
    (hbind : BindsTo s (fnOf name qual params body scope dV kV doc pm an cdv ct) args binds) (hloc : ∀ y ∈ binds, scope.names.lookup y.1 = some .local)
    (h : ∀ L h₁, Fr s.heap L h₁ (fun y => binds.reverse.lookup y) → News s.heap L h₁ [] →
      wpAny (model prog w) (A.deeper (envOf qual scope L f cdv)) (execs body (envOf qual scope L f cdv))
        (fun fl s' => R (.ok (.ret (match fl with | .ret v => v | _ => .none))) s') (fun _ _ => False)
        { s with heap := h₁, toks := s.toks + binds.length })
    (hco : scope.isCoroutine = false := by rfl) (hgen : scope.isGenerator = false := by rfl) (hk : scope.kind = .function := by rfl)
    (hcell : ∀ x ∈ scope.names, x.2 ≠ .cell := by decide) : codeAny (model prog w) A (.call (.ref f) args) R s := by
  refine codeAny_call_def (fd := fnOf name qual params body scope dV kV doc pm an cdv ct) (body := body) (binds := binds) hroom (X _ _ ho) rfl hlim (codeRec_of X hcd) rfl hbind hcell hloc (fun h₁ hns hk₁ => ?_) hco hgen hk
  exact wpAny_mono (h s.heap.objs.size h₁ ⟨hns, hk₁, Nat.le_refl _⟩ News.nil) (fun _ _ y => y) fun _ _ y => y.elim


/-- an accumulator, its dict, one of its pieces -/
noncomputable abbrev accObj (d : Addr) (vs : Array Value) (n : Nat) : Obj := { cls := .ref 107, dict := some d, data := .seq vs n }
noncomputable abbrev accDict (P : Params) (tk tk' : Tok) : Obj := dictOf [⟨PyData.keyHash P "_initial_size", .str "_initial_size" tk, .int 0 tk'⟩] 1
noncomputable abbrev pieceObj (v : Str) (t₁ t₂ : Tok) (n : Nat) : Obj := { cls := .type "tuple", data := .seq #[.str "\n" t₁, .str v t₂] n }

/-- a call of a def over a written ledger: what stands there may turn -/
theorem call_defN {prog : Program} {w : World} {A : Around} {R : Result → Shared → Prop} {s : Shared} {K : Frag} {news : List (Addr × Obj)}
    {name qual : Str} {params : Arguments} {body : List Stmt} {scope : Scope} {dV kV doc pm cdv ct oc : Value} {an od : Option Addr} {osl : Array (Option Value)} {f : Addr} {args : Args} {binds : List (Str × Value)}
    (X : K.In s.heap) (hlim : s.heap.NoLimit) (N : ∀ p ∈ news, s.heap.get? p.1 = some p.2)
    (ho : K.lookup f = some ⟨oc, od, .func (fnOf name qual params body scope dV kV doc pm an cdv ct), osl⟩) (hcd : codeIn K cdv qual = true) (hroom : A.depth < recursionLimit)
    (hbind : BindsTo s (fnOf name qual params body scope dV kV doc pm an cdv ct) args binds) (hloc : ∀ y ∈ binds, scope.names.lookup y.1 = some .local)
    (h : ∀ L h₁, Fr (hideAll s.heap (news.map (·.1))) L h₁ (fun y => binds.reverse.lookup y) → News (hideAll s.heap (news.map (·.1))) L h₁ news → (∀ p ∈ news, p.1 < L) →
      wpAny (model prog w) (A.deeper (envOf qual scope L f cdv)) (execs body (envOf qual scope L f cdv))
        (fun fl s' => R (.ok (.ret (match fl with | .ret v => v | _ => .none))) s') (fun _ _ => False)
        { s with heap := h₁, toks := s.toks + binds.length })
    (hco : scope.isCoroutine = false := by rfl) (hgen : scope.isGenerator = false := by rfl) (hk : scope.kind = .function := by rfl)
    (hcell : ∀ x ∈ scope.names, x.2 ≠ .cell := by decide) : codeAny (model prog w) A (.call (.ref f) args) R s := by
  refine codeAny_call_def (fd := fnOf name qual params body scope dV kV doc pm an cdv ct) (body := body) (binds := binds) hroom (X _ _ ho) rfl hlim (codeRec_of X hcd) rfl hbind hcell hloc (fun h₁ hns hk₁ => ?_) hco hgen hk
  refine wpAny_mono (h s.heap.objs.size h₁ ⟨hns, fun b o e => hk₁ b o (of_hideAll _ e), Nat.le_of_eq (hideAll_size _ _)⟩ (fun p hp => ?_) fun p hp => ?_) (fun _ _ y => y) fun _ _ y => y.elim
  · exact ⟨hk₁ _ _ (N p hp), Nat.ne_of_lt (Heap.lt_size (N p hp)), hideAll_none _ (List.mem_map_of_mem hp)⟩
  · exact Heap.lt_size (N p hp)

theorem St.hide {w : World} {mean : ExcName → Option Value} {mg mb : Str → Option Value} {g h : Heap} {as : List Addr} (S : St w mean mg mb g) (k : g.StaysIn h) (n : ∀ a ∈ as, g.get? a = none) : St w mean mg mb (hideAll h as) :=
  S.keeps fun b o e => hideAll_get _ (k b o e) fun q => by rw [n b q] at e; cases e

end Mine

namespace Mine
example : (fun (_ : OpenLaw) (_ : Params → Frag) => True) PySem.Challenge.rw_wr0010_01 hd.heap_39 := by
  k_fill
  trivial
open Builtin

section
variable {w : World} {mean : ExcName → Option Value} {mg mb : Str → Option Value} {A : Around} {R : Result → Shared → Prop} {s : Shared} {h : Heap}

noncomputable abbrev Kw (w : World) : Frag := hd.heap_39 w.params

theorem cls_peek {α : Type} {t : Sem α} {r : α} (X : (Kw w).In h) (e : peek (Kw w) ⟨prg, w.params⟩ t = some r) : Looks (model prg w) h t r := Looks.of_peek X e

theorem acc_special_call (X : (Kw w).In h) : Looks (model prg w) h (specialOf (.ref 107) "__call__") (some (.builtin "type.__call__")) := cls_peek X (by kernel_rfl)
theorem acc_mro (X : (Kw w).In h) : Looks (model prg w) h (mroOf (.ref 107)) [.ref 107, .type "list", .type "object"] := cls_peek X (by kernel_rfl)
theorem acc_made (X : (Kw w).In h) : Looks (model prg w) h (Bind.madeBy (.ref 107)) (some "list.__new__") := cls_peek X (by kernel_rfl)
theorem acc_new_check (X : (Kw w).In h) : Looks (model prg w) h (checkBuiltinCall "list.__new__" ⟨[.ref 107], []⟩) () := cls_peek X (by kernel_rfl)
theorem acc_isType (X : (Kw w).In h) : Looks (model prg w) h (isType (.ref 107)) true := cls_peek X (by kernel_rfl)
theorem acc_sub_list (X : (Kw w).In h) : Looks (model prg w) h (isSubtype (.ref 107) (.type "list")) true := cls_peek X (by kernel_rfl)
theorem acc_sub_self (X : (Kw w).In h) : Looks (model prg w) h (isSubtype (.ref 107) (.ref 107)) true := cls_peek X (by kernel_rfl)
theorem acc_init (X : (Kw w).In h) : Looks (model prg w) h (typeLookup (.ref 107) "__init__") (some (.ref 45)) := cls_peek X (by kernel_rfl)
theorem acc_hasDel (X : (Kw w).In h) : Looks (model prg w) h (classHasDel 107) false := cls_peek X (by kernel_rfl)

theorem acc_typ (X : (Kw w).In h) : Looks (model prg w) h (isInstance (.ref 107) (.type "type")) true := cls_peek X (by kernel_rfl)

theorem list_new_code {rest : List Value} (X : (Kw w).In s.heap) (hr : rest = []) (h : R (.ok (.ret (.ref (s.heap.objs.size + 1)))) { s with heap := (s.heap.push emptyDict).push (accObj s.heap.objs.size #[] 0) }) :
    codeAny (model prg w) A (.call (.builtin "list.__new__") ⟨.ref 107 :: rest, []⟩) R s := by
  subst hr
  refine codeAny_call_builtin_code (Code.quiet_builtin _ (by decide +kernel)) ((acc_new_check X).here ?_)
  refine codeAny_builtin_stack F.entry_list_new rfl fun p st => ?_
  have hown := owner_list_new
  simp only [hown]
  have X2 : (Kw w).In ((s.heap.push emptyDict).push (accObj s.heap.objs.size #[] 0)) := fun a o e => Heap.get?_push_of_some _ (Heap.get?_push_of_some _ (X a o e))
  refine wpAny_bind ((acc_isType X).here ?_)
  simp only [Bool.not_true, Bool.false_eq_true, ↓reduceIte]
  refine wpAny_bind ((acc_sub_list X).here ?_)
  simp only [Bool.not_true, Bool.false_eq_true, ↓reduceIte]
  refine wpAny_bind (wpAny_pure ?_)
  rw [if_neg (by decide)]
  refine wpAny_bind (wpAny_newObj_type ?_)
  refine wpAny_bind ?_
  simp only [newObj]
  unfold newObjAsIs
  have hX := X2
  refine wpAny_bind (wpAny_alloc ?_)
  rw [Heap.size_push]
  refine wpAny_bind ((acc_hasDel hX).here ?_)
  simp only [Bool.false_eq_true, ↓reduceIte]
  exact wpAny_pure (wpAny_pure h)

/-- `_Accumulator()` -/
theorem acc_make (X : (Kw w).In s.heap) (hinit : codeAny (model prg w) (A.under (.builtin "type.__call__" ⟨[.ref 107], []⟩)) (.call (.ref 45) ⟨[.ref (s.heap.objs.size + 1)], []⟩) (InitBack (s.heap.objs.size + 1) R) { s with heap := (s.heap.push emptyDict).push (accObj s.heap.objs.size #[] 0) }) :
    codeAny (model prg w) A (.call (.ref 107) ⟨[], []⟩) R s := by
  have X2 : (Kw w).In ((s.heap.push emptyDict).push (accObj s.heap.objs.size #[] 0)) := fun a o e => Heap.get?_push_of_some _ (Heap.get?_push_of_some _ (X a o e))
  refine codeAny_of_tree ?_
  show wpAny _ _ (callAny (.ref 107) _) _ _ _
  refine nd_load (X 107 _ rfl) ?_
  show wpAny _ _ (callAny.viaDunder (.ref 107) _) _ _ _
  unfold callAny.viaDunder
  refine wpAny_bind ((acc_special_call X).here ?_)
  dsimp only
  rw [tc_bind]
  refine wpAny_bind (wpAny_pure (wpAny_bind (wpAny_pure ?_)))
  refine wpAny_pure (a := Fin.again (.call (.builtin "type.__call__") ⟨[.ref 107], []⟩)) (And.intro rfl ?_)
  refine codeAny_call_builtin_at (Code.quiet_builtin _ (by decide +kernel)) entry_typeCall (check_slot tc_kind tc_split (acc_typ X) (tc_args _ _ _) ?_)
  unfold Builtin.«type.__call__»
  dsimp only
  rw [if_neg (by decide)]
  refine wpAny_bind ((acc_mro X).here ?_)
  simp only [List.isEmpty_cons, Bool.false_eq_true, ↓reduceIte]
  refine wpAny_bind ((acc_made X).here ?_)
  dsimp only
  refine wpAny_bind (wpAny_pure ?_)
  refine wpAny_bind (wpAny_holding (wpAny_call (list_new_code X rfl ?_)))
  have hx : ((s.heap.push emptyDict).push (accObj s.heap.objs.size #[] 0)).get? (s.heap.objs.size + 1) = some (accObj s.heap.objs.size #[] 0) := by
    have := Heap.get?_push_size (s.heap.push emptyDict) (o := accObj s.heap.objs.size #[] 0) rfl
    rwa [Heap.size_push] at this
  have t1 : Looks (model prg w) ((s.heap.push emptyDict).push (accObj s.heap.objs.size #[] 0)) (typeOf (.ref (s.heap.objs.size + 1))) (.ref 107) := (Looks.ld hx).andThen .now
  have i1 : Looks (model prg w) ((s.heap.push emptyDict).push (accObj s.heap.objs.size #[] 0)) (isInstance (.ref (s.heap.objs.size + 1)) (.ref 107)) true := t1.andThen (f := fun t => isSubtype t (.ref 107)) (acc_sub_self X2)
  refine wpAny_bind (Looks.here (s := { s with heap := _ }) i1 ?_)
  simp only [Bool.not_true, Bool.false_eq_true, ↓reduceIte]
  refine wpAny_bind (wpAny_holding ?_)
  unfold callSpecial? specialOf
  refine wpAny_bind (wpAny_bind (Looks.here (s := { s with heap := _ }) t1 (Looks.here (s := { s with heap := _ }) (acc_init X2) ?_)))
  dsimp only
  refine wpAny_holding ?_
  refine wpAny_bind (Looks.here (s := { s with heap := _ }) (bind_fn X2 _ (by kernel_rfl)) ?_)
  dsimp only
  refine wpAny_bind (wpAny_call (codeAny_mono hinit fun r s' z => ?_))
  rcases r with e | (v | _ | _ | _) <;> first | exact z | exact z.elim | skip
  obtain ⟨rfl, z⟩ := z
  refine wpAny_pure ?_
  simp only [bne_self_eq_false, Bool.false_eq_true, ↓reduceIte]
  exact wpAny_pure z
end
end Mine

namespace Mine
open Builtin

section
variable {w : World} {mean : ExcName → Option Value} {mg mb : Str → Option Value} {A : Around} {R : Result → Shared → Prop} {s : Shared} {h : Heap} {E : Value → Shared → Prop}

noncomputable abbrev wrapO (i : String) (x : Addr) : Obj := { cls := .type "method-wrapper", data := .fields #[.builtin i, .ref x] }

theorem wd_slot : Slot "wrapper_descriptor" "__get__" "wrapper_descriptor.__get__" :=
  .of (owner := "wrapper_descriptor") (n := "__get__") (by rw [typeLookup_type, builtinLookup_eq_fast]; kernel_rfl) (by decide +kernel) (by decide +kernel) (by decide +kernel)
    (by first | exact .inl (by decide +kernel) | exact .inr (by decide +kernel)) (by rw [isSubtype_type]; kernel_rfl)
theorem wd_entry : entryFor table "wrapper_descriptor.__get__" = some Builtin.«wrapper_descriptor.__get__» := entryFor_of_tree (by kernel_rfl)
theorem wd_args (a b c : Value) : argsOk "wrapper_descriptor.__get__" ⟨[a, b, c], []⟩ := by unfold argsOk; kernel_rfl

theorem typ_init : typeOf (.builtin "list.__init__") = pure (.type "wrapper_descriptor") := by show builtinType _ = _; rw [builtinType_eq_fast]; kernel_rfl
theorem typ_len : typeOf (.builtin "list.__len__") = pure (.type "wrapper_descriptor") := by show builtinType _ = _; rw [builtinType_eq_fast]; kernel_rfl

theorem inst_list {x : Addr} {ox : Obj} (X : (Kw w).In h) (hx : h.get? x = some ox) (hc : ox.cls = .ref 107) : Looks (model prg w) h (isInstance (.ref x) (.type "list")) true :=
  Looks.andThen (f := fun t => isSubtype t (.type "list")) ((Looks.ld hx).andThen .now) (by rw [hc]; exact acc_sub_list X)

theorem wd_get_len {x : Addr} {ox : Obj} (X : (Kw w).In s.heap) (hx : s.heap.get? x = some ox) (hc : ox.cls = .ref 107) {Q : Value → Shared → Prop}
    (hq : Q (.ref s.heap.objs.size) { s with heap := s.heap.push (wrapO "list.__len__" x) }) :
    wpAny (model prg w) A (Builtin.«wrapper_descriptor.__get__» ⟨[.builtin "list.__len__", .ref x, .ref 107], []⟩) (fun fin s' => ∃ v, fin = .done (.ret v) ∧ Q v s') E s := by
  unfold Builtin.«wrapper_descriptor.__get__»
  refine wpAny_bind (wpAny_pure ?_)
  dsimp only
  refine wpAny_bind ?_
  refine wpAny_bind (wpAny_pure ?_)
  refine wpAny_bind ((inst_list X hx hc).here ?_)
  simp only [Bool.not_true, Bool.false_eq_true, ↓reduceIte]
  refine wpAny_pure ?_
  refine wpAny_bind ?_
  unfold newFields
  refine wpAny_newObj_type ?_ (by size_fits)
  exact wpAny_pure ⟨_, rfl, hq⟩
theorem wd_get_init {x : Addr} {ox : Obj} (X : (Kw w).In s.heap) (hx : s.heap.get? x = some ox) (hc : ox.cls = .ref 107) {Q : Value → Shared → Prop}
    (hq : Q (.ref s.heap.objs.size) { s with heap := s.heap.push (wrapO "list.__init__" x) }) :
    wpAny (model prg w) A (Builtin.«wrapper_descriptor.__get__» ⟨[.builtin "list.__init__", .ref x, .ref 107], []⟩) (fun fin s' => ∃ v, fin = .done (.ret v) ∧ Q v s') E s := by
  unfold Builtin.«wrapper_descriptor.__get__»
  refine wpAny_bind (wpAny_pure ?_)
  dsimp only
  refine wpAny_bind ?_
  refine wpAny_bind (wpAny_pure ?_)
  refine wpAny_bind ((inst_list X hx hc).here ?_)
  simp only [Bool.not_true, Bool.false_eq_true, ↓reduceIte]
  refine wpAny_pure ?_
  refine wpAny_bind ?_
  unfold newFields
  refine wpAny_newObj_type ?_ (by size_fits)
  exact wpAny_pure ⟨_, rfl, hq⟩

theorem super_ga {so x : Addr} {name : Str} {i : String} {tk : Tok} {Q : Fin → Shared → Prop} (X : (Kw w).In s.heap) (hso : s.heap.get? so = some (ks_superObj 107 x 107)) (hx107 : x ≠ 107)
    (hal : alongIn (Kw w) name [.type "list", .type "object"] = some (some (.builtin i))) (hty : typeOf (.builtin i) = pure (.type "wrapper_descriptor")) (hn : (name == ("__class__" : Str)) = false)
    (hg : ∀ (A' : Around) (Q' : Value → Shared → Prop), Q' (.ref s.heap.objs.size) { s with heap := s.heap.push (wrapO i x) } → wpAny (model prg w) A' (Builtin.«wrapper_descriptor.__get__» ⟨[.builtin i, .ref x, .ref 107], []⟩) (fun fin s' => ∃ v, fin = .done (.ret v) ∧ Q' v s') (fun _ _ => False) s)
    (hq : Q (.done (.ret (.ref s.heap.objs.size))) { s with heap := s.heap.push (wrapO i x) }) :
    wpAny (model prg w) A (Builtin.«super.__getattribute__» ⟨[.ref so, .str name tk], []⟩) Q (fun _ _ => False) s := by
  have hno : Looks (model prg w) s.heap (opaqueClassAbove (.ref 107)) none := cls_peek X (by kernel_rfl)
  obtain ⟨hp, g, d, t, os⟩ := s
  have hdt : (ks_superObj 107 x 107).data = .fields #[.ref 107, .ref x, .ref 107] := rfl
  unfold Builtin.«super.__getattribute__»
  refine wpAny_bind (wpAny_pure ?_)
  dsimp only
  refine wpAny_bind (wpAny_pure ?_)
  dsimp only
  have f0 : (#[.ref 107, .ref x, .ref 107] : Array Value)[0]? = some (.ref 107) := rfl
  have f1 : (#[.ref 107, .ref x, .ref 107] : Array Value)[1]? = some (.ref x) := rfl
  have f2 : (#[.ref 107, .ref x, .ref 107] : Array Value)[2]? = some (.ref 107) := rfl
  refine wpAny_bind (wpAny_field hso hdt f0 ?_)
  refine wpAny_bind (wpAny_field hso hdt f1 ?_)
  refine wpAny_bind (wpAny_field hso hdt f2 ?_)
  rw [hn]
  rw [if_neg (by decide)]
  refine wpAny_bind (ks_wpAny_notOpaque hno ?_)
  rw [if_neg (by decide)]
  refine wpAny_bind ((acc_mro X).here ?_)
  rw [show List.drop 1 (List.dropWhile (fun x => x != Value.ref 107) [Value.ref 107, Value.type "list", Value.type "object"]) = [Value.type "list", Value.type "object"] from rfl]
  refine wpAny_bind (ks_forIn_along X (fun _ _ => rfl) rfl ?_ hal)
  dsimp only
  have hne : (Value.ref x == Value.ref 107) = false := by simp [hx107]
  have hT : (⟨hp, g, d, t, os⟩ : Shared).TypeIs (.builtin i) "wrapper_descriptor" := hty
  refine wpAny_bind (wpAny_of_eq hty ?_)
  refine wpAny_bind (wpAny_of_eq wd_slot.lookup ?_)
  dsimp only
  rw [hne]
  simp only [Bool.false_eq_true, ↓reduceIte]
  refine wpAny_bind (wpAny_holding (wpAny_call_entry wd_slot hT wd_entry ?_ (wd_args _ _ _)))
  refine hg _ _ ?_
  refine wpAny_bind (wpAny_pure ?_)
  exact wpAny_pure (wpAny_pure hq)

theorem super_method {so x : Addr} {name : Str} {i : String} {pl : Sem Bool} {Q : Value × List Value → Shared → Prop} (X : (Kw w).In s.heap) (hso : s.heap.get? so = some (ks_superObj 107 x 107)) (hx107 : x ≠ 107)
    (hal : alongIn (Kw w) name [.type "list", .type "object"] = some (some (.builtin i))) (hty : typeOf (.builtin i) = pure (.type "wrapper_descriptor")) (hn : (name == ("__class__" : Str)) = false)
    (hg : ∀ (A' : Around) (tk : Nat) (Q' : Value → Shared → Prop), Q' (.ref s.heap.objs.size) { s with heap := s.heap.push (wrapO i x), toks := tk } → wpAny (model prg w) A' (Builtin.«wrapper_descriptor.__get__» ⟨[.builtin i, .ref x, .ref 107], []⟩) (fun fin s' => ∃ v, fin = .done (.ret v) ∧ Q' v s') (fun _ _ => False) { s with toks := tk })
    (hq : Q (.ref s.heap.objs.size, []) { s with heap := s.heap.push (wrapO i x), toks := s.toks + 1 }) :
    wpAny (model prg w) A (getMethod (.ref so) name pl) Q E s := by
  have hlk := F.ks_slot_super_ga.lookup
  have hT : ∀ t', ({ s with toks := t' } : Shared).TypeIs (.ref so) "super" := fun _ => ⟨_, hso, rfl⟩
  unfold getMethod
  refine wpAny_bind (wpAny_specialOf (hT _) hlk ?_)
  show wpAny _ _ (if (Manifest.canonical "super.__getattribute__" != "object.__getattribute__") = true then _ else _) _ _ _
  rw [if_pos F.ks_canon_super_ga]
  unfold getAttr getAttrBy
  refine wpAny_bind (wpAny_bind (wpAny_mkText (wpAny_holding (wpAny_bind (wpAny_typeOf (hT _) (wpAny_bind (wpAny_of_eq hlk ?_)))))))
  show wpAny _ _ (getAttrByItsOwn (.ref so) (.str name s.toks) (.type "super") (.builtin "super.__getattribute__") true false) _ _ _
  unfold getAttrByItsOwn hookBefore callGetattribute boundAndCalled
  refine wpAny_bind (wpAny_of_eq (show (if onTheHeap (.type "super") then typeLookup (.type "super") "__getattr__" else pure none) = pure none from rfl) ?_)
  refine wpAny_bind (wpAny_attempt (wpAny_holding ?_))
  show wpAny _ _ (bindSpecial (.builtin "super.__getattribute__") (.ref so) >>= _) _ _ _
  refine wpAny_bind (wpAny_of_eq (F.ks_slot_super_ga.bind _) ?_)
  refine wpAny_mono (Q := fun v s' => v = .ref s.heap.objs.size ∧ s' = { s with heap := s.heap.push (wrapO i x), toks := s.toks + 1 }) (E := fun _ _ => False)
    (wpAny_call_entry F.ks_slot_super_ga (hT _) F.ks_entry_super_ga (super_ga (s := { s with toks := s.toks + 1 }) X hso hx107 hal hty hn (fun A' Q' q => hg A' (s.toks + 1) Q' q) ⟨_, rfl, rfl, rfl⟩) (F.ks_gaArgs_super _ _)) (fun v s' hv => ?_) fun _ _ z => z.elim
  obtain ⟨rfl, rfl⟩ := hv
  exact wpAny_pure (wpAny_pure hq)

/-- a call of what a super() handed out -/
theorem call_wrap {q x : Addr} {i : String} {args : List Value} {Q : Value → Shared → Prop} (hq : s.heap.get? q = some (wrapO i x)) (hcode : Code.quiet (.builtin i ⟨.ref x :: args, []⟩) = true)
    (hchk : ∀ (A' : Around) (Q' : Unit → Shared → Prop) (E' : Value → Shared → Prop), Q' () s → wpAny (model prg w) A' (checkBoundCall i ⟨.ref x :: args, []⟩) Q' E' s)
    (hb : codeAny (model prg w) A (.builtin i ⟨.ref x :: args, []⟩) (fun r s' => match r with | .ok (.ret v) => Q v s' | .ok _ => False | .error e => E e s') s) : wpAny (model prg w) A (call (.ref q) args) Q E s := by
  refine wpAny_call (codeAny_of_tree ?_)
  show wpAny _ _ (callAny (.ref q) _) _ _ _
  unfold callAny
  refine wpAny_bind (wpAny_load hq ?_)
  dsimp only
  rw [if_pos (by decide)]
  simp only [List.getElem?_toArray, List.getElem?_cons_zero, List.getElem?_cons_succ]
  rw [if_pos (by decide)]
  refine wpAny_bind (hchk _ _ _ ?_)
  exact wpAny_pure (a := Fin.again _) ⟨hcode, hb⟩
end
end Mine

namespace Mine
open Builtin

section
variable {w : World} {mean : ExcName → Option Value} {mg mb : Str → Option Value} {A : Around} {R : Result → Shared → Prop} {s : Shared} {h : Heap} {E : Value → Shared → Prop}
variable {x d : Addr} {vs : Array Value} {n : Nat}

theorem li_kind : builtinKind "list.__init__" = some .slot := by decide +kernel
theorem ll_kind : builtinKind "list.__len__" = some .slot := by decide +kernel
theorem la_kind : builtinKind "list.append" = some .method := by decide +kernel
theorem lt_kind : builtinKind "list.__iter__" = some .slot := by decide +kernel
theorem lg_kind : (builtinKind "list.__getitem__" = some .slot ∨ builtinKind "list.__getitem__" = some .method) := by first | exact .inl (by decide +kernel) | exact .inr (by decide +kernel)
theorem ls_kind : (builtinKind "list.__setitem__" = some .slot ∨ builtinKind "list.__setitem__" = some .method) := by first | exact .inl (by decide +kernel) | exact .inr (by decide +kernel)
theorem li_entry : entryFor table "list.__init__" = some Builtin.«list.__init__» := entryFor_of_tree (by kernel_rfl)
theorem lt_entry : entryFor table "list.__iter__" = some Builtin.«list.__iter__» := entryFor_of_tree (by kernel_rfl)
theorem li_args (a : Value) : argsOk "list.__init__" ⟨[a], []⟩ := by unfold argsOk; kernel_rfl
theorem lt_args (a : Value) : argsOk "list.__iter__" ⟨[a], []⟩ := by unfold argsOk; kernel_rfl

theorem check_any {M : Model} {i owner nm : String} {self : Value} {rest : List Value} {kw : List (Str × Value)} {Q : Unit → Shared → Prop}
    (hk : builtinKind i = some .slot ∨ builtinKind i = some .method) (hs : splitId i = some (owner, nm)) (hi : Looks M s.heap (isInstance self (.type owner)) true) (ha : argsOk i ⟨self :: rest, kw⟩) (q : Q () s) :
    wpAny M A (checkBuiltinCall i ⟨self :: rest, kw⟩) Q E s := by
  rcases hk with hk | hk
  · exact check_slot hk hs hi ha q
  · simp only [checkBuiltinCall, hk, hs]
    refine wpAny_bind (hi.here ?_)
    simp only [Bool.not_true, Bool.false_eq_true, if_false]
    cases hsig : Manifest.signature? i with
    | none => exact wpAny_pure q
    | some sig =>
      simp only [argsOk, hsig] at ha
      have h2 : Bind.checkArgs i sig ⟨self :: rest, kw⟩ = pure () := ha
      show wpAny M A (Bind.checkArgs i sig ⟨self :: rest, kw⟩) Q E s
      rw [h2]; exact wpAny_pure q

/-- a builtin of list, called on an accumulator -/
theorem acc_call {i nm : String} {B : Builtin} {rest : List Value} {Q : Value → Shared → Prop} (X : (Kw w).In s.heap) {ox : Obj} (hx : s.heap.get? x = some ox) (hc : ox.cls = .ref 107)
    (hk : builtinKind i = some .slot ∨ builtinKind i = some .method) (hs : splitId i = some ("list", nm)) (hp : plainId i = true) (hb : entryFor table i = some B) (ha : argsOk i ⟨.ref x :: rest, []⟩)
    (hB : wpAny (model prg w) A.in1 (B ⟨.ref x :: rest, []⟩) (fun fin s' => ∃ v, fin = .done (.ret v) ∧ Q v s') E s) : wpAny (model prg w) A (call (.builtin i) (.ref x :: rest)) Q E s := by
  refine wpAny_call (codeAny_call_builtin hp hb (check_any hk hs (inst_list X hx hc) ha (wpAny_mono hB (fun fin s' h' => ?_) fun _ _ h' => h')))
  obtain ⟨v, rfl, hv⟩ := h'; exact hv

theorem mapSeq_acc (f : Array Value → Array Value) : ∃ n', Obj.mapSeq f (accObj d vs n) = accObj d (f vs) n' := ⟨_, rfl⟩

theorem acc_update {f : Array Value → Array Value} {Q : Unit → Shared → Prop} (hx : s.heap.get? x = some (accObj d vs n)) (hz : vs.size ≤ 1000) (hz' : (f vs).size ≤ 1000)
    (hq : ∀ h', Heap.SameBut x s.heap h' → ∀ n', h'.get? x = some (accObj d (f vs) n') → Q () { s with heap := h' }) : wpAny (model prg w) A (updateSeq x f) Q E s := by
  obtain ⟨n', hn⟩ := mapSeq_acc (d := d) (vs := vs) (n := n) f
  refine wpAny_updateSeq hx rfl (hq _ (Heap.SameBut.update ..) n' ?_) (Nat.le_trans hz (by decide)) (Nat.le_trans hz' (by decide))
  rw [Heap.get?_update_self _ hx (by rw [hn]; rfl), hn]

theorem acc_append {v : Value} {Q : Value → Shared → Prop} (X : (Kw w).In s.heap) (hx : s.heap.get? x = some (accObj d vs n)) (hz : vs.size < 1000)
    (hq : ∀ h', Heap.SameBut x s.heap h' → ∀ n', h'.get? x = some (accObj d (vs.push v) n') → Q .none { s with heap := h' }) : wpAny (model prg w) A (call (.builtin "list.append") [.ref x, v]) Q E s := by
  refine acc_call (nm := "append") X hx rfl (.inr la_kind) (by decide +kernel) (by decide +kernel) entry_list_append (args_list_append _ _) ?_
  show wpAny _ _ (updateSeq x (·.push v) >>= fun _ => ret .none) _ _ s
  refine wpAny_bind (acc_update hx (by omega) (by rw [Array.size_push]; omega) fun h' a n' b => wpAny_pure ⟨_, rfl, hq h' a n' b⟩)

theorem acc_ga (X : (Kw w).In h) : Looks (model prg w) h (typeLookup (.ref 107) "__getattribute__") (some (.builtin "list.__getattribute__")) := cls_peek X (by kernel_rfl)
theorem acc_gattr (X : (Kw w).In h) : Looks (model prg w) h (typeLookup (.ref 107) "__getattr__") none := cls_peek X (by kernel_rfl)
theorem acc_look_append (X : (Kw w).In h) : Looks (model prg w) h (typeLookup (.ref 107) "append") (some (.builtin "list.append")) := cls_peek X (by kernel_rfl)
theorem acc_look_getitem (X : (Kw w).In h) : Looks (model prg w) h (typeLookup (.ref 107) "__getitem__") (some (.builtin "list.__getitem__")) := cls_peek X (by kernel_rfl)
theorem acc_look_setitem (X : (Kw w).In h) : Looks (model prg w) h (typeLookup (.ref 107) "__setitem__") (some (.builtin "list.__setitem__")) := cls_peek X (by kernel_rfl)
theorem acc_look_iter (X : (Kw w).In h) : Looks (model prg w) h (typeLookup (.ref 107) "__iter__") (some (.builtin "list.__iter__")) := cls_peek X (by kernel_rfl)
theorem acc_type {ox : Obj} (hx : h.get? x = some ox) (hc : ox.cls = .ref 107) : Looks (model prg w) h (typeOf (.ref x)) (.ref 107) := by
  rw [← hc]; exact (Looks.ld hx).andThen .now

/-- self.append -/
theorem acc_meth_append {pl : Sem Bool} {tk tk' : Tok} {Q : Value × List Value → Shared → Prop} (X : (Kw w).In s.heap) (hx : s.heap.get? x = some (accObj d vs n)) (hd : s.heap.get? d = some (accDict w.params tk tk'))
    (hq : Q (.builtin "list.append", [.ref x]) s) : wpAny (model prg w) A (getMethod (.ref x) "append" pl) Q E s := by
  have hcan : (Manifest.canonical "list.__getattribute__" != "object.__getattribute__") = false := by decide +kernel
  unfold getMethod specialOf
  refine wpAny_bind (wpAny_bind ((acc_type hx rfl).here ((acc_ga X).here ?_)))
  dsimp only
  rw [hcan, if_neg (by decide)]
  refine wpAny_bind (wpAny_bind ((acc_type hx rfl).here ((acc_gattr X).here ?_)))
  rw [if_neg (by decide)]
  refine wpAny_bind (wpAny_bind ((acc_type hx rfl).here ((acc_look_append X).here (wpAny_bind (wpAny_of_eq type_list_append ?_)))))
  rw [if_neg (by decide +kernel)]
  refine wpAny_bind (wpAny_loadPart hx ?_)
  refine wpAny_bind (wpAny_bind (wpAny_loadPart hd ?_))
  have e : lookIn "append" (accDict w.params tk tk') = some none := by kernel_rfl
  rw [nsLook_of e]
  refine wpAny_pure ?_
  rw [if_neg (by decide)]
  exact wpAny_bind (wpAny_rule (wpAny_pure hq))
end
end Mine

namespace Mine
open Builtin

section
variable {w : World} {mean : ExcName → Option Value} {mg mb : Str → Option Value} {A : Around} {R : Result → Shared → Prop} {s : Shared} {h : Heap} {E : Value → Shared → Prop}
variable {x d : Addr} {vs : Array Value} {n : Nat}

theorem acc_noSeq (X : (Kw w).In h) : Looks (model prg w) h (seqItemTypes.anyM fun n => isSubtype (.ref 107) (.type n)) false := cls_peek X (by kernel_rfl)

theorem acc_seqKey {k : Value} {nm : Str} {Q : Value → Shared → Prop} (X : (Kw w).In s.heap) {ox : Obj} (hx : s.heap.get? x = some ox) (hc : ox.cls = .ref 107) (hq : Q k s) : wpAny (model prg w) A (sequenceKey (.ref x) k nm) Q E s := by
  unfold sequenceKey
  refine wpAny_bind ((acc_type hx hc).here ?_)
  dsimp only
  refine wpAny_bind ((acc_noSeq X).here ?_)
  rw [if_pos (by decide)]
  exact wpAny_pure hq

theorem lg_bind (self : Value) : bindSpecial (.builtin "list.__getitem__") self = pure (.builtin "list.__getitem__", [self]) := slot_list_getitem.bind self
theorem acc_slotcall {nm : Str} {i : String} {args : List Value} {Q : Option Value → Shared → Prop} {ox : Obj} (hx : s.heap.get? x = some ox) (hc : ox.cls = .ref 107)
    (hl : Looks (model prg w) s.heap (typeLookup (.ref 107) nm) (some (.builtin i))) (hb : bindSpecial (.builtin i) (.ref x) = pure (.builtin i, [.ref x]))
    (h : wpAny (model prg w) A (call (.builtin i) (.ref x :: args)) (fun v s' => Q (some v) s') E s) : wpAny (model prg w) A (callSpecial? (.ref x) nm args) Q E s := by
  unfold callSpecial? specialOf
  refine wpAny_bind (wpAny_bind ((acc_type hx hc).here (hl.here ?_)))
  dsimp only
  refine wpAny_holding ?_
  refine wpAny_bind (wpAny_of_eq hb ?_)
  exact wpAny_bind (wpAny_mono h (fun _ _ z => wpAny_pure z) fun _ _ z => z)

theorem pick_from (items : Array Value) (k : Nat) (hk : k ≤ items.size) : slicePick items (some (k : Int)) none none = (items.toList.drop k).toArray := slicePick_from items k hk

theorem acc_slice {value slice : Expr} {sl : Addr} {k : Nat} {tk : Tok} {Q : Value → Shared → Prop} (X : (Kw w).In s.heap) (hx : s.heap.get? x = some (accObj d vs n)) (hsl : s.heap.IsSliceOf sl (.int k tk) .none .none) (hk : k ≤ vs.size) (hz : vs.size ≤ 1000)
    (h : Q (.ref s.heap.objs.size) { s with heap := s.heap.push { cls := .type "list", data := .seq (vs.toList.drop k).toArray } })
    (hs : subscripted slice false (.ref x) (.ref sl) = operate [.ref sl, .ref x] (getItem (.ref x) (.ref sl)) := by with_unfolding_all rfl)
    (ht : ∀ r, letTemporaryGo value (.ref x) r = pure () := by intro _; with_unfolding_all rfl) :
    wpAny (model prg w) A (subscriptTail value slice (.ref x) (.ref sl)) Q E s := by
  have g : wpAny (model prg w) A (getItem (.ref x) (.ref sl)) Q E s := by
    obtain ⟨os, hos, hcs, hds⟩ := id hsl
    have hTs : s.TypeIs (.ref sl) "slice" := ⟨os, hos, hcs⟩
    unfold getItem
    refine wpAny_holding ?_
    refine wpAny_bind (acc_seqKey X hx rfl ?_)
    refine wpAny_bind (acc_slotcall hx rfl (acc_look_getitem X) (lg_bind _) (acc_call (nm := "__getitem__") X hx rfl lg_kind (by decide +kernel) (by decide +kernel) entry_list_getitem (args_list_getitem _ _) ?_))
    show wpAny _ _ (Builtin.List.listSubscript? (.ref sl) >>= _) _ _ s
    refine wpAny_bind ?_
    unfold Builtin.List.listSubscript?
    refine wpAny_bind (wpAny_specialOf hTs slice_no_index ?_)
    simp only [Option.isNone_none, if_true]
    refine wpAny_pure ?_
    show wpAny _ _ (typeOf (.ref sl) >>= _) _ _ s
    refine wpAny_bind (wpAny_typeOf hTs ?_)
    rw [if_neg (by decide)]
    rw [listSliceParts_eq]
    refine wpAny_bind (wpAny_bind (wpAny_field hos hds (x := .none) rfl (wpAny_bind (wpAny_listPart .none ?_))))
    rw [if_neg (by decide)]
    refine wpAny_bind (wpAny_field hos hds (x := .int k tk) rfl (wpAny_bind (wpAny_listPart (.int _ _) ?_)))
    refine wpAny_bind (wpAny_field hos hds (x := .none) rfl (wpAny_bind (wpAny_listPart .none (wpAny_pure ?_))))
    refine wpAny_bind (m := Builtin.List.listItems (.ref x)) ?_
    unfold Builtin.List.listItems
    refine wpAny_bind (wpAny_seqItems hx rfl (wpAny_pure ?_))
    refine wpAny_bind (wpAny_of_eq (sliceIndices_raw (some k) none none vs.size (by simp)) ?_)
    refine wpAny_bind (wpAny_newObj_type (wpAny_pure ⟨_, rfl, wpAny_pure ?_⟩) (Nat.le_trans (slicePick_size_le vs (some k) none none) (Nat.le_trans hz (by decide))))
    have e := pick_from vs k hk
    unfold slicePick at e
    rw [e]
    exact h
  unfold subscriptTail
  refine wpAny_bind ?_
  unfold getitemInPython specialOf
  refine wpAny_bind (wpAny_bind ((acc_type hx rfl).here ((acc_look_getitem X).here ?_)))
  refine wpAny_pure ?_
  refine wpAny_bind ?_
  rw [hs]
  exact wpAny_operating (wpAny_mono g (fun r s₃ h₃ => wpAny_bind (wpAny_of_eq (ht r) (wpAny_pure h₃))) fun _ _ x => x)

theorem acc_setslice {sl l : Addr} {k : Nat} {tk : Tok} {nl : Nat} {Q : Unit → Shared → Prop} (X : (Kw w).In s.heap) (hx : s.heap.get? x = some (accObj d vs n)) (hsl : s.heap.IsSliceOf sl (.int k tk) .none .none) (hl : s.heap.get? l = some (listOf #[] nl)) (hne : x ≠ l) (hk : k ≤ vs.size) (hz : vs.size ≤ 1000)
    (h : ∀ h', Heap.SameBut x s.heap h' → ∀ n', h'.get? x = some (accObj d (vs.toList.take k).toArray n') → Q () { s with heap := h' }) :
    wpAny (model prg w) A (setItem (.ref x) (.ref sl) (.ref l)) Q E s := by
  obtain ⟨os, hos, hcs, hds⟩ := id hsl
  have hTs : s.TypeIs (.ref sl) "slice" := ⟨os, hos, hcs⟩
  have hTl : s.TypeIs (.ref l) "list" := ⟨_, hl, rfl⟩
  unfold setItem
  refine wpAny_holding ?_
  refine wpAny_bind (acc_seqKey X hx rfl ?_)
  refine wpAny_bind (acc_slotcall hx rfl (acc_look_setitem X) (slot_list_setitem.bind _) (acc_call (nm := "__setitem__") X hx rfl ls_kind (by decide +kernel) (by decide +kernel) entry_list_setitem (args_list_setitem _ _ _) ?_))
  show wpAny _ _ (Builtin.List.listSubscript? (.ref sl) >>= _) _ _ s
  refine wpAny_bind ?_
  unfold Builtin.List.listSubscript?
  refine wpAny_bind (wpAny_specialOf hTs slice_no_index ?_)
  simp only [Option.isNone_none, if_true]
  refine wpAny_pure ?_
  show wpAny _ _ (typeOf (.ref sl) >>= _) _ _ s
  refine wpAny_bind (wpAny_typeOf hTs ?_)
  rw [if_neg (by decide)]
  rw [listSliceParts_eq]
  refine wpAny_bind (wpAny_bind (wpAny_field hos hds (x := .none) rfl (wpAny_bind (wpAny_listPart .none ?_))))
  rw [if_neg (by decide)]
  refine wpAny_bind (wpAny_field hos hds (x := .int k tk) rfl (wpAny_bind (wpAny_listPart (.int _ _) ?_)))
  refine wpAny_bind (wpAny_field hos hds (x := .none) rfl (wpAny_bind (wpAny_listPart .none (wpAny_pure ?_))))
  have hsr : List.listSameRef (.ref x) (.ref l) = false := by simp [List.listSameRef, hne]
  rw [hsr, if_neg (by decide)]
  refine wpAny_bind ?_
  unfold Builtin.List.listAllItems
  refine wpAny_bind (wpAny_typeOf hTl ?_)
  rw [if_pos (by decide)]
  refine wpAny_listItems hl rfl ?_
  refine wpAny_bind (wpAny_listItems hx rfl ?_)
  have sb : sliceBounds (some (k : Int)) none none vs.size = ((k : Int), (vs.size : Int), 1) := by
    simp only [sliceBounds, Option.getD_none]
    have h1 : ¬ ((k : Int) < 0) := by omega
    simp only [h1, if_false, show (1 : Int) > 0 by decide, if_true]
    congr 1
    omega
  refine wpAny_bind (wpAny_of_eq (sliceIndices_raw (some k) none none vs.size (by simp)) ?_)
  rw [sb]
  dsimp only
  rw [if_pos (by decide)]
  refine wpAny_bind (wpAny_rule ?_)
  have hlong : List.listTooLong (vs.size + (#[] : Array Value).size) = false := by
    have e : vs.size + (#[] : Array Value).size = vs.size := rfl
    have b : (1000 : Nat) ≤ sizeLine := by decide
    rw [e]; unfold List.listTooLong; simp; omega
  rw [hlong, if_neg (by decide)]
  have hm : (max (k : Int) (vs.size : Int)).toNat = vs.size := by omega
  rw [hm]
  refine wpAny_bind (m := Builtin.List.listUpdate (.ref x) _) ?_
  unfold Builtin.List.listUpdate
  have e1 : ∀ n', (accObj d (vs.extract 0 (k : Int).toNat ++ #[] ++ vs.extract vs.size) n') = accObj d (vs.toList.take k).toArray n' := fun n' => by
    have : vs.extract 0 (k : Int).toNat ++ #[] ++ vs.extract vs.size = (vs.toList.take k).toArray := by
      apply Array.ext'; simp
    rw [this]
  refine acc_update hx hz (by simp; omega) fun h' hs n' hx' => ?_
  rw [e1] at hx'
  exact wpAny_bind (wpAny_letGo (wpAny_pure ⟨_, rfl, wpAny_pure (h h' hs n' hx')⟩))
end
end Mine

namespace Mine
open Builtin
noncomputable abbrev tabO (ps : Array Value) : Obj := { cls := .none, data := .fields ps }

section
variable {M : Model} {A : Around} {E : Value → Shared → Prop} {s : Shared}
theorem genexprCode_any {env : Env} {c P : Addr} {ps : Array Value} {pos : Pos} {qualname : Str} {scope : Scope} {Q : Value → Shared → Prop} (hc : env.code = .ref c) (hok : s.heap.IsCode c P ps) (ht : s.heap.TableAt c P ps)
    (hQ : ∀ code h' tk ps', Heap.ExtBut P s.heap h' → s.heap.objs.size ≤ h'.objs.size → h'.IsCode c P ps' → h'.TableAt c P ps' → Q code { s with heap := h', toks := tk }) :
    wpAny M A (genexprCode env pos qualname scope) Q E s := by
  cases hnf : codeAmong pos ps.toList with
  | none => exact wpAny_genexprCodeX hc hok ht hnf fun c' h' tk a b d e f g i => hQ _ _ _ _ a (Nat.le_trans b (Nat.le_of_lt d)) e g
  | some cv =>
    obtain ⟨o, vs, file, tf, flags, tg, inF, text, tt, op, ho, hd, h11, h2, h7, h9, h10, hop, hpd, htr, hne⟩ := id hok
    unfold genexprCode codeAt
    rw [hc, if_neg (show ¬ ((Value.ref c == Value.none) = true) from Bool.false_ne_true)]
    refine wpAny_bind (wpAny_fieldsOf ho hd ?_)
    rw [h11]
    refine wpAny_bind (wpAny_fieldsOf hop hpd ?_)
    rw [hnf]
    exact wpAny_pure (hQ cv s.heap s.toks ps (Heap.ExtBut.refl _ _) (Nat.le_refl _) hok ht)
end

section
variable {w : World} {mean : ExcName → Option Value} {mg mb : Str → Option Value} {A : Around} {R : Result → Shared → Prop} {s : Shared} {h : Heap} {E : Value → Shared → Prop}
variable {x d : Addr} {vs : Array Value} {n : Nat}

/-- the pieces that an accumulator holds: ("\n", a line) each -/
inductive Pieces (h : Heap) : List Value → List Str → Prop where
  | nil : Pieces h [] []
  | cons {T : Addr} {l : Str} {t₁ t₂ : Tok} {n : Nat} {vs : List Value} {ls : List Str} : h.get? T = some (pieceObj l t₁ t₂ n) → Pieces h vs ls → Pieces h (.ref T :: vs) (l :: ls)

theorem Pieces.keep {h h' : Heap} : ∀ {vs : List Value} {ls : List Str}, Pieces h vs ls → (∀ b o, o.cls = .type "tuple" → h.get? b = some o → h'.get? b = some o) → Pieces h' vs ls
  | _, _, .nil, _ => .nil
  | _, _, .cons e r, k => .cons (k _ _ rfl e) (r.keep k)
theorem Pieces.len {h : Heap} : ∀ {vs : List Value} {ls : List Str}, Pieces h vs ls → vs.length = ls.length
  | _, _, .nil => rfl
  | _, _, .cons _ r => by rw [List.length_cons, List.length_cons, r.len]
theorem Pieces.at {h : Heap} : ∀ {vs : List Value} {ls : List Str}, Pieces h vs ls → ∀ (i : Nat) (v : Value), vs[i]? = some v → ∃ T l t₁ t₂ n, v = .ref T ∧ ls[i]? = some l ∧ h.get? T = some (pieceObj l t₁ t₂ n)
  | _, _, .nil, i, v, e => by simp at e
  | _, _, .cons e' r, 0, v, e => by simp at e; exact ⟨_, _, _, _, _, e.symm, rfl, e'⟩
  | _, _, .cons e' r, i + 1, v, e => by
    simp only [List.getElem?_cons_succ] at e ⊢
    exact r.at i v e
theorem Pieces.drop {h : Heap} : ∀ {vs : List Value} {ls : List Str}, Pieces h vs ls → ∀ k : Nat, Pieces h (vs.drop k) (ls.drop k)
  | _, _, .nil, k => by simp; exact .nil
  | _, _, .cons e r, 0 => .cons e r
  | _, _, .cons e r, k + 1 => by simpa using r.drop k
theorem Pieces.take {h : Heap} : ∀ {vs : List Value} {ls : List Str}, Pieces h vs ls → ∀ k : Nat, Pieces h (vs.take k) (ls.take k)
  | _, _, .nil, k => by simp; exact .nil
  | _, _, .cons e r, 0 => by simp; exact .nil
  | _, _, .cons e r, k + 1 => by simpa using .cons e (r.take k)
theorem Pieces.snoc {h : Heap} {T : Addr} {l : Str} {t₁ t₂ : Tok} {n : Nat} (e : h.get? T = some (pieceObj l t₁ t₂ n)) : ∀ {vs : List Value} {ls : List Str}, Pieces h vs ls → Pieces h (vs ++ [.ref T]) (ls ++ [l])
  | _, _, .nil => .cons e .nil
  | _, _, .cons e' r => .cons e' (r.snoc e)

theorem lt_bind (self : Value) : bindSpecial (.builtin "list.__iter__") self = pure (.builtin "list.__iter__", [self]) := slot_list_iter.bind self

theorem acc_pyIter {Q : Value → Shared → Prop} (X : (Kw w).In s.heap) (hx : s.heap.get? x = some (accObj d vs n))
    (hq : Q (.ref s.heap.objs.size) { s with heap := s.heap.push { cls := .type "list_iterator", data := .fields #[.ref x, .int 0 0] } }) : wpAny (model prg w) A (pyIter (.ref x)) Q E s := by
  have sp : Looks (model prg w) s.heap (specialOf (.ref x) "__iter__") (some (.builtin "list.__iter__")) := by
    unfold specialOf
    exact (acc_type hx rfl).andThen (f := fun t => typeLookup t "__iter__") (acc_look_iter X)
  have body : wpAny (model prg w) A (call (.builtin "list.__iter__") [.ref x]) (fun it s' => ∃ T' r, s'.TypeIs it T' ∧ typeLookup (.type T') "__next__" = pure (some r) ∧ Q it s') E s := by
    refine acc_call (nm := "__iter__") X hx rfl (.inl lt_kind) (by decide +kernel) (by decide +kernel) lt_entry (lt_args _) ?_
    show wpAny _ _ (do ret (← newFields "list_iterator" [.ref x, rawInt 0])) _ _ s
    exact wpAny_bind (wpAny_newObj_type (wpAny_pure ⟨_, rfl, "list_iterator", _, ⟨_, Heap.get?_push_size _ rfl, rfl⟩, slot_listiter_next.lookup, hq⟩))
  unfold pyIter
  refine wpAny_bind (sp.here ?_)
  dsimp only
  refine wpAny_bind ?_
  simp only [callSpecialIfBoundUnlessNone?, bindSpecialIfBound?]
  refine wpAny_holding (wpAny_bind (wpAny_bind (sp.here ?_)))
  dsimp only
  simp only [lt_bind]
  refine wpAny_bind (wpAny_askSetting (wpAny_ite ?_))
  split
  · refine wpAny_bind (wpAny_pure (wpAny_pure ?_))
    simp only [builtin_beq_none, Bool.false_eq_true, if_false]
    refine wpAny_bind (wpAny_mono body (fun v s' h' => wpAny_pure ?_) fun _ _ h' => h')
    obtain ⟨T', r, hT', hl, hQ⟩ := h'
    exact wpAny_bind (wpAny_specialOf hT' hl (wpAny_pure hQ))
  · refine wpAny_tryCatch (wpAny_bind (wpAny_pure (wpAny_pure ?_)))
    simp only [builtin_beq_none, Bool.false_eq_true, if_false]
    refine wpAny_bind (wpAny_mono body (fun v s' h' => wpAny_pure ?_) fun _ _ h' => h')
    obtain ⟨T', r, hT', hl, hQ⟩ := h'
    exact wpAny_bind (wpAny_specialOf hT' hl (wpAny_pure hQ))
end
end Mine

namespace Mine
open Builtin

section
variable {prog : Program} {w : World} {A : Around} {R : Result → Shared → Prop} {s : Shared} {h : Heap} {E : Value → Shared → Prop}
variable {x d I : Addr} {vs : Array Value} {n : Nat}

theorem acc_next {i : Nat} {v : Value} {Q : Option Value → Shared → Prop} (hit : s.heap.IsListIter I x i) (hx : s.heap.get? x = some (accObj d vs n)) (hv : vs[i]? = some v)
    (hQ : ∀ h', h'.IsListIter I x (i + 1) → Heap.SameBut I s.heap h' → Q (some v) { s with heap := h' }) : wpAny (model prog w) A (pyNext (.ref I)) Q E s := by
  obtain ⟨o, ho, hc, hd⟩ := id hit
  unfold pyNext
  refine wpAny_bind (wpAny_attempt (wpAny_callSpecial?_slot (name := Str.ofString "__next__") hit.typeIs slot_listiter_next
    (wpAny_call_entry slot_listiter_next hit.typeIs entry_listiter_next ?_ (args_listiter_next _))))
  show wpAny _ _ (field (.ref I) 0 >>= _) _ _ s
  refine wpAny_bind (wpAny_field ho hd (x := .ref x) rfl ?_)
  show wpAny _ _ (if (Value.ref x == Value.none) = true then _ else _) _ _ s
  rw [if_neg (show ¬ ((Value.ref x == Value.none) = true) from Bool.false_ne_true)]
  show wpAny _ _ (field (.ref I) 1 >>= _) _ _ s
  refine wpAny_bind (wpAny_field ho hd (x := .int i 0) rfl ?_)
  show wpAny _ _ (seqItems? (.ref x) >>= _) _ _ s
  refine wpAny_bind (wpAny_seqItems hx rfl ?_)
  simp only [Int.toNat_natCast, hv]
  refine wpAny_bind (wpAny_setField ho hd (by simp) (wpAny_pure ⟨v, rfl, wpAny_pure (hQ _ ?_ (Heap.SameBut.update ..))⟩))
  exact ⟨_, Heap.get?_update_self _ ho (Obj.isFreed_of_fields (Obj.data_mapFields hd _)), (Obj.cls_mapFields ..).trans hc, by
    rw [Obj.data_mapFields hd]; simp [rawInt]⟩

theorem acc_stop {i : Nat} {Q : Option Value → Shared → Prop} (hh : A.handled = none) (hit : s.heap.IsListIter I x i) (hx : s.heap.get? x = some (accObj d vs n)) (hv : vs[i]? = none)
    (hQ : ∀ h', Heap.ExtBut I s.heap h' → Q none { s with heap := h' }) : wpAny (model prog w) A (pyNext (.ref I)) Q E s := by
  obtain ⟨o, ho, hc, hd⟩ := id hit
  unfold pyNext
  refine wpAny_bind (wpAny_attempt (wpAny_callSpecial?_slot (name := Str.ofString "__next__") hit.typeIs slot_listiter_next
    (wpAny_call_entry slot_listiter_next hit.typeIs entry_listiter_next ?_ (args_listiter_next _))))
  show wpAny _ _ (field (.ref I) 0 >>= _) _ _ s
  refine wpAny_bind (wpAny_field ho hd (x := .ref x) rfl ?_)
  show wpAny _ _ (if (Value.ref x == Value.none) = true then _ else _) _ _ s
  rw [if_neg (show ¬ ((Value.ref x == Value.none) = true) from Bool.false_ne_true)]
  show wpAny _ _ (field (.ref I) 1 >>= _) _ _ s
  refine wpAny_bind (wpAny_field ho hd (x := .int i 0) rfl ?_)
  show wpAny _ _ (seqItems? (.ref x) >>= _) _ _ s
  refine wpAny_bind (wpAny_seqItems hx rfl ?_)
  simp only [Int.toNat_natCast, hv]
  refine wpAny_bind (wpAny_rule (wpAny_bind (wpAny_setField ho hd (by simp) ?_)))
  show wpAny _ _ (newExc (.type "StopIteration") [] >>= _) _ _ _
  refine wpAny_bind ?_
  simp only [newExc, newTuple]
  refine wpAny_bind (wpAny_newObj_type ?_ (by size_fits))
  refine wpAny_bind (m := firstArgMember _ _) (wpAny_of_eq (a := Value.none) (by first | rfl | (simp only [firstArgMember]; rfl)) ?_)
  refine wpAny_newObj_type ?_ (by size_fits)
  simp only [raiseNew]
  refine wpAny_bind (wpAny_handled ?_)
  rw [show A.in1.handled = none from hh]
  refine wpAny_bind (wpAny_pure (wpAny_throw ?_))
  refine wpAny_bind (wpAny_isInstance (T := "StopIteration") (b := true) ⟨_, Heap.get?_push_size _ rfl, rfl⟩ isSubtype_stop ?_)
  exact wpAny_pure (hQ _ (((Heap.SameBut.update ..).extBut.push _).push _))

noncomputable def refAt (vs : Array Value) (j : Nat) : Addr := match vs[j]? with
  | some (.ref T) => T
  | _ => 0

/-- the walk over an accumulator, its pieces unpacked -/
theorem acc_walks (hh : A.handled = none) (hne : I ≠ x) {ls : List Str} {hr : Heap} (hp : Pieces hr vs.toList ls) (hI : hr.get? I = none) :
    WalksU prog w A I (I :: x :: (List.range vs.size).map (refAt vs)) [I] vs.size (fun j v => ∃ l t₁ t₂, v = #[.str "\n" t₁, .str l t₂] ∧ ls[j]? = some l)
      (fun j h => h.IsListIter I x j ∧ h.get? x = some (accObj d vs n) ∧ ∀ k, k < vs.size → h.get? (refAt vs k) = hr.get? (refAt vs k))
      (fun j T h => (j < vs.size ∧ T = refAt vs j) ∧ h.IsListIter I x (j + 1) ∧ h.get? x = some (accObj d vs n) ∧ ∀ k, k < vs.size → h.get? (refAt vs k) = hr.get? (refAt vs k)) := by
  have piece : ∀ k, k < vs.size → ∃ l t₁ t₂ n, vs[k]? = some (.ref (refAt vs k)) ∧ ls[k]? = some l ∧ hr.get? (refAt vs k) = some (pieceObj l t₁ t₂ n) := fun k hk => by
    obtain ⟨T, l, t₁, t₂, n, e, hl, hT⟩ := hp.at k vs[k] (by simp [hk])
    have er : refAt vs k = T := by simp [refAt, hk, e]
    exact ⟨l, t₁, t₂, n, by rw [er, ← e]; simp [hk], hl, by rw [er]; exact hT⟩
  have off : ∀ k, k < vs.size → refAt vs k ≠ I := fun k hk e => by
    obtain ⟨l, t₁, t₂, n, _, _, hT⟩ := piece k hk
    rw [e, hI] at hT; cases hT
  exact {
    sub := fun b hb => by simp at hb; simp [hb]
    frame := fun j h h' ⟨a, b, c⟩ hk => ⟨a.at fun o e => hk I (by simp) o e, hk x (by simp) _ b, fun k hk' => by
      obtain ⟨l, t₁, t₂, n, _, _, hT⟩ := piece k hk'
      rw [hT]
      exact hk _ (List.mem_cons_of_mem _ (List.mem_cons_of_mem _ (List.mem_map.mpr ⟨k, List.mem_range.mpr hk', rfl⟩))) _ ((c k hk').trans hT)⟩
    item := fun i s Q E hi ⟨a, b, c⟩ hQ => by
      obtain ⟨l, t₁, t₂, n', hv, hl, hT⟩ := piece i hi
      refine acc_next a b hv fun h' hit' hs' => ?_
      have tup : ∀ k, k < vs.size → h'.get? (refAt vs k) = hr.get? (refAt vs k) := fun k hk' => by
        rw [← c k hk']; exact hs'.2 _ (off k hk')
      exact hQ _ _ h' s.toks ⟨l, t₁, t₂, rfl, hl⟩ ⟨_, (tup i hi).trans hT, rfl, _, rfl⟩ ⟨⟨hi, rfl⟩, hit', hs'.extBut _ _ (Ne.symm hne) b, tup⟩ fun b o hb e => hs'.extBut b o (fun h => hb (by simp [h])) e
    go := fun _ _ _ _ _ s Q _ hm hQ => wpAny_letOwnedTupleGo_listiter hm.2.1 (hQ s.heap hm.2 fun _ _ _ e => e)
    apart := fun j T _ hm hmem => by
      rcases List.mem_cons.mp hmem with e | e
      · exact off j hm.1.1 (hm.1.2 ▸ e)
      · cases e
    done := fun s Q E ⟨a, b, c⟩ hQ => acc_stop hh a b (by simp) fun h' he' => hQ h' s.toks fun b o hb e => he' b o (fun h => hb (by simp [h])) e
    self := fun _ _ _ _ st hQ => wpAny_pyIter_listiter st.1 hQ }
end
end Mine

namespace Mine
open Builtin

section
variable {w : World} {mean : ExcName → Option Value} {mg mb : Str → Option Value} {A : Around} {R : Result → Shared → Prop} {s : Shared} {h : Heap} {E : Value → Shared → Prop}
variable {x d : Addr} {vs : Array Value} {n : Nat} {ls : List Str}

theorem passing_all (n : Nat) : passing (fun _ => true) n 0 = List.range n := by simp [passing]

/-- a generator expression over an accumulator -/
theorem acc_genexp {env : Env} {elt iter : Expr} {xa xb : Str} {pa pb pt : Pos} {kt : Nat} {scope : Scope} {pos : Pos} {c P : Addr} {ps : Array Value} {mg' : Str → Option Value} {bm : Addr} {ob : Obj} {Q : Value → Shared → Prop}
    (X : (Kw w).In s.heap) (M : BMod s.heap env.globals mg' bm ob) (hlim : s.heap.NoLimit) (hx : s.heap.get? x = some (accObj d vs n)) (hp : Pieces s.heap vs.toList ls) (hc : s.heap.IsCode c P ps) (ht : s.heap.TableAt c P ps) (hg : AllBare s.gens)
    (hcode : env.code = .ref c) (hh : A.handled = none) (hco : scope.isCoroutine = false) (hclos : closureFor scope env = pure []) (hcell : ∀ y ∈ scope.names, y.2 ≠ .cell) (h0 : scope.names.lookup (".0" : Str) = some NameKind.local)
    (hxa : scope.names.lookup xa = some .local) (hxb : scope.names.lookup xb = some .local) (hab : xa ≠ xb) (hkind : scope.kind = .function) (hroom : A.depth < recursionLimit)
    (hiter : wpAny (model prg w) A (eval iter env) (fun v s₁ => v = .ref x ∧ s₁ = s) E s) (hs : ∀ v, genFold iter env v = pure v)
    (F : Nat → Value → Prop)
    (helt : ∀ (A' : Around) (E' : Value → Shared → Prop) i l t₁ t₂ (s₂ : Shared) C code m₂, A'.handled = none → i < vs.size → ls[i]? = some l → s₂.heap.Ns C m₂ → m₂ xa = some (.str "\n" t₁) → m₂ xb = some (.str l t₂) → s.heap.objs.size ≤ C →
      (∀ b o, b ≠ P → s.heap.get? b = some o → s₂.heap.get? b = some o) → wpAny (model prg w) A' (eval elt (genEnv scope [] C code builtinsNs env)) (fun y s₃ => F i y ∧ Keeps s₂ s₃) E' s₂)
    (hQ : ∀ a s₅ ps', s₅.os = s.os → AllBare s₅.gens → (∀ b o, b ≠ P → s.heap.get? b = some o → s₅.heap.get? b = some o) → s₅.heap.IsCode c P ps' → s₅.heap.TableAt c P ps' → s₅.heap.objs.size > s.heap.objs.size →
      Gen prg w A (s.heap.objs.size - 1) a vs.size F s₅ → Q (.ref a) s₅) :
    wpAny (model prg w) A (eval (.GeneratorExp elt [⟨.Tuple [.Name xa pa, .Name xb pb] kt pt, iter, [], 0⟩] scope pos) env) Q E s := by
  refine wpAny_GeneratorExp_walksQT hh hco hclos hcell h0 hxa hxb hab hkind hroom (wpAny_mono hiter (fun xv s₁ h₁' => ?_) fun _ _ e => e) hs
  obtain ⟨rfl, rfl⟩ := h₁'
  have hI := Heap.lt_size hx
  refine acc_pyIter X hx ?_
  have hcS : cStatics < s₁.heap.objs.size := let ⟨_, hn, _⟩ := hlim; hn.lt
  have hPs : P < s₁.heap.objs.size := Heap.lt_size ht.2
  have hxP : x ≠ P := fun e => by rw [e, ht.2] at hx; cases hx
  refine ⟨hlim.push _, genexprCode_any hcode (hc.push _) (ht.push _) fun code h₃ tk₃ ps' hx₃ hsz hc₃ ht₃ => ?_⟩
  have M₃ : BMod h₃ env.globals mg' bm ob := (M.keeps fun b o e => Heap.get?_push_of_some _ e).extBut (ht.push _) hx₃
  have hcP : cStatics ≠ P := fun e => by
    obtain ⟨_, hns, _⟩ := hlim
    obtain ⟨o, es, ep, ho, hd, _⟩ := hns
    rw [e, ht.2] at ho; cases ho; cases hd
  have hl₃ : h₃.NoLimit := (hlim.push _).extBut hx₃ hcP
  have up₃ : ∀ b o, b ≠ P → s₁.heap.get? b = some o → h₃.get? b = some o := fun b o hb e => hx₃ b o hb (Heap.get?_push_of_some _ e)
  have hz3 : s₁.heap.objs.size < h₃.objs.size := Nat.lt_of_lt_of_le (by show _ < (s₁.heap.push _).objs.size; rw [Heap.size_push]; exact Nat.lt_succ_self _) hsz
  have hnone : s₁.heap.get? s₁.heap.objs.size = none := Heap.get?_none_of_le (Nat.le_refl _)
  refine wpAny_builtinsFor M₃.ns M₃.name M₃.ne M₃.obj M₃.cls M₃.dict M₃.data ?_
  have fpb : ∀ b ∈ s₁.heap.objs.size :: x :: (List.range vs.size).map (refAt vs), b < h₃.objs.size := by
    intro b hb
    rcases List.mem_cons.mp hb with rfl | hb
    · exact hz3
    · rcases List.mem_cons.mp hb with rfl | hb
      · exact Nat.lt_trans hI hz3
      · obtain ⟨k, hk, rfl⟩ := List.mem_map.mp hb
        have hk' := List.mem_range.mp hk
        obtain ⟨T, l, t₁, t₂, n, e, hl, hT⟩ := hp.at k vs[k] (by simp [hk'])
        have er : refAt vs k = T := by simp [refAt, hk', e]
        rw [er]
        exact Nat.lt_trans (Heap.lt_size hT) hz3
  have hwI : ∀ k, k < vs.size → h₃.get? (refAt vs k) = s₁.heap.get? (refAt vs k) := fun k hk' => by
    obtain ⟨T, l, t₁, t₂, n, e, hl, hT⟩ := hp.at k vs[k] (by simp [hk'])
    have er : refAt vs k = T := by simp [refAt, hk', e]
    rw [er, hT]
    exact up₃ _ _ (fun q => by rw [q, ht.2] at hT; cases hT) hT
  refine ⟨s₁.heap.objs.size, _, [s₁.heap.objs.size], vs.size, _, _, _, fun _ => true, F, rfl, (fun A' hA => acc_walks (hr := s₁.heap) hA (Nat.ne_of_gt hI) hp hnone), (fun i vals ⟨l, t₁, t₂, e, _⟩ => ⟨_, _, e⟩),
    ⟨⟨_, hx₃ _ _ (Nat.ne_of_gt hPs) (Heap.get?_push_size _ rfl), rfl, rfl⟩, up₃ _ _ hxP hx, hwI⟩, fpb, hl₃, (fun hm => Nat.ne_of_lt hcS (List.mem_singleton.mp hm)), (fun href hhref => ⟨fun A' E' i va vb s₂ m₂ _ _ _ _ _ _ => ?_, fun A' E' i va vb s₂ m₂ hA' hPt _ hn h1 h2 hkp => ?_⟩), fun a h₅ tk gs hgb hag hsz₅ hk₅ W hat => ?_⟩
  · exact wpAny_pure ⟨rfl, _, _, rfl, fun _ _ e => e⟩
  · obtain ⟨l, t₁, t₂, e, hl⟩ := hPt
    obtain ⟨e1, e2⟩ : va = .str "\n" t₁ ∧ vb = .str l t₂ := by
      have := congrArg Array.toList e
      simp at this
      exact this
    subst e1 e2
    have hlt : i < vs.size := by
      have := List.getElem?_eq_some_iff.mp hl
      obtain ⟨q, _⟩ := this
      rw [← hp.len] at q
      simpa using q
    refine helt A' E' i l t₁ t₂ s₂ _ code m₂ hA' hlt hl hn h1 h2 (Nat.le_of_lt hz3) fun b o hb e => ?_
    have hb3 := up₃ b o hb e
    exact hkp b (List.mem_range.mpr (Heap.lt_size hb3)) (fun hm => by
      rcases List.mem_cons.mp hm with q | q
      · rw [q, hnone] at e; cases e
      · cases q) o (hhref b o hb3)
  · have W' := W.imp (P' := F) fun j y ⟨i, e1, e2⟩ => by
      rw [passing_all] at e1
      obtain ⟨q, q'⟩ := List.getElem?_eq_some_iff.mp e1
      simp at q'
      subst q'
      exact e2
    have ln : (passing (fun _ => true) vs.size 0).length = vs.size := by rw [passing_all]; simp
    rw [ln] at W'
    refine hQ a _ ps' rfl (hg.push hgb) (fun b o hb e => hk₅ b o (up₃ b o hb e)) (hc₃.keeps hk₅) (ht₃.keeps hk₅) ?_ ⟨_, _, _, _, W', hat, (fun i s' st => st.1.typeIs), List.mem_cons_self, ?_, ?_⟩
    · show h₅.objs.size > _
      rw [hsz₅]
      exact Nat.lt_of_lt_of_le hz3 (Nat.le_trans (Nat.le_of_lt hag) (Nat.le_succ _))
    · intro b hb
      show b < h₅.objs.size
      rw [hsz₅]
      rcases List.mem_cons.mp hb with rfl | hb
      · exact Nat.lt_succ_self _
      · rcases List.mem_cons.mp hb with rfl | hb
        · exact Nat.lt_succ_of_lt hag
        · exact Nat.lt_succ_of_lt (Nat.lt_trans (List.mem_range.mp hb) hag)
    · intro b hb
      rcases List.mem_cons.mp hb with rfl | hb
      · exact Nat.lt_of_le_of_lt (Nat.sub_le _ _) hz3
      · rcases List.mem_cons.mp hb with rfl | hb
        · exact Nat.sub_lt (Nat.lt_of_le_of_lt (Nat.zero_le _) hI) Nat.one_pos
        · cases hb
end
end Mine

namespace Mine
open Builtin Builtin.Str

/-- what a call may have turned: the objects in mu alone -/
structure Went (mu : List Addr) (s s' : Shared) : Prop where
  os : s'.os = s.os
  gens : AllBare s.gens → AllBare s'.gens
  keep : ∀ b o, b ∉ mu → s.heap.get? b = some o → s'.heap.get? b = some o
theorem Went.refl (mu : List Addr) (s : Shared) : Went mu s s := ⟨rfl, id, fun _ _ _ e => e⟩
theorem Went.trans {mu : List Addr} {a b c : Shared} (x : Went mu a b) (y : Went mu b c) : Went mu a c := ⟨y.os.trans x.os, fun g => y.gens (x.gens g), fun d o hd e => y.keep d o hd (x.keep d o hd e)⟩
theorem Went.mono {mu nu : List Addr} {a b : Shared} (x : Went mu a b) (h : ∀ d ∈ mu, d ∈ nu) : Went nu a b := ⟨x.os, x.gens, fun d o hd e => x.keep d o (fun q => hd (h d q)) e⟩
theorem Went.all {a b : Shared} (x : Went [] a b) : a.heap.StaysIn b.heap := fun d o e => x.keep d o (by simp) e

theorem str_eq {a b : Str} (h : a.cps.toList = b.cps.toList) : a = b := PySem.Str.ext' (Array.ext' h)
theorem join_empty (parts : List Str) : (Txt.join "" parts).cps.toList = parts.flatMap (·.cps.toList) := by
  show (glued "" parts).cps.toList = _
  rw [StrLaws.glued_eq_join]
  induction parts with
  | nil => rfl
  | cons x r ih =>
    cases r with
    | nil => simp [PySem.Str.join]
    | cons y r =>
      show ((x ++ ("" : Str)) ++ PySem.Str.join "" (y :: r)).cps.toList = _
      simp only [PySem.Str.cps_append, Array.toList_append, ih, List.flatMap_cons]
      have e : (("" : Str)).cps.toList = [] := by decide +kernel
      rw [e, List.append_nil]
/-- the text of an accumulator -/
noncomputable def txtOf (ls : List Str) : Str := ⟨(ls.flatMap fun l => 10 :: l.cps.toList).toArray⟩
theorem nl_eq : (("\n" : Str)).cps.toList = [10] := by decide +kernel
theorem piece_eq (l : Str) : (Txt.join "" ["\n", l]).cps.toList = 10 :: l.cps.toList := by rw [join_empty]; simp [nl_eq]
theorem txt_eq (ls : List Str) : Txt.join "" (ls.map fun l => Txt.join "" ["\n", l]) = txtOf ls := by
  apply str_eq
  rw [join_empty]
  simp only [List.flatMap_map, txtOf, piece_eq]
theorem piece_len (l : Str) : (Txt.join "" ["\n", l]).length = l.length + 1 := by
  show (Txt.join "" ["\n", l]).cps.size = l.cps.size + 1
  have := congrArg List.length (piece_eq l)
  simpa using this
theorem sum_piece (ls : List Str) : ((ls.map fun l => Txt.join "" ["\n", l]).map (·.length)).sum = (ls.map (·.length)).sum + ls.length := by
  induction ls with
  | nil => rfl
  | cons x r ih => simp only [List.map_cons, List.sum_cons, List.length_cons, piece_len] at ih ⊢; omega
theorem range_map {α : Type} (ls : List Str) (f : Str → α) : (List.range ls.length).map (fun j => f (ls.getD j "")) = ls.map f := by
  apply List.ext_getElem?
  intro j
  by_cases hj : j < ls.length
  · simp [hj]
  · simp [Nat.not_lt.mp hj]
end Mine

namespace Mine
open Builtin

section
variable {w : World} {mean : ExcName → Option Value} {mg mb : Str → Option Value} {A : Around} {R : Result → Shared → Prop} {s : Shared} {h : Heap} {E : Value → Shared → Prop}
variable {x d : Addr} {vs : Array Value} {n : Nat} {ls : List Str} {ps : Array Value}

/-- the code tables of the two methods that bear a generator expression -/
noncomputable def Tabs (h : Heap) : Prop := (∃ ps, h.IsCode 80 76 ps ∧ h.TableAt 80 76 ps) ∧ ∃ ps, h.IsCode 73 69 ps ∧ h.TableAt 73 69 ps
noncomputable abbrev tabs : List Addr := [69, 76]

theorem Tabs.keep {h h' : Heap} (T : Tabs h) (k : ∀ b o, h.get? b = some o → h'.get? b = some o) : Tabs h' :=
  ⟨let ⟨ps, a, b⟩ := T.1; ⟨ps, a.keeps k, b.keeps k⟩, let ⟨ps, a, b⟩ := T.2; ⟨ps, a.keeps k, b.keeps k⟩⟩

theorem len_le_sum {l : Str} : ∀ {ls : List Str}, l ∈ ls → l.length ≤ (ls.map (·.length)).sum
  | x :: r, h => by
    simp only [List.map_cons, List.sum_cons]
    rcases List.mem_cons.mp h with rfl | h
    · omega
    · have := len_le_sum h; omega

set_option maxHeartbeats 4000000 in
theorem str_body (hh : A.handled = none) (hd : A.depth + 3 < recursionLimit) (S : St w mean mg mb (hideAll s.heap tabs)) (hx : s.heap.get? x = some (accObj d vs n)) (hp : Pieces s.heap vs.toList ls)
    (hT : Tabs s.heap) (hlen : (ls.map (·.length)).sum + ls.length ≤ 100000) (hg : AllBare s.gens)
    (h : ∀ s' t, Went tabs s s' → Tabs s'.heap → R (.ok (.ret (.str (txtOf ls) t))) s') :
    codeAny (model prg w) A (.call (.ref 81) ⟨[.ref x], []⟩) R s := by
  obtain ⟨⟨ps, hc, ht⟩, ⟨qs, hc', ht'⟩⟩ := hT
  have S' : St w mean mg mb s.heap := S.keeps fun b o e => of_hideAll _ e
  obtain ⟨X, T, GL⟩ := S
  obtain ⟨X', T', GL'⟩ := S'
  have NN : ∀ p ∈ [((69 : Addr), tabO qs), ((76 : Addr), tabO ps)], s.heap.get? p.1 = some p.2 := by
    intro p hp
    rcases List.mem_cons.mp hp with rfl | hp
    · exact ht'.2
    · rw [List.mem_singleton.mp hp]
      exact ht.2
  refine' call_defN (binds := [("self", .ref x)]) (news := [((69 : Addr), tabO qs), ((76 : Addr), tabO ps)]) X' ?k2 NN ?k6 ?k7 ?k8 ?k9 ?kB ?_ ?c2 ?c3 ?c4 ?c5
  case k6 => k_is
  case k2 => exact Top.nolimit (by assumption)
  case k7 => k_is
  case k8 => omega
  case k9 => first | exact BindsTo.of_eq rfl | exact binds_K (by assumption) rfl (by k_is) rfl rfl rfl
  case kB => exact locs rfl
  case c2 => exact rfl
  case c3 => exact rfl
  case c4 => exact rfl
  case c5 => decide
  intro L h₁ F N l1
  have k1 : ∀ b o, s.heap.get? b = some o → h₁.get? b = some o := fun b o e => by
    by_cases hb : b ∈ tabs
    · rcases List.mem_cons.mp hb with rfl | hb
      · have := (N _ (.head _)).1; rw [ht'.2] at e; cases e; exact this
      · rw [List.mem_singleton.mp hb] at e ⊢
        have := (N _ (.tail _ (.head _))).1; rw [ht.2] at e; cases e; exact this
    · exact F.keep b o (hideAll_get _ e hb)
  have hLlt : L < h₁.objs.size := F.ns.lt
  dsimp only [List.map] at F N
  k_steps
  have F0 := F
  obtain ⟨bm, ob, M⟩ := bmod_of_top T'
  refine acc_genexp (n := n) (ls := ls) (x := x) (d := d) (vs := vs) (c := 80) (P := 76) (ps := ps) (X.keeps F.keep) (M.keeps k1) (T'.nolimit.keeps k1) (k1 _ _ hx) (hp.keep fun b o _ e => k1 b o e) (hc.keeps k1) (ht.keeps k1) hg rfl hh rfl rfl (by decide) rfl rfl rfl (by decide) rfl ?room ?iter (by intro _; rfl)
    (fun i y => ∃ t, y = .str (Txt.join "" ["\n", ls.getD i ""]) t) ?elt ?rest
  case room => exact Nat.lt_of_le_of_lt (by show A.depth + 1 ≤ A.depth + 3; omega) hd
  case iter => k_steps
  case elt =>
    intro A' E' i l t₁ t₂ s₂ C code m₂ hA' hi hl hn ha hb hC hk
    have kk : ∀ b o, (hideAll s.heap [69, 76]).get? b = some o → s₂.heap.get? b = some o := fun b o e => hk b o (fun q => by
      rw [q, hideAll_none _ (by simp)] at e; cases e) (F0.keep b o e)
    have F2 : Fr (hideAll s.heap [69, 76]) C s₂.heap m₂ := ⟨hn, kk, Nat.le_trans (Nat.le_of_lt (Nat.lt_of_le_of_lt F0.above hLlt)) hC⟩
    have N2 : News (hideAll s.heap [69, 76]) C s₂.heap [] := News.nil
    clear F N F0
    walk1
    refine nameG_K F2 X (topRead_of T) (by k_is) ?_ rfl rfl rfl (by decide)
    walk1
    walk1
    walk1
    refine wpAny_Tuple ?_
    walk1
    refine ldVarG F2 ha ?_
    walk1
    refine ldVarG F2 hb ?_
    walk1
    refine ⟨by show 2 ≤ sizeLine; decide, ?_⟩
    walk1
    have hls : ls.getD i "" = l := by simp [List.getD, hl]
    have hll : l.length ≤ 100000 := by
      have : l.length ≤ (ls.map (·.length)).sum := len_le_sum (List.mem_of_getElem? hl)
      omega
    refine join_tuple ⟨_, Heap.get?_push_size _ rfl, rfl, _, rfl⟩ (.cons _ _ (.cons _ _ .nil)) ?_ fun t' k => ⟨⟨t', by rw [hls]⟩, _, _, rfl, fun b o e => Heap.get?_push_of_some _ e⟩
    have e1 : (("
" : Str)).length = 1 := by decide +kernel
    have e2 : (("" : Str)).length = 0 := by decide +kernel
    simp only [List.map_cons, List.map_nil, List.sum_cons, List.sum_nil, List.length_cons, List.length_nil, e1, e2]
    omega
  case rest =>
    intro a s₅ ps' hos hg5 hk5 hc5 ht5 hsz5 hgen
    have k5 : ∀ b o, b ≠ 76 → s.heap.get? b = some o → s₅.heap.get? b = some o := fun b o hb e => hk5 b o hb (k1 b o e)
    have hL76 : L ≠ 76 := fun e => by have := l1 (76, tabO ps) (.tail _ (.head _)); exact Nat.ne_of_gt this e
    have F5 : Fr (hideAll s.heap [69, 76]) L s₅.heap (fun y => List.lookup y [(Str.ofString "self", Value.ref x)].reverse) := ⟨F0.ns.at' fun o e => hk5 L o hL76 e, fun b o e => hk5 b o (fun q => by
      rw [q, hideAll_none _ (by simp)] at e; cases e) (F0.keep b o e), F0.above⟩
    clear F N F0
    walk1
    have hn : vs.size = ls.length := by have := hp.len; simpa using this
    have jm : (List.range vs.size).map (fun j => Txt.join "" ["\n", ls.getD j ""]) = ls.map fun l => Txt.join "" ["\n", l] := by rw [hn]; exact range_map ls fun l => Txt.join "" ["\n", l]
    have hLK : L ≤ h₁.objs.size - 1 := Nat.le_sub_one_of_lt hLlt
    refine join_rowsK F5 hg5 hgen hLK (fun j => Txt.join "" ["\n", ls.getD j ""]) (fun j v hv => hv) ?ok ?fin ?sz
    case ok =>
      rw [jm]
      refine joinOk_of ?_
      rw [sum_piece]
      have e2 : (("" : Str)).length = 0 := by decide +kernel
      rw [e2]
      omega
    case sz => rw [hn]; exact Nat.le_trans (by omega) (by decide : 100000 ≤ sizeLine)
    case fin =>
      intro s' t' F' hg' hos' hk'
      rw [jm, txt_eq]
      have up : ∀ b o, b ≠ 76 → s.heap.get? b = some o → s'.heap.get? b = some o := fun b o hb e => by
        have := Heap.lt_size (k1 b o e)
        exact hk' b o (Nat.le_sub_one_of_lt this) (k5 b o hb e)
      have lo : ∀ b, (∃ o, s.heap.get? b = some o) → ∀ o, s₅.heap.get? b = some o → s'.heap.get? b = some o := fun b ⟨o', e'⟩ o e => hk' b o (Nat.le_sub_one_of_lt (Heap.lt_size (k1 b o' e'))) e
      refine h s' t' ⟨hos'.trans hos, fun _ => hg', fun b o hb e => up b o (fun q => hb (by simp [q])) e⟩ ?_
      have h80 : ∃ o, s.heap.get? 80 = some o := let ⟨⟨o, vs, e, _⟩, _⟩ := ht; ⟨o, e⟩
      have h76 : ∃ o, s.heap.get? 76 = some o := ⟨_, ht.2⟩
      refine ⟨⟨ps', ?_, ?_⟩, qs, ?_, ?_⟩
      · obtain ⟨o, vs, file, tf, flags, tg, inF, text, tt, op, a1, r1, r2, r3, r4, r5, r6, b1, r⟩ := hc5
        exact ⟨o, vs, file, tf, flags, tg, inF, text, tt, op, lo 80 h80 _ a1, r1, r2, r3, r4, r5, r6, lo 76 h76 _ b1, r⟩
      · obtain ⟨⟨o, vs, e, r⟩, t⟩ := ht5
        exact ⟨⟨o, vs, lo 80 h80 _ e, r⟩, lo 76 h76 _ t⟩
      · obtain ⟨o, vs, file, tf, flags, tg, inF, text, tt, op, a1, r1, r2, r3, r4, r5, r6, b1, r⟩ := hc'
        exact ⟨o, vs, file, tf, flags, tg, inF, text, tt, op, up _ _ (by decide) a1, r1, r2, r3, r4, r5, r6, up _ _ (by decide) b1, r⟩
      · obtain ⟨⟨o, vs, e, r⟩, t⟩ := ht'
        exact ⟨⟨o, vs, up _ _ (by decide) e, r⟩, up _ _ (by decide) t⟩
end
end Mine

namespace Mine
open Builtin

section
variable {w : World} {mean : ExcName → Option Value} {mg mb : Str → Option Value} {A : Around} {R : Result → Shared → Prop} {s : Shared} {h : Heap} {E : Value → Shared → Prop}
variable {x d : Addr} {vs : Array Value} {n : Nat}

theorem lga_kind : builtinKind "list.__getattribute__" = some .slot := by decide +kernel
theorem lga_entry : entryFor table "list.__getattribute__" = some Builtin.«object.__getattribute__» := entryFor_alias (id' := "object.__getattribute__") (by rw [fastTable_eq_tree]; kernel_rfl) rfl (by rw [PySem.W.Fast.canonicalQ_eq]; kernel_rfl) (by rw [fastTable_eq_tree]; kernel_rfl)
theorem lga_args (a b : Value) : argsOk "list.__getattribute__" ⟨[a, b], []⟩ := by unfold argsOk; kernel_rfl
theorem lga_slot : Slot "list" "__getattribute__" "list.__getattribute__" :=
  .of (owner := "list") (n := "__getattribute__") (by rw [typeLookup_type, builtinLookup_eq_fast]; kernel_rfl) (by decide +kernel) (by decide +kernel) (by decide +kernel)
    (by first | exact .inl (by decide +kernel) | exact .inr (by decide +kernel)) (by rw [isSubtype_type]; kernel_rfl)

theorem acc_inst {tk tk' : Tok} (hx : h.get? x = some (accObj d vs n)) (hd : h.get? d = some (accDict w.params tk tk')) : InstAt h x (accObj d vs n) 107 (some (accDict w.params tk tk')) := ⟨hx, rfl, rfl, hd⟩

theorem acc_find {tk tk' : Tok} (X : (Kw w).In h) (hx : h.get? x = some (accObj d vs n)) (hd : h.get? d = some (accDict w.params tk tk')) : Looks (model prg w) h (ObjectAttr.find (.ref x) (.ref 107) "_initial_size") (.value (.int 0 tk')) :=
  looks_find X (acc_inst hx hd) (findObj_own (by kernel_rfl) (attr := none) (by kernel_rfl) rfl (by kernel_rfl))

theorem acc_size_read {tk tk' : Tok} {expr : Bool} {Q : Value → Shared → Prop} (X : (Kw w).In s.heap) (hx : s.heap.get? x = some (accObj d vs n)) (hd : s.heap.get? d = some (accDict w.params tk tk'))
    (hq : Q (.int 0 tk') { s with toks := s.toks + 1 }) : wpAny (model prg w) A (getAttr (.ref x) "_initial_size" expr) Q E s := by
  unfold getAttr getAttrBy
  refine wpAny_bind (wpAny_mkText (wpAny_holding (wpAny_bind (Looks.here (s := { s with toks := _ }) (acc_type hx rfl) (wpAny_bind (Looks.here (s := { s with toks := _ }) (acc_ga X) ?_))))))
  dsimp only
  rw [if_neg (by decide)]
  unfold getAttrByItsOwn hookBefore callGetattribute boundAndCalled
  rw [if_pos (by rfl)]
  refine wpAny_bind (Looks.here (s := { s with toks := _ }) (acc_gattr X) ?_)
  refine wpAny_bind (wpAny_attempt (wpAny_holding ?_))
  rw [if_neg (by cases expr <;> decide)]
  refine wpAny_bind (wpAny_of_eq (lga_slot.bind _) ?_)
  refine acc_call (s := { s with toks := s.toks + 1 }) (nm := "__getattribute__") X hx rfl (.inl lga_kind) (by decide +kernel) (by decide +kernel) lga_entry (lga_args _ _) ?_
  unfold Builtin.«object.__getattribute__»
  refine wpAny_bind (wpAny_pure ?_)
  dsimp only
  refine wpAny_bind ?_
  refine wpAny_pure ?_
  refine wpAny_bind (Looks.here (s := { s with toks := _ }) (acc_type hx rfl) ?_)
  refine wpAny_bind (Looks.here (s := { s with toks := _ }) (acc_find X hx hd) ?_)
  refine wpAny_pure ⟨_, rfl, ?_⟩
  exact wpAny_pure hq
end
end Mine

namespace Mine
open Builtin

section
variable {prog : Program} {w : World} {A : Around} {E : Value → Shared → Prop} {s : Shared}
theorem sum_args2 (a b : Value) : argsOk "sum" ⟨[a, b], []⟩ := by unfold argsOk; kernel_rfl
/-- sum(x, 0) -/
theorem sum_from {x : Value} {tk : Tok} {Q : Value → Shared → Prop}
    (h : wpAny (model prog w) A.in1 (pyIter x) (fun it s₂ => ∃ I fp wr G n P St val, it = .ref I ∧ WalksS prog w A.in1 I fp wr G n P St ∧ St 0 s₂ ∧ (∀ b ∈ fp, b < s₂.heap.objs.size) ∧
      (∀ i v, P i v → ∃ t, v = .int (val i) t) ∧ (∀ j, j < n → InLong (val j) ∧ InLong (preSum val (j + 1))) ∧
      ∀ s' t', Moved wr G s₂ s' → Q (.int (preSum val n) t') s') E s) :
    wpAny (model prog w) A (call (.builtin "sum") [x, .int 0 tk]) Q E s := by
  refine call_function_tree F.kind_sum F.plain_sum F.entry_sum (sum_args2 _ _) ?_
  unfold Builtin.«sum»
  simp only [List.length_cons, List.length_nil]
  rw [if_neg (by decide)]
  refine wpAny_bind (wpAny_of_eq (show Builtin.Builtins.bindParams "sum" ["start"] 0 ⟨[.int 0 tk], []⟩ = pure [some (.int 0 tk)] from rfl) ?_)
  refine wpAny_bind (wpAny_mono h (fun it s₂ h₂ => ?_) fun _ _ e => e)
  obtain ⟨I, fp, wr, G, n, P, St, val, rfl, W, hst, hfp, hval, hfit, hQ⟩ := h₂
  dsimp only
  rw [if_pos (by decide)]
  refine wpAny_bind (wpAny_rule (wpAny_bind (wpAny_mkInt (wpAny_bind (wpAny_pure ?_)))))
  simp only [List.forIn_cons, List.forIn_nil]
  refine wpAny_bind (wpAny_bind (wpAny_bind (wpAny_isInstance (T := "int") (b := false) (typeIs_int _ _ _) PySem.sub_int_str ?_)))
  simp only [Bool.false_eq_true, if_false]
  refine wpAny_pure (wpAny_bind (wpAny_bind (wpAny_isInstance (T := "int") (b := false) (typeIs_int _ _ _) PySem.sub_int_bytes ?_)))
  simp only [Bool.false_eq_true, if_false]
  refine wpAny_pure (wpAny_bind (wpAny_bind (wpAny_isInstance (T := "int") (b := false) (typeIs_int _ _ _) PySem.sub_int_bytearray ?_)))
  simp only [Bool.false_eq_true, if_false]
  refine wpAny_pure (wpAny_pure ?_)
  refine wpAny_bind (wpAny_newObj_type ?_)
  have hSf : s₂.heap.objs.size ∉ fp := fun hm => Nat.lt_irrefl _ (hfp _ hm)
  refine wpAny_pure ⟨plainId_quiet F.plain_sum_loop _, codeAny_sum_loopS W val hval hfit s₂.heap.objs.size hSf n 0 _ s₂.toks 0 rfl (Nat.zero_le _)
    (W.frame 0 s₂ _ _ hst (by first | exact Nat.le_refl _ | exact Nat.le_succ _ | omega) fun b _ o e => Heap.get?_push_of_some _ e) (Heap.get?_push_size _ rfl) fun s' t' hm => ?_⟩
  exact hQ s' t' (hm.drop_new (by first | exact Nat.le_refl _ | exact Nat.le_succ _ | omega))
end
section
variable {w : World} {mean : ExcName → Option Value} {mg mb : Str → Option Value} {A : Around} {R : Result → Shared → Prop} {s : Shared} {h : Heap} {E : Value → Shared → Prop}
variable {x d : Addr} {vs : Array Value} {n : Nat} {ls : List Str} {ps : Array Value}

theorem nameG_B {M : Model} {A : Around} {E : Value → Shared → Prop} {s : Shared} {env : Env} {L : Addr} {m : Str → Option Value} {h₀ : Heap} {K : Frag} {mg mb : Str → Option Value} {p : Program} {loose : List Str} {x : Str} {pos : Pos} {v : Value} {Q : Value → Shared → Prop} (F : Fr h₀ L s.heap m) (X : K.In h₀) (T : TopRead p loose mg mb h₀)
    (e : nsIn K mainGlobals x = some none) (hv : bootBuiltins x = some v) (hn : x ≠ "__name__") (h : Q v s) (hg : env.globals = mainGlobals) (hb : env.builtins = builtinsNs) (hk : env.scope.kind = .function) (hx : env.kindOf x = some .globalImplicit) (hd : (x == ("__debug__" : Str)) = false) :
    wpAny M A (PySem.eval (.Name x pos) env) Q E s :=
  Name_function_global hk hx (loadGlobal_builtin (env := env) (by rw [hg]; exact T.g.keeps F.keep) (mg_none_of X T.g e) (by rw [hb]; exact T.b.keeps F.keep) ((T.builtins x hn).trans hv) h) hd

/-- an accumulator as it stands: its dict, its pieces -/
structure Acc (w : World) (h : Heap) (x d : Addr) (vs : Array Value) (n : Nat) (ls : List Str) : Prop where
  obj : h.get? x = some (accObj d vs n)
  dict : ∃ tk tk', h.get? d = some (accDict w.params tk tk')
  pieces : Pieces h vs.toList ls

set_option maxHeartbeats 4000000 in
theorem len_body {g : Heap} (hh : A.handled = none) (hd : A.depth + 3 < recursionLimit) (S : St w mean mg mb g) (kg : g.StaysIn s.heap) (ng : ∀ a ∈ [69, 76, x, d], g.get? a = none) (hacc : Acc w s.heap x d vs n ls)
    (hT : Tabs s.heap) (hlen : (ls.map (·.length)).sum + ls.length ≤ 100000) (hg : AllBare s.gens)
    (h : ∀ s' t, Went tabs s s' → Tabs s'.heap → R (.ok (.ret (.int ((ls.map (·.length)).sum + ls.length : Nat) t))) s') :
    codeAny (model prg w) A (.call (.ref 74) ⟨[.ref x], []⟩) R s := by
  obtain ⟨⟨ps, hc, ht⟩, ⟨qs, hc', ht'⟩⟩ := hT
  obtain ⟨hx, ⟨tk, tk', hdd⟩, hp⟩ := hacc
  have S' : St w mean mg mb s.heap := S.keeps kg
  obtain ⟨X, T, GL⟩ := S.hide kg ng
  obtain ⟨X', T', GL'⟩ := S'
  have NN : ∀ p ∈ [((69 : Addr), tabO qs), ((76 : Addr), tabO ps), (x, accObj d vs n), (d, accDict w.params tk tk')], s.heap.get? p.1 = some p.2 := by
    intro p hp
    simp only [List.mem_cons, List.not_mem_nil, or_false] at hp
    rcases hp with rfl | rfl | rfl | rfl
    · exact ht'.2
    · exact ht.2
    · exact hx
    · exact hdd
  refine' call_defN (binds := [("self", .ref x)]) (news := [((69 : Addr), tabO qs), ((76 : Addr), tabO ps), (x, accObj d vs n), (d, accDict w.params tk tk')]) X' ?k2 NN ?k6 ?k7 ?k8 ?k9 ?kB ?_ ?c2 ?c3 ?c4 ?c5
  case k6 => k_is
  case k2 => exact Top.nolimit (by assumption)
  case k7 => k_is
  case k8 => omega
  case k9 => first | exact BindsTo.of_eq rfl | exact binds_K (by assumption) rfl (by k_is) rfl rfl rfl
  case kB => exact locs rfl
  case c2 => exact rfl
  case c3 => exact rfl
  case c4 => exact rfl
  case c5 => decide
  intro L h₁ F N l1
  have k1 : ∀ b o, s.heap.get? b = some o → h₁.get? b = some o := fun b o e => by
    by_cases hb : b ∈ [69, 76, x, d]
    · simp only [List.mem_cons, List.not_mem_nil, or_false] at hb
      rcases hb with rfl | rfl | rfl | rfl
      · have := (N _ (.head _)).1; rw [ht'.2] at e; cases e; exact this
      · have := (N _ (.tail _ (.head _))).1; rw [ht.2] at e; cases e; exact this
      · have := (N _ (.tail _ (.tail _ (.head _)))).1; rw [hx] at e; cases e; exact this
      · have := (N _ (.tail _ (.tail _ (.tail _ (.head _))))).1; rw [hdd] at e; cases e; exact this
    · exact F.keep b o (hideAll_get _ e hb)
  have hLlt : L < h₁.objs.size := F.ns.lt
  dsimp only [List.map] at F N
  k_steps
  have F0 := F
  have N0 := N
  obtain ⟨bm, ob, M⟩ := bmod_of_top T'
  refine acc_genexp (n := n) (ls := ls) (x := x) (d := d) (vs := vs) (c := 73) (P := 69) (ps := qs) (X.keeps F.keep) (M.keeps k1) (T'.nolimit.keeps k1) (k1 _ _ hx) (hp.keep fun b o _ e => k1 b o e) (hc'.keeps k1) (ht'.keeps k1) hg rfl hh rfl rfl (by decide) rfl rfl rfl (by decide) rfl ?room ?iter (by intro _; rfl)
    (fun i y => ∃ t, y = .int (((ls.getD i "").length + 1 : Nat) : Int) t) ?elt ?rest
  case room => exact Nat.lt_of_le_of_lt (by show A.depth + 1 ≤ A.depth + 3; omega) hd
  case iter => k_steps
  case elt =>
    intro A' E' i l t₁ t₂ s₂ C code m₂ hA' hi hl hn ha hb hC hk
    have kk : ∀ b o, (hideAll s.heap [69, 76, x, d]).get? b = some o → s₂.heap.get? b = some o := fun b o e => hk b o (fun q => by
      rw [q, hideAll_none _ (by simp)] at e; cases e) (F0.keep b o e)
    have F2 : Fr (hideAll s.heap [69, 76, x, d]) C s₂.heap m₂ := ⟨hn, kk, Nat.le_trans (Nat.le_of_lt (Nat.lt_of_le_of_lt F0.above hLlt)) hC⟩
    clear F N F0
    walk1
    walk1
    refine nameG_B F2 X (topRead_of T) (by k_is) (by boot_by_name) (by decide) ?_ rfl rfl rfl rfl (by decide)
    walk1
    walk1
    refine ldVarG F2 ha ?_
    walk1
    have e1 : (("\n" : Str)).length = 1 := by decide +kernel
    have hls : ls.getD i "" = l := by simp [List.getD, hl]
    have hll : l.length ≤ 100000 := by
      have : l.length ≤ (ls.map (·.length)).sum := len_le_sum (List.mem_of_getElem? hl)
      omega
    refine P.len_str (by rw [e1]; decide) ?_
    walk1
    refine nameG_B (h₀ := hideAll s.heap [69, 76, x, d]) (L := C) (m := m₂) ⟨hn, kk, F2.above⟩ X (topRead_of T) (by k_is) (by boot_by_name) (by decide) ?_ rfl rfl rfl rfl (by decide)
    walk1
    walk1
    refine ldVarG (h₀ := hideAll s.heap [69, 76, x, d]) (m := m₂) ⟨hn, kk, F2.above⟩ hb ?_
    walk1
    refine P.len_str (by omega) ?_
    refine AutoIntOps.add_0 ⟨⟨s₂.toks + 1 + 1 + 1 + 1, ?_⟩, _, _, rfl, fun _ _ e => e⟩
    have ei : (((("\n" : Str)).length : Int) + (l.length : Int)) = (((ls.getD i "").length + 1 : Nat) : Int) := by rw [e1, hls]; omega
    show Value.int _ _ = Value.int _ _
    rw [ei]
  case rest =>
    intro a s₅ ps' hos hg5 hk5 hc5 ht5 hsz5 hgen
    have k5 : ∀ b o, b ≠ 69 → s.heap.get? b = some o → s₅.heap.get? b = some o := fun b o hb e => hk5 b o hb (k1 b o e)
    have hL69 : L ≠ 69 := fun e => by have := l1 (69, tabO qs) (.head _); exact Nat.ne_of_gt this e
    have F5 : Fr (hideAll s.heap [69, 76, x, d]) L s₅.heap (fun y => List.lookup y [(Str.ofString "self", Value.ref x)].reverse) := ⟨F0.ns.at' fun o e => hk5 L o hL69 e, fun b o e => hk5 b o (fun q => by
      rw [q, hideAll_none _ (by simp)] at e; cases e) (F0.keep b o e), F0.above⟩
    have hx69 : x ≠ 69 := fun q => by rw [q, ht'.2] at hx; cases hx
    have hd69 : d ≠ 69 := fun q => by rw [q, ht'.2] at hdd; cases hdd
    have N5 : News (hideAll s.heap [69, 76, x, d]) L s₅.heap [(x, accObj d vs n), (d, accDict w.params tk tk')] := by
      intro p hp
      simp only [List.mem_cons, List.not_mem_nil, or_false] at hp
      rcases hp with rfl | rfl
      · have := N0 _ (.tail _ (.tail _ (.head _))); exact ⟨hk5 _ _ hx69 this.1, this.2⟩
      · have := N0 _ (.tail _ (.tail _ (.tail _ (.head _)))); exact ⟨hk5 _ _ hd69 this.1, this.2⟩
    clear F N F0
    walk1
    walk1
    walk1
    have hx5 : s₅.heap.get? x = some (accObj d vs n) := (N5 _ (.head _)).1
    have hd5 : s₅.heap.get? d = some (accDict w.params tk tk') := (N5 _ (.tail _ (.head _))).1
    refine acc_size_read (X.keeps F5.keep) hx5 hd5 ?_
    walk1
    obtain ⟨fp, wr, gg, St, W, hst, _, _, hfp, hwr⟩ := hgen
    have W := W.in4_1
    have hn : vs.size = ls.length := by have := hp.len; simpa using this
    have hst' := W.frame 0 s₅ s₅.heap (s₅.toks + 1) hst (Nat.le_succ _) fun _ _ _ e => e
    have hbound : ∀ j, 0 ≤ preSum (fun i => (((ls.getD i "").length + 1 : Nat) : Int)) j ∧ preSum (fun i => (((ls.getD i "").length + 1 : Nat) : Int)) j ≤ (((ls.take j).map (·.length)).sum + j : Nat) := fun j => by
      induction j with
      | zero => simp [preSum]
      | succ j ih =>
        have e : ((ls.take (j + 1)).map (·.length)).sum = ((ls.take j).map (·.length)).sum + (ls[j]?.map (·.length)).getD 0 := by
          rw [List.take_add_one, List.map_append, List.sum_append]
          congr 1
          cases ls[j]? <;> simp
        have e2 : (ls.getD j "").length = (ls[j]?.map (·.length)).getD 0 := by
          simp only [List.getD]
          cases ls[j]? with
          | none => decide +kernel
          | some v => rfl
        simp only [preSum, e, e2]
        omega
    have hfull : preSum (fun i => (((ls.getD i "").length + 1 : Nat) : Int)) vs.size = (((ls.map (·.length)).sum + ls.length : Nat) : Int) := by
      rw [hn]
      have key : ∀ j, j ≤ ls.length → preSum (fun i => (((ls.getD i "").length + 1 : Nat) : Int)) j = (((ls.take j).map (·.length)).sum + j : Nat) := fun j => by
        induction j with
        | zero => intro _; simp [preSum]
        | succ j ih =>
          intro hj
          have e : ls.take (j + 1) = ls.take j ++ [ls[j]] := (List.take_append_getElem (by omega)).symm
          have e2 : ls.getD j "" = ls[j] := by simp [List.getD, (show j < ls.length by omega)]
          simp only [preSum, ih (by omega), e, e2, List.map_append, List.sum_append, List.map_cons, List.map_nil, List.sum_cons, List.sum_nil]
          omega
      rw [key _ (Nat.le_refl _), List.take_length]
    have htk : ∀ j, ((ls.take j).map (·.length)).sum ≤ (ls.map (·.length)).sum := fun j => by
      have := congrArg (fun l => (l.map (·.length)).sum) (List.take_append_drop j ls)
      simp only [List.map_append, List.sum_append] at this
      omega
    refine sum_from (W.self 0 _ _ _ hst' ⟨a, fp, wr, _, vs.size, _, St, fun i => (((ls.getD i "").length + 1 : Nat) : Int), rfl, W, hst', hfp, fun i v hv => hv, fun j hj => ?fit, fun s' t' hm => ?fin⟩)
    case fit =>
      have h1 := hbound (j + 1)
      have h2 : (ls.getD j "").length ≤ (ls.map (·.length)).sum := len_le_sum (by
        have hj' : j < ls.length := hn ▸ hj
        simp [List.getD, hj'])
      have h3 := htk (j + 1)
      unfold InLong
      dsimp only
      have hj' : j < ls.length := hn ▸ hj
      constructor <;> constructor <;> omega
    case fin =>
      rw [hfull]
      have up : ∀ b o, b ≠ 69 → s.heap.get? b = some o → s'.heap.get? b = some o := fun b o hb e => by
        have h1 := Heap.lt_size (k1 b o e)
        refine hm.heap b o (fun hmem => ?_) (k5 b o hb e)
        have h2 := hwr b hmem
        exact Nat.lt_irrefl _ (Nat.lt_of_lt_of_le h2 (Nat.le_sub_one_of_lt h1))
      have lo : ∀ b, (∃ o, s.heap.get? b = some o) → ∀ o, s₅.heap.get? b = some o → s'.heap.get? b = some o := fun b ⟨o', e'⟩ o e => hm.heap b o (fun hmem => by
        have h1 := Heap.lt_size (k1 b o' e')
        have h2 := hwr b hmem
        exact Nat.lt_irrefl _ (Nat.lt_of_lt_of_le h2 (Nat.le_sub_one_of_lt h1))) e
      refine h s' t' ⟨hm.os.trans hos, fun _ => AllBare.movedS (s := { s₅ with toks := s₅.toks + 1 }) hg5 hm, fun b o hb e => up b o (fun q => hb (by simp [q])) e⟩ ?_
      have h73 : ∃ o, s.heap.get? 73 = some o := let ⟨⟨o, vs, e, _⟩, _⟩ := ht'; ⟨o, e⟩
      have h69 : ∃ o, s.heap.get? 69 = some o := ⟨_, ht'.2⟩
      refine ⟨⟨ps, ?_, ?_⟩, ps', ?_, ?_⟩
      · obtain ⟨o, vs, file, tf, flags, tg, inF, text, tt, op, a1, r1, r2, r3, r4, r5, r6, b1, r⟩ := hc
        exact ⟨o, vs, file, tf, flags, tg, inF, text, tt, op, up _ _ (by decide) a1, r1, r2, r3, r4, r5, r6, up _ _ (by decide) b1, r⟩
      · obtain ⟨⟨o, vs, e, r⟩, t⟩ := ht
        exact ⟨⟨o, vs, up _ _ (by decide) e, r⟩, up _ _ (by decide) t⟩
      · obtain ⟨o, vs, file, tf, flags, tg, inF, text, tt, op, a1, r1, r2, r3, r4, r5, r6, b1, r⟩ := hc5
        exact ⟨o, vs, file, tf, flags, tg, inF, text, tt, op, lo 73 h73 _ a1, r1, r2, r3, r4, r5, r6, lo 69 h69 _ b1, r⟩
      · obtain ⟨⟨o, vs, e, r⟩, t⟩ := ht5
        exact ⟨⟨o, vs, lo 73 h73 _ e, r⟩, lo 69 h69 _ t⟩
end
end Mine

namespace Mine
open Builtin

/-- room for k calls more -/
structure Room (A : Around) (k : Nat) : Prop where
  hh : A.handled = none
  depth : A.depth + k < recursionLimit
  units : A.units + 20 * k < cLine
theorem Room.mono {A : Around} {k j : Nat} (r : Room A k) (h : j ≤ k) : Room A j := ⟨r.hh, by have := r.depth; omega, by have := r.units; omega⟩
theorem Room.in1 {A : Around} {k : Nat} (r : Room A (k + 1)) : Room A.in1 k := ⟨r.hh, by have := r.depth; show A.depth + k < _; omega, by have := r.units; show A.units + 1 + 20 * k < _; omega⟩
theorem Room.deeper {A : Around} {k : Nat} {e : Env} (r : Room A (k + 1)) : Room (A.deeper e) k := ⟨r.hh, by have := r.depth; show A.depth + 1 + k < _; omega, by have := r.units; show A.units + 3 + 20 * k < _; omega⟩

section
variable {w : World} {mean : ExcName → Option Value} {mg mb : Str → Option Value} {A : Around} {R : Result → Shared → Prop} {s : Shared} {h : Heap} {E : Value → Shared → Prop}
variable {x d : Addr} {vs : Array Value} {n : Nat} {ls : List Str} {g : Heap}

/-- str(an accumulator) -/
theorem acc_str {Q : Value → Shared → Prop} (r : Room A 9) (S : St w mean mg mb g) (kg : g.StaysIn s.heap) (ng : ∀ a ∈ [69, 76, x, d], g.get? a = none) (hacc : Acc w s.heap x d vs n ls)
    (hT : Tabs s.heap) (hlen : (ls.map (·.length)).sum + ls.length ≤ 100000) (hg : AllBare s.gens)
    (h : ∀ s' t, Went tabs s s' → Tabs s'.heap → Q (.str (txtOf ls) t) s') : wpAny (model prg w) A (call (.type "str") [.ref x]) Q E s := by
  have X : (Kw w).In s.heap := S.X.keeps kg
  obtain ⟨tk, tk', hd⟩ := hacc.dict
  refine kso_call (C := 107) (f := 81) (K := Kw w) (by have := r.units; show A.units + 1 + 1 < cLine; omega) X (acc_inst hacc.obj hd) (by kernel_rfl) (by kernel_rfl) ?_
  refine wpAny_call (str_body (A := A.in1.in1) (d := d) (n := n) (vs := vs) (ls := ls) r.hh (by have := r.depth; show A.depth + 3 < _; omega) (S.hide kg fun a ha => ng a (by simp at ha ⊢; rcases ha with rfl | rfl <;> simp)) hacc.obj hacc.pieces hT hlen hg fun s' t w t' => ?_)
  exact h s' t w t'

/-- the truth of an accumulator: its length -/
theorem acc_truthy {Q : Bool → Shared → Prop} (r : Room A 9) (S : St w mean mg mb g) (kg : g.StaysIn s.heap) (ng : ∀ a ∈ [69, 76, x, d], g.get? a = none) (hacc : Acc w s.heap x d vs n ls)
    (hT : Tabs s.heap) (hlen : (ls.map (·.length)).sum + ls.length ≤ 100000) (hg : AllBare s.gens)
    (h : ∀ s', Went tabs s s' → Tabs s'.heap → Q (decide (ls ≠ [])) s') : wpAny (model prg w) A (truthy (.ref x)) Q E s := by
  have X : (Kw w).In s.heap := S.X.keeps kg
  obtain ⟨tk, tk', hd⟩ := hacc.dict
  have I := acc_inst hacc.obj hd
  unfold truthy
  have nb : Looks (model prg w) s.heap (typeLookup (.ref 107) "__bool__") none := cls_peek X (by kernel_rfl)
  have nl : Looks (model prg w) s.heap (typeLookup (.ref 107) "__len__") (some (.ref 74)) := cls_peek X (by kernel_rfl)
  refine wpAny_bind (m := callSpecial? (.ref x) (Str.ofString "__bool__")) (wpAny_bind (wpAny_bind (I.type.here (nb.here (wpAny_pure ?_)))))
  refine wpAny_bind (wpAny_bind (I.type.here (nl.here ?_)))
  simp only [Option.isNone_some, Bool.false_eq_true, if_false]
  refine wpAny_bind (wpAny_runValue (codeAny_builtin entry_len ?_))
  rw [Around.under_plainId plain_len _]
  unfold Builtin.«len»
  refine wpAny_bind (m := oneArg "len" _) (wpAny_pure ?_)
  refine wpAny_bind (m := callSpecial? (.ref x) (Str.ofString "__len__")) (special_fn (K := Kw w) (C := 107) (f := 74) X I (by kernel_rfl) (by kernel_rfl) (wpAny_call (len_body (A := A.in1) (d := d) (n := n) (vs := vs) (ls := ls) r.hh (by have := r.depth; show A.depth + 3 < _; omega) S kg ng hacc hT hlen hg fun s' t w t' => ?_)))
  refine wpAny_bind (wpAny_holding (wpAny_pure ?_))
  refine wpAny_bind (wpAny_letGo ?_)
  show wpAny _ _ (if (((ls.map (·.length)).sum + ls.length : Nat) : Int) < 0 then _ else _) _ _ _
  rw [if_neg (by omega)]
  show wpAny _ _ (if (((ls.map (·.length)).sum + ls.length : Nat) : Int) ≥ 2 ^ 63 then _ else _) _ _ _
  rw [if_neg (by omega)]
  refine wpAny_bind (wpAny_mkInt (wpAny_pure ?_))
  refine wpAny_pure ?_
  have e : ((((ls.map (·.length)).sum + ls.length : Nat) : Int) != 0) = decide (ls ≠ []) := by
    cases ls with
    | nil => rfl
    | cons a b => simp only [List.map_cons, List.sum_cons, List.length_cons]; simp; omega
  rw [e]
  exact h { s' with toks := s'.toks + 1 } ⟨w.os, w.gens, w.keep⟩ t'
end
end Mine

namespace Mine
open Builtin

section
variable {w : World} {mean : ExcName → Option Value} {mg mb : Str → Option Value} {A : Around} {R : Result → Shared → Prop} {s : Shared} {h : Heap} {E : Value → Shared → Prop}
variable {x d : Addr} {vs : Array Value} {n : Nat} {ls : List Str} {g : Heap}

theorem frWent {g : Heap} {L : Addr} {m : Str → Option Value} {s s' : Shared} {mu : List Addr} (F : Fr g L s.heap m) (W : Went mu s s') (hm : ∀ a ∈ mu, g.get? a = none) (hL : L ∉ mu) : Fr g L s'.heap m :=
  ⟨F.ns.at' fun o e => W.keep L o hL e, fun b o e => W.keep b o (fun q => by rw [hm b q] at e; cases e) (F.keep b o e), F.above⟩
theorem newsWent {g : Heap} {L : Addr} {s s' : Shared} {mu : List Addr} {news : List (Addr × Obj)} (N : News g L s.heap news) (W : Went mu s s') (h : ∀ p ∈ news, p.1 ∉ mu) : News g L s'.heap news :=
  fun p hp => ⟨W.keep _ _ (h p hp) (N p hp).1, (N p hp).2⟩
theorem Acc.went {s s' : Shared} {mu : List Addr} (a : Acc w s.heap x d vs n ls) (W : Went mu s s') (hm : ∀ b ∈ mu, ∀ o, s.heap.get? b = some o → o.cls = .none) : Acc w s'.heap x d vs n ls :=
  have k : ∀ b o, o.cls ≠ .none → s.heap.get? b = some o → s'.heap.get? b = some o := fun b o hc e => W.keep b o (fun q => hc (hm b q o e)) e
  ⟨k _ _ (by simp) a.obj, let ⟨t, t', e⟩ := a.dict; ⟨t, t', k _ _ (by simp) e⟩, a.pieces.keep fun b o hc e => k b o (by rw [hc]; simp) e⟩
theorem Acc.keep {h h' : Heap} (a : Acc w h x d vs n ls) (k : ∀ b o, h.get? b = some o → h'.get? b = some o) : Acc w h' x d vs n ls :=
  ⟨k _ _ a.obj, let ⟨t, t', e⟩ := a.dict; ⟨t, t', k _ _ e⟩, a.pieces.keep fun b o _ e => k b o e⟩
theorem Tabs.cls {h : Heap} (T : Tabs h) : ∀ b ∈ tabs, ∀ o, h.get? b = some o → o.cls = .none := by
  intro b hb o e
  obtain ⟨⟨ps, _, h1⟩, qs, _, h2⟩ := T
  simp only [List.mem_cons, List.not_mem_nil, or_false] at hb
  rcases hb with rfl | rfl
  · rw [h2.2] at e; cases e; rfl
  · rw [h1.2] at e; cases e; rfl

set_option maxHeartbeats 2000000 in
theorem onlyws_body (r : Room A 12) (S : St w mean mg mb g) (kg : g.StaysIn s.heap) (ng : ∀ a ∈ [69, 76, x, d], g.get? a = none) (hacc : Acc w s.heap x d vs n ls)
    (hT : Tabs s.heap) (hlen : (ls.map (·.length)).sum + ls.length ≤ 100000) (hg : AllBare s.gens) (hns : ls ≠ [] → Txt.isspace (txtOf ls) = false)
    (h : ∀ s', Went tabs s s' → Tabs s'.heap → R (.ok (.ret (.bool (decide (ls = []))))) s') :
    codeAny (model prg w) A (.call (.ref 96) ⟨[.ref x], []⟩) R s := by
  have hacc0 := hacc
  have hT0 := hT
  obtain ⟨⟨ps, hc, ht⟩, ⟨qs, hc', ht'⟩⟩ := hT
  obtain ⟨hx, ⟨tk, tk', hdd⟩, hp⟩ := hacc
  have S' : St w mean mg mb s.heap := S.keeps kg
  obtain ⟨X, T, GL⟩ := S.hide kg ng
  obtain ⟨X', T', GL'⟩ := S'
  have NN : ∀ p ∈ [((69 : Addr), tabO qs), ((76 : Addr), tabO ps), (x, accObj d vs n), (d, accDict w.params tk tk')], s.heap.get? p.1 = some p.2 := by
    intro p hp
    simp only [List.mem_cons, List.not_mem_nil, or_false] at hp
    rcases hp with rfl | rfl | rfl | rfl
    · exact ht'.2
    · exact ht.2
    · exact hx
    · exact hdd
  refine' call_defN (binds := [("self", .ref x)]) (news := [((69 : Addr), tabO qs), ((76 : Addr), tabO ps), (x, accObj d vs n), (d, accDict w.params tk tk')]) X' ?k2 NN ?k6 ?k7 ?k8 ?k9 ?kB ?_ ?c2 ?c3 ?c4 ?c5
  case k6 => k_is
  case k2 => exact Top.nolimit (by assumption)
  case k7 => k_is
  case k8 => have := r.depth; omega
  case k9 => first | exact BindsTo.of_eq rfl | exact binds_K (by assumption) rfl (by k_is) rfl rfl rfl | exact binds_K (by assumption) rfl (by k_is) rfl rfl (by with_unfolding_all rfl) | exact binds_K (by assumption) rfl (by k_is) rfl rfl (by kernel_rfl)
  case kB => exact locs rfl
  case c2 => exact rfl
  case c3 => exact rfl
  case c4 => exact rfl
  case c5 => decide
  intro L h₁ F N l1
  have k1 : ∀ b o, s.heap.get? b = some o → h₁.get? b = some o := fun b o e => by
    by_cases hb : b ∈ [69, 76, x, d]
    · simp only [List.mem_cons, List.not_mem_nil, or_false] at hb
      rcases hb with rfl | rfl | rfl | rfl
      · have := (N _ (.head _)).1; rw [ht'.2] at e; cases e; exact this
      · have := (N _ (.tail _ (.head _))).1; rw [ht.2] at e; cases e; exact this
      · have := (N _ (.tail _ (.tail _ (.head _)))).1; rw [hx] at e; cases e; exact this
      · have := (N _ (.tail _ (.tail _ (.tail _ (.head _))))).1; rw [hdd] at e; cases e; exact this
    · exact F.keep b o (hideAll_get _ e hb)
  have hLlt : L < h₁.objs.size := F.ns.lt
  dsimp only [List.map] at F N
  walk1
  walk1
  walk1
  walk1
  walk1
  walk1
  refine acc_size_read (X.keeps F.keep) (N _ (.tail _ (.tail _ (.head _)))).1 (N _ (.tail _ (.tail _ (.tail _ (.head _))))).1 ?_
  walk1
  walk1
  walk1
  walk1
  walk1
  walk1
  walk1
  walk1
  walk1
  have nbase : ∀ a ∈ [69, 76, x, d], (hideAll s.heap [69, 76, x, d]).get? a = none := fun a ha => hideAll_none _ ha
  have nL : L ∉ tabs := fun q => by
    simp only [List.mem_cons, List.not_mem_nil, or_false] at q
    rcases q with q | q
    · exact Nat.ne_of_gt (l1 (69, tabO qs) (.head _)) q
    · exact Nat.ne_of_gt (l1 (76, tabO ps) (.tail _ (.head _))) q
  refine acc_truthy (r.mono (by omega) : Room _ 10).deeper ⟨X, T, GL⟩ F.keep nbase (hacc0.keep k1) (hT0.keep k1) hlen hg fun s₂ w₂ t₂ => ?_
  have F2 := frWent F w₂ (fun a ha => nbase a (by simp at ha ⊢; rcases ha with rfl | rfl <;> simp)) nL
  have W2 : Went tabs s s₂ := ⟨w₂.os, fun q => w₂.gens q, fun b o hb e => w₂.keep b o hb (k1 b o e)⟩
  have A2 : Acc w s₂.heap x d vs n ls := hacc0.went W2 (Tabs.cls hT0)
  have N2 : News (hideAll s.heap [69, 76, x, d]) L s₂.heap [] := News.nil
  clear F N w₂
  by_cases he : ls = []
  · have e1 : (!decide (ls ≠ [])) = true := by simp [he]
    have e2 : decide (ls = []) = true := by simp [he]
    rw [e1]
    rw [e2] at h
    k_steps
    exact h s₂ W2 t₂
  · have e1 : (!decide (ls ≠ [])) = false := by simp [he]
    have e2 : decide (ls = []) = false := by simp [he]
    rw [e1]
    rw [e2] at h
    walk1
    walk1
    walk1
    walk1
    walk1
    walk1
    walk1
    walk1
    walk1
    walk1
    refine acc_str (r.mono (by omega) : Room _ 10).deeper ⟨X, T, GL⟩ F2.keep nbase A2 t₂ hlen (W2.gens hg) fun s₃ u w₃ t₃ => ?_
    have W3 := W2.trans w₃
    have F3 := frWent F2 w₃ (fun a ha => nbase a (by simp at ha ⊢; rcases ha with rfl | rfl <;> simp)) nL
    have N3 : News (hideAll s.heap [69, 76, x, d]) L s₃.heap [] := News.nil
    clear F2 N2 w₃
    k_steps
    rw [hns he]
    exact h s₃ W3 t₃
end
end Mine

namespace Mine
open Builtin

section
variable {w : World} {mean : ExcName → Option Value} {mg mb : Str → Option Value} {A : Around} {R : Result → Shared → Prop} {s : Shared} {h : Heap} {E : Value → Shared → Prop}
variable {x d : Addr} {vs : Array Value} {n : Nat} {ls : List Str} {g : Heap}

set_option maxHeartbeats 2000000 in
theorem push_body (r : Room A 12) (S : St w mean mg mb g) (kg : g.StaysIn s.heap) (ng : ∀ a ∈ [69, 76, x, d], g.get? a = none) (hacc : Acc w s.heap x d vs n ls)
    (hT : Tabs s.heap) (hlen : ls.length < 1000) {l : Str} {t₁ t₂ : Tok}
    (h : ∀ s' vs' n', Went [x] s s' → Acc w s'.heap x d vs' n' (ls ++ [l]) → R (.ok (.ret .none)) s') :
    codeAny (model prg w) A (.call (.ref 52) ⟨[.ref x, .str "\n" t₁, .str l t₂], []⟩) R s := by
  have hacc0 := hacc
  have hT0 := hT
  obtain ⟨⟨ps, hc, ht⟩, ⟨qs, hc', ht'⟩⟩ := hT
  obtain ⟨hx, ⟨tk, tk', hdd⟩, hp⟩ := hacc
  have S' : St w mean mg mb s.heap := S.keeps kg
  obtain ⟨X, T, GL⟩ := S.hide kg ng
  obtain ⟨X', T', GL'⟩ := S'
  have NN : ∀ p ∈ [((69 : Addr), tabO qs), ((76 : Addr), tabO ps), (x, accObj d vs n), (d, accDict w.params tk tk')], s.heap.get? p.1 = some p.2 := by
    intro p hp
    simp only [List.mem_cons, List.not_mem_nil, or_false] at hp
    rcases hp with rfl | rfl | rfl | rfl
    · exact ht'.2
    · exact ht.2
    · exact hx
    · exact hdd
  refine' call_defN (binds := [("self", .ref x), ("fws", .str "\n" t₁), ("string", .str l t₂)]) (news := [((69 : Addr), tabO qs), ((76 : Addr), tabO ps), (x, accObj d vs n), (d, accDict w.params tk tk')]) X' ?k2 NN ?k6 ?k7 ?k8 ?k9 ?kB ?_ ?c2 ?c3 ?c4 ?c5
  case k6 => k_is
  case k2 => exact Top.nolimit (by assumption)
  case k7 => k_is
  case k8 => have := r.depth; omega
  case k9 => first | exact BindsTo.of_eq rfl | exact binds_K (by assumption) rfl (by k_is) rfl rfl rfl | exact binds_K (by assumption) rfl (by k_is) rfl rfl (by with_unfolding_all rfl) | exact binds_K (by assumption) rfl (by k_is) rfl rfl (by kernel_rfl)
  case kB => exact locs rfl
  case c2 => exact rfl
  case c3 => exact rfl
  case c4 => exact rfl
  case c5 => decide
  intro L h₁ F N l1
  have k1 : ∀ b o, s.heap.get? b = some o → h₁.get? b = some o := fun b o e => by
    by_cases hb : b ∈ [69, 76, x, d]
    · simp only [List.mem_cons, List.not_mem_nil, or_false] at hb
      rcases hb with rfl | rfl | rfl | rfl
      · have := (N _ (.head _)).1; rw [ht'.2] at e; cases e; exact this
      · have := (N _ (.tail _ (.head _))).1; rw [ht.2] at e; cases e; exact this
      · have := (N _ (.tail _ (.tail _ (.head _)))).1; rw [hx] at e; cases e; exact this
      · have := (N _ (.tail _ (.tail _ (.tail _ (.head _))))).1; rw [hdd] at e; cases e; exact this
    · exact F.keep b o (hideAll_get _ e hb)
  have hLlt : L < h₁.objs.size := F.ns.lt
  dsimp only [List.map] at F N
  walk1
  walk1
  walk1
  walk1
  refine acc_meth_append (X.keeps F.keep) (N _ (.tail _ (.tail _ (.head _)))).1 (N _ (.tail _ (.tail _ (.tail _ (.head _))))).1 ?_
  k_steps
  rename_i T h₂ F₂ N₂ l₂
  have hx2 := (N₂ _ (.tail _ (.tail _ (.tail _ (.head _))))).1
  have hvl : vs.size = ls.length := by have := hp.len; simpa using this
  refine acc_append (n := n) (d := d) (vs := vs) (X.keeps F₂.keep) hx2 (by omega) fun h₃ s₃ n₃ e₃ => ?_
  k_steps
  have hne : ∀ b o, s.heap.get? b = some o → h₂.get? b = some o := fun b o e => by
    by_cases hb : b ∈ [69, 76, x, d]
    · simp only [List.mem_cons, List.not_mem_nil, or_false] at hb
      rcases hb with rfl | rfl | rfl | rfl
      · have := (N₂ _ (.tail _ (.head _))).1; rw [ht'.2] at e; cases e; exact this
      · have := (N₂ _ (.tail _ (.tail _ (.head _)))).1; rw [ht.2] at e; cases e; exact this
      · have := (N₂ _ (.tail _ (.tail _ (.tail _ (.head _))))).1; rw [hx] at e; cases e; exact this
      · have := (N₂ _ (.tail _ (.tail _ (.tail _ (.tail _ (.head _)))))).1; rw [hdd] at e; cases e; exact this
    · exact F₂.keep b o (hideAll_get _ e hb)
  have up : ∀ b o, b ≠ x → h₂.get? b = some o → h₃.get? b = some o := fun b o hb e => s₃.extBut b o hb e
  have hxd : d ≠ x := fun q => by rw [q, hx] at hdd; cases hdd
  have hTx : T ≠ x := Nat.ne_of_gt l₂.2.2.1
  refine h _ (vs.push (.ref T)) n₃ ?went ?acc
  case went => exact ⟨rfl, fun q => q, fun b o hb e => up b o (by simpa using hb) (hne b o e)⟩
  case acc =>
  refine ⟨e₃, ⟨_, _, up _ _ hxd (hne _ _ hdd)⟩, ?_⟩
  have pk : Pieces h₃ vs.toList ls := hp.keep fun b o hc e => up b o (fun q => by rw [q, hx] at e; cases e; cases hc) (hne b o e)
  have := pk.snoc (T := T) (l := l) (t₁ := t₁) (t₂ := t₂) (n := 0) (up _ _ hTx (N₂ _ (.head _)).1)
  simpa using this

set_option maxHeartbeats 2000000 in
theorem pop_body (r : Room A 12) (S : St w mean mg mb g) (kg : g.StaysIn s.heap) (ng : ∀ a ∈ [69, 76, x, d], g.get? a = none) (hacc : Acc w s.heap x d vs n ls)
    (hT : Tabs s.heap) (hlen : ls.length < 1000) {k : Nat} {tki : Tok} (hk : k ≤ ls.length)
    (h : ∀ s' D vs' n' ps np, Went [x] s s' → Acc w s'.heap x d vs' n' (ls.take k) → s.heap.get? D = none → s'.heap.get? D = some (listOf ps np) → Pieces s'.heap ps.toList (ls.drop k) → R (.ok (.ret (.ref D))) s') :
    codeAny (model prg w) A (.call (.ref 60) ⟨[.ref x, .int k tki], []⟩) R s := by
  have hacc0 := hacc
  have hT0 := hT
  obtain ⟨⟨ps, hc, ht⟩, ⟨qs, hc', ht'⟩⟩ := hT
  obtain ⟨hx, ⟨tk, tk', hdd⟩, hp⟩ := hacc
  have S' : St w mean mg mb s.heap := S.keeps kg
  obtain ⟨X, T, GL⟩ := S.hide kg ng
  obtain ⟨X', T', GL'⟩ := S'
  have NN : ∀ p ∈ [((69 : Addr), tabO qs), ((76 : Addr), tabO ps), (x, accObj d vs n), (d, accDict w.params tk tk')], s.heap.get? p.1 = some p.2 := by
    intro p hp
    simp only [List.mem_cons, List.not_mem_nil, or_false] at hp
    rcases hp with rfl | rfl | rfl | rfl
    · exact ht'.2
    · exact ht.2
    · exact hx
    · exact hdd
  refine' call_defN (binds := [("self", .ref x), ("i", .int k tki)]) (news := [((69 : Addr), tabO qs), ((76 : Addr), tabO ps), (x, accObj d vs n), (d, accDict w.params tk tk')]) X' ?k2 NN ?k6 ?k7 ?k8 ?k9 ?kB ?_ ?c2 ?c3 ?c4 ?c5
  case k6 => k_is
  case k2 => exact Top.nolimit (by assumption)
  case k7 => k_is
  case k8 => have := r.depth; omega
  case k9 => first | exact BindsTo.of_eq rfl | exact binds_K (by assumption) rfl (by k_is) rfl rfl rfl | exact binds_K (by assumption) rfl (by k_is) rfl rfl (by with_unfolding_all rfl) | exact binds_K (by assumption) rfl (by k_is) rfl rfl (by kernel_rfl)
  case kB => exact locs rfl
  case c2 => exact rfl
  case c3 => exact rfl
  case c4 => exact rfl
  case c5 => decide
  intro L h₁ F N l1
  have k1 : ∀ b o, s.heap.get? b = some o → h₁.get? b = some o := fun b o e => by
    by_cases hb : b ∈ [69, 76, x, d]
    · simp only [List.mem_cons, List.not_mem_nil, or_false] at hb
      rcases hb with rfl | rfl | rfl | rfl
      · have := (N _ (.head _)).1; rw [ht'.2] at e; cases e; exact this
      · have := (N _ (.tail _ (.head _))).1; rw [ht.2] at e; cases e; exact this
      · have := (N _ (.tail _ (.tail _ (.head _)))).1; rw [hx] at e; cases e; exact this
      · have := (N _ (.tail _ (.tail _ (.tail _ (.head _))))).1; rw [hdd] at e; cases e; exact this
    · exact F.keep b o (hideAll_get _ e hb)
  have hLlt : L < h₁.objs.size := F.ns.lt
  dsimp only [List.map] at F N
  k_steps
  have hx1 := (N _ (.tail _ (.tail _ (.head _)))).1
  have hvl : vs.size = ls.length := by have := hp.len; simpa using this
  refine acc_slice (k := k) (tk := tki) (vs := vs) (n := n) (d := d) ((X.keeps F.keep).keeps fun _ _ e => Heap.get?_push_of_some _ e) (Heap.get?_push_of_some _ hx1) (Heap.IsSliceOf.new ..) (by omega) (by omega) ?_
  have F1 := F
  have hmid : ∃ h₂ : Heap, h₂ = (h₁.push { cls := .type "slice", data := .fields #[.int k tki, .none, .none] }).push { cls := .type "list", data := .seq (vs.toList.drop k).toArray } := ⟨_, rfl⟩
  obtain ⟨h₂, hh₂⟩ := hmid
  have F2 := (F.push { cls := .type "slice", data := .fields #[.int k tki, .none, .none] }).push { cls := .type "list", data := .seq (vs.toList.drop k).toArray }
  have N2 := News.push (F.push { cls := .type "slice", data := .fields #[.int k tki, .none, .none] }) (N.grown fun _ _ e => Heap.get?_push_of_some _ e) { cls := .type "list", data := .seq (vs.toList.drop k).toArray }
  rw [← hh₂] at F2 N2
  rw [Heap.size_push] at N2
  dsimp only
  rw [Heap.size_push, ← hh₂]
  have k2 : ∀ b o, h₁.get? b = some o → h₂.get? b = some o := fun b o e => by rw [hh₂]; exact Heap.get?_push_of_some _ (Heap.get?_push_of_some _ e)
  have hD : h₁.get? (h₁.objs.size + 1) = none := Heap.get?_none_of_le (Nat.le_succ _)
  generalize h₁.objs.size + 1 = D at *
  clear F N hh₂
  k_steps
  rename_i h₃ tk3 l h₄ F4 N4 l4
  have hx4 := (N4 _ (.tail _ (.tail _ (.tail _ (.tail _ (.head _)))))).1
  have hd4 := (N4 _ (.tail _ (.tail _ (.tail _ (.tail _ (.tail _ (.head _))))))).1
  have hl4 := (N4 _ (.head _)).1
  have hD4 := (N4 _ (.tail _ (.head _))).1
  have hxl : x ≠ l := Nat.ne_of_lt l4.2.2.2.1
  have hxd : d ≠ x := fun q => by rw [q, hx] at hdd; cases hdd
  have hne : ∀ b o, s.heap.get? b = some o → h₄.get? b = some o := fun b o e => by
    by_cases hb : b ∈ [69, 76, x, d]
    · simp only [List.mem_cons, List.not_mem_nil, or_false] at hb
      rcases hb with rfl | rfl | rfl | rfl
      · have := (N4 _ (.tail _ (.tail _ (.head _)))).1; rw [ht'.2] at e; cases e; exact this
      · have := (N4 _ (.tail _ (.tail _ (.tail _ (.head _))))).1; rw [ht.2] at e; cases e; exact this
      · rw [hx] at e; cases e; exact hx4
      · rw [hdd] at e; cases e; exact hd4
    · exact F4.keep b o (hideAll_get _ e hb)
  have hDn : s.heap.get? D = none := by
    cases q : s.heap.get? D with
    | none => rfl
    | some o => rw [k1 _ _ q] at hD; cases hD
  have hDx : D ≠ x := fun q => by rw [q, hx] at hDn; cases hDn
  dsimp only at hx4 hl4 hD4
  refine acc_setslice (k := k) (tk := tki) (vs := vs) (n := n) (d := d) (nl := 0) ((X.keeps F4.keep).keeps fun _ _ e => Heap.get?_push_of_some _ e) (Heap.get?_push_of_some _ hx4) (Heap.IsSliceOf.new ..) (Heap.get?_push_of_some _ hl4) hxl (by omega) (by omega) fun h₅ s₅ n₅ e₅ => ?_
  have up : ∀ b o, b ≠ x → h₄.get? b = some o → h₅.get? b = some o := fun b o hb e => s₅.extBut b o hb (Heap.get?_push_of_some _ e)
  have F5 : Fr (hideAll s.heap [69, 76, x, d]) L h₅ (fun y => if y = Str.ofString "popped" then some (Value.ref D) else List.lookup y [(Str.ofString "self", Value.ref x), (Str.ofString "i", Value.int (↑k) tki)].reverse) :=
    ⟨F4.ns.at' fun o e => up L o (fun q => Nat.ne_of_gt (l1 (x, accObj d vs n) (.tail _ (.tail _ (.head _)))) q) e, fun b o e => up b o (fun q => by rw [q, hideAll_none _ (by simp)] at e; cases e) (F4.keep b o e), F4.above⟩
  have N5 : News (hideAll s.heap [69, 76, x, d]) L h₅ [] := News.nil
  clear F4 N4
  k_steps
  refine h _ D (vs.toList.take k).toArray n₅ (vs.toList.drop k).toArray 0 ?went ?acc hDn ?lst ?pcs
  case went => exact ⟨rfl, fun q => q, fun b o hb e => up b o (by simpa using hb) (hne b o e)⟩
  case acc =>
    refine ⟨e₅, ⟨_, _, up _ _ hxd (hne _ _ hdd)⟩, ?_⟩
    have pk : Pieces h₅ vs.toList ls := hp.keep fun b o hc e => up b o (fun q => by rw [q, hx] at e; cases e; cases hc) (hne b o e)
    simpa using pk.take k
  case lst => exact up _ _ hDx hD4
  case pcs =>
    have pk : Pieces h₅ vs.toList ls := hp.keep fun b o hc e => up b o (fun q => by rw [q, hx] at e; cases e; cases hc) (hne b o e)
    simpa using pk.drop k
end
end Mine

namespace Mine
open Builtin

/-- a call of a def that bears __class__, over a written ledger -/
theorem call_defS {prog : Program} {w : World} {A : Around} {R : Result → Shared → Prop} {s : Shared} {K : Frag} {news : List (Addr × Obj)}
    {name qual : Str} {params : Arguments} {body : List Stmt} {scope : Scope} {dV kV doc pm cdv ct oc : Value} {an od : Option Addr} {osl : Array (Option Value)} {f cc : Addr} {args : Args} {binds : List (Str × Value)}
    (X : K.In s.heap) (hlim : s.heap.NoLimit) (N : ∀ p ∈ news, s.heap.get? p.1 = some p.2)
    (ho : K.lookup f = some ⟨oc, od, .func (ksFn name qual params body scope dV kV doc pm an cdv ct cc), osl⟩) (hcd : codeIn K cdv qual = true) (hroom : A.depth < recursionLimit)
    (hbind : BindsTo s (ksFn name qual params body scope dV kV doc pm an cdv ct cc) args binds) (hloc : ∀ y ∈ binds, scope.names.lookup y.1 = some .local)
    (h : ∀ L h₁, Fr (hideAll s.heap (news.map (·.1))) L h₁ (fun y => binds.reverse.lookup y) → News (hideAll s.heap (news.map (·.1))) L h₁ news → (∀ p ∈ news, p.1 < L) →
      _root_.PySem.wpAt (model prog w) (A.deeper (ksEnv qual scope L f cdv cc)) (.func body (ksEnv qual scope L f cdv cc)) (execs body (ksEnv qual scope L f cdv cc))
        (fun fl s' => R (.ok (.ret (match fl with | .ret v => v | _ => .none))) s') (fun _ _ => False)
        { s with heap := h₁, toks := s.toks + binds.length })
    (hco : scope.isCoroutine = false := by rfl) (hgen : scope.isGenerator = false := by rfl) (hk : scope.kind = .function := by rfl)
    (hcell : ∀ x ∈ scope.names, x.2 ≠ .cell := by decide) : codeAny (model prog w) A (.call (.ref f) args) R s := by
  refine ks_codeAny_call_defAt (fd := ksFn name qual params body scope dV kV doc pm an cdv ct cc) (body := body) (binds := binds) hroom (X _ _ ho) rfl hlim (codeRec_of X hcd) rfl hbind hcell hloc (fun h₁ hns hk₁ => ?_) hco hgen hk
  refine ks_wpAt_mono (h s.heap.objs.size h₁ ⟨hns, fun b o e => hk₁ b o (of_hideAll _ e), Nat.le_of_eq (hideAll_size _ _)⟩ (fun p hp => ?_) fun p hp => ?_) (fun _ _ y => y) fun _ _ y => y.elim
  · exact ⟨hk₁ _ _ (N p hp), Nat.ne_of_lt (Heap.lt_size (N p hp)), hideAll_none _ (List.mem_map_of_mem hp)⟩
  · exact Heap.lt_size (N p hp)

theorem check_bound {M : Model} {A : Around} {E : Value → Shared → Prop} {s : Shared} {i : String} {self : Value} {rest : List Value} {Q : Unit → Shared → Prop} (hk : builtinKind i = some .slot) (ha : argsOk i ⟨self :: rest, []⟩) (q : Q () s) :
    wpAny M A (checkBoundCall i ⟨self :: rest, []⟩) Q E s := by
  simp only [checkBoundCall, hk]
  cases hsig : Manifest.signature? i with
  | none => exact wpAny_pure q
  | some sig =>
    simp only [argsOk, hsig] at ha
    have h2 : Bind.checkArgs i sig ⟨self :: rest, []⟩ = pure () := ha
    dsimp only
    rw [if_pos (by decide), h2]
    exact wpAny_pure q

section
variable {w : World} {mean : ExcName → Option Value} {mg mb : Str → Option Value} {A : Around} {R : Result → Shared → Prop} {s : Shared} {h : Heap} {E : Value → Shared → Prop}
variable {x d : Addr} {vs : Array Value} {n : Nat} {ls : List Str} {g : Heap}

theorem keeps_wrap {M : Model} {q : Addr} {i : String} (h : Heap) (hq : h.get? q = some (wrapO i x)) : ∃ k, (k = Keeper.frame ∨ k = Keeper.machine ∨ k = Keeper.boundFrame) ∧ Looks M h (keeperOf (.ref q)) k :=
  ⟨.machine, .inr (.inl rfl), (Looks.ld (part := none) hq).andThen .now⟩
theorem callWith_wrap {M : Model} {pos : Pos} {env : Env} {q : Addr} {i : String} {Q : Value → Shared → Prop} (hq : s.heap.get? q = some (wrapO i x)) (h : wpAny M A (call (.ref q) []) Q E s) :
    wpAny M A (callWith pos (.ref q) [] (backTo pos (starEach [] env)) []) Q E s :=
  callWith_of (P := fun h => h.get? q = some (wrapO i x)) rfl keeps_wrap (evalArgs_nil3 ⟨hq, h⟩)

theorem len_code {R' : Result → Shared → Prop} (hx : s.heap.get? x = some (accObj d vs n)) (h : R' (.ok (.ret (.int vs.size s.toks))) { s with toks := s.toks + 1 }) : codeAny (model prg w) A (.builtin "list.__len__" ⟨[.ref x], []⟩) R' s := by
  refine codeAny_builtin entry_list_len ?_
  show wpAny _ _ (seqSize x >>= fun n : Nat => retInt n) _ _ s
  refine wpAny_bind ?_
  unfold seqSize
  refine wpAny_bind (wpAny_loadPart hx ?_)
  refine wpAny_pure ?_
  unfold retInt
  exact wpAny_bind (wpAny_mkInt (wpAny_pure h))

theorem acc_ne107 (X : (Kw w).In h) (hx : h.get? x = some (accObj d vs n)) : x ≠ 107 := fun q => by
  have e := X 107 _ rfl
  rw [← q, hx] at e
  exact Value.noConfusion (congrArg Obj.cls (Option.some.inj e))

set_option maxHeartbeats 2000000 in
theorem count_body (r : Room A 12) (S : St w mean mg mb g) (kg : g.StaysIn s.heap) (ng : ∀ a ∈ [69, 76, x, d], g.get? a = none) (hacc : Acc w s.heap x d vs n ls)
    (hT : Tabs s.heap) (hlen : ls.length < 1000)
    (h : ∀ s' t, Went [] s s' → R (.ok (.ret (.int ls.length t))) s') :
    codeAny (model prg w) A (.call (.ref 104) ⟨[.ref x], []⟩) R s := by
  have hacc0 := hacc
  have hT0 := hT
  obtain ⟨⟨ps, hc, ht⟩, ⟨qs, hc', ht'⟩⟩ := hT
  obtain ⟨hx, ⟨tk, tk', hdd⟩, hp⟩ := hacc
  have S' : St w mean mg mb s.heap := S.keeps kg
  obtain ⟨X, T, GL⟩ := S.hide kg ng
  obtain ⟨X', T', GL'⟩ := S'
  have NN : ∀ p ∈ [((69 : Addr), tabO qs), ((76 : Addr), tabO ps), (x, accObj d vs n), (d, accDict w.params tk tk')], s.heap.get? p.1 = some p.2 := by
    intro p hp
    simp only [List.mem_cons, List.not_mem_nil, or_false] at hp
    rcases hp with rfl | rfl | rfl | rfl
    · exact ht'.2
    · exact ht.2
    · exact hx
    · exact hdd
  refine' call_defS (binds := [("self", .ref x)]) (news := [((69 : Addr), tabO qs), ((76 : Addr), tabO ps), (x, accObj d vs n), (d, accDict w.params tk tk')]) X' ?k2 NN ?k6 ?k7 ?k8 ?k9 ?kB ?_ ?c2 ?c3 ?c4 ?c5
  case k6 => k_is
  case k2 => exact Top.nolimit (by assumption)
  case k7 => k_is
  case k8 => have := r.depth; omega
  case k9 => first | exact BindsTo.of_eq rfl | exact binds_K (by assumption) rfl (by k_is) rfl rfl rfl | exact binds_K (by assumption) rfl (by k_is) rfl rfl (by with_unfolding_all rfl) | exact binds_K (by assumption) rfl (by k_is) rfl rfl (by kernel_rfl)
  case kB => exact locs rfl
  case c2 => exact rfl
  case c3 => exact rfl
  case c4 => exact rfl
  case c5 => decide
  intro L h₁ F N l1
  have k1 : ∀ b o, s.heap.get? b = some o → h₁.get? b = some o := fun b o e => by
    by_cases hb : b ∈ [69, 76, x, d]
    · simp only [List.mem_cons, List.not_mem_nil, or_false] at hb
      rcases hb with rfl | rfl | rfl | rfl
      · have := (N _ (.head _)).1; rw [ht'.2] at e; cases e; exact this
      · have := (N _ (.tail _ (.head _))).1; rw [ht.2] at e; cases e; exact this
      · have := (N _ (.tail _ (.tail _ (.head _)))).1; rw [hx] at e; cases e; exact this
      · have := (N _ (.tail _ (.tail _ (.tail _ (.head _))))).1; rw [hdd] at e; cases e; exact this
    · exact F.keep b o (hideAll_get _ e hb)
  have hLlt : L < h₁.objs.size := F.ns.lt
  dsimp only [List.map] at F N
  walk1
  walk1
  walk1
  have hx1 := (N _ (.tail _ (.tail _ (.head _)))).1
  have hd1 := (N _ (.tail _ (.tail _ (.tail _ (.head _))))).1
  refine' ks_node F X N T ?a1 ?a2 ?a3 (acc_inst hx1 hd1) ?a4 ?a5 ?a6 ?a7 ?a8 ?a9 ?a10 ?a11 ?a12 ?a13 ?a14 ?a15 ?a16 ?a17 ?_
  case a1 => k_is
  case a2 => rfl
  case a3 => rfl
  case a4 => k_is
  case a5 => rfl
  case a6 => first | rfl | decide +kernel
  case a7 => k_is
  case a8 => k_is
  case a9 => k_is
  case a10 => k_is
  case a11 => decide
  case a12 => rfl
  case a13 => rfl
  case a14 => rfl
  case a15 => rfl
  case a16 => decide +kernel
  case a17 => first | boot_by_name | rfl | kernel_rfl
  intro so h₂ F₂ N₂ l₂
  dsimp only at N₂
  have hso := (N₂ _ (.head _)).1
  have hx2 := (N₂ _ (.tail _ (.tail _ (.tail _ (.head _))))).1
  dsimp only at hso hx2
  have hx107 : x ≠ 107 := acc_ne107 X' hx
  have k2 : ∀ b o, s.heap.get? b = some o → h₂.get? b = some o := fun b o e => by
    by_cases hb : b ∈ [69, 76, x, d]
    · simp only [List.mem_cons, List.not_mem_nil, or_false] at hb
      rcases hb with rfl | rfl | rfl | rfl
      · have := (N₂ _ (.tail _ (.head _))).1; rw [ht'.2] at e; cases e; exact this
      · have := (N₂ _ (.tail _ (.tail _ (.head _)))).1; rw [ht.2] at e; cases e; exact this
      · rw [hx] at e; cases e; exact hx2
      · have := (N₂ _ (.tail _ (.tail _ (.tail _ (.tail _ (.head _)))))).1; rw [hdd] at e; cases e; exact this
    · exact F₂.keep b o (hideAll_get _ e hb)
  refine super_method (x := x) (i := "list.__len__") (X.keeps F₂.keep) hso hx107 (by kernel_rfl) typ_len (by decide) (fun A' tk Q' q => wd_get_len (X.keeps F₂.keep) hx2 rfl q) ?_
  have hq : (h₂.push (wrapO "list.__len__" x)).get? h₂.objs.size = some (wrapO "list.__len__" x) := Heap.get?_push_size _ rfl
  have hx3 : (h₂.push (wrapO "list.__len__" x)).get? x = some (accObj d vs n) := Heap.get?_push_of_some _ hx2
  have hvl : vs.size = ls.length := by have := hp.len; simpa using this
  refine callWith_wrap hq ?_
  refine call_wrap hq (Code.quiet_builtin _ (by decide +kernel)) (fun A' Q' E' q => check_bound ll_kind (args_list_len _) q) (len_code hx3 ?_)
  rw [hvl]
  dsimp only
  refine h _ _ ⟨rfl, fun q => q, fun b o _ e => Heap.get?_push_of_some _ (k2 b o e)⟩
end
end Mine

namespace Mine
open Builtin

section
variable {w : World} {mean : ExcName → Option Value} {mg mb : Str → Option Value} {A : Around} {R : Result → Shared → Prop} {s : Shared} {h : Heap} {E : Value → Shared → Prop}
variable {x d : Addr} {vs : Array Value} {n : Nat} {ls : List Str} {g : Heap}

theorem acc_inst0 (hx : h.get? x = some (accObj d #[] 0)) (hd : h.get? d = some emptyDict) : InstAt h x (accObj d #[] 0) 107 (some (dictOf [] 0)) := ⟨hx, rfl, rfl, hd⟩

theorem passes_list (self : Value) : refuseLoop self "__setattr__" [.type "list", .type "object"] = pure () := by kernel_rfl

set_option maxHeartbeats 1000000 in
theorem set_acc {h₀ : Heap} {L : Addr} {m : Str → Option Value} {tv : Tok} {Q : Unit → Shared → Prop} (F : Fr h₀ L s.heap m) (N : News h₀ L s.heap [(x, accObj d #[] 0), (d, emptyDict)]) (X₀ : (Kw w).In h₀) (hxL : x < L)
    (h : ∀ h' tk, Fr h₀ L h' m → News h₀ L h' [(x, accObj d #[] 0), (d, accDict w.params tk tv)] → Q () { s with heap := h', toks := s.toks + 2 }) :
    wpAny (model prg w) A (setAttr (.ref x) "_initial_size" (.int 0 tv)) Q E s := by
  have X := X₀.keeps F.keep
  have hx := (N _ (.head _)).1
  have hd := (N _ (.tail _ (.head _))).1
  dsimp only at hx hd
  have SF := PySem.F.store_object
  have I := acc_inst0 hx hd
  have sa : Looks (model prg w) s.heap (typeLookup (.ref 107) "__setattr__") (some (.builtin "object.__setattr__")) := cls_peek X (by kernel_rfl)
  have noattr : Looks (model prg w) s.heap (typeLookup (.ref 107) "_initial_size") none := cls_peek X (by kernel_rfl)
  have sub : Looks (model prg w) s.heap (isInstance (.ref x) (.type "object")) true := I.type.andThen (f := fun t => isSubtype t (.type "object")) (cls_peek X (by kernel_rfl))
  have hs : findIn (Kw w) (.ref 107) "__setattr__" = some (some (.builtin "object.__setattr__")) := by kernel_rfl
  refine set_plain (K := Kw w) (C := 107) X I hs ?_
  refine codeAny_call_builtin SF.slot.plain SF.entry (check_slot (M := model prg w) (i := "object.__setattr__") (rest := [.str "_initial_size" s.toks, .int 0 tv]) (kw := []) (self := .ref x) (s := { s with toks := s.toks + 1 }) (owner := "object") (n := "__setattr__") SF.kind SF.split sub (SF.args (.ref x) (.str "_initial_size" s.toks) (.int 0 tv)) ?_)
  rw [osa_eq, refuse_eq]
  refine wpAny_bind (wpAny_bind (Looks.here (s := { s with toks := _ }) I.type (wpAny_bind (Looks.here (s := { s with toks := _ }) (acc_mro X) ?_))))
  rw [refuseLoop_ref, passes_list]
  refine wpAny_pure (wpAny_bind (Looks.here (s := { s with toks := _ }) I.type (wpAny_bind (Looks.here (s := { s with toks := _ }) noattr (wpAny_bind (wpAny_pure ?_))))))
  have e : Obj.putName "_initial_size" (PyData.keyHash w.params "_initial_size") (.str "_initial_size" (s.toks + 1)) (.int 0 tv) emptyDict = accDict w.params (s.toks + 1) tv := by rfl
  have hxd : x ≠ d := fun q => by rw [q, hd] at hx; cases hx
  obtain ⟨U1, U2⟩ := news_upd (pre := [(x, accObj d #[] 0)]) (post := []) (f := Obj.putName "_initial_size" (PyData.keyHash w.params "_initial_size") (.str "_initial_size" (s.toks + 1)) (.int 0 tv)) F N (fun p hp => by rw [List.mem_singleton.mp hp]; exact hxd) (fun p hp => nomatch hp) e rfl
  have D' := (U2 (d, accDict w.params (s.toks + 1) tv) (.tail _ (.head _))).1
  have hh : hasDictIn (Kw w) 107 = true := by kernel_rfl
  obtain ⟨cd, hc, hd'⟩ := any_some hh
  dsimp only
  refine wpAny_bind (wpAny_pure (wpAny_bind (wpAny_bind (wpAny_loadPart hx (wpAny_bind (Looks.here (s := { s with toks := _ }) (looks_clsIn X hc) ?_))))))
  rw [hd']
  refine wpAny_pure (a := some d) (wpAny_bind (wpAny_pure (wpAny_bind ?_)))
  unfold nsSet
  refine wpAny_bind (wpAny_bind (wpAny_askSetting (wpAny_pure (wpAny_bind (wpAny_mkText (wpAny_bind (wpAny_loadPart hd ?_)))))))
  dsimp only [emptyDict]
  rw [aRefKeyMayBeTheName_at, if_neg (by simp)]
  refine wpAny_updatePart hd ?_
  refine wpAny_bind (wpAny_lookBehind D' (pastItsLine_dict (by show (1 : Nat) ≤ _; decide)) ?_)
  exact wpAny_pure (h _ _ U1 U2)

theorem init_code {R' : Result → Shared → Prop} (hx : s.heap.get? x = some (accObj d #[] n)) (h : ∀ h' n', Heap.SameBut x s.heap h' → h'.get? x = some (accObj d #[] n') → R' (.ok (.ret .none)) { s with heap := h' }) : codeAny (model prg w) A (.builtin "list.__init__" ⟨[.ref x], []⟩) R' s := by
  refine codeAny_builtin li_entry ?_
  unfold Builtin.«list.__init__»
  dsimp only
  rw [if_neg (by decide), if_neg (by decide)]
  refine wpAny_bind (wpAny_listItems hx rfl ?_)
  refine wpAny_bind (m := Builtin.List.listUpdate (.ref x) _) ?_
  unfold Builtin.List.listUpdate
  refine acc_update hx (by decide) (by decide) fun h' hs n' hx' => ?_
  exact wpAny_bind (wpAny_letGo (wpAny_pure (h h' n' hs hx')))

set_option maxHeartbeats 2000000 in
theorem init_body (r : Room A 12) (S : St w mean mg mb g) (kg : g.StaysIn s.heap) (ng : ∀ a ∈ [x, d], g.get? a = none) (hx : s.heap.get? x = some (accObj d #[] 0)) (hdd : s.heap.get? d = some emptyDict)
    (h : ∀ s' n', Went [x, d] s s' → Acc w s'.heap x d #[] n' [] → R (.ok (.ret .none)) s') :
    codeAny (model prg w) A (.call (.ref 45) ⟨[.ref x], []⟩) R s := by
  have S' : St w mean mg mb s.heap := S.keeps kg
  obtain ⟨X, T, GL⟩ := S.hide kg ng
  obtain ⟨X', T', GL'⟩ := S'
  have NN : ∀ p ∈ [(x, accObj d #[] 0), (d, emptyDict)], s.heap.get? p.1 = some p.2 := by
    intro p hp
    simp only [List.mem_cons, List.not_mem_nil, or_false] at hp
    rcases hp with rfl | rfl
    · exact hx
    · exact hdd
  refine' call_defS (binds := [("self", .ref x), ("initial_size", .int 0 219)]) (news := [(x, accObj d #[] 0), (d, emptyDict)]) X' ?k2 NN ?k6 ?k7 ?k8 ?k9 ?kB ?_ ?c2 ?c3 ?c4 ?c5
  case k6 => k_is
  case k2 => exact Top.nolimit (by assumption)
  case k7 => k_is
  case k8 => have := r.depth; omega
  case k9 => first | exact BindsTo.of_eq rfl | exact binds_K (by assumption) rfl (by k_is) rfl rfl rfl
  case kB => exact locs rfl
  case c2 => exact rfl
  case c3 => exact rfl
  case c4 => exact rfl
  case c5 => decide
  intro L h₁ F N l1
  dsimp only [List.map] at F N
  walk1
  walk1
  walk1
  walk1
  walk1
  refine set_acc F N X (l1 _ (.head _)) ?_
  intro h₁' tk F1 N1
  clear F N
  dsimp only
  refine ks_wpAt_execs_cons ?_
  refine ks_wpAt_Expr_any ?_
  refine ks_wpAt_MethodCall ?_
  have hx1 := (N1 _ (.head _)).1
  have hd1 := (N1 _ (.tail _ (.head _))).1
  dsimp only at hx1 hd1
  refine' ks_node F1 X N1 T ?a1 ?a2 ?a3 (acc_inst hx1 hd1) ?a4 ?a5 ?a6 ?a7 ?a8 ?a9 ?a10 ?a11 ?a12 ?a13 ?a14 ?a15 ?a16 ?a17 ?_
  case a1 => k_is
  case a2 => rfl
  case a3 => rfl
  case a4 => k_is
  case a5 => rfl
  case a6 => first | rfl | decide +kernel
  case a7 => k_is
  case a8 => k_is
  case a9 => k_is
  case a10 => k_is
  case a11 => decide
  case a12 => rfl
  case a13 => rfl
  case a14 => rfl
  case a15 => rfl
  case a16 => decide +kernel
  case a17 => first | boot_by_name | rfl | kernel_rfl
  intro so h₂ F₂ N₂ l₂
  have hso := (N₂ _ (.head _)).1
  have hx2 := (N₂ _ (.tail _ (.head _))).1
  have hd2 := (N₂ _ (.tail _ (.tail _ (.head _)))).1
  dsimp only at hso hx2 hd2
  have hx107 : x ≠ 107 := acc_ne107 X' hx
  refine super_method (x := x) (i := "list.__init__") (X.keeps F₂.keep) hso hx107 (by kernel_rfl) typ_init (by decide) (fun A' tk Q' q => wd_get_init (X.keeps F₂.keep) hx2 rfl q) ?_
  have hq : (h₂.push (wrapO "list.__init__" x)).get? h₂.objs.size = some (wrapO "list.__init__" x) := Heap.get?_push_size _ rfl
  have hx3 : (h₂.push (wrapO "list.__init__" x)).get? x = some (accObj d #[] 0) := Heap.get?_push_of_some _ hx2
  have hd3 : (h₂.push (wrapO "list.__init__" x)).get? d = some (accDict w.params tk 219) := Heap.get?_push_of_some _ hd2
  refine callWith_wrap hq ?_
  refine call_wrap hq (Code.quiet_builtin _ (by decide +kernel)) (fun A' Q' E' q => check_bound li_kind (li_args _) q) (init_code hx3 fun h₄ n₄ s₄ e₄ => ?_)
  have hxd : d ≠ x := fun q => by rw [q, hx] at hdd; cases hdd
  dsimp only
  refine wpAt_of_wpAny (wpAny_pure ?_)
  have k2 : ∀ b o, b ∉ [x, d] → s.heap.get? b = some o → h₂.get? b = some o := fun b o hb e => F₂.keep b o (hideAll_get _ e hb)
  have up : ∀ b o, b ≠ x → h₂.get? b = some o → h₄.get? b = some o := fun b o hb e => s₄.extBut b o hb (Heap.get?_push_of_some _ e)
  refine h _ n₄ ?went ?acc
  case went => exact ⟨rfl, fun q => q, fun b o hb e => up b o (fun q => hb (by simp [q])) (k2 b o hb e)⟩
  case acc => exact ⟨e₄, ⟨_, _, up _ _ hxd hd2⟩, .nil⟩
end
end Mine

namespace Mine
open Builtin

section
variable {w : World} {mean : ExcName → Option Value} {mg mb : Str → Option Value} {A : Around} {R : Result → Shared → Prop} {s : Shared} {h : Heap} {E : Value → Shared → Prop}
variable {x d : Addr} {vs : Array Value} {n : Nat} {ls : List Str} {g : Heap}

theorem tc_weight : (Code.builtin "type.__call__" ⟨[.ref 107], []⟩).weight ≤ 1 := by decide +kernel
theorem tc_units : (Code.builtin "type.__call__" ⟨[.ref 107], []⟩).cUnits ≤ 20 := by decide +kernel

/-- _Accumulator() -/
theorem make_acc (r : Room A 13) (S : St w mean mg mb g) (kg : g.StaysIn s.heap) (hs : g.objs.size ≤ s.heap.objs.size)
    (h : ∀ s' x d n', Went [] s s' → Acc w s'.heap x d #[] n' [] → s.heap.get? x = none → s.heap.get? d = none → R (.ok (.ret (.ref x))) s') :
    codeAny (model prg w) A (.call (.ref 107) ⟨[], []⟩) R s := by
  have X : (Kw w).In s.heap := S.X.keeps kg
  have r' : Room (A.under (.builtin "type.__call__" ⟨[.ref 107], []⟩)) 12 := by
    refine ⟨r.hh, ?_, ?_⟩
    · have h1 := r.depth; have h2 := tc_weight; show A.depth + _ + 12 < _; omega
    · have h1 := r.units; have h2 := tc_units; show A.units + _ + 20 * 12 < _; omega
  have kp : ∀ b o, s.heap.get? b = some o → ((s.heap.push emptyDict).push (accObj s.heap.objs.size #[] 0)).get? b = some o := fun b o e => Heap.get?_push_of_some _ (Heap.get?_push_of_some _ e)
  have hd1 : ((s.heap.push emptyDict).push (accObj s.heap.objs.size #[] 0)).get? s.heap.objs.size = some emptyDict := Heap.get?_push_of_some _ (Heap.get?_push_size _ rfl)
  have hx1 : ((s.heap.push emptyDict).push (accObj s.heap.objs.size #[] 0)).get? (s.heap.objs.size + 1) = some (accObj s.heap.objs.size #[] 0) := by
    have := Heap.get?_push_size (s.heap.push emptyDict) (o := accObj s.heap.objs.size #[] 0) rfl
    rwa [Heap.size_push] at this
  have n1 : s.heap.get? s.heap.objs.size = none := Heap.get?_none_of_le (Nat.le_refl _)
  have n2 : s.heap.get? (s.heap.objs.size + 1) = none := Heap.get?_none_of_le (Nat.le_succ _)
  have g1 : g.get? s.heap.objs.size = none := Heap.get?_none_of_le hs
  have g2 : g.get? (s.heap.objs.size + 1) = none := Heap.get?_none_of_le (Nat.le_succ_of_le hs)
  refine acc_make X ?_
  refine init_body (s := { s with heap := (s.heap.push emptyDict).push (accObj s.heap.objs.size #[] 0) }) (d := s.heap.objs.size) r' S (fun b o e => kp b o (kg b o e)) (fun a ha => ?_) hx1 hd1 fun s' n' w' a' => ⟨rfl, ?_⟩
  · simp only [List.mem_cons, List.not_mem_nil, or_false] at ha
    rcases ha with rfl | rfl <;> assumption
  · exact h s' _ _ n' ⟨w'.os, w'.gens, fun b o _ e => w'.keep b o (fun hb => by
      simp only [List.mem_cons, List.not_mem_nil, or_false] at hb
      rcases hb with rfl | rfl
      · rw [n2] at e; cases e
      · rw [n1] at e; cases e) (kp b o e)⟩ a' n2 n1
end
end Mine

namespace Mine
open Builtin

section
variable {w : World} {mean : ExcName → Option Value} {mg mb : Str → Option Value} {A : Around} {R : Result → Shared → Prop} {s : Shared} {h : Heap} {E : Value → Shared → Prop} {g : Heap}

/-- what _comment_line gives -/
noncomputable def commentLine (x : Str) : Str := if (Txt.rstrip x).length = 0 then "#" else ("# " : Str) ++ Txt.rstrip x

set_option maxHeartbeats 1000000 in
theorem comment_body (r : Room A 3) (S : St w mean mg mb s.heap) {x : Str} {tk : Tok} (hl : x.length ≤ 100000)
    (h : ∀ s' t, Went [] s s' → R (.ok (.ret (.str (commentLine x) t))) s') :
    codeAny (model prg w) A (.call (.ref 28) ⟨[.str x tk], []⟩) R s := by
  obtain ⟨X, T, GL⟩ := S
  have hr := r.depth
  refine' call_def (binds := [("line", .str x tk)]) ?k1 ?k2 ?k6 ?k7 ?k8 ?k9 ?kB ?_ ?c2 ?c3 ?c4 ?c5
  case k1 => assumption
  case k6 => k_is
  case k2 => exact Top.nolimit (by assumption)
  case k7 => k_is
  case k8 => omega
  case k9 => first | exact BindsTo.of_eq rfl | exact binds_K (by assumption) rfl (by k_is) rfl rfl rfl | exact binds_K (by assumption) rfl (by k_is) rfl rfl (by with_unfolding_all rfl) | exact binds_K (by assumption) rfl (by k_is) rfl rfl (by kernel_rfl)
  case kB => exact locs rfl
  case c2 => exact rfl
  case c3 => exact rfl
  case c4 => exact rfl
  case c5 => decide
  intro L h₁ F N
  k_steps
  · rename_i hpos _ _ _ _ _
    dsimp only
    have e : commentLine x = ("# " : Str) ++ Txt.rstrip x := by unfold commentLine; rw [if_neg (by omega)]
    rw [e] at h
    exact h _ _ ⟨rfl, fun q => q, fun b o _ e => Fr.keep (by assumption) b o e⟩
  · have e : commentLine x = "#" := by unfold commentLine; rw [if_pos (by omega)]
    rw [e] at h
    dsimp only
    exact h _ _ ⟨rfl, fun q => q, fun b o _ e => Fr.keep (by assumption) b o e⟩

set_option maxHeartbeats 1000000 in
theorem contains_body (r : Room A 3) (S : St w mean mg mb s.heap) {a : Addr} {ss : List Str} {x : Str} {tk : Tok} (hS : IsSet w s.heap a ss)
    (h : ∀ s', Went [] s s' → R (.ok (.ret (.bool (decide (x ∈ ss))))) s') :
    codeAny (model prg w) A (.call (.ref 118) ⟨[.ref a, .str x tk], []⟩) R s := by
  obtain ⟨X, T, GL⟩ := S
  have hr := r.depth
  refine' call_def (binds := [("a", .ref a), ("b", .str x tk)]) ?k1 ?k2 ?k6 ?k7 ?k8 ?k9 ?kB ?_ ?c2 ?c3 ?c4 ?c5
  case k1 => assumption
  case k6 => k_is
  case k2 => exact Top.nolimit (by assumption)
  case k7 => k_is
  case k8 => omega
  case k9 => first | exact BindsTo.of_eq rfl | exact binds_K (by assumption) rfl (by k_is) rfl rfl rfl | exact binds_K (by assumption) rfl (by k_is) rfl rfl (by with_unfolding_all rfl) | exact binds_K (by assumption) rfl (by k_is) rfl rfl (by kernel_rfl)
  case kB => exact locs rfl
  case c2 => exact rfl
  case c3 => exact rfl
  case c4 => exact rfl
  case c5 => decide
  intro L h₁ F N
  k_steps
  refine in_any (hS.at fun o e => F.keep _ _ e) ?_
  dsimp only
  exact h _ ⟨rfl, fun q => q, fun b o _ e => F.keep b o e⟩

set_option maxHeartbeats 1000000 in
theorem ior_body (r : Room A 3) (S : St w mean mg mb g) (kg : g.StaysIn s.heap) {a b : Addr} {ss₁ ss₂ : List Str} (ng : g.get? a = none) (hne : a ≠ b) (hS : IsSet w s.heap a ss₁) (hO : IsSet w s.heap b ss₂) (hl : ss₁.length + ss₂.length ≤ 60)
    (h : ∀ s' ss', Went [a] s s' → IsSet w s'.heap a ss' → (∀ x, x ∈ ss' ↔ x ∈ ss₁ ∨ x ∈ ss₂) → R (.ok (.ret (.ref a))) s') :
    codeAny (model prg w) A (.call (.ref 139) ⟨[.ref a, .ref b], []⟩) R s := by
  have S' : St w mean mg mb s.heap := S.keeps kg
  obtain ⟨X, T, GL⟩ := S.hide kg (as := [a]) (fun c hc => by rw [List.mem_singleton.mp hc]; exact ng)
  obtain ⟨X', T', GL'⟩ := S'
  obtain ⟨o, ho, hso⟩ := id hS
  have NN : ∀ p ∈ [(a, o)], s.heap.get? p.1 = some p.2 := fun p hp => by rw [List.mem_singleton.mp hp]; exact ho
  have hr := r.depth
  refine' call_defN (binds := [("a", .ref a), ("b", .ref b)]) (news := [(a, o)]) X' ?k2 NN ?k6 ?k7 ?k8 ?k9 ?kB ?_ ?c2 ?c3 ?c4 ?c5
  case k6 => k_is
  case k2 => exact Top.nolimit (by assumption)
  case k7 => k_is
  case k8 => omega
  case k9 => exact BindsTo.of_eq rfl
  case kB => exact locs rfl
  case c2 => exact rfl
  case c3 => exact rfl
  case c4 => exact rfl
  case c5 => decide
  intro L h₁ F N l1
  dsimp only [List.map] at F N
  k_steps
  have k1 : ∀ c o', c ≠ a → s.heap.get? c = some o' → h₁.get? c = some o' := fun c o' hc e => F.keep c o' (hideAll_get _ e (by simp [hc]))
  have hLa : L ≠ a := Nat.ne_of_gt (l1 (a, o) (.head _))
  refine ior_any hne ⟨o, (N _ (.head _)).1, hso⟩ (hO.at fun o' e => k1 b o' (Ne.symm hne) e) hl fun h₂ dr ss' k₂ i₂ m₂ => ?_
  have F₂ : Fr (hideAll s.heap [a]) L h₂ (fun y => List.lookup y [(Str.ofString "a", Value.ref a), (Str.ofString "b", Value.ref b)].reverse) :=
    ⟨F.ns.at' fun o e => k₂ L o hLa e, fun c o' e => k₂ c o' (fun q => by rw [q, hideAll_none _ (by simp)] at e; cases e) (F.keep c o' e), F.above⟩
  obtain ⟨o₂, ho₂, hs₂⟩ := id i₂
  have N₂ : News (hideAll s.heap [a]) L h₂ [(a, o₂)] := fun p hp => by
    rw [List.mem_singleton.mp hp]
    exact ⟨ho₂, Ne.symm hLa, hideAll_none _ (by simp)⟩
  have hk : ∀ c o', c ≠ a → s.heap.get? c = some o' → h₂.get? c = some o' := fun c o' hc e => k₂ c o' hc (k1 c o' hc e)
  clear F N
  k_steps
  rename_i h₃ F₃ N₃
  dsimp only
  refine h _ ss' ⟨rfl, fun q => q, fun c o' hc e => F₃.keep c o' (hideAll_get _ e (by simpa using hc))⟩ ⟨o₂, (N₃ _ (.head _)).1, hs₂⟩ m₂

set_option maxHeartbeats 1000000 in
theorem iand_body (r : Room A 3) (S : St w mean mg mb g) (kg : g.StaysIn s.heap) {a b : Addr} {ss₁ ss₂ : List Str} (ng : g.get? a = none) (hne : a ≠ b) (hS : IsSet w s.heap a ss₁) (hO : IsSet w s.heap b ss₂)
    (h : ∀ s' ss', Went [a] s s' → IsSet w s'.heap a ss' → (∀ x, x ∈ ss' ↔ x ∈ ss₁ ∧ x ∈ ss₂) → R (.ok (.ret (.ref a))) s') :
    codeAny (model prg w) A (.call (.ref 132) ⟨[.ref a, .ref b], []⟩) R s := by
  have S' : St w mean mg mb s.heap := S.keeps kg
  obtain ⟨X, T, GL⟩ := S.hide kg (as := [a]) (fun c hc => by rw [List.mem_singleton.mp hc]; exact ng)
  obtain ⟨X', T', GL'⟩ := S'
  obtain ⟨o, ho, hso⟩ := id hS
  have NN : ∀ p ∈ [(a, o)], s.heap.get? p.1 = some p.2 := fun p hp => by rw [List.mem_singleton.mp hp]; exact ho
  have hr := r.depth
  refine' call_defN (binds := [("a", .ref a), ("b", .ref b)]) (news := [(a, o)]) X' ?k2 NN ?k6 ?k7 ?k8 ?k9 ?kB ?_ ?c2 ?c3 ?c4 ?c5
  case k6 => k_is
  case k2 => exact Top.nolimit (by assumption)
  case k7 => k_is
  case k8 => omega
  case k9 => exact BindsTo.of_eq rfl
  case kB => exact locs rfl
  case c2 => exact rfl
  case c3 => exact rfl
  case c4 => exact rfl
  case c5 => decide
  intro L h₁ F N l1
  dsimp only [List.map] at F N
  k_steps
  have k1 : ∀ c o', c ≠ a → s.heap.get? c = some o' → h₁.get? c = some o' := fun c o' hc e => F.keep c o' (hideAll_get _ e (by simp [hc]))
  have hLa : L ≠ a := Nat.ne_of_gt (l1 (a, o) (.head _))
  refine iand_any hne ⟨o, (N _ (.head _)).1, hso⟩ (hO.at fun o' e => k1 b o' (Ne.symm hne) e) fun h₂ dr ss' k₂ i₂ m₂ => ?_
  have F₂ : Fr (hideAll s.heap [a]) L h₂ (fun y => List.lookup y [(Str.ofString "a", Value.ref a), (Str.ofString "b", Value.ref b)].reverse) :=
    ⟨F.ns.at' fun o e => k₂ L o hLa e, fun c o' e => k₂ c o' (fun q => by rw [q, hideAll_none _ (by simp)] at e; cases e) (F.keep c o' e), F.above⟩
  obtain ⟨o₂, ho₂, hs₂⟩ := id i₂
  have N₂ : News (hideAll s.heap [a]) L h₂ [(a, o₂)] := fun p hp => by
    rw [List.mem_singleton.mp hp]
    exact ⟨ho₂, Ne.symm hLa, hideAll_none _ (by simp)⟩
  have hk : ∀ c o', c ≠ a → s.heap.get? c = some o' → h₂.get? c = some o' := fun c o' hc e => k₂ c o' hc (k1 c o' hc e)
  clear F N
  k_steps
  rename_i h₃ F₃ N₃
  dsimp only
  refine h _ ss' ⟨rfl, fun q => q, fun c o' hc e => F₃.keep c o' (hideAll_get _ e (by simpa using hc))⟩ ⟨o₂, (N₃ _ (.head _)).1, hs₂⟩ m₂

set_option maxHeartbeats 1000000 in
theorem isub_body (r : Room A 3) (S : St w mean mg mb g) (kg : g.StaysIn s.heap) {a b : Addr} {ss₁ ss₂ : List Str} (ng : g.get? a = none) (hne : a ≠ b) (hS : IsSet w s.heap a ss₁) (hO : IsSet w s.heap b ss₂)
    (h : ∀ s' ss', Went [a] s s' → IsSet w s'.heap a ss' → (∀ x, x ∈ ss' ↔ x ∈ ss₁ ∧ x ∉ ss₂) → R (.ok (.ret (.ref a))) s') :
    codeAny (model prg w) A (.call (.ref 146) ⟨[.ref a, .ref b], []⟩) R s := by
  have S' : St w mean mg mb s.heap := S.keeps kg
  obtain ⟨X, T, GL⟩ := S.hide kg (as := [a]) (fun c hc => by rw [List.mem_singleton.mp hc]; exact ng)
  obtain ⟨X', T', GL'⟩ := S'
  obtain ⟨o, ho, hso⟩ := id hS
  have NN : ∀ p ∈ [(a, o)], s.heap.get? p.1 = some p.2 := fun p hp => by rw [List.mem_singleton.mp hp]; exact ho
  have hr := r.depth
  refine' call_defN (binds := [("a", .ref a), ("b", .ref b)]) (news := [(a, o)]) X' ?k2 NN ?k6 ?k7 ?k8 ?k9 ?kB ?_ ?c2 ?c3 ?c4 ?c5
  case k6 => k_is
  case k2 => exact Top.nolimit (by assumption)
  case k7 => k_is
  case k8 => omega
  case k9 => exact BindsTo.of_eq rfl
  case kB => exact locs rfl
  case c2 => exact rfl
  case c3 => exact rfl
  case c4 => exact rfl
  case c5 => decide
  intro L h₁ F N l1
  dsimp only [List.map] at F N
  k_steps
  have k1 : ∀ c o', c ≠ a → s.heap.get? c = some o' → h₁.get? c = some o' := fun c o' hc e => F.keep c o' (hideAll_get _ e (by simp [hc]))
  have hLa : L ≠ a := Nat.ne_of_gt (l1 (a, o) (.head _))
  refine isub_any hne ⟨o, (N _ (.head _)).1, hso⟩ (hO.at fun o' e => k1 b o' (Ne.symm hne) e) fun h₂ dr ss' k₂ i₂ m₂ => ?_
  have F₂ : Fr (hideAll s.heap [a]) L h₂ (fun y => List.lookup y [(Str.ofString "a", Value.ref a), (Str.ofString "b", Value.ref b)].reverse) :=
    ⟨F.ns.at' fun o e => k₂ L o hLa e, fun c o' e => k₂ c o' (fun q => by rw [q, hideAll_none _ (by simp)] at e; cases e) (F.keep c o' e), F.above⟩
  obtain ⟨o₂, ho₂, hs₂⟩ := id i₂
  have N₂ : News (hideAll s.heap [a]) L h₂ [(a, o₂)] := fun p hp => by
    rw [List.mem_singleton.mp hp]
    exact ⟨ho₂, Ne.symm hLa, hideAll_none _ (by simp)⟩
  have hk : ∀ c o', c ≠ a → s.heap.get? c = some o' → h₂.get? c = some o' := fun c o' hc e => k₂ c o' hc (k1 c o' hc e)
  clear F N
  k_steps
  rename_i h₃ F₃ N₃
  dsimp only
  refine h _ ss' ⟨rfl, fun q => q, fun c o' hc e => F₃.keep c o' (hideAll_get _ e (by simpa using hc))⟩ ⟨o₂, (N₃ _ (.head _)).1, hs₂⟩ m₂

set_option maxHeartbeats 1000000 in
theorem ixor_body (r : Room A 3) (S : St w mean mg mb g) (kg : g.StaysIn s.heap) {a b : Addr} {ss₁ ss₂ : List Str} (ng : g.get? a = none) (hne : a ≠ b) (hS : IsSet w s.heap a ss₁) (hO : IsSet w s.heap b ss₂) (hl : ss₁.length + ss₂.length ≤ 60)
    (h : ∀ s' ss', Went [a] s s' → IsSet w s'.heap a ss' → (∀ x, x ∈ ss' ↔ ((x ∈ ss₁ ∧ x ∉ ss₂) ∨ (x ∉ ss₁ ∧ x ∈ ss₂))) → R (.ok (.ret (.ref a))) s') :
    codeAny (model prg w) A (.call (.ref 153) ⟨[.ref a, .ref b], []⟩) R s := by
  have S' : St w mean mg mb s.heap := S.keeps kg
  obtain ⟨X, T, GL⟩ := S.hide kg (as := [a]) (fun c hc => by rw [List.mem_singleton.mp hc]; exact ng)
  obtain ⟨X', T', GL'⟩ := S'
  obtain ⟨o, ho, hso⟩ := id hS
  have NN : ∀ p ∈ [(a, o)], s.heap.get? p.1 = some p.2 := fun p hp => by rw [List.mem_singleton.mp hp]; exact ho
  have hr := r.depth
  refine' call_defN (binds := [("a", .ref a), ("b", .ref b)]) (news := [(a, o)]) X' ?k2 NN ?k6 ?k7 ?k8 ?k9 ?kB ?_ ?c2 ?c3 ?c4 ?c5
  case k6 => k_is
  case k2 => exact Top.nolimit (by assumption)
  case k7 => k_is
  case k8 => omega
  case k9 => exact BindsTo.of_eq rfl
  case kB => exact locs rfl
  case c2 => exact rfl
  case c3 => exact rfl
  case c4 => exact rfl
  case c5 => decide
  intro L h₁ F N l1
  dsimp only [List.map] at F N
  k_steps
  have k1 : ∀ c o', c ≠ a → s.heap.get? c = some o' → h₁.get? c = some o' := fun c o' hc e => F.keep c o' (hideAll_get _ e (by simp [hc]))
  have hLa : L ≠ a := Nat.ne_of_gt (l1 (a, o) (.head _))
  refine ixor_any hne ⟨o, (N _ (.head _)).1, hso⟩ (hO.at fun o' e => k1 b o' (Ne.symm hne) e) hl fun h₂ dr ss' k₂ i₂ m₂ => ?_
  have F₂ : Fr (hideAll s.heap [a]) L h₂ (fun y => List.lookup y [(Str.ofString "a", Value.ref a), (Str.ofString "b", Value.ref b)].reverse) :=
    ⟨F.ns.at' fun o e => k₂ L o hLa e, fun c o' e => k₂ c o' (fun q => by rw [q, hideAll_none _ (by simp)] at e; cases e) (F.keep c o' e), F.above⟩
  obtain ⟨o₂, ho₂, hs₂⟩ := id i₂
  have N₂ : News (hideAll s.heap [a]) L h₂ [(a, o₂)] := fun p hp => by
    rw [List.mem_singleton.mp hp]
    exact ⟨ho₂, Ne.symm hLa, hideAll_none _ (by simp)⟩
  have hk : ∀ c o', c ≠ a → s.heap.get? c = some o' → h₂.get? c = some o' := fun c o' hc e => k₂ c o' hc (k1 c o' hc e)
  clear F N
  k_steps
  rename_i h₃ F₃ N₃
  dsimp only
  refine h _ ss' ⟨rfl, fun q => q, fun c o' hc e => F₃.keep c o' (hideAll_get _ e (by simpa using hc))⟩ ⟨o₂, (N₃ _ (.head _)).1, hs₂⟩ m₂

end
end Mine

namespace Mine
open Builtin

/-- what a turn of a loop leaves -/
noncomputable def TurnTo (L : Addr) (St : Heap → Prop) (J : (Str → Option Value) → Shared → Prop) (Q : Flow → Shared → Prop) (f : Flow) (s : Shared) : Prop := match f with
  | .ret v => Q (.ret v) s
  | .brk => Q .next s
  | _ => ∃ m, s.heap.Ns L m ∧ J m s ∧ St s.heap

theorem TurnTo.next {L : Addr} {St : Heap → Prop} {J : (Str → Option Value) → Shared → Prop} {Q : Flow → Shared → Prop} {s : Shared} (m : Str → Option Value) (h : s.heap.Ns L m) (j : J m s) (st : St s.heap) : TurnTo L St J Q .next s := ⟨m, h, j, st⟩

/-- a walk that knows that no token is made below lo -/
structure WalkL (prog : Program) (w : World) (A : Around) (lo : Nat) (I : Addr) (fp wr : List Addr) (n : Nat) (P : Nat → Value → Prop) (St : Nat → Heap → Prop) : Prop where
  sub : ∀ b ∈ wr, b ∈ fp
  frame : ∀ i h h', St i h → (∀ b ∈ fp, ∀ o, h.get? b = some o → h'.get? b = some o) → St i h'
  item : ∀ i (s : Shared) (Q : Option Value → Shared → Prop) (E : Value → Shared → Prop), i < n → lo ≤ s.toks → St i s.heap →
    (∀ v h' tk, lo ≤ tk → P i v → St (i + 1) h' → (∀ b o, b ∉ wr → s.heap.get? b = some o → h'.get? b = some o) → Q (some v) { s with heap := h', toks := tk }) → wpAny (model prog w) A (pyNext (.ref I)) Q E s
  done : ∀ (s : Shared) (Q : Option Value → Shared → Prop) (E : Value → Shared → Prop), lo ≤ s.toks → St n s.heap →
    (∀ h' tk, lo ≤ tk → (∀ b o, b ∉ wr → s.heap.get? b = some o → h'.get? b = some o) → Q none { s with heap := h', toks := tk }) → wpAny (model prog w) A (pyNext (.ref I)) Q E s

theorem WalkL.of {prog : Program} {w : World} {A : Around} {lo : Nat} {I : Addr} {fp wr : List Addr} {n : Nat} {P : Nat → Value → Prop} {St : Nat → Heap → Prop} (W : Walks prog w A I fp wr n P St) : WalkL prog w A lo I fp wr n P St where
  sub := W.sub
  frame := W.frame
  item := fun i s Q E hi hlo hst hQ => wpAny_with_toks hlo (W.item i s _ _ hi hst fun v h' tk hP hst' hk hle => hQ v h' tk hle hP hst' hk)
  done := fun s Q E hlo hst hQ => wpAny_with_toks hlo (W.done s _ _ hst fun h' tk hk hle => hQ h' tk hle hk)

section
variable {prog : Program} {w : World} {A : Around} {s : Shared} {env : Env} {x : Str}

/-- the loop's ground, behind iter() -/
noncomputable def LoopG (prog : Program) (w : World) (A : Around) (env : Env) (x : Str) (body : List Stmt) (Q : Flow → Shared → Prop) (it : Value) (s₂ : Shared) : Prop :=
  ∃ (lo : Nat) (I : Addr) (fp wr : List Addr) (n : Nat) (P : Nat → Value → Prop) (St : Nat → Heap → Prop) (m : Str → Option Value) (J : Nat → (Str → Option Value) → Shared → Prop),
    it = .ref I ∧ WalkL prog w A lo I fp wr n P St ∧ lo ≤ s₂.toks ∧ env.locals ∉ fp ∧ St 0 s₂.heap ∧ s₂.heap.Ns env.locals m ∧ J 0 m s₂ ∧
    (∀ i m₁ m₂ (s' : Shared) h' tk, J i m₁ s' → (m₂ = m₁ ∨ ∃ v, m₂ = fun y => if y = x then some v else m₁ y) → (∀ b o, b ∉ wr → b ≠ env.locals → s'.heap.get? b = some o → h'.get? b = some o) → h'.Ns env.locals m₂ → J i m₂ { s' with heap := h', toks := tk }) ∧
    (∀ i v m₁ s₁, i < n → P i v → lo ≤ s₁.toks → m₁ x = some v → s₁.heap.Ns env.locals m₁ → J i m₁ s₁ → St (i + 1) s₁.heap → wpAny (model prog w) A (execs body env) (TurnTo env.locals (St (i + 1)) (J (i + 1)) Q) (fun _ _ => False) s₁) ∧
    (∀ m₁ s₁, lo ≤ s₁.toks → s₁.heap.Ns env.locals m₁ → J n m₁ s₁ → Q .next s₁)

theorem for_walk {px pos : Pos} {iter : Expr} {body : List Stmt} {Q : Flow → Shared → Prop} (hx : env.kindOf x = some .local)
    (hp : (env.scope.kind == .class || (env.scope.kind == .module && env.locals != env.globals)) = false)
    (h : wpAny (model prog w) A (eval iter env) (fun xv s₁ => wpAny (model prog w) A (pyIter xv) (LoopG prog w A env x body Q) (fun _ _ => False) s₁) (fun _ _ => False) s)
    (hs : ∀ x, foldedSetIterable iter env x = pure x := by intro _; rfl) :
    wpAny (model prog w) A (exec (.For (.Name x px) iter body [] pos) env) Q (fun _ _ => False) s := by
  refine wpAny_For (wpAny_mono h (fun xv s₁ h₁ => wpAny_mono h₁ (fun it s₂ h₂ => ?_) fun _ _ e => e) fun _ _ e => e) hs
  obtain ⟨lo, I, fp, wr, n, P, St, m, J, rfl, W, hlo, hLf, hst, hn, h0, stab, turn, done⟩ := h₂
  have hLw : env.locals ∉ wr := fun h => hLf (W.sub _ h)
  refine codeAny_forLoop (fun k s' => ∃ m' i, lo ≤ s'.toks ∧ St i s'.heap ∧ s'.heap.Ns env.locals m' ∧ J i m' s' ∧ i ≤ n ∧ k = n + 1 - i) ?_ (n + 1) ⟨m, 0, hlo, hst, hn, h0, Nat.zero_le _, rfl⟩
  rintro k s' ⟨m', i, hlo', hst', hn', hJ, hi, rfl⟩
  by_cases hlt : i < n
  · refine W.item i _ _ _ hlt hlo' hst' fun v h₁ tk₁ hlo₁ hP hst₁ hk₁ => ?_
    refine wpAny_assign_Name (wpAny_storeName_local hx (hn'.at' fun o e => hk₁ _ o hLw e) (fun h₂ hn₂ hs₂ => ?_) hp)
    replace hs₂ : Heap.SameBut env.locals h₁ h₂ := hs₂
    have hst₂ : St (i + 1) h₂ := W.frame _ _ _ hst₁ fun b hb o e => (hs₂.2 b fun q => hLf (q ▸ hb)).trans e
    have hJ₂ : J i (fun y => if y = x then some v else m' y) { s' with heap := h₂, toks := tk₁ + 1 } := stab i m' _ s' h₂ (tk₁ + 1) hJ (.inr ⟨v, rfl⟩) (fun b o hb hl e => (hs₂.2 b hl).trans (hk₁ b o hb e)) hn₂
    refine wpAny_mono (wpAny_toks_of (s := { s' with heap := h₂, toks := tk₁ + 1 }) (Nat.le_succ_of_le hlo₁) (turn i v _ { s' with heap := h₂, toks := tk₁ + 1 } hlt hP (Nat.le_succ_of_le hlo₁) (by simp) hn₂ hJ₂ hst₂)) (fun f s₃ h₃ => ?_) fun _ _ e => e.2.elim
    obtain ⟨hlo₃, h₃⟩ := h₃
    cases f with
    | ret v => exact h₃
    | brk => exact h₃
    | cont => obtain ⟨m₃, a, b, c⟩ := h₃; exact ⟨n + 1 - (i + 1), by omega, m₃, i + 1, hlo₃, c, a, b, hlt, rfl⟩
    | next => obtain ⟨m₃, a, b, c⟩ := h₃; exact ⟨n + 1 - (i + 1), by omega, m₃, i + 1, hlo₃, c, a, b, hlt, rfl⟩
  · have hin : i = n := by omega
    subst hin
    refine W.done _ _ _ hlo' hst' fun h₁ tk₁ hlo₁ hk₁ => wpAny_execs_nil ?_
    have hn₁ : h₁.Ns env.locals m' := hn'.at' fun o e => hk₁ _ o hLw e
    exact done m' _ hlo₁ hn₁ (stab i m' m' s' h₁ tk₁ hJ (.inl rfl) (fun b o hb _ e => hk₁ b o hb e) hn₁)
end
end Mine

namespace Mine
open Builtin

section
variable {w : World} {mean : ExcName → Option Value} {mg mb : Str → Option Value} {A : Around} {R : Result → Shared → Prop} {s : Shared} {h : Heap} {E : Value → Shared → Prop} {g : Heap}

/-- how many signs of a line are '#' -/
noncomputable def hashes (x : Str) : Nat := x.cps.toList.count 35

/-- the frame's map in the loop of countOf -/
noncomputable def cntMap (x : Str) (tk tk' : Tok) (c : Int) (t : Tok) (vi : Option Value) : Str → Option Value := fun y =>
  if y = ("count" : Str) then some (.int c t) else if y = ("i" : Str) then vi else List.lookup y [(Str.ofString "b", Value.str "#" tk'), (Str.ofString "a", Value.str x tk)]

theorem keepsOf {fp : List Addr} {I : Addr} {s₁ h₃ : Heap} (hfp : fp = [I]) (h : ∀ o, s₁.get? I = some o → h₃.get? I = some o) : ∀ b ∈ fp, ∀ o, s₁.get? b = some o → h₃.get? b = some o := by
  subst hfp
  intro b hb o e
  rw [List.mem_singleton.mp hb] at e ⊢
  exact h o e

noncomputable def CharAt (x : Str) (lo : Nat) (i : Nat) (v : Value) : Prop := ∃ c u, x.cps[i]? = some c ∧ v = .str ⟨#[c]⟩ u ∧ lo ≤ u

theorem pyIter_strL {x : Str} {t : Tok} {lo : Nat} {Q : Value → Shared → Prop}
    (hQ : ∀ (o : Obj) (St : Nat → Heap → Prop), (∀ A' : Around, A'.handled = none → WalkL prg w A' lo s.heap.objs.size [s.heap.objs.size] [s.heap.objs.size] x.cps.size (CharAt x lo) St) → St 0 (s.heap.push o) →
      Q (.ref s.heap.objs.size) { s with heap := s.heap.push o }) : wpAny (model prg w) A (pyIter (.str x t)) Q E s := by
  cases ha : x.cps.all (· < 128)
  · refine wpAny_pyIter_wide ha (hQ _ (fun i h => h.IsStrIter s.heap.objs.size "str_iterator" x t i) (fun A' hA => ?_) ⟨_, Heap.get?_push_size _ rfl, rfl, rfl⟩)
    exact {
      sub := fun _ hb => hb
      frame := fun _ _ _ st hk => let ⟨o, ho, r⟩ := st; ⟨o, hk _ (by simp) o ho, r⟩
      item := fun i s Q E hi hlo st hQ => wpAny_pyNext_wide_item st (c := x.cps[i]) (by simp [hi]) fun h' hit' hs' =>
        hQ _ h' (s.toks + 1) (Nat.le_succ_of_le hlo) ⟨_, _, by simp [hi], rfl, hlo⟩ hit' fun b o hb e => hs'.extBut b o (fun h => hb (by simp [h])) e
      done := fun s Q E hlo st hQ => wpAny_pyNext_wide_end hA st (by simp) fun h' he' => hQ h' s.toks hlo fun b o hb e => he' b o (fun h => hb (by simp [h])) e }
  · refine wpAny_pyIter_ascii ha (hQ _ (fun i h => h.IsStrIter s.heap.objs.size "str_ascii_iterator" x t i) (fun A' hA => ?_) ⟨_, Heap.get?_push_size _ rfl, rfl, rfl⟩)
    exact {
      sub := fun _ hb => hb
      frame := fun _ _ _ st hk => let ⟨o, ho, r⟩ := st; ⟨o, hk _ (by simp) o ho, r⟩
      item := fun i s Q E hi hlo st hQ => wpAny_pyNext_ascii_item st (c := x.cps[i]) (by simp [hi]) fun h' hit' hs' =>
        hQ _ h' (s.toks + 1) (Nat.le_succ_of_le hlo) ⟨_, _, by simp [hi], rfl, hlo⟩ hit' fun b o hb e => hs'.extBut b o (fun h => hb (by simp [h])) e
      done := fun s Q E hlo st hQ => wpAny_pyNext_ascii_end hA st (by simp) fun h' he' => hQ h' s.toks hlo fun b o hb e => he' b o (fun h => hb (by simp [h])) e }

theorem none_booked (X : (Kw w).In h) (T : h.NoLimit) : NoneBooked h := by
  obtain ⟨mc, hn, _⟩ := T
  refine ⟨mc, hn, ?_⟩
  have X2 : h.get? cStatics = some { cls := .none, data := .dict #[] } := X 2 _ rfl
  obtain ⟨o, es, ep, ho, hd, r1, r2⟩ := hn
  rw [X2] at ho
  cases ho
  cases hd
  rw [← r2]; rfl

theorem is_char {c : Nat} {u v : Tok} {Q : Value → Shared → Prop} (hb : NoneBooked s.heap) (h0 : 0 < v) (huv : v < u) (h : ∀ b, (b = true → c = 35) → Q (.bool b) s) : wpAny (model prg w) A (compareOp .Is (.str ⟨#[c]⟩ u) (.str "#" v)) Q E s := by
  show wpAny _ _ (isSame (.str ⟨#[c]⟩ u) (.str "#" v) >>= fun b => pure (Value.bool b)) _ _ _
  have z : (u == 0 || v == 0) = false := by
    have h1 : u ≠ 0 := Nat.ne_of_gt (Nat.lt_trans h0 huv)
    have h2 : v ≠ 0 := Nat.ne_of_gt h0
    simp [h1, h2]
  by_cases hc : c = 35
  · exact wpAny_bind (wpAny_isSame_str z hb fun b => wpAny_pure (h b fun _ => hc))
  · have hyz : ((⟨#[c]⟩ : Str) == "#") = false := by
      have e : ("#" : Str) = ⟨#[35]⟩ := by decide +kernel
      rw [e]
      simp [hc]
    refine wpAny_bind (wpAny_of_eq (isSame_str_other _ _ _ _ z (by simp only [beq_eq_false_iff_ne]; exact Nat.ne_of_gt huv) hyz) (wpAny_pure (h false (by simp))))

theorem count_snoc {x : Str} {i c : Nat} (hc : x.cps[i]? = some c) : (x.cps.toList.take (i + 1)).count 35 = (x.cps.toList.take i).count 35 + (if c = 35 then 1 else 0) := by
  have hi : x.cps.toList[i]? = some c := by rw [Array.getElem?_toList]; exact hc
  rw [List.take_add_one, List.count_append, hi]
  by_cases h : c = 35
  · simp [h]
  · simp [h]
theorem cntMap_set {x : Str} {tk tk' : Tok} {c c' : Int} {t t' : Tok} {vi : Option Value} :
    (fun y : Str => if y = ("count" : Str) then some (.int c' t') else (if y = ("count" : Str) then some (.int c t) else if y = ("i" : Str) then vi else List.lookup y [(Str.ofString "b", Value.str "#" tk'), (Str.ofString "a", Value.str x tk)])) = cntMap x tk tk' c' t' vi := by
  funext y
  unfold cntMap
  by_cases h1 : y = ("count" : Str)
  · rw [if_pos h1, if_pos h1]
  · rw [if_neg h1, if_neg h1, if_neg h1]

set_option maxHeartbeats 2000000 in
theorem count_of_body (r : Room A 3) (S : St w mean mg mb s.heap) {x : Str} {tka tkb : Tok} (hl : x.length ≤ 1000)
    (h0 : 0 < tkb) (htk : tkb < s.toks) (h : ∀ s' t, Went [] s s' → R (.ok (.ret (.int (hashes x) t))) s') :
    codeAny (model prg w) A (.call (.ref 125) ⟨[.str x tka, .str "#" tkb], []⟩) R s := by
  obtain ⟨X, T, GL⟩ := S
  have hr := r.depth
  refine' call_def (binds := [("a", .str x tka), ("b", .str "#" tkb)]) ?k1 ?k2 ?k6 ?k7 ?k8 ?k9 ?kB ?_ ?c2 ?c3 ?c4 ?c5
  case k1 => assumption
  case k6 => k_is
  case k2 => exact Top.nolimit (by assumption)
  case k7 => k_is
  case k8 => omega
  case k9 => first | exact BindsTo.of_eq rfl | exact binds_K (by assumption) rfl (by k_is) rfl rfl rfl | exact binds_K (by assumption) rfl (by k_is) rfl rfl (by with_unfolding_all rfl) | exact binds_K (by assumption) rfl (by k_is) rfl rfl (by kernel_rfl)
  case kB => exact locs rfl
  case c2 => exact rfl
  case c3 => exact rfl
  case c4 => exact rfl
  case c5 => decide
  intro L h₁ F N
  refine wpAny_execs_cons ?_
  walk1
  walk1
  walk1
  refine wpAny_execs_cons ?_
  refine for_walk rfl rfl ?_
  walk1
  rename_i h₂ F₂ N₂
  refine wpAny_with_toks (n := tkb + 1) ?lo (pyIter_strL (lo := tkb + 1) fun o St hW hst hlo => ?_)
  case lo => exact Nat.le_trans htk (Nat.le_trans (Nat.le_add_right _ _) (Nat.le_trans (Nat.le_succ _) (Nat.le_succ _)))
  have hLs : L < h₂.objs.size := F₂.ns.lt
  have hIL : L ≠ h₂.objs.size := Nat.ne_of_lt hLs
  have hIn : s.heap.get? h₂.objs.size = none := Heap.get?_none_of_le (Nat.le_of_lt (Nat.lt_of_le_of_lt F₂.above hLs))
  have hLn : s.heap.get? L = none := Heap.get?_none_of_le F₂.above
  refine ⟨tkb + 1, h₂.objs.size, _, _, _, _, St, _, fun i m s' => (∃ vi t, m = cntMap x tka tkb (((x.cps.toList.take i).count 35 : Nat) : Int) t vi) ∧ Went [] s s', rfl, hW _ r.hh, hlo, (fun hm => hIL (List.mem_singleton.mp hm)), hst, (F₂.ns.push o), ⟨⟨none, s.toks + 2, ?_⟩, ⟨rfl, fun q => q, fun b o' _ e => Heap.get?_push_of_some _ (F₂.keep b o' e)⟩⟩, ?_, ?_, ?_⟩
  · funext y
    unfold cntMap
    by_cases h1 : y = ("count" : Str)
    · rw [if_pos h1, if_pos h1]
      simp
    · by_cases h2 : y = ("i" : Str)
      · subst h2
        rfl
      · rw [if_neg h1, if_neg h1, if_neg h2]
        rfl
  · rintro i m₁ m₂ s' h' tk₃ ⟨⟨vi, t, rfl⟩, wt⟩ hm k _
    refine ⟨?_, wt.os, wt.gens, fun b o' hb e => k b o' (fun q => by rw [List.mem_singleton.mp q, hIn] at e; cases e) (fun q => by have q' : b = L := q; rw [q', hLn] at e; cases e) (wt.keep b o' hb e)⟩
    rcases hm with rfl | ⟨v, rfl⟩
    · exact ⟨vi, t, rfl⟩
    · refine ⟨some v, t, ?_⟩
      funext y
      unfold cntMap
      by_cases h2 : y = ("i" : Str)
      · subst h2
        rfl
      · simp [h2]
  · rintro i v m₁ s₁ hi hP hlo₁ hm hn ⟨⟨vi, t, rfl⟩, wt⟩ hst₁
    have hvi : vi = some v := by
      have : cntMap x tka tkb (((x.cps.toList.take i).count 35 : Nat) : Int) t vi "i" = vi := rfl
      rw [this] at hm; exact hm
    subst hvi
    obtain ⟨c, u, hc, rfl, hu⟩ := hP
    have F₃ : Fr s.heap L s₁.heap _ := ⟨hn, fun b o e => wt.keep b o (by simp) e, F₂.above⟩
    have hI : ∃ N, News s.heap L s₁.heap N ∧ ∀ h', News s.heap L h' N → ∀ o, s₁.heap.get? h₂.objs.size = some o → h'.get? h₂.objs.size = some o := by
      cases e : s₁.heap.get? h₂.objs.size with
      | none => exact ⟨[], News.nil, fun h' _ o q => by cases q⟩
      | some o' => exact ⟨[(h₂.objs.size, o')], fun p hp => by rw [List.mem_singleton.mp hp]; exact ⟨e, Ne.symm hIL, hIn⟩, fun h' N' o q => by cases q; exact (N' _ (.head _)).1⟩
    obtain ⟨N, hN, kN⟩ := hI
    unfold cntMap at F₃
    clear F₂ N₂
    k_steps
    refine is_char (none_booked (X.keeps F₃.keep) (T.nolimit.keeps F₃.keep)) h0 hu fun b hbc => ?_
    cases b with
    | true =>
      have hc35 := hbc rfl
      k_steps
      rename_i h₄ F₄ N₄
      rw [cntMap_set] at F₄
      have e : (((x.cps.toList.take i).count 35 : Nat) : Int) + 1 = (((x.cps.toList.take (i + 1)).count 35 : Nat) : Int) := by rw [count_snoc hc, if_pos hc35]; rfl
      rw [e] at F₄
      exact TurnTo.next _ F₄.ns ⟨⟨_, _, rfl⟩, wt.os, wt.gens, fun b o _ e => F₄.keep b o e⟩ ((hW A r.hh).frame _ _ _ hst₁ (keepsOf rfl (kN _ N₄)))
    | false =>
      clear hbc
      k_steps
      · rename_i hceq h₄ F₄ N₄
        have hc35 : c = 35 := by
          have e : ("#" : Str) = ⟨#[35]⟩ := by decide +kernel
          rw [e] at hceq
          simpa using hceq
        rw [cntMap_set] at F₄
        have e : (((x.cps.toList.take i).count 35 : Nat) : Int) + 1 = (((x.cps.toList.take (i + 1)).count 35 : Nat) : Int) := by rw [count_snoc hc, if_pos hc35]; rfl
        rw [e] at F₄
        exact TurnTo.next _ F₄.ns ⟨⟨_, _, rfl⟩, wt.os, wt.gens, fun b o _ e => F₄.keep b o e⟩ ((hW A r.hh).frame _ _ _ hst₁ (keepsOf rfl (kN _ N₄)))
      · rename_i hceq
        have hc35 : c ≠ 35 := fun q => by
          subst q
          have e : ("#" : Str) = ⟨#[35]⟩ := by decide +kernel
          rw [e] at hceq
          simp at hceq
        have e : (((x.cps.toList.take i).count 35 : Nat) : Int) = (((x.cps.toList.take (i + 1)).count 35 : Nat) : Int) := by rw [count_snoc hc, if_neg hc35]; rfl
        rw [e] at hn
        exact TurnTo.next _ hn ⟨⟨_, _, rfl⟩, wt.os, wt.gens, fun b o hb e => F₃.keep b o e⟩ hst₁
  · rintro m₁ s₁ hlo₁ hn ⟨⟨vi, t, rfl⟩, wt⟩
    have F₃ : Fr s.heap L s₁.heap _ := ⟨hn, fun b o e => wt.keep b o (by simp) e, F₂.above⟩
    have N₃ : News s.heap L s₁.heap [] := News.nil
    unfold cntMap at F₃
    clear F₂ N₂
    k_steps
    have e : (x.cps.toList.take x.cps.size).count 35 = hashes x := by
      unfold hashes
      rw [List.take_of_length_le (by simp)]
    rw [e]
    exact h s₁ t wt
end
end Mine

namespace Mine
open Builtin Builtin.Str

theorem cut_unique {c : Nat} : ∀ {x y A B : List Nat}, c ∉ x → c ∉ y → x ++ c :: A = y ++ c :: B → x = y ∧ A = B
  | [], [], A, B, _, _, h => by simp at h; exact ⟨rfl, h⟩
  | [], b :: y, A, B, _, hy, h => by simp at h; exact absurd h.1 (by rintro rfl; exact hy (.head _))
  | a :: x, [], A, B, hx, _, h => by simp at h; exact absurd h.1 (by rintro rfl; exact hx (.head _))
  | a :: x, b :: y, A, B, hx, hy, h => by
    simp only [List.cons_append, List.cons.injEq] at h
    obtain ⟨rfl, h⟩ := h
    obtain ⟨rfl, rfl⟩ := cut_unique (fun q => hx (.tail _ q)) (fun q => hy (.tail _ q)) h
    exact ⟨rfl, rfl⟩

theorem join_cons (y x z : Str) (r : List Str) : (PySem.Str.join y (x :: z :: r)).cps.toList = x.cps.toList ++ (y.cps.toList ++ (PySem.Str.join y (z :: r)).cps.toList) := by
  show (x ++ y ++ PySem.Str.join y (z :: r)).cps.toList = _
  simp [PySem.Str.cps_append]

theorem join_inj {c : Nat} : ∀ {P P' : List Str}, P ≠ [] → P' ≠ [] → (∀ p ∈ P, c ∉ p.cps.toList) → (∀ p ∈ P', c ∉ p.cps.toList) →
    (PySem.Str.join ⟨#[c]⟩ P).cps.toList = (PySem.Str.join ⟨#[c]⟩ P').cps.toList → P = P'
  | [], _, h, _, _, _, _ => absurd rfl h
  | _, [], _, h, _, _, _ => absurd rfl h
  | [x], [y], _, _, _, _, e => by rw [str_eq (a := x) (b := y) e]
  | [x], y :: z :: r, _, _, hx, _, e => by
    rw [join_cons] at e
    refine absurd (hx x (.head _)) ?_
    have e' : x.cps.toList = y.cps.toList ++ ([c] ++ (PySem.Str.join ⟨#[c]⟩ (z :: r)).cps.toList) := e
    rw [e']; simp
  | x :: z :: r, [y], _, _, _, hy, e => by
    rw [join_cons] at e
    refine absurd (hy y (.head _)) ?_
    have e' : x.cps.toList ++ ([c] ++ (PySem.Str.join ⟨#[c]⟩ (z :: r)).cps.toList) = y.cps.toList := e
    rw [← e']; simp
  | x :: z :: r, y :: z' :: r', _, _, hx, hy, e => by
    rw [join_cons, join_cons] at e
    obtain ⟨e1, e2⟩ := cut_unique (hx x (.head _)) (hy y (.head _)) e
    rw [str_eq e1, join_inj (P := z :: r) (P' := z' :: r') (by simp) (by simp) (fun p hp => hx p (.tail _ hp)) (fun p hp => hy p (.tail _ hp)) e2]

theorem join_txt (x : Str) : ∀ (ls : List Str), (PySem.Str.join ⟨#[10]⟩ (x :: ls)).cps.toList = x.cps.toList ++ (txtOf ls).cps.toList
  | [] => by
    show x.cps.toList = _
    simp [txtOf]
  | l :: r => by
    rw [join_cons, join_txt l r]
    simp [txtOf]

theorem nl_str : ("\n" : Str) = ⟨#[10]⟩ := by decide +kernel
theorem split_ne (x y : Str) : Txt.split x y ≠ [] := by
  intro e
  have := StrLaws.join_split x y
  unfold Txt.split at e
  split at e
  · cases e
  · split at e
    · cases e
    · rename_i h1 h2
      have hl := len_partsBetween x (occurrences x y 0 x.length (x.length + 1)) y.length
      rw [e] at hl
      simp at hl
theorem split_txt {ls : List Str} (h : ∀ l ∈ ls, 10 ∉ l.cps.toList) : Txt.split (txtOf ls) "\n" = ("" : Str) :: ls := by
  rw [nl_str]
  refine join_inj (c := 10) (split_ne _ _) (by simp) (fun p hp => StrLaws.split_free _ 10 p hp) (fun p hp => ?_) ?_
  · rcases List.mem_cons.mp hp with rfl | hp
    · decide +kernel
    · exact h p hp
  · rw [StrLaws.join_split, join_txt]
    have e : (("" : Str)).cps.toList = [] := by decide +kernel
    rw [e, List.nil_append]
theorem len_txt (ls : List Str) : (txtOf ls).length = (ls.map (·.length)).sum + ls.length := by
  show (txtOf ls).cps.size = _
  induction ls with
  | nil => rfl
  | cons a r ih =>
    simp only [txtOf, List.size_toArray, List.flatMap_cons, List.length_append, List.length_cons, List.map_cons, List.sum_cons] at ih ⊢
    rw [ih]
    have : a.cps.toList.length = a.length := by simp [PySem.Str.length]
    omega
end Mine

namespace Mine
open Builtin

section
variable {w : World} {mean : ExcName → Option Value} {mg mb : Str → Option Value} {A : Around} {R : Result → Shared → Prop} {s : Shared} {h : Heap} {E : Value → Shared → Prop} {g : Heap}
variable {x d : Addr} {vs : Array Value} {n : Nat} {ls : List Str}

theorem newOf {g h : Heap} {as : List Addr} {L D : Addr} {m : Str → Option Value} (F : Fr (hideAll g as) L h m) (hD : h.objs.size ≤ D) : g.get? D = none := by
  have h1 := F.above
  rw [hideAll_size] at h1
  exact Heap.get?_none_of_le (Nat.le_trans h1 (Nat.le_trans (Nat.le_of_lt F.ns.lt) hD))

theorem strs_drop : ∀ {us : List Value} {ls : List Str}, StrsAre us ls → ∀ k : Nat, StrsAre (us.drop k) (ls.drop k)
  | _, _, h, 0 => h
  | _, _, .nil, _ + 1 => .nil
  | _, _, .cons _ _ h, k + 1 => strs_drop h k

theorem went4 {g h₄ : Heap} {L : Addr} {m : Str → Option Value} {ox od : Obj} (F : Fr (hideAll g [69, 76, x, d]) L h₄ m) (hx : g.get? x = some ox) (hx4 : h₄.get? x = some ox) (hd : g.get? d = some od) (hd4 : h₄.get? d = some od) :
    ∀ b o, b ∉ tabs → g.get? b = some o → h₄.get? b = some o := fun b o hb e => by
  by_cases h1 : b = x
  · subst h1; rw [hx] at e; cases e; exact hx4
  by_cases h2 : b = d
  · subst h2; rw [hd] at e; cases e; exact hd4
  exact F.keep b o (hideAll_get _ e (by simp at hb ⊢; exact ⟨hb.1, hb.2, h1, h2⟩))

theorem tabs4 {g h₂ h₄ : Heap} {L : Addr} {m m' : Str → Option Value} (X : (Kw w).In g) (F₂ : Fr g L h₂ m) (F₄ : Fr g L h₄ m') (T : Tabs h₂) (h69 : ∀ o, h₂.get? 69 = some o → h₄.get? 69 = some o) (h76 : ∀ o, h₂.get? 76 = some o → h₄.get? 76 = some o) : Tabs h₄ := by
  have c80 : ∀ o, h₂.get? 80 = some o → h₄.get? 80 = some o := fun o e => by
    have e1 := F₂.keep 80 _ (X 80 _ rfl)
    rw [e1] at e; cases e
    exact F₄.keep 80 _ (X 80 _ rfl)
  have c73 : ∀ o, h₂.get? 73 = some o → h₄.get? 73 = some o := fun o e => by
    have e1 := F₂.keep 73 _ (X 73 _ rfl)
    rw [e1] at e; cases e
    exact F₄.keep 73 _ (X 73 _ rfl)
  obtain ⟨⟨ps, hc, ht⟩, qs, hc', ht'⟩ := T
  refine ⟨⟨ps, ?_, ?_⟩, qs, ?_, ?_⟩
  · obtain ⟨o, vs, file, tf, flags, tg, inF, text, tt, op, a1, r1, r2, r3, r4, r5, r6, b1, r⟩ := hc
    exact ⟨o, vs, file, tf, flags, tg, inF, text, tt, op, c80 _ a1, r1, r2, r3, r4, r5, r6, h76 _ b1, r⟩
  · obtain ⟨⟨o, vs, e, r⟩, t⟩ := ht
    exact ⟨⟨o, vs, c80 _ e, r⟩, h76 _ t⟩
  · obtain ⟨o, vs, file, tf, flags, tg, inF, text, tt, op, a1, r1, r2, r3, r4, r5, r6, b1, r⟩ := hc'
    exact ⟨o, vs, file, tf, flags, tg, inF, text, tt, op, c73 _ a1, r1, r2, r3, r4, r5, r6, h69 _ b1, r⟩
  · obtain ⟨⟨o, vs, e, r⟩, t⟩ := ht'
    exact ⟨⟨o, vs, c73 _ e, r⟩, h69 _ t⟩

set_option maxHeartbeats 2000000 in
theorem lines_body (r : Room A 13) (S : St w mean mg mb g) (kg : g.StaysIn s.heap) (ng : ∀ a ∈ [69, 76, x, d], g.get? a = none) (hacc : Acc w s.heap x d vs n ls)
    (hT : Tabs s.heap) (hlen : (ls.map (·.length)).sum + ls.length ≤ 100000) (hg : AllBare s.gens) (hnl : ∀ l ∈ ls, 10 ∉ l.cps.toList)
    (h : ∀ s' D us nu, Went tabs s s' → Tabs s'.heap → s.heap.get? D = none → s'.heap.get? D = some (listOf us nu) → StrsAre us.toList ls → R (.ok (.ret (.ref D))) s') :
    codeAny (model prg w) A (.call (.ref 160) ⟨[.ref x], []⟩) R s := by
  have hacc0 := hacc
  have hT0 := hT
  obtain ⟨⟨ps, hc, ht⟩, ⟨qs, hc', ht'⟩⟩ := hT
  obtain ⟨hx, ⟨tk, tk', hdd⟩, hp⟩ := hacc
  have S' : St w mean mg mb s.heap := S.keeps kg
  obtain ⟨X, T, GL⟩ := S.hide kg ng
  obtain ⟨X', T', GL'⟩ := S'
  have NN : ∀ p ∈ [((69 : Addr), tabO qs), ((76 : Addr), tabO ps), (x, accObj d vs n), (d, accDict w.params tk tk')], s.heap.get? p.1 = some p.2 := by
    intro p hp
    simp only [List.mem_cons, List.not_mem_nil, or_false] at hp
    rcases hp with rfl | rfl | rfl | rfl
    · exact ht'.2
    · exact ht.2
    · exact hx
    · exact hdd
  refine' call_defN (binds := [("held", .ref x)]) (news := [((69 : Addr), tabO qs), ((76 : Addr), tabO ps), (x, accObj d vs n), (d, accDict w.params tk tk')]) X' ?k2 NN ?k6 ?k7 ?k8 ?k9 ?kB ?_ ?c2 ?c3 ?c4 ?c5
  case k6 => k_is
  case k2 => exact Top.nolimit (by assumption)
  case k7 => k_is
  case k8 => have := r.depth; omega
  case k9 => first | exact BindsTo.of_eq rfl | exact binds_K (by assumption) rfl (by k_is) rfl rfl rfl | exact binds_K (by assumption) rfl (by k_is) rfl rfl (by with_unfolding_all rfl) | exact binds_K (by assumption) rfl (by k_is) rfl rfl (by kernel_rfl)
  case kB => exact locs rfl
  case c2 => exact rfl
  case c3 => exact rfl
  case c4 => exact rfl
  case c5 => decide
  intro L h₁ F N l1
  have k1 : ∀ b o, s.heap.get? b = some o → h₁.get? b = some o := fun b o e => by
    by_cases hb : b ∈ [69, 76, x, d]
    · simp only [List.mem_cons, List.not_mem_nil, or_false] at hb
      rcases hb with rfl | rfl | rfl | rfl
      · have := (N _ (.head _)).1; rw [ht'.2] at e; cases e; exact this
      · have := (N _ (.tail _ (.head _))).1; rw [ht.2] at e; cases e; exact this
      · have := (N _ (.tail _ (.tail _ (.head _)))).1; rw [hx] at e; cases e; exact this
      · have := (N _ (.tail _ (.tail _ (.tail _ (.head _))))).1; rw [hdd] at e; cases e; exact this
    · exact F.keep b o (hideAll_get _ e hb)
  have hLlt : L < h₁.objs.size := F.ns.lt
  dsimp only [List.map] at F N
  walk1
  walk1
  walk1
  walk1
  walk1
  walk1
  walk1
  walk1
  walk1
  walk1
  have nbase : ∀ a ∈ [69, 76, x, d], (hideAll s.heap [69, 76, x, d]).get? a = none := fun a ha => hideAll_none _ ha
  have nL : L ∉ tabs := fun q => by
    simp only [List.mem_cons, List.not_mem_nil, or_false] at q
    rcases q with q | q
    · exact Nat.ne_of_gt (l1 (69, tabO qs) (.head _)) q
    · exact Nat.ne_of_gt (l1 (76, tabO ps) (.tail _ (.head _))) q
  refine acc_str (r.mono (by omega) : Room _ 10).deeper ⟨X, T, GL⟩ F.keep nbase (hacc0.keep k1) (hT0.keep k1) hlen hg fun s₂ u w₂ t₂ => ?_
  have F2 := frWent F w₂ (fun a ha => nbase a (by simp at ha ⊢; rcases ha with rfl | rfl <;> simp)) nL
  have W2 : Went tabs s s₂ := ⟨w₂.os, fun q => w₂.gens q, fun b o hb e => w₂.keep b o hb (k1 b o e)⟩
  have A2 : Acc w s₂.heap x d vs n ls := hacc0.went W2 (Tabs.cls hT0)
  obtain ⟨⟨ps2, hc2, ht2⟩, ⟨qs2, hc2', ht2'⟩⟩ := id t₂
  have hx2 := A2.obj
  have hd2 : s₂.heap.get? d = some (accDict w.params tk tk') := W2.keep _ _ (fun q => by have := Tabs.cls hT0 _ q _ hdd; cases this) hdd
  have hLx : x < L := l1 (x, accObj d vs n) (.tail _ (.tail _ (.head _)))
  have hLd : d < L := l1 (d, accDict w.params tk tk') (.tail _ (.tail _ (.tail _ (.head _))))
  have N2 : News (hideAll s.heap [69, 76, x, d]) L s₂.heap [(69, tabO qs2), (76, tabO ps2), (x, accObj d vs n), (d, accDict w.params tk tk')] := by
    intro p hp
    simp only [List.mem_cons, List.not_mem_nil, or_false] at hp
    rcases hp with rfl | rfl | rfl | rfl
    · exact ⟨ht2'.2, fun q => nL (by simp [← q]), nbase _ (by simp)⟩
    · exact ⟨ht2.2, fun q => nL (by simp [← q]), nbase _ (by simp)⟩
    · exact ⟨hx2, Nat.ne_of_lt hLx, nbase _ (by simp)⟩
    · exact ⟨hd2, Nat.ne_of_lt hLd, nbase _ (by simp)⟩
  have F20 := F2
  clear F N w₂
  walk1
  walk1
  walk1
  walk1
  walk1
  refine KSpl.split1 F2 N2 (by decide +kernel) (fun D l h₃ tk₃ el hl F₃ N₃ _ => ?_) (by rw [len_txt]; exact Nat.le_trans (Nat.add_le_add_right hlen 2) (by decide))
  clear F2 N2
  rw [split_txt hnl] at el
  rw [el] at hl
  have hn3 := newOf F₃ (Nat.le_succ _)
  k_steps
  rename_i h₄ F₄ N₄
  have hD4 := (N₄ _ (.head _)).1
  refine h _ _ (slicePick (strValues l).toArray (some 1) none none) 0 ?went ?tab hn3 hD4 ?items
  case went => exact ⟨W2.os, W2.gens, went4 F₄ hx (N₄ _ (.tail _ (.tail _ (.tail _ (.tail _ (.head _)))))).1 hdd (N₄ _ (.tail _ (.tail _ (.tail _ (.tail _ (.tail _ (.head _))))))).1⟩
  case tab => exact tabs4 X F20 F₄ t₂ (fun o e => by rw [ht2'.2] at e; cases e; exact (N₄ _ (.tail _ (.tail _ (.head _)))).1) (fun o e => by rw [ht2.2] at e; cases e; exact (N₄ _ (.tail _ (.tail _ (.tail _ (.head _))))).1)
  case items =>
    have e1 : (1 : Int) = ((1 : Nat) : Int) := rfl
    rw [e1, slicePick_from _ 1 (by have := congrArg List.length el; simp [strValues] at this ⊢; omega)]
    have := strs_drop hl 1
    simpa using this
end
end Mine

namespace Mine
open Builtin

section
variable {w : World} {A : Around} {s : Shared} {h : Heap} {E : Value → Shared → Prop}

theorem reads_strs : ∀ {us : List Value} {ls : List Str}, StrsAre us ls → ReadsAll h us (ls.map PyData.str) []
  | _, _, .nil => .nil
  | _, _, .cons x t r => .cons (as := []) (bs := []) (.str x t) (reads_strs r)
theorem reads_strList {a : Addr} {us : Array Value} {n : Nat} {ls : List Str} (ha : h.get? a = some (listOf us n)) (hu : StrsAre us.toList ls) : Reads h (.ref a) (.list (ls.map PyData.str)) [a] :=
  .list ha rfl rfl (reads_strs hu)
noncomputable def pieceD (l : Str) : PyData := .tuple [.str "\n", .str l]
theorem reads_pieces : ∀ {us : List Value} {ls : List Str}, Pieces h us ls → ReadsAll h us (ls.map pieceD) []
  | _, _, .nil => .nil
  | _, _, .cons e r => .cons (as := []) (bs := []) (.tuple e rfl rfl (.cons (as := []) (bs := []) (.str _ _) (.cons (as := []) (bs := []) (.str _ _) .nil))) (reads_pieces r)
theorem reads_pieceList {a : Addr} {us : Array Value} {n : Nat} {ls : List Str} (ha : h.get? a = some (listOf us n)) (hu : Pieces h us.toList ls) : Reads h (.ref a) (.list (ls.map pieceD)) [a] :=
  .list ha rfl rfl (reads_pieces hu)

theorem eqv_strs : ∀ (ls ms : List Str), PyData.eqvAll (ls.map PyData.str) (ms.map PyData.str) = decide (ls = ms)
  | [], [] => by simp [PyData.eqvAll]
  | [], _ :: _ => by simp [PyData.eqvAll]
  | _ :: _, [] => by simp [PyData.eqvAll]
  | a :: r, b :: t => by
    simp only [List.map_cons, PyData.eqvAll, PyData.eqv, eqv_strs r t]
    by_cases h : a = b <;> by_cases h' : r = t <;> simp [h, h']
theorem eqv_pieces : ∀ (ls ms : List Str), PyData.eqvAll (ls.map pieceD) (ms.map pieceD) = decide (ls = ms)
  | [], [] => by simp [PyData.eqvAll]
  | [], _ :: _ => by simp [PyData.eqvAll]
  | _ :: _, [] => by simp [PyData.eqvAll]
  | a :: r, b :: t => by
    simp only [List.map_cons, pieceD, PyData.eqvAll, PyData.eqv]
    have ih := eqv_pieces r t
    rw [ih]
    by_cases h : a = b <;> by_cases h' : r = t <;> simp [h, h']
theorem canLay_strs : ∀ {ls : List Str}, (∀ l ∈ ls, PyData.strOk l = true) → PyData.canLayAll0 (ls.map PyData.str) = true
  | [], _ => rfl
  | l :: r, h => by
    simp only [List.map_cons, PyData.canLayAll0, PyData.canLay0, Bool.and_eq_true]
    exact ⟨h l (.head _), canLay_strs fun x hx => h x (.tail _ hx)⟩
theorem canLay_pieces : ∀ {ls : List Str}, (∀ l ∈ ls, PyData.strOk l = true) → PyData.canLayAll0 (ls.map pieceD) = true
  | [], _ => rfl
  | l :: r, h => by
    simp only [List.map_cons, pieceD, PyData.canLayAll0, PyData.canLay0, Bool.and_eq_true]
    have ih := canLay_pieces (ls := r) fun x hx => h x (.tail _ hx)
    exact ⟨⟨by decide +kernel, h l (.head _), trivial⟩, ih⟩
theorem depth_strs : ∀ (ls : List Str), PyData.depthAll (ls.map PyData.str) = 0
  | [] => rfl
  | _ :: r => by simp [PyData.depthAll, PyData.depth, depth_strs r]
theorem depth_pieces : ∀ (ls : List Str), PyData.depthAll (ls.map pieceD) ≤ 1
  | [] => by simp [PyData.depthAll]
  | _ :: r => by
    have := depth_pieces r
    simp only [List.map_cons, pieceD, PyData.depthAll, PyData.depth] at this ⊢
    omega

theorem shaped_strs {ls : List Str} (h : ∀ l ∈ ls, PyData.strOk l = true) : SeqAt.shaped (.list (ls.map PyData.str)) = true := by
  simp [SeqAt.shaped, PyData.canLay0, PyData.depth, canLay_strs h, depth_strs]
theorem shaped_pieces {ls : List Str} (h : ∀ l ∈ ls, PyData.strOk l = true) : SeqAt.shaped (.list (ls.map pieceD)) = true := by
  have h1 := canLay_pieces h
  have h2 := depth_pieces ls
  have h3 : (PyData.list (ls.map pieceD)).depth ≤ 64 := by simp only [PyData.depth]; omega
  have h4 : (PyData.list (ls.map pieceD)).canLay0 = true := by simp only [PyData.canLay0]; exact h1
  exact Bool.and_eq_true_iff.mpr ⟨h4, decide_eq_true h3⟩

theorem eq_strs {a b : Addr} {us vs : Array Value} {n m : Nat} {ls ms : List Str} {Q : Value → Shared → Prop} (ha : s.heap.get? a = some (listOf us n)) (hu : StrsAre us.toList ls) (hb : s.heap.get? b = some (listOf vs m)) (hv : StrsAre vs.toList ms)
    (h1 : ∀ l ∈ ls, PyData.strOk l = true) (h2 : ∀ l ∈ ms, PyData.strOk l = true) (hr : A.units + 64 < cLine) (h : Q (.bool (decide (ls = ms))) s) : wpAny (model prg w) A (compareOp .Eq (.ref a) (.ref b)) Q E s :=
  eq_dataH (reads_strList ha hu) (reads_strList hb hv) (shaped_strs h1) (shaped_strs h2) hr (by simp only [PyData.eqv, eqv_strs]; exact h)
theorem ne_strs {a b : Addr} {us vs : Array Value} {n m : Nat} {ls ms : List Str} {Q : Value → Shared → Prop} (ha : s.heap.get? a = some (listOf us n)) (hu : StrsAre us.toList ls) (hb : s.heap.get? b = some (listOf vs m)) (hv : StrsAre vs.toList ms)
    (h1 : ∀ l ∈ ls, PyData.strOk l = true) (h2 : ∀ l ∈ ms, PyData.strOk l = true) (hr : A.units + 64 < cLine) (h : Q (.bool (!decide (ls = ms))) s) : wpAny (model prg w) A (compareOp .NotEq (.ref a) (.ref b)) Q E s :=
  ne_dataH (reads_strList ha hu) (reads_strList hb hv) (shaped_strs h1) (shaped_strs h2) hr (by simp only [PyData.eqv, eqv_strs]; exact h)
theorem ne_pieces {a b : Addr} {us vs : Array Value} {n m : Nat} {ls ms : List Str} {Q : Value → Shared → Prop} (ha : s.heap.get? a = some (listOf us n)) (hu : Pieces s.heap us.toList ls) (hb : s.heap.get? b = some (listOf vs m)) (hv : Pieces s.heap vs.toList ms)
    (h1 : ∀ l ∈ ls, PyData.strOk l = true) (h2 : ∀ l ∈ ms, PyData.strOk l = true) (hr : A.units + 64 < cLine) (h : Q (.bool (!decide (ls = ms))) s) : wpAny (model prg w) A (compareOp .NotEq (.ref a) (.ref b)) Q E s :=
  ne_dataH (reads_pieceList ha hu) (reads_pieceList hb hv) (shaped_pieces h1) (shaped_pieces h2) hr (by simp only [PyData.eqv, eqv_pieces]; exact h)
end
end Mine

namespace Mine
open Builtin

section
variable {prog : Program} {w : World} {A : Around} {s : Shared} {h : Heap} {E : Value → Shared → Prop} {D : Addr} {us : Array Value} {n : Nat} {v : Value} {t : Tok}

theorem getItem_last {Q : Value → Shared → Prop} (hD : s.heap.get? D = some (listOf us n)) (h0 : 0 < us.size) (hv : us[us.size - 1]? = some v) (h : Q v s) : wpAny (model prog w) A (getItem (.ref D) (.int (-1) t)) Q E s := by
  have hl : s.heap.IsList D us := ⟨_, hD, rfl, n, rfl⟩
  unfold getItem
  try with_reducible refine wpAny_holding ?_
  first | refine wpAny_bind (wpAny_pure ?_) | skip
  refine wpAny_bind (wpAny_sequenceKey hl.typeIs (by decide) ?_)
  refine wpAny_bind (wpAny_callSpecial?_slot (name := Str.ofString "__getitem__") hl.typeIs slot_list_getitem
    (wpAny_call_entry slot_list_getitem hl.typeIs entry_list_getitem ?_ (args_list_getitem _ _)))
  show wpAny _ _ (Builtin.List.listSubscript? (.int (-1) t) >>= _) _ _ s
  refine wpAny_bind (wpAny_listSubscript_int (by decide) ?_)
  show wpAny _ _ ((Builtin.List.listItems (.ref D) >>= fun xs => pure ((seqIndex? (-1) xs.size).bind fun j => xs[j]?.map (j, ·))) >>= _) _ _ s
  refine wpAny_bind (wpAny_bind (wpAny_listItems hD rfl (wpAny_pure ?_)))
  rw [seqIndex?_neg_one h0, Option.bind_some, hv]
  first
    | exact wpAny_bind (wpAny_pure (wpAny_pure ⟨v, rfl, wpAny_pure h⟩))
    | exact wpAny_pure ⟨v, rfl, wpAny_pure h⟩

theorem setItem_last {Q : Unit → Shared → Prop} (hD : s.heap.get? D = some (listOf us n)) (h0 : 0 < us.size)
    (hQ : ∀ h' n', Heap.SameBut D s.heap h' → h'.get? D = some (listOf (us.setIfInBounds (us.size - 1) v) n') → Q () { s with heap := h' }) : wpAny (model prog w) A (setItem (.ref D) (.int (-1) t) v) Q E s := by
  have hl : s.heap.IsList D us := ⟨_, hD, rfl, n, rfl⟩
  unfold setItem
  try with_reducible refine wpAny_holding ?_
  first | refine wpAny_bind (wpAny_pure ?_) | skip
  refine wpAny_bind (wpAny_sequenceKey hl.typeIs (by decide) ?_)
  refine wpAny_bind (wpAny_callSpecial?_slot (name := Str.ofString "__setitem__") hl.typeIs slot_list_setitem
    (wpAny_call_entry slot_list_setitem hl.typeIs entry_list_setitem ?_ (args_list_setitem _ _ _)))
  show wpAny _ _ (Builtin.List.listSubscript? (.int (-1) t) >>= _) _ _ s
  refine wpAny_bind (wpAny_listSubscript_int (by decide) ?_)
  show wpAny _ _ ((Builtin.List.listItems (.ref D) >>= fun xs => pure ((seqIndex? (-1) xs.size).bind fun j => xs[j]?.map (j, ·))) >>= _) _ _ s
  refine wpAny_bind (wpAny_bind (wpAny_listItems hD rfl (wpAny_pure ?_)))
  have hx : us[us.size - 1]? = some us[us.size - 1] := Array.getElem?_eq_getElem (Nat.sub_lt h0 Nat.one_pos)
  rw [seqIndex?_neg_one h0, Option.bind_some, hx]
  show wpAny _ _ (setSeqItemAt D (us.size - 1) v >>= _) _ _ s
  obtain ⟨n', hn⟩ : ∃ n', Obj.mapSeq (·.setIfInBounds (us.size - 1) v) (listOf us n) = listOf (us.setIfInBounds (us.size - 1) v) n' := ⟨_, rfl⟩
  have hfin : (s.heap.update D (Obj.mapSeq (·.setIfInBounds (us.size - 1) v))).get? D = some (listOf (us.setIfInBounds (us.size - 1) v) n') := by
    rw [Heap.get?_update_self _ hD (by rw [hn]; rfl), hn]
  refine wpAny_bind (wpAny_setSeqItemAt hD rfl ?_)
  first
    | exact wpAny_bind (wpAny_pure (wpAny_pure ⟨.none, rfl, wpAny_pure (hQ _ _ (Heap.SameBut.update ..) hfin)⟩))
    | exact wpAny_pure ⟨.none, rfl, wpAny_pure (hQ _ _ (Heap.SameBut.update ..) hfin)⟩

theorem sub_last {value slice : Expr} {Q : Value → Shared → Prop} (hD : s.heap.get? D = some (listOf us n)) (h0 : 0 < us.size) (hv : us[us.size - 1]? = some v) (h : Q v s)
    (hs : subscripted slice false (.ref D) (.int (-1) t) = operate [.ref D, .int (-1) t] (getItem (.ref D) (.int (-1) t)) := by with_unfolding_all rfl) (hg : ∀ r, letTemporaryGo value (.ref D) r = pure () := by intro _; with_unfolding_all rfl) :
    wpAny (model prog w) A (subscriptTail value slice (.ref D) (.int (-1) t)) Q E s :=
  subscriptTail_builtin (Heap.IsList.typeIs ⟨_, hD, rfl, n, rfl⟩) slot_list_getitem.lookup (getItem_last hD h0 hv h) hs hg
end
end Mine

namespace Mine
open Builtin

section
variable {w : World} {mean : ExcName → Option Value} {mg mb : Str → Option Value} {A : Around} {R : Result → Shared → Prop} {s : Shared} {h : Heap} {E : Value → Shared → Prop} {g : Heap}

/-- a line laid onto the blocks -/
noncomputable def addLine (bs : List Str) (l : Str) : List Str :=
  let bs' := if l = "#" ∨ bs = [] then bs ++ [("" : Str)] else bs
  bs'.dropLast ++ [(bs'.getLast?.getD "") ++ ("\n" : Str) ++ l]
noncomputable def blocksOf (ls : List Str) : List Str := ls.foldl addLine []

theorem addLine_len (bs : List Str) (l : Str) : (addLine bs l).length ≤ bs.length + 1 := by
  unfold addLine
  split <;> simp
theorem foldl_len : ∀ (ls bs : List Str), (ls.foldl addLine bs).length ≤ bs.length + ls.length
  | [], bs => by simp
  | l :: r, bs => by
    have h1 := foldl_len r (addLine bs l)
    have h2 := addLine_len bs l
    simp only [List.foldl_cons, List.length_cons]
    omega

theorem strs_snoc {x : Str} {t : Tok} : ∀ {us : List Value} {ls : List Str}, StrsAre us ls → StrsAre (us ++ [.str x t]) (ls ++ [x])
  | _, _, .nil => .cons x t .nil
  | _, _, .cons y u r => .cons y u (strs_snoc r)
noncomputable def laid (bs : List Str) (l : Str) : List Str := if l = "#" ∨ bs = [] then bs ++ [("" : Str)] else bs
theorem addLine_eq (bs : List Str) (l : Str) : addLine bs l = (laid bs l).dropLast ++ [((laid bs l).getLast?.getD "") ++ ("\n" : Str) ++ l] := rfl

/-- the frame's map in the loop -/
noncomputable def blkMap (l D : Addr) (vi : Option Value) : Str → Option Value := fun y =>
  if y = ("line" : Str) then vi else if y = ("blocks" : Str) then some (.ref D) else List.lookup y [(Str.ofString "lines", Value.ref l)]

theorem strOk_append {a b : Str} (h1 : PyData.strOk a = true) (h2 : PyData.strOk b = true) : PyData.strOk (a ++ b) = true := by
  unfold PyData.strOk at *
  rw [PySem.Str.cps_append, Array.all_append, h1, h2]
  rfl
theorem addLine_ok {bs : List Str} {l : Str} (h : ∀ x ∈ bs, PyData.strOk x = true) (hl : PyData.strOk l = true) : ∀ x ∈ addLine bs l, PyData.strOk x = true := by
  have h1 : ∀ x ∈ laid bs l, PyData.strOk x = true := by
    intro x hx
    unfold laid at hx
    split at hx
    · rcases List.mem_append.mp hx with hx | hx
      · exact h x hx
      · rw [List.mem_singleton.mp hx]; decide +kernel
    · exact h x hx
  intro x hx
  rw [addLine_eq] at hx
  rcases List.mem_append.mp hx with hx | hx
  · exact h1 x (List.dropLast_subset _ hx)
  · rw [List.mem_singleton.mp hx]
    refine strOk_append (strOk_append ?_ (by decide +kernel)) hl
    cases e : (laid bs l).getLast? with
    | none => decide +kernel
    | some z => exact h1 z (List.mem_of_getLast? e)
theorem foldl_ok : ∀ (ls bs : List Str), (∀ x ∈ bs, PyData.strOk x = true) → (∀ x ∈ ls, PyData.strOk x = true) → ∀ x ∈ ls.foldl addLine bs, PyData.strOk x = true
  | [], _, h, _ => h
  | l :: r, bs, h, hl => foldl_ok r (addLine bs l) (addLine_ok h (hl l (.head _))) fun x hx => hl x (.tail _ hx)

theorem strs_last : ∀ {us : List Value} {ls : List Str}, StrsAre us ls → ls ≠ [] → ∃ t, us[us.length - 1]? = some (.str (ls.getLast?.getD "") t)
  | _, _, .nil, h => absurd rfl h
  | _, _, .cons x t .nil, _ => ⟨t, rfl⟩
  | _, _, .cons x t (.cons y u r), _ => by
    obtain ⟨t', e⟩ := strs_last (.cons y u r) (by simp)
    refine ⟨t', ?_⟩
    simp only [List.length_cons, Nat.add_sub_cancel] at e ⊢
    rw [List.getElem?_cons_succ, e]
    rfl
theorem strs_setLast {y : Str} {ty : Tok} : ∀ {us : List Value} {ls : List Str}, StrsAre us ls → ls ≠ [] → StrsAre (us.set (us.length - 1) (.str y ty)) (ls.dropLast ++ [y])
  | _, _, .nil, h => absurd rfl h
  | _, _, .cons x t .nil, _ => .cons y ty .nil
  | _, _, .cons x t (.cons z u r), _ => by
    have ih := strs_setLast (y := y) (ty := ty) (.cons z u r) (by simp)
    simp only [List.length_cons, Nat.add_sub_cancel, List.set_cons_succ, List.dropLast_cons₂, List.cons_append] at ih ⊢
    exact .cons x t ih
theorem laid_ne (bs : List Str) (l : Str) : laid bs l ≠ [] := by
  unfold laid
  split
  · simp
  · rename_i h; exact fun e => h (.inr e)
theorem laid_short {bs : List Str} {l : Str} {M : Nat} (h : ∀ x ∈ bs, x.length ≤ M) : ∀ x ∈ laid bs l, x.length ≤ M := by
  intro x hx
  unfold laid at hx
  split at hx
  · rcases List.mem_append.mp hx with hx | hx
    · exact h x hx
    · rw [List.mem_singleton.mp hx]; exact Nat.zero_le _
  · exact h x hx
theorem last_short {bs : List Str} {M : Nat} (h : ∀ x ∈ bs, x.length ≤ M) : (bs.getLast?.getD "").length ≤ M := by
  cases e : bs.getLast? with
  | none => exact Nat.zero_le _
  | some z => exact h z (List.mem_of_getLast? e)
theorem addLine_short {bs : List Str} {l : Str} {M : Nat} (h : ∀ x ∈ bs, x.length ≤ M) : ∀ x ∈ addLine bs l, x.length ≤ M + l.length + 1 := by
  intro x hx
  rw [addLine_eq] at hx
  have h1 := laid_short (l := l) h
  rcases List.mem_append.mp hx with hx | hx
  · have := h1 x (List.dropLast_subset _ hx); omega
  · rw [List.mem_singleton.mp hx, PySem.Str.length_append, PySem.Str.length_append]
    have h2 := last_short h1
    have e1 : (("\n" : Str)).length = 1 := by decide +kernel
    omega
theorem foldl_short : ∀ (ls bs : List Str) (M : Nat), (∀ x ∈ bs, x.length ≤ M) → ∀ x ∈ ls.foldl addLine bs, x.length ≤ M + (ls.map (·.length)).sum + ls.length
  | [], _, M, h, x, hx => by have := h x hx; simp; omega
  | l :: r, bs, M, h, x, hx => by
    have := foldl_short r (addLine bs l) (M + l.length + 1) (addLine_short h) x hx
    simp only [List.map_cons, List.sum_cons, List.length_cons]
    omega
theorem take_sum (ls : List Str) (i : Nat) : ((ls.take i).map (·.length)).sum + (ls.take i).length ≤ (ls.map (·.length)).sum + ls.length := by
  have := congrArg (fun l => (l.map (·.length)).sum) (List.take_append_drop i ls)
  have h2 := congrArg List.length (List.take_append_drop i ls)
  simp only [List.map_append, List.sum_append, List.length_append] at this h2
  omega

/-- what stands behind the if -/
noncomputable def LaidPost (g : Heap) (s₁ : Shared) (L D I : Addr) (oI : Obj) (m : Str → Option Value) (bl : List Str) (f : Flow) (s' : Shared) : Prop :=
  f = .next ∧ ∃ bs' nb' h' tk', s' = { s₁ with heap := h', toks := tk' } ∧ Fr g L h' m ∧ News g L h' [(I, oI), (D, listOf bs' nb')] ∧ StrsAre bs'.toList bl

set_option maxHeartbeats 2000000 in
theorem blocks_body (r : Room A 8) (S : St w mean mg mb s.heap) {l : Addr} {us : Array Value} {nu : Nat} {ls : List Str} (hl : s.heap.get? l = some (listOf us nu)) (hus : StrsAre us.toList ls)
    (hlen : (ls.map (·.length)).sum + ls.length ≤ 50000) (hok : ∀ l ∈ ls, PyData.strOk l = true) (hn : (blocksOf ls).length ≤ 60)
    (h : ∀ s' B bs, Went [] s s' → s.heap.get? B = none → IsSet w s'.heap B bs → (∀ x, x ∈ bs ↔ x ∈ blocksOf ls) → R (.ok (.ret (.ref B))) s') :
    codeAny (model prg w) A (.call (.ref 167) ⟨[.ref l], []⟩) R s := by
  obtain ⟨X, T, GL⟩ := S
  have hr := r.depth
  refine' call_def (binds := [("lines", .ref l)]) ?k1 ?k2 ?k6 ?k7 ?k8 ?k9 ?kB ?_ ?c2 ?c3 ?c4 ?c5
  case k1 => assumption
  case k6 => k_is
  case k2 => exact Top.nolimit (by assumption)
  case k7 => k_is
  case k8 => omega
  case k9 => first | exact BindsTo.of_eq rfl | exact binds_K (by assumption) rfl (by k_is) rfl rfl rfl | exact binds_K (by assumption) rfl (by k_is) rfl rfl (by with_unfolding_all rfl) | exact binds_K (by assumption) rfl (by k_is) rfl rfl (by kernel_rfl)
  case kB => exact locs rfl
  case c2 => exact rfl
  case c3 => exact rfl
  case c4 => exact rfl
  case c5 => decide
  intro L h₁ F N
  walk1
  walk1
  walk1
  walk1
  walk1
  walk1
  refine wpAny_execs_cons ?_
  refine for_walk rfl rfl ?_
  walk1
  rename_i D h₁' lD h₂ F₂ N₂
  have hl2 : h₂.IsList l us := ⟨_, F₂.keep _ _ hl, rfl, nu, rfl⟩
  refine wpAny_pyIter_list hl2 ?_
  dsimp only
  have hD2 := (N₂ _ (.head _)).1
  have hDL := (N₂ _ (.head _)).2.1
  have hDn := (N₂ _ (.head _)).2.2
  dsimp only at hD2 hDL hDn
  have hLs : L < h₂.objs.size := F₂.ns.lt
  have hIL : L ≠ h₂.objs.size := Nat.ne_of_lt hLs
  have hID : D ≠ h₂.objs.size := Nat.ne_of_lt (Heap.lt_size hD2)
  have hIl : l ≠ h₂.objs.size := Nat.ne_of_lt (Heap.lt_size (F₂.keep _ _ hl))
  have hLl : L ≠ l := Nat.ne_of_gt (Nat.lt_of_lt_of_le (Heap.lt_size hl) F₂.above)
  have hIn : s.heap.get? h₂.objs.size = none := Heap.get?_none_of_le (Nat.le_of_lt (Nat.lt_of_le_of_lt F₂.above hLs))
  have hLn : s.heap.get? L = none := Heap.get?_none_of_le F₂.above
  have hul : us.size = ls.length := by have := strs_len hus; simpa using this
  refine ⟨0, h₂.objs.size, _, _, _, _, _, _, fun i m s' => ∃ vi bs nb, m = blkMap l D vi ∧ Went [] s s' ∧ s'.heap.get? D = some (listOf bs nb) ∧ StrsAre bs.toList ((ls.take i).foldl addLine []), rfl, WalkL.of (Walks.list (show (A.deeper _).handled = none from r.hh) h₂.objs.size l hIl us), Nat.zero_le _,
    (fun hm => by
      rcases List.mem_cons.mp hm with q | q
      · exact hIL q
      · exact hLl (List.mem_singleton.mp q)), ⟨⟨_, Heap.get?_push_size _ rfl, rfl, rfl⟩, hl2.push _⟩, F₂.ns.push _, ⟨none, #[], 0, ?_, ⟨rfl, fun q => q, fun b o' _ e => Heap.get?_push_of_some _ (F₂.keep b o' e)⟩, Heap.get?_push_of_some _ hD2, .nil⟩, ?_, ?_, ?_⟩
  · funext y
    unfold blkMap
    by_cases h1 : y = ("line" : Str)
    · subst h1; rfl
    · rw [if_neg h1]; rfl
  · rintro i m₁ m₂ s' h' tk₃ ⟨vi, bs, nb, rfl, wt, hD, hb⟩ hm k _
    have hL' : ∀ b, (∃ o, s.heap.get? b = some o) → b ≠ L := fun b ⟨o, e⟩ q => by rw [q, hLn] at e; cases e
    refine ⟨m₂ "line", bs, nb, ?_, ⟨wt.os, wt.gens, fun b o' hb e => k b o' (fun q => by rw [List.mem_singleton.mp q, hIn] at e; cases e) (hL' b ⟨_, e⟩) (wt.keep b o' hb e)⟩, k _ _ (fun q => hID (List.mem_singleton.mp q)) hDL hD, hb⟩
    · rcases hm with rfl | ⟨v, rfl⟩
      · rfl
      · funext y
        unfold blkMap
        by_cases h1 : y = ("line" : Str)
        · subst h1; rfl
        · simp [h1]
  · rintro i v m₁ s₁ hi hP hlo₁ hm hn' ⟨vi, bs, nb, rfl, wt, hD, hb⟩ ⟨⟨oI, hoI, hcI, hdI⟩, hl1⟩
    have hvi : vi = some v := hm
    subst hvi
    obtain ⟨x, tx, rfl, hx⟩ := strs_at hus i v (by simpa using hP)
    have F₃ : Fr s.heap L s₁.heap _ := ⟨hn', fun b o e => wt.keep b o (by simp) e, F₂.above⟩
    have N₃ : News s.heap L s₁.heap [(h₂.objs.size, oI), (D, listOf bs nb)] := by
      intro p hp
      simp only [List.mem_cons, List.not_mem_nil, or_false] at hp
      rcases hp with rfl | rfl
      · exact ⟨hoI, Ne.symm hIL, hIn⟩
      · exact ⟨hD, hDL, hDn⟩
    unfold blkMap at F₃
    have hsz : bs.size ≤ 50000 := by
      have h1 := strs_len hb
      have h2 := foldl_len (ls.take i) []
      simp at h1 h2
      omega
    have hID' : (h₂.objs.size, oI).1 ≠ D := Ne.symm hID
    clear F₂ N₂
    have hokb : ∀ l ∈ (ls.take i).foldl addLine [], PyData.strOk l = true := foldl_ok _ _ (fun l hl => by cases hl) fun l hl => hok l (List.mem_of_mem_take hl)
    refine wpAny_execs_cons (wpAny_mono (Q := LaidPost s.heap s₁ L D h₂.objs.size oI (fun y => if y = ("line" : Str) then some (Value.str x tx) else if y = ("blocks" : Str) then some (.ref D) else List.lookup y [(Str.ofString "lines", Value.ref l)]) (laid ((ls.take i).foldl addLine []) x)) ?iff (fun f s' hq => ?rest) (fun _ _ e => e))
    case iff =>
      k_steps
      · rename_i hx1 tk₄ h₄ F₄ N₄
        have hx' : x = "#" := by simpa using hx1
        exact ⟨rfl, _, _, _, _, rfl, F₄, N₄, by rw [Array.toList_push, laid, if_pos (.inl hx')]; exact strs_snoc hb⟩
      · rename_i hx1 E₀ h₃ F₄ N₄ lE
        have hx' : x ≠ "#" := by simpa using hx1
        refine eq_strs (N₄ _ (.tail _ (.tail _ (.head _)))).1 hb (N₄ _ (.head _)).1 .nil hokb (fun l hl => by cases hl) (by have := r.units; show A.units + 3 + 64 < cLine; omega) ?_
        by_cases hcur : (ls.take i).foldl addLine [] = []
        · rw [decide_eq_true hcur]
          k_steps
          rename_i tk₅ h₅ F₅ N₅
          exact ⟨rfl, _, _, _, _, rfl, F₅, fun p hp => N₅ p (.tail _ hp), by rw [Array.toList_push, laid, if_pos (.inr hcur)]; exact strs_snoc hb⟩
        · rw [decide_eq_false hcur]
          k_steps
          exact ⟨rfl, _, _, _, _, rfl, F₄, fun p hp => N₄ p (.tail _ hp), by rw [laid, if_neg (by simp [hx', hcur])]; exact hb⟩
    case rest =>
      obtain ⟨rfl, bs', nb', h', tk', rfl, F₄, N₄, hb'⟩ := hq
      have hne := laid_ne ((ls.take i).foldl addLine []) x
      have hbs : 0 < bs'.size := by
        have h1 := strs_len hb'
        have h2 : (laid ((ls.take i).foldl addLine []) x).length ≠ 0 := fun q => hne (List.length_eq_zero_iff.mp q)
        simp at h1
        omega
      obtain ⟨tl, hlast⟩ := strs_last hb' hne
      have hlast' : bs'[bs'.size - 1]? = some (.str ((laid ((ls.take i).foldl addLine []) x).getLast?.getD "") tl) := by simpa using hlast
      have hsh : ((laid ((ls.take i).foldl addLine []) x).getLast?.getD "").length ≤ 50000 := by
        refine last_short (laid_short fun z hz => ?_)
        have h1 := foldl_short _ _ 0 (fun x hx => by cases hx) z hz
        have h2 := take_sum ls i
        omega
      have hxl : x.length ≤ 50000 := by
        have := len_le_sum (List.mem_of_getElem? hx)
        omega
      have hset : ∀ y ty, StrsAre (bs'.setIfInBounds (bs'.size - 1) (.str y ty)).toList ((laid ((ls.take i).foldl addLine []) x).dropLast ++ [y]) := fun y ty => by
        have := strs_setLast (y := y) (ty := ty) hb' hne
        simpa using this
      have hadd : ((ls.take (i + 1)).foldl addLine []) = (laid ((ls.take i).foldl addLine []) x).dropLast ++ [((laid ((ls.take i).foldl addLine []) x).getLast?.getD "") ++ ("\n" : Str) ++ x] := by
        rw [List.take_add_one, hx, List.foldl_append]
        exact addLine_eq _ _
      generalize hblk : (laid ((ls.take i).foldl addLine []) x).getLast?.getD "" = blk at *
      clear F₃ N₃ hb
      dsimp only
      walk1
      walk1
      walk1
      walk1
      walk1
      walk1
      walk1
      walk1
      walk1
      have hD4 : h'.get? D = some (listOf bs' nb') := (N₄ _ (.tail _ (.head _))).1
      have F₅ := F₄
      have N₅ := N₄
      refine sub_last hD4 hbs hlast' ?_
      k_steps
      refine setItem_last hD4 hbs fun h₆ n₆ s₆ e₆ => ?_
      have hL6 : h₆.Ns L (blkMap l D (some (.str x tx))) := F₅.ns.at' fun o e => s₆.extBut L o (Ne.symm hDL) e
      have k6 : ∀ b o, b ≠ D → h'.get? b = some o → h₆.get? b = some o := fun b o hb e => s₆.extBut b o hb e
      clear F₄ N₄
      refine wpAny_execs_nil ?_
      refine TurnTo.next _ hL6 ⟨_, _, _, rfl, ⟨wt.os, wt.gens, fun b o hb e => k6 b o (fun q => by rw [q, hDn] at e; cases e) (F₅.keep b o e)⟩, e₆, ?_⟩ ⟨⟨oI, k6 _ _ hID' (N₅ _ (.head _)).1, hcI, hdI⟩, ?_⟩
      · rw [hadd]; exact hset _ _
      · exact ⟨_, k6 _ _ (fun q => by rw [q, hDn] at hl; cases hl) (F₅.keep _ _ hl), rfl, nu, rfl⟩
  · rintro m₁ s₁ hlo₁ hn' ⟨vi, bs, nb, rfl, wt, hD, hb⟩
    have F₃ : Fr s.heap L s₁.heap _ := ⟨hn', fun b o e => wt.keep b o (by simp) e, F₂.above⟩
    have N₃ : News s.heap L s₁.heap [(D, listOf bs nb)] := by
      intro p hp
      rw [List.mem_singleton.mp hp]
      exact ⟨hD, hDL, hDn⟩
    unfold blkMap at F₃
    clear F₂ N₂
    k_steps
    have hfull : (ls.take us.size).foldl addLine [] = blocksOf ls := by rw [hul, List.take_length]; rfl
    rw [hfull] at hb
    have hsz : bs.size ≤ 60 := by have := strs_len hb; simp at this; omega
    refine call_set_strs (items := bs) (ls := blocksOf ls) (show (A.deeper _).handled = none from r.hh) ⟨_, hD, rfl, nb, rfl⟩ hb hsz fun h₄ tk₄ ss k₄ i₄ m₄ => ?_
    exact h _ _ ss ⟨wt.os, wt.gens, fun b o hb e => k₄ b o (wt.keep b o hb e)⟩ (Heap.get?_none_of_le (Nat.le_of_lt (Nat.lt_of_le_of_lt F₃.above F₃.ns.lt))) i₄ m₄
end
end Mine

namespace Mine
open Builtin

section
variable {prog : Program} {w : World} {A : Around} {s : Shared} {env : Env} {x : Str}

noncomputable abbrev testsOf (ifs : List Expr) (env : Env) : Sem Bool := forIn ifs true fun c r => if r = true then do let ok ← isTrue c env (eval c env); pure (ForInStep.yield ok) else pure (ForInStep.yield r)

/-- where a comprehension stands between its turns: its list D, its frame C -/
structure CompAt (St : Nat → Heap → Prop) (J : Addr → Addr → Nat → List Value → Shared → Prop) (D C : Addr) (i : Nat) (ys : List Value) (s : Shared) : Prop where
  lst : ∃ k, s.heap.get? D = some (listOf ys.toArray k)
  frame : ∃ m, s.heap.Ns C m
  st : St i s.heap
  j : J D C i ys s

noncomputable def CompG (prog : Program) (w : World) (A : Around) (env : Env) (x : Str) (scope : Scope) (cl : List (Str × Addr)) (ifs : List Expr) (elt : Expr) (Q : Value → Shared → Prop) (it : Value) (s₂ : Shared) : Prop :=
  ∃ (lo : Nat) (I : Addr) (fp wr : List Addr) (n : Nat) (P : Nat → Value → Prop) (St : Nat → Heap → Prop) (J : Addr → Addr → Nat → List Value → Shared → Prop),
    it = .ref I ∧ Walks prog w A I fp wr n P St ∧ lo ≤ s₂.toks ∧ n ≤ sizeLine ∧ St 0 s₂.heap ∧ (∀ b ∈ fp, b < s₂.heap.objs.size) ∧
    (∀ D C h' tk, s₂.heap.get? D = none → s₂.heap.get? C = none → D ≠ C → s₂.heap.objs.size ≤ D → s₂.heap.objs.size ≤ C → D < h'.objs.size → C < h'.objs.size → (∀ b o, s₂.heap.get? b = some o → h'.get? b = some o) → lo ≤ tk → J D C 0 [] { s₂ with heap := h', toks := tk }) ∧
    (∀ D C i ys (s' : Shared) h' tk, J D C i ys s' → lo ≤ tk → (∀ b o, b ∉ wr → b ≠ D → b ≠ C → s'.heap.get? b = some o → h'.get? b = some o) → J D C i ys { s' with heap := h', toks := tk }) ∧
    (∀ D C i v ys m₁ (s₁ : Shared) k, D ≠ C → s₂.heap.get? D = none → s₂.heap.get? C = none → D ∉ fp → C ∉ fp → i < n → P i v → lo ≤ s₁.toks → m₁ x = some v → s₁.heap.Ns C m₁ → s₁.heap.get? D = some (listOf ys.toArray k) → St (i + 1) s₁.heap → J D C i ys s₁ →
      wpAny (model prog w) A (testsOf ifs (compEnvC scope cl C env)) (fun ok s₃ => if ok = true then
          wpAny (model prog w) A (eval elt (compEnvC scope cl C env)) (fun y s₄ => (∃ k, s₄.heap.get? D = some (listOf ys.toArray k)) ∧ (∃ m, s₄.heap.Ns C m) ∧ St (i + 1) s₄.heap ∧ ys.length ≤ i ∧ J D C (i + 1) (ys ++ [y]) s₄) (fun _ _ => False) s₃
        else CompAt St J D C (i + 1) ys s₃) (fun _ _ => False) s₁) ∧
    (∀ D C ys (s₁ : Shared) k, s₂.heap.get? D = none → lo ≤ s₁.toks → s₁.heap.get? D = some (listOf ys.toArray k) → J D C n ys s₁ → Q (.ref D) s₁)

theorem comp_walk {elt iter : Expr} {px : Pos} {ifs : List Expr} {scope : Scope} {cl : List (Str × Addr)} {pos : Pos} {Q : Value → Shared → Prop}
    (hclos : closureFor scope env = pure cl) (hcell : ∀ y ∈ scope.names, y.2 ≠ .cell) (hkind : scope.kind = .function)
    (hnames : ∀ y ∈ scope.names, y.2 = .local → scope.names.lookup y.1 = some .local) (hx : scope.names.lookup x = some .local)
    (h : wpAny (model prog w) A (eval iter env) (fun xv s₁ => wpAny (model prog w) A (pyIter xv) (CompG prog w A env x scope cl ifs elt Q) (fun _ _ => False) s₁) (fun _ _ => False) s)
    (hs : ∀ x, foldedSetIterable iter env x = pure x := by intro _; rfl) :
    wpAny (model prog w) A (eval (.ListComp elt [⟨.Name x px, iter, ifs, 0⟩] scope pos) env) Q (fun _ _ => False) s := by
  rw [eval_ListComp]
  refine wpAny_comprehension_free (use := none) rfl hs hclos hkind hnames (wpAny_mono h (fun xv s₁ h₁ => wpAny_mono h₁ (fun it s₂ h₂ => ?_) fun _ _ e => e) fun _ _ e => e)
  obtain ⟨lo, I, fp, wr, n, P, St, J, rfl, W, hlo, hsz, hst, hfp, j0, stab, turn, done⟩ := h₂
  refine wpAny_newObj_type (wpAny_newFunctionEnv hcell (by intro y hy; simp at hy) (fun h₁ hns₁ hsb₁ => ?_) hkind)
  dsimp only at hns₁ hsb₁ ⊢
  generalize hH2 : s₂.heap.push { cls := .type "list", dict := none, data := .seq ([] : List Value).toArray } = H2 at hns₁ hsb₁ ⊢
  have hC : H2.objs.size = s₂.heap.objs.size + 1 := by rw [← hH2, Heap.size_push]
  have hDC : s₂.heap.objs.size ≠ H2.objs.size := by rw [hC]; exact Nat.ne_of_lt (Nat.lt_succ_self _)
  have below : ∀ b, b < s₂.heap.objs.size → b ≠ H2.objs.size ∧ b ≠ s₂.heap.objs.size := fun b hb => ⟨by rw [hC]; exact Nat.ne_of_lt (Nat.lt_succ_of_lt hb), Nat.ne_of_lt hb⟩
  have hDf : s₂.heap.objs.size ∉ fp := fun hm => Nat.lt_irrefl _ (hfp _ hm)
  have hCf : H2.objs.size ∉ fp := fun hm => by have := hfp _ hm; rw [hC] at this; exact Nat.lt_irrefl _ (Nat.lt_of_succ_lt this)
  have old : ∀ b o, s₂.heap.get? b = some o → h₁.get? b = some o := fun b o e => hsb₁.extBut b o (below b (Heap.lt_size e)).1 (Heap.get?_push_of_some _ (hH2 ▸ Heap.get?_push_of_some _ e))
  have hacc : h₁.get? s₂.heap.objs.size = some (listOf #[] 0) := hsb₁.extBut _ _ hDC (Heap.get?_push_of_some _ (hH2 ▸ Heap.get?_push_size _ rfl))
  have hst₁ : St 0 h₁ := W.frame _ _ _ hst fun b _ o e => old b o e
  have nD : s₂.heap.get? s₂.heap.objs.size = none := Heap.get?_none_of_le (Nat.le_refl _)
  have nC : s₂.heap.get? H2.objs.size = none := Heap.get?_none_of_le (by rw [hC]; exact Nat.le_succ _)
  have hJ : J s₂.heap.objs.size H2.objs.size 0 [] { s₂ with heap := h₁, toks := s₂.toks + ([] : List (Str × Value)).length } := j0 _ _ h₁ _ nD nC hDC (Nat.le_refl _) (by rw [hC]; exact Nat.le_succ _) (Heap.lt_size hacc) hns₁.lt old hlo
  generalize s₂.heap.objs.size = D at *
  generalize H2.objs.size = C at *
  have hCw : C ∉ wr := fun q => hCf (W.sub _ q)
  have hDw : D ∉ wr := fun q => hDf (W.sub _ q)
  have loop : ∀ s₃ : Shared, s₃ = { s₂ with heap := h₁, toks := s₂.toks + ([] : List (Str × Value)).length } →
      codeAny (model prog w) A (.compLoop (.ListComp elt [⟨.Name x px, iter, ifs, 0⟩] scope pos) 0 (.ref I) (.ref D) (compEnvC scope cl C env)) (compPost (model prog w) A (fun _ _ => False) none Q (.ref D) C) s₃ := by
    rintro s₃ rfl
    refine codeAny_compLoop_tests (fun k s' => ∃ i ys, lo ≤ s'.toks ∧ CompAt St J D C i ys s' ∧ ys.length ≤ i ∧ i ≤ n ∧ k = n + 1 - i) ?_ (n + 1) ⟨0, [], hlo, ⟨⟨0, hacc⟩, ⟨_, hns₁⟩, hst₁, hJ⟩, Nat.le_refl _, Nat.zero_le _, rfl⟩
    rintro k s' ⟨i, ys, hlo', ⟨⟨kD, hD⟩, ⟨m', hn'⟩, hst', hJ'⟩, hyl, hi, rfl⟩
    by_cases hlt : i < n
    · refine (WalkL.of (lo := lo) W).item i _ _ _ hlt hlo' hst' fun v h₂ tk₂ hlo₂ hP hst₂ hk₂ => ?_
      refine wpAny_assign_Name (wpAny_storeName_local (lookup_relabel_local hx) (hn'.at' fun o e => hk₂ _ o hCw e) (fun h₃ hn₃ hs₃ => ?_) (by simp [compEnvC, relabel, hkind]))
      replace hs₃ : Heap.SameBut C h₂ h₃ := hs₃
      have hst₃ : St (i + 1) h₃ := W.frame _ _ _ hst₂ fun b hb o e => (hs₃.2 b fun q => hCf (q ▸ hb)).trans e
      have hD₃ : h₃.get? D = some (listOf ys.toArray kD) := (hs₃.2 D hDC).trans (hk₂ _ _ hDw hD)
      have hJ₃ := stab D C i ys s' h₃ (tk₂ + 1) hJ' (Nat.le_succ_of_le hlo₂) fun b o hb _ hbC e => (hs₃.2 b hbC).trans (hk₂ b o hb e)
      refine wpAny_mono (wpAny_toks_of (s := { s' with heap := h₃, toks := tk₂ + 1 }) (Nat.le_succ_of_le hlo₂) (turn D C i v ys _ { s' with heap := h₃, toks := tk₂ + 1 } kD hDC nD nC hDf hCf hlt hP (Nat.le_succ_of_le hlo₂) (by simp) hn₃ hD₃ hst₃ hJ₃)) (fun ok s₄ h₄ => ?_) fun _ _ e => e.2.elim
      obtain ⟨hlo₄, h₄⟩ := h₄
      cases ok with
      | false => exact ⟨n + 1 - (i + 1), by omega, i + 1, ys, hlo₄, h₄, Nat.le_succ_of_le hyl, hlt, rfl⟩
      | true =>
        simp only [if_true] at h₄ ⊢
        refine wpAny_mono (wpAny_toks_of hlo₄ h₄) (fun y s₅ h₅ => ?_) fun _ _ e => e.2.elim
        obtain ⟨hlo₅, ⟨k₅, hD₅⟩, ⟨m₅, hn₅⟩, hst₅, _, hJ₅⟩ := h₅
        refine append_at (hsz := by show ys.toArray.size ≤ sizeLine; rw [List.size_toArray]; exact Nat.le_trans hyl (Nat.le_trans (Nat.le_of_lt hlt) hsz)) hD₅ fun h₆ hs₆ hD₆ => ?_
        refine ⟨n + 1 - (i + 1), by omega, i + 1, ys ++ [y], hlo₅, ⟨⟨k₅ + 1, by rw [hD₆]; simp⟩, ⟨m₅, hn₅.sameBut hs₆ (Ne.symm hDC)⟩, W.frame _ _ _ hst₅ fun b hb o e => hs₆.extBut b o (fun q => hDf (q ▸ hb)) e,
          stab D C (i + 1) (ys ++ [y]) s₅ h₆ s₅.toks hJ₅ hlo₅ fun b o _ hbD _ e => hs₆.extBut b o hbD e⟩, by rw [List.length_append, List.length_singleton]; omega, hlt, rfl⟩
    · have hin : i = n := by omega
      subst hin
      refine (WalkL.of (lo := lo) W).done _ _ _ hlo' hst' fun h₂ tk₂ hlo₂ hk₂ => ?_
      have hJ₂ := stab D C i ys s' h₂ tk₂ hJ' hlo₂ fun b o hb _ _ e => hk₂ b o hb e
      refine ⟨m', hn'.at' fun o e => hk₂ _ o hCw e, fun h₃ hs₃ => ?_⟩
      exact done D C ys _ kD nD hlo₂ ((hs₃.2 D hDC).trans (hk₂ _ _ hDw hD)) (stab D C i ys { s' with heap := h₂, toks := tk₂ } h₃ tk₂ hJ₂ hlo₂ fun b o _ _ hbC e => (hs₃.2 b hbC).trans e)
  exact codeAny_compStart_list (loop _ rfl) (W.self 0 _ _ _ hst₁ (loop _ rfl))
end
end Mine

namespace Mine
open Builtin

section
variable {prog : Program} {w : World} {A : Around} {s : Shared} {env : Env} {x : Str}

/-- the objects of av and l are as they were -/
noncomputable def Same (av : List Addr) (h h' : Heap) : Prop := ∀ a ∈ av, ∀ o, h.get? a = some o → h'.get? a = some o

/-- a comprehension over a list of fixed values -/
theorem list_comp {elt : Expr} {ifs : List Expr} {scope : Scope} {cl : List (Str × Addr)} {Q : Value → Shared → Prop} {l : Addr} {us : Array Value} {nu : Nat} (lo : Nat) (J : List Addr → Nat → List Value → Shared → Prop)
    (hh : A.handled = none) (hl : s.heap.get? l = some (listOf us nu)) (hn : us.size ≤ sizeLine) (hlo : lo ≤ s.toks)
    (j0 : ∀ av h' tk, (∀ a ∈ av, s.heap.objs.size ≤ a) → (∀ b o, s.heap.get? b = some o → h'.get? b = some o) → lo ≤ tk → J av 0 [] { s with heap := h', toks := tk })
    (stab : ∀ av i ys (s' : Shared) h' tk, (∀ a ∈ av, s.heap.objs.size ≤ a) → J av i ys s' → lo ≤ tk → (∀ b o, b ∉ av → s'.heap.get? b = some o → h'.get? b = some o) → J av i ys { s' with heap := h', toks := tk })
    (turn : ∀ av C i v ys m₁ (s₁ : Shared), (∀ a ∈ av, s.heap.objs.size ≤ a) → (∀ a ∈ av, a < s₁.heap.objs.size) → C ∈ av → us[i]? = some v → lo ≤ s₁.toks → m₁ x = some v → s₁.heap.Ns C m₁ → s₁.heap.get? l = some (listOf us nu) → J av i ys s₁ →
      wpAny (model prog w) A (testsOf ifs (compEnvC scope cl C env)) (fun ok s₃ => if ok = true then
          wpAny (model prog w) A (eval elt (compEnvC scope cl C env)) (fun y s₄ => Same (l :: av) s₁.heap s₄.heap ∧ J av (i + 1) (ys ++ [y]) s₄) (fun _ _ => False) s₃
        else Same (l :: av) s₁.heap s₃.heap ∧ J av (i + 1) ys s₃) (fun _ _ => False) s₁)
    (done : ∀ av D ys (s₁ : Shared) k, (∀ a ∈ av, s.heap.objs.size ≤ a) → D ∈ av → lo ≤ s₁.toks → s₁.heap.get? D = some (listOf ys.toArray k) → J av us.size ys s₁ → ys.length ≤ us.size → Q (.ref D) s₁) :
    wpAny (model prog w) A (pyIter (.ref l)) (CompG prog w A env x scope cl ifs elt Q) (fun _ _ => False) s := by
  have hl' : s.heap.IsList l us := ⟨_, hl, rfl, nu, rfl⟩
  refine wpAny_pyIter_list hl' ?_
  have hlI : l ≠ s.heap.objs.size := Nat.ne_of_lt (Heap.lt_size hl)
  have hnI : s.heap.get? s.heap.objs.size = none := Heap.get?_none_of_le (Nat.le_refl _)
  have up : ∀ b o, s.heap.get? b = some o → (s.heap.push { cls := .type "list_iterator", data := .fields #[.ref l, .int 0 0] }).get? b = some o := fun b o e => Heap.get?_push_of_some _ e
  have hI1 : (s.heap.push { cls := .type "list_iterator", data := .fields #[.ref l, .int 0 0] }).IsListIter s.heap.objs.size l 0 := ⟨_, Heap.get?_push_size _ rfl, rfl, rfl⟩
  have hsz1 : s.heap.objs.size < (s.heap.push { cls := .type "list_iterator", data := .fields #[.ref l, .int 0 0] }).objs.size := by rw [Heap.size_push]; exact Nat.lt_succ_self _
  generalize hH : s.heap.push { cls := .type "list_iterator", data := .fields #[.ref l, .int 0 0] } = H at *
  generalize hI : s.heap.objs.size = I at *
  refine ⟨lo, I, _, _, _, _, _, fun D C i ys s' => J [D, C, I] i ys s' ∧ ys.length ≤ i ∧ (∀ a ∈ [D, C, I], I ≤ a) ∧ s'.heap.get? l = some (listOf us nu), rfl, Walks.list hh I l hlI us, hlo, hn, ⟨hI1, hl'.at fun o e => up l o e⟩, ?_, ?_, ?_, ?_, ?_⟩
  · intro b hb
    rcases List.mem_cons.mp hb with rfl | hb
    · exact hsz1
    · rw [List.mem_singleton.mp hb]; exact Heap.lt_size (up _ _ hl)
  · intro D C h' tk nD nC hDC lD lC hD hC hk hlo'
    have hle : ∀ a ∈ [D, C, I], I ≤ a := by
      intro a ha
      simp only [List.mem_cons, List.not_mem_nil, or_false] at ha
      rcases ha with rfl | rfl | rfl
      · exact Nat.le_of_lt (Nat.lt_of_lt_of_le hsz1 lD)
      · exact Nat.le_of_lt (Nat.lt_of_lt_of_le hsz1 lC)
      · exact Nat.le_refl _
    refine ⟨j0 _ _ _ hle (fun b o e => hk b o (up b o e)) hlo', Nat.le_refl _, hle, hk _ _ (up _ _ hl)⟩
  · rintro D C i ys s' h' tk ⟨j, hy, hle, hll⟩ hlo' hk
    have hlav : ∀ a ∈ [D, C, I], l ≠ a := fun a ha q => Nat.lt_irrefl _ (Nat.lt_of_lt_of_le (hI ▸ Heap.lt_size hl : l < I) (q ▸ hle a ha))
    refine ⟨stab _ i ys s' h' tk hle j hlo' fun b o hb e => hk b o (fun q => hb (by simp [List.mem_singleton.mp q])) (fun q => hb (by simp [q])) (fun q => hb (by simp [q])) e, hy, hle, hk _ _ (fun q => hlav I (by simp) (List.mem_singleton.mp q)) (hlav D (by simp)) (hlav C (by simp)) hll⟩
  · rintro D C i v ys m₁ s₁ k hDC nD nC hDf hCf hi hP hlo' hm hns hD hst ⟨j, hy, hle, hll⟩
    obtain ⟨⟨oI, hoI, hcI, hdI⟩, hlI'⟩ := hst
    have hlt : ∀ a ∈ [D, C, I], a < s₁.heap.objs.size := by
      intro a ha
      simp only [List.mem_cons, List.not_mem_nil, or_false] at ha
      rcases ha with rfl | rfl | rfl
      · exact Heap.lt_size hD
      · exact hns.lt
      · exact Heap.lt_size hoI
    have fin : ∀ (h' : Heap), Same (l :: [D, C, I]) s₁.heap h' → h'.get? l = some (listOf us nu) ∧ h'.get? D = some (listOf ys.toArray k) ∧ h'.Ns C m₁ ∧ (h'.IsListIter I l (i + 1) ∧ h'.IsList l us) := fun h' sm =>
      ⟨sm l (by simp) _ hll, sm D (by simp) _ hD, hns.at' fun o e => sm C (by simp) o e, ⟨oI, sm I (by simp) _ hoI, hcI, hdI⟩, _, sm l (by simp) _ hll, rfl, nu, rfl⟩
    refine wpAny_mono (turn [D, C, I] C i v ys m₁ s₁ hle hlt (by simp) hP hlo' hm hns hll j) (fun ok s₃ h₃ => ?_) fun _ _ e => e
    cases ok with
    | false =>
      simp only [Bool.false_eq_true, if_false] at h₃ ⊢
      obtain ⟨f1, f2, f3, f4⟩ := fin _ h₃.1
      exact ⟨⟨k, f2⟩, ⟨m₁, f3⟩, f4, h₃.2, Nat.le_succ_of_le hy, hle, f1⟩
    | true =>
      simp only [if_true] at h₃ ⊢
      refine wpAny_mono h₃ (fun y s₄ h₄ => ?_) fun _ _ e => e
      obtain ⟨f1, f2, f3, f4⟩ := fin _ h₄.1
      exact ⟨⟨k, f2⟩, ⟨m₁, f3⟩, f4, hy, h₄.2, by rw [List.length_append, List.length_singleton]; omega, hle, f1⟩
  · rintro D C ys s₁ k nD hlo' hD ⟨j, hy, hle, hll⟩
    exact done [D, C, I] D ys s₁ k hle (by simp) hlo' hD j hy

theorem ldVarC {M : Model} {E : Value → Shared → Prop} {scope : Scope} {cl : List (Str × Addr)} {C : Addr} {h₀ : Heap} {m : Str → Option Value} {pos : Pos} {v : Value} {Q : Value → Shared → Prop} (F : Fr h₀ C s.heap m) (hv : m x = some v) (h : Q v s)
    (hk : scope.kind = .function := by rfl) (hl : (compEnvC scope cl C env).kindOf x = some .local := by rfl) (hd : (x == ("__debug__" : Str)) = false := by decide) :
    wpAny M A (eval (.Name x pos) (compEnvC scope cl C env)) Q E s := wpAny_Name (wpAny_loadName_local (env := compEnvC scope cl C env) hk hl F.ns hv h) hd
end
end Mine

namespace Mine
open Builtin Builtin.Str

section
variable {w : World} {mean : ExcName → Option Value} {mg mb : Str → Option Value} {A : Around} {R : Result → Shared → Prop} {s : Shared} {h : Heap} {E : Value → Shared → Prop} {g : Heap}

/-- the block of a set, as an element of another -/
noncomputable def memberOf (ls : List Str) : Str := txtOf ("#" :: ls.map commentLine)

theorem rstrip_len (x : Str) : (Txt.rstrip x).length ≤ x.length := by
  unfold Txt.rstrip
  rw [W.stripBy_eq]
  exact le_strSub _ _ _
theorem comment_len (x : Str) : (commentLine x).length ≤ x.length + 2 := by
  unfold commentLine
  have h1 := rstrip_len x
  split
  · have e : (("#" : Str)).length = 1 := by decide +kernel
    omega
  · rw [PySem.Str.length_append]
    have e : (("# " : Str)).length = 2 := by decide +kernel
    omega
theorem comment_nil : commentLine "" = "#" := by decide +kernel
theorem sum_map_le {α : Type} {f : α → Nat} {k : Nat} : ∀ {l : List α}, (∀ x ∈ l, f x ≤ k) → (l.map f).sum ≤ k * l.length
  | [], _ => by simp
  | a :: r, h => by
    have h1 := sum_map_le (l := r) fun x hx => h x (.tail _ hx)
    have h2 := h a (.head _)
    simp only [List.map_cons, List.sum_cons, List.length_cons, Nat.mul_succ]
    omega
theorem nl_join : ∀ (a : Str) (r : List Str), ("\n" : Str) ++ Txt.join "\n" (a :: r) = txtOf (a :: r) := by
  have key : ∀ (a : Str) (r : List Str), 10 :: (Txt.join "\n" (a :: r)).cps.toList = (txtOf (a :: r)).cps.toList := by
    intro a r
    show 10 :: (glued "\n" (a :: r)).cps.toList = _
    rw [StrLaws.glued_eq_join]
    induction r generalizing a with
    | nil => simp [PySem.Str.join, txtOf]
    | cons b r ih =>
      show 10 :: ((a ++ ("\n" : Str)) ++ PySem.Str.join "\n" (b :: r)).cps.toList = _
      have h1 := ih b
      simp only [PySem.Str.cps_append, Array.toList_append, nl_eq, txtOf, List.flatMap_cons] at h1 ⊢
      simp only [List.append_assoc, List.cons_append, List.nil_append] at h1 ⊢
      rw [h1]
  intro a r
  apply str_eq
  rw [PySem.Str.cps_append, Array.toList_append, nl_eq, ← key a r]
  rfl

set_option maxHeartbeats 2000000 in
theorem member_body (r : Room A 8) (S : St w mean mg mb s.heap) {l : Addr} {us : Array Value} {nu : Nat} {ls : List Str} (hl : s.heap.get? l = some (listOf us nu)) (hus : StrsAre us.toList ls)
    (hlen : ls.length ≤ 1000) (hsh : ∀ x ∈ ls, x.length ≤ 50)
    (h : ∀ s' t, Went [] s s' → R (.ok (.ret (.str (memberOf ls) t))) s') :
    codeAny (model prg w) A (.call (.ref 172) ⟨[.ref l], []⟩) R s := by
  have S' := S
  obtain ⟨X, T, GL⟩ := S
  have hr := r.depth
  refine' call_def (binds := [("lines", .ref l)]) ?k1 ?k2 ?k6 ?k7 ?k8 ?k9 ?kB ?_ ?c2 ?c3 ?c4 ?c5
  case k1 => assumption
  case k6 => k_is
  case k2 => exact Top.nolimit (by assumption)
  case k7 => k_is
  case k8 => omega
  case k9 => first | exact BindsTo.of_eq rfl | exact binds_K (by assumption) rfl (by k_is) rfl rfl rfl | exact binds_K (by assumption) rfl (by k_is) rfl rfl (by with_unfolding_all rfl) | exact binds_K (by assumption) rfl (by k_is) rfl rfl (by kernel_rfl)
  case kB => exact locs rfl
  case c2 => exact rfl
  case c3 => exact rfl
  case c4 => exact rfl
  case c5 => decide
  intro L h₁ F N
  walk1
  walk1
  walk1
  walk1
  walk1
  walk1
  walk1
  walk1
  walk1
  walk1
  walk1
  walk1
  walk1
  refine wpAny_call (comment_body (r.mono (by omega) : Room _ 4).deeper (S'.keeps fun b o e => F.keep b o e) (by decide) fun s₂ t₂ w₂ => ?_)
  have F₂ := frWent F w₂ (by simp) (by simp)
  have N₂ := newsWent (g := s.heap) (L := L) N w₂ (by simp)
  clear F N
  dsimp only
  walk1
  walk1
  refine comp_walk rfl (by decide) rfl (by decide) rfl ?_
  walk1
  rename_i I0 h₃ F₃ N₃ l1
  have e3 : ∀ b o, s.heap.get? b = some o → h₃.get? b = some o := fun b o e => F₃.keep b o e
  have W₃ : Went [] s { s₂ with heap := h₃ } := ⟨w₂.os, fun q => w₂.gens q, fun b o _ e => e3 b o e⟩
  have hI0 := (N₃ _ (.head _)).1
  have hI0s := (N₃ _ (.head _)).2.2
  dsimp only at hI0 hI0s
  have hul : us.size = ls.length := by have := strs_len hus; simpa using this
  refine list_comp (s := { s₂ with heap := h₃ }) 0 (fun av i ys s' => Went [] { s₂ with heap := h₃ } s' ∧ StrsAre ys ((ls.take i).map commentLine)) (show (A.deeper _).handled = none from r.hh) (e3 _ _ hl) (by rw [hul]; exact Nat.le_trans hlen (by decide)) (Nat.zero_le _) ?_ ?_ ?_ ?_
  · intro av h' tk hav hk _
    exact ⟨⟨rfl, fun q => q, fun b o _ e => hk b o e⟩, .nil⟩
  · rintro av i ys s' h' tk hav ⟨wt, hy⟩ _ hk
    refine ⟨⟨wt.os, wt.gens, fun b o hb e => hk b o (fun q => ?_) (wt.keep b o hb e)⟩, hy⟩
    exact absurd (Heap.lt_size e) (Nat.not_lt_of_le (hav b q))
  · rintro av C i v ys m₁ s₁ hav hlt hC hv _ hm hns hll ⟨wt, hy⟩
    obtain ⟨x, tx, rfl, hx⟩ := strs_at hus i v (by simpa using hv)
    have FC : Fr s.heap C s₁.heap m₁ := ⟨hns, fun b o e => wt.keep b o (by simp) (e3 b o e), Nat.le_trans (Nat.le_of_lt (Nat.lt_of_le_of_lt F₃.above F₃.ns.lt)) (hav C hC)⟩
    clear F₃ N₃
    refine wpAny_pure ?_
    simp only [if_true]
    walk1
    walk1
    walk1
    walk1
    walk1
    refine ldVarC FC hm ?_
    walk1
    walk1
    have hxl := hsh x (List.mem_of_getElem? hx)
    refine wpAny_call (comment_body (r.mono (by omega) : Room _ 4).deeper (S'.keeps fun b o e => FC.keep b o e) (Nat.le_trans hxl (by decide)) fun s₄ t₄ w₄ => ?_)
    refine ⟨fun a _ o e => w₄.keep a o (by simp) e, wt.trans w₄, ?_⟩
    rw [List.take_add_one, hx, List.map_append]
    exact strs_snoc hy
  · rintro av D ys s₁ k hav hD _ hDl ⟨wt, hy⟩ _
    have e1 : ls.take us.size = ls := by rw [hul, List.take_length]
    rw [e1] at hy
    have hDs : h₃.objs.size ≤ D := hav D hD
    have F₄ := frWent F₃ wt (by simp) (by simp)
    have N₄ := newsWent (g := s.heap) (L := L) N₃ wt (by simp)
    have hDn : s.heap.get? D = none := Heap.get?_none_of_le (Nat.le_trans (Nat.le_of_lt (Nat.lt_of_le_of_lt F₃.above F₃.ns.lt)) hDs)
    have N₅ : News s.heap L s₁.heap [(I0, listOf #[.str (commentLine "") t₂] 0), (D, listOf ys.toArray k)] := by
      intro p hp
      simp only [List.mem_cons, List.not_mem_nil, or_false] at hp
      rcases hp with rfl | rfl
      · exact N₄ _ (.head _)
      · exact ⟨hDl, Nat.ne_of_gt (Nat.lt_of_lt_of_le F₃.ns.lt hDs), hDn⟩
    clear F₃ N₃ N₄
    walk1
    k_steps
    rename_i hyy _ _ h₆ F₆ N₆
    have hcat : StrsAre (#[Value.str (commentLine "") t₂].toList ++ ys.toArray.toList).toArray.toList ("#" :: ls.map commentLine) := by
      rw [comment_nil]
      simpa using .cons _ _ hyy
    have hsum : ((("#" : Str) :: ls.map commentLine).map (·.length)).sum + (("#" : Str) :: ls.map commentLine).length * (("\n" : Str)).length ≤ 16777216 := by
      have e1 : (("#" : Str)).length = 1 := by decide +kernel
      have e2 : (("\n" : Str)).length = 1 := by decide +kernel
      have h1 : ((ls.map commentLine).map (·.length)).sum ≤ 52 * ls.length := by
        rw [List.map_map]
        exact sum_map_le fun x hx => Nat.le_trans (comment_len x) (Nat.add_le_add_right (hsh x hx) 2)
      simp only [List.map_cons, List.sum_cons, List.length_cons, e1, e2, List.length_map]
      omega
    refine join_list ⟨_, (N₆ _ (.head _)).1, rfl, _, rfl⟩ hcat hsum fun t' k' => ?_
    dsimp only
    have hJ : ("\n" : Str) ++ Txt.join "\n" (("#" : Str) :: ls.map commentLine) = memberOf ls := nl_join _ _
    have hJl : (Txt.join "\n" (("#" : Str) :: ls.map commentLine)).length ≤ 100000 := by
      have e1 : (("#" : Str)).length = 1 := by decide +kernel
      have e2 : (("\n" : Str)).length = 1 := by decide +kernel
      have h0 := congrArg Str.length hJ
      rw [memberOf, len_txt, PySem.Str.length_append] at h0
      simp only [List.map_cons, List.sum_cons, List.length_cons, e1, e2, List.length_map] at h0 hsum
      have h1 : ((ls.map commentLine).map (·.length)).sum ≤ 52 * ls.length := by
        rw [List.map_map]
        exact sum_map_le fun x hx => Nat.le_trans (comment_len x) (Nat.add_le_add_right (hsh x hx) 2)
      omega
    generalize Txt.join "\n" (("#" : Str) :: ls.map commentLine) = J at *
    k_steps
    rw [hJ]
    exact h _ _ ⟨wt.os.trans w₂.os, fun q => wt.gens (w₂.gens q), fun b o _ e => F₆.keep b o e⟩
end
end Mine

namespace Mine
open Builtin

section
variable {w : World} {mean : ExcName → Option Value} {mg mb : Str → Option Value} {A : Around} {R : Result → Shared → Prop} {s : Shared} {h : Heap} {E : Value → Shared → Prop} {g : Heap}

theorem ints_snoc {x : Int} {t : Tok} : ∀ {us : List Value} {ls : List Int}, IntsAre us ls → IntsAre (us ++ [.int x t]) (ls ++ [x])
  | _, _, .nil => .cons x t .nil
  | _, _, .cons y u r => .cons y u (ints_snoc r)

noncomputable def hashI (x : Str) : Int := hashes x

set_option maxHeartbeats 2000000 in
theorem depth_body (r : Room A 8) (S : St w mean mg mb s.heap) {l : Addr} {us : Array Value} {nu : Nat} {ls : List Str} (hl : s.heap.get? l = some (listOf us nu)) (hus : StrsAre us.toList ls)
    (hlen : ls.length ≤ 1000) (hsh : ∀ x ∈ ls, x.length ≤ 50)
    (h : ∀ s' M t, Went [] s s' → M ∈ (0 : Int) :: ls.map hashI → (∀ a ∈ (0 : Int) :: ls.map hashI, a ≤ M) → R (.ok (.ret (.int M t))) s') :
    codeAny (model prg w) A (.call (.ref 177) ⟨[.ref l], []⟩) R s := by
  have S' := S
  obtain ⟨X, T, GL⟩ := S
  have hr := r.depth
  refine' call_def (binds := [("lines", .ref l)]) ?k1 ?k2 ?k6 ?k7 ?k8 ?k9 ?kB ?_ ?c2 ?c3 ?c4 ?c5
  case k1 => assumption
  case k6 => k_is
  case k2 => exact Top.nolimit (by assumption)
  case k7 => k_is
  case k8 => omega
  case k9 => first | exact BindsTo.of_eq rfl | exact binds_K (by assumption) rfl (by k_is) rfl rfl rfl | exact binds_K (by assumption) rfl (by k_is) rfl rfl (by with_unfolding_all rfl) | exact binds_K (by assumption) rfl (by k_is) rfl rfl (by kernel_rfl)
  case kB => exact locs rfl
  case c2 => exact rfl
  case c3 => exact rfl
  case c4 => exact rfl
  case c5 => decide
  intro L h₁ F N
  walk1
  walk1
  walk1
  walk1
  walk1
  walk1
  walk1
  walk1
  walk1
  walk1
  walk1
  walk1
  walk1
  refine comp_walk rfl (by decide) rfl (by decide) rfl ?_
  walk1
  rename_i I0 h₃ F₃ N₃ l1
  have e3 : ∀ b o, s.heap.get? b = some o → h₃.get? b = some o := fun b o e => F₃.keep b o e
  have hI0 := (N₃ _ (.head _)).1
  have hI0s := (N₃ _ (.head _)).2.2
  dsimp only at hI0 hI0s
  have hul : us.size = ls.length := by have := strs_len hus; simpa using this
  refine list_comp (s := { s with heap := h₃, toks := tk + 1 }) 1 (fun av i ys s' => Went [] { s with heap := h₃, toks := tk + 1 } s' ∧ IntsAre ys ((ls.take i).map hashI)) (show (A.deeper _).handled = none from r.hh) (e3 _ _ hl) (by rw [hul]; exact Nat.le_trans hlen (by decide)) ?lo ?_ ?_ ?_ ?_
  case lo => exact Nat.succ_le_succ (Nat.zero_le _)
  · intro av h' tk hav hk _
    exact ⟨⟨rfl, fun q => q, fun b o _ e => hk b o e⟩, .nil⟩
  · rintro av i ys s' h' tk hav ⟨wt, hy⟩ _ hk
    refine ⟨⟨wt.os, wt.gens, fun b o hb e => hk b o (fun q => ?_) (wt.keep b o hb e)⟩, hy⟩
    exact absurd (Heap.lt_size e) (Nat.not_lt_of_le (hav b q))
  · rintro av C i v ys m₁ s₁ hav hlt hC hv hlo₁ hm hns hll ⟨wt, hy⟩
    obtain ⟨x, tx, rfl, hx⟩ := strs_at hus i v (by simpa using hv)
    have FC : Fr s.heap C s₁.heap m₁ := ⟨hns, fun b o e => wt.keep b o (by simp) (e3 b o e), Nat.le_trans (Nat.le_of_lt (Nat.lt_of_le_of_lt F₃.above F₃.ns.lt)) (hav C hC)⟩
    clear F₃ N₃
    refine wpAny_pure ?_
    simp only [if_true]
    walk1
    walk1
    walk1
    walk1
    walk1
    refine ldVarC FC hm ?_
    walk1
    walk1
    walk1
    walk1
    have hxl := hsh x (List.mem_of_getElem? hx)
    refine wpAny_call (count_of_body (s := { s₁ with toks := s₁.toks + 1 }) (r.mono (by omega) : Room _ 4).deeper (S'.keeps fun b o e => FC.keep b o e) (Nat.le_trans hxl (by decide)) hlo₁ (Nat.lt_succ_self _) fun s₄ t₄ w₄ => ?_)
    refine ⟨fun a _ o e => w₄.keep a o (by simp) e, wt.trans ⟨w₄.os, w₄.gens, w₄.keep⟩, ?_⟩
    rw [List.take_add_one, hx, List.map_append]
    exact ints_snoc hy
  · rintro av D ys s₁ k hav hD _ hDl ⟨wt, hy⟩ _
    have e1 : ls.take us.size = ls := by rw [hul, List.take_length]
    rw [e1] at hy
    have hDs : h₃.objs.size ≤ D := hav D hD
    have F₄ := frWent F₃ wt (by simp) (by simp)
    have N₄ := newsWent (g := s.heap) (L := L) N₃ wt (by simp)
    have hDn : s.heap.get? D = none := Heap.get?_none_of_le (Nat.le_trans (Nat.le_of_lt (Nat.lt_of_le_of_lt F₃.above F₃.ns.lt)) hDs)
    have N₅ : News s.heap L s₁.heap [(I0, listOf #[.int 0 tk] 0), (D, listOf ys.toArray k)] := by
      intro p hp
      simp only [List.mem_cons, List.not_mem_nil, or_false] at hp
      rcases hp with rfl | rfl
      · exact N₄ _ (.head _)
      · exact ⟨hDl, Nat.ne_of_gt (Nat.lt_of_lt_of_le F₃.ns.lt hDs), hDn⟩
    clear F₃ N₃ N₄
    walk1
    walk1
    rename_i D₂ ws h₆ F₆ N₆ hcat l2
    refine kso_max F₆ N₆ ⟨_, (N₆ _ (.head _)).1, rfl, _, rfl⟩ hcat (Nat.succ_pos _) (show (A.deeper _).handled = none from r.hh) fun h₇ M t tk' F₇ N₇ hM hle => ?_
    exact h _ _ _ ⟨wt.os, fun q => wt.gens q, fun b o _ e => F₇.keep b o e⟩ hM hle
end
end Mine

namespace Mine
open Builtin

section
variable {prog : Program} {w : World} {A : Around} {s : Shared} {env : Env} {E : Value → Shared → Prop}

/-- a set display of one str -/
theorem set_one {K : Frag} {e : PySem.Expr} {pos : Pos} {Q : Value → Shared → Prop} (X : K.In s.heap) (hc : kdsCode K env.code = true) (hp : kdsPlain e = true)
    (h : ∀ h' D, (∀ b o, s.heap.get? b = some o → h'.get? b = some o) → s.heap.get? D = none → D < h'.objs.size → wpAny (model prog w) A (eval e env) (fun v s₁ => ∃ x t, v = .str x t ∧ (∀ o, h'.get? D = some o → s₁.heap.get? D = some o) ∧
      (∀ h'', Heap.SameBut D s₁.heap h'' → IsSet w h'' D [x] → Q (.ref D) { s₁ with heap := h'', toks := s₁.toks + 1 })) E { s with heap := h' }) :
    wpAny (model prog w) A (eval (.Set [e] 0 pos) env) Q E s := by
  rw [arm_eval_Set]
  refine wpAny_bind (wpAny_standAt ?_)
  refine wpAny_bind (kds_main X hc fun b => ?_)
  have e1 : (starEach [e] env).map (fun (star, t) => (star, (do let v ← t; standAt pos; pure v : Sem Value))) = [(false, do let v ← eval e env; standAt pos; pure v)] := by
    rw [kds_star [e] (by simp [hp]), List.map_map]
    simp [arm_evalEach_cons, arm_evalEach_nil]
  rw [e1]
  unfold setDisplay
  dsimp only
  rw [if_neg (by simp [displayRoad])]
  refine wpAny_bind (newSet_any fun h₁ k₁ i₁ => ?_)
  have hDn : s.heap.get? s.heap.objs.size = none := Heap.get?_none_of_le (Nat.le_refl _)
  generalize s.heap.objs.size = D at *
  dsimp only
  refine wpAny_bind (wpAny_holding ?_)
  have hw := h h₁ D k₁ hDn (by obtain ⟨o, ho, _⟩ := i₁; exact Heap.lt_size ho)
  simp only [List.length_cons, List.length_nil, List.findIdx?_cons, List.findIdx?_nil, Option.map_none, Option.getD_none, Bool.false_eq_true, if_false, Nat.zero_add, List.take_succ_cons, List.take_zero, List.map_cons, List.map_nil, List.drop_succ_cons, List.drop_zero, gt_iff_lt, Nat.reduceLT, List.forIn_nil]
  refine wpAny_bind ?_
  unfold evalAll
  refine wpAny_bind (wpAny_bind (wpAny_mono hw (fun v s₂ q => ?_) fun _ _ x => x))
  refine wpAny_bind (wpAny_standAt (wpAny_pure ?_))
  obtain ⟨x, t, rfl, ks, fin⟩ := q
  unfold evalAll
  refine wpAny_bind (wpAny_holding (wpAny_pure (wpAny_pure ?_)))
  refine wpAny_bind (wpAny_holding ?_)
  simp only [List.forIn_cons, List.forIn_nil]
  refine wpAny_bind (wpAny_bind (wpAny_bind ?_))
  unfold setAdd
  refine wpAny_holding (wpAny_bind (wpAny_pyHash_str ?_))
  have i₂ : IsSet w s₂.heap D [] := i₁.at ks
  refine add_IsSet (s := { s₂ with toks := s₂.toks + 1 }) i₂ (by simp) fun h₃ sb i₃ => ?_
  refine wpAny_pure (wpAny_pure ?_)
  rw [if_neg (by simp [displayRoad])]
  refine wpAny_pure (wpAny_bind (wpAny_pure (wpAny_pure (wpAny_pure ?_))))
  exact fin h₃ sb (by simpa using i₃)
end
end Mine

namespace Mine
open Builtin Builtin.Str

/-- a str from the k-th sign on -/
noncomputable def fromAt (k : Nat) (x : Str) : Str := ⟨(x.cps.toList.drop k).toArray⟩
noncomputable def toAt (k : Nat) (x : Str) : Str := ⟨(x.cps.toList.take k).toArray⟩

theorem slice_from_at (x : Str) (k : Nat) : Txt.slice x (some (k : Int)) none = fromAt k x := by
  have hx : x.length = x.cps.toList.length := by show x.cps.size = _; simp
  by_cases h : k ≤ x.length
  · have e := slice_closes_fromL (x := x) (i := (k : Int)) (b := (x.length : Int)) (by omega) (by omega) rfl
    rw [eq_of_beq e, fromAt]
    have e2 : ((x.length : Int) - (k : Int)).toNat = (x.cps.toList.drop k).length := by rw [List.length_drop]; omega
    rw [e2, Int.toNat_natCast, List.take_length]
  · rw [slice_from_beyond (by omega), fromAt, List.drop_eq_nil_of_le (by omega)]
theorem slice_to_at (x : Str) (k : Nat) : Txt.slice x none (some (k : Int)) = toAt k x := by
  have hx : x.length = x.cps.toList.length := by show x.cps.size = _; simp
  by_cases h : k ≤ x.length
  · have e := slice_closes_toL (x := x) (j := (k : Int)) (by omega) (by omega)
    rw [eq_of_beq e, toAt]
    simp
  · have e0 := slice_closes_toL (x := x) (j := (x.length : Int)) (by omega) (by omega)
    rw [slice_to_beyond (by omega), eq_of_beq e0, toAt]
    have e1 : (x.cps.toList).take k = x.cps.toList := List.take_of_length_le (by omega)
    have e2 : ((x.length : Int) - 0).toNat = x.cps.toList.length := by omega
    rw [e1, e2, Int.toNat_zero, List.drop_zero, List.take_length]
section
variable {prog : Program} {w : World} {A : Around} {s : Shared} {env : Env} {E : Value → Shared → Prop}
theorem sub_slice {n : Str} {p p' : Pos} {lo hi : Option PySem.Expr} {x : Str} {t : Tok} {a : Addr} {l u : Option (Int × Tok)} {Q : Value → Shared → Prop} (hs : s.heap.IsSlice a l u none) (hl : x.length ≤ sizeLine)
    (h : ∀ t' k, Q (.str (Txt.slice x (l.map (·.1)) (u.map (·.1))) t') { s with toks := k }) : wpAny (model prog w) A (subscriptTail (.Name n p) (.Slice lo hi none p') (.str x t) (.ref a)) Q E s :=
  subscriptTail_builtin (typeIs_str _ _ _) F.slot_str_getitem.lookup (wpAny_getItem_str_slice (l := l) (u := u) (st := none) hs rfl
    (post_val_or_str ⟨Nat.le_trans (Txt.slice_le x _ _) hl, fun t' k => h t' k⟩))
end
end Mine

namespace Mine
open Builtin

section
variable {w : World} {mean : ExcName → Option Value} {mg mb : Str → Option Value} {A : Around} {R : Result → Shared → Prop} {s : Shared} {h : Heap} {E : Value → Shared → Prop} {g : Heap}

theorem nodup_len {α : Type} [DecidableEq α] : ∀ {ss bs : List α}, ss.Nodup → (∀ x ∈ ss, x ∈ bs) → ss.length ≤ bs.length
  | [], _, _, _ => Nat.zero_le _
  | a :: r, bs, hn, hs => by
    have ha := hs a (.head _)
    have h1 := List.length_erase_of_mem ha
    have h2 : 0 < bs.length := List.length_pos_of_mem ha
    have h3 := nodup_len (ss := r) (bs := bs.erase a) (List.nodup_cons.mp hn).2 fun x hx => (List.mem_erase_of_ne fun q => (List.nodup_cons.mp hn).1 (by rw [← q]; exact hx)).mpr (hs x (.tail _ hx))
    rw [List.length_cons]
    omega
theorem IsSet.len {a : Addr} {ss bs : List Str} (i : IsSet w h a ss) (hm : ∀ x, x ∈ ss ↔ x ∈ bs) : ss.length ≤ bs.length := by
  obtain ⟨o, _, es, ep, t, _, _, _, hnd, _⟩ := i
  exact nodup_len hnd fun x hx => (hm x).mp hx

/-- lines that a walk can carry -/
structure Fit (k : Nat) (ls : List Str) : Prop where
  len : ls.length ≤ 500
  short : ∀ x ∈ ls, x.length ≤ 50
  ok : ∀ x ∈ ls, PyData.strOk x = true
  few : (blocksOf ls).length ≤ k
theorem Fit.sum {k : Nat} {ls : List Str} (f : Fit k ls) : (ls.map (·.length)).sum + ls.length ≤ 50000 := by
  have h1 : (ls.map (·.length)).sum ≤ 50 * ls.length := sum_map_le f.short
  have := f.len
  omega

noncomputable def cutTwo (ls : List Str) : List Str := (ls.filter fun l => decide (l ≠ ("#" : Str))).map (fromAt 2)
noncomputable def InDeed (d : Nat) (m t : List Str) (x : Str) : Prop := match d with
  | 0 => (x ∈ blocksOf m ∧ x ∉ blocksOf t) ∨ (x ∉ blocksOf m ∧ x ∈ blocksOf t)
  | 1 => x ∈ blocksOf m ∨ x ∈ blocksOf t
  | 2 => x ∈ blocksOf m ∧ x ∈ blocksOf t
  | 3 => x ∈ blocksOf m ∧ x ∉ blocksOf t
  | 4 => x ∈ blocksOf (cutTwo m)
  | _ => x ∈ blocksOf m ∨ ((∀ l ∈ t, hashes l < 4) ∧ x = memberOf t)

theorem tests_one {prog : Program} {env : Env} {c : PySem.Expr} {Q : Bool → Shared → Prop} (h : wpAny (model prog w) A (isTrue c env (eval c env)) Q E s) : wpAny (model prog w) A (testsOf [c] env) Q E s := by
  unfold testsOf
  rw [List.forIn_cons]
  rw [if_pos rfl]
  refine wpAny_bind (wpAny_bind (wpAny_mono h (fun ok s₁ h₁ => wpAny_pure ?_) fun _ _ x => x))
  exact wpAny_pure h₁
theorem cut_snoc {m : List Str} {i : Nat} {x : Str} (hx : m[i]? = some x) : cutTwo (m.take (i + 1)) = if x = "#" then cutTwo (m.take i) else cutTwo (m.take i) ++ [fromAt 2 x] := by
  unfold cutTwo
  rw [List.take_add_one, hx, List.filter_append, List.map_append]
  split
  · rename_i h; subst h; simp
  · rename_i h; simp [h]
theorem freshOf {L B : Addr} {mm : Str → Option Value} (F : Fr g L h mm) (e : h.get? B = none) : g.get? B = none ∧ B ≠ L := by
  constructor
  · cases e1 : g.get? B with
    | none => rfl
    | some o => rw [F.keep B o e1] at e; cases e
  · rintro rfl
    obtain ⟨o, es, ep, ho, _⟩ := F.ns
    rw [ho] at e; cases e

set_option maxHeartbeats 4000000 in
theorem deed_body (r : Room A 12) (S : St w mean mg mb s.heap) {d : Nat} {td : Tok} (hd5 : d < 6) {l₁ l₂ : Addr} {us₁ us₂ : Array Value} {n₁ n₂ : Nat} {m t : List Str} (hl₁ : s.heap.get? l₁ = some (listOf us₁ n₁)) (hus₁ : StrsAre us₁.toList m)
    (hl₂ : s.heap.get? l₂ = some (listOf us₂ n₂)) (hus₂ : StrsAre us₂.toList t) (f₁ : Fit 29 m) (f₂ : Fit 29 t) (f₃ : d = 4 → Fit 60 (cutTwo m))
    (h : ∀ s' B bs, Went [] s s' → s.heap.get? B = none → IsSet w s'.heap B bs → (∀ x, x ∈ bs ↔ InDeed d m t x) → R (.ok (.ret (.ref B))) s') :
    codeAny (model prg w) A (.call (.ref 182) ⟨[.int d td, .ref l₁, .ref l₂], []⟩) R s := by
  have S' := S
  obtain ⟨X, T, GL⟩ := S
  have hr := r.depth
  refine' call_def (binds := [("deed", .int d td), ("mine", .ref l₁), ("theirs", .ref l₂)]) ?k1 ?k2 ?k6 ?k7 ?k8 ?k9 ?kB ?_ ?c2 ?c3 ?c4 ?c5
  case k1 => assumption
  case k6 => k_is
  case k2 => exact Top.nolimit (by assumption)
  case k7 => k_is
  case k8 => omega
  case k9 => first | exact BindsTo.of_eq rfl | exact binds_K (by assumption) rfl (by k_is) rfl rfl rfl | exact binds_K (by assumption) rfl (by k_is) rfl rfl (by with_unfolding_all rfl) | exact binds_K (by assumption) rfl (by k_is) rfl rfl (by kernel_rfl)
  case kB => exact locs rfl
  case c2 => exact rfl
  case c3 => exact rfl
  case c4 => exact rfl
  case c5 => decide
  intro L h₁ F N
  walk1
  walk1
  walk1
  walk1
  walk1
  walk1
  walk1
  walk1
  walk1
  walk1
  refine wpAny_call (blocks_body (r.mono (by omega) : Room _ 9).deeper (S'.keeps fun b o e => F.keep b o e) (F.keep _ _ hl₁) hus₁ f₁.sum f₁.ok (Nat.le_trans f₁.few (by decide)) fun s₂ B₁ bs₁ w₂ hB₁ i₁ m₁ => ?_)
  have F₂ := frWent F w₂ (by simp) (by simp)
  have hB₁n := (freshOf F hB₁).1
  have hB₁L := (freshOf F hB₁).2
  obtain ⟨oB₁, hoB₁, hsB₁⟩ := i₁
  have N₂ : News s.heap L s₂.heap [(B₁, oB₁)] := fun p hp => by
    rw [List.mem_singleton.mp hp]
    exact ⟨hoB₁, hB₁L, hB₁n⟩
  clear F N
  dsimp only
  walk1
  walk1
  walk1
  walk1
  walk1
  walk1
  walk1
  walk1
  walk1
  walk1
  walk1
  rename_i h₃ F₃ N₃
  refine wpAny_call (blocks_body (r.mono (by omega) : Room _ 9).deeper (S'.keeps fun b o e => F₃.keep b o e) (F₃.keep _ _ hl₂) hus₂ f₂.sum f₂.ok (Nat.le_trans f₂.few (by decide)) fun s₄ B₂ bs₂ w₄ hB₂ i₂ m₂ => ?_)
  have F₄ := frWent F₃ w₄ (by simp) (by simp)
  have N₄ := newsWent (g := s.heap) (L := L) N₃ w₄ (by simp)
  have hB₂n := (freshOf F₃ hB₂).1
  have hB₂L := (freshOf F₃ hB₂).2
  have hoB₁' := (N₃ _ (.head _)).1
  have hB₁₂ : B₁ ≠ B₂ := fun q => by
    dsimp only at hoB₁' hB₂
    rw [← q, hoB₁'] at hB₂; cases hB₂
  obtain ⟨oB₂, hoB₂, hsB₂⟩ := i₂
  have N₅ : News s.heap L s₄.heap [(B₁, oB₁), (B₂, oB₂)] := by
    intro p hp
    simp only [List.mem_cons, List.not_mem_nil, or_false] at hp
    rcases hp with rfl | rfl
    · exact N₄ _ (.head _)
    · exact ⟨hoB₂, hB₂L, hB₂n⟩
  have os₄ : s₄.os = s.os := w₄.os.trans w₂.os
  have gs₄ : AllBare s.gens → AllBare s₄.gens := fun q => w₄.gens (w₂.gens q)
  clear F₃ N₃ N₄
  dsimp only
  walk1
  walk1
  rename_i h₅ F₅ N₅
  have hd6 : d = 0 ∨ d = 1 ∨ d = 2 ∨ d = 3 ∨ d = 4 ∨ d = 5 := by omega
  have fin : ∀ tk s' ss', Went [B₁] { s₄ with heap := h₅, toks := tk } s' → IsSet w s'.heap B₁ ss' → (∀ x, x ∈ ss' ↔ InDeed d m t x) → R (.ok (.ret (.ref B₁))) s' := fun tk s' ss' w' i' m' =>
    h s' B₁ ss' ⟨w'.os.trans os₄, fun q => w'.gens (gs₄ q), fun b o _ e => w'.keep b o (fun q => by rw [List.mem_singleton.mp q, hB₁n] at e; cases e) (F₅.keep b o e)⟩ hB₁n i' m'
  have kg₅ : s.heap.StaysIn h₅ := fun b o e => F₅.keep b o e
  have iB₁ : IsSet w h₅ B₁ bs₁ := ⟨oB₁, (N₅ _ (.head _)).1, hsB₁⟩
  have iB₂ : IsSet w h₅ B₂ bs₂ := ⟨oB₂, (N₅ _ (.tail _ (.head _))).1, hsB₂⟩
  have len₁ : bs₁.length ≤ 29 := Nat.le_trans (iB₁.len m₁) f₁.few
  have len₂ : bs₂.length ≤ 29 := Nat.le_trans (iB₂.len m₂) f₂.few
  have r₃ : Room (A.deeper (envOf (Str.ofString "_law_deed") default L 182 (.ref 181))) 3 := (r.mono (by omega) : Room _ 4).deeper
  rcases hd6 with rfl | rfl | rfl | rfl | rfl | rfl
  · k_steps
    exact wpAny_call (ixor_body (r.mono (by omega) : Room _ 4).deeper S' kg₅ hB₁n hB₁₂ iB₁ iB₂ (by omega) fun s' ss' w' i' m' => fin _ s' ss' w' i' fun x => by rw [m' x, m₁, m₂]; rfl)
  · k_steps
    exact wpAny_call (ior_body (r.mono (by omega) : Room _ 4).deeper S' kg₅ hB₁n hB₁₂ iB₁ iB₂ (by omega) fun s' ss' w' i' m' => fin _ s' ss' w' i' fun x => by rw [m' x, m₁, m₂]; rfl)
  · k_steps
    exact wpAny_call (iand_body (r.mono (by omega) : Room _ 4).deeper S' kg₅ hB₁n hB₁₂ iB₁ iB₂ fun s' ss' w' i' m' => fin _ s' ss' w' i' fun x => by rw [m' x, m₁, m₂]; rfl)
  · k_steps
    exact wpAny_call (isub_body (r.mono (by omega) : Room _ 4).deeper S' kg₅ hB₁n hB₁₂ iB₁ iB₂ fun s' ss' w' i' m' => fin _ s' ss' w' i' fun x => by rw [m' x, m₁, m₂]; rfl)
  · skip
    walk1
    walk1
    walk1
    walk1
    walk1
    walk1
    walk1
    walk1
    walk1
    walk1
    walk1
    walk1
    walk1
    walk1
    walk1
    walk1
    walk1
    walk1
    walk1
    walk1
    walk1
    walk1
    walk1
    walk1
    walk1
    walk1
    walk1
    walk1
    walk1
    walk1
    walk1
    walk1
    walk1
    walk1
    walk1
    walk1
    walk1
    walk1
    walk1
    walk1
    walk1
    walk1
    walk1
    walk1
    walk1
    walk1
    walk1
    walk1
    walk1
    walk1
    walk1
    walk1
    walk1
    walk1
    walk1
    refine comp_walk rfl (by decide) rfl (by decide) rfl ?_
    walk1
    have hul : us₁.size = m.length := by have := strs_len hus₁; simpa using this
    refine list_comp 0 (fun av i ys s' => Went [] { s₄ with heap := h₅, toks := tk } s' ∧ StrsAre ys (cutTwo (m.take i))) (show (A.deeper _).handled = none from r.hh) (kg₅ _ _ hl₁) (by rw [hul]; exact Nat.le_trans f₁.len (by decide)) (Nat.zero_le _) ?_ ?_ ?_ ?_
    · intro av h' tk hav hk _
      exact ⟨⟨rfl, fun q => q, fun b o _ e => hk b o e⟩, .nil⟩
    · rintro av i ys s' h' tk hav ⟨wt, hy⟩ _ hk
      refine ⟨⟨wt.os, wt.gens, fun b o hb e => hk b o (fun q => ?_) (wt.keep b o hb e)⟩, hy⟩
      exact absurd (Heap.lt_size e) (Nat.not_lt_of_le (hav b q))
    · rintro av C i v ys m₁ s₁ hav hlt hC hv hlo₁ hm hns hll ⟨wt, hy⟩
      obtain ⟨x, tx, rfl, hx⟩ := strs_at hus₁ i v (by simpa using hv)
      have FC : Fr s.heap C s₁.heap m₁ := ⟨hns, fun b o e => wt.keep b o (by simp) (F₅.keep b o e), Nat.le_trans (Nat.le_of_lt (Nat.lt_of_le_of_lt F₅.above F₅.ns.lt)) (hav C hC)⟩
      have hxl := f₁.short x (List.mem_of_getElem? hx)
      clear F₅ N₅
      refine tests_one ?_
      walk1
      refine ldVarC FC hm ?_
      walk1
      walk1
      walk1
      by_cases hxe : x = "#"
      · rw [if_neg (by simp [hxe])]
        refine ⟨fun a _ o e => e, ⟨wt.os, wt.gens, wt.keep⟩, ?_⟩
        rw [cut_snoc hx, if_pos hxe]
        exact hy
      · rw [if_pos (by simpa using hxe)]
        have FC' : Fr s.heap C ({ s₁ with toks := s₁.toks + 1 } : Shared).heap m₁ := FC
        walk1
        refine ldVarC FC hm ?_
        walk1
        walk1
        walk1
        walk1
        walk1
        dsimp only
        refine sub_slice (l := some (2, s₁.toks + 1)) (u := none) ⟨_, Heap.get?_push_size _ rfl, rfl, rfl⟩ (Nat.le_trans hxl (by decide)) fun t' k' => ?_
        have up : ∀ b o, s₁.heap.get? b = some o → (s₁.heap.push { cls := .type "slice", data := .fields #[.int 2 (s₁.toks + 1), .none, .none] }).get? b = some o := fun b o e => Heap.get?_push_of_some _ e
        refine ⟨fun a _ o e => up a o e, ⟨wt.os, wt.gens, fun b o hb e => up b o (wt.keep b o hb e)⟩, ?_⟩
        rw [cut_snoc hx, if_neg hxe]
        have e2 : (Option.map (fun x => x.1) (some ((2 : Int), s₁.toks + 1))) = some ((2 : Nat) : Int) := rfl
        rw [e2, Option.map_none, slice_from_at]
        exact strs_snoc hy
    · rintro av D ys s₆ k hav hD _ hDl ⟨wt, hy⟩ _
      have e1 : m.take us₁.size = m := by rw [hul, List.take_length]
      rw [e1] at hy
      have F₆ := frWent F₅ wt (by simp) (by simp)
      have N₆ := newsWent (g := s.heap) (L := L) N₅ wt (by simp)
      clear F₅ N₅
      walk1
      walk1
      refine wpAny_call (blocks_body (r.mono (by omega) : Room _ 9).deeper (S'.keeps fun b o e => F₆.keep b o e) hDl (by simpa using hy) (f₃ rfl).sum (f₃ rfl).ok (Nat.le_trans (f₃ rfl).few (by decide)) fun s₇ B₃ bs₃ w₇ hB₃ i₃ m₃ => ?_)
      exact h s₇ B₃ bs₃ ⟨w₇.os.trans (wt.os.trans os₄), fun q => w₇.gens (wt.gens (gs₄ q)), fun b o _ e => w₇.keep b o (by simp) (F₆.keep b o e)⟩ (freshOf F₆ hB₃).1 i₃ fun x => m₃ x
  · k_steps
    refine wpAny_call (depth_body (r.mono (by omega) : Room _ 9).deeper (S'.keeps kg₅) (kg₅ _ _ hl₂) hus₂ (Nat.le_trans f₂.len (by decide)) f₂.short fun s₆ M tM w₆ hM hle => ?_)
    have F₆ := frWent F₅ w₆ (by simp) (by simp)
    have N₆ := newsWent (g := s.heap) (L := L) N₅ w₆ (by simp)
    have hall : (∀ l ∈ t, hashes l < 4) ↔ M < 4 := by
      constructor
      · intro q
        rcases List.mem_cons.mp hM with rfl | hM
        · decide
        · obtain ⟨l, hl, rfl⟩ := List.mem_map.mp hM
          have := q l hl
          show ((hashes l : Nat) : Int) < 4
          omega
      · intro q l hl
        have := hle (hashI l) (.tail _ (List.mem_map_of_mem hl))
        have e : hashI l = ((hashes l : Nat) : Int) := rfl
        omega
    clear F₅ N₅
    dsimp only
    walk1
    walk1
    walk1
    walk1
    · rename_i hlt
      walk1
      walk1
      walk1
      walk1
      walk1
      walk1
      walk1
      walk1
      walk1
      refine set_one (K := hd.heap_39 w.params) (X.keeps F₆.keep) (by kernel_rfl) rfl fun h₇ D k₇ hDn hDlt => ?_
      have F₇ := Fr.keeps F₆ k₇
      have N₇ := News.grown N₆ k₇
      have hDn' := freshOf F₆ hDn
      have hoB₁' := (N₆ _ (.head _)).1
      have hB₁D : B₁ ≠ D := fun q => by rw [← q] at hDn; dsimp only at hoB₁'; rw [hoB₁'] at hDn; cases hDn
      clear F₆ N₆
      walk1
      walk1
      walk1
      walk1
      walk1
      walk1
      walk1
      refine wpAny_call (member_body (r.mono (by omega) : Room _ 9).deeper (S'.keeps fun b o e => F₇.keep b o e) (F₇.keep _ _ hl₂) hus₂ (Nat.le_trans f₂.len (by decide)) f₂.short fun s₈ t₈ w₈ => ?_)
      refine ⟨_, _, rfl, fun o e => w₈.keep D o (by simp) e, fun h₉ sb₉ i₉ => ?_⟩
      have F₉ : Fr s.heap L h₉ _ := (frWent F₇ w₈ (by simp) (by simp)).change sb₉ hDn'.2 hDn'.1
      obtain ⟨oD, hoD, hsD⟩ := id i₉
      have hB₁9 : h₉.get? B₁ = some oB₁ := (sb₉.2 B₁ hB₁D).trans (w₈.keep _ _ (by simp) (N₇ _ (.head _)).1)
      have N₉ : News s.heap L h₉ [(B₁, oB₁), (D, oD)] := by
        intro p hp
        simp only [List.mem_cons, List.not_mem_nil, or_false] at hp
        rcases hp with rfl | rfl
        · exact ⟨hB₁9, hB₁L, hB₁n⟩
        · exact ⟨hoD, hDn'.2, hDn'.1⟩
      have W₉ : ∀ tk' : Nat, Went [] s₆ { s₈ with heap := h₉, toks := tk' } := fun tk' => ⟨w₈.os, fun q => w₈.gens q, fun b o hb e => (sb₉.2 b (fun q => by rw [q, hDn] at e; cases e)).trans (w₈.keep b o hb (k₇ b o e))⟩
      clear F₇ N₇
      walk1
      walk1
      refine wpAny_call (ior_body (r.mono (by omega) : Room _ 4).deeper S' (fun b o e => F₉.keep b o e) hB₁n hB₁D ⟨oB₁, hB₁9, hsB₁⟩ i₉ (by simp only [List.length_singleton]; omega) fun s' ss' w' i' m' => fin _ s' ss' ((w₆.mono (by simp)).trans (((W₉ _).mono (by simp)).trans w')) i' fun x => ?_)
      rw [m' x, m₁, List.mem_singleton]
      exact ⟨fun q => q.imp_right fun q => ⟨hall.mpr hlt, q⟩, fun q => q.imp_right fun q => q.2⟩
    · rename_i hlt
      k_steps
      refine fin _ _ bs₁ ((w₆.mono (by simp)).trans ⟨rfl, fun q => q, fun _ _ _ e => e⟩) (iB₁.at fun o e => w₆.keep _ _ (by simp) e) fun x => ?_
      rw [m₁]
      exact ⟨fun q => .inl q, fun q => q.elim id fun q => absurd (hall.mp q.1) hlt⟩
end
end Mine

namespace Mine
open Builtin

theorem halves {A B c d X Y Z : Nat} (p : 2 * (A + B) + (c + d) = X) (q : 2 * A + c = Y) (r : 2 * B + d = Z) : X = Y + Z := by omega
theorem or_low (x y : Nat) : (x ||| y) % 2 = (x ^^^ y) % 2 + (x &&& y) % 2 := by
  rw [show (x ||| y) % 2 = x % 2 ||| y % 2 from Nat.or_mod_two_pow (n := 1), show (x ^^^ y) % 2 = x % 2 ^^^ y % 2 from Nat.xor_mod_two_pow (n := 1), show (x &&& y) % 2 = x % 2 &&& y % 2 from Nat.and_mod_two_pow (n := 1)]
  rcases Nat.mod_two_eq_zero_or_one x with h | h <;> rcases Nat.mod_two_eq_zero_or_one y with h' | h' <;> rw [h, h'] <;> rfl
theorem or_split (n : Nat) : ∀ x y : Nat, x + y ≤ n → (x ||| y) = (x ^^^ y) + (x &&& y) := by
  induction n with
  | zero => intro x y h; have : x = 0 := by omega
            have : y = 0 := by omega
            subst_vars; rfl
  | succ n ih =>
    intro x y h
    by_cases h0 : x = 0 ∧ y = 0
    · rw [h0.1, h0.2]; rfl
    have i := ih (x / 2) (y / 2) (by omega)
    have p1 := Nat.div_add_mod (x ||| y) 2
    have p2 := Nat.div_add_mod (x ^^^ y) 2
    have p3 := Nat.div_add_mod (x &&& y) 2
    rw [Nat.or_div_two, i, or_low] at p1
    rw [Nat.xor_div_two] at p2
    rw [Nat.and_div_two] at p3
    exact halves p1 p2 p3

theorem bitAnd_nat (x y : Nat) : bitAnd (x : Int) (y : Int) = ((x &&& y : Nat) : Int) := by
  unfold bitAnd
  simp
theorem bitOr_nat (x y : Nat) : bitOr (x : Int) (y : Int) = ((x ||| y : Nat) : Int) := by
  have e : ∀ z : Nat, (bitNot (bitNot (z : Int))) = z := by intro z; unfold bitNot; omega
  have n : ∀ z : Nat, ¬ (0 ≤ bitNot (z : Int)) := by intro z; unfold bitNot; omega
  unfold bitOr bitAnd
  rw [decide_eq_false (n x), decide_eq_false (n y)]
  dsimp only
  rw [e x, e y, e]
  simp
theorem bitXor_nat (x y : Nat) : bitXor (x : Int) (y : Int) = ((x ^^^ y : Nat) : Int) := by
  show bitOr (x : Int) y - bitAnd (x : Int) y = _
  rw [bitOr_nat, bitAnd_nat, or_split _ x y (Nat.le_refl _)]
  omega
end Mine

namespace Mine
open Builtin

section
variable {w : World} {mean : ExcName → Option Value} {mg mb : Str → Option Value} {A : Around} {R : Result → Shared → Prop} {s : Shared} {h : Heap} {E : Value → Shared → Prop} {g : Heap}

/-- the union of all elements of a number -/
noncomputable def unionTo (m k : Nat) : Nat := (List.range k).foldl (fun acc p => if m / 2 ^ p % 2 = 1 then acc ||| p else acc) 0
noncomputable def numOf (d m t : Nat) : Nat := match d with
  | 0 => m ^^^ t
  | 1 => m ||| t
  | 2 => m &&& t
  | 3 => m - (m &&& t)
  | 4 => unionTo m 16
  | _ => if t < 16 then m ||| 2 ^ t else m
theorem unionTo_succ (m k : Nat) : unionTo m (k + 1) = if m / 2 ^ k % 2 = 1 then unionTo m k ||| k else unionTo m k := by
  unfold unionTo
  rw [List.range_succ, List.foldl_append]
  rfl

theorem bit_test (m i : Nat) : bitAnd ((m : Int).fdiv (2 ^ (i : Int).toNat)) 1 = ((m / 2 ^ i % 2 : Nat) : Int) := by
  have e1 : ((2 : Int) ^ (i : Int).toNat) = ((2 ^ i : Nat) : Int) := by simp
  have e2 : (m : Int).fdiv ((2 ^ i : Nat) : Int) = ((m / 2 ^ i : Nat) : Int) := by
    rw [Int.fdiv_eq_ediv_of_nonneg _ (Int.natCast_nonneg _)]
    simp
  rw [e1, e2, show (1 : Int) = ((1 : Nat) : Int) from rfl, bitAnd_nat, Nat.and_one_is_mod]

/-- the frame's map in the loop -/
noncomputable def numMap (d m t : Int) (td tm tt : Tok) (c : Int) (tc : Tok) (vi : Option Value) : Str → Option Value := fun y =>
  if y = ("place" : Str) then vi else if y = ("total" : Str) then some (.int c tc) else List.lookup y ([((("deed" : Str)), Value.int d td), (("mine" : Str), Value.int m tm), (("theirs" : Str), Value.int t tt)] : List (Str × Value)).reverse

set_option maxHeartbeats 4000000 in
theorem number_body (r : Room A 3) (S : St w mean mg mb s.heap) {d mine theirs : Nat} {td tm tt : Tok} (hd5 : d < 6) (hm : mine < 65536) (ht : theirs < 65536)
    (h : ∀ s' t, Went [] s s' → R (.ok (.ret (.int (numOf d mine theirs : Nat) t))) s') :
    codeAny (model prg w) A (.call (.ref 189) ⟨[.int d td, .int mine tm, .int theirs tt], []⟩) R s := by
  have S' := S
  obtain ⟨X, T, GL⟩ := S
  have hr := r.depth
  refine' call_def (binds := [("deed", .int d td), ("mine", .int mine tm), ("theirs", .int theirs tt)]) ?k1 ?k2 ?k6 ?k7 ?k8 ?k9 ?kB ?_ ?c2 ?c3 ?c4 ?c5
  case k1 => assumption
  case k6 => k_is
  case k2 => exact Top.nolimit (by assumption)
  case k7 => k_is
  case k8 => omega
  case k9 => first | exact BindsTo.of_eq rfl | exact binds_K (by assumption) rfl (by k_is) rfl rfl rfl | exact binds_K (by assumption) rfl (by k_is) rfl rfl (by with_unfolding_all rfl) | exact binds_K (by assumption) rfl (by k_is) rfl rfl (by kernel_rfl)
  case kB => exact locs rfl
  case c2 => exact rfl
  case c3 => exact rfl
  case c4 => exact rfl
  case c5 => decide
  intro L h₁ F N
  have hd6 : d = 0 ∨ d = 1 ∨ d = 2 ∨ d = 3 ∨ d = 4 ∨ d = 5 := by omega
  have fin : ∀ tk t n, n = (numOf d mine theirs : Nat) → R (.ok (.ret (.int (n : Int) t))) { s with heap := h₁, toks := tk } := fun tk t n e => by
    rw [e]
    exact h _ t ⟨rfl, fun q => q, fun b o _ e => F.keep b o e⟩
  rcases hd6 with rfl | rfl | rfl | rfl | rfl | rfl
  · k_steps
    rw [bitXor_nat]
    exact fin _ _ _ rfl
  · k_steps
    rw [bitOr_nat]
    exact fin _ _ _ rfl
  · k_steps
    rw [bitAnd_nat]
    exact fin _ _ _ rfl
  · k_steps
    rw [bitAnd_nat]
    have e : (mine : Int) - ((mine &&& theirs : Nat) : Int) = ((mine - (mine &&& theirs) : Nat) : Int) := by
      have := Nat.and_le_left (n := mine) (m := theirs)
      omega
    rw [e]
    exact fin _ _ _ rfl
  · skip
    walk1
    walk1
    walk1
    walk1
    walk1
    walk1
    walk1
    walk1
    walk1
    walk1
    walk1
    walk1
    walk1
    walk1
    walk1
    walk1
    walk1
    walk1
    walk1
    walk1
    walk1
    walk1
    walk1
    walk1
    walk1
    walk1
    walk1
    walk1
    walk1
    walk1
    walk1
    walk1
    walk1
    walk1
    walk1
    walk1
    walk1
    walk1
    walk1
    walk1
    walk1
    walk1
    walk1
    walk1
    walk1
    walk1
    walk1
    walk1
    walk1
    walk1
    walk1
    walk1
    walk1
    refine wpAny_execs_cons ?_
    refine for_walk rfl rfl ?_
    walk1
    walk1
    walk1
    walk1
    walk1
    walk1
    walk1
    rename_i h₂ F₂ N₂ h₃ tk₃ t₁ u₁ v₁ hrg F₃ N₃ k₃
    refine wpAny_pyIter_range hrg (by decide) ?_
    dsimp only
    have hLs : L < h₃.objs.size := F₃.ns.lt
    have hIL : L ≠ h₃.objs.size := Nat.ne_of_lt hLs
    have hIn : s.heap.get? h₃.objs.size = none := Heap.get?_none_of_le (Nat.le_of_lt (Nat.lt_of_le_of_lt F₃.above hLs))
    have hLn : s.heap.get? L = none := Heap.get?_none_of_le F₃.above
    refine ⟨0, h₃.objs.size, _, _, _, _, _, _, fun i m s' => ∃ c tc vi, m = numMap (4 : Nat) mine theirs td tm tt c tc vi ∧ Went [] s s' ∧ c = (unionTo mine i : Nat), rfl, WalkL.of (Walks.range (show (A.deeper _).handled = none from r.hh) h₃.objs.size 0 1 16), Nat.zero_le _,
      (fun hm => hIL (List.mem_singleton.mp hm)), Heap.get?_push_size _ rfl, F₃.ns.push _, ⟨(0 : Int), tk, none, ?_, ⟨rfl, fun q => q, fun b o' _ e => Heap.get?_push_of_some _ (F₃.keep b o' e)⟩, rfl⟩, ?_, ?_, ?_⟩
    · funext y
      unfold numMap
      by_cases h1 : y = ("place" : Str)
      · subst h1; rfl
      · rw [if_neg h1]
    · rintro i m₁ m₂ s' h' tk₄ ⟨c, tc, vi, rfl, wt, hc⟩ hm k _
      have hL' : ∀ b, (∃ o, s.heap.get? b = some o) → b ≠ L := fun b ⟨o, e⟩ q => by rw [q, hLn] at e; cases e
      refine ⟨c, tc, m₂ "place", ?_, ⟨wt.os, wt.gens, fun b o' hb e => k b o' (fun q => by rw [List.mem_singleton.mp q, hIn] at e; cases e) (hL' b ⟨_, e⟩) (wt.keep b o' hb e)⟩, hc⟩
      rcases hm with rfl | ⟨v, rfl⟩
      · rfl
      · funext y
        unfold numMap
        by_cases h1 : y = ("place" : Str)
        · subst h1; rfl
        · simp [h1]
    · rintro i v m₁ s₁ hi ⟨tv, rfl⟩ hlo₁ hm hn' ⟨c, tc, vi, rfl, wt, hc⟩ hst
      have hvi : vi = some (.int (0 + (i : Int) * 1) tv) := hm
      subst hvi
      have F₄ : Fr s.heap L s₁.heap _ := ⟨hn', fun b o e => wt.keep b o (by simp) e, F₃.above⟩
      have N₄ : News s.heap L s₁.heap [(h₃.objs.size, { cls := .type "range_iterator", dict := none, data := .fields #[rawInt (0 + ((i + 1 : Nat) : Int) * 1), rawInt (((16 : Nat) : Int) - ((i + 1 : Nat) : Int)), rawInt 1], slots := #[] })] := by
        intro p hp
        rw [List.mem_singleton.mp hp]
        exact ⟨hst, Ne.symm hIL, hIn⟩
      unfold numMap at F₄
      have ei : (0 + (i : Int) * 1) = i := by omega
      rw [ei] at F₄
      clear F₂ N₂ F₃ N₃
      subst hc
      have hb := bit_test mine i
      k_steps
      · rename_i hbit h₅ F₅ N₅
        have hb1 : mine / 2 ^ i % 2 = 1 := by rw [hb] at hbit; omega
        refine TurnTo.next _ F₅.ns ⟨bitOr (unionTo mine i : Nat) (i : Nat), tk, some (.int i tv), ?_, ⟨wt.os, wt.gens, fun b o _ e => F₅.keep b o e⟩, ?_⟩ (N₅ _ (.head _)).1
        rotate_left
        · rw [unionTo_succ, if_pos hb1, ← bitOr_nat]
        · funext y
          unfold numMap
          by_cases h1 : y = ("place" : Str)
          · subst h1; rfl
          · by_cases h2 : y = ("total" : Str)
            · subst h2; rfl
            · simp [h1, h2]
      · rename_i hbit
        have hb1 : ¬ mine / 2 ^ i % 2 = 1 := by rw [hb] at hbit; omega
        refine TurnTo.next _ F₄.ns ⟨_, tc, some (.int i tv), rfl, ⟨wt.os, wt.gens, fun b o _ e => F₄.keep b o e⟩, ?_⟩ (N₄ _ (.head _)).1
        rw [unionTo_succ, if_neg hb1]
    · rintro m₁ s₁ hlo₁ hn' ⟨c, tc, vi, rfl, wt, hc⟩
      have F₄ : Fr s.heap L s₁.heap _ := ⟨hn', fun b o e => wt.keep b o (by simp) e, F₃.above⟩
      have N₄ : News s.heap L s₁.heap [] := fun p hp => by cases hp
      unfold numMap at F₄
      clear F₂ N₂ F₃ N₃
      subst hc
      k_steps
      exact h _ tc ⟨wt.os, wt.gens, fun b o _ e => F₄.keep b o e⟩
  · k_steps
    · rename_i hlt
      have e : (1 : Int) * 2 ^ (theirs : Int).toNat = ((2 ^ theirs : Nat) : Int) := by simp
      rw [e, bitOr_nat]
      exact fin _ _ _ (by show _ = if theirs < 16 then _ else _; rw [if_pos (by omega)])
    · rename_i hlt
      exact fin _ _ _ (by show _ = if theirs < 16 then _ else _; rw [if_neg (by omega)])
end
end Mine

namespace Mine
open Builtin Spec

noncomputable def leS (a b : Str) : Prop := ltCps b.cps.toList a.cps.toList = false
theorem leS_iff (a b : Str) : leS a b ↔ a.cps.toList ≤ b.cps.toList := by
  unfold leS
  rw [ltCps_eq, decide_eq_false_iff_not, List.not_lt]
theorem leS_trans {a b c : Str} (h1 : leS a b) (h2 : leS b c) : leS a c := by
  rw [leS_iff] at *
  exact List.le_trans h1 h2
theorem leS_antisymm {a b : Str} (h1 : leS a b) (h2 : leS b a) : a = b := by
  rw [leS_iff] at *
  exact str_eq (List.le_antisymm h1 h2)
theorem rising_pairwise : ∀ (p : Str) (l : List Str), risingS p l = true → (p :: l).Pairwise leS
  | p, [], _ => by simp
  | p, x :: r, h => by
    have h' : (!ltCps x.cps.toList p.cps.toList && risingS x r) = true := h
    rw [Bool.and_eq_true] at h'
    have ih := rising_pairwise x r h'.2
    have hpx : leS p x := by simpa [leS] using h'.1
    refine List.pairwise_cons.mpr ⟨fun y hy => ?_, ih⟩
    rcases List.mem_cons.mp hy with rfl | hy
    · exact hpx
    · exact leS_trans hpx (List.rel_of_pairwise_cons ih hy)
theorem sorted_pairwise : ∀ (l : List Str), sortedS l = true → l.Pairwise leS
  | [], _ => .nil
  | x :: r, h => rising_pairwise x r h
theorem sorted_uniq {ls ms : List Str} (p : ls.Perm ms) (h1 : sortedS ls = true) (h2 : sortedS ms = true) : ls = ms :=
  List.Perm.eq_of_pairwise (le := leS) (fun _ _ _ _ a b => leS_antisymm a b) (sorted_pairwise _ h1) (sorted_pairwise _ h2) p
noncomputable def leB (a b : Str) : Bool := !ltCps b.cps.toList a.cps.toList
noncomputable def sortS (ls : List Str) : List Str := ls.mergeSort leB
theorem leB_iff (a b : Str) : leB a b = true ↔ leS a b := by unfold leB leS; simp
theorem sortS_sorted (ls : List Str) : sortedS (sortS ls) = true := by
  refine sortedS_of_pairwise _ ?_
  have h := List.pairwise_mergeSort (le := leB) (fun a b c h1 h2 => (leB_iff _ _).mpr (leS_trans ((leB_iff _ _).mp h1) ((leB_iff _ _).mp h2))) (fun a b => by
    have := List.le_total a.cps.toList b.cps.toList
    rw [Bool.or_eq_true, leB_iff, leB_iff, leS_iff, leS_iff]
    exact this) ls
  exact h.imp fun {a b} q => (leB_iff a b).mp q
theorem sortS_eq {ls ms : List Str} (p : ls.Perm ms) (h : sortedS ls = true) : ls = sortS ms :=
  sorted_uniq (p.trans (List.mergeSort_perm ms leB).symm) h (sortS_sorted ms)
end Mine

namespace Mine
open Builtin

section
variable {w : World} {mean : ExcName → Option Value} {mg mb : Str → Option Value} {A : Around} {R : Result → Shared → Prop} {s : Shared} {h : Heap} {E : Value → Shared → Prop} {g : Heap}

/-- the rows of the places below k -/
noncomputable def rowsTo (o : Nat → Str → Str) (n : Nat) (lead : Str) (k : Nat) : List Str := ((List.range k).filter fun p => decide (n / 2 ^ p % 2 = 1)).map fun p => ("\n" : Str) ++ lead ++ "#" ++ o p (lead ++ "# ")
noncomputable def towerK : Nat → Nat
  | 0 => 0
  | f + 1 => 2 ^ towerK f
noncomputable def outF : Nat → Nat → Str → Str
  | 0, _, _ => ""
  | f + 1, n, lead => Txt.join "" (sortS (rowsTo (outF f) n lead (towerK (f + 1))))

theorem rowsTo_succ (o : Nat → Str → Str) (n : Nat) (lead : Str) (k : Nat) : rowsTo o n lead (k + 1) = if n / 2 ^ k % 2 = 1 then rowsTo o n lead k ++ [("\n" : Str) ++ lead ++ "#" ++ o k (lead ++ "# ")] else rowsTo o n lead k := by
  unfold rowsTo
  rw [List.range_succ, List.filter_append, List.map_append]
  split
  · rename_i h; simp [h]
  · rename_i h; simp [h]
theorem rowsTo_len (o : Nat → Str → Str) (n : Nat) (lead : Str) (k : Nat) : (rowsTo o n lead k).length ≤ k := by
  unfold rowsTo
  rw [List.length_map]
  exact Nat.le_trans (List.length_filter_le _ _) (by simp)
theorem rowsTo_stop (o : Nat → Str → Str) (n : Nat) (lead : Str) (k : Nat) (hk : n / 2 ^ k = 0) : ∀ j, rowsTo o n lead (k + j) = rowsTo o n lead k
  | 0 => rfl
  | j + 1 => by
    have e : n / 2 ^ (k + j) = 0 := by
      rw [Nat.pow_add, ← Nat.div_div_eq_div_mul, hk, Nat.zero_div]
    rw [← Nat.add_assoc, rowsTo_succ, e, if_neg (by decide), rowsTo_stop o n lead k hk j]

/-- what the contract of _law_outline says at number p -/
noncomputable def OutC (w : World) (mean : ExcName → Option Value) (mg mb : Str → Option Value) (rm ll : Nat) (o : Nat → Str → Str) (p : Nat) : Prop :=
  ∀ (A : Around) (R : Result → Shared → Prop) (s : Shared) (lead : Str) (t1 t2 : Tok), Room A rm → St w mean mg mb s.heap → lead.length ≤ ll →
    (∀ h' tk t, (∀ b o, s.heap.get? b = some o → h'.get? b = some o) → R (.ok (.ret (.str (o p lead) t))) { s with heap := h', toks := tk }) →
    codeAny (model prg w) A (.call (.ref 196) ⟨[.int p t1, .str lead t2], []⟩) R s

/-- the frame's map in the loop -/
noncomputable def outMap (num : Int) (tn : Tok) (lead : Str) (tl : Tok) (D : Addr) (pl : Int) (tp : Tok) : Str → Option Value := fun y =>
  if y = ("number" : Str) then some (.int num tn) else if y = ("place" : Str) then some (.int pl tp) else if y = ("blocks" : Str) then some (.ref D) else if y = ("lead" : Str) then some (.str lead tl) else none

theorem outMap_next {num num' pl pl' : Int} {tn tn' tp tp' tl : Tok} {lead : Str} {D : Addr} :
    (fun y => if y = ("place" : Str) then some (Value.int pl' tp') else if y = ("number" : Str) then some (.int num' tn') else if y = ("number" : Str) then some (.int num tn) else if y = ("place" : Str) then some (.int pl tp) else if y = ("blocks" : Str) then some (.ref D) else if y = ("lead" : Str) then some (.str lead tl) else none) = outMap num' tn' lead tl D pl' tp' := by
  funext y
  unfold outMap
  by_cases h1 : y = ("place" : Str)
  · subst h1; rfl
  · by_cases h2 : y = ("number" : Str)
    · subst h2; rfl
    · simp only [h1, h2, if_false]

set_option maxHeartbeats 4000000 in
theorem outline_step {rm ll k n M : Nat} {o : Nat → Str → Str} (hrec : ∀ p, p < k → OutC w mean mg mb rm (ll + 2) o p) (hn : n < 2 ^ k) (hk : k ≤ 16) (hll : ll ≤ 20) (hM : ∀ p lead, p < k → lead.length ≤ ll + 2 → (o p lead).length ≤ M) (hM2 : M ≤ 10000) :
    OutC w mean mg mb (rm + 2) ll (fun n lead => Txt.join "" (sortS (rowsTo o n lead k))) n := by
  intro A R s lead t1 t2 r S hl h
  have S' := S
  obtain ⟨X, T, GL⟩ := S
  have hr := r.depth
  refine' call_def (binds := [("number", .int n t1), ("lead", .str lead t2)]) ?k1 ?k2 ?k6 ?k7 ?k8 ?k9 ?kB ?_ ?c2 ?c3 ?c4 ?c5
  case k1 => assumption
  case k6 => k_is
  case k2 => exact Top.nolimit (by assumption)
  case k7 => k_is
  case k8 => omega
  case k9 => first | exact BindsTo.of_eq rfl | exact binds_K (by assumption) rfl (by k_is) rfl rfl rfl | exact binds_K (by assumption) rfl (by k_is) rfl rfl (by with_unfolding_all rfl) | exact binds_K (by assumption) rfl (by k_is) rfl rfl (by kernel_rfl)
  case kB => exact locs rfl
  case c2 => exact rfl
  case c3 => exact rfl
  case c4 => exact rfl
  case c5 => decide
  intro L h₁ F N
  walk1
  walk1
  walk1
  walk1
  walk1
  walk1
  walk1
  walk1
  walk1
  walk1
  walk1
  walk1
  walk1
  rename_i D h₂ l1 h₃ h₄ F₄ N₄
  refine While_inv (fun cnt m₁ news₁ => ∃ (i : Nat) (bs : Array Value) (nb : Nat) (tn tp : Tok), cnt = k + 1 - i ∧ i ≤ k ∧ m₁ = outMap ((n / 2 ^ i : Nat) : Int) tn lead t2 D (i : Nat) tp ∧ news₁ = [(D, listOf bs nb)] ∧ StrsAre bs.toList (rowsTo o n lead i)) (n₀ := k + 1) F₄ N₄ ⟨0, #[], 0, t1, tk, rfl, Nat.zero_le _, ?_, rfl, .nil⟩ ?_
  · funext y
    unfold outMap
    by_cases h1 : y = ("place" : Str)
    · subst h1; rfl
    · by_cases h2 : y = ("number" : Str)
      · subst h2; simp; rfl
      · by_cases h3 : y = ("blocks" : Str)
        · subst h3; rfl
        · by_cases h4 : y = ("lead" : Str)
          · subst h4; rfl
          · rw [if_neg h1, if_neg h3, if_neg h2, if_neg h1, if_neg h3, if_neg h4]
            have e1 : (y == Str.ofString "lead") = false := by simpa using h4
            have e2 : (y == Str.ofString "number") = false := by simpa using h2
            show List.lookup y [(Str.ofString "lead", Value.str lead t2), (Str.ofString "number", Value.int (↑n) t1)] = none
            simp only [List.lookup, e1, e2]
  · rintro cnt m₁ news₁ h₅ tk₅ F₅ N₅ ⟨i, bs, nb, tn, tp, rfl, hik, rfl, rfl, hbs⟩
    clear F₄ N₄
    have hbl : bs.size ≤ 16 := by
      have h1 := strs_len hbs
      have h2 := rowsTo_len o n lead i
      simp at h1
      omega
    unfold outMap at F₅
    walk1
    walk1
    walk1
    walk1
    walk1
    walk1
    · rename_i hpos
      have hik2 : i < k := by
        refine Nat.lt_of_not_le fun q => ?_
        have h1 : n / 2 ^ i = 0 := Nat.div_eq_of_lt (Nat.lt_of_lt_of_le hn (Nat.pow_le_pow_right (by decide) q))
        rw [h1] at hpos
        exact absurd hpos (by decide)
      have hdiv : ((n / 2 ^ i : Nat) : Int).fdiv 2 = ((n / 2 ^ (i + 1) : Nat) : Int) := by
        rw [Int.fdiv_eq_ediv_of_nonneg _ (by decide), Nat.pow_succ, ← Nat.div_div_eq_div_mul]
        generalize n / 2 ^ i = q
        omega
      have hmod : ((n / 2 ^ i : Nat) : Int).fmod 2 = ((n / 2 ^ i % 2 : Nat) : Int) := by
        rw [Int.fmod_eq_emod_of_nonneg _ (by decide)]
        generalize n / 2 ^ i = q
        omega
      have hpl : (i : Int) + 1 = ((i + 1 : Nat) : Int) := by omega
      k_steps
      · rename_i hbit _ _ _ _ _ _ _ _ hlen2
        have e2 : (("# " : Str)).length = 2 := by decide +kernel
        refine wpAny_call (hrec i hik2 _ _ _ _ _ _ (r.mono (by omega) : Room A (rm + 1)).deeper (S'.keeps fun b o e => F₅.keep b o e) (by omega) fun h₇ tk₇ t₇ k₇ => ?_)
        have F₇ := Fr.keeps F₅ k₇
        have N₇ := News.grown N₅ k₇
        have hot := hM i (lead ++ "# ") hik2 (by omega)
        have hrow : rowsTo o n lead (i + 1) = rowsTo o n lead i ++ [("\n" : Str) ++ lead ++ "#" ++ o i (lead ++ "# ")] := by
          rw [rowsTo_succ, if_pos (by rw [hmod] at hbit; omega)]
        generalize o i (lead ++ "# ") = ot at hot hrow ⊢
        clear F₅ N₅
        dsimp only
        k_steps
        rename_i h₈ F₈ N₈
        rw [outMap_next, hdiv, hpl] at F₈
        refine WhileStep.intro F₈ N₈ (n' := k + 1 - (i + 1)) (by omega) ⟨i + 1, _, _, _, _, rfl, hik2, rfl, rfl, ?_⟩
        rw [Array.toList_push, hrow]
        exact strs_snoc hbs
      · rename_i hbit h₈ _ F₈ N₈
        rw [outMap_next, hdiv, hpl] at F₈
        refine WhileStep.intro F₈ N₈ (n' := k + 1 - (i + 1)) (by omega) ⟨i + 1, _, _, _, _, rfl, hik2, rfl, rfl, ?_⟩
        rw [rowsTo_succ, if_neg (by rw [hmod] at hbit; omega)]
        exact hbs
    · rename_i hpos
      have hz : n / 2 ^ i = 0 := by
        generalize n / 2 ^ i = q at hpos ⊢
        omega
      have hrows : rowsTo o n lead i = rowsTo o n lead k := by
        have := rowsTo_stop o n lead i hz (k - i)
        rw [Nat.add_sub_of_le hik] at this
        exact this.symm
      k_steps
      refine sorted_N_str F₅ N₅ (vs := bs.toList) ⟨_, (N₅ _ (.head _)).1, rfl, nb, by simp⟩ hbs (by simp; omega) fun h₆ vs₆ ss₆ e₆ F₆ N₆ hS₆ hp₆ hs₆ => ?_
      have hss : ss₆ = sortS (rowsTo o n lead k) := by rw [sortS_eq hp₆ hs₆, hrows]
      have hD6 := (N₆ _ (.head _)).1
      clear F₅ N₅
      dsimp only at N₆ hD6 ⊢
      walk1
      have hlong : ∀ x ∈ ss₆, x.length ≤ 10100 := by
        intro x hx
        rw [hp₆.mem_iff] at hx
        obtain ⟨p, hp, rfl⟩ := List.mem_map.mp hx
        have hp2 : p < i := List.mem_range.mp (List.mem_filter.mp hp).1
        have e1 : (("\n" : Str)).length = 1 := by decide +kernel
        have e2 : (("#" : Str)).length = 1 := by decide +kernel
        have e3 : (("# " : Str)).length = 2 := by decide +kernel
        have hot := hM p (lead ++ "# ") (by omega) (by rw [PySem.Str.length_append]; omega)
        rw [PySem.Str.length_append, PySem.Str.length_append, PySem.Str.length_append]
        omega
      have hlen6 : ss₆.length ≤ 16 := by
        rw [hp₆.length_eq]
        exact Nat.le_trans (rowsTo_len o n lead i) (by omega)
      have hsum : (ss₆.map (·.length)).sum + ss₆.length * (("" : Str)).length ≤ 16777216 := by
        have e0 : (("" : Str)).length = 0 := by decide +kernel
        have h1 : (ss₆.map (·.length)).sum ≤ 10100 * ss₆.length := sum_map_le hlong
        rw [e0]
        omega
      refine join_list ⟨_, hD6, rfl, _, rfl⟩ hS₆ hsum fun t' k' => ?_
      rw [hss]
      exact h h₆ k' t' fun b o e => F₆.keep b o e
end
end Mine

namespace Mine
open Builtin

section
variable {w : World} {mean : ExcName → Option Value} {mg mb : Str → Option Value}

theorem join_len (ls : List Str) : (Txt.join "" ls).length = (ls.map (·.length)).sum := by
  have h := congrArg List.length (join_empty ls)
  have e : ∀ x : Str, x.cps.toList.length = x.length := fun x => by show _ = x.cps.size; simp
  rw [e] at h
  rw [h, List.length_flatMap]
  congr 1
noncomputable def outB : Nat → Nat
  | 0 => 0
  | f + 1 => towerK (f + 1) * (24 + outB f)
theorem outF_len : ∀ (f n : Nat) (lead : Str), lead.length + 2 * f ≤ 22 → (outF f n lead).length ≤ outB f
  | 0, _, _, _ => by show (("" : Str)).length ≤ 0; decide +kernel
  | f + 1, n, lead, hl => by
    show (Txt.join "" (sortS (rowsTo (outF f) n lead (towerK (f + 1))))).length ≤ _
    rw [join_len]
    have hp : (sortS (rowsTo (outF f) n lead (towerK (f + 1)))).Perm (rowsTo (outF f) n lead (towerK (f + 1))) := List.mergeSort_perm _ _
    have h1 : ((sortS (rowsTo (outF f) n lead (towerK (f + 1)))).map (·.length)).sum ≤ (24 + outB f) * (sortS (rowsTo (outF f) n lead (towerK (f + 1)))).length := by
      refine sum_map_le fun x hx => ?_
      rw [hp.mem_iff] at hx
      obtain ⟨p, _, rfl⟩ := List.mem_map.mp hx
      have e1 : (("\n" : Str)).length = 1 := by decide +kernel
      have e2 : (("#" : Str)).length = 1 := by decide +kernel
      have e3 : (("# " : Str)).length = 2 := by decide +kernel
      have ih := outF_len f p (lead ++ "# ") (by rw [PySem.Str.length_append]; omega)
      rw [PySem.Str.length_append, PySem.Str.length_append, PySem.Str.length_append]
      omega
    rw [hp.length_eq] at h1
    have h2 := rowsTo_len (outF f) n lead (towerK (f + 1))
    calc _ ≤ (24 + outB f) * (rowsTo (outF f) n lead (towerK (f + 1))).length := h1
      _ ≤ (24 + outB f) * towerK (f + 1) := Nat.mul_le_mul_left _ h2
      _ = outB (f + 1) := by rw [Nat.mul_comm]; rfl

theorem out_all : ∀ (f : Nat), f ≤ 4 → ∀ (ll : Nat), ll + 2 * f ≤ 20 → ∀ n, n < 2 ^ towerK f → OutC w mean mg mb (2 * f + 4) ll (outF f) n
  | 0, _, ll, hll, n, hn => by
    have h := outline_step (w := w) (mean := mean) (mg := mg) (mb := mb) (rm := 2) (ll := ll) (k := 0) (n := n) (M := 0) (o := fun _ _ => "") (fun p hp => absurd hp (Nat.not_lt_zero _)) hn (by decide) (by omega) (fun p _ hp => absurd hp (Nat.not_lt_zero _)) (by decide)
    intro A R s lead t1 t2 r S hl hh
    have e : Txt.join "" (sortS (rowsTo (fun _ _ => ("" : Str)) n lead 0)) = ("" : Str) := by
      have e1 : sortS (rowsTo (fun _ _ => ("" : Str)) n lead 0) = [] := by simp [rowsTo, sortS]
      rw [e1]
      decide +kernel
    refine h A R s lead t1 t2 r S hl fun h' tk t k => ?_
    dsimp only
    rw [e]
    exact hh h' tk t k
  | f + 1, hf, ll, hll, n, hn => by
    have hk : towerK (f + 1) ≤ 16 := by
      have : f = 0 ∨ f = 1 ∨ f = 2 ∨ f = 3 := by omega
      rcases this with rfl | rfl | rfl | rfl <;> decide
    have hB : outB f ≤ 10000 := by
      have : f = 0 ∨ f = 1 ∨ f = 2 ∨ f = 3 := by omega
      rcases this with rfl | rfl | rfl | rfl <;> decide
    exact outline_step (rm := 2 * f + 4) (M := outB f) (o := outF f) (fun p hp => out_all f (by omega) (ll + 2) (by omega) p hp) hn hk (by omega) (fun p lead hp hl => outF_len f p lead (by omega)) hB
end
end Mine

namespace Mine
open Builtin

section
variable {prog : Program} {w : World} {A : Around} {s : Shared} {h : Heap} {E : Value → Shared → Prop} {D : Addr} {us : Array Value} {n : Nat} {v : Value} {t : Tok} {i : Nat}

theorem fit63 {i : Nat} (hi : i < 1000000) : (i : Int) < 2 ^ 63 := by
  have h1 : (1000000 : Int) < 2 ^ 63 := by decide
  have h2 : (i : Int) < 1000000 := Int.ofNat_lt.mpr hi
  exact Int.lt_trans h2 h1
theorem sub_at {value slice : PySem.Expr} {Q : Value → Shared → Prop} (hl : s.heap.IsList D us) (hi : i < 1000000) (hv : us[i]? = some v) (h : Q v s)
    (hs : subscripted slice false (.ref D) (.int (i : Nat) t) = operate [.ref D, .int (i : Nat) t] (getItem (.ref D) (.int (i : Nat) t)) := by with_unfolding_all rfl) (hg : ∀ r, letTemporaryGo value (.ref D) r = pure () := by intro _; with_unfolding_all rfl) :
    wpAny (model prog w) A (subscriptTail value slice (.ref D) (.int (i : Nat) t)) Q E s :=
  subscriptTail_builtin hl.typeIs slot_list_getitem.lookup (wpAny_getItem_list hl (Int.natCast_nonneg _) (fit63 hi) hv h) hs hg
theorem setItem_at {Q : Unit → Shared → Prop} (hl : s.heap.IsList D us) (hi : i < us.size) (hsz : us.size ≤ 100000)
    (hQ : ∀ h', Heap.SameBut D s.heap h' → h'.IsList D (us.setIfInBounds i v) → Q () { s with heap := h' }) : wpAny (model prog w) A (setItem (.ref D) (.int (i : Nat) t) v) Q E s :=
  wpAny_setItem_list hl (Int.natCast_nonneg _) (fit63 (by omega)) (Int.ofNat_lt.mpr hi) fun h' a b => hQ h' b a

/-- all that stands above a frame's ground, but mu -/
theorem olds_ex {g h : Heap} {L : Addr} {m : Str → Option Value} (F : Fr g L h m) (mu : List Addr) :
    ∃ rest : List (Addr × Obj), News g L h rest ∧ (∀ p ∈ rest, p.1 ∉ mu) ∧ ∀ h', News g L h' rest → (∀ b o, g.get? b = some o → h'.get? b = some o) → ∀ b o, b ≠ L → b ∉ mu → h.get? b = some o → h'.get? b = some o := by
  have key : ∀ p, p ∈ ((List.range h.objs.size).filterMap fun b => if b = L ∨ b ∈ mu ∨ (g.get? b).isSome then none else (h.get? b).map fun o => (b, o)) ↔ p.1 ≠ L ∧ p.1 ∉ mu ∧ g.get? p.1 = none ∧ h.get? p.1 = some p.2 := by
    intro p
    rw [List.mem_filterMap]
    constructor
    · rintro ⟨b, _, hb⟩
      by_cases c : b = L ∨ b ∈ mu ∨ (g.get? b).isSome
      · rw [if_pos c] at hb; cases hb
      · rw [if_neg c] at hb
        obtain ⟨o, ho, rfl⟩ := Option.map_eq_some_iff.mp hb
        refine ⟨fun q => c (.inl q), fun q => c (.inr (.inl q)), ?_, ho⟩
        cases q : g.get? b with
        | none => rfl
        | some o => exact absurd (.inr (.inr (by rw [q]; rfl))) c
    · rintro ⟨h1, h2, h3, h4⟩
      refine ⟨p.1, List.mem_range.mpr (Heap.lt_size h4), ?_⟩
      rw [if_neg (fun q => q.elim h1 fun q => q.elim h2 fun q => by rw [h3] at q; cases q), h4]
      rfl
  refine ⟨_, fun p hp => ?_, fun p hp => ((key p).mp hp).2.1, fun h' N k b o hL hb e => ?_⟩
  · have := (key p).mp hp
    exact ⟨this.2.2.2, this.1, this.2.2.1⟩
  · cases q : g.get? b with
    | some o' =>
      have e1 := F.keep b o' q
      rw [e1] at e; cases e
      exact k b o q
    | none => exact (N (b, o) ((key (b, o)).mpr ⟨hL, hb, q, e⟩)).1
end
end Mine

namespace Mine
open Builtin

/-- a call of a def with cells over a written ledger -/
theorem call_defCN {prog : Program} {w : World} {A : Around} {R : Result → Shared → Prop} {s : Shared} {K : Frag} {news : List (Addr × Obj)}
    {name qual : Str} {params : Arguments} {body : List Stmt} {scope : Scope} {dV kV doc pm cdv ct oc : Value} {an od : Option Addr} {osl : Array (Option Value)} {f : Addr} {args : Args} {binds : List (Str × Value)}
    (X : K.In s.heap) (hlim : s.heap.NoLimit) (N : ∀ p ∈ news, s.heap.get? p.1 = some p.2)
    (ho : K.lookup f = some ⟨oc, od, .func (fnOf name qual params body scope dV kV doc pm an cdv ct), osl⟩) (hcd : codeIn K cdv qual = true) (hroom : A.depth < recursionLimit)
    (hbind : BindsTo s (fnOf name qual params body scope dV kV doc pm an cdv ct) args binds)
    (hkind : ∀ n, ∀ x ∈ binds, scope.names.lookup x.1 = some .local ∨ (scope.names.lookup x.1 = some .cell ∧ ((cellsFrom n scope.names []).lookup x.1).isSome = true))
    (hnd : ((cellsFrom 0 scope.names []).map (·.1)).Nodup)
    (h : ∀ L h₁ tk cells, Fr (hideAll s.heap (news.map (·.1))) L h₁ (bindL (envOfC qual scope L f cdv).kindOf binds fun _ => none) → News (hideAll s.heap (news.map (·.1))) L h₁ (cells ++ news) →
      CellsAre (bindC (envOfC qual scope L f cdv).kindOf binds fun _ => none) (cellsFrom (L + 1) scope.names []) cells → (∀ p ∈ news, p.1 < L) → (∀ b o, s.heap.get? b = some o → h₁.get? b = some o) → s.heap.objs.size ≤ L →
      wpAny (model prog w) (A.deeper (envOfC qual scope L f cdv)) (execs body (envOfC qual scope L f cdv))
        (fun fl s' => R (.ok (.ret (match fl with | .ret v => v | _ => .none))) s') (fun _ _ => False)
        { s with heap := h₁, toks := tk })
    (hco : scope.isCoroutine = false := by rfl) (hgen : scope.isGenerator = false := by rfl) (hk : scope.kind = .function := by rfl) : codeAny (model prog w) A (.call (.ref f) args) R s := by
  refine codeAny_call_function hroom (X _ _ ho) rfl hco hgen rfl (codeRec_of X hcd) (hbind _ _ _ _ ?_)
  refine wpAny_newFunctionEnv_cells hk (hkind _) fun env' he s' x => ?_
  subst he
  refine ⟨hlim.keeps x.toInCall.keep, codeAny_func ?_⟩
  obtain ⟨h₁, tk, rfl, _⟩ := x.done
  have hk₁ := x.toInCall.keep
  obtain ⟨cells, NC, Y⟩ := Cl.news (h₀ := s.heap) (Nat.le_refl _) fun n c hm => ⟨x.cell n c (lookup_of_mem_nodup (cellsFrom_names scope.names 0 (s.heap.objs.size + 1) [] [] rfl ▸ hnd) hm), x.above n c hm⟩
  refine wpAny_mono (h s.heap.objs.size h₁ tk cells ⟨x.toInCall.ns, fun b o e => hk₁ b o (of_hideAll _ e), Nat.le_of_eq (hideAll_size _ _)⟩ (fun p hp => ?_) Y (fun p hp => Heap.lt_size (N p hp)) hk₁ (Nat.le_refl _)) (fun fl s' hl => hl) fun _ _ y => y.elim
  rcases List.mem_append.mp hp with hp | hp
  · refine ⟨(NC p hp).1, (NC p hp).2.1, ?_⟩
    cases q : (hideAll s.heap (news.map (·.1))).get? p.1 with
    | none => rfl
    | some o => have := of_hideAll _ q; rw [(NC p hp).2.2] at this; cases this
  · exact ⟨hk₁ _ _ (N p hp), Nat.ne_of_lt (Heap.lt_size (N p hp)), hideAll_none _ (List.mem_map_of_mem hp)⟩
end Mine

namespace Mine
open Builtin

section
variable {w : World} {A : Around} {s : Shared} {E : Value → Shared → Prop}

theorem callWith_own {env : Env} {pos : Pos} {Q : Value → Shared → Prop} (X : (hd.heap_39 w.params).In s.heap) (h : ∀ R : Result → Shared → Prop, (∀ v s', Q v s' → R (.ok (.ret v)) s') → codeAny (model prg w) A (.call (.ref 107) ⟨[], []⟩) R s) :
    wpAny (model prg w) A (callWith pos (.ref 107) [] (backTo pos (starEach [] env)) []) Q E s := by
  unfold callWith
  refine wpAny_bind (wpAny_holding (PyProof.Rows.evalArgs_none ?_))
  obtain ⟨hh, g, d, t, os⟩ := s
  have hC := X 107 _ rfl
  have f1 := tc_lookup
  have hT : (⟨hh, g, d, t, os⟩ : Shared).TypeIs (.ref 107) "type" := ⟨_, hC, rfl⟩
  refine wpAny_bind (wpAny_standAt ?_)
  show wpAny _ _ (keeperOf (.ref 107) >>= _) _ _ _
  unfold keeperOf specialOf
  repeat (any_goals (first | assumption | with_reducible refine wpAny_loadPart_at hC ?_ | with_reducible refine wpAny_load' hC ?_ | wp_step))
  exact h _ fun v s' hq => wpAny_bind (wpAny_holding (wpAny_point (wpAny_pure hq)))
end
end Mine

namespace Mine
open Builtin Spec

noncomputable def insS (x : Str) : List Str → List Str
  | [] => [x]
  | y :: r => if ltCps y.cps.toList x.cps.toList then y :: insS x r else x :: y :: r
noncomputable def sortI : List Str → List Str
  | [] => []
  | x :: r => insS x (sortI r)
noncomputable def catS (ls : List Str) : Str := ⟨(ls.flatMap (·.cps.toList)).toArray⟩
noncomputable def outI : Nat → Nat → Str → Str
  | 0, _, _ => ""
  | f + 1, n, lead => catS (sortI (rowsTo (outI f) n lead (towerK (f + 1))))
noncomputable def rowI (p : Nat) : Str := ("\n" : Str) ++ "#" ++ outI 3 p "# "

theorem insS_perm (x : Str) : ∀ l, (insS x l).Perm (x :: l)
  | [] => .refl _
  | y :: r => by
    unfold insS
    split
    · exact ((insS_perm x r).cons y).trans (.swap x y r)
    · exact .refl _
theorem sortI_perm : ∀ l, (sortI l).Perm l
  | [] => .refl _
  | x :: r => (insS_perm x (sortI r)).trans ((sortI_perm r).cons x)
theorem insS_sorted (x : Str) : ∀ l, l.Pairwise leS → (insS x l).Pairwise leS
  | [], _ => by simp [insS]
  | y :: r, h => by
    unfold insS
    split
    · rename_i hlt
      refine List.pairwise_cons.mpr ⟨fun z hz => ?_, insS_sorted x r (List.pairwise_cons.mp h).2⟩
      rcases List.mem_cons.mp ((insS_perm x r).mem_iff.mp hz) with rfl | hz
      · rw [leS_iff]
        rw [ltCps_eq] at hlt
        exact Std.le_of_lt (of_decide_eq_true hlt)
      · exact (List.pairwise_cons.mp h).1 z hz
    · rename_i hge
      have hxy : leS x y := by unfold leS; simpa using hge
      refine List.pairwise_cons.mpr ⟨fun z hz => ?_, h⟩
      rcases List.mem_cons.mp hz with rfl | hz
      · exact hxy
      · exact leS_trans hxy ((List.pairwise_cons.mp h).1 z hz)
theorem sortI_sorted : ∀ l, (sortI l).Pairwise leS
  | [] => .nil
  | x :: r => insS_sorted x _ (sortI_sorted r)
theorem sortI_eq (l : List Str) : sortS l = sortI l := (sortS_eq (sortI_perm l) (sortedS_of_pairwise _ (sortI_sorted l))).symm
theorem cat_eq (ls : List Str) : Txt.join "" ls = catS ls := str_eq (by rw [join_empty]; simp [catS])
theorem outI_eq : ∀ (f n : Nat) (lead : Str), outF f n lead = outI f n lead
  | 0, _, _ => rfl
  | f + 1, n, lead => by
    show Txt.join "" (sortS (rowsTo (outF f) n lead (towerK (f + 1)))) = catS (sortI (rowsTo (outI f) n lead (towerK (f + 1))))
    have e : outF f = outI f := funext fun n => funext fun lead => outI_eq f n lead
    rw [cat_eq, sortI_eq, e]
end Mine

namespace Mine
open Builtin Spec

/-- the places in the order of their rows -/
noncomputable def sigma : List Nat := [0, 1, 3, 11, 15, 7, 9, 13, 5, 2, 10, 14, 6, 8, 12, 4]
noncomputable def sortedB : List Str → Bool
  | [] => true
  | x :: r => r.all (leB x) && sortedB r
theorem sortedB_pairwise : ∀ l, sortedB l = true → l.Pairwise leS
  | [], _ => .nil
  | x :: r, h => by
    have h' : (r.all (leB x) && sortedB r) = true := h
    rw [Bool.and_eq_true] at h'
    exact List.pairwise_cons.mpr ⟨fun y hy => (leB_iff _ _).mp (List.all_eq_true.mp h'.1 y hy), sortedB_pairwise r h'.2⟩
theorem sigma_perm : sigma.Perm (List.range 16) := by decide +kernel
theorem sigma_sorted : (sigma.map rowI).Pairwise leS := sortedB_pairwise _ (by decide +kernel)
/-- the rows of a number, in their order -/
noncomputable def rows (n : Nat) : List Str := (sigma.filter fun p => decide (n / 2 ^ p % 2 = 1)).map rowI
theorem rows_eq (n : Nat) : sortS (rowsTo (outF 3) n "" 16) = rows n := by
  have e : outF 3 = outI 3 := funext fun n => funext fun lead => outI_eq 3 n lead
  have e0 : (("" : Str) ++ "# ") = "# " := by decide +kernel
  have e1 : (("\n" : Str) ++ "" ++ "#") = ("\n" : Str) ++ "#" := by decide +kernel
  have h1 : rowsTo (outF 3) n "" 16 = ((List.range 16).filter fun p => decide (n / 2 ^ p % 2 = 1)).map rowI := by
    unfold rowsTo rowI
    rw [e, e0, e1]
  refine (sortS_eq ?_ (sortedS_of_pairwise _ ?_)).symm
  · rw [h1]
    exact (sigma_perm.filter _).map _
  · exact (sigma_sorted.sublist ((List.filter_sublist).map _))
end Mine

namespace Mine
open Builtin Spec

/-- the pieces between line ends -/
noncomputable def cutNl : List Nat → List (List Nat)
  | [] => [[]]
  | c :: r => if c = 10 then [] :: cutNl r else match cutNl r with
    | [] => [[c]]
    | a :: t => (c :: a) :: t
/-- the lines of a row -/
noncomputable def rowLines (p : Nat) : List Str := ((cutNl (rowI p).cps.toList).drop 1).map fun l => ⟨l.toArray⟩
noncomputable def placesOf (n : Nat) : List Nat := sigma.filter fun p => decide (n / 2 ^ p % 2 = 1)
/-- the lines of a number's outline -/
noncomputable def linesOf (n : Nat) : List Str := (placesOf n).flatMap rowLines

theorem sigma_lt : ∀ p ∈ sigma, p < 16 := by decide
theorem mem_sigma {p : Nat} (h : p < 16) : p ∈ sigma := sigma_perm.mem_iff.mpr (List.mem_range.mpr h)
theorem mem_places {n p : Nat} : p ∈ placesOf n ↔ p < 16 ∧ n / 2 ^ p % 2 = 1 := by
  unfold placesOf
  rw [List.mem_filter, decide_eq_true_iff]
  exact ⟨fun h => ⟨sigma_lt p h.1, h.2⟩, fun h => ⟨mem_sigma h.1, h.2⟩⟩
theorem row_txt : ∀ p ∈ sigma, txtOf (rowLines p) = rowI p := by decide +kernel
theorem row_nonl : ∀ p ∈ sigma, ∀ l ∈ rowLines p, 10 ∉ l.cps.toList := by decide +kernel
theorem row_len : ∀ p ∈ sigma, (rowLines p).length ≤ 11 := by decide +kernel
theorem row_short : ∀ p ∈ sigma, ∀ l ∈ rowLines p, l.length ≤ 7 := by decide +kernel
theorem row_ok : ∀ p ∈ sigma, ∀ l ∈ rowLines p, PyData.strOk l = true := by decide +kernel
theorem row_head : ∀ p ∈ sigma, ∃ r, rowLines p = ("#" : Str) :: r := by
  have h : ∀ p ∈ sigma, (rowLines p).head? = some ("#" : Str) := by decide +kernel
  intro p hp
  have := h p hp
  cases e : rowLines p with
  | nil => rw [e] at this; cases this
  | cons a r => rw [e] at this; exact ⟨r, by rw [Option.some.inj this]⟩
theorem row_tail : ∀ p ∈ sigma, ∀ l ∈ (rowLines p).drop 1, l ≠ ("#" : Str) := by decide +kernel
theorem row_comment : ∀ p ∈ sigma, ∀ l ∈ rowLines p, commentLine l = ("# " : Str) ++ l := by decide +kernel
theorem row_inj : ∀ p ∈ sigma, ∀ q ∈ sigma, rowI p = rowI q → p = q := by decide +kernel
end Mine

namespace Mine
open Builtin Spec

theorem txt_append (a b : List Str) : (txtOf (a ++ b)).cps.toList = (txtOf a).cps.toList ++ (txtOf b).cps.toList := by
  simp [txtOf, List.flatMap_append]
theorem txt_rows : ∀ ps : List Nat, (∀ p ∈ ps, p ∈ sigma) → (txtOf (ps.flatMap rowLines)).cps.toList = (catS (ps.map rowI)).cps.toList
  | [], _ => rfl
  | p :: r, h => by
    rw [List.flatMap_cons, txt_append, txt_rows r fun q hq => h q (.tail _ hq), row_txt p (h p (.head _))]
    simp [catS]
/-- the outline is the text of its lines -/
theorem out_txt (n : Nat) : outF 4 n "" = txtOf (linesOf n) := by
  show Txt.join "" (sortS (rowsTo (outF 3) n "" 16)) = _
  rw [rows_eq, cat_eq]
  exact str_eq (txt_rows _ fun p hp => (List.mem_filter.mp hp).1).symm
theorem member_row : ∀ p ∈ sigma, memberOf (linesOf p) = rowI p := by decide +kernel
theorem lines_mem {n : Nat} {l : Str} (h : l ∈ linesOf n) : ∃ p ∈ sigma, l ∈ rowLines p := by
  obtain ⟨p, hp, hl⟩ := List.mem_flatMap.mp h
  exact ⟨p, (List.mem_filter.mp hp).1, hl⟩
theorem lines_nonl (n : Nat) : ∀ l ∈ linesOf n, 10 ∉ l.cps.toList := fun l h => let ⟨p, hp, hl⟩ := lines_mem h; row_nonl p hp l hl
theorem lines_short (n : Nat) : ∀ l ∈ linesOf n, l.length ≤ 7 := fun l h => let ⟨p, hp, hl⟩ := lines_mem h; row_short p hp l hl
theorem lines_ok (n : Nat) : ∀ l ∈ linesOf n, PyData.strOk l = true := fun l h => let ⟨p, hp, hl⟩ := lines_mem h; row_ok p hp l hl
theorem flat_len {ps : List Nat} (h : ∀ p ∈ ps, p ∈ sigma) : (ps.flatMap rowLines).length ≤ 11 * ps.length := by
  rw [List.length_flatMap]
  exact sum_map_le fun p hp => row_len p (h p hp)
theorem places_len (n : Nat) : (placesOf n).length ≤ 16 := List.length_filter_le _ sigma
theorem lines_len (n : Nat) : (linesOf n).length ≤ 176 := by
  have h1 := flat_len (ps := placesOf n) fun p hp => (List.mem_filter.mp hp).1
  have h2 := places_len n
  unfold linesOf
  omega
end Mine

namespace Mine
open Builtin Spec

/-- lines that open no block are laid onto the last one -/
theorem fold_tail : ∀ (ls : List Str) (bs : List Str) (b : Str), (∀ l ∈ ls, l ≠ ("#" : Str)) → ls.foldl addLine (bs ++ [b]) = bs ++ [⟨(b.cps.toList ++ (txtOf ls).cps.toList).toArray⟩]
  | [], bs, b, _ => by simp [txtOf]
  | l :: r, bs, b, h => by
    have hl : l ≠ ("#" : Str) := h l (.head _)
    have e : addLine (bs ++ [b]) l = bs ++ [b ++ ("\n" : Str) ++ l] := by
      rw [addLine_eq]
      have e1 : laid (bs ++ [b]) l = bs ++ [b] := by
        unfold laid
        rw [if_neg (by simp [hl])]
      rw [e1]
      simp
    rw [List.foldl_cons, e, fold_tail r bs _ fun x hx => h x (.tail _ hx)]
    congr 2
    apply str_eq
    simp only [PySem.Str.cps_append, Array.toList_append, nl_eq, txtOf, List.flatMap_cons]
    simp
theorem fold_row {p : Nat} (hp : p ∈ sigma) (bs : List Str) : (rowLines p).foldl addLine bs = bs ++ [rowI p] := by
  obtain ⟨r, hr⟩ := row_head p hp
  have ht := row_tail p hp
  have htx := row_txt p hp
  rw [hr] at ht htx ⊢
  have e : addLine bs ("#" : Str) = bs ++ [("" : Str) ++ ("\n" : Str) ++ "#"] := by
    rw [addLine_eq]
    have e1 : laid bs ("#" : Str) = bs ++ [("" : Str)] := by
      unfold laid
      rw [if_pos (.inl rfl)]
    rw [e1]
    simp
  rw [List.foldl_cons, e, fold_tail r bs _ (by simpa using ht), ← htx]
  congr 2
theorem fold_rows : ∀ (ps : List Nat) (bs : List Str), (∀ p ∈ ps, p ∈ sigma) → (ps.flatMap rowLines).foldl addLine bs = bs ++ ps.map rowI
  | [], bs, _ => by simp
  | p :: r, bs, h => by
    rw [List.flatMap_cons, List.foldl_append, fold_row (h p (.head _)), fold_rows r _ fun q hq => h q (.tail _ hq)]
    simp
theorem blocks_rows (ps : List Nat) (h : ∀ p ∈ ps, p ∈ sigma) : blocksOf (ps.flatMap rowLines) = ps.map rowI := by
  unfold blocksOf
  rw [fold_rows ps [] h, List.nil_append]
theorem blocks_lines (n : Nat) : blocksOf (linesOf n) = rows n := blocks_rows _ fun p hp => (List.mem_filter.mp hp).1
end Mine

namespace Mine
open Builtin Spec

theorem mem_rows {n : Nat} {x : Str} : x ∈ rows n ↔ ∃ p, p < 16 ∧ n / 2 ^ p % 2 = 1 ∧ rowI p = x := by
  unfold rows
  rw [List.mem_map]
  constructor
  · rintro ⟨p, hp, rfl⟩
    have := mem_places.mp hp
    exact ⟨p, this.1, this.2, rfl⟩
  · rintro ⟨p, h1, h2, rfl⟩
    exact ⟨p, mem_places.mpr ⟨h1, h2⟩, rfl⟩
theorem row_mem {n p : Nat} (hp : p < 16) : rowI p ∈ rows n ↔ n / 2 ^ p % 2 = 1 := by
  rw [mem_rows]
  constructor
  · rintro ⟨q, h1, h2, e⟩
    rw [row_inj q (mem_sigma h1) p (mem_sigma hp) e] at h2
    exact h2
  · exact fun h => ⟨p, hp, h, rfl⟩
theorem bit_iff (n p : Nat) : n / 2 ^ p % 2 = 1 ↔ n.testBit p = true := by
  rw [Nat.testBit_eq_decide_div_mod_eq, decide_eq_true_iff]
end Mine

namespace Mine
open Builtin Spec

theorem row_cut : ∀ p ∈ sigma, cutTwo (rowLines p) = linesOf p := by decide +kernel
theorem row_depth : ∀ p ∈ sigma, ((rowLines p).map hashes).foldl max 0 = 1 + (if 1 ≤ p then 1 else 0) + (if 2 ≤ p then 1 else 0) + (if 4 ≤ p then 1 else 0) := by decide +kernel
theorem row_again : ∀ p ∈ sigma, ∀ l ∈ rowLines p, commentLine (fromAt 1 l ++ " \t") = toAt 2 l ++ fromAt 1 l := by decide +kernel
theorem cut_append (a b : List Str) : cutTwo (a ++ b) = cutTwo a ++ cutTwo b := by simp [cutTwo]
theorem cut_flat : ∀ ps : List Nat, (∀ p ∈ ps, p ∈ sigma) → cutTwo (ps.flatMap rowLines) = (ps.flatMap placesOf).flatMap rowLines
  | [], _ => rfl
  | p :: r, h => by
    rw [List.flatMap_cons, cut_append, row_cut p (h p (.head _)), cut_flat r fun q hq => h q (.tail _ hq), List.flatMap_cons, List.flatMap_append]
    rfl
end Mine

namespace Mine
open Builtin Spec

theorem union_bit (m : Nat) (q : Nat) : ∀ k, (unionTo m k).testBit q = true ↔ ∃ p, p < k ∧ m / 2 ^ p % 2 = 1 ∧ p.testBit q = true
  | 0 => by simp [unionTo]
  | k + 1 => by
    rw [unionTo_succ]
    have ih := union_bit m q k
    by_cases h : m / 2 ^ k % 2 = 1
    · rw [if_pos h, Nat.testBit_or, Bool.or_eq_true, ih]
      constructor
      · rintro (⟨p, h1, h2, h3⟩ | h3)
        · exact ⟨p, by omega, h2, h3⟩
        · exact ⟨k, by omega, h, h3⟩
      · rintro ⟨p, h1, h2, h3⟩
        by_cases hpk : p = k
        · subst hpk; exact .inr h3
        · exact .inl ⟨p, by omega, h2, h3⟩
    · rw [if_neg h, ih]
      constructor
      · rintro ⟨p, h1, h2, h3⟩
        exact ⟨p, by omega, h2, h3⟩
      · rintro ⟨p, h1, h2, h3⟩
        by_cases hpk : p = k
        · subst hpk; exact absurd h2 h
        · exact ⟨p, by omega, h2, h3⟩
theorem pow_bit (t q : Nat) : (2 ^ t).testBit q = decide (t = q) := by
  rw [Nat.testBit_two_pow]
theorem rows_any {x : Str} {a : Nat} : x ∈ rows a ↔ ∃ p, p < 16 ∧ a.testBit p = true ∧ rowI p = x := by
  rw [mem_rows]
  simp only [bit_iff]
theorem sub_and (m t : Nat) : m - (m &&& t) = m ^^^ (m &&& t) := by
  have h := or_split _ m (m &&& t) (Nat.le_refl _)
  have e1 : m ||| (m &&& t) = m := by
    apply Nat.eq_of_testBit_eq
    intro i
    simp only [Nat.testBit_or, Nat.testBit_and]
    cases m.testBit i <;> simp
  have e2 : m &&& (m &&& t) = m &&& t := by
    apply Nat.eq_of_testBit_eq
    intro i
    simp only [Nat.testBit_and]
    cases m.testBit i <;> simp
  rw [e1, e2] at h
  omega
theorem row_hash : ∀ p ∈ sigma, (∀ l ∈ rowLines p, hashes l < 4) ↔ p < 4 := by decide +kernel
theorem row_hashes : ∀ p ∈ sigma, ∀ l ∈ rowLines p, hashes l ≤ 1 + (if 1 ≤ p then 1 else 0) + (if 2 ≤ p then 1 else 0) + (if 4 ≤ p then 1 else 0) := by decide +kernel
theorem row_deep : ∀ p ∈ sigma, ∃ l ∈ rowLines p, hashes l = 1 + (if 1 ≤ p then 1 else 0) + (if 2 ≤ p then 1 else 0) + (if 4 ≤ p then 1 else 0) := by decide +kernel
theorem lt16_iff {t : Nat} (ht : t < 65536) : (∀ l ∈ linesOf t, hashes l < 4) ↔ t < 16 := by
  constructor
  · intro h
    refine Nat.lt_of_not_le fun q => ?_
    obtain ⟨i, hi, hb⟩ := Nat.exists_ge_and_testBit_of_ge_two_pow (n := 4) q
    have hi16 : i < 16 := by
      refine Nat.lt_of_not_le fun q2 => ?_
      rw [Nat.testBit_lt_two_pow (Nat.lt_of_lt_of_le ht (show 2 ^ 16 ≤ 2 ^ i from Nat.pow_le_pow_right (by decide) q2))] at hb
      cases hb
    have := (row_hash i (mem_sigma hi16)).mp fun l hl => h l (List.mem_flatMap.mpr ⟨i, mem_places.mpr ⟨hi16, (bit_iff _ _).mpr hb⟩, hl⟩)
    omega
  · intro h l hl
    obtain ⟨p, hp, hlp⟩ := List.mem_flatMap.mp hl
    have hp' := mem_places.mp hp
    have hp4 : p < 4 := by
      refine Nat.lt_of_not_le fun q => ?_
      have : t / 2 ^ p = 0 := Nat.div_eq_of_lt (Nat.lt_of_lt_of_le h (show 2 ^ 4 ≤ 2 ^ p from Nat.pow_le_pow_right (by decide) q))
      rw [this] at hp'
      exact absurd hp'.2 (by decide)
    exact (row_hash p (mem_sigma hp'.1)).mpr hp4 l hlp
theorem rowI_member {t : Nat} (h : t < 16) : memberOf (linesOf t) = rowI t := member_row t (mem_sigma h)

theorem places_sig (n : Nat) : ∀ p ∈ placesOf n, p ∈ sigma := fun p hp => (List.mem_filter.mp hp).1
theorem places2_sig (n : Nat) : ∀ p ∈ (placesOf n).flatMap placesOf, p ∈ sigma := fun p hp => let ⟨b, _, h⟩ := List.mem_flatMap.mp hp; places_sig b p h
theorem deed_law {d m t : Nat} (hd : d < 6) (ht : t < 65536) (x : Str) : InDeed d (linesOf m) (linesOf t) x ↔ x ∈ rows (numOf d m t) := by
  have hd6 : d = 0 ∨ d = 1 ∨ d = 2 ∨ d = 3 ∨ d = 4 ∨ d = 5 := by omega
  by_cases hx : ∃ p, p < 16 ∧ rowI p = x
  · obtain ⟨p, hp, rfl⟩ := hx
    have R : ∀ a, rowI p ∈ rows a ↔ a.testBit p = true := fun a => (row_mem hp).trans (bit_iff a p)
    rcases hd6 with rfl | rfl | rfl | rfl | rfl | rfl
    · show ((_ ∧ _) ∨ (_ ∧ _)) ↔ _ ∈ rows (m ^^^ t)
      rw [blocks_lines, blocks_lines, R, R, R, Nat.testBit_xor]
      cases m.testBit p <;> cases t.testBit p <;> simp
    · show (_ ∨ _) ↔ _ ∈ rows (m ||| t)
      rw [blocks_lines, blocks_lines, R, R, R, Nat.testBit_or]
      cases m.testBit p <;> cases t.testBit p <;> simp
    · show (_ ∧ _) ↔ _ ∈ rows (m &&& t)
      rw [blocks_lines, blocks_lines, R, R, R, Nat.testBit_and]
      cases m.testBit p <;> cases t.testBit p <;> simp
    · show (_ ∧ _) ↔ _ ∈ rows (m - (m &&& t))
      rw [blocks_lines, blocks_lines, R, R, R, sub_and, Nat.testBit_xor, Nat.testBit_and]
      cases m.testBit p <;> cases t.testBit p <;> simp
    · show _ ∈ blocksOf (cutTwo ((placesOf m).flatMap rowLines)) ↔ _ ∈ rows (unionTo m 16)
      rw [cut_flat _ (places_sig m), blocks_rows _ (places2_sig m), R, union_bit, List.mem_map]
      constructor
      · rintro ⟨q, hq, e⟩
        obtain ⟨b, hb, hqb⟩ := List.mem_flatMap.mp hq
        have := row_inj q (places_sig b q hqb) p (mem_sigma hp) e
        subst this
        have hb' := mem_places.mp hb
        exact ⟨b, hb'.1, hb'.2, (bit_iff _ _).mp (mem_places.mp hqb).2⟩
      · rintro ⟨b, h1, h2, h3⟩
        exact ⟨p, List.mem_flatMap.mpr ⟨b, mem_places.mpr ⟨h1, h2⟩, mem_places.mpr ⟨hp, (bit_iff _ _).mpr h3⟩⟩, rfl⟩
    · show (_ ∨ _) ↔ _ ∈ rows (if t < 16 then m ||| 2 ^ t else m)
      rw [blocks_lines, R, lt16_iff ht]
      by_cases h : t < 16
      · rw [if_pos h, rowI_member h, R, Nat.testBit_or, pow_bit, Bool.or_eq_true, decide_eq_true_iff]
        constructor
        · rintro (a | ⟨_, e⟩)
          · exact .inl a
          · exact .inr (row_inj p (mem_sigma hp) t (mem_sigma h) e).symm
        · rintro (a | e)
          · exact .inl a
          · subst e; exact .inr ⟨h, rfl⟩
      · rw [if_neg h, R]
        constructor
        · rintro (a | ⟨e, _⟩)
          · exact a
          · exact absurd e h
        · exact .inl
  · have N : ∀ a, x ∉ rows a := fun a ha => hx (let ⟨p, h1, _, h3⟩ := rows_any.mp ha; ⟨p, h1, h3⟩)
    rcases hd6 with rfl | rfl | rfl | rfl | rfl | rfl
    · show ((_ ∧ _) ∨ (_ ∧ _)) ↔ _ ∈ rows (m ^^^ t)
      rw [blocks_lines, blocks_lines]
      simp [N]
    · show (_ ∨ _) ↔ _ ∈ rows (m ||| t)
      rw [blocks_lines, blocks_lines]
      simp [N]
    · show (_ ∧ _) ↔ _ ∈ rows (m &&& t)
      rw [blocks_lines, blocks_lines]
      simp [N]
    · show (_ ∧ _) ↔ _ ∈ rows (m - (m &&& t))
      rw [blocks_lines, blocks_lines]
      simp [N]
    · show _ ∈ blocksOf (cutTwo ((placesOf m).flatMap rowLines)) ↔ _ ∈ rows (unionTo m 16)
      rw [cut_flat _ (places_sig m), blocks_rows _ (places2_sig m), List.mem_map]
      refine ⟨fun ⟨q, hq, e⟩ => ?_, fun h => absurd h (N _)⟩
      exact absurd ⟨q, sigma_lt q (places2_sig m q hq), e⟩ hx
    · show (_ ∨ _) ↔ _ ∈ rows (if t < 16 then m ||| 2 ^ t else m)
      rw [blocks_lines, lt16_iff ht]
      refine ⟨?_, fun h => absurd h (N _)⟩
      rintro (a | ⟨h, e⟩)
      · exact absurd a (N _)
      · rw [rowI_member h] at e
        exact absurd ⟨t, h, e.symm⟩ hx
end Mine

namespace Mine
open Builtin Spec

theorem union_lt (m : Nat) : ∀ k, k ≤ 16 → unionTo m k < 2 ^ 16
  | 0, _ => by simp [unionTo]
  | k + 1, h => by
    rw [unionTo_succ]
    split
    · exact Nat.or_lt_two_pow (union_lt m k (by omega)) (Nat.lt_of_lt_of_le (show k < 16 by omega) (by decide))
    · exact union_lt m k (by omega)
theorem num_lt {d m t : Nat} (hd : d < 6) (hm : m < 65536) (ht : t < 65536) : numOf d m t < 65536 := by
  have hd6 : d = 0 ∨ d = 1 ∨ d = 2 ∨ d = 3 ∨ d = 4 ∨ d = 5 := by omega
  rcases hd6 with rfl | rfl | rfl | rfl | rfl | rfl
  · exact Nat.xor_lt_two_pow (n := 16) hm ht
  · exact Nat.or_lt_two_pow (n := 16) hm ht
  · exact Nat.lt_of_le_of_lt Nat.and_le_left hm
  · exact Nat.lt_of_le_of_lt (Nat.sub_le _ _) hm
  · exact union_lt m 16 (Nat.le_refl _)
  · show (if t < 16 then m ||| 2 ^ t else m) < 65536
    split
    · rename_i h
      exact Nat.or_lt_two_pow (n := 16) hm (Nat.pow_lt_pow_right (by decide) h)
    · exact hm

theorem sub_flat {α β : Type} {f : α → List β} {l₁ l₂ : List α} (h : List.Sublist l₁ l₂) : (l₁.flatMap f).length ≤ (l₂.flatMap f).length := by
  induction h with
  | slnil => exact Nat.le_refl _
  | cons a _ ih => rw [List.flatMap_cons, List.length_append]; omega
  | cons_cons a _ ih => rw [List.flatMap_cons, List.flatMap_cons, List.length_append, List.length_append]; omega
theorem places2_len (n : Nat) : ((placesOf n).flatMap placesOf).length ≤ 32 :=
  Nat.le_trans (sub_flat (List.filter_sublist)) (show (sigma.flatMap placesOf).length ≤ 32 by decide +kernel)
theorem cut_lines (n : Nat) : cutTwo (linesOf n) = ((placesOf n).flatMap placesOf).flatMap rowLines := cut_flat _ (places_sig n)
theorem cut_len (n : Nat) : (cutTwo (linesOf n)).length ≤ 176 := by
  unfold cutTwo
  rw [List.length_map]
  exact Nat.le_trans (List.length_filter_le _ _) (lines_len n)
theorem fit_lines (n : Nat) : Fit 29 (linesOf n) where
  len := Nat.le_trans (lines_len n) (by decide)
  short := fun x h => Nat.le_trans (lines_short n x h) (by decide)
  ok := lines_ok n
  few := by
    rw [blocks_lines]
    show (List.map _ _).length ≤ _
    rw [List.length_map]
    exact Nat.le_trans (places_len n) (by decide)
theorem fit_cut (n : Nat) : Fit 60 (cutTwo (linesOf n)) where
  len := Nat.le_trans (cut_len n) (by decide)
  short := fun x h => by
    rw [cut_lines] at h
    obtain ⟨p, hp, hx⟩ := List.mem_flatMap.mp h
    exact Nat.le_trans (row_short p (places2_sig n p hp) x hx) (by decide)
  ok := fun x h => by
    rw [cut_lines] at h
    obtain ⟨p, hp, hx⟩ := List.mem_flatMap.mp h
    exact row_ok p (places2_sig n p hp) x hx
  few := by
    rw [cut_lines, blocks_rows _ (places2_sig n), List.length_map]
    exact Nat.le_trans (places2_len n) (by decide)

theorem txt_inj {a b : List Str} (ha : ∀ l ∈ a, 10 ∉ l.cps.toList) (hb : ∀ l ∈ b, 10 ∉ l.cps.toList) (h : txtOf a = txtOf b) : a = b := by
  have h1 := split_txt ha
  rw [h, split_txt hb] at h1
  exact (List.cons.inj h1).2.symm
theorem hash_add (l : Str) : hashes (("# " : Str) ++ l) = 1 + hashes l := by
  unfold hashes
  rw [PySem.Str.cps_append, Array.toList_append, List.count_append]
  have : (("# " : Str)).cps.toList.count 35 = 1 := by decide +kernel
  rw [this]
theorem comment_nonl {n : Nat} : ∀ l ∈ ("#" : Str) :: (linesOf n).map commentLine, 10 ∉ l.cps.toList := by
  intro l hl
  rcases List.mem_cons.mp hl with rfl | hl
  · decide +kernel
  · obtain ⟨x, hx, rfl⟩ := List.mem_map.mp hl
    obtain ⟨p, hp, hxp⟩ := lines_mem hx
    rw [row_comment p hp x hxp, PySem.Str.cps_append, Array.toList_append, List.mem_append]
    rintro (h | h)
    · exact absurd h (by decide +kernel)
    · exact row_nonl p hp x hxp h
theorem contains_law {ni nj : Nat} (hi : ni < 65536) (hj : nj < 65536) : memberOf (linesOf nj) ∈ rows ni ↔ ni / 2 ^ nj % 2 = 1 := by
  by_cases h : nj < 16
  · rw [rowI_member h, row_mem h]
  · have h0 : ni / 2 ^ nj = 0 := Nat.div_eq_of_lt (Nat.lt_of_lt_of_le hi (show 2 ^ 16 ≤ 2 ^ nj from Nat.pow_le_pow_right (by decide) (Nat.le_of_not_lt h)))
    rw [h0]
    refine ⟨fun hm => ?_, fun e => absurd e (by decide)⟩
    exfalso
    obtain ⟨p, hp, _, e⟩ := rows_any.mp hm
    have hps := mem_sigma hp
    rw [← row_txt p hps] at e
    have e2 := txt_inj (row_nonl p hps) comment_nonl e
    refine h ((lt16_iff hj).mp fun l hl => ?_)
    obtain ⟨q, hq, hlq⟩ := lines_mem hl
    have hmem : commentLine l ∈ rowLines p := by rw [e2]; exact .tail _ (List.mem_map_of_mem hl)
    have h4 := row_hashes p hps _ hmem
    rw [row_comment q hq l hlq, hash_add] at h4
    by_cases a1 : 1 ≤ p <;> by_cases a2 : 2 ≤ p <;> by_cases a3 : 4 ≤ p <;> simp only [a1, a2, a3, if_true, if_false] at h4 <;> omega

noncomputable def towers (n : Nat) : Nat := (if 1 ≤ n then 1 else 0) + (if 2 ≤ n then 1 else 0) + (if 4 ≤ n then 1 else 0) + (if 16 ≤ n then 1 else 0)
theorem towers_list (n : Nat) : (([1, 2, 4, 16] : List Nat).filter fun t => decide (t ≤ n)).length = towers n := by
  unfold towers
  by_cases a1 : 1 ≤ n <;> by_cases a2 : 2 ≤ n <;> by_cases a3 : 4 ≤ n <;> by_cases a4 : 16 ≤ n <;> simp [a1, a2, a3, a4]
theorem towers_up (n p : Nat) (h : 2 ^ p ≤ n) : 1 + (if 1 ≤ p then 1 else 0) + (if 2 ≤ p then 1 else 0) + (if 4 ≤ p then 1 else 0) ≤ towers n := by
  have h0 : 1 ≤ n := Nat.le_trans (Nat.one_le_two_pow) h
  have h1 : 1 ≤ p → 2 ≤ n := fun q => Nat.le_trans (show 2 ^ 1 ≤ 2 ^ p from Nat.pow_le_pow_right (by decide) q) h
  have h2 : 2 ≤ p → 4 ≤ n := fun q => Nat.le_trans (show 2 ^ 2 ≤ 2 ^ p from Nat.pow_le_pow_right (by decide) q) h
  have h4 : 4 ≤ p → 16 ≤ n := fun q => Nat.le_trans (show 2 ^ 4 ≤ 2 ^ p from Nat.pow_le_pow_right (by decide) q) h
  unfold towers
  by_cases a1 : 1 ≤ p <;> by_cases a2 : 2 ≤ p <;> by_cases a3 : 4 ≤ p <;> by_cases b1 : 2 ≤ n <;> by_cases b2 : 4 ≤ n <;> by_cases b3 : 16 ≤ n <;> simp [h0, a1, a2, a3, b1, b2, b3] <;> omega
theorem towers_top (n p : Nat) (h : 2 ^ p ≤ n) (h' : n < 2 ^ (p + 1)) : towers n = 1 + (if 1 ≤ p then 1 else 0) + (if 2 ≤ p then 1 else 0) + (if 4 ≤ p then 1 else 0) := by
  have h0 : 1 ≤ n := Nat.le_trans (Nat.one_le_two_pow) h
  have g : ∀ k, (2 ^ k ≤ n ↔ k ≤ p) := fun k => ⟨fun q => Nat.le_of_lt_succ ((Nat.pow_lt_pow_iff_right (by decide : 1 < 2)).mp (Nat.lt_of_le_of_lt q h')), fun q => Nat.le_trans (Nat.pow_le_pow_right (by decide) q) h⟩
  have g1 := g 1
  have g2 := g 2
  have g4 := g 4
  simp only [show 2 ^ 1 = 2 from rfl, show 2 ^ 2 = 4 from rfl, show 2 ^ 4 = 16 from rfl] at g1 g2 g4
  unfold towers
  simp only [h0, g1, g2, g4, if_true]
theorem depth_law {n : Nat} (hn : n < 65536) {M : Int} (hM : M ∈ (0 : Int) :: (linesOf n).map hashI) (hle : ∀ a ∈ (0 : Int) :: (linesOf n).map hashI, a ≤ M) : M = (towers n : Nat) := by
  have up : ∀ l ∈ linesOf n, hashes l ≤ towers n := fun l hl => by
    obtain ⟨p, hp, hlp⟩ := List.mem_flatMap.mp hl
    have hp' := mem_places.mp hp
    refine Nat.le_trans (row_hashes p (mem_sigma hp'.1) l hlp) (towers_up n p (Nat.le_of_not_lt fun q => ?_))
    rw [Nat.div_eq_of_lt q] at hp'
    exact absurd hp'.2 (by decide)
  have h1 : M ≤ (towers n : Nat) := by
    rcases List.mem_cons.mp hM with rfl | hM
    · exact Int.natCast_nonneg _
    · obtain ⟨l, hl, rfl⟩ := List.mem_map.mp hM
      have := up l hl
      have e : hashI l = ((hashes l : Nat) : Int) := rfl
      omega
  have h2 : ((towers n : Nat) : Int) ≤ M := by
    by_cases h0 : n = 0
    · subst h0
      exact hle 0 (.head _)
    · have hl := Nat.log2_self_le h0
      have hl' : n < 2 ^ (n.log2 + 1) := Nat.lt_log2_self
      have hp16 : n.log2 < 16 := (Nat.log2_lt h0).mpr hn
      obtain ⟨l, hlr, he⟩ := row_deep n.log2 (mem_sigma hp16)
      have hb : n.testBit n.log2 = true := Nat.testBit_of_two_pow_le_and_two_pow_add_one_gt hl hl'
      have hmem : l ∈ linesOf n := List.mem_flatMap.mpr ⟨_, mem_places.mpr ⟨hp16, (bit_iff _ _).mpr hb⟩, hlr⟩
      have := hle (hashI l) (.tail _ (List.mem_map_of_mem hmem))
      have e : hashI l = ((hashes l : Nat) : Int) := rfl
      rw [towers_top n _ hl hl', ← he]
      omega
  omega

theorem again_law (n : Nat) : ∀ l ∈ linesOf n, commentLine (fromAt 1 l ++ " \t") = toAt 2 l ++ fromAt 1 l := fun l hl => let ⟨p, hp, hlp⟩ := lines_mem hl; row_again p hp l hlp
theorem nodup_map {α β : Type} {f : α → β} : ∀ {l : List α}, l.Nodup → (∀ a ∈ l, ∀ b ∈ l, f a = f b → a = b) → (l.map f).Nodup
  | [], _, _ => List.nodup_nil
  | a :: r, hn, hi => by
    obtain ⟨h1, h2⟩ := List.nodup_cons.mp hn
    refine List.nodup_cons.mpr ⟨fun hm => ?_, nodup_map h2 fun x hx y hy => hi x (.tail _ hx) y (.tail _ hy)⟩
    obtain ⟨b, hb, e⟩ := List.mem_map.mp hm
    rw [hi b (.tail _ hb) a (.head _) e] at hb
    exact h1 hb
theorem rows_nodup (n : Nat) : (rows n).Nodup := by
  have h1 : (placesOf n).Nodup := List.Sublist.nodup List.filter_sublist (by decide : sigma.Nodup)
  exact nodup_map h1 fun a ha b hb e => row_inj a (places_sig n a ha) b (places_sig n b hb) e
end Mine

namespace Mine
open Builtin Spec

theorem rows_txt (n : Nat) : Txt.join "" (rows n) = txtOf (linesOf n) := by
  rw [← rows_eq, ← out_txt]
  rfl
theorem rows_sum (n : Nat) : ((rows n).map (·.length)).sum ≤ 50000 := by
  rw [← join_len, rows_txt, len_txt]
  exact (fit_lines n).sum
theorem sorted_rows {ls bs : List Str} {k : Nat} (hn : bs.Nodup) (hb : ∀ x, x ∈ bs ↔ x ∈ rows k) (p : ls.Perm bs) (h : sortedS ls = true) : ls = rows k := by
  have p2 : bs.Perm (rows k) := (List.perm_ext_iff_of_nodup hn (rows_nodup k)).mpr hb
  have h2 : ls = sortS (rows k) := sortS_eq (p.trans p2) h
  rw [h2, ← rows_eq]
  exact (sortS_eq (List.Perm.refl _) (sortS_sorted _)).symm
theorem split_rows (n : Nat) : Txt.split (Txt.join "" (rows n)) "\n" = ("" : Str) :: linesOf n := by
  rw [rows_txt]
  exact split_txt (lines_nonl n)
theorem not_space {n : Nat} (h : linesOf n ≠ []) : Txt.isspace (txtOf (linesOf n)) = false := by
  have h1 : ∃ p, p ∈ placesOf n := by
    cases e : placesOf n with
    | nil => exact absurd (by unfold linesOf; rw [e]; rfl) h
    | cons p r => exact ⟨p, .head _⟩
  obtain ⟨p, hp⟩ := h1
  obtain ⟨r, hr⟩ := row_head p (places_sig n p hp)
  have hm : ("#" : Str) ∈ linesOf n := List.mem_flatMap.mpr ⟨p, hp, by rw [hr]; exact .head _⟩
  have h35 : (35 : Nat) ∈ (txtOf (linesOf n)).cps.toList := by
    show 35 ∈ ((linesOf n).flatMap fun l => 10 :: l.cps.toList)
    exact List.mem_flatMap.mpr ⟨_, hm, by decide +kernel⟩
  unfold Txt.isspace
  rw [Bool.and_eq_false_iff]
  refine .inr ?_
  cases q : (txtOf (linesOf n)).cps.all Unicode.isSpace with
  | false => rfl
  | true =>
    rw [← Array.all_toList, List.all_eq_true] at q
    exact absurd (q 35 h35) (by decide +kernel)
theorem lines_nil (n : Nat) (hn : n < 65536) : linesOf n = [] ↔ n = 0 := by
  constructor
  · intro h
    refine Classical.byContradiction fun h0 => ?_
    have hl := Nat.log2_self_le h0
    have hl' : n < 2 ^ (n.log2 + 1) := Nat.lt_log2_self
    have hp16 : n.log2 < 16 := (Nat.log2_lt h0).mpr hn
    obtain ⟨l, hlr, he⟩ := row_deep n.log2 (mem_sigma hp16)
    have hb : n.testBit n.log2 = true := Nat.testBit_of_two_pow_le_and_two_pow_add_one_gt hl hl'
    have hmem : l ∈ linesOf n := List.mem_flatMap.mpr ⟨_, mem_places.mpr ⟨hp16, (bit_iff _ _).mpr hb⟩, hlr⟩
    rw [h] at hmem
    cases hmem
  · rintro rfl
    decide +kernel
theorem cnt_zero {c : Nat} : ∀ {l : List Nat}, c ∉ l → cnt c l = 0
  | [], _ => rfl
  | a :: r, h => by
    rw [cnt_cons, if_neg (fun q => h (by rw [q]; exact .head _)), cnt_zero fun q => h (.tail _ q)]
    rfl
theorem count_txt : ∀ {ls : List Str}, (∀ l ∈ ls, 10 ∉ l.cps.toList) → cnt 10 (ls.flatMap fun l => 10 :: l.cps.toList) = (ls.length : Int)
  | [], _ => rfl
  | l :: r, h => by
    rw [List.flatMap_cons, cnt_append, cnt_cons, if_pos rfl, cnt_zero (h l (.head _)), count_txt fun x hx => h x (.tail _ hx), List.length_cons]
    omega
theorem count_lines (n : Nat) : Txt.count (txtOf (linesOf n)) "\n" = ((linesOf n).length : Int) := by
  have e : (("\n" : Str)) = ⟨#[10]⟩ := by decide +kernel
  rw [e, count_cnt]
  exact count_txt (lines_nonl n)
end Mine

namespace Mine
open Builtin

/-- the objects that the three accumulators and the two lists hold -/
noncomputable def Held (x d : Nat → Addr) (b : Addr) (o : Obj) : Prop :=
  (∃ i, i < 3 ∧ b = x i ∧ o.cls = .ref 107 ∧ ∃ vs n, o.data = .seq vs n) ∨ (∃ i, i < 3 ∧ b = d i ∧ o.cls = .type "dict" ∧ ∃ es ep, o.data = .dict es ep) ∨ (o.cls = .type "tuple" ∧ ∃ vs n, o.data = .seq vs n) ∨ (o.cls = .type "list" ∧ ∃ vs n, o.data = .seq vs n) ∨ (∃ v, o.data = .cell v) ∨ (o.cls = .type "list_iterator" ∧ ∃ vs, o.data = .fields vs)

structure Base (w : World) (L H NL : Addr) (x d : Nat → Addr) (ls : Nat → List Str) (num : Nat → Nat) (h : Heap) : Prop where
  accs : ∀ i, i < 3 → ∃ vs n, Acc w h (x i) (d i) vs n (ls i)
  helO : h.get? H = some (listOf #[.ref (x 0), .ref (x 1), .ref (x 2)] 0)
  nums : ∃ t0 t1 t2, h.IsList NL #[.int (num 0 : Nat) t0, .int (num 1 : Nat) t1, .int (num 2 : Nat) t2]
  cell : h.IsCell (L + 1) (some (.ref NL))
  celi : ∃ v, h.IsCell (L + 2) v

section
variable {w : World} {L H NL : Addr} {x d : Nat → Addr} {ls : Nat → List Str} {num : Nat → Nat} {h h' : Heap}

theorem Acc.mono {x d : Addr} {vs : Array Value} {n : Nat} {ls : List Str} (a : Acc w h x d vs n ls) (k : ∀ b o, (b = x ∧ o.cls = .ref 107 ∧ ∃ vs n, o.data = .seq vs n) ∨ (b = d ∧ o.cls = .type "dict" ∧ ∃ es ep, o.data = .dict es ep) ∨ (o.cls = .type "tuple" ∧ ∃ vs n, o.data = .seq vs n) → h.get? b = some o → h'.get? b = some o) : Acc w h' x d vs n ls :=
  ⟨k _ _ (.inl ⟨rfl, rfl, _, _, rfl⟩) a.obj, let ⟨t, t', e⟩ := a.dict; ⟨t, t', k _ _ (.inr (.inl ⟨rfl, rfl, _, _, rfl⟩)) e⟩, by
    have : ∀ {us : List Value} {ls : List Str}, Pieces h us ls → Pieces h' us ls := by
      intro us ls p
      induction p with
      | nil => exact .nil
      | cons e _ ih => exact .cons (k _ _ (.inr (.inr ⟨rfl, _, _, rfl⟩)) e) ih
    exact this a.pieces⟩

theorem isList_mono {D : Addr} {us : Array Value} (l : h.IsList D us) (k : ∀ b o, (o.cls = .type "list" ∧ ∃ vs n, o.data = .seq vs n) → h.get? b = some o → h'.get? b = some o) : h'.IsList D us :=
  let ⟨o, e, c, n, dd⟩ := l; ⟨o, k _ _ ⟨c, _, _, dd⟩ e, c, n, dd⟩
theorem isCell_mono {c : Addr} {v : Option Value} (l : h.IsCell c v) (k : ∀ b o, (∃ v, o.data = .cell v) → h.get? b = some o → h'.get? b = some o) : h'.IsCell c v :=
  let ⟨o, e, dd⟩ := l; ⟨o, k _ _ ⟨_, dd⟩ e, dd⟩

theorem isIter_mono {I l : Addr} {k : Nat} (it : h.IsListIter I l k) (q : ∀ b o, (o.cls = .type "list_iterator" ∧ ∃ vs, o.data = .fields vs) → h.get? b = some o → h'.get? b = some o) : h'.IsListIter I l k := by
  obtain ⟨o, e, c, dd⟩ := it
  exact ⟨o, q _ _ ⟨c, _, dd⟩ e, c, dd⟩
theorem Base.mono (B : Base w L H NL x d ls num h) (k : ∀ b o, Held x d b o → h.get? b = some o → h'.get? b = some o) : Base w L H NL x d ls num h' where
  accs := fun i hi => let ⟨vs, n, a⟩ := B.accs i hi; ⟨vs, n, a.mono fun b o q => k b o (q.elim (fun q => .inl ⟨i, hi, q⟩) fun q => q.elim (fun q => .inr (.inl ⟨i, hi, q⟩)) fun q => .inr (.inr (.inl q)))⟩
  helO := k _ _ (.inr (.inr (.inr (.inl ⟨rfl, _, _, rfl⟩)))) B.helO
  nums := let ⟨t0, t1, t2, l⟩ := B.nums; ⟨t0, t1, t2, isList_mono l fun b o q => k b o (.inr (.inr (.inr (.inl q))))⟩
  cell := isCell_mono B.cell fun b o q => k b o (.inr (.inr (.inr (.inr (.inl q)))))
  celi := let ⟨v, c⟩ := B.celi; ⟨v, isCell_mono c fun b o q => k b o (.inr (.inr (.inr (.inr (.inl q)))))⟩

theorem Base.hel (B : Base w L H NL x d ls num h) : h.IsList H #[.ref (x 0), .ref (x 1), .ref (x 2)] := ⟨_, B.helO, rfl, 0, rfl⟩
theorem Tabs.obj (T : Tabs h) : ∀ b ∈ tabs, ∀ o, h.get? b = some o → ∃ ps, o = tabO ps := by
  intro b hb o e
  obtain ⟨⟨ps, _, h1⟩, qs, _, h2⟩ := T
  simp only [List.mem_cons, List.not_mem_nil, or_false] at hb
  rcases hb with rfl | rfl
  · rw [h2.2] at e; cases e; exact ⟨_, rfl⟩
  · rw [h1.2] at e; cases e; exact ⟨_, rfl⟩

theorem Held.noTab {b : Addr} {o : Obj} (q : Held x d b o) (T : Tabs h) (e : h.get? b = some o) : b ∉ tabs := fun hb => by
  obtain ⟨ps, rfl⟩ := T.obj b hb o e
  rcases q with ⟨i, _, _, c, _⟩ | ⟨i, _, _, c, _⟩ | ⟨c, _⟩ | ⟨c, _⟩ | ⟨v, c⟩ | ⟨c, _⟩ <;> cases c
theorem Held.noL {b : Addr} {o : Obj} (q : Held x d b o) {m : Str → Option Value} (N : h.Ns L m) (e : h.get? b = some o) (hd : ∀ i, i < 3 → d i ≠ L) : b ≠ L := fun hb => by
  subst hb
  obtain ⟨o', es, ep, e', hdat, _⟩ := N
  rw [e] at e'; cases e'
  rcases q with ⟨i, _, _, _, vs, n, c⟩ | ⟨i, hi, r, _⟩ | ⟨_, vs, n, c⟩ | ⟨_, vs, n, c⟩ | ⟨v, c⟩ | ⟨_, vs, c⟩
  · rw [c] at hdat; cases hdat
  · exact hd i hi r.symm
  · rw [c] at hdat; cases hdat
  · rw [c] at hdat; cases hdat
  · rw [c] at hdat; cases hdat
  · rw [c] at hdat; cases hdat

theorem Base.tabs (B : Base w L H NL x d ls num h) (T : Tabs h) (k : ∀ b o, b ∉ tabs → h.get? b = some o → h'.get? b = some o) : Base w L H NL x d ls num h' :=
  B.mono fun b o q e => k b o (q.noTab T e) e
theorem Base.keepL (B : Base w L H NL x d ls num h) {m : Str → Option Value} (N : h.Ns L m) (hd : ∀ i, i < 3 → d i ≠ L) (k : ∀ b o, b ≠ L → h.get? b = some o → h'.get? b = some o) : Base w L H NL x d ls num h' :=
  B.mono fun b o q e => k b o (q.noL N e hd) e

theorem Base.setX (B : Base w L H NL x d ls num h) {i : Nat} (hi : i < 3) (hne : ∀ a b, a < 3 → b < 3 → x a = x b → a = b) (k : ∀ b o, b ≠ x i → h.get? b = some o → h'.get? b = some o) {vs : Array Value} {n : Nat} {l' : List Str}
    (a' : Acc w h' (x i) (d i) vs n l') : Base w L H NL x d (fun j => if j = i then l' else ls j) num h' := by
  obtain ⟨vs₀, n₀, a₀⟩ := B.accs i hi
  have ho := a₀.obj
  refine ⟨fun j hj => ?_, k _ _ (fun r => ?_) B.helO, ?_, isCell_mono B.cell fun b o q e => k b o (fun r => ?_) e, ?_⟩
  · by_cases hji : j = i
    · subst hji
      simp only [if_true]
      exact ⟨vs, n, a'⟩
    · simp only [if_neg hji]
      obtain ⟨vs₁, n₁, a₁⟩ := B.accs j hj
      refine ⟨vs₁, n₁, a₁.mono fun b o q e => k b o (fun r => ?_) e⟩
      subst r
      rcases q with ⟨q, _⟩ | ⟨_, c⟩ | ⟨c, _⟩
      · exact hji (hne j i hj hi q.symm)
      · rw [ho] at e; cases e; cases c.1
      · rw [ho] at e; cases e; cases c
  · have := B.helO; rw [r, ho] at this; cases this
  · obtain ⟨t0, t1, t2, l⟩ := B.nums
    exact ⟨t0, t1, t2, isList_mono l fun b o q e => k b o (fun r => by subst r; rw [ho] at e; cases e; cases q.1) e⟩
  · subst r; rw [ho] at e; cases e; obtain ⟨v, c⟩ := q; cases c
  · obtain ⟨v, l⟩ := B.celi
    exact ⟨v, isCell_mono l fun b o q e => k b o (fun r => by subst r; rw [ho] at e; cases e; obtain ⟨v, c⟩ := q; cases c) e⟩

theorem Base.setN (B : Base w L H NL x d ls num h) {i : Nat} (hi : i < 3) (hne : H ≠ NL) (s : Heap.SameBut NL h h') {us : Array Value} (hus : h.IsList NL us) {n' : Nat} {t' : Tok}
    (a' : h'.IsList NL (us.setIfInBounds i (.int (n' : Nat) t'))) : Base w L H NL x d ls (fun j => if j = i then n' else num j) h' := by
  obtain ⟨t0, t1, t2, oN, eN, cN, nN, dN⟩ := B.nums
  obtain ⟨o', e', c', n1, d'⟩ := hus
  have : us = #[.int (num 0 : Nat) t0, .int (num 1 : Nat) t1, .int (num 2 : Nat) t2] := by
    rw [eN] at e'; cases e'; rw [dN] at d'; cases d'; rfl
  subst this
  have k : ∀ b o, b ≠ NL → h.get? b = some o → h'.get? b = some o := fun b o hb e => (s.2 b hb).trans e
  refine ⟨fun j hj => ?_, ?_, ?_, isCell_mono B.cell fun b o q e => k b o (fun r => ?_) e, ?_⟩
  · obtain ⟨vs₁, n₁, a₁⟩ := B.accs j hj
    refine ⟨vs₁, n₁, a₁.mono fun b o q e => k b o (fun r => ?_) e⟩
    subst r
    rw [eN] at e; cases e
    rcases q with ⟨_, c, _⟩ | ⟨_, c, _⟩ | ⟨c, _⟩ <;> (rw [cN] at c; first | cases c | (injection c with c; exact absurd c (by decide)))
  · exact k _ _ hne B.helO
  · have h3 : i = 0 ∨ i = 1 ∨ i = 2 := by omega
    rcases h3 with rfl | rfl | rfl
    · exact ⟨_, _, _, a'⟩
    · exact ⟨_, _, _, a'⟩
    · exact ⟨_, _, _, a'⟩
  · subst r; rw [eN] at e; cases e; obtain ⟨v, c⟩ := q; rw [dN] at c; cases c
  · obtain ⟨v, l⟩ := B.celi
    exact ⟨v, isCell_mono l fun b o q e => k b o (fun r => by subst r; rw [eN] at e; cases e; obtain ⟨v, c⟩ := q; rw [dN] at c; cases c) e⟩

theorem Base.setC (B : Base w L H NL x d ls num h) (s : Heap.SameBut (L + 2) h h') {v' : Option Value} (a' : h'.IsCell (L + 2) v') : Base w L H NL x d ls num h' := by
  obtain ⟨v, oC, eC, dC⟩ := B.celi
  have k : ∀ b o, b ≠ L + 2 → h.get? b = some o → h'.get? b = some o := fun b o hb e => (s.2 b hb).trans e
  refine ⟨fun j hj => ?_, k _ _ (fun r => ?_) B.helO, ?_, ?_, v', a'⟩
  · obtain ⟨vs₁, n₁, a₁⟩ := B.accs j hj
    refine ⟨vs₁, n₁, a₁.mono fun b o q e => k b o (fun r => ?_) e⟩
    subst r; rw [eC] at e; cases e
    rcases q with ⟨_, _, vs, n, c⟩ | ⟨_, _, es, ep, c⟩ | ⟨_, vs, n, c⟩ <;> (rw [dC] at c; cases c)
  · have := B.helO; rw [r, eC] at this; cases this; cases dC
  · obtain ⟨t0, t1, t2, l⟩ := B.nums
    exact ⟨t0, t1, t2, isList_mono l fun b o q e => k b o (fun r => by subst r; rw [eC] at e; cases e; obtain ⟨_, vs, n, c⟩ := q; rw [dC] at c; cases c) e⟩
  · obtain ⟨o, e, c⟩ := B.cell
    exact ⟨o, k _ _ (Nat.ne_of_lt (Nat.lt_succ_self _)) e, c⟩
end
end Mine

namespace Mine
open Builtin

theorem store_cell {M : Model} {A : Around} {E : Value → Shared → Prop} {s : Shared} {name : Str} {scope : Scope} {L a : Addr} {cd : Value} {G : Heap} {m : Str → Option Value} {x : Str} {c : Addr} {v₀ : Option Value} {v : Value} {Q : Unit → Shared → Prop}
    (F : Fr G L s.heap m) (hc : (cellsFrom (L + 1) scope.names []).lookup x = some c) (hcell : s.heap.IsCell c v₀) (hcn : G.get? c = none) (hcL : c ≠ L)
    (h : ∀ h', Heap.SameBut c s.heap h' → h'.IsCell c (some v) → Fr G L h' m → Q () { s with heap := h' })
    (hk : scope.kind = .function := by rfl) (hl : (envOfC name scope L a cd).kindOf x = some .cell := by rfl) :
    wpAny M A (storeName (envOfC name scope L a cd) x v) Q E s := by
  refine wpAny_storeName_cell hk hl hc hcell fun h' hv hs => h h' hs hv ⟨F.ns.sameBut hs (Ne.symm hcL), fun b ob e => (hs.2 b (fun q => ?_)).trans (F.keep b ob e), F.above⟩
  rw [q, hcn] at e; cases e

theorem above_none {G h : Heap} {L c : Addr} {m : Str → Option Value} (F : Fr G L h m) (hc : L ≤ c) : G.get? c = none := Heap.get?_none_of_le (Nat.le_trans F.above hc)

theorem newsAdd {G h : Heap} {L D : Addr} {o : Obj} {news : List (Addr × Obj)} (N : News G L h news) (e : h.get? D = some o) (hL : D ≠ L) (hG : G.get? D = none) : News G L h ((D, o) :: news) := by
  intro p hp
  rcases List.mem_cons.mp hp with rfl | hp
  · exact ⟨e, hL, hG⟩
  · exact N p hp

/-- the ledger of a stage -/
theorem stage {w : World} {G h : Heap} {L H NL : Addr} {x d : Nat → Addr} {ls : Nat → List Str} {num : Nat → Nat} {m : Str → Option Value} (F : Fr G L h m) (B : Base w L H NL x d ls num h) {v : Option Value} (hc : h.IsCell (L + 2) v) :
    ∃ rest o₁ o₂, News G L h ((L + 2, o₁) :: (L + 1, o₂) :: rest) ∧ o₁.data = .cell v ∧ o₂.data = .cell (some (.ref NL)) ∧ h.get? (L + 2) = some o₁ ∧
      ∀ h', News G L h' rest → (∀ b o, G.get? b = some o → h'.get? b = some o) → ∀ b o, b ≠ L → h.get? b = some o → h'.get? b = some o := by
  obtain ⟨rest, N, _, KK⟩ := olds_ex F []
  obtain ⟨o₁, e₁, d₁⟩ := hc
  obtain ⟨o₂, e₂, d₂⟩ := B.cell
  have n1 : L + 1 ≠ L := Nat.ne_of_gt (Nat.lt_succ_self _)
  have n2 : L + 2 ≠ L := Nat.ne_of_gt (Nat.lt_succ_of_lt (Nat.lt_succ_self _))
  exact ⟨rest, o₁, o₂, newsAdd (newsAdd N e₂ n1 (above_none F (Nat.le_succ _))) e₁ n2 (above_none F (Nat.le_succ_of_le (Nat.le_succ _))), d₁, d₂, e₁, fun h' N' k b o hL e => KK h' N' k b o hL (by simp) e⟩

/-- what does not change while the run goes on -/
structure Fixed (G : Heap) (L H NL : Addr) (x d : Nat → Addr) : Prop where
  ne : H ≠ NL
  xne : ∀ a b, a < 3 → b < 3 → x a = x b → a = b
  xn : ∀ i, i < 3 → G.get? (x i) = none ∧ x i ≠ L
  dn : ∀ i, i < 3 → G.get? (d i) = none ∧ d i ≠ L
  Hn : G.get? H = none ∧ H ≠ L
  Nn : G.get? NL = none ∧ NL ≠ L
  tn : ∀ a ∈ tabs, G.get? a = none
  Lt : ∀ a ∈ tabs, a < L
theorem Fixed.ng {G : Heap} {L H NL : Addr} {x d : Nat → Addr} (K : Fixed G L H NL x d) {i : Nat} (hi : i < 3) : ∀ a ∈ [69, 76, x i, d i], G.get? a = none := by
  intro a ha
  simp only [List.mem_cons, List.not_mem_nil, or_false] at ha
  rcases ha with rfl | rfl | rfl | rfl
  · exact K.tn _ (by simp)
  · exact K.tn _ (by simp)
  · exact (K.xn i hi).1
  · exact (K.dn i hi).1
theorem tabsVia {w : World} {g h₂ h₄ : Heap} (X : (Kw w).In g) (k₂ : ∀ b o, g.get? b = some o → h₂.get? b = some o) (k₄ : ∀ b o, g.get? b = some o → h₄.get? b = some o) (T : Tabs h₂) (h69 : ∀ o, h₂.get? 69 = some o → h₄.get? 69 = some o) (h76 : ∀ o, h₂.get? 76 = some o → h₄.get? 76 = some o) : Tabs h₄ := by
  have c80 : ∀ o, h₂.get? 80 = some o → h₄.get? 80 = some o := fun o e => by
    have e1 := k₂ 80 _ (X 80 _ rfl)
    rw [e1] at e; cases e
    exact k₄ 80 _ (X 80 _ rfl)
  have c73 : ∀ o, h₂.get? 73 = some o → h₄.get? 73 = some o := fun o e => by
    have e1 := k₂ 73 _ (X 73 _ rfl)
    rw [e1] at e; cases e
    exact k₄ 73 _ (X 73 _ rfl)
  obtain ⟨⟨ps, hc, ht⟩, qs, hc', ht'⟩ := T
  refine ⟨⟨ps, ?_, ?_⟩, qs, ?_, ?_⟩
  · obtain ⟨o, vs, file, tf, flags, tg, inF, text, tt, op, a1, r1, r2, r3, r4, r5, r6, b1, r⟩ := hc
    exact ⟨o, vs, file, tf, flags, tg, inF, text, tt, op, c80 _ a1, r1, r2, r3, r4, r5, r6, h76 _ b1, r⟩
  · obtain ⟨⟨o, vs, e, r⟩, t⟩ := ht
    exact ⟨⟨o, vs, c80 _ e, r⟩, h76 _ t⟩
  · obtain ⟨o, vs, file, tf, flags, tg, inF, text, tt, op, a1, r1, r2, r3, r4, r5, r6, b1, r⟩ := hc'
    exact ⟨o, vs, file, tf, flags, tg, inF, text, tt, op, c73 _ a1, r1, r2, r3, r4, r5, r6, h69 _ b1, r⟩
  · obtain ⟨⟨o, vs, e, r⟩, t⟩ := ht'
    exact ⟨⟨o, vs, c73 _ e, r⟩, h69 _ t⟩
/-- what stands between two turns; the iterator and the frame stay out of hh -/
structure RunJ (w : World) (G : Heap) (os : OsState) (L H NL I : Addr) (x d : Nat → Addr) (m : Str → Option Value) (s' : Shared) : Prop where
  ghost : ∃ hh num, hh.get? I = none ∧ hh.get? L = none ∧ (∀ k, k < 3 → num k < 65536) ∧ Base w L H NL x d (fun k => linesOf (num k)) num hh ∧ Tabs hh ∧ ∀ b o, hh.get? b = some o → s'.heap.get? b = some o
  os : s'.os = os
  gens : AllBare s'.gens
  keep : ∀ b o, G.get? b = some o → s'.heap.get? b = some o
  hel : m "helds" = some (.ref H)

theorem RunJ.stab {w : World} {G : Heap} {os : OsState} {L H NL I : Addr} {x d : Nat → Addr} {m₁ m₂ : Str → Option Value} {s' : Shared} {h' : Heap} {tk : Nat} {y₀ : Str} (J : RunJ w G os L H NL I x d m₁ s') (hI : G.get? I = none) (hL : G.get? L = none) (hy : y₀ ≠ ("helds" : Str))
    (hm : m₂ = m₁ ∨ ∃ v, m₂ = fun y => if y = y₀ then some v else m₁ y) (k : ∀ b o, b ∉ [I] → b ≠ L → s'.heap.get? b = some o → h'.get? b = some o) : RunJ w G os L H NL I x d m₂ { s' with heap := h', toks := tk } where
  ghost := let ⟨hh, num, a, b, c, e, t, f⟩ := J.ghost; ⟨hh, num, a, b, c, e, t, fun b' o q => k b' o (fun r => by rw [List.mem_singleton.mp r, a] at q; cases q) (fun r => by rw [r, b] at q; cases q) (f b' o q)⟩
  os := J.os
  gens := J.gens
  keep := fun b o q => k b o (fun r => by rw [List.mem_singleton.mp r, hI] at q; cases q) (fun r => by rw [r, hL] at q; cases q) (J.keep b o q)
  hel := by
    rcases hm with rfl | ⟨v, rfl⟩
    · exact J.hel
    · simp only [Ne.symm hy, if_false]; exact J.hel

theorem Held.noI {x d : Nat → Addr} {h : Heap} {b I l : Addr} {k : Nat} {o : Obj} (q : Held x d b o) (hq : o.cls ≠ .type "list_iterator") (it : h.IsListIter I l k) (e : h.get? b = some o) : b ≠ I := fun r => by
  subst r
  obtain ⟨o', e', c, _⟩ := it
  rw [e] at e'; cases e'
  exact hq c

/-- the state at a turn's end -/
theorem RunJ.make {w : World} {G : Heap} {os : OsState} {L H NL I lc : Addr} {x d : Nat → Addr} {m : Str → Option Value} {s' : Shared} {num : Nat → Nat} {k : Nat} (X : (Kw w).In G) (K : Fixed G L H NL x d) (F : Fr G L s'.heap m) (B : Base w L H NL x d (fun k => linesOf (num k)) num s'.heap) (T : Tabs s'.heap)
    (it : s'.heap.IsListIter I lc k) (hI : G.get? I = none) (hn : ∀ k, k < 3 → num k < 65536) (ho : s'.os = os) (hg : AllBare s'.gens) (hm : m "helds" = some (.ref H)) : RunJ w G os L H NL I x d m s' where
  ghost := by
    refine ⟨hideAll s'.heap [I, L], num, hideAll_none _ (by simp), hideAll_none _ (by simp), hn, ?_, ?_, fun b o e => of_hideAll _ e⟩
    · have key : ∀ b o, Held x d b o → o.cls ≠ .type "list_iterator" → s'.heap.get? b = some o → (hideAll s'.heap [I, L]).get? b = some o := fun b o q hq e => hideAll_get _ e (fun r => by
        simp only [List.mem_cons, List.not_mem_nil, or_false] at r
        rcases r with r | r
        · exact q.noI hq it e r
        · exact q.noL F.ns e (fun i hi => (K.dn i hi).2) r)
      refine ⟨fun i hi => ?_, ?_, ?_, ?_, ?_⟩
      · obtain ⟨vs, n, a⟩ := B.accs i hi
        refine ⟨vs, n, a.mono fun b o q => key b o (q.elim (fun q => .inl ⟨i, hi, q⟩) fun q => q.elim (fun q => .inr (.inl ⟨i, hi, q⟩)) fun q => .inr (.inr (.inl q))) ?_⟩
        rcases q with ⟨_, c, _⟩ | ⟨_, c, _⟩ | ⟨c, _⟩ <;> (rw [c]; simp)
      · exact key _ _ (.inr (.inr (.inr (.inl ⟨rfl, _, _, rfl⟩)))) (by simp) B.helO
      · obtain ⟨t0, t1, t2, l⟩ := B.nums
        exact ⟨t0, t1, t2, isList_mono l fun b o q => key b o (.inr (.inr (.inr (.inl q)))) (by rw [q.1]; simp)⟩
      · obtain ⟨o, e, c⟩ := B.cell
        refine ⟨o, hideAll_get _ e (fun r => ?_), c⟩
        simp only [List.mem_cons, List.not_mem_nil, or_false] at r
        rcases r with r | r
        · obtain ⟨o', e', _, c'⟩ := it
          rw [← r, e] at e'; cases e'; rw [c] at c'; cases c'
        · exact Nat.ne_of_gt (Nat.lt_succ_self L) r
      · obtain ⟨v, o, e, c⟩ := B.celi
        refine ⟨v, o, hideAll_get _ e (fun r => ?_), c⟩
        simp only [List.mem_cons, List.not_mem_nil, or_false] at r
        rcases r with r | r
        · obtain ⟨o', e', _, c'⟩ := it
          rw [← r, e] at e'; cases e'; rw [c] at c'; cases c'
        · exact Nat.ne_of_gt (Nat.lt_succ_of_lt (Nat.lt_succ_self L)) r
    · have hGL : G.get? L = none := Heap.get?_none_of_le F.above
      have kG : ∀ b o, G.get? b = some o → (hideAll s'.heap [I, L]).get? b = some o := fun b o e => hideAll_get _ (F.keep b o e) (fun r => by
        simp only [List.mem_cons, List.not_mem_nil, or_false] at r
        rcases r with r | r
        · rw [r, hI] at e; cases e
        · rw [r, hGL] at e; cases e)
      have kT : ∀ b ∈ tabs, ∀ o, s'.heap.get? b = some o → (hideAll s'.heap [I, L]).get? b = some o := fun b hb o e => hideAll_get _ e (fun r => by
        simp only [List.mem_cons (a := b), List.not_mem_nil, or_false] at r
        rcases r with r | r
        · obtain ⟨ps, rfl⟩ := T.obj b hb o e
          obtain ⟨o', e', c', _⟩ := it
          rw [← r, e] at e'; cases e'; cases c'
        · exact Nat.lt_irrefl _ (K.Lt L (r ▸ hb)))
      exact tabsVia X F.keep kG T (kT 69 (by simp)) (kT 76 (by simp))
  os := ho
  gens := hg
  keep := F.keep
  hel := hm
/-- the ground inside a turn -/
structure Now (w : World) (G : Heap) (L H NL I lc k : Nat) (x d : Nat → Addr) (ls : Nat → List Str) (num : Nat → Nat) (m : Str → Option Value) (h : Heap) : Prop where
  F : Fr G L h m
  B : Base w L H NL x d ls num h
  T : Tabs h
  it : h.IsListIter I lc k

section
variable {w : World} {G : Heap} {L H NL I lc k : Nat} {x d : Nat → Addr} {ls : Nat → List Str} {num : Nat → Nat} {m m' : Str → Option Value} {h h' : Heap} {s s' : Shared}

theorem Now.any (n : Now w G L H NL I lc k x d ls num m h) (X : (Kw w).In G) (F' : Fr G L h' m') (tr : ∀ b o, Held x d b o → h.get? b = some o → h'.get? b = some o) (tt : ∀ b ∈ tabs, ∀ o, h.get? b = some o → h'.get? b = some o) : Now w G L H NL I lc k x d ls num m' h' :=
  ⟨F', n.B.mono tr, tabsVia X n.F.keep F'.keep n.T (tt 69 (by simp)) (tt 76 (by simp)), isIter_mono n.it fun b o q => tr b o (.inr (.inr (.inr (.inr (.inr q)))))⟩
theorem Now.walk (n : Now w G L H NL I lc k x d ls num m h) (X : (Kw w).In G) (K : Fixed G L H NL x d) (F' : Fr G L h' m') (kk : ∀ b o, b ≠ L → h.get? b = some o → h'.get? b = some o) : Now w G L H NL I lc k x d ls num m' h' :=
  n.any X F' (fun b o q e => kk b o (q.noL n.F.ns e fun i hi => (K.dn i hi).2) e) fun b hb o e => kk b o (Nat.ne_of_lt (K.Lt b hb)) e
theorem Now.went (n : Now w G L H NL I lc k x d ls num m s.heap) (K : Fixed G L H NL x d) (W : Went tabs s s') (T' : Tabs s'.heap) : Now w G L H NL I lc k x d ls num m s'.heap :=
  ⟨frWent n.F W K.tn fun q => Nat.lt_irrefl _ (K.Lt L q), n.B.tabs n.T W.keep, T', isIter_mono n.it fun b o q e => W.keep b o (Held.noTab (x := x) (d := d) (.inr (.inr (.inr (.inr (.inr q))))) n.T e) e⟩
theorem Now.all (n : Now w G L H NL I lc k x d ls num m s.heap) (W : Went [] s s') : Now w G L H NL I lc k x d ls num m s'.heap :=
  ⟨frWent n.F W (by simp) (by simp), n.B.mono fun b o _ e => W.all b o e, n.T.keep W.all, isIter_mono n.it fun b o _ e => W.all b o e⟩
theorem Now.setI (n : Now w G L H NL I lc k x d ls num m h) (X : (Kw w).In G) (K : Fixed G L H NL x d) (F' : Fr G L h' m') (sb : Heap.SameBut (L + 2) h h') {v : Option Value} (c : h'.IsCell (L + 2) v) : Now w G L H NL I lc k x d ls num m' h' := by
  have kc : ∀ b o, b ≠ L + 2 → h.get? b = some o → h'.get? b = some o := fun b o hb e => (sb.2 b hb).trans e
  have tt : ∀ b ∈ tabs, ∀ o, h.get? b = some o → h'.get? b = some o := fun b hb o e => kc b o (Nat.ne_of_lt (Nat.lt_succ_of_lt (Nat.lt_succ_of_lt (K.Lt b hb)))) e
  refine ⟨F', n.B.setC sb c, tabsVia X n.F.keep F'.keep n.T (tt 69 (by simp)) (tt 76 (by simp)), ?_⟩
  obtain ⟨v₀, oC, eC, dC⟩ := n.B.celi
  refine isIter_mono n.it fun b o q e => kc b o (fun r => ?_) e
  subst r; rw [eC] at e; cases e; obtain ⟨_, vs, c⟩ := q; rw [dC] at c; cases c
theorem Now.setX (n : Now w G L H NL I lc k x d ls num m s.heap) (X : (Kw w).In G) (K : Fixed G L H NL x d) {i : Nat} (hi : i < 3) (W : Went [x i] s s') {vs : Array Value} {nn : Nat} {l' : List Str} (a' : Acc w s'.heap (x i) (d i) vs nn l') :
    Now w G L H NL I lc k x d (fun j => if j = i then l' else ls j) num m s'.heap := by
  have kc : ∀ b o, b ≠ x i → s.heap.get? b = some o → s'.heap.get? b = some o := fun b o hb e => W.keep b o (by simpa using hb) e
  obtain ⟨vs₀, n₀, a₀⟩ := n.B.accs i hi
  have ho := a₀.obj
  have F' : Fr G L s'.heap m := frWent n.F W (fun a ha => by rw [List.mem_singleton.mp ha]; exact (K.xn i hi).1) (by simpa using Ne.symm (K.xn i hi).2)
  have tt : ∀ b ∈ tabs, ∀ o, s.heap.get? b = some o → s'.heap.get? b = some o := fun b hb o e => kc b o (fun r => by
    subst r
    obtain ⟨ps, rfl⟩ := n.T.obj _ hb o e
    rw [ho] at e; cases e) e
  refine ⟨F', n.B.setX hi K.xne kc a', tabsVia X n.F.keep F'.keep n.T (tt 69 (by simp)) (tt 76 (by simp)), ?_⟩
  refine isIter_mono n.it fun b o q e => kc b o (fun r => ?_) e
  subst r; rw [ho] at e; cases e; cases q.1
theorem Now.setN (n : Now w G L H NL I lc k x d ls num m h) (X : (Kw w).In G) (K : Fixed G L H NL x d) (F' : Fr G L h' m') {i : Nat} (hi : i < 3) (sb : Heap.SameBut NL h h') {us : Array Value} (hus : h.IsList NL us) {n' : Nat} {t' : Tok}
    (a' : h'.IsList NL (us.setIfInBounds i (.int (n' : Nat) t'))) : Now w G L H NL I lc k x d ls (fun j => if j = i then n' else num j) m' h' := by
  have kc : ∀ b o, b ≠ NL → h.get? b = some o → h'.get? b = some o := fun b o hb e => (sb.2 b hb).trans e
  obtain ⟨o₀, e₀, c₀, n₀, d₀⟩ := id hus
  have tt : ∀ b ∈ tabs, ∀ o, h.get? b = some o → h'.get? b = some o := fun b hb o e => kc b o (fun r => by
    subst r
    obtain ⟨ps, rfl⟩ := n.T.obj _ hb o e
    rw [e₀] at e; cases e; cases c₀) e
  refine ⟨F', n.B.setN hi K.ne sb hus a', tabsVia X n.F.keep F'.keep n.T (tt 69 (by simp)) (tt 76 (by simp)), ?_⟩
  refine isIter_mono n.it fun b o q e => kc b o (fun r => ?_) e
  subst r; rw [e₀] at e; cases e
  obtain ⟨_, vs, c⟩ := q
  rw [d₀] at c; cases c
theorem Now.tr (n : Now w G L H NL I lc k x d ls num m h) (K : Fixed G L H NL x d) (kk : ∀ b o, b ≠ L → h.get? b = some o → h'.get? b = some o) : ∀ b o, Held x d b o → h.get? b = some o → h'.get? b = some o :=
  fun b o q e => kk b o (q.noL n.F.ns e fun i hi => (K.dn i hi).2) e
theorem Now.trT (n : Now w G L H NL I lc k x d ls num m s.heap) (W : Went tabs s s') : ∀ b o, Held x d b o → s.heap.get? b = some o → s'.heap.get? b = some o :=
  fun b o q e => W.keep b o (q.noTab n.T e) e
theorem cellTr {c : Addr} {v : Option Value} (l : h.IsCell c v) (t : ∀ b o, Held x d b o → h.get? b = some o → h'.get? b = some o) : h'.IsCell c v := isCell_mono l fun b o q => t b o (.inr (.inr (.inr (.inr (.inl q)))))
theorem listTr {D : Addr} {us : Array Value} {nu : Nat} (l : h.get? D = some (listOf us nu)) (t : ∀ b o, Held x d b o → h.get? b = some o → h'.get? b = some o) : h'.get? D = some (listOf us nu) := t _ _ (.inr (.inr (.inr (.inl ⟨rfl, _, _, rfl⟩)))) l
theorem piecesTr {us : List Value} {ls : List Str} (l : Pieces h us ls) (t : ∀ b o, Held x d b o → h.get? b = some o → h'.get? b = some o) : Pieces h' us ls := by
  induction l with
  | nil => exact .nil
  | cons e _ ih => exact .cons (t _ _ (.inr (.inr (.inl ⟨rfl, _, _, rfl⟩))) e) ih
theorem ref_at (x : Nat → Addr) {i : Nat} (hi : i < 3) : (#[Value.ref (x 0), Value.ref (x 1), Value.ref (x 2)] : Array Value)[i]? = some (.ref (x i)) := by
  have h3 : i = 0 ∨ i = 1 ∨ i = 2 := by omega
  rcases h3 with rfl | rfl | rfl <;> rfl
theorem num_at (f : Nat → Nat) (t0 t1 t2 : Tok) {i : Nat} (hi : i < 3) : ∃ t, (#[Value.int (f 0 : Nat) t0, Value.int (f 1 : Nat) t1, Value.int (f 2 : Nat) t2] : Array Value)[i]? = some (.int (f i : Nat) t) := by
  have h3 : i = 0 ∨ i = 1 ∨ i = 2 := by omega
  rcases h3 with rfl | rfl | rfl <;> exact ⟨_, rfl⟩
theorem lines_sum (n : Nat) : ((linesOf n).map (·.length)).sum + (linesOf n).length ≤ 100000 := Nat.le_trans (fit_lines n).sum (by decide)
end
end Mine

namespace Mine
open Builtin

/-- the body and the scope of a def that the ledger holds -/
noncomputable def bodyIn {K : Frag} {f : Addr} {name qual : Str} {params : Arguments} {body : List Stmt} {scope : Scope} {dV kV doc pm cdv ct oc : Value} {an od : Option Addr} {osl : Array (Option Value)}
    (_ : K.lookup f = some ⟨oc, od, .func (fnOf name qual params body scope dV kV doc pm an cdv ct), osl⟩) : List Stmt := body
noncomputable def scopeIn {K : Frag} {f : Addr} {name qual : Str} {params : Arguments} {body : List Stmt} {scope : Scope} {dV kV doc pm cdv ct oc : Value} {an od : Option Addr} {osl : Array (Option Value)}
    (_ : K.lookup f = some ⟨oc, od, .func (fnOf name qual params body scope dV kV doc pm an cdv ct), osl⟩) : Scope := scope
noncomputable def body201 (P : Params) : List Stmt := bodyIn (K := hd.heap_39 P) (f := 201) (by k_is)
noncomputable def scope201 (P : Params) : Scope := scopeIn (K := hd.heap_39 P) (f := 201) (by k_is)
noncomputable def forBody : List Stmt → List Stmt
  | .For _ _ b _ _ :: _ => b
  | _ => []
noncomputable abbrev turn (P : Params) (k : Nat) : List Stmt := (forBody ((body201 P).drop 2)).drop k
noncomputable abbrev env201 (P : Params) (L : Addr) : Env := envOfC (Str.ofString "_law_run") (scope201 P) L 201 (.ref 200)

theorem Fr.put {G h : Heap} {L : Addr} {m : Str → Option Value} {y : Str} {v : Value} (F : Fr G L h m) (hv : m y = some v) : Fr G L h (fun z => if z = y then some v else m z) := by
  have e : m = fun z => if z = y then some v else m z := by
    funext z
    by_cases q : z = y
    · rw [if_pos q, q]; exact hv
    · rw [if_neg q]
  rw [← e]; exact F
theorem Now.put {w : World} {G : Heap} {L H NL I lc k : Nat} {x d : Nat → Addr} {ls : Nat → List Str} {num : Nat → Nat} {m : Str → Option Value} {h : Heap} {y : Str} {v : Value} (n : Now w G L H NL I lc k x d ls num m h) (hv : m y = some v) : Now w G L H NL I lc k x d ls num (fun z => if z = y then some v else m z) h :=
  ⟨Fr.put n.F hv, n.B, n.T, n.it⟩
end Mine

namespace Mine
open Builtin

section
variable {w : World} {mean : ExcName → Option Value} {mg mb : Str → Option Value} {A : Around} {G : Heap} {L H NL I lc k : Nat} {x d : Nat → Addr} {num : Nat → Nat} {m : Str → Option Value} {s₁ : Shared} {Q : Flow → Shared → Prop} {c : Nat} {tc : Tok}

set_option maxHeartbeats 4000000 in
theorem stA (rd : ∀ env, Room (A.deeper env) 14) (SG : St w mean mg mb G) (K : Fixed G L H NL x d) (n₁ : Now w G L H NL I lc k x d (fun k => linesOf (num k)) num m s₁.heap) (hg : AllBare s₁.gens) (c54 : c < 54) (hc : m "code" = some (.int (c : Nat) tc)) (hh : m "helds" = some (.ref H))
    (h : ∀ s₄ D us nu ti tj m', Now w G L H NL I lc k x d (fun k => linesOf (num k)) num m' s₄.heap → s₄.heap.IsCell (L + 2) (some (.int (c / 6 % 3 : Nat) ti)) → s₄.os = s₁.os → AllBare s₄.gens → s₄.heap.get? D = some (listOf us nu) → G.get? D = none → D ≠ L →
      StrsAre us.toList (linesOf (num (c / 6 % 3))) → m' "code" = some (.int (c : Nat) tc) → m' "helds" = some (.ref H) → m' "j" = some (.int (c / 18 : Nat) tj) → m' "old" = some (.ref D) → wpAny (model prg w) (A.deeper (env201 w.params L)) (execs (turn w.params 3) (env201 w.params L)) Q (fun _ _ => False) s₄) :
    wpAny (model prg w) (A.deeper (env201 w.params L)) (execs (turn w.params 0) (env201 w.params L)) Q (fun _ _ => False) s₁ := by
  unfold turn body201 bodyIn forBody env201 scope201 scopeIn
  dsimp only [List.drop]
  have SG' := SG
  obtain ⟨X, T, GL⟩ := SG
  have n₁' := (n₁.put hh).put (y := "code") ((if_neg (by decide)).trans hc)
  clear n₁
  obtain ⟨v₀, c₁⟩ := n₁'.B.celi
  have F₁ := n₁'.F
  obtain ⟨rest, o₁, o₂, N₁, y₁, y₂, e₁, KK⟩ := stage F₁ n₁'.B c₁
  k_steps
  have ei : ((c : Int).fdiv 6).fmod 3 = ((c / 6 % 3 : Nat) : Int) := by
    rw [Int.fdiv_eq_ediv_of_nonneg _ (by decide), Int.fmod_eq_emod_of_nonneg _ (by decide)]
    rfl
  rw [ei]
  have hi3 : c / 6 % 3 < 3 := Nat.mod_lt _ (by decide)
  dsimp only
  refine store_cell (c := L + 2) F₁ rfl ⟨o₁, e₁, y₁⟩ (above_none F₁ (Nat.le_succ_of_le (Nat.le_succ _))) (Nat.ne_of_gt (Nat.lt_succ_of_lt (Nat.lt_succ_self _))) fun h₂ s₂ c₂ F₂ => ?_
  have n₂ := n₁'.setI X K F₂ s₂ c₂
  clear n₁' KK F₁ N₁ s₂ c₁ y₁ y₂ e₁ o₁ o₂ rest
  obtain ⟨rest, o₁, o₂, N₂, y₁, y₂, e₁, KK⟩ := stage F₂ n₂.B c₂
  dsimp only
  k_steps
  rename_i h₃ F₃ N₃
  have kk₃ := KK h₃ (fun p hp => N₃ p (.tail _ (.tail _ hp))) F₃.keep
  have n₃ := n₂.walk X K F₃ kk₃
  have c₃ := cellTr c₂ (n₂.tr K kk₃)
  clear n₂ c₂ KK kk₃ y₁ y₂ e₁
  have ej : ((c : Int).fdiv 18) = ((c / 18 : Nat) : Int) := by
    rw [Int.fdiv_eq_ediv_of_nonneg _ (by decide)]
    rfl
  rw [ej] at F₃ n₃
  dsimp only at F₃ n₃ c₃ ⊢
  obtain ⟨vsi, nni, ai⟩ := n₃.B.accs (c / 6 % 3) hi3
  refine sub_at n₃.B.hel (Nat.lt_trans hi3 (by decide)) (ref_at x hi3) ?_
  walk1
  walk1
  refine wpAny_call (lines_body ((rd _).mono (by omega)) SG' F₃.keep (K.ng hi3) ai n₃.T (lines_sum _) hg (lines_nonl _) fun s₄ D us₄ nu₄ w₄ t₄ hD hDl hDs => ?_)
  have n₄ := n₃.went K w₄ t₄
  have c₄ := cellTr c₃ (n₃.trT w₄)
  have fD := freshOf F₃ hD
  have F₄ := n₄.F
  have hos₄ : s₄.os = s₁.os := w₄.os
  have hgs₄ : AllBare s₄.gens := w₄.gens hg
  clear n₃ c₃ F₃ N₃ ai t₄ hD
  obtain ⟨rest, o₁, o₂, N₄, y₁, y₂, e₁, KK⟩ := stage F₄ n₄.B c₄
  dsimp only
  walk1
  walk1
  rename_i h₅ F₅ N₅
  have kk₅ := KK h₅ (fun p hp => N₅ p (.tail _ (.tail _ hp))) F₅.keep
  have n₅ := n₄.walk X K F₅ kk₅
  have c₅ := cellTr c₄ (n₄.tr K kk₅)
  have hD₅ := listTr hDl (n₄.tr K kk₅)
  exact h _ D us₄ nu₄ _ _ _ n₅ c₅ hos₄ hgs₄ hD₅ fD.1 fD.2 hDs rfl rfl rfl rfl
end
end Mine

namespace Mine
open Builtin

section
variable {w : World} {mean : ExcName → Option Value} {mg mb : Str → Option Value} {A : Around} {G : Heap} {L H NL I lc k : Nat} {x d : Nat → Addr} {num : Nat → Nat} {m : Str → Option Value} {s₁ : Shared} {Q : Flow → Shared → Prop} {c : Nat} {tc : Tok}
variable {ii jj : Nat} {ti tj : Tok} {D : Addr} {us : Array Value} {nu : Nat}

set_option maxHeartbeats 4000000 in
theorem stB (rd : ∀ env, Room (A.deeper env) 14) (SG : St w mean mg mb G) (K : Fixed G L H NL x d) (n₁ : Now w G L H NL I lc k x d (fun k => linesOf (num k)) num m s₁.heap) (hg : AllBare s₁.gens) (hii : ii < 3) (hjj : jj < 3) (hlt : ∀ k, k < 3 → num k < 65536)
    (c₁ : s₁.heap.IsCell (L + 2) (some (.int (ii : Nat) ti))) (hD : s₁.heap.get? D = some (listOf us nu)) (gD : G.get? D = none) (lD : D ≠ L) (hDs : StrsAre us.toList (linesOf (num ii)))
    (hc : m "code" = some (.int (c : Nat) tc)) (hh : m "helds" = some (.ref H)) (hj : m "j" = some (.int (jj : Nat) tj)) (ho : m "old" = some (.ref D))
    (h : ∀ s₄ Bk bs m', Now w G L H NL I lc k x d (fun k => linesOf (num k)) num m' s₄.heap → s₄.heap.IsCell (L + 2) (some (.int (ii : Nat) ti)) → s₄.os = s₁.os → AllBare s₄.gens → s₄.heap.get? D = some (listOf us nu) →
      IsSet w s₄.heap Bk bs → G.get? Bk = none → Bk ≠ L → (∀ z, z ∈ bs ↔ z ∈ rows (numOf (c % 6) (num ii) (num jj))) →
      m' "code" = some (.int (c : Nat) tc) → m' "j" = some (.int (jj : Nat) tj) → m' "helds" = some (.ref H) → m' "old" = some (.ref D) → m' "blocks" = some (.ref Bk) → wpAny (model prg w) (A.deeper (env201 w.params L)) (execs (turn w.params 4) (env201 w.params L)) Q (fun _ _ => False) s₄) :
    wpAny (model prg w) (A.deeper (env201 w.params L)) (execs (turn w.params 3) (env201 w.params L)) Q (fun _ _ => False) s₁ := by
  unfold turn body201 bodyIn forBody env201 scope201 scopeIn
  dsimp only [List.drop]
  have SG' := SG
  obtain ⟨X, T, GL⟩ := SG
  have n₄ := (((n₁.put hh).put (y := "code") ((if_neg (by decide)).trans hc)).put (y := "j") ((if_neg (by decide)).trans ((if_neg (by decide)).trans hj))).put (y := "old") ((if_neg (by decide)).trans ((if_neg (by decide)).trans ((if_neg (by decide)).trans ho)))
  clear n₁
  have F₄ := n₄.F
  obtain ⟨rest, o₁, o₂, N₄', y₁, y₂, e₁, KK⟩ := stage F₄ n₄.B c₁
  have N₄ := newsAdd N₄' hD lD gD
  clear N₄'
  k_steps
  clear KK y₁ y₂ e₁
  dsimp only
  obtain ⟨vsj, nnj, aj⟩ := n₄.B.accs jj hjj
  refine sub_at n₄.B.hel (Nat.lt_trans hjj (by decide)) (ref_at x hjj) ?_
  walk1
  walk1
  refine wpAny_call (lines_body ((rd _).mono (by omega)) SG' F₄.keep (K.ng hjj) aj n₄.T (lines_sum _) hg (lines_nonl _) fun s₆ D₂ us₆ nu₆ w₆ t₆ hD₂ hD₂l hD₂s => ?_)
  replace w₆ : Went tabs s₁ s₆ := ⟨w₆.os, w₆.gens, w₆.keep⟩
  have n₆ := n₄.went K w₆ t₆
  dsimp only
  have c₆ := cellTr c₁ (n₄.trT w₆)
  have hD₆ := listTr hD (n₄.trT w₆)
  have fD₂ := freshOf F₄ hD₂
  have F₆ := n₆.F
  have hos₆ : s₆.os = s₁.os := w₆.os
  have hgs₆ : AllBare s₆.gens := w₆.gens hg
  clear n₄ c₁ F₄ N₄ aj w₆ t₆ hD₂ hD
  have em6 : ((c : Int).fmod 6) = ((c % 6 : Nat) : Int) := by
    rw [Int.fmod_eq_emod_of_nonneg _ (by decide)]
    rfl
  have hd6 : c % 6 < 6 := Nat.mod_lt _ (by decide)
  obtain ⟨rest, o₁, o₂, N₆', y₁, y₂, e₁, KK⟩ := stage F₆ n₆.B c₆
  have N₆ := newsAdd N₆' hD₆ lD gD
  clear N₆'
  rw [em6]
  k_steps
  refine wpAny_call (deed_body ((rd _).mono (by omega)) (SG'.keeps fun b o e => F₆.keep b o e) hd6 hD₆ hDs hD₂l hD₂s (fit_lines _) (fit_lines _) (fun _ => fit_cut _) fun s₇ Bk bs w₇ hBk iBk mBk => ?_)
  have n₇ := n₆.all w₇
  have c₇ := cellTr (x := x) (d := d) c₆ (fun b o _ e => w₇.all b o e)
  have hD₇ := w₇.all _ _ hD₆
  have fB := freshOf F₆ hBk
  have F₇ := n₇.F
  have hos₇ : s₇.os = s₁.os := w₇.os.trans hos₆
  have hgs₇ : AllBare s₇.gens := w₇.gens hgs₆
  have mBk' : ∀ z, z ∈ bs ↔ z ∈ rows (numOf (c % 6) (num ii) (num jj)) := fun z => (mBk z).trans (deed_law hd6 (hlt jj hjj) z)
  clear n₆ c₆ hD₆ F₆ N₆ w₇ hBk KK mBk hD₂l hD₂s fD₂ us₆ D₂ y₁ y₂ e₁
  obtain ⟨oB, hoB, hsB⟩ := iBk
  obtain ⟨rest, o₁, o₂, N₇', y₁, y₂, e₁, KK⟩ := stage F₇ n₇.B c₇
  have N₇ := newsAdd (newsAdd N₇' hD₇ lD gD) hoB fB.2 fB.1
  clear N₇'
  walk1
  walk1
  rename_i h₈ F₈ N₈
  have kk₈ := KK h₈ (fun p hp => N₈ p (.tail _ (.tail _ (.tail _ (.tail _ hp))))) F₈.keep
  exact h _ Bk bs _ (n₇.walk X K F₈ kk₈) (cellTr c₇ (n₇.tr K kk₈)) hos₇ hgs₇ (listTr hD₇ (n₇.tr K kk₈)) ⟨oB, (N₈ _ (.head _)).1, hsB⟩ fB.1 fB.2 mBk' rfl rfl rfl rfl rfl
end
end Mine

namespace Mine
open Builtin

section
variable {w : World} {mean : ExcName → Option Value} {mg mb : Str → Option Value} {A : Around} {G : Heap} {L H NL I lc k : Nat} {x d : Nat → Addr} {num : Nat → Nat} {m : Str → Option Value} {s₁ : Shared} {Q : Flow → Shared → Prop} {c : Nat} {tc : Tok}
variable {ii nn : Nat} {ti : Tok} {D Bk : Addr} {us : Array Value} {nu : Nat} {bs : List Str}

set_option maxHeartbeats 4000000 in
theorem stC (rd : ∀ env, Room (A.deeper env) 14) (SG : St w mean mg mb G) (K : Fixed G L H NL x d) (n₁ : Now w G L H NL I lc k x d (fun k => linesOf (num k)) num m s₁.heap)
    (c₁ : s₁.heap.IsCell (L + 2) (some (.int (ii : Nat) ti))) (hD : s₁.heap.get? D = some (listOf us nu)) (gD : G.get? D = none) (lD : D ≠ L)
    (hB : IsSet w s₁.heap Bk bs) (gB : G.get? Bk = none) (lB : Bk ≠ L) (mB : ∀ z, z ∈ bs ↔ z ∈ rows nn)
    (hc : m "code" = some (.int (c : Nat) tc)) (hh : m "helds" = some (.ref H)) (ho : m "old" = some (.ref D)) (hb : m "blocks" = some (.ref Bk))
    (h : ∀ s₄ D₃ us₃ m', Now w G L H NL I lc k x d (fun k => linesOf (num k)) num m' s₄.heap → s₄.heap.IsCell (L + 2) (some (.int (ii : Nat) ti)) → s₄.os = s₁.os → s₄.gens = s₁.gens → s₄.heap.get? D = some (listOf us nu) →
      s₄.heap.get? D₃ = some (listOf us₃ 0) → G.get? D₃ = none → D₃ ≠ L → StrsAre us₃.toList (linesOf nn) →
      m' "code" = some (.int (c : Nat) tc) → m' "j" = m "j" → m' "helds" = some (.ref H) → m' "old" = some (.ref D) → m' "fresh" = some (.ref D₃) → wpAny (model prg w) (A.deeper (env201 w.params L)) (execs (turn w.params 5) (env201 w.params L)) Q (fun _ _ => False) s₄) :
    wpAny (model prg w) (A.deeper (env201 w.params L)) (execs (turn w.params 4) (env201 w.params L)) Q (fun _ _ => False) s₁ := by
  unfold turn body201 bodyIn forBody env201 scope201 scopeIn
  dsimp only [List.drop]
  have SG' := SG
  obtain ⟨X, T, GL⟩ := SG
  have n₇ := (((n₁.put hh).put (y := "code") ((if_neg (by decide)).trans hc)).put (y := "old") ((if_neg (by decide)).trans ((if_neg (by decide)).trans ho))).put (y := "blocks") ((if_neg (by decide)).trans ((if_neg (by decide)).trans ((if_neg (by decide)).trans hb)))
  clear n₁
  have F₇ := n₇.F
  obtain ⟨oB, hoB, hsB⟩ := hB
  obtain ⟨rest, o₁, o₂, N₇', y₁, y₂, e₁, KK⟩ := stage F₇ n₇.B c₁
  have N₇ := newsAdd (newsAdd N₇' hD lD gD) hoB lB gB
  clear N₇'
  walk1
  walk1
  walk1
  walk1
  walk1
  walk1
  walk1
  walk1
  walk1
  walk1
  walk1
  walk1
  walk1
  walk1
  walk1
  refine sorted_set (show (A.deeper _).handled = none from (rd default).hh) ⟨oB, (N₇ _ (.head _)).1, hsB⟩ fun h₉ dr₉ tk₉ D₉ vs₉ ls₉ ne₉ k₉ hD₉ e₉ st₉ pm₉ so₉ => ?_
  obtain ⟨_, _, _, _, _, _, hnd, _⟩ := hsB
  have els := sorted_rows hnd mB pm₉ so₉
  subst els
  have F₉ := Fr.keeps F₇ k₉
  have n₉ := n₇.any X F₉ (fun b o _ e => k₉ b o e) (fun b _ o e => k₉ b o e)
  have c₉ := cellTr (x := x) (d := d) c₁ (fun b o _ e => k₉ b o e)
  have hD₉' := k₉ _ _ hD
  have f₉ := freshOf F₇ hD₉
  clear n₇ c₁ hD F₇ N₇ hD₉ k₉ mB pm₉ so₉ hnd KK y₁ y₂ e₁ hoB
  obtain ⟨rest, o₁, o₂, N₉', y₁, y₂, e₁, KK⟩ := stage F₉ n₉.B c₉
  have N₉ := newsAdd N₉' hD₉' lD gD
  clear N₉'
  have e0 : (("" : Str)).length = 0 := by decide +kernel
  dsimp only
  walk1
  refine join_list ⟨_, e₉, rfl, _, rfl⟩ st₉ (by rw [e0]; have := rows_sum nn; omega) fun t' k' => ?_
  walk1
  walk1
  walk1
  walk1
  walk1
  refine KSpl.split1 F₉ N₉ (by decide +kernel) (fun D₁ l h₁₀ tk₁₀ el hl F₁₀ N₁₀ _ => ?_) (by rw [join_len]; exact Nat.le_trans (Nat.add_le_add_right (rows_sum nn) 2) (by decide))
  rw [split_rows] at el
  rw [el] at hl
  clear F₉ N₉
  walk1
  walk1
  walk1
  walk1
  walk1
  walk1
  have hll : l.length = (linesOf nn).length + 1 := by have := congrArg List.length el; simpa using this
  have hl176 := lines_len nn
  have hsz : (strValues l).toArray.size ≤ sizeLine := by
    have : (strValues l).toArray.size = l.length := by simp [strValues]
    rw [this, hll]
    exact Nat.le_trans (Nat.add_le_add_right hl176 1) (by decide)
  dsimp only
  refine' kmk_slice (s := { heap := h₁₀, gens := s₁.gens, drawn := dr₉, toks := tk₁₀ + 1, os := s₁.os }) ?sF ?sN ?sl ?sp ?sq ?_ ?ss ?st ?sz
  case sF => exact F₁₀
  case sN => exact N₁₀
  case sz => exact hsz
  case sl => exact ⟨_, (N₁₀ _ (.head _)).1, rfl, 0, rfl⟩
  case sp => exact .int _ _
  case sq => exact .none
  case ss => with_unfolding_all rfl
  case st => intro _; with_unfolding_all rfl
  intro D₃ h₁₁ F₁₁ N₁₁ l₁₁
  clear F₁₀ N₁₀
  dsimp only
  have hfs : StrsAre (slicePick (strValues l).toArray (some 1) none none).toList (linesOf nn) := by
    have e1 : (1 : Int) = ((1 : Nat) : Int) := rfl
    rw [e1, slicePick_from _ 1 (by have := congrArg List.length el; simp [strValues] at this ⊢; omega)]
    have := strs_drop hl 1
    simpa using this
  generalize slicePick (strValues l).toArray (some 1) none none = usf at *
  have f₃ : G.get? D₃ = none ∧ D₃ ≠ L := ⟨(N₁₁ _ (.head _)).2.2, (N₁₁ _ (.head _)).2.1⟩
  walk1
  walk1
  rename_i h₁₂ F₁₂ N₁₂
  have kk := KK h₁₂ (fun p hp => N₁₂ p (.tail _ (.tail _ (.tail _ (.tail _ (.tail _ hp)))))) F₁₂.keep
  exact h _ D₃ usf _ (n₉.walk X K F₁₂ kk) (cellTr c₉ (n₉.tr K kk)) rfl rfl (listTr hD₉' (n₉.tr K kk)) (N₁₂ _ (.head _)).1 f₃.1 f₃.2 hfs rfl rfl rfl rfl rfl
end
end Mine

namespace Mine
open Builtin

section
variable {w : World} {mean : ExcName → Option Value} {mg mb : Str → Option Value} {A : Around} {G : Heap} {L H NL I lc k : Nat} {x d : Nat → Addr} {num : Nat → Nat} {m : Str → Option Value} {s₁ : Shared} {Q : Flow → Shared → Prop} {c : Nat} {tc : Tok}
variable {ii nn : Nat} {ti : Tok} {D D₃ : Addr} {us us₃ : Array Value} {nu : Nat} {old fre : List Str}

theorem map_twice {y : Str} {a b : Option Value} {m : Str → Option Value} : (fun z => if z = y then a else if z = y then b else m z) = fun z => if z = y then a else m z := by
  funext z
  by_cases q : z = y <;> simp [q]
/-- a goal at which a walk shall end -/
noncomputable def StopAt (P : Prop) : Prop := P
theorem take_same {α : Type} {a b : List α} {k : Nat} {v : α} (h : a.take k = b.take k) (ha : a[k]? = some v) (hb : b[k]? = some v) : a.take (k + 1) = b.take (k + 1) := by
  rw [List.take_add_one, List.take_add_one, h, ha, hb]

set_option maxHeartbeats 4000000 in
theorem stD (rd : ∀ env, Room (A.deeper env) 14) (SG : St w mean mg mb G) (K : Fixed G L H NL x d) (n₁ : Now w G L H NL I lc k x d (fun k => linesOf (num k)) num m s₁.heap)
    (c₁ : s₁.heap.IsCell (L + 2) (some (.int (ii : Nat) ti))) (hD : s₁.heap.get? D = some (listOf us nu)) (gD : G.get? D = none) (lD : D ≠ L) (hDs : StrsAre us.toList old)
    (hD₃ : s₁.heap.get? D₃ = some (listOf us₃ 0)) (gD₃ : G.get? D₃ = none) (lD₃ : D₃ ≠ L) (hD₃s : StrsAre us₃.toList fre) (ol : old.length ≤ 176) (fl : fre.length ≤ 176)
    (hc : m "code" = some (.int (c : Nat) tc)) (hh : m "helds" = some (.ref H)) (ho : m "old" = some (.ref D)) (hf : m "fresh" = some (.ref D₃))
    (h : ∀ s₄ kk tk m', Now w G L H NL I lc k x d (fun k => linesOf (num k)) num m' s₄.heap → s₄.heap.IsCell (L + 2) (some (.int (ii : Nat) ti)) → s₄.os = s₁.os → s₄.gens = s₁.gens → s₄.heap.get? D = some (listOf us nu) →
      s₄.heap.get? D₃ = some (listOf us₃ 0) → kk ≤ old.length → kk ≤ fre.length → old.take kk = fre.take kk →
      m' "code" = some (.int (c : Nat) tc) → m' "j" = m "j" → m' "helds" = some (.ref H) → m' "old" = some (.ref D) → m' "fresh" = some (.ref D₃) → m' "k" = some (.int (kk : Nat) tk) → wpAny (model prg w) (A.deeper (env201 w.params L)) (execs (turn w.params 7) (env201 w.params L)) Q (fun _ _ => False) s₄) :
    wpAny (model prg w) (A.deeper (env201 w.params L)) (execs (turn w.params 5) (env201 w.params L)) Q (fun _ _ => False) s₁ := by
  unfold turn body201 bodyIn forBody env201 scope201 scopeIn
  dsimp only [List.drop]
  have SG' := SG
  obtain ⟨X, T, GL⟩ := SG
  have n₂ := (((n₁.put hh).put (y := "code") ((if_neg (by decide)).trans hc)).put (y := "old") ((if_neg (by decide)).trans ((if_neg (by decide)).trans ho))).put (y := "fresh") ((if_neg (by decide)).trans ((if_neg (by decide)).trans ((if_neg (by decide)).trans hf)))
  clear n₁
  have F₂ := n₂.F
  obtain ⟨rest, o₁, o₂, N₂', y₁, y₂, e₁, KK⟩ := stage F₂ n₂.B c₁
  have N₂ := newsAdd (newsAdd N₂' hD lD gD) hD₃ lD₃ gD₃
  clear N₂'
  walk1
  walk1
  walk1
  walk1
  walk1
  rename_i h₃ F₃ N₃
  have ols : us.size = old.length := by have := strs_len hDs; simpa using this
  have frs : us₃.size = fre.length := by have := strs_len hD₃s; simpa using this
  refine wpAny_mono (Q := fun f s' => StopAt (∃ (kk : Nat) (tk : Tok) (h' : Heap) (tk' : Nat), f = .next ∧ s' = { s₁ with heap := h', toks := tk' } ∧ kk ≤ old.length ∧ kk ≤ fre.length ∧ old.take kk = fre.take kk ∧ Fr G L h' (fun z => if z = ("k" : Str) then some (.int (kk : Nat) tk) else if z = ("fresh" : Str) then some (.ref D₃) else if z = ("old" : Str) then some (.ref D) else if z = ("code" : Str) then some (.int (c : Nat) tc) else if z = ("helds" : Str) then some (.ref H) else m z) ∧ News G L h' ((D₃, listOf us₃ 0) :: (D, listOf us nu) :: (L + 2, o₁) :: (L + 1, o₂) :: rest))) ?whl (fun f s' hq => ?aft) (fun _ _ e => e)
  case whl =>
    refine While_inv (fun cnt mm news₁ => ∃ (kk : Nat) (tk : Tok), cnt = old.length - kk ∧ kk ≤ old.length ∧ kk ≤ fre.length ∧ old.take kk = fre.take kk ∧ mm = (fun z => if z = ("k" : Str) then some (.int (kk : Nat) tk) else if z = ("fresh" : Str) then some (.ref D₃) else if z = ("old" : Str) then some (.ref D) else if z = ("code" : Str) then some (.int (c : Nat) tc) else if z = ("helds" : Str) then some (.ref H) else m z) ∧ news₁ = ((D₃, listOf us₃ 0) :: (D, listOf us nu) :: (L + 2, o₁) :: (L + 1, o₂) :: rest)) (n₀ := old.length) F₃ N₃ ⟨0, _, rfl, Nat.zero_le _, Nat.zero_le _, rfl, rfl, rfl⟩ ?_
    rintro cnt mm news₁ h₄ tk₄ F₄ N₄ ⟨kk, tkk, rfl, hko, hkf, htake, rfl, rfl⟩
    clear F₃ N₃ KK n₂ h
    k_steps
    · rename_i hlo hlf t1 t2 he h₅ F₅ N₅
      have e1 : (kk : Int).toNat = kk := rfl
      have hlo' : kk < old.length := by omega
      have hlf' : kk < fre.length := by omega
      rw [e1] at he
      have he' : old.getD kk Str.empty = fre.getD kk Str.empty := by simpa using he
      have a1 : old[kk]? = some (old.getD kk Str.empty) := by simp [hlo']
      have a2 : fre[kk]? = some (old.getD kk Str.empty) := by rw [he']; simp [hlf']
      rw [map_twice] at F₅
      exact WhileStep.intro F₅ N₅ (n' := old.length - (kk + 1)) (by omega) ⟨kk + 1, _, rfl, hlo', hlf', take_same htake a1 a2, rfl, rfl⟩
    · exact ⟨kk, tkk, _, _, trivial, rfl, hko, hkf, htake, F₄, N₄⟩
    · exact ⟨kk, tkk, _, _, trivial, rfl, hko, hkf, htake, F₄, N₄⟩
    · exact ⟨kk, tkk, _, _, trivial, rfl, hko, hkf, htake, F₄, N₄⟩
  case aft =>
    obtain ⟨kk, tk, h', tk', rfl, rfl, hko, hkf, htake, F₄, N₄⟩ := hq
    have kk₄ := KK h' (fun p hp => N₄ p (.tail _ (.tail _ (.tail _ (.tail _ hp))))) F₄.keep
    exact h _ kk tk _ (n₂.walk X K F₄ kk₄) (cellTr c₁ (n₂.tr K kk₄)) rfl rfl (listTr hD (n₂.tr K kk₄)) (listTr hD₃ (n₂.tr K kk₄)) hko hkf htake rfl rfl rfl rfl rfl rfl
end
end Mine

namespace Mine
open Builtin

section
variable {w : World} {A : Around} {s : Shared} {E : Value → Shared → Prop} {x d : Addr} {vs : Array Value} {n : Nat} {tk tk' : Tok} {pl : Sem Bool} {Q : Value × List Value → Shared → Prop}

theorem meth_def {name : Str} {f : Addr} (X : (Kw w).In s.heap) (hx : s.heap.get? x = some (accObj d vs n)) (hd : s.heap.get? d = some (accDict w.params tk tk'))
    (lk : Looks (model prg w) s.heap (typeLookup (.ref 107) name) (some (.ref f))) (ty : Looks (model prg w) s.heap (typeOf (.ref f)) (.type "function")) (e : lookIn name (accDict w.params tk tk') = some none)
    (hq : Q (.ref f, [.ref x]) s) : wpAny (model prg w) A (getMethod (.ref x) name pl) Q E s := by
  have hcan : (Manifest.canonical "list.__getattribute__" != "object.__getattribute__") = false := by decide +kernel
  unfold getMethod specialOf
  refine wpAny_bind (wpAny_bind ((acc_type hx rfl).here ((acc_ga X).here ?_)))
  dsimp only
  rw [hcan, if_neg (by decide)]
  refine wpAny_bind (wpAny_bind ((acc_type hx rfl).here ((acc_gattr X).here ?_)))
  rw [if_neg (by decide)]
  refine wpAny_bind (wpAny_bind ((acc_type hx rfl).here (lk.here (wpAny_bind (ty.here ?_)))))
  rw [if_neg (by decide)]
  refine wpAny_bind (wpAny_loadPart hx ?_)
  refine wpAny_bind (wpAny_bind (wpAny_loadPart hd ?_))
  rw [nsLook_of e]
  refine wpAny_pure ?_
  rw [if_neg (by decide)]
  exact wpAny_bind (wpAny_rule (wpAny_pure hq))

theorem meth_push (X : (Kw w).In s.heap) (hx : s.heap.get? x = some (accObj d vs n)) (hd : s.heap.get? d = some (accDict w.params tk tk')) (hq : Q (.ref 52, [.ref x]) s) : wpAny (model prg w) A (getMethod (.ref x) "push" pl) Q E s :=
  meth_def X hx hd (cls_peek X (by kernel_rfl)) (cls_peek X (by kernel_rfl)) (by kernel_rfl) hq
theorem meth_pop (X : (Kw w).In s.heap) (hx : s.heap.get? x = some (accObj d vs n)) (hd : s.heap.get? d = some (accDict w.params tk tk')) (hq : Q (.ref 60, [.ref x]) s) : wpAny (model prg w) A (getMethod (.ref x) "pop_from" pl) Q E s :=
  meth_def X hx hd (cls_peek X (by kernel_rfl)) (cls_peek X (by kernel_rfl)) (by kernel_rfl) hq
theorem meth_onlyws (X : (Kw w).In s.heap) (hx : s.heap.get? x = some (accObj d vs n)) (hd : s.heap.get? d = some (accDict w.params tk tk')) (hq : Q (.ref 96, [.ref x]) s) : wpAny (model prg w) A (getMethod (.ref x) "is_onlyws" pl) Q E s :=
  meth_def X hx hd (cls_peek X (by kernel_rfl)) (cls_peek X (by kernel_rfl)) (by kernel_rfl) hq
theorem meth_count (X : (Kw w).In s.heap) (hx : s.heap.get? x = some (accObj d vs n)) (hd : s.heap.get? d = some (accDict w.params tk tk')) (hq : Q (.ref 104, [.ref x]) s) : wpAny (model prg w) A (getMethod (.ref x) "part_count" pl) Q E s :=
  meth_def X hx hd (cls_peek X (by kernel_rfl)) (cls_peek X (by kernel_rfl)) (by kernel_rfl) hq
end
end Mine

namespace Mine
open Builtin

section
variable {w : World} {mean : ExcName → Option Value} {mg mb : Str → Option Value} {A : Around} {G : Heap} {L H NL I lc k : Nat} {x d : Nat → Addr} {num : Nat → Nat} {m : Str → Option Value} {s₁ : Shared} {Q : Flow → Shared → Prop} {c : Nat} {tc : Tok}
variable {ii kk : Nat} {ti tk : Tok} {D D₃ : Addr} {us us₃ : Array Value} {nu : Nat} {old : List Str}

set_option maxHeartbeats 4000000 in
theorem stE (rd : ∀ env, Room (A.deeper env) 14) (SG : St w mean mg mb G) (K : Fixed G L H NL x d) (n₁ : Now w G L H NL I lc k x d (fun k => linesOf (num k)) num m s₁.heap) (hii : ii < 3)
    (c₁ : s₁.heap.IsCell (L + 2) (some (.int (ii : Nat) ti))) (hD : s₁.heap.get? D = some (listOf us nu)) (gD : G.get? D = none) (lD : D ≠ L) (hDs : StrsAre us.toList old)
    (hD₃ : s₁.heap.get? D₃ = some (listOf us₃ 0)) (gD₃ : G.get? D₃ = none) (lD₃ : D₃ ≠ L) (hold : old = linesOf (num ii)) (hkk : kk ≤ old.length)
    (hc : m "code" = some (.int (c : Nat) tc)) (hh : m "helds" = some (.ref H)) (ho : m "old" = some (.ref D)) (hf : m "fresh" = some (.ref D₃)) (hk : m "k" = some (.int (kk : Nat) tk))
    (h : ∀ s₄ m', Now w G L H NL I lc k x d (fun j => if j = ii then old.take kk else linesOf (num j)) num m' s₄.heap → s₄.heap.IsCell (L + 2) (some (.int (ii : Nat) ti)) → s₄.os = s₁.os → (AllBare s₁.gens → AllBare s₄.gens) →
      s₄.heap.get? D₃ = some (listOf us₃ 0) →
      m' "code" = some (.int (c : Nat) tc) → m' "j" = m "j" → m' "helds" = some (.ref H) → m' "fresh" = some (.ref D₃) → m' "k" = some (.int (kk : Nat) tk) → wpAny (model prg w) (A.deeper (env201 w.params L)) (execs (turn w.params 8) (env201 w.params L)) Q (fun _ _ => False) s₄) :
    wpAny (model prg w) (A.deeper (env201 w.params L)) (execs (turn w.params 7) (env201 w.params L)) Q (fun _ _ => False) s₁ := by
  unfold turn body201 bodyIn forBody env201 scope201 scopeIn
  dsimp only [List.drop]
  have SG' := SG
  obtain ⟨X, T, GL⟩ := SG
  have n₂ := ((((n₁.put hh).put (y := "code") ((if_neg (by decide)).trans hc)).put (y := "old") ((if_neg (by decide)).trans ((if_neg (by decide)).trans ho))).put (y := "fresh") ((if_neg (by decide)).trans ((if_neg (by decide)).trans ((if_neg (by decide)).trans hf)))).put (y := "k") ((if_neg (by decide)).trans ((if_neg (by decide)).trans ((if_neg (by decide)).trans ((if_neg (by decide)).trans hk))))
  clear n₁
  have F₂ := n₂.F
  obtain ⟨rest, o₁, o₂, N₂', y₁, y₂, e₁, KK⟩ := stage F₂ n₂.B c₁
  have N₂ := newsAdd (newsAdd N₂' hD lD gD) hD₃ lD₃ gD₃
  clear N₂'
  walk1
  walk1
  walk1
  walk1
  walk1
  walk1
  walk1
  refine sub_at n₂.B.hel (Nat.lt_trans hii (by decide)) (ref_at x hii) ?_
  obtain ⟨vsi, nni, ai⟩ := n₂.B.accs ii hii
  obtain ⟨t₁, t₂, hdi⟩ := ai.dict
  refine meth_pop (X.keeps F₂.keep) ai.obj hdi ?_
  walk1
  walk1
  walk1
  walk1
  walk1
  refine wpAny_call (pop_body ((rd _).mono (by omega)) SG' F₂.keep (K.ng hii) ai n₂.T (Nat.lt_of_le_of_lt (lines_len _) (by decide)) (by rw [← hold]; exact hkk) fun s₃ Dp vs' n' ps np w₃ a₃ hDp eDp pc₃ => ?_)
  replace w₃ : Went [x ii] s₁ s₃ := ⟨w₃.os, w₃.gens, w₃.keep⟩
  have n₃ := n₂.setX X K hii w₃ a₃
  have tr₃ : ∀ b o, o ≠ accObj (d ii) vsi nni → s₁.heap.get? b = some o → s₃.heap.get? b = some o := fun b o hc e => w₃.keep b o (fun q => by rw [List.mem_singleton.mp q, ai.obj] at e; cases e; exact hc rfl) e
  have c₃ : s₃.heap.IsCell (L + 2) (some (.int (ii : Nat) ti)) := by
    obtain ⟨o, e, dd⟩ := c₁
    exact ⟨o, tr₃ _ _ (fun q => by rw [q] at dd; cases dd) e, dd⟩
  have hD' := tr₃ _ _ (fun q => by cases q) hD
  have hD₃' := tr₃ _ _ (fun q => by cases q) hD₃
  have fP := freshOf F₂ hDp
  rw [← hold] at pc₃ n₃
  clear n₂ c₁ hD hD₃ F₂ N₂ KK y₁ y₂ e₁ ai hdi a₃ tr₃ hDp
  have F₃ := n₃.F
  obtain ⟨rest, o₁, o₂, N₃', y₁, y₂, e₁, KK⟩ := stage F₃ n₃.B c₃
  have N₃ := newsAdd (newsAdd (newsAdd N₃' hD' lD gD) hD₃' lD₃ gD₃) eDp fP.2 fP.1
  clear N₃'
  refine comp_walk rfl (by decide) rfl (by decide) rfl ?_
  walk1
  walk1
  walk1
  walk1
  walk1
  walk1
  walk1
  have ols : us.size = old.length := by have := strs_len hDs; simpa using this
  have ol176 : old.length ≤ 176 := by rw [hold]; exact lines_len _
  refine' kmk_slice (s := s₃) ?sF ?sN ?sl ?sp ?sq ?_ ?ss ?st ?sz
  case sF => exact F₃
  case sN => exact N₃
  case sz => rw [ols]; exact Nat.le_trans ol176 (by decide)
  case sl => exact ⟨_, (N₃ _ (.tail _ (.tail _ (.head _)))).1, rfl, nu, rfl⟩
  case sp => exact .int _ _
  case sq => exact .none
  case ss => with_unfolding_all rfl
  case st => intro _; with_unfolding_all rfl
  intro D₄ h₄ F₄ N₄ l₄
  have hfs : StrsAre (slicePick us (some (kk : Int)) none none).toList (old.drop kk) := by
    rw [slicePick_from _ kk (by omega)]
    have := strs_drop hDs kk
    simpa using this
  generalize slicePick us (some (kk : Int)) none none = usd at *
  have usl : usd.size = (old.drop kk).length := by have := strs_len hfs; simpa using this
  have eDp₄ := (N₄ _ (.tail _ (.head _))).1
  have kk₄ := KK h₄ (fun p hp => N₄ p (.tail _ (.tail _ (.tail _ (.tail _ (.tail _ (.tail _ hp))))))) F₄.keep
  have pc₄ : Pieces h₄ ps.toList (old.drop kk) := piecesTr pc₃ (n₃.tr K kk₄)
  clear F₃ N₃
  refine list_comp 0 (fun av i ys s' => Went [] { s₃ with heap := h₄ } s' ∧ ∃ hh : Heap, (∀ a ∈ av, hh.get? a = none) ∧ (∀ b o, hh.get? b = some o → s'.heap.get? b = some o) ∧ Pieces hh ys ((old.drop kk).take i)) (show (A.deeper _).handled = none from (rd default).hh) (N₄ _ (.head _)).1 (by rw [usl, List.length_drop]; exact Nat.le_trans (Nat.sub_le _ _) (Nat.le_trans ol176 (by decide))) (Nat.zero_le _) ?_ ?_ ?_ ?_
  · intro av h' tk hav hk _
    exact ⟨⟨rfl, fun q => q, fun b o _ e => hk b o e⟩, hideAll h' av, fun a ha => hideAll_none _ ha, fun b o e => of_hideAll _ e, .nil⟩
  · rintro av i ys s' h' tk hav ⟨wt, hh, hn, hs, hy⟩ _ hk
    refine ⟨⟨wt.os, wt.gens, fun b o hb e => hk b o (fun q => ?_) (wt.keep b o hb e)⟩, hh, hn, fun b o e => hk b o (fun q => by rw [hn b q] at e; cases e) (hs b o e), hy⟩
    exact absurd (Heap.lt_size e) (Nat.not_lt_of_le (hav b q))
  · rintro av C i v ys m₁ s₁ hav hlt hC hv hlo₁ hm hns hll ⟨wt, hh, hn, hs, hy⟩
    obtain ⟨z, tz, rfl, hz⟩ := strs_at hfs i v (by simpa using hv)
    have FC : Fr G C s₁.heap m₁ := ⟨hns, fun b o e => wt.keep b o (by simp) (F₄.keep b o e), Nat.le_trans (Nat.le_of_lt (Nat.lt_of_le_of_lt F₄.above F₄.ns.lt)) (hav C hC)⟩
    clear F₄ N₄
    refine wpAny_pure ?_
    simp only [if_true]
    walk1
    walk1
    walk1
    walk1
    refine ldVarC (s := { s₁ with toks := s₁.toks + 1 }) FC hm ?_
    walk1
    refine wpAny_newTuple ?_ (show 2 ≤ sizeLine by decide)
    have up : ∀ b o, s₁.heap.get? b = some o → (s₁.heap.push { cls := .type "tuple", data := .seq [Value.str "\n" s₁.toks, Value.str z tz].toArray }).get? b = some o := fun b o e => Heap.get?_push_of_some _ e
    have new : (s₁.heap.push { cls := .type "tuple", data := .seq [Value.str "\n" s₁.toks, Value.str z tz].toArray }).get? s₁.heap.objs.size = some (pieceObj z s₁.toks tz 0) := Heap.get?_push_size _ rfl
    refine ⟨fun a _ o e => up a o e, ⟨wt.os, wt.gens, fun b o hb e => up b o (wt.keep b o hb e)⟩, hideAll _ av, fun a ha => hideAll_none _ ha, fun b o e => of_hideAll _ e, ?_⟩
    rw [List.take_add_one, hz]
    refine Pieces.snoc (n := 0) (t₁ := s₁.toks) (t₂ := tz) (hideAll_get _ new fun q => Nat.lt_irrefl _ (hlt _ q)) (hy.keep fun b o _ e => hideAll_get _ (up b o (hs b o e)) fun q => by rw [hn b q] at e; cases e)
  · rintro av Dn ys s₆ kn hav hDn _ hDl ⟨wt, hh, hn, hs, hy⟩ _
    have e1 : (old.drop kk).take usd.size = old.drop kk := by rw [usl, List.take_length]
    rw [e1] at hy
    have F₆ := frWent F₄ wt (by simp) (by simp)
    have N₆ := newsWent (g := G) (L := L) N₄ wt (by simp)
    have pcn : Pieces s₆.heap ys (old.drop kk) := hy.keep fun b o _ e => hs b o e
    have pcp : Pieces s₆.heap ps.toList (old.drop kk) := pc₄.keep fun b o _ e => wt.all b o e
    have okd : ∀ q ∈ old.drop kk, PyData.strOk q = true := fun q hq => by rw [hold] at hq; exact lines_ok _ q (List.mem_of_mem_drop hq)
    clear F₄ N₄
    refine ne_pieces (N₆ _ (.tail _ (.head _))).1 pcp hDl (by simpa using pcn) okd okd (by have hu := (rd default).units; replace hu : A.units + 3 + 20 * 14 < cLine := hu; show A.units + 3 + 64 < cLine; omega) ?_
    rw [decide_eq_true rfl, Bool.not_true]
    walk1
    walk1
    walk1
    have tr : ∀ b o, Held x d b o → s₃.heap.get? b = some o → s₆.heap.get? b = some o := fun b o q e => wt.all b o (n₃.tr K kk₄ b o q e)
    exact h s₆ _ (n₃.any X F₆ tr fun b hb o e => wt.all b o (kk₄ b o (Nat.ne_of_lt (K.Lt b hb)) e)) (cellTr c₃ tr) (wt.os.trans w₃.os) (fun q => wt.gens (w₃.gens q)) (listTr hD₃' tr) rfl rfl rfl rfl rfl
end
end Mine

namespace Mine
open Builtin

/-- what stands between two turns of the pushing loop -/
structure PushJ (w : World) (G : Heap) (os : OsState) (L H NL I lc k : Nat) (x d : Nat → Addr) (ls : Nat → List Str) (num : Nat → Nat) (I2 : Addr) (ii : Nat) (ti : Tok) (D₃ : Addr) (us₃ : Array Value) (c : Nat) (tc : Tok) (vj : Option Value) (m : Str → Option Value) (s' : Shared) : Prop where
  ghost : ∃ hh : Heap, hh.get? I2 = none ∧ hh.get? L = none ∧ Base w L H NL x d ls num hh ∧ Tabs hh ∧ hh.IsListIter I lc k ∧ hh.IsCell (L + 2) (some (.int (ii : Nat) ti)) ∧ hh.get? D₃ = some (listOf us₃ 0) ∧ ∀ b o, hh.get? b = some o → s'.heap.get? b = some o
  os : s'.os = os
  gens : AllBare s'.gens
  keep : ∀ b o, G.get? b = some o → s'.heap.get? b = some o
  hel : m "helds" = some (.ref H)
  cod : m "code" = some (.int (c : Nat) tc)
  fre : m "fresh" = some (.ref D₃)
  jay : m "j" = vj

section
variable {w : World} {mean : ExcName → Option Value} {mg mb : Str → Option Value} {A : Around} {G : Heap} {L H NL I lc k : Nat} {x d : Nat → Addr} {num : Nat → Nat} {m : Str → Option Value} {s₁ : Shared} {Q : Flow → Shared → Prop} {c : Nat} {tc : Tok}
variable {vj : Option Value} {ii kk : Nat} {ti tk : Tok} {D₃ I2 : Addr} {us₃ : Array Value} {old fre : List Str} {ls : Nat → List Str} {os : OsState}

theorem PushJ.stab {m₁ m₂ : Str → Option Value} {s' : Shared} {h' : Heap} {t : Nat} (J : PushJ w G os L H NL I lc k x d ls num I2 ii ti D₃ us₃ c tc vj m₁ s') (hI : G.get? I2 = none) (hL : G.get? L = none)
    (hm : m₂ = m₁ ∨ ∃ v, m₂ = fun y => if y = ("line" : Str) then some v else m₁ y) (k' : ∀ b o, b ∉ [I2] → b ≠ L → s'.heap.get? b = some o → h'.get? b = some o) : PushJ w G os L H NL I lc k x d ls num I2 ii ti D₃ us₃ c tc vj m₂ { s' with heap := h', toks := t } where
  ghost := let ⟨hh, a, b, q1, q2, q3, q4, q5, f⟩ := J.ghost; ⟨hh, a, b, q1, q2, q3, q4, q5, fun b' o q => k' b' o (fun r => by rw [List.mem_singleton.mp r, a] at q; cases q) (fun r => by rw [r, b] at q; cases q) (f b' o q)⟩
  os := J.os
  gens := J.gens
  keep := fun b o q => k' b o (fun r => by rw [List.mem_singleton.mp r, hI] at q; cases q) (fun r => by rw [r, hL] at q; cases q) (J.keep b o q)
  hel := by
    rcases hm with rfl | ⟨v, rfl⟩
    · exact J.hel
    · exact J.hel
  cod := by
    rcases hm with rfl | ⟨v, rfl⟩
    · exact J.cod
    · exact J.cod
  fre := by
    rcases hm with rfl | ⟨v, rfl⟩
    · exact J.fre
    · exact J.fre
  jay := by
    rcases hm with rfl | ⟨v, rfl⟩
    · exact J.jay
    · exact J.jay

theorem PushJ.make {s' : Shared} {k2 D₅ : Nat} (X : (Kw w).In G) (K : Fixed G L H NL x d) (n : Now w G L H NL I lc k x d ls num m s'.heap) (it2 : s'.heap.IsListIter I2 D₅ k2) (hI : G.get? I2 = none) (hII : I ≠ I2)
    (c₁ : s'.heap.IsCell (L + 2) (some (.int (ii : Nat) ti))) (hD₃ : s'.heap.get? D₃ = some (listOf us₃ 0)) (ho : s'.os = os) (hg : AllBare s'.gens) (h1 : m "helds" = some (.ref H)) (h2 : m "code" = some (.int (c : Nat) tc)) (h3 : m "fresh" = some (.ref D₃)) (h4 : m "j" = vj) :
    PushJ w G os L H NL I lc k x d ls num I2 ii ti D₃ us₃ c tc vj m s' where
  ghost := by
    have key : ∀ b o, Held x d b o → o.cls ≠ .type "list_iterator" → s'.heap.get? b = some o → (hideAll s'.heap [I2, L]).get? b = some o := fun b o q hq e => hideAll_get _ e (fun r => by
      simp only [List.mem_cons, List.not_mem_nil, or_false] at r
      rcases r with r | r
      · exact q.noI hq it2 e r
      · exact q.noL n.F.ns e (fun i hi => (K.dn i hi).2) r)
    have cel : ∀ {a : Addr} {v : Option Value}, s'.heap.IsCell a v → (hideAll s'.heap [I2, L]).IsCell a v := by
      rintro a v ⟨o, e, dd⟩
      refine ⟨o, hideAll_get _ e (fun r => ?_), dd⟩
      simp only [List.mem_cons, List.not_mem_nil, or_false] at r
      rcases r with r | r
      · obtain ⟨o', e', _, c'⟩ := it2
        rw [← r, e] at e'; cases e'; rw [dd] at c'; cases c'
      · obtain ⟨o', es, ep, e', c', _⟩ := n.F.ns
        rw [← r, e] at e'; cases e'; rw [dd] at c'; cases c'
    have hGL : G.get? L = none := Heap.get?_none_of_le n.F.above
    have kG : ∀ b o, G.get? b = some o → (hideAll s'.heap [I2, L]).get? b = some o := fun b o e => hideAll_get _ (n.F.keep b o e) (fun r => by
      simp only [List.mem_cons, List.not_mem_nil, or_false] at r
      rcases r with r | r
      · rw [r, hI] at e; cases e
      · rw [r, hGL] at e; cases e)
    have kT : ∀ b ∈ tabs, ∀ o, s'.heap.get? b = some o → (hideAll s'.heap [I2, L]).get? b = some o := fun b hb o e => hideAll_get _ e (fun r => by
      simp only [List.mem_cons (a := b), List.not_mem_nil, or_false] at r
      rcases r with r | r
      · obtain ⟨ps, rfl⟩ := n.T.obj b hb o e
        obtain ⟨o', e', c', _⟩ := it2
        rw [← r, e] at e'; cases e'; cases c'
      · exact Nat.lt_irrefl _ (K.Lt L (r ▸ hb)))
    refine ⟨hideAll s'.heap [I2, L], hideAll_none _ (by simp), hideAll_none _ (by simp), ⟨fun i hi => ?_, ?_, ?_, cel n.B.cell, ?_⟩, tabsVia X n.F.keep kG n.T (kT 69 (by simp)) (kT 76 (by simp)), ?_, cel c₁, ?_, fun b o e => of_hideAll _ e⟩
    · obtain ⟨vs, nn, a⟩ := n.B.accs i hi
      refine ⟨vs, nn, a.mono fun b o q => key b o (q.elim (fun q => .inl ⟨i, hi, q⟩) fun q => q.elim (fun q => .inr (.inl ⟨i, hi, q⟩)) fun q => .inr (.inr (.inl q))) ?_⟩
      rcases q with ⟨_, c, _⟩ | ⟨_, c, _⟩ | ⟨c, _⟩ <;> (rw [c]; simp)
    · exact key _ _ (.inr (.inr (.inr (.inl ⟨rfl, _, _, rfl⟩)))) (by simp) n.B.helO
    · obtain ⟨t0, t1, t2, l⟩ := n.B.nums
      exact ⟨t0, t1, t2, isList_mono l fun b o q => key b o (.inr (.inr (.inr (.inl q)))) (by rw [q.1]; simp)⟩
    · obtain ⟨v, l⟩ := n.B.celi
      exact ⟨v, cel l⟩
    · obtain ⟨o, e, cc, dd⟩ := n.it
      refine ⟨o, hideAll_get _ e (fun r => ?_), cc, dd⟩
      simp only [List.mem_cons, List.not_mem_nil, or_false] at r
      rcases r with r | r
      · exact hII r
      · obtain ⟨o', es, ep, e', c', _⟩ := n.F.ns
        rw [← r, e] at e'; cases e'; rw [dd] at c'; cases c'
    · exact key _ _ (.inr (.inr (.inr (.inl ⟨rfl, _, _, rfl⟩)))) (by simp) hD₃
  os := ho
  gens := hg
  keep := n.F.keep
  hel := h1
  cod := h2
  fre := h3
  jay := h4
end
end Mine

namespace Mine
open Builtin

section
variable {w : World} {mean : ExcName → Option Value} {mg mb : Str → Option Value} {A : Around} {G : Heap} {L H NL I lc k : Nat} {x d : Nat → Addr} {num : Nat → Nat} {m : Str → Option Value} {s₁ : Shared} {Q : Flow → Shared → Prop} {c : Nat} {tc : Tok}
variable {ii kk : Nat} {ti tk : Tok} {D₃ : Addr} {us₃ : Array Value} {fre : List Str}

set_option maxHeartbeats 4000000 in
theorem stF (rd : ∀ env, Room (A.deeper env) 14) (SG : St w mean mg mb G) (K : Fixed G L H NL x d) (n₁ : Now w G L H NL I lc k x d (fun j => if j = ii then fre.take kk else linesOf (num j)) num m s₁.heap) (hg : AllBare s₁.gens) (hii : ii < 3)
    (c₁ : s₁.heap.IsCell (L + 2) (some (.int (ii : Nat) ti))) (hD₃ : s₁.heap.get? D₃ = some (listOf us₃ 0)) (gD₃ : G.get? D₃ = none) (lD₃ : D₃ ≠ L) (hD₃s : StrsAre us₃.toList fre) (fl : fre.length ≤ 176) (hkk : kk ≤ fre.length)
    (hc : m "code" = some (.int (c : Nat) tc)) (hh : m "helds" = some (.ref H)) (hf : m "fresh" = some (.ref D₃)) (hk : m "k" = some (.int (kk : Nat) tk))
    (h : ∀ s₄ m', Now w G L H NL I lc k x d (fun j => if j = ii then fre else linesOf (num j)) num m' s₄.heap → s₄.heap.IsCell (L + 2) (some (.int (ii : Nat) ti)) → s₄.os = s₁.os → AllBare s₄.gens →
      s₄.heap.get? D₃ = some (listOf us₃ 0) → m' "code" = some (.int (c : Nat) tc) → m' "j" = m "j" → m' "helds" = some (.ref H) → m' "fresh" = some (.ref D₃) → wpAny (model prg w) (A.deeper (env201 w.params L)) (execs (turn w.params 9) (env201 w.params L)) Q (fun _ _ => False) s₄) :
    wpAny (model prg w) (A.deeper (env201 w.params L)) (execs (turn w.params 8) (env201 w.params L)) Q (fun _ _ => False) s₁ := by
  unfold turn body201 bodyIn forBody env201 scope201 scopeIn
  dsimp only [List.drop]
  have SG' := SG
  obtain ⟨X, T, GL⟩ := SG
  have n₂ := (((n₁.put hh).put (y := "code") ((if_neg (by decide)).trans hc)).put (y := "fresh") ((if_neg (by decide)).trans ((if_neg (by decide)).trans hf))).put (y := "k") ((if_neg (by decide)).trans ((if_neg (by decide)).trans ((if_neg (by decide)).trans hk)))
  clear n₁
  have F₂ := n₂.F
  obtain ⟨rest, o₁, o₂, N₂', y₁, y₂, e₁, KK⟩ := stage F₂ n₂.B c₁
  have N₂ := newsAdd N₂' hD₃ lD₃ gD₃
  clear N₂'
  refine wpAny_execs_cons ?_
  refine for_walk rfl rfl ?_
  walk1
  walk1
  walk1
  walk1
  walk1
  walk1
  walk1
  have frs : us₃.size = fre.length := by have := strs_len hD₃s; simpa using this
  refine' kmk_slice (s := s₁) ?sF ?sN ?sl ?sp ?sq ?_ ?ss ?st ?sz
  case sF => exact F₂
  case sN => exact N₂
  case sz => rw [frs]; exact Nat.le_trans fl (by decide)
  case sl => exact ⟨_, (N₂ _ (.head _)).1, rfl, 0, rfl⟩
  case sp => exact .int _ _
  case sq => exact .none
  case ss => with_unfolding_all rfl
  case st => intro _; with_unfolding_all rfl
  intro D₅ h₄ F₄ N₄ l₄
  have hfs : StrsAre (slicePick us₃ (some (kk : Int)) none none).toList (fre.drop kk) := by
    rw [slicePick_from _ kk (by omega)]
    have := strs_drop hD₃s kk
    simpa using this
  generalize slicePick us₃ (some (kk : Int)) none none = usd at *
  have usl : usd.size = (fre.drop kk).length := by have := strs_len hfs; simpa using this
  have hl5 := (N₄ _ (.head _)).1
  have l5 := (N₄ _ (.head _)).2.1
  have g5 := (N₄ _ (.head _)).2.2
  have kk₄ := KK h₄ (fun p hp => N₄ p (.tail _ (.tail _ (.tail _ (.tail _ hp))))) F₄.keep
  have n₄ := n₂.walk X K F₄ kk₄
  have c₄ := cellTr c₁ (n₂.tr K kk₄)
  have hD₃4 := listTr hD₃ (n₂.tr K kk₄)
  dsimp only at hl5 l5 g5
  clear F₂ N₂ KK n₂ c₁ hD₃ kk₄ y₁ y₂ e₁ l₄
  have hl5' : h₄.IsList D₅ usd := ⟨_, hl5, rfl, 0, rfl⟩
  refine wpAny_pyIter_list hl5' ?_
  dsimp only
  have hLs : L < h₄.objs.size := F₄.ns.lt
  have hIL : L ≠ h₄.objs.size := Nat.ne_of_lt hLs
  have hIl : D₅ ≠ h₄.objs.size := Nat.ne_of_lt (Heap.lt_size hl5)
  have hII : I ≠ h₄.objs.size := by
    obtain ⟨o, e, _⟩ := n₄.it
    exact Nat.ne_of_lt (Heap.lt_size e)
  have hIn : G.get? h₄.objs.size = none := above_none F₄ (Nat.le_of_lt hLs)
  have hLn : G.get? L = none := above_none F₄ (Nat.le_refl _)
  have up : ∀ b o, h₄.get? b = some o → (h₄.push { cls := .type "list_iterator", data := .fields #[.ref D₅, .int 0 0] }).get? b = some o := fun b o e => Heap.get?_push_of_some _ e
  have F₅ : Fr G L (h₄.push { cls := .type "list_iterator", data := .fields #[.ref D₅, .int 0 0] }) _ := ⟨F₄.ns.push _, fun b o e => up b o (F₄.keep b o e), F₄.above⟩
  have n₅ := n₄.any X F₅ (fun b o _ e => up b o e) (fun b _ o e => up b o e)
  have c₅ := cellTr (x := x) (d := d) c₄ (fun b o _ e => up b o e)
  have hD₃5 := up _ _ hD₃4
  have it5 : (h₄.push { cls := .type "list_iterator", data := .fields #[.ref D₅, .int 0 0] }).IsListIter h₄.objs.size D₅ 0 := ⟨_, Heap.get?_push_size _ rfl, rfl, rfl⟩
  have hl6 := up _ _ hl5
  generalize h₄.push { cls := .type "list_iterator", data := .fields #[.ref D₅, .int 0 0] } = h₅ at *
  generalize h₄.objs.size = I2 at *
  clear F₄ N₄ n₄ c₄ hD₃4 up hl5 hl5' hLs h₄
  have htl : ∀ i, (fre.take kk ++ (fre.drop kk).take i).length < 1000 := fun i => by
    rw [List.length_append, List.length_take, List.length_take, List.length_drop]
    omega
  refine ⟨0, I2, _, _, _, _, _, _, fun i m' s' => PushJ w G s₁.os L H NL I lc k x d (fun j => if j = ii then fre.take kk ++ (fre.drop kk).take i else linesOf (num j)) num I2 ii ti D₃ us₃ c tc (m "j") m' s', rfl, WalkL.of (Walks.list (rd _).hh I2 D₅ hIl usd), Nat.zero_le _,
    (fun hm => by
      rcases List.mem_cons.mp hm with q | q
      · exact hIL q
      · exact l5 (List.mem_singleton.mp q).symm), ⟨it5, _, hl6, rfl, 0, rfl⟩, F₅.ns, ?_, ?_, ?_, ?_⟩
  · have e0 : (fre.drop kk).take 0 = [] := rfl
    dsimp only
    rw [e0, List.append_nil]
    exact PushJ.make X K n₅ it5 hIn hII c₅ hD₃5 rfl hg rfl rfl rfl rfl
  · intro i m₁ m₂ s' h' tk j hm hk' hn
    exact j.stab hIn hLn hm hk'
  · rintro i v m₁ s₂ hi hP hlo₁ hm hn' J ⟨it6, hl7⟩
    obtain ⟨⟨hh', hhI, hhL, Bh, Th, ith, ch, Dh, hsub⟩, hos, hgs, hkG, hhel, hcod, hfre, hjay⟩ := J
    obtain ⟨z, tz, rfl, hz⟩ := strs_at hfs i v (by simpa using hP)
    have F₆ : Fr G L s₂.heap m₁ := ⟨hn', hkG, F₅.above⟩
    have n₆ : Now w G L H NL I lc k x d (fun j => if j = ii then fre.take kk ++ (fre.drop kk).take i else linesOf (num j)) num m₁ s₂.heap := ⟨F₆, Bh.mono fun b o _ e => hsub b o e, Th.keep hsub, isIter_mono ith fun b o _ e => hsub b o e⟩
    have c₆ := cellTr (x := x) (d := d) ch (fun b o _ e => hsub b o e)
    have hD₆ := hsub _ _ Dh
    clear F₅ n₅ c₅ hD₃5 it5 hl6 Bh Th ith ch Dh hsub hhI hhL h₅ F₆ hn'
    have n₇ := (((n₆.put hhel).put (y := "code") ((if_neg (by decide)).trans hcod)).put (y := "fresh") ((if_neg (by decide)).trans ((if_neg (by decide)).trans hfre))).put (y := "line") ((if_neg (by decide)).trans ((if_neg (by decide)).trans ((if_neg (by decide)).trans hm)))
    clear n₆
    have F₇ := n₇.F
    obtain ⟨rest, o₁, o₂, N₇, y₁, y₂, e₁, KK⟩ := stage F₇ n₇.B c₆
    walk1
    walk1
    walk1
    walk1
    walk1
    walk1
    refine sub_at n₇.B.hel (Nat.lt_trans hii (by decide)) (ref_at x hii) ?_
    obtain ⟨vsi, nni, ai⟩ := n₇.B.accs ii hii
    obtain ⟨t₁, t₂, hdi⟩ := ai.dict
    have ai' : Acc w s₂.heap (x ii) (d ii) vsi nni (fre.take kk ++ (fre.drop kk).take i) := by simpa using ai
    refine meth_push (X.keeps F₇.keep) ai.obj hdi ?_
    walk1
    walk1
    walk1
    walk1
    walk1
    walk1
    walk1
    refine wpAny_call (push_body (s := { s₂ with toks := s₂.toks + 1 }) ((rd _).mono (by omega)) SG' F₇.keep (K.ng hii) ai' n₇.T (htl i) fun s₈ vs' n' w₈ a₈ => ?_)
    replace w₈ : Went [x ii] s₂ s₈ := ⟨w₈.os, w₈.gens, w₈.keep⟩
    have n₈ := n₇.setX X K hii w₈ a₈
    have els : (fun j => if j = ii then (fre.take kk ++ (fre.drop kk).take i) ++ [z] else if j = ii then fre.take kk ++ (fre.drop kk).take i else linesOf (num j)) = fun j => if j = ii then fre.take kk ++ (fre.drop kk).take (i + 1) else linesOf (num j) := by
      funext j
      by_cases q : j = ii
      · rw [if_pos q, if_pos q, List.take_add_one, hz, List.append_assoc]; rfl
      · rw [if_neg q, if_neg q, if_neg q]
    rw [els] at n₈
    have tr₈ : ∀ b o, o ≠ accObj (d ii) vsi nni → s₂.heap.get? b = some o → s₈.heap.get? b = some o := fun b o hc e => w₈.keep b o (fun q => by rw [List.mem_singleton.mp q, ai.obj] at e; cases e; exact hc rfl) e
    have c₈ : s₈.heap.IsCell (L + 2) (some (.int (ii : Nat) ti)) := by
      obtain ⟨o, e, dd⟩ := c₆
      exact ⟨o, tr₈ _ _ (fun q => by rw [q] at dd; cases dd) e, dd⟩
    have it8 : s₈.heap.IsListIter I2 D₅ (i + 1) := by
      obtain ⟨o, e, cc, dd⟩ := it6
      exact ⟨o, tr₈ _ _ (fun q => by rw [q] at dd; cases dd) e, cc, dd⟩
    have hl8 : s₈.heap.IsList D₅ usd := by
      obtain ⟨o, e, cc, nd, dd⟩ := hl7
      exact ⟨o, tr₈ _ _ (fun q => by rw [q] at cc; cases cc) e, cc, nd, dd⟩
    refine wpAny_execs_nil ?_
    exact TurnTo.next _ n₈.F.ns (PushJ.make X K n₈ it8 hIn hII c₈ (tr₈ _ _ (fun q => by cases q) hD₆) (w₈.os.trans hos) (w₈.gens hgs) rfl rfl rfl hjay) ⟨it8, hl8⟩
  · rintro m₁ s₂ hlo₁ hn' J
    obtain ⟨⟨hh', hhI, hhL, Bh, Th, ith, ch, Dh, hsub⟩, hos, hgs, hkG, hhel, hcod, hfre, hjay⟩ := J
    have F₆ : Fr G L s₂.heap m₁ := ⟨hn', hkG, F₅.above⟩
    have n₆ : Now w G L H NL I lc k x d (fun j => if j = ii then fre.take kk ++ (fre.drop kk).take usd.size else linesOf (num j)) num m₁ s₂.heap := ⟨F₆, Bh.mono fun b o _ e => hsub b o e, Th.keep hsub, isIter_mono ith fun b o _ e => hsub b o e⟩
    have c₆ := cellTr (x := x) (d := d) ch (fun b o _ e => hsub b o e)
    have hD₆ := hsub _ _ Dh
    rw [usl, List.take_length, List.take_append_drop] at n₆
    exact h s₂ m₁ n₆ c₆ hos hgs hD₆ hcod hjay hhel hfre
end
end Mine

namespace Mine
open Builtin

section
variable {w : World} {mean : ExcName → Option Value} {mg mb : Str → Option Value} {A : Around} {G : Heap} {L H NL I lc k : Nat} {x d : Nat → Addr} {num : Nat → Nat} {m : Str → Option Value} {s₁ : Shared} {Q : Flow → Shared → Prop} {c : Nat} {tc : Tok}
variable {ii nn : Nat} {ti td : Tok} {D₃ : Addr} {us₃ : Array Value} {ls : Nat → List Str}

set_option maxHeartbeats 4000000 in
theorem stH (rd : ∀ env, Room (A.deeper env) 14) (SG : St w mean mg mb G) (K : Fixed G L H NL x d) (n₁ : Now w G L H NL I lc k x d ls num m s₁.heap) (hg : AllBare s₁.gens) (hii : ii < 3) (hls : ls ii = linesOf nn)
    (c₁ : s₁.heap.IsCell (L + 2) (some (.int (ii : Nat) ti))) (hD₃ : s₁.heap.get? D₃ = some (listOf us₃ 0))
    (hdu : m "due" = some (.str (txtOf (linesOf nn)) td)) (hh : m "helds" = some (.ref H)) (hf : m "fresh" = some (.ref D₃))
    (h : ∀ s₄ m', Now w G L H NL I lc k x d ls num m' s₄.heap → s₄.heap.IsCell (L + 2) (some (.int (ii : Nat) ti)) → s₄.os = s₁.os → AllBare s₄.gens →
      s₄.heap.get? D₃ = some (listOf us₃ 0) → m' "helds" = some (.ref H) → m' "fresh" = some (.ref D₃) → wpAny (model prg w) (A.deeper (env201 w.params L)) (execs (turn w.params 12) (env201 w.params L)) Q (fun _ _ => False) s₄) :
    wpAny (model prg w) (A.deeper (env201 w.params L)) (execs (turn w.params 11) (env201 w.params L)) Q (fun _ _ => False) s₁ := by
  unfold turn body201 bodyIn forBody env201 scope201 scopeIn
  dsimp only [List.drop]
  have SG' := SG
  obtain ⟨X, T, GL⟩ := SG
  have n₂ := ((n₁.put hh).put (y := "due") ((if_neg (by decide)).trans hdu)).put (y := "fresh") ((if_neg (by decide)).trans ((if_neg (by decide)).trans hf))
  clear n₁
  have F₂ := n₂.F
  obtain ⟨rest, o₁, o₂, N₂, y₁, y₂, e₁, KK⟩ := stage F₂ n₂.B c₁
  walk1
  walk1
  walk1
  walk1
  walk1
  walk1
  walk1
  walk1
  walk1
  walk1
  walk1
  refine sub_at n₂.B.hel (Nat.lt_trans hii (by decide)) (ref_at x hii) ?_
  obtain ⟨vsi, nni, ai⟩ := n₂.B.accs ii hii
  rw [hls] at ai
  walk1
  refine acc_str ((rd _).mono (by omega)) SG' F₂.keep (K.ng hii) ai n₂.T (lines_sum _) hg fun s₃ u w₃ t₃ => ?_
  replace w₃ : Went tabs s₁ s₃ := ⟨w₃.os, w₃.gens, w₃.keep⟩
  have n₃ := n₂.went K w₃ t₃
  have c₃ := cellTr c₁ (n₂.trT w₃)
  have hD₃' := listTr hD₃ (n₂.trT w₃)
  have F₃ := n₃.F
  have os₃ : s₃.os = s₁.os := w₃.os
  have hg₃ : AllBare s₃.gens := w₃.gens hg
  clear n₂ c₁ hD₃ KK F₂ N₂ y₁ y₂ e₁ rest o₁ o₂ ai w₃ t₃
  obtain ⟨rest, o₁, o₂, N₃, y₁, y₂, e₁, KK⟩ := stage F₃ n₃.B c₃
  walk1
  walk1
  rw [bne_self_eq_false]
  walk1
  walk1
  walk1
  walk1
  walk1
  walk1
  walk1
  walk1
  refine sub_at n₃.B.hel (Nat.lt_trans hii (by decide)) (ref_at x hii) ?_
  obtain ⟨vsi, nni, ai⟩ := n₃.B.accs ii hii
  rw [hls] at ai
  obtain ⟨t₁, t₂, hdi⟩ := ai.dict
  refine meth_count (X.keeps F₃.keep) ai.obj hdi ?_
  dsimp only
  walk1
  refine wpAny_call (count_body ((rd _).mono (by omega)) SG' F₃.keep (K.ng hii) ai n₃.T (Nat.lt_of_le_of_lt (lines_len _) (by decide)) fun s₄ t w₄ => ?_)
  replace w₄ : Went [] s₃ s₄ := ⟨w₄.os, w₄.gens, w₄.keep⟩
  have n₄ := n₃.all w₄
  have c₄ := cellTr (x := x) (d := d) c₃ (fun b o _ e => w₄.all b o e)
  have hD₄ := w₄.all _ _ hD₃'
  have F₄ := n₄.F
  have os₄ : s₄.os = s₁.os := w₄.os.trans os₃
  have hg₄ : AllBare s₄.gens := w₄.gens hg₃
  clear n₃ c₃ hD₃' KK F₃ N₃ y₁ y₂ e₁ rest o₁ o₂ ai hdi w₄
  obtain ⟨rest, o₁, o₂, N₄, y₁, y₂, e₁, KK⟩ := stage F₄ n₄.B c₄
  walk1
  walk1
  walk1
  walk1
  walk1
  walk1
  walk1
  walk1
  rw [count_lines]
  walk1
  rw [bne_self_eq_false]
  walk1
  walk1
  walk1
  walk1
  walk1
  walk1

  have h4 := fun tk => h { s₄ with toks := tk } _ n₄ c₄ os₄ hg₄ hD₄ rfl rfl
  exact h4 _
end
end Mine

namespace Mine
open Builtin

section
variable {w : World} {mean : ExcName → Option Value} {mg mb : Str → Option Value} {A : Around} {G : Heap} {L H NL I lc k : Nat} {x d : Nat → Addr} {num : Nat → Nat} {m : Str → Option Value} {s₁ : Shared} {Q : Flow → Shared → Prop} {c : Nat} {tc : Tok}
variable {ii jj : Nat} {ti tj : Tok} {D₃ : Addr} {us₃ : Array Value} {fre : List Str} {ls : Nat → List Str}

theorem getD3 (f : Nat → Nat) {i : Nat} (hi : i < 3) : ([(f 0 : Int), (f 1 : Int), (f 2 : Int)] : List Int).getD ((i : Nat) : Int).toNat 0 = (f i : Int) := by
  have h3 : i = 0 ∨ i = 1 ∨ i = 2 := by omega
  rcases h3 with rfl | rfl | rfl <;> rfl

set_option maxHeartbeats 4000000 in
theorem stG (rd : ∀ env, Room (A.deeper env) 14) (SG : St w mean mg mb G) (K : Fixed G L H NL x d) (n₁ : Now w G L H NL I lc k x d ls num m s₁.heap) (hii : ii < 3) (hjj : jj < 3) (hlt : ∀ k, k < 3 → num k < 65536)
    (c₁ : s₁.heap.IsCell (L + 2) (some (.int (ii : Nat) ti))) (hD₃ : s₁.heap.get? D₃ = some (listOf us₃ 0)) (gD₃ : G.get? D₃ = none) (lD₃ : D₃ ≠ L) (hD₃s : StrsAre us₃.toList fre)
    (hc : m "code" = some (.int (c : Nat) tc)) (hj : m "j" = some (.int (jj : Nat) tj)) (hh : m "helds" = some (.ref H)) (hf : m "fresh" = some (.ref D₃))
    (h : ∀ s₄ t m', Now w G L H NL I lc k x d ls (fun j => if j = ii then numOf (c % 6) (num ii) (num jj) else num j) m' s₄.heap → s₄.heap.IsCell (L + 2) (some (.int (ii : Nat) ti)) → s₄.os = s₁.os → (AllBare s₁.gens → AllBare s₄.gens) →
      s₄.heap.get? D₃ = some (listOf us₃ 0) → m' "due" = some (.str (outF 4 (numOf (c % 6) (num ii) (num jj)) "") t) → m' "helds" = some (.ref H) → m' "fresh" = some (.ref D₃) → wpAny (model prg w) (A.deeper (env201 w.params L)) (execs (turn w.params 11) (env201 w.params L)) Q (fun _ _ => False) s₄) :
    wpAny (model prg w) (A.deeper (env201 w.params L)) (execs (turn w.params 9) (env201 w.params L)) Q (fun _ _ => False) s₁ := by
  unfold turn body201 bodyIn forBody env201 scope201 scopeIn
  dsimp only [List.drop]
  have SG' := SG
  obtain ⟨X, T, GL⟩ := SG
  have n₂ := (((n₁.put hh).put (y := "code") ((if_neg (by decide)).trans hc)).put (y := "fresh") ((if_neg (by decide)).trans ((if_neg (by decide)).trans hf))).put (y := "j") ((if_neg (by decide)).trans ((if_neg (by decide)).trans ((if_neg (by decide)).trans hj)))
  clear n₁
  have F₂ := n₂.F
  obtain ⟨rest, o₁, o₂, N₂, y₁, y₂, e₁, KK⟩ := stage F₂ n₂.B c₁
  have em6 : ((c : Int).fmod 6) = ((c % 6 : Nat) : Int) := by
    rw [Int.fmod_eq_emod_of_nonneg _ (by decide)]
    rfl
  have hd6 : c % 6 < 6 := Nat.mod_lt _ (by decide)
  obtain ⟨t0, t1, t2, nl⟩ := n₂.B.nums
  have nD₃ : D₃ ≠ NL := fun q => by
    obtain ⟨o, e, _, n', dd⟩ := nl
    rw [← q, hD₃] at e; cases e
    have e2 : us₃ = #[.int (num 0 : Nat) t0, .int (num 1 : Nat) t1, .int (num 2 : Nat) t2] := by injection dd
    rw [e2] at hD₃s
    cases hD₃s
  obtain ⟨ti', ati⟩ := num_at num t0 t1 t2 hii
  obtain ⟨tj', atj⟩ := num_at num t0 t1 t2 hjj
  k_steps
  rw [em6, getD3 num hii, getD3 num hjj]
  refine wpAny_call (number_body (s := { s₁ with toks := s₁.toks + 1 + 1 }) ((rd _).mono (by omega)) (SG'.keeps fun b o e => F₂.keep b o e) hd6 (hlt ii hii) (hlt jj hjj) fun s₃ tn w₃ => ?_)
  replace w₃ : Went [] s₁ s₃ := ⟨w₃.os, w₃.gens, w₃.keep⟩
  have n₃ := n₂.all w₃
  have c₃ := cellTr (x := x) (d := d) c₁ (fun b o _ e => w₃.all b o e)
  have hD₃' := w₃.all _ _ hD₃
  have nl₃ := isList_mono nl fun b o _ e => w₃.all b o e
  have F₃ := n₃.F
  clear n₂ c₁ hD₃ nl KK F₂ N₂ y₁ y₂ e₁ rest o₁ o₂
  obtain ⟨rest, o₁, o₂, N₃, y₁, y₂, e₁, KK⟩ := stage F₃ n₃.B c₃
  walk1
  walk1
  refine setItem_at nl₃ hii (show 3 ≤ 100000 by decide) fun h₄ s₄ l₄ => ?_
  replace s₄ : Heap.SameBut NL s₃.heap h₄ := s₄
  have F₄ := F₃.change s₄ K.Nn.2 K.Nn.1
  have hnum : numOf (c % 6) (num ii) (num jj) < 65536 := num_lt hd6 (hlt ii hii) (hlt jj hjj)
  have n₄ := n₃.setN X K F₄ hii s₄ nl₃ l₄
  have k₄ : ∀ b o, b ≠ NL → s₃.heap.get? b = some o → h₄.get? b = some o := fun b o hb e => (s₄.2 b hb).trans e
  have c₄ : h₄.IsCell (L + 2) (some (.int (ii : Nat) ti)) := by
    obtain ⟨o, e, dd⟩ := c₃
    refine ⟨o, k₄ _ _ (fun q => ?_) e, dd⟩
    obtain ⟨o', e', _, n', dd'⟩ := nl₃
    rw [← q, e] at e'; cases e'; rw [dd] at dd'; cases dd'
  have hD₄ := k₄ _ _ nD₃ hD₃'
  have os₃ : s₃.os = s₁.os := w₃.os
  have gs₃ : AllBare s₁.gens → AllBare s₃.gens := w₃.gens
  clear n₃ c₃ hD₃' nl₃ KK F₃ N₃ y₁ y₂ e₁ rest o₁ o₂ s₄ l₄ k₄ w₃
  obtain ⟨rest, o₁, o₂, N₄, y₁, y₂, e₁, KK⟩ := stage F₄ n₄.B c₄
  obtain ⟨u0, u1, u2, nl₄⟩ := n₄.B.nums
  k_steps
  have eg := getD3 (fun j => if j = ii then numOf (c % 6) (num ii) (num jj) else num j) hii
  rw [if_pos (rfl : ii = ii)] at eg
  rw [eg]
  have e0 : (("" : Str)).length = 0 := by decide +kernel
  refine wpAny_call (out_all (w := w) (mean := mean) (mg := mg) (mb := mb) 4 (by decide) 0 (by decide) _ hnum _ _ _ "" _ _ ((rd _).mono (by decide)) (SG'.keeps fun b o e => F₄.keep b o e) (Nat.le_of_eq e0) fun h₅ tk₅ t k₅ => ?_)
  have F₅ := Fr.keeps F₄ k₅
  have n₅ := n₄.any X F₅ (fun b o _ e => k₅ b o e) (fun b _ o e => k₅ b o e)
  have c₅ := cellTr (x := x) (d := d) c₄ (fun b o _ e => k₅ b o e)
  have hD₅ := k₅ _ _ hD₄
  clear n₄ c₄ hD₄ nl₄ KK F₄ N₄ y₁ y₂ e₁ rest o₁ o₂ k₅
  obtain ⟨rest, o₁, o₂, N₅, y₁, y₂, e₁, KK⟩ := stage F₅ n₅.B c₅
  walk1
  walk1
  rename_i h₆ F₆ N₆
  have kk₆ := KK h₆ (fun p hp => N₆ p (.tail _ (.tail _ hp))) F₆.keep
  exact h _ t _ (n₅.walk X K F₆ kk₆) (cellTr c₅ (n₅.tr K kk₆)) os₃ gs₃ (listTr hD₅ (n₅.tr K kk₆)) rfl rfl rfl
end
end Mine

namespace Mine
open Builtin

section
variable {w : World} {mean : ExcName → Option Value} {mg mb : Str → Option Value} {A : Around} {G : Heap} {L H NL I lc k : Nat} {x d : Nat → Addr} {num : Nat → Nat} {m : Str → Option Value} {s₁ : Shared} {Q : Flow → Shared → Prop} {c : Nat} {tc : Tok}
variable {ii nn : Nat} {ti : Tok} {D₃ : Addr} {us₃ : Array Value} {ls : Nat → List Str}

set_option maxHeartbeats 4000000 in
theorem stI (rd : ∀ env, Room (A.deeper env) 14) (SG : St w mean mg mb G) (K : Fixed G L H NL x d) (n₁ : Now w G L H NL I lc k x d ls num m s₁.heap) (hg : AllBare s₁.gens) (hii : ii < 3) (hls : ls ii = linesOf nn) (hnu : num ii = nn) (hn : nn < 65536)
    (c₁ : s₁.heap.IsCell (L + 2) (some (.int (ii : Nat) ti))) (hD₃ : s₁.heap.get? D₃ = some (listOf us₃ 0))
    (hh : m "helds" = some (.ref H)) (hf : m "fresh" = some (.ref D₃))
    (h : ∀ s₄ m', Now w G L H NL I lc k x d ls num m' s₄.heap → s₄.os = s₁.os → AllBare s₄.gens →
      s₄.heap.get? D₃ = some (listOf us₃ 0) → m' "helds" = some (.ref H) → m' "fresh" = some (.ref D₃) → wpAny (model prg w) (A.deeper (env201 w.params L)) (execs (turn w.params 13) (env201 w.params L)) Q (fun _ _ => False) s₄) :
    wpAny (model prg w) (A.deeper (env201 w.params L)) (execs (turn w.params 12) (env201 w.params L)) Q (fun _ _ => False) s₁ := by
  unfold turn body201 bodyIn forBody env201 scope201 scopeIn
  dsimp only [List.drop]
  have SG' := SG
  obtain ⟨X, T, GL⟩ := SG
  have n₂ := (n₁.put hh).put (y := "fresh") ((if_neg (by decide)).trans hf)
  clear n₁
  have F₂ := n₂.F
  obtain ⟨rest, o₁, o₂, N₂, y₁, y₂, e₁, KK⟩ := stage F₂ n₂.B c₁
  walk1
  walk1
  walk1
  walk1
  walk1
  walk1
  walk1
  refine sub_at n₂.B.hel (Nat.lt_trans hii (by decide)) (ref_at x hii) ?_
  obtain ⟨vsi, nni, ai⟩ := n₂.B.accs ii hii
  rw [hls] at ai
  obtain ⟨t₁, t₂, hdi⟩ := ai.dict
  refine meth_onlyws (X.keeps F₂.keep) ai.obj hdi ?_
  dsimp only
  walk1
  refine wpAny_call (onlyws_body ((rd _).mono (by omega)) SG' F₂.keep (K.ng hii) ai n₂.T (lines_sum _) hg not_space fun s₃ w₃ t₃ => ?_)
  replace w₃ : Went tabs s₁ s₃ := ⟨w₃.os, w₃.gens, w₃.keep⟩
  have n₃ := n₂.went K w₃ t₃
  have c₃ := cellTr c₁ (n₂.trT w₃)
  have hD₃' := listTr hD₃ (n₂.trT w₃)
  have F₃ := n₃.F
  have os₃ : s₃.os = s₁.os := w₃.os
  have hg₃ : AllBare s₃.gens := w₃.gens hg
  clear n₂ c₁ hD₃ KK F₂ N₂ y₁ y₂ e₁ rest o₁ o₂ ai hdi w₃ t₃
  obtain ⟨rest, o₁, o₂, N₃, y₁, y₂, e₁, KK⟩ := stage F₃ n₃.B c₃
  obtain ⟨t0, t1, t2, nl⟩ := n₃.B.nums
  have eD : decide (linesOf nn = []) = decide (nn = 0) := decide_eq_decide.mpr (lines_nil nn hn)
  rw [eD]
  walk1
  walk1
  walk1
  walk1
  walk1
  rw [getD3 num hii, hnu]
  walk1
  walk1
  have e2 : ((nn : Int) == 0) = decide (nn = 0) := by
    by_cases q : nn = 0
    · subst q; rfl
    · rw [decide_eq_false q]
      exact beq_eq_false_iff_ne.mpr (by omega)
  rw [e2]
  generalize decide (nn = 0) = bb
  walk1
  rw [bne_self_eq_false]
  walk1
  walk1
  walk1
  walk1
  have h4 := fun tk => h { s₃ with toks := tk } _ n₃ os₃ hg₃ hD₃' rfl rfl
  exact h4 _
end
end Mine

namespace Mine
open Builtin

theorem row_again_ok : ∀ p ∈ sigma, ∀ l ∈ rowLines p, PyData.strOk (toAt 2 l ++ fromAt 1 l) = true := by decide +kernel
theorem again_ok (n : Nat) : ∀ q ∈ (linesOf n).map (fun l => toAt 2 l ++ fromAt 1 l), PyData.strOk q = true := fun q hq => by
  obtain ⟨l, hl, rfl⟩ := List.mem_map.mp hq
  obtain ⟨p, hp, hlp⟩ := lines_mem hl
  exact row_again_ok p hp l hlp
theorem again_map (n : Nat) : (linesOf n).map (fun l => commentLine (fromAt 1 l ++ " \t")) = (linesOf n).map (fun l => toAt 2 l ++ fromAt 1 l) := List.map_congr_left fun l hl => again_law n l hl

section
variable {w : World} {mean : ExcName → Option Value} {mg mb : Str → Option Value} {A : Around} {G : Heap} {L H NL I lc k : Nat} {x d : Nat → Addr} {num : Nat → Nat} {m : Str → Option Value} {s₁ : Shared} {Q : Flow → Shared → Prop} {c : Nat} {tc : Tok}
variable {nn : Nat} {D₃ : Addr} {us₃ : Array Value} {ls : Nat → List Str}

set_option maxHeartbeats 4000000 in
theorem stJ (rd : ∀ env, Room (A.deeper env) 14) (SG : St w mean mg mb G) (K : Fixed G L H NL x d) (n₁ : Now w G L H NL I lc k x d ls num m s₁.heap) (hg : AllBare s₁.gens)
    (hD₃ : s₁.heap.get? D₃ = some (listOf us₃ 0)) (gD₃ : G.get? D₃ = none) (lD₃ : D₃ ≠ L) (hD₃s : StrsAre us₃.toList (linesOf nn))
    (hh : m "helds" = some (.ref H)) (hf : m "fresh" = some (.ref D₃))
    (h : ∀ s₄ m', Now w G L H NL I lc k x d ls num m' s₄.heap → s₄.os = s₁.os → AllBare s₄.gens → m' "helds" = some (.ref H) → Q .next s₄) :
    wpAny (model prg w) (A.deeper (env201 w.params L)) (execs (turn w.params 13) (env201 w.params L)) Q (fun _ _ => False) s₁ := by
  unfold turn body201 bodyIn forBody env201 scope201 scopeIn
  dsimp only [List.drop]
  have SG' := SG
  obtain ⟨X, T, GL⟩ := SG
  have n₂ := (n₁.put hh).put (y := "fresh") ((if_neg (by decide)).trans hf)
  clear n₁
  have F₂ := n₂.F
  obtain ⟨v₀, c₁⟩ := n₂.B.celi
  obtain ⟨rest, o₁, o₂, N₂', y₁, y₂, e₁, KK⟩ := stage F₂ n₂.B c₁
  have N₂ := newsAdd N₂' hD₃ lD₃ gD₃
  clear N₂'
  have frs : us₃.size = (linesOf nn).length := by have := strs_len hD₃s; simpa using this
  have fl := lines_len nn
  walk1
  walk1
  walk1
  refine comp_walk rfl (by decide) rfl (by decide) rfl ?_
  walk1
  refine list_comp 0 (fun av i ys s' => Went [] s₁ s' ∧ StrsAre ys (((linesOf nn).take i).map fun l => commentLine (fromAt 1 l ++ " \t"))) (rd _).hh (N₂ _ (.head _)).1 (by rw [frs]; exact Nat.le_trans fl (by decide)) (Nat.zero_le _) ?_ ?_ ?_ ?_
  · intro av h' tk hav hk _
    exact ⟨⟨rfl, fun q => q, fun b o _ e => hk b o e⟩, .nil⟩
  · rintro av i ys s' h' tk hav ⟨wt, hy⟩ _ hk
    refine ⟨⟨wt.os, wt.gens, fun b o hb e => hk b o (fun q => ?_) (wt.keep b o hb e)⟩, hy⟩
    exact absurd (Heap.lt_size e) (Nat.not_lt_of_le (hav b q))
  · rintro av C i v ys m₁ s₂ hav hlt hC hv hlo₁ hm hns hll ⟨wt, hy⟩
    obtain ⟨z, tz, rfl, hz⟩ := strs_at hD₃s i v (by simpa using hv)
    have FC : Fr G C s₂.heap m₁ := ⟨hns, fun b o e => wt.keep b o (by simp) (F₂.keep b o e), Nat.le_trans (Nat.le_of_lt (Nat.lt_of_le_of_lt F₂.above F₂.ns.lt)) (hav C hC)⟩
    have hzl := lines_short nn z (List.mem_of_getElem? hz)
    clear F₂ N₂ n₂ h KK
    refine wpAny_pure ?_
    simp only [if_true]
    walk1
    walk1
    walk1
    walk1
    walk1
    walk1
    walk1
    refine ldVarC FC hm ?_
    walk1
    walk1
    walk1
    walk1
    walk1
    refine sub_slice (l := some (1, s₂.toks)) (u := none) ⟨_, Heap.get?_push_size _ rfl, rfl, rfl⟩ (Nat.le_trans hzl (by decide)) fun t' k' => ?_
    have up : ∀ b o, s₂.heap.get? b = some o → (s₂.heap.push { cls := .type "slice", data := .fields #[.int 1 s₂.toks, .none, .none] }).get? b = some o := fun b o e => Heap.get?_push_of_some _ e
    have FC' := Fr.keeps FC up
    have e2 : (Option.map (fun x => x.1) (some ((1 : Int), s₂.toks))) = some ((1 : Nat) : Int) := rfl
    rw [e2, Option.map_none, slice_from_at]
    have h2 : ((" \t" : Str)).length = 2 := by decide +kernel
    have h3 : (fromAt 1 z).length ≤ z.length := by
      show (fromAt 1 z).cps.size ≤ z.cps.size
      unfold fromAt
      simp
    have hle : (fromAt 1 z).length + ((" \t" : Str)).length ≤ 10 := by omega
    walk1
    refine SBL.add (hsz := Nat.le_trans hle (by decide)) fun t₃ k₃ _ => ?_
    walk1
    walk1
    refine wpAny_call (comment_body ((rd _).mono (by omega)) (SG'.keeps fun b o e => FC'.keep b o e) (by rw [PySem.Str.length_append]; exact Nat.le_trans hle (by decide)) fun s₄ t₄ w₄ => ?_)
    have w₄' : ∀ b o, s₂.heap.get? b = some o → s₄.heap.get? b = some o := fun b o e => w₄.all b o (up b o e)
    refine ⟨fun a _ o e => w₄' a o e, ⟨w₄.os.trans wt.os, fun q => w₄.gens (wt.gens q), fun b o hb e => w₄' b o (wt.keep b o hb e)⟩, ?_⟩
    rw [List.take_add_one, hz, List.map_append]
    exact strs_snoc hy
  · rintro av Dn ys s₂ kn hav hDn _ hDl ⟨wt, hy⟩ _
    have e1 : (linesOf nn).take us₃.size = linesOf nn := by rw [frs, List.take_length]
    rw [e1, again_map] at hy
    have hDs := hav Dn hDn
    have n₃ := n₂.all wt
    have F₃ := n₃.F
    have hD₃' := wt.all _ _ hD₃
    have gDn : G.get? Dn = none := above_none F₂ (Nat.le_trans (Nat.le_of_lt F₂.ns.lt) hDs)
    have lDn : Dn ≠ L := Nat.ne_of_gt (Nat.lt_of_lt_of_le F₂.ns.lt hDs)
    have c₃ := cellTr (x := x) (d := d) c₁ (fun b o _ e => wt.all b o e)
    clear n₂ F₂ N₂ KK c₁ hD₃ y₁ y₂ e₁ rest o₁ o₂ e1
    obtain ⟨rest, o₁, o₂, N₃', y₁, y₂, e₁, KK⟩ := stage F₃ n₃.B c₃
    have N₃ := newsAdd (newsAdd N₃' hDl lDn gDn) hD₃' lD₃ gD₃
    clear N₃' KK
    refine comp_walk rfl (by decide) rfl (by decide) rfl ?_
    walk1
    refine list_comp 0 (fun av i ys s' => Went [] s₂ s' ∧ StrsAre ys (((linesOf nn).take i).map fun l => toAt 2 l ++ fromAt 1 l)) (rd _).hh (N₃ _ (.head _)).1 (by rw [frs]; exact Nat.le_trans fl (by decide)) (Nat.zero_le _) ?_ ?_ ?_ ?_
    · intro av h' tk hav hk _
      exact ⟨⟨rfl, fun q => q, fun b o _ e => hk b o e⟩, .nil⟩
    · rintro av i ys s' h' tk hav ⟨wt, hy⟩ _ hk
      refine ⟨⟨wt.os, wt.gens, fun b o hb e => hk b o (fun q => ?_) (wt.keep b o hb e)⟩, hy⟩
      exact absurd (Heap.lt_size e) (Nat.not_lt_of_le (hav b q))
    · rintro av C i v zs m₁ s₄ hav hlt hC hv hlo₁ hm hns hll ⟨wt', hy'⟩
      obtain ⟨z, tz, rfl, hz⟩ := strs_at hD₃s i v (by simpa using hv)
      have FC : Fr G C s₄.heap m₁ := ⟨hns, fun b o e => wt'.keep b o (by simp) (F₃.keep b o e), Nat.le_trans (Nat.le_of_lt (Nat.lt_of_le_of_lt F₃.above F₃.ns.lt)) (hav C hC)⟩
      have hzl := lines_short nn z (List.mem_of_getElem? hz)
      clear F₃ N₃ n₃ h
      refine wpAny_pure ?_
      simp only [if_true]
      walk1
      walk1
      refine ldVarC FC hm ?_
      walk1
      walk1
      walk1
      walk1
      walk1
      dsimp only
      refine sub_slice (l := none) (u := some (2, s₄.toks)) ⟨_, Heap.get?_push_size _ rfl, rfl, rfl⟩ (Nat.le_trans hzl (by decide)) fun t' k' => ?_
      have up : ∀ b o, s₄.heap.get? b = some o → (s₄.heap.push { cls := .type "slice", data := .fields #[.none, .int 2 s₄.toks, .none] }).get? b = some o := fun b o e => Heap.get?_push_of_some _ e
      have FC' := Fr.keeps FC up
      have e2 : (Option.map (fun x => x.1) (some ((2 : Int), s₄.toks))) = some ((2 : Nat) : Int) := rfl
      rw [e2, Option.map_none, slice_to_at]
      generalize hh4 : s₄.heap.push { cls := .type "slice", data := .fields #[.none, .int 2 s₄.toks, .none] } = h₅ at *
      clear FC
      dsimp only
      walk1
      refine ldVarC (s := { s₄ with heap := h₅, toks := k' }) FC' hm ?_
      walk1
      walk1
      walk1
      walk1
      walk1
      dsimp only
      refine sub_slice (l := some (1, k')) (u := none) ⟨_, Heap.get?_push_size _ rfl, rfl, rfl⟩ (Nat.le_trans hzl (by decide)) fun t₂ k₂ => ?_
      have up2 : ∀ b o, s₄.heap.get? b = some o → (h₅.push { cls := .type "slice", data := .fields #[.int 1 k', .none, .none] }).get? b = some o := fun b o e => Heap.get?_push_of_some _ (up b o e)
      have e3 : (Option.map (fun x => x.1) (some ((1 : Int), k'))) = some ((1 : Nat) : Int) := rfl
      rw [e3, Option.map_none, slice_from_at]
      have h3 : (fromAt 1 z).length ≤ z.length := by
        show (fromAt 1 z).cps.size ≤ z.cps.size
        unfold fromAt
        simp
      have h4 : (toAt 2 z).length ≤ z.length := by
        show (toAt 2 z).cps.size ≤ z.cps.size
        unfold toAt
        simp
        omega
      have hle : (toAt 2 z).length + (fromAt 1 z).length ≤ 20 := by omega
      refine SBL.add (hsz := Nat.le_trans hle (by decide)) fun t₃ k₃ _ => ?_
      refine ⟨fun a _ o e => up2 a o e, ⟨wt'.os, wt'.gens, fun b o hb e => up2 b o (wt'.keep b o hb e)⟩, ?_⟩
      rw [List.take_add_one, hz, List.map_append]
      exact strs_snoc hy'
    · rintro av Dm zs s₄ km hav hDm _ hDml ⟨wt', hy'⟩ _
      have e1 : (linesOf nn).take us₃.size = linesOf nn := by rw [frs, List.take_length]
      rw [e1] at hy'
      refine ne_strs (wt'.all _ _ hDl) (by simpa using hy) hDml (by simpa using hy') (again_ok nn) (again_ok nn) (by have hu := (rd default).units; replace hu : A.units + 3 + 20 * 14 < cLine := hu; show A.units + 3 + 64 < cLine; omega) ?_
      rw [decide_eq_true rfl, Bool.not_true]
      have n₄ := n₃.all wt'
      have F₄ := n₄.F
      clear F₃ N₃ n₃
      walk1
      walk1
      walk1
      walk1
      exact h s₄ _ n₄ (wt'.os.trans wt.os) (wt'.gens (wt.gens hg)) rfl
end
end Mine

namespace Mine
open Builtin

section
variable {w : World} {mean : ExcName → Option Value} {mg mb : Str → Option Value} {A : Around} {G : Heap} {L H NL I lc k : Nat} {x d : Nat → Addr} {num : Nat → Nat} {m : Str → Option Value} {s₁ : Shared} {Q : Flow → Shared → Prop} {c : Nat} {tc : Tok}

set_option maxHeartbeats 4000000 in
theorem turn_all (rd : ∀ env, Room (A.deeper env) 14) (SG : St w mean mg mb G) (K : Fixed G L H NL x d) (n₁ : Now w G L H NL I lc k x d (fun k => linesOf (num k)) num m s₁.heap) (hg : AllBare s₁.gens) (hlt : ∀ k, k < 3 → num k < 65536) (c54 : c < 54) (hc : m "code" = some (.int (c : Nat) tc)) (hh : m "helds" = some (.ref H))
    (h : ∀ s₄ m' num', Now w G L H NL I lc k x d (fun k => linesOf (num' k)) num' m' s₄.heap → s₄.os = s₁.os → AllBare s₄.gens → (∀ k, k < 3 → num' k < 65536) → m' "helds" = some (.ref H) → Q .next s₄) :
    wpAny (model prg w) (A.deeper (env201 w.params L)) (execs (turn w.params 0) (env201 w.params L)) Q (fun _ _ => False) s₁ := by
  have hii : c / 6 % 3 < 3 := Nat.mod_lt _ (by decide)
  have hjj : c / 18 < 3 := by omega
  have hd6 : c % 6 < 6 := Nat.mod_lt _ (by decide)
  refine stA rd SG K n₁ hg c54 hc hh fun s₂ D us nu ti tj m₂ n₂ c₂ os₂ g₂ hD gD lD hDs a1 a2 a3 a4 => ?_
  generalize c / 6 % 3 = ii at *
  generalize c / 18 = jj at *
  refine stB rd SG K n₂ g₂ hii hjj hlt c₂ hD gD lD hDs a1 a2 a3 a4 fun s₃ Bk bs m₃ n₃ c₃ os₃ g₃ hD₃ iB gB lB mB b1 bj b2 b3 b4 => ?_
  have hnn : numOf (c % 6) (num ii) (num jj) < 65536 := num_lt hd6 (hlt ii hii) (hlt jj hjj)
  refine stC rd SG K n₃ c₃ hD₃ gD lD iB gB lB mB b1 b2 b3 b4 fun s₄ D₃ us₃ m₄ n₄ c₄ os₄ g₄ hD₄ hE gE lE hEs d1 dj d2 d3 d4 => ?_
  refine stD rd SG K n₄ c₄ hD₄ gD lD hDs hE gE lE hEs (lines_len _) (lines_len _) d1 d2 d3 d4 fun s₅ kk tk m₅ n₅ c₅ os₅ g₅ hD₅ hE₅ hko hkf htake e1 ej e2 e3 e4 e5 => ?_
  have g₅' : AllBare s₅.gens := by rw [g₅, g₄]; exact g₃
  refine stE rd SG K n₅ hii c₅ hD₅ gD lD hDs hE₅ gE lE rfl hko e1 e2 e3 e4 e5 fun s₆ m₆ n₆ c₆ os₆ g₆ hE₆ f1 fj f2 f3 f4 => ?_
  rw [htake] at n₆
  refine stF rd SG K n₆ (g₆ g₅') hii c₆ hE₆ gE lE hEs (lines_len _) hkf f1 f2 f3 f4 fun s₇ m₇ n₇ c₇ os₇ g₇ hE₇ p1 pj p2 p3 => ?_
  have hj : m₇ "j" = some (.int (jj : Nat) tj) := by rw [pj, fj, ej, dj, bj]
  refine stG rd SG K n₇ hii hjj hlt c₇ hE₇ gE lE hEs p1 hj p2 p3 fun s₈ t m₈ n₈ c₈ os₈ g₈ hE₈ q1 q2 q3 => ?_
  rw [out_txt] at q1
  refine stH rd SG K n₈ (g₈ g₇) hii (if_pos rfl) c₈ hE₈ q1 q2 q3 fun s₉ m₉ n₉ c₉ os₉ g₉ hE₉ r1 r2 => ?_
  refine stI rd SG K n₉ g₉ hii (if_pos rfl) (if_pos rfl) hnn c₉ hE₉ r1 r2 fun sa ma na osa ga hEa u1 u2 => ?_
  refine stJ rd SG K na ga hEa gE lE hEs u1 u2 fun sb mb' nb osb gb v1 => ?_
  refine h sb mb' (fun j => if j = ii then numOf (c % 6) (num ii) (num jj) else num j) ?_ ?_ gb ?_ v1
  · have el : (fun j => if j = ii then linesOf (numOf (c % 6) (num ii) (num jj)) else linesOf (num j)) = fun k => linesOf (if k = ii then numOf (c % 6) (num ii) (num jj) else num k) := by
      funext j
      by_cases q : j = ii
      · rw [if_pos q, if_pos q]
      · rw [if_neg q, if_neg q]
    rw [← el]
    exact nb
  · rw [osb, osa, os₉, os₈, os₇, os₆, os₅, os₄, os₃, os₂]
  · intro q hq
    by_cases e : q = ii
    · rw [if_pos e]; exact hnn
    · rw [if_neg e]; exact hlt q hq
end
end Mine

namespace Mine
open Builtin

section
variable {prog : Program} {w : World} {A : Around} {s : Shared} {env : Env} {x : Str}

/-- the loop's ground where the loop's name is a cell -/
noncomputable def LoopGC (prog : Program) (w : World) (A : Around) (env : Env) (c : Addr) (body : List Stmt) (Q : Flow → Shared → Prop) (it : Value) (s₂ : Shared) : Prop :=
  ∃ (lo : Nat) (I : Addr) (fp wr : List Addr) (n : Nat) (P : Nat → Value → Prop) (St : Nat → Heap → Prop) (m : Str → Option Value) (J : Nat → (Str → Option Value) → Shared → Prop),
    it = .ref I ∧ WalkL prog w A lo I fp wr n P St ∧ lo ≤ s₂.toks ∧ env.locals ∉ fp ∧ c ∉ fp ∧ c ≠ env.locals ∧ St 0 s₂.heap ∧ s₂.heap.Ns env.locals m ∧ J 0 m s₂ ∧
    (∀ i m₁ s', J i m₁ s' → ∃ v, s'.heap.IsCell c v) ∧
    (∀ i m₁ (s' : Shared) h' tk, J i m₁ s' → (∃ v, h'.IsCell c v) → (∀ b o, b ∉ wr → b ≠ c → s'.heap.get? b = some o → h'.get? b = some o) → J i m₁ { s' with heap := h', toks := tk }) ∧
    (∀ i v m₁ s₁, i < n → P i v → lo ≤ s₁.toks → s₁.heap.IsCell c (some v) → s₁.heap.Ns env.locals m₁ → J i m₁ s₁ → St (i + 1) s₁.heap → wpAny (model prog w) A (execs body env) (TurnTo env.locals (St (i + 1)) (J (i + 1)) Q) (fun _ _ => False) s₁) ∧
    (∀ m₁ s₁, lo ≤ s₁.toks → s₁.heap.Ns env.locals m₁ → J n m₁ s₁ → Q .next s₁)

theorem for_walkC {px pos : Pos} {iter : Expr} {body : List Stmt} {Q : Flow → Shared → Prop} {c : Addr} (hk : env.scope.kind = .function) (hx : env.kindOf x = some .cell) (hc : env.cells.lookup x = some c)
    (h : wpAny (model prog w) A (eval iter env) (fun xv s₁ => wpAny (model prog w) A (pyIter xv) (LoopGC prog w A env c body Q) (fun _ _ => False) s₁) (fun _ _ => False) s)
    (hs : ∀ x, foldedSetIterable iter env x = pure x := by intro _; rfl) :
    wpAny (model prog w) A (exec (.For (.Name x px) iter body [] pos) env) Q (fun _ _ => False) s := by
  refine wpAny_For (wpAny_mono h (fun xv s₁ h₁ => wpAny_mono h₁ (fun it s₂ h₂ => ?_) fun _ _ e => e) fun _ _ e => e) hs
  obtain ⟨lo, I, fp, wr, n, P, St, m, J, rfl, W, hlo, hLf, hcf, hcL, hst, hn, h0, jc, stab, turn, done⟩ := h₂
  have hLw : env.locals ∉ wr := fun h => hLf (W.sub _ h)
  have hcw : c ∉ wr := fun h => hcf (W.sub _ h)
  refine codeAny_forLoop (fun k s' => ∃ m' i, lo ≤ s'.toks ∧ St i s'.heap ∧ s'.heap.Ns env.locals m' ∧ J i m' s' ∧ i ≤ n ∧ k = n + 1 - i) ?_ (n + 1) ⟨m, 0, hlo, hst, hn, h0, Nat.zero_le _, rfl⟩
  rintro k s' ⟨m', i, hlo', hst', hn', hJ, hi, rfl⟩
  obtain ⟨v₀, hcell⟩ := jc i m' s' hJ
  by_cases hlt : i < n
  · refine W.item i _ _ _ hlt hlo' hst' fun v h₁ tk₁ hlo₁ hP hst₁ hk₁ => ?_
    have hc1 : h₁.IsCell c v₀ := by
      obtain ⟨o, e, dd⟩ := hcell
      exact ⟨o, hk₁ _ _ hcw e, dd⟩
    refine wpAny_assign_Name (wpAny_storeName_cell hk hx hc hc1 fun h₂ hcv hs₂ => ?_)
    replace hs₂ : Heap.SameBut c h₁ h₂ := hs₂
    have hst₂ : St (i + 1) h₂ := W.frame _ _ _ hst₁ fun b hb o e => (hs₂.2 b fun q => hcf (q ▸ hb)).trans e
    have kk : ∀ b o, b ∉ wr → b ≠ c → s'.heap.get? b = some o → h₂.get? b = some o := fun b o hb hl e => (hs₂.2 b hl).trans (hk₁ b o hb e)
    have hn₂ : h₂.Ns env.locals m' := hn'.at' fun o e => kk _ o hLw (Ne.symm hcL) e
    have hJ₂ : J i m' { s' with heap := h₂, toks := tk₁ } := stab i m' s' h₂ tk₁ hJ ⟨_, hcv⟩ kk
    refine wpAny_mono (wpAny_toks_of (s := { s' with heap := h₂, toks := tk₁ }) hlo₁ (turn i v _ { s' with heap := h₂, toks := tk₁ } hlt hP hlo₁ hcv hn₂ hJ₂ hst₂)) (fun f s₃ h₃ => ?_) fun _ _ e => e.2.elim
    obtain ⟨hlo₃, h₃⟩ := h₃
    cases f with
    | ret v => exact h₃
    | brk => exact h₃
    | cont => obtain ⟨m₃, a, b, c⟩ := h₃; exact ⟨n + 1 - (i + 1), by omega, m₃, i + 1, hlo₃, c, a, b, hlt, rfl⟩
    | next => obtain ⟨m₃, a, b, c⟩ := h₃; exact ⟨n + 1 - (i + 1), by omega, m₃, i + 1, hlo₃, c, a, b, hlt, rfl⟩
  · have hin : i = n := by omega
    subst hin
    refine W.done _ _ _ hlo' hst' fun h₁ tk₁ hlo₁ hk₁ => wpAny_execs_nil ?_
    have hn₁ : h₁.Ns env.locals m' := hn'.at' fun o e => hk₁ _ o hLw e
    have hc1 : h₁.IsCell c v₀ := by
      obtain ⟨o, e, dd⟩ := hcell
      exact ⟨o, hk₁ _ _ hcw e, dd⟩
    exact done m' _ hlo₁ hn₁ (stab i m' s' h₁ tk₁ hJ ⟨_, hc1⟩ fun b o hb _ e => hk₁ b o hb e)
end
end Mine

namespace Mine
open Builtin

/-- the ground behind the loop -/
structure Fin (w : World) (G : Heap) (L H NL : Nat) (x d : Nat → Addr) (ls : Nat → List Str) (num : Nat → Nat) (m : Str → Option Value) (h : Heap) : Prop where
  F : Fr G L h m
  B : Base w L H NL x d ls num h
  T : Tabs h

section
variable {w : World} {G : Heap} {L H NL : Nat} {x d : Nat → Addr} {ls : Nat → List Str} {num : Nat → Nat} {m m' : Str → Option Value} {h h' : Heap} {s s' : Shared}

theorem Fin.any (n : Fin w G L H NL x d ls num m h) (X : (Kw w).In G) (F' : Fr G L h' m') (tr : ∀ b o, Held x d b o → h.get? b = some o → h'.get? b = some o) (tt : ∀ b ∈ tabs, ∀ o, h.get? b = some o → h'.get? b = some o) : Fin w G L H NL x d ls num m' h' :=
  ⟨F', n.B.mono tr, tabsVia X n.F.keep F'.keep n.T (tt 69 (by simp)) (tt 76 (by simp))⟩
theorem Fin.tr (n : Fin w G L H NL x d ls num m h) (K : Fixed G L H NL x d) (kk : ∀ b o, b ≠ L → h.get? b = some o → h'.get? b = some o) : ∀ b o, Held x d b o → h.get? b = some o → h'.get? b = some o :=
  fun b o q e => kk b o (q.noL n.F.ns e fun i hi => (K.dn i hi).2) e
theorem Fin.trT (n : Fin w G L H NL x d ls num m s.heap) (W : Went tabs s s') : ∀ b o, Held x d b o → s.heap.get? b = some o → s'.heap.get? b = some o :=
  fun b o q e => W.keep b o (q.noTab n.T e) e
theorem Fin.walk (n : Fin w G L H NL x d ls num m h) (X : (Kw w).In G) (K : Fixed G L H NL x d) (F' : Fr G L h' m') (kk : ∀ b o, b ≠ L → h.get? b = some o → h'.get? b = some o) : Fin w G L H NL x d ls num m' h' :=
  n.any X F' (n.tr K kk) fun b hb o e => kk b o (Nat.ne_of_lt (K.Lt b hb)) e
theorem Fin.all (n : Fin w G L H NL x d ls num m s.heap) (W : Went [] s s') : Fin w G L H NL x d ls num m s'.heap :=
  ⟨frWent n.F W (by simp) (by simp), n.B.mono fun b o _ e => W.all b o e, n.T.keep W.all⟩
theorem Fin.put {y : Str} {v : Value} (n : Fin w G L H NL x d ls num m h) (hv : m y = some v) : Fin w G L H NL x d ls num (fun z => if z = y then some v else m z) h := ⟨Fr.put n.F hv, n.B, n.T⟩
theorem Fin.setI (n : Fin w G L H NL x d ls num m h) (X : (Kw w).In G) (K : Fixed G L H NL x d) (F' : Fr G L h' m') (sb : Heap.SameBut (L + 2) h h') {v : Option Value} (c : h'.IsCell (L + 2) v) : Fin w G L H NL x d ls num m' h' := by
  have kc : ∀ b o, b ≠ L + 2 → h.get? b = some o → h'.get? b = some o := fun b o hb e => (sb.2 b hb).trans e
  have tt : ∀ b ∈ tabs, ∀ o, h.get? b = some o → h'.get? b = some o := fun b hb o e => kc b o (Nat.ne_of_lt (Nat.lt_succ_of_lt (Nat.lt_succ_of_lt (K.Lt b hb)))) e
  exact ⟨F', n.B.setC sb c, tabsVia X n.F.keep F'.keep n.T (tt 69 (by simp)) (tt 76 (by simp))⟩
end

section
variable {prog : Program} {w : World} {A : Around} {s : Shared} {env : Env} {x : Str}

/-- a comprehension over a list of fixed values -/
theorem list_compX {elt : Expr} {ifs : List Expr} {scope : Scope} {cl : List (Str × Addr)} {Q : Value → Shared → Prop} {l : Addr} {us : Array Value} {nu : Nat} (lo : Nat) (J : List Addr → Nat → List Value → Shared → Prop)
    (hh : A.handled = none) (hl : s.heap.get? l = some (listOf us nu)) (hn : us.size ≤ sizeLine) (hlo : lo ≤ s.toks)
    (j0 : ∀ av h' tk, (∀ a ∈ av, s.heap.objs.size ≤ a) → (∀ b o, s.heap.get? b = some o → h'.get? b = some o) → lo ≤ tk → J av 0 [] { s with heap := h', toks := tk })
    (stab : ∀ av i ys (s' : Shared) h' tk, (∀ a ∈ av, s.heap.objs.size ≤ a) → J av i ys s' → lo ≤ tk → (∀ b o, b ∉ av → s'.heap.get? b = some o → h'.get? b = some o) → J av i ys { s' with heap := h', toks := tk })
    (turn : ∀ av C i v ys m₁ (s₁ : Shared), (∀ a ∈ av, s.heap.objs.size ≤ a) → (∀ a ∈ av, ∃ o, s₁.heap.get? a = some o) → C ∈ av → us[i]? = some v → lo ≤ s₁.toks → m₁ x = some v → s₁.heap.Ns C m₁ → s₁.heap.get? l = some (listOf us nu) → J av i ys s₁ →
      wpAny (model prog w) A (testsOf ifs (compEnvC scope cl C env)) (fun ok s₃ => if ok = true then
          wpAny (model prog w) A (eval elt (compEnvC scope cl C env)) (fun y s₄ => Same (l :: av) s₁.heap s₄.heap ∧ J av (i + 1) (ys ++ [y]) s₄) (fun _ _ => False) s₃
        else Same (l :: av) s₁.heap s₃.heap ∧ J av (i + 1) ys s₃) (fun _ _ => False) s₁)
    (done : ∀ av D ys (s₁ : Shared) k, (∀ a ∈ av, s.heap.objs.size ≤ a) → D ∈ av → lo ≤ s₁.toks → s₁.heap.get? D = some (listOf ys.toArray k) → J av us.size ys s₁ → ys.length ≤ us.size → Q (.ref D) s₁) :
    wpAny (model prog w) A (pyIter (.ref l)) (CompG prog w A env x scope cl ifs elt Q) (fun _ _ => False) s := by
  have hl' : s.heap.IsList l us := ⟨_, hl, rfl, nu, rfl⟩
  refine wpAny_pyIter_list hl' ?_
  have hlI : l ≠ s.heap.objs.size := Nat.ne_of_lt (Heap.lt_size hl)
  have hnI : s.heap.get? s.heap.objs.size = none := Heap.get?_none_of_le (Nat.le_refl _)
  have up : ∀ b o, s.heap.get? b = some o → (s.heap.push { cls := .type "list_iterator", data := .fields #[.ref l, .int 0 0] }).get? b = some o := fun b o e => Heap.get?_push_of_some _ e
  have hI1 : (s.heap.push { cls := .type "list_iterator", data := .fields #[.ref l, .int 0 0] }).IsListIter s.heap.objs.size l 0 := ⟨_, Heap.get?_push_size _ rfl, rfl, rfl⟩
  have hsz1 : s.heap.objs.size < (s.heap.push { cls := .type "list_iterator", data := .fields #[.ref l, .int 0 0] }).objs.size := by rw [Heap.size_push]; exact Nat.lt_succ_self _
  generalize hH : s.heap.push { cls := .type "list_iterator", data := .fields #[.ref l, .int 0 0] } = H at *
  generalize hI : s.heap.objs.size = I at *
  refine ⟨lo, I, _, _, _, _, _, fun D C i ys s' => J [D, C, I] i ys s' ∧ ys.length ≤ i ∧ (∀ a ∈ [D, C, I], I ≤ a) ∧ s'.heap.get? l = some (listOf us nu), rfl, Walks.list hh I l hlI us, hlo, hn, ⟨hI1, hl'.at fun o e => up l o e⟩, ?_, ?_, ?_, ?_, ?_⟩
  · intro b hb
    rcases List.mem_cons.mp hb with rfl | hb
    · exact hsz1
    · rw [List.mem_singleton.mp hb]; exact Heap.lt_size (up _ _ hl)
  · intro D C h' tk nD nC hDC lD lC hD hC hk hlo'
    have hle : ∀ a ∈ [D, C, I], I ≤ a := by
      intro a ha
      simp only [List.mem_cons, List.not_mem_nil, or_false] at ha
      rcases ha with rfl | rfl | rfl
      · exact Nat.le_of_lt (Nat.lt_of_lt_of_le hsz1 lD)
      · exact Nat.le_of_lt (Nat.lt_of_lt_of_le hsz1 lC)
      · exact Nat.le_refl _
    refine ⟨j0 _ _ _ hle (fun b o e => hk b o (up b o e)) hlo', Nat.le_refl _, hle, hk _ _ (up _ _ hl)⟩
  · rintro D C i ys s' h' tk ⟨j, hy, hle, hll⟩ hlo' hk
    have hlav : ∀ a ∈ [D, C, I], l ≠ a := fun a ha q => Nat.lt_irrefl _ (Nat.lt_of_lt_of_le (hI ▸ Heap.lt_size hl : l < I) (q ▸ hle a ha))
    refine ⟨stab _ i ys s' h' tk hle j hlo' fun b o hb e => hk b o (fun q => hb (by simp [List.mem_singleton.mp q])) (fun q => hb (by simp [q])) (fun q => hb (by simp [q])) e, hy, hle, hk _ _ (fun q => hlav I (by simp) (List.mem_singleton.mp q)) (hlav D (by simp)) (hlav C (by simp)) hll⟩
  · rintro D C i v ys m₁ s₁ k hDC nD nC hDf hCf hi hP hlo' hm hns hD hst ⟨j, hy, hle, hll⟩
    obtain ⟨⟨oI, hoI, hcI, hdI⟩, hlI'⟩ := hst
    have hlt : ∀ a ∈ [D, C, I], ∃ o, s₁.heap.get? a = some o := by
      intro a ha
      simp only [List.mem_cons, List.not_mem_nil, or_false] at ha
      rcases ha with rfl | rfl | rfl
      · exact ⟨_, hD⟩
      · obtain ⟨o, _, _, e, _⟩ := hns
        exact ⟨o, e⟩
      · exact ⟨_, hoI⟩
    have fin : ∀ (h' : Heap), Same (l :: [D, C, I]) s₁.heap h' → h'.get? l = some (listOf us nu) ∧ h'.get? D = some (listOf ys.toArray k) ∧ h'.Ns C m₁ ∧ (h'.IsListIter I l (i + 1) ∧ h'.IsList l us) := fun h' sm =>
      ⟨sm l (by simp) _ hll, sm D (by simp) _ hD, hns.at' fun o e => sm C (by simp) o e, ⟨oI, sm I (by simp) _ hoI, hcI, hdI⟩, _, sm l (by simp) _ hll, rfl, nu, rfl⟩
    refine wpAny_mono (turn [D, C, I] C i v ys m₁ s₁ hle hlt (by simp) hP hlo' hm hns hll j) (fun ok s₃ h₃ => ?_) fun _ _ e => e
    cases ok with
    | false =>
      simp only [Bool.false_eq_true, if_false] at h₃ ⊢
      obtain ⟨f1, f2, f3, f4⟩ := fin _ h₃.1
      exact ⟨⟨k, f2⟩, ⟨m₁, f3⟩, f4, h₃.2, Nat.le_succ_of_le hy, hle, f1⟩
    | true =>
      simp only [if_true] at h₃ ⊢
      refine wpAny_mono h₃ (fun y s₄ h₄ => ?_) fun _ _ e => e
      obtain ⟨f1, f2, f3, f4⟩ := fin _ h₄.1
      exact ⟨⟨k, f2⟩, ⟨m₁, f3⟩, f4, hy, h₄.2, by rw [List.length_append, List.length_singleton]; omega, hle, f1⟩
  · rintro D C ys s₁ k nD hlo' hD ⟨j, hy, hle, hll⟩
    exact done [D, C, I] D ys s₁ k hle (by simp) hlo' hD j hy

end

/-- the lists of the three outlines -/
structure Outs (G : Heap) (L : Addr) (num : Nat → Nat) (E : Nat → Addr) (u : Nat → Array Value) (nv : Nat → Nat) (h : Heap) : Prop where
  at' : ∀ i, i < 3 → h.get? (E i) = some (listOf (u i) (nv i))
  outS : ∀ i, i < 3 → StrsAre (u i).toList (linesOf (num i))
  new : ∀ i, i < 3 → G.get? (E i) = none ∧ E i ≠ L

theorem three_cases {i : Nat} (h : i < 3) : i = 0 ∨ i = 1 ∨ i = 2 := by omega

noncomputable abbrev fin201 (P : Params) (k : Nat) : List Stmt := (body201 P).drop (3 + k)
end Mine

namespace Mine
open Builtin

theorem ns_uniq {h : Heap} {L : Addr} {m m' : Str → Option Value} (a : h.Ns L m) (b : h.Ns L m') : m = m' := by
  obtain ⟨o, es, ep, e, dd, _, f⟩ := a
  obtain ⟨o', es', ep', e', dd', _, f'⟩ := b
  rw [e] at e'; cases e'; rw [dd] at dd'; cases dd'
  funext y
  rw [← f y, ← f' y]

section
variable {prog : Program} {w : World} {A : Around} {s : Shared} {env : Env} {x : Str}

noncomputable def CompGA (prog : Program) (w : World) (A : Around) (env : Env) (x : Str) (scope : Scope) (cl : List (Str × Addr)) (ifs : List Expr) (elt : Expr) (y : Str) (Q : Flow → Shared → Prop) (it : Value) (s₂ : Shared) : Prop :=
  ∃ (lo : Nat) (I : Addr) (fp wr : List Addr) (n : Nat) (P : Nat → Value → Prop) (St : Nat → Heap → Prop) (J : Addr → Addr → Nat → List Value → Shared → Prop),
    it = .ref I ∧ Walks prog w A I fp wr n P St ∧ lo ≤ s₂.toks ∧ n ≤ sizeLine ∧ St 0 s₂.heap ∧ (∀ b ∈ fp, b < s₂.heap.objs.size) ∧
    (∀ D C h' tk, s₂.heap.get? D = none → s₂.heap.get? C = none → D ≠ C → s₂.heap.objs.size ≤ D → s₂.heap.objs.size ≤ C → D < h'.objs.size → C < h'.objs.size → (∀ b o, s₂.heap.get? b = some o → h'.get? b = some o) → lo ≤ tk → J D C 0 [] { s₂ with heap := h', toks := tk }) ∧
    (∀ D C i ys (s' : Shared) h' tk, J D C i ys s' → lo ≤ tk → (∀ b o, b ∉ wr → b ≠ D → b ≠ C → s'.heap.get? b = some o → h'.get? b = some o) → J D C i ys { s' with heap := h', toks := tk }) ∧
    (∀ D C i v ys m₁ (s₁ : Shared) k, D ≠ C → s₂.heap.get? D = none → s₂.heap.get? C = none → D ∉ fp → C ∉ fp → i < n → P i v → lo ≤ s₁.toks → m₁ x = some v → s₁.heap.Ns C m₁ → s₁.heap.get? D = some (listOf ys.toArray k) → St (i + 1) s₁.heap → J D C i ys s₁ →
      wpAny (model prog w) A (testsOf ifs (compEnvC scope cl C env)) (fun ok s₃ => if ok = true then
          wpAny (model prog w) A (eval elt (compEnvC scope cl C env)) (fun y s₄ => (∃ k, s₄.heap.get? D = some (listOf ys.toArray k)) ∧ (∃ m, s₄.heap.Ns C m) ∧ St (i + 1) s₄.heap ∧ ys.length ≤ i ∧ J D C (i + 1) (ys ++ [y]) s₄) (fun _ _ => False) s₃
        else CompAt St J D C (i + 1) ys s₃) (fun _ _ => False) s₁) ∧
    (∀ D C i ys (s' : Shared), J D C i ys s' → ∃ m, s'.heap.Ns env.locals m) ∧ env.locals ∉ wr ∧ env.locals < s₂.heap.objs.size ∧
    (∀ D C ys (s₁ : Shared) k h₃ tk, s₂.heap.get? D = none → lo ≤ s₁.toks → s₁.heap.get? D = some (listOf ys.toArray k) → J D C n ys s₁ → D ≠ C → D ≠ env.locals → (∃ m, s₁.heap.Ns env.locals m ∧ h₃.Ns env.locals (fun z => if z = y then some (.ref D) else m z)) →
      (∀ b o, b ≠ env.locals → b ≠ C → s₁.heap.get? b = some o → h₃.get? b = some o) → Q .next { s₁ with heap := h₃, toks := tk })

theorem comp_assign {elt iter : Expr} {px py : Pos} {ifs : List Expr} {scope : Scope} {cl : List (Str × Addr)} {pos spos : Pos} {y : Str} {Q : Flow → Shared → Prop}
    (hsw : swapsWith (.ListComp elt [⟨.Name x px, iter, ifs, 0⟩] scope pos) (some (.Name y py)) spos.line env = pure true)
    (hclos : closureFor scope env = pure cl) (hcell : ∀ y ∈ scope.names, y.2 ≠ .cell) (hkind : scope.kind = .function)
    (hnames : ∀ y ∈ scope.names, y.2 = .local → scope.names.lookup y.1 = some .local) (hx : scope.names.lookup x = some .local)
    (hy : env.kindOf y = some .local) (hp : (env.scope.kind == .class || (env.scope.kind == .module && env.locals != env.globals)) = false)
    (h : wpAny (model prog w) A (eval iter env) (fun xv s₁ => wpAny (model prog w) A (pyIter xv) (CompGA prog w A env x scope cl ifs elt y Q) (fun _ _ => False) s₁) (fun _ _ => False) s)
    (hs : ∀ x, foldedSetIterable iter env x = pure x := by intro _; rfl) :
    wpAny (model prog w) A (exec (.Assign [.Name y py] (.ListComp elt [⟨.Name x px, iter, ifs, 0⟩] scope pos) spos) env) Q (fun _ _ => False) s := by
  rw [exec_Assign_Name_used _ _ _ _ hsw]
  refine wpAny_bind (wpAny_standAt (wpAny_bind ?_))
  show wpAny _ A (do let _ ← comprehension (.ListComp elt [⟨.Name x px, iter, ifs, 0⟩] scope pos) scope env _ (newList []) false (eval iter env) (some (assign (.Name y py) env))) _ _ s
  refine wpAny_bind (wpAny_mono (wpAny_comprehension_free (use := some (assign (.Name y py) env)) (Q := fun _ s' => Q .next s') rfl hs hclos hkind hnames
    (wpAny_mono h (fun xv s₁ h₁ => wpAny_mono h₁ (fun it s₂ h₂ => ?_) fun _ _ e => e) fun _ _ e => e)) (fun _ s' hq => wpAny_pure (wpAny_pure hq)) fun _ _ e => e)
  obtain ⟨lo, I, fp, wr, n, P, St, J, rfl, W, hlo, hsz, hst, hfp, j0, stab, turn, jl, hLw, hLlt, done⟩ := h₂
  refine wpAny_newObj_type (wpAny_newFunctionEnv hcell (by intro y hy; simp at hy) (fun h₁ hns₁ hsb₁ => ?_) hkind)
  dsimp only at hns₁ hsb₁ ⊢
  generalize hH2 : s₂.heap.push { cls := .type "list", dict := none, data := .seq ([] : List Value).toArray } = H2 at hns₁ hsb₁ ⊢
  have hC : H2.objs.size = s₂.heap.objs.size + 1 := by rw [← hH2, Heap.size_push]
  have hDC : s₂.heap.objs.size ≠ H2.objs.size := by rw [hC]; exact Nat.ne_of_lt (Nat.lt_succ_self _)
  have hLD : env.locals ≠ s₂.heap.objs.size := Nat.ne_of_lt hLlt
  have hLC : env.locals ≠ H2.objs.size := by rw [hC]; exact Nat.ne_of_lt (Nat.lt_succ_of_lt hLlt)
  have below : ∀ b, b < s₂.heap.objs.size → b ≠ H2.objs.size ∧ b ≠ s₂.heap.objs.size := fun b hb => ⟨by rw [hC]; exact Nat.ne_of_lt (Nat.lt_succ_of_lt hb), Nat.ne_of_lt hb⟩
  have hDf : s₂.heap.objs.size ∉ fp := fun hm => Nat.lt_irrefl _ (hfp _ hm)
  have hCf : H2.objs.size ∉ fp := fun hm => by have := hfp _ hm; rw [hC] at this; exact Nat.lt_irrefl _ (Nat.lt_of_succ_lt this)
  have old : ∀ b o, s₂.heap.get? b = some o → h₁.get? b = some o := fun b o e => hsb₁.extBut b o (below b (Heap.lt_size e)).1 (Heap.get?_push_of_some _ (hH2 ▸ Heap.get?_push_of_some _ e))
  have hacc : h₁.get? s₂.heap.objs.size = some (listOf #[] 0) := hsb₁.extBut _ _ hDC (Heap.get?_push_of_some _ (hH2 ▸ Heap.get?_push_size _ rfl))
  have hst₁ : St 0 h₁ := W.frame _ _ _ hst fun b _ o e => old b o e
  have nD : s₂.heap.get? s₂.heap.objs.size = none := Heap.get?_none_of_le (Nat.le_refl _)
  have nC : s₂.heap.get? H2.objs.size = none := Heap.get?_none_of_le (by rw [hC]; exact Nat.le_succ _)
  have hJ : J s₂.heap.objs.size H2.objs.size 0 [] { s₂ with heap := h₁, toks := s₂.toks + ([] : List (Str × Value)).length } := j0 _ _ h₁ _ nD nC hDC (Nat.le_refl _) (by rw [hC]; exact Nat.le_succ _) (Heap.lt_size hacc) hns₁.lt old hlo
  generalize s₂.heap.objs.size = D at *
  generalize H2.objs.size = C at *
  have hCw : C ∉ wr := fun q => hCf (W.sub _ q)
  have hDw : D ∉ wr := fun q => hDf (W.sub _ q)
  have loop : ∀ s₃ : Shared, s₃ = { s₂ with heap := h₁, toks := s₂.toks + ([] : List (Str × Value)).length } →
      codeAny (model prog w) A (.compLoop (.ListComp elt [⟨.Name x px, iter, ifs, 0⟩] scope pos) 0 (.ref I) (.ref D) (compEnvC scope cl C env)) (compPost (model prog w) A (fun _ _ => False) (some (assign (.Name y py) env)) (fun _ s' => Q .next s') (.ref D) C) s₃ := by
    rintro s₃ rfl
    refine codeAny_compLoop_tests (fun k s' => ∃ i ys, lo ≤ s'.toks ∧ CompAt St J D C i ys s' ∧ ys.length ≤ i ∧ i ≤ n ∧ k = n + 1 - i) ?_ (n + 1) ⟨0, [], hlo, ⟨⟨0, hacc⟩, ⟨_, hns₁⟩, hst₁, hJ⟩, Nat.le_refl _, Nat.zero_le _, rfl⟩
    rintro k s' ⟨i, ys, hlo', ⟨⟨kD, hD⟩, ⟨m', hn'⟩, hst', hJ'⟩, hyl, hi, rfl⟩
    by_cases hlt : i < n
    · refine (WalkL.of (lo := lo) W).item i _ _ _ hlt hlo' hst' fun v h₂ tk₂ hlo₂ hP hst₂ hk₂ => ?_
      refine wpAny_assign_Name (wpAny_storeName_local (lookup_relabel_local hx) (hn'.at' fun o e => hk₂ _ o hCw e) (fun h₃ hn₃ hs₃ => ?_) (by simp [compEnvC, relabel, hkind]))
      replace hs₃ : Heap.SameBut C h₂ h₃ := hs₃
      have hst₃ : St (i + 1) h₃ := W.frame _ _ _ hst₂ fun b hb o e => (hs₃.2 b fun q => hCf (q ▸ hb)).trans e
      have hD₃ : h₃.get? D = some (listOf ys.toArray kD) := (hs₃.2 D hDC).trans (hk₂ _ _ hDw hD)
      have hJ₃ := stab D C i ys s' h₃ (tk₂ + 1) hJ' (Nat.le_succ_of_le hlo₂) fun b o hb _ hbC e => (hs₃.2 b hbC).trans (hk₂ b o hb e)
      refine wpAny_mono (wpAny_toks_of (s := { s' with heap := h₃, toks := tk₂ + 1 }) (Nat.le_succ_of_le hlo₂) (turn D C i v ys _ { s' with heap := h₃, toks := tk₂ + 1 } kD hDC nD nC hDf hCf hlt hP (Nat.le_succ_of_le hlo₂) (by simp) hn₃ hD₃ hst₃ hJ₃)) (fun ok s₄ h₄ => ?_) fun _ _ e => e.2.elim
      obtain ⟨hlo₄, h₄⟩ := h₄
      cases ok with
      | false => exact ⟨n + 1 - (i + 1), by omega, i + 1, ys, hlo₄, h₄, Nat.le_succ_of_le hyl, hlt, rfl⟩
      | true =>
        simp only [if_true] at h₄ ⊢
        refine wpAny_mono (wpAny_toks_of hlo₄ h₄) (fun y s₅ h₅ => ?_) fun _ _ e => e.2.elim
        obtain ⟨hlo₅, ⟨k₅, hD₅⟩, ⟨m₅, hn₅⟩, hst₅, _, hJ₅⟩ := h₅
        refine append_at (hsz := by show ys.toArray.size ≤ sizeLine; rw [List.size_toArray]; exact Nat.le_trans hyl (Nat.le_trans (Nat.le_of_lt hlt) hsz)) hD₅ fun h₆ hs₆ hD₆ => ?_
        refine ⟨n + 1 - (i + 1), by omega, i + 1, ys ++ [y], hlo₅, ⟨⟨k₅ + 1, by rw [hD₆]; simp⟩, ⟨m₅, hn₅.sameBut hs₆ (Ne.symm hDC)⟩, W.frame _ _ _ hst₅ fun b hb o e => hs₆.extBut b o (fun q => hDf (q ▸ hb)) e,
          stab D C (i + 1) (ys ++ [y]) s₅ h₆ s₅.toks hJ₅ hlo₅ fun b o _ hbD _ e => hs₆.extBut b o hbD e⟩, by rw [List.length_append, List.length_singleton]; omega, hlt, rfl⟩
    · have hin : i = n := by omega
      subst hin
      refine (WalkL.of (lo := lo) W).done _ _ _ hlo' hst' fun h₂ tk₂ hlo₂ hk₂ => ?_
      have hJ₂ := stab D C i ys s' h₂ tk₂ hJ' hlo₂ fun b o hb _ _ e => hk₂ b o hb e
      obtain ⟨mL, hnL⟩ := jl D C i ys _ hJ₂
      have hD₂ : h₂.get? D = some (listOf ys.toArray kD) := hk₂ _ _ hDw hD
      have hC₂ : h₂.Ns C m' := hn'.at' fun o e => hk₂ _ o hCw e
      show wpAny _ A (assign (.Name y py) env (.ref D)) _ _ _
      refine wpAny_assign_Name (wpAny_storeName_local hy hnL (fun h₄ hn₄ hs₄ => ?_) hp)
      replace hs₄ : Heap.SameBut env.locals h₂ h₄ := hs₄
      refine ⟨m', hC₂.sameBut hs₄ (Ne.symm hLC), fun h₅ hs₅ => ?_⟩
      replace hs₅ : Heap.SameBut C h₄ h₅ := hs₅
      exact done D C ys { s' with heap := h₂, toks := tk₂ } kD h₅ _ nD hlo₂ hD₂ hJ₂ hDC (Ne.symm hLD) ⟨mL, hnL, hn₄.sameBut hs₅ hLC⟩ (fun b o h1 h2 e => (hs₅.2 b h2).trans ((hs₄.2 b h1).trans e))
  exact codeAny_compStart_list (loop _ rfl) (W.self 0 _ _ _ hst₁ (loop _ rfl))
/-- a comprehension over a list of fixed values -/
theorem list_compA {elt : Expr} {ifs : List Expr} {scope : Scope} {cl : List (Str × Addr)} {y : Str} {Q : Flow → Shared → Prop} {l : Addr} {us : Array Value} {nu : Nat} (lo : Nat) (J : List Addr → Nat → List Value → Shared → Prop)
    (hh : A.handled = none) (hl : s.heap.get? l = some (listOf us nu)) (hn : us.size ≤ sizeLine) (hlo : lo ≤ s.toks)
    (j0 : ∀ av h' tk, (∀ a ∈ av, s.heap.objs.size ≤ a) → (∀ b o, s.heap.get? b = some o → h'.get? b = some o) → lo ≤ tk → J av 0 [] { s with heap := h', toks := tk })
    (stab : ∀ av i ys (s' : Shared) h' tk, (∀ a ∈ av, s.heap.objs.size ≤ a) → J av i ys s' → lo ≤ tk → (∀ b o, b ∉ av → s'.heap.get? b = some o → h'.get? b = some o) → J av i ys { s' with heap := h', toks := tk })
    (turn : ∀ av C i v ys m₁ (s₁ : Shared), (∀ a ∈ av, s.heap.objs.size ≤ a) → (∀ a ∈ av, ∃ o, s₁.heap.get? a = some o) → C ∈ av → us[i]? = some v → lo ≤ s₁.toks → m₁ x = some v → s₁.heap.Ns C m₁ → s₁.heap.get? l = some (listOf us nu) → J av i ys s₁ →
      wpAny (model prog w) A (testsOf ifs (compEnvC scope cl C env)) (fun ok s₃ => if ok = true then
          wpAny (model prog w) A (eval elt (compEnvC scope cl C env)) (fun y s₄ => Same (l :: av) s₁.heap s₄.heap ∧ J av (i + 1) (ys ++ [y]) s₄) (fun _ _ => False) s₃
        else Same (l :: av) s₁.heap s₃.heap ∧ J av (i + 1) ys s₃) (fun _ _ => False) s₁)
    (jl : ∀ av i ys (s' : Shared), (∀ a ∈ av, s.heap.objs.size ≤ a) → J av i ys s' → ∃ m, s'.heap.Ns env.locals m) (hLlt : env.locals < s.heap.objs.size)
    (done : ∀ av D C ys (s₁ : Shared) k h₃ tk, (∀ a ∈ av, s.heap.objs.size ≤ a) → D ∈ av → C ∈ av → lo ≤ s₁.toks → s₁.heap.get? D = some (listOf ys.toArray k) → J av us.size ys s₁ → ys.length ≤ us.size → D ≠ C → D ≠ env.locals →
      (∃ m, s₁.heap.Ns env.locals m ∧ h₃.Ns env.locals (fun z => if z = y then some (.ref D) else m z)) → (∀ b o, b ≠ env.locals → b ≠ C → s₁.heap.get? b = some o → h₃.get? b = some o) → Q .next { s₁ with heap := h₃, toks := tk }) :
    wpAny (model prog w) A (pyIter (.ref l)) (CompGA prog w A env x scope cl ifs elt y Q) (fun _ _ => False) s := by
  have hl' : s.heap.IsList l us := ⟨_, hl, rfl, nu, rfl⟩
  refine wpAny_pyIter_list hl' ?_
  have hlI : l ≠ s.heap.objs.size := Nat.ne_of_lt (Heap.lt_size hl)
  have hnI : s.heap.get? s.heap.objs.size = none := Heap.get?_none_of_le (Nat.le_refl _)
  have up : ∀ b o, s.heap.get? b = some o → (s.heap.push { cls := .type "list_iterator", data := .fields #[.ref l, .int 0 0] }).get? b = some o := fun b o e => Heap.get?_push_of_some _ e
  have hI1 : (s.heap.push { cls := .type "list_iterator", data := .fields #[.ref l, .int 0 0] }).IsListIter s.heap.objs.size l 0 := ⟨_, Heap.get?_push_size _ rfl, rfl, rfl⟩
  have hsz1 : s.heap.objs.size < (s.heap.push { cls := .type "list_iterator", data := .fields #[.ref l, .int 0 0] }).objs.size := by rw [Heap.size_push]; exact Nat.lt_succ_self _
  generalize hH : s.heap.push { cls := .type "list_iterator", data := .fields #[.ref l, .int 0 0] } = H at *
  generalize hI : s.heap.objs.size = I at *
  refine ⟨lo, I, _, _, _, _, _, fun D C i ys s' => J [D, C, I] i ys s' ∧ ys.length ≤ i ∧ (∀ a ∈ [D, C, I], I ≤ a) ∧ s'.heap.get? l = some (listOf us nu), rfl, Walks.list hh I l hlI us, hlo, hn, ⟨hI1, hl'.at fun o e => up l o e⟩, ?_, ?_, ?_, ?_, ?_, ?_, ?_, ?_⟩
  · intro b hb
    rcases List.mem_cons.mp hb with rfl | hb
    · exact hsz1
    · rw [List.mem_singleton.mp hb]; exact Heap.lt_size (up _ _ hl)
  · intro D C h' tk nD nC hDC lD lC hD hC hk hlo'
    have hle : ∀ a ∈ [D, C, I], I ≤ a := by
      intro a ha
      simp only [List.mem_cons, List.not_mem_nil, or_false] at ha
      rcases ha with rfl | rfl | rfl
      · exact Nat.le_of_lt (Nat.lt_of_lt_of_le hsz1 lD)
      · exact Nat.le_of_lt (Nat.lt_of_lt_of_le hsz1 lC)
      · exact Nat.le_refl _
    refine ⟨j0 _ _ _ hle (fun b o e => hk b o (up b o e)) hlo', Nat.le_refl _, hle, hk _ _ (up _ _ hl)⟩
  · rintro D C i ys s' h' tk ⟨j, hy, hle, hll⟩ hlo' hk
    have hlav : ∀ a ∈ [D, C, I], l ≠ a := fun a ha q => Nat.lt_irrefl _ (Nat.lt_of_lt_of_le (hI ▸ Heap.lt_size hl : l < I) (q ▸ hle a ha))
    refine ⟨stab _ i ys s' h' tk hle j hlo' fun b o hb e => hk b o (fun q => hb (by simp [List.mem_singleton.mp q])) (fun q => hb (by simp [q])) (fun q => hb (by simp [q])) e, hy, hle, hk _ _ (fun q => hlav I (by simp) (List.mem_singleton.mp q)) (hlav D (by simp)) (hlav C (by simp)) hll⟩
  · rintro D C i v ys m₁ s₁ k hDC nD nC hDf hCf hi hP hlo' hm hns hD hst ⟨j, hy, hle, hll⟩
    obtain ⟨⟨oI, hoI, hcI, hdI⟩, hlI'⟩ := hst
    have hlt : ∀ a ∈ [D, C, I], ∃ o, s₁.heap.get? a = some o := by
      intro a ha
      simp only [List.mem_cons, List.not_mem_nil, or_false] at ha
      rcases ha with rfl | rfl | rfl
      · exact ⟨_, hD⟩
      · obtain ⟨o, _, _, e, _⟩ := hns
        exact ⟨o, e⟩
      · exact ⟨_, hoI⟩
    have fin : ∀ (h' : Heap), Same (l :: [D, C, I]) s₁.heap h' → h'.get? l = some (listOf us nu) ∧ h'.get? D = some (listOf ys.toArray k) ∧ h'.Ns C m₁ ∧ (h'.IsListIter I l (i + 1) ∧ h'.IsList l us) := fun h' sm =>
      ⟨sm l (by simp) _ hll, sm D (by simp) _ hD, hns.at' fun o e => sm C (by simp) o e, ⟨oI, sm I (by simp) _ hoI, hcI, hdI⟩, _, sm l (by simp) _ hll, rfl, nu, rfl⟩
    refine wpAny_mono (turn [D, C, I] C i v ys m₁ s₁ hle hlt (by simp) hP hlo' hm hns hll j) (fun ok s₃ h₃ => ?_) fun _ _ e => e
    cases ok with
    | false =>
      simp only [Bool.false_eq_true, if_false] at h₃ ⊢
      obtain ⟨f1, f2, f3, f4⟩ := fin _ h₃.1
      exact ⟨⟨k, f2⟩, ⟨m₁, f3⟩, f4, h₃.2, Nat.le_succ_of_le hy, hle, f1⟩
    | true =>
      simp only [if_true] at h₃ ⊢
      refine wpAny_mono h₃ (fun y s₄ h₄ => ?_) fun _ _ e => e
      obtain ⟨f1, f2, f3, f4⟩ := fin _ h₄.1
      exact ⟨⟨k, f2⟩, ⟨m₁, f3⟩, f4, hy, h₄.2, by rw [List.length_append, List.length_singleton]; omega, hle, f1⟩
  · rintro D C i ys s' ⟨j, hy, hle, hll⟩
    exact jl _ i ys s' hle j
  · exact fun q => Nat.ne_of_lt hLlt (List.mem_singleton.mp q)
  · exact Nat.lt_trans hLlt hsz1
  · rintro D C ys s₁ k h₃ tk nD hlo' hD ⟨j, hy, hle, hll⟩ hDC hDL hm hk
    exact done [D, C, I] D C ys s₁ k h₃ tk hle (by simp) (by simp) hlo' hD j hy hDC hDL hm hk
end
end Mine

namespace Mine
open Builtin

theorem list_three {α : Type} {ys : List α} {a b c : α} (h : ys.length = 3) (p : ys[0]? = some a) (q : ys[1]? = some b) (r : ys[2]? = some c) : ys = [a, b, c] := by
  obtain _ | ⟨a', _ | ⟨b', _ | ⟨c', _ | ⟨d, l⟩⟩⟩⟩ := ys
  · cases h
  · cases h
  · cases h
  · cases p; cases q; cases r; rfl
  · cases h

section
variable {w : World} {mean : ExcName → Option Value} {mg mb : Str → Option Value} {A : Around} {G : Heap} {L H NL I lc k : Nat} {x d : Nat → Addr} {num : Nat → Nat} {m : Str → Option Value} {s₁ : Shared} {Q : Flow → Shared → Prop} {c : Nat} {tc : Tok}

set_option maxHeartbeats 4000000 in
/-- outlines = [_law_lines(held) for held in helds] -/
theorem finA (rd : ∀ env, Room (A.deeper env) 14) (SG : St w mean mg mb G) (K : Fixed G L H NL x d) (n₁ : Fin w G L H NL x d (fun k => linesOf (num k)) num m s₁.heap) (hg : AllBare s₁.gens) (hh : m "helds" = some (.ref H))
    (h : ∀ s₄ m' O E u nv, Fin w G L H NL x d (fun k => linesOf (num k)) num m' s₄.heap → Outs G L num E u nv s₄.heap → s₄.os = s₁.os → AllBare s₄.gens → (∃ kO, s₄.heap.get? O = some (listOf #[.ref (E 0), .ref (E 1), .ref (E 2)] kO)) → G.get? O = none → O ≠ L →
      m' "outlines" = some (.ref O) → wpAny (model prg w) (A.deeper (env201 w.params L)) (execs (fin201 w.params 1) (env201 w.params L)) Q (fun _ _ => False) s₄) :
    wpAny (model prg w) (A.deeper (env201 w.params L)) (execs (fin201 w.params 0) (env201 w.params L)) Q (fun _ _ => False) s₁ := by
  unfold fin201 body201 bodyIn env201 scope201 scopeIn
  dsimp only [List.drop]
  have SG' := SG
  obtain ⟨X, T, GL⟩ := SG
  have n₂ := n₁.put hh
  clear n₁
  have F₂ := n₂.F
  obtain ⟨v₀, c₁⟩ := n₂.B.celi
  obtain ⟨rest, o₁, o₂, N₂, y₁, y₂, e₁, KK⟩ := stage F₂ n₂.B c₁
  walk1
  refine comp_assign rfl rfl (by decide) rfl (by decide) rfl rfl rfl ?_
  walk1
  have hLs : L < s₁.heap.objs.size := F₂.ns.lt
  have hGL : G.get? L = none := above_none F₂ (Nat.le_refl _)
  have avt : ∀ {av : List Addr}, (∀ a ∈ av, s₁.heap.objs.size ≤ a) → ∀ b ∈ tabs, b ∉ av := fun hav b hb q => Nat.lt_irrefl _ (Nat.lt_of_lt_of_le (Nat.lt_trans (K.Lt b hb) hLs) (hav b q))
  refine list_compA 0 (fun av i ys s' => s'.os = s₁.os ∧ AllBare s'.gens ∧ (∀ b o, b ∉ tabs → s₁.heap.get? b = some o → s'.heap.get? b = some o) ∧ Tabs s'.heap ∧ ys.length = i ∧
      ∀ j, j < i → ∃ Ej uj nj, ys[j]? = some (.ref Ej) ∧ Ej ∉ av ∧ s'.heap.get? Ej = some (listOf uj nj) ∧ StrsAre uj.toList (linesOf (num j)) ∧ G.get? Ej = none ∧ Ej ≠ L) (rd _).hh n₂.B.helO (show 3 ≤ sizeLine by decide) (Nat.zero_le _) ?_ ?_ ?_ ?_ hLs ?_
  · intro av h' tk hav hk _
    exact ⟨rfl, hg, fun b o _ e => hk b o e, n₂.T.keep hk, rfl, fun j hj => absurd hj (Nat.not_lt_zero _)⟩
  · rintro av i ys s' h' tk hav ⟨ho, hgs, hkp, hT, hyl, hy⟩ _ hk
    have kG : ∀ b o, G.get? b = some o → s'.heap.get? b = some o := fun b o e => hkp b o (fun q => by rw [K.tn b q] at e; cases e) (F₂.keep b o e)
    have nav : ∀ b o, s₁.heap.get? b = some o → b ∉ av := fun b o e q => absurd (Heap.lt_size e) (Nat.not_lt_of_le (hav b q))
    refine ⟨ho, hgs, fun b o hb e => hk b o (nav b o e) (hkp b o hb e), ?_, hyl, fun j hj => ?_⟩
    · exact tabsVia X kG (fun b o e => hk b o (nav b o (F₂.keep b o e)) (kG b o e)) hT (fun o e => hk _ _ (avt hav 69 (by simp)) e) (fun o e => hk _ _ (avt hav 76 (by simp)) e)
    · obtain ⟨Ej, uj, nj, q1, q2, q3, q4⟩ := hy j hj
      exact ⟨Ej, uj, nj, q1, q2, hk _ _ q2 q3, q4⟩
  · rintro av C i v ys m₁ s₂ hav hlt hC hv hlo₁ hm hns hll ⟨ho, hgs, hkp, hT, hyl, hy⟩
    have hi3 : i < 3 := by
      refine Nat.lt_of_not_le fun q => ?_
      rw [Array.getElem?_eq_none (by exact q)] at hv
      cases hv
    rw [ref_at x hi3] at hv
    cases hv
    have kG : ∀ b o, G.get? b = some o → s₂.heap.get? b = some o := fun b o e => hkp b o (fun q => by rw [K.tn b q] at e; cases e) (F₂.keep b o e)
    have FC : Fr G C s₂.heap m₁ := ⟨hns, kG, Nat.le_trans F₂.above (Nat.le_trans (Nat.le_of_lt hLs) (hav C hC))⟩
    obtain ⟨vsi, nni, ai⟩ := (n₂.B.mono fun b o q e => hkp b o (q.noTab n₂.T e) e).accs i hi3
    have hLobj : ∃ o, s₂.heap.get? L = some o := by
      obtain ⟨o, _, _, e, _⟩ := F₂.ns
      exact ⟨o, hkp L o (fun q => Nat.lt_irrefl _ (K.Lt L q)) e⟩
    have hH₂ := hkp H _ (Held.noTab (x := x) (d := d) (.inr (.inr (.inr (.inl ⟨rfl, _, _, rfl⟩)))) n₂.T n₂.B.helO) n₂.B.helO
    clear F₂ N₂ h KK
    refine wpAny_pure ?_
    simp only [if_true]
    walk1
    walk1
    walk1
    walk1
    walk1
    refine ldVarC FC hm ?_
    walk1
    walk1
    refine wpAny_call (lines_body ((rd _).mono (by omega)) SG' kG (K.ng hi3) ai hT (lines_sum _) hgs (lines_nonl _) fun s₃ D us nu w₃ t₃ hD hDl hDs => ?_)
    have nD := freshOf FC hD
    refine ⟨fun a ha o e => w₃.keep a o (fun q => ?_) e, w₃.os.trans ho, w₃.gens hgs, fun b o hb e => w₃.keep b o hb (hkp b o hb e), t₃, by rw [List.length_append, hyl]; rfl, fun j hj => ?_⟩
    · rcases List.mem_cons.mp ha with r | ha
      · subst r
        exact Held.noTab (x := x) (d := d) (.inr (.inr (.inr (.inl ⟨rfl, _, _, rfl⟩)))) hT hH₂ q
      · exact avt hav a q ha
    · by_cases q : j < i
      · obtain ⟨Ej, uj, nj, q1, q2, q3, q4⟩ := hy j q
        refine ⟨Ej, uj, nj, ?_, q2, w₃.keep _ _ (Held.noTab (x := x) (d := d) (.inr (.inr (.inr (.inl ⟨rfl, _, _, rfl⟩)))) hT q3) q3, q4⟩
        rw [List.getElem?_append_left (by rw [hyl]; exact q)]
        exact q1
      · have hji : j = i := by omega
        subst hji
        refine ⟨D, us, nu, ?_, fun q => ?_, hDl, hDs, nD.1, fun q => ?_⟩
        · rw [List.getElem?_append_right (by rw [hyl]; exact Nat.le_refl _), hyl, Nat.sub_self]
          rfl
        · obtain ⟨o, e⟩ := hlt D q
          rw [hD] at e; cases e
        · obtain ⟨o, e⟩ := hLobj
          rw [← q, hD] at e; cases e
  · rintro av i ys s' hav ⟨ho, hgs, hkp, hT, hyl, hy⟩
    exact ⟨_, F₂.ns.at' fun o e => hkp L o (fun q => Nat.lt_irrefl _ (K.Lt L q)) e⟩
  · rintro av On C ys s₂ kn h₃ tk₃ hav hOn hC _ hOl ⟨ho, hgs, hkp, hT, hyl, hy⟩ _ hOC hOL ⟨mm, hmm, hns3⟩ hk3
    have em := ns_uniq hmm (F₂.ns.at' fun o e => hkp L o (fun q => Nat.lt_irrefl _ (K.Lt L q)) e)
    subst em
    replace hk3 : ∀ b o, b ≠ L → b ≠ C → s₂.heap.get? b = some o → h₃.get? b = some o := hk3
    replace hOL : On ≠ L := hOL
    replace hns3 : h₃.Ns L _ := hns3
    have hyl3 : ys.length = 3 := hyl
    obtain ⟨E0, u0, v0, p0, a0, e0, r0, g0, l0⟩ := hy 0 (show 0 < 3 by decide)
    obtain ⟨E1, u1, v1, p1, a1, e1, r1, g1, l1⟩ := hy 1 (show 1 < 3 by decide)
    obtain ⟨E2, u2, v2, p2, a2, e2, r2, g2, l2⟩ := hy 2 (show 2 < 3 by decide)
    have hys : ys = [.ref E0, .ref E1, .ref E2] := list_three hyl3 p0 p1 p2
    subst hys
    have nav : ∀ b o, s₁.heap.get? b = some o → b ≠ C := fun b o e q => absurd (Heap.lt_size e) (Nat.not_lt_of_le (q ▸ hav C hC))
    have tr : ∀ b o, Held x d b o → s₁.heap.get? b = some o → h₃.get? b = some o := fun b o q e => hk3 b o (q.noL F₂.ns e fun i hi => (K.dn i hi).2) (nav b o e) (hkp b o (q.noTab n₂.T e) e)
    have kG : ∀ b o, G.get? b = some o → s₂.heap.get? b = some o := fun b o e => hkp b o (fun q => by rw [K.tn b q] at e; cases e) (F₂.keep b o e)
    have kG3 : ∀ b o, G.get? b = some o → h₃.get? b = some o := fun b o e => hk3 b o (fun q => by rw [q, hGL] at e; cases e) (nav b o (F₂.keep b o e)) (kG b o e)
    have tL : ∀ b ∈ tabs, b ≠ L ∧ b ≠ C := fun b hb => ⟨Nat.ne_of_lt (K.Lt b hb), fun q => avt hav b hb (q ▸ hC)⟩
    have F₃ : Fr G L h₃ _ := ⟨hns3, kG3, F₂.above⟩
    have n₃ : Fin w G L H NL x d (fun k => linesOf (num k)) num _ h₃ := ⟨F₃, n₂.B.mono tr, tabsVia X kG kG3 hT (fun o e => hk3 69 o (tL 69 (by simp)).1 (tL 69 (by simp)).2 e) (fun o e => hk3 76 o (tL 76 (by simp)).1 (tL 76 (by simp)).2 e)⟩
    have e0' := hk3 _ _ l0 (fun q => a0 (q ▸ hC)) e0
    have e1' := hk3 _ _ l1 (fun q => a1 (q ▸ hC)) e1
    have e2' := hk3 _ _ l2 (fun q => a2 (q ▸ hC)) e2
    have outs : Outs G L num (fun i => if i = 0 then E0 else if i = 1 then E1 else E2) (fun i => if i = 0 then u0 else if i = 1 then u1 else u2) (fun i => if i = 0 then v0 else if i = 1 then v1 else v2) h₃ := by
      refine ⟨fun i hi => ?_, fun i hi => ?_, fun i hi => ?_⟩
      · rcases three_cases hi with rfl | rfl | rfl
        · exact e0'
        · exact e1'
        · exact e2'
      · rcases three_cases hi with rfl | rfl | rfl
        · exact r0
        · exact r1
        · exact r2
      · rcases three_cases hi with rfl | rfl | rfl
        · exact ⟨g0, l0⟩
        · exact ⟨g1, l1⟩
        · exact ⟨g2, l2⟩
    have gO : G.get? On = none := above_none F₂ (Nat.le_trans (Nat.le_of_lt hLs) (hav On hOn))
    exact h { s₂ with heap := h₃, toks := tk₃ } _ On _ _ _ n₃ outs ho hgs ⟨kn, hk3 _ _ hOL hOC hOl⟩ gO hOL rfl
end
end Mine

namespace Mine
open Builtin

section
variable {w : World} {mean : ExcName → Option Value} {mg mb : Str → Option Value} {A : Around} {G : Heap} {L H NL I lc k : Nat} {x d : Nat → Addr} {num : Nat → Nat} {m : Str → Option Value} {s₁ : Shared} {Q : Flow → Shared → Prop} {c : Nat} {tc : Tok}
variable {O : Addr} {E : Nat → Addr} {u : Nat → Array Value} {nv : Nat → Nat} {kO : Nat}

theorem Outs.tr {h h' : Heap} (o : Outs G L num E u nv h) (t : ∀ b ob, Held x d b ob → h.get? b = some ob → h'.get? b = some ob) : Outs G L num E u nv h' :=
  ⟨fun i hi => listTr (o.at' i hi) t, o.outS, o.new⟩

set_option maxHeartbeats 4000000 in
/-- members = [_law_member(lines) for lines in outlines] -/
theorem finB (rd : ∀ env, Room (A.deeper env) 14) (SG : St w mean mg mb G) (K : Fixed G L H NL x d) (n₁ : Fin w G L H NL x d (fun k => linesOf (num k)) num m s₁.heap) (hg : AllBare s₁.gens) (ou : Outs G L num E u nv s₁.heap) (hO : s₁.heap.get? O = some (listOf #[.ref (E 0), .ref (E 1), .ref (E 2)] kO)) (gO : G.get? O = none) (lO : O ≠ L)
    (ho : m "outlines" = some (.ref O))
    (h : ∀ s₄ m' M um kM, Fin w G L H NL x d (fun k => linesOf (num k)) num m' s₄.heap → Outs G L num E u nv s₄.heap → s₄.os = s₁.os → AllBare s₄.gens → s₄.heap.get? O = some (listOf #[.ref (E 0), .ref (E 1), .ref (E 2)] kO) →
      s₄.heap.get? M = some (listOf um kM) → StrsAre um.toList [memberOf (linesOf (num 0)), memberOf (linesOf (num 1)), memberOf (linesOf (num 2))] → G.get? M = none → M ≠ L →
      m' "outlines" = some (.ref O) → m' "members" = some (.ref M) → wpAny (model prg w) (A.deeper (env201 w.params L)) (execs (fin201 w.params 2) (env201 w.params L)) Q (fun _ _ => False) s₄) :
    wpAny (model prg w) (A.deeper (env201 w.params L)) (execs (fin201 w.params 1) (env201 w.params L)) Q (fun _ _ => False) s₁ := by
  unfold fin201 body201 bodyIn env201 scope201 scopeIn
  dsimp only [List.drop]
  have SG' := SG
  obtain ⟨X, T, GL⟩ := SG
  have n₂ := n₁.put ho
  clear n₁
  have F₂ := n₂.F
  obtain ⟨v₀, c₁⟩ := n₂.B.celi
  obtain ⟨rest, o₁, o₂, N₂, y₁, y₂, e₁, KK⟩ := stage F₂ n₂.B c₁
  walk1
  refine comp_assign rfl rfl (by decide) rfl (by decide) rfl rfl rfl ?_
  walk1
  have hLs : L < s₁.heap.objs.size := F₂.ns.lt
  have hGL : G.get? L = none := above_none F₂ (Nat.le_refl _)
  refine list_compA 0 (fun av i ys s' => Went [] s₁ s' ∧ StrsAre ys ((List.range i).map fun j => memberOf (linesOf (num j)))) (rd _).hh hO (show 3 ≤ sizeLine by decide) (Nat.zero_le _) ?_ ?_ ?_ ?_ hLs ?_
  · intro av h' tk hav hk _
    exact ⟨⟨rfl, fun q => q, fun b o _ e => hk b o e⟩, .nil⟩
  · rintro av i ys s' h' tk hav ⟨wt, hy⟩ _ hk
    refine ⟨⟨wt.os, wt.gens, fun b o hb e => hk b o (fun q => ?_) (wt.keep b o hb e)⟩, hy⟩
    exact absurd (Heap.lt_size e) (Nat.not_lt_of_le (hav b q))
  · rintro av C i v ys m₁ s₂ hav hlt hC hv hlo₁ hm hns hll ⟨wt, hy⟩
    have hi3 : i < 3 := by
      refine Nat.lt_of_not_le fun q => ?_
      rw [Array.getElem?_eq_none (by exact q)] at hv
      cases hv
    rw [ref_at E hi3] at hv
    cases hv
    have FC : Fr G C s₂.heap m₁ := ⟨hns, fun b o e => wt.keep b o (by simp) (F₂.keep b o e), Nat.le_trans F₂.above (Nat.le_trans (Nat.le_of_lt hLs) (hav C hC))⟩
    have hE := wt.all _ _ (ou.at' i hi3)
    clear F₂ N₂ h KK
    refine wpAny_pure ?_
    simp only [if_true]
    walk1
    walk1
    walk1
    walk1
    walk1
    refine ldVarC FC hm ?_
    walk1
    walk1
    refine wpAny_call (member_body ((rd _).mono (by omega)) (SG'.keeps fun b o e => FC.keep b o e) hE (ou.outS i hi3) (Nat.le_trans (lines_len _) (by decide)) (fun q hq => Nat.le_trans (lines_short _ q hq) (by decide)) fun s₃ t w₃ => ?_)
    refine ⟨fun a _ o e => w₃.all a o e, wt.trans w₃, ?_⟩
    rw [List.range_succ, List.map_append]
    exact strs_snoc hy
  · rintro av i ys s' hav ⟨wt, hy⟩
    exact ⟨_, F₂.ns.at' fun o e => wt.all L o e⟩
  · rintro av M C ys s₂ kn h₃ tk₃ hav hM hC _ hMl ⟨wt, hy⟩ _ hMC hML ⟨mm, hmm, hns3⟩ hk3
    have em := ns_uniq hmm (F₂.ns.at' fun o e => wt.all L o e)
    subst em
    replace hk3 : ∀ b o, b ≠ L → b ≠ C → s₂.heap.get? b = some o → h₃.get? b = some o := hk3
    replace hML : M ≠ L := hML
    replace hns3 : h₃.Ns L _ := hns3
    have nav : ∀ b o, s₁.heap.get? b = some o → b ≠ C := fun b o e q => absurd (Heap.lt_size e) (Nat.not_lt_of_le (q ▸ hav C hC))
    have kk : ∀ b o, b ≠ L → s₁.heap.get? b = some o → h₃.get? b = some o := fun b o hb e => hk3 b o hb (nav b o e) (wt.all b o e)
    have F₃ : Fr G L h₃ _ := ⟨hns3, fun b o e => kk b o (fun q => by rw [q, hGL] at e; cases e) (F₂.keep b o e), F₂.above⟩
    have n₃ := n₂.walk X K F₃ kk
    have gM : G.get? M = none := above_none F₂ (Nat.le_trans (Nat.le_of_lt hLs) (hav M hM))
    exact h { s₂ with heap := h₃, toks := tk₃ } _ M ys.toArray kn n₃ (ou.tr (n₂.tr K kk)) wt.os (wt.gens hg) (listTr hO (n₂.tr K kk)) (hk3 _ _ hML hMC hMl) hy gM hML rfl rfl
end
end Mine

namespace Mine
open Builtin

noncomputable abbrev fbody (P : Params) (k : Nat) : List Stmt := (forBody ((body201 P).drop 5)).drop k
noncomputable abbrev jbody (P : Params) : List Stmt := forBody ((forBody ((body201 P).drop 5)).drop 1)

section
variable {w : World} {mean : ExcName → Option Value} {mg mb : Str → Option Value} {A : Around} {G : Heap} {L H NL I lc k : Nat} {x d : Nat → Addr} {num : Nat → Nat} {m : Str → Option Value} {s₁ : Shared} {Q : Flow → Shared → Prop} {c : Nat} {tc : Tok}
variable {O M : Addr} {E : Nat → Addr} {u : Nat → Array Value} {nv : Nat → Nat} {kO kM : Nat} {um : Array Value} {ii jj : Nat} {ti tj : Tok} {Bk : Addr} {bs : List Str}

set_option maxHeartbeats 4000000 in
/-- blocks = _law_blocks(outlines[i]) -/
theorem finC1 (rd : ∀ env, Room (A.deeper env) 14) (SG : St w mean mg mb G) (K : Fixed G L H NL x d) (n₁ : Fin w G L H NL x d (fun k => linesOf (num k)) num m s₁.heap) (hg : AllBare s₁.gens) (ou : Outs G L num E u nv s₁.heap) (hO : s₁.heap.get? O = some (listOf #[.ref (E 0), .ref (E 1), .ref (E 2)] kO)) (gO : G.get? O = none) (lO : O ≠ L) (hii : ii < 3)
    (c₁ : s₁.heap.IsCell (L + 2) (some (.int (ii : Nat) ti))) (hM : s₁.heap.get? M = some (listOf um kM))
    (ho : m "outlines" = some (.ref O)) (hm : m "members" = some (.ref M))
    (h : ∀ s₄ m' Bk bs, Fin w G L H NL x d (fun k => linesOf (num k)) num m' s₄.heap → Outs G L num E u nv s₄.heap → s₄.os = s₁.os → AllBare s₄.gens → (∀ b o, b ≠ L → s₁.heap.get? b = some o → s₄.heap.get? b = some o) → s₄.heap.get? O = some (listOf #[.ref (E 0), .ref (E 1), .ref (E 2)] kO) →
      s₄.heap.IsCell (L + 2) (some (.int (ii : Nat) ti)) → s₄.heap.get? M = some (listOf um kM) → IsSet w s₄.heap Bk bs → (∀ z, z ∈ bs ↔ z ∈ rows (num ii)) → G.get? Bk = none → Bk ≠ L →
      m' "outlines" = some (.ref O) → m' "members" = some (.ref M) → m' "blocks" = some (.ref Bk) → wpAny (model prg w) (A.deeper (env201 w.params L)) (execs (fbody w.params 1) (env201 w.params L)) Q (fun _ _ => False) s₄) :
    wpAny (model prg w) (A.deeper (env201 w.params L)) (execs (fbody w.params 0) (env201 w.params L)) Q (fun _ _ => False) s₁ := by
  unfold fbody body201 bodyIn forBody env201 scope201 scopeIn
  dsimp only [List.drop]
  have SG' := SG
  obtain ⟨X, T, GL⟩ := SG
  have n₂ := (n₁.put ho).put (y := "members") ((if_neg (by decide)).trans hm)
  clear n₁
  have F₂ := n₂.F
  obtain ⟨rest, o₁, o₂, N₂, y₁, y₂, e₁, KK⟩ := stage F₂ n₂.B c₁
  walk1
  walk1
  walk1
  walk1
  walk1
  walk1
  walk1
  walk1
  walk1
  refine sub_at ⟨_, hO, rfl, kO, rfl⟩ (Nat.lt_trans hii (by decide)) (ref_at E hii) ?_
  walk1
  walk1
  refine wpAny_call (blocks_body ((rd _).mono (by omega)) (SG'.keeps fun b o e => F₂.keep b o e) (ou.at' ii hii) (ou.outS ii hii) (fit_lines _).sum (lines_ok _) (Nat.le_trans (fit_lines _).few (by decide)) fun s₃ Bk bs w₃ hBk iBk mBk => ?_)
  replace w₃ : Went [] s₁ s₃ := ⟨w₃.os, w₃.gens, w₃.keep⟩
  have n₃ := n₂.all w₃
  have c₃ := cellTr (x := x) (d := d) c₁ (fun b o _ e => w₃.all b o e)
  have hO₃ := w₃.all _ _ hO
  have hM₃ := w₃.all _ _ hM
  have fB := freshOf F₂ hBk
  have F₃ := n₃.F
  have os₃ : s₃.os = s₁.os := w₃.os
  have hg₃ : AllBare s₃.gens := w₃.gens hg
  have ou₃ : Outs G L num E u nv s₃.heap := ⟨fun i hi => w₃.all _ _ (ou.at' i hi), ou.outS, ou.new⟩
  have wk := w₃.all
  clear n₂ c₁ hO hM KK F₂ N₂ y₁ y₂ e₁ rest o₁ o₂ w₃ hBk ou
  obtain ⟨oB, hoB, hsB⟩ := iBk
  obtain ⟨rest, o₁, o₂, N₃', y₁, y₂, e₁, KK⟩ := stage F₃ n₃.B c₃
  have N₃ := newsAdd N₃' hoB fB.2 fB.1
  walk1
  walk1
  rename_i h₄ F₄ N₄
  have kk₄ := KK h₄ (fun p hp => N₄ p (.tail _ (.tail _ (.tail _ hp)))) F₄.keep
  have tr₄ := n₃.tr K kk₄
  exact h _ _ Bk bs (n₃.walk X K F₄ kk₄) (ou₃.tr tr₄) os₃ hg₃ (fun b o hb e => kk₄ b o hb (wk b o e)) (listTr hO₃ tr₄) (cellTr c₃ tr₄) (listTr hM₃ tr₄) ⟨oB, kk₄ _ _ fB.2 hoB, hsB⟩ (fun z => by rw [mBk z, blocks_lines]) fB.1 fB.2 rfl rfl rfl

theorem strAt3 (f : Nat → Str) {i : Nat} (hi : i < 3) : ([f 0, f 1, f 2] : List Str)[i]? = some (f i) := by
  rcases three_cases hi with rfl | rfl | rfl <;> rfl

set_option maxHeartbeats 4000000 in
/-- the turn of the inner loop -/
theorem finC2 (rd : ∀ env, Room (A.deeper env) 14) (SG : St w mean mg mb G) (K : Fixed G L H NL x d) (n₁ : Fin w G L H NL x d (fun k => linesOf (num k)) num m s₁.heap) (hii : ii < 3) (hjj : jj < 3) (hlt : ∀ k, k < 3 → num k < 65536)
    (c₁ : s₁.heap.IsCell (L + 2) (some (.int (ii : Nat) ti))) (hM : s₁.heap.get? M = some (listOf um kM)) (hMs : StrsAre um.toList [memberOf (linesOf (num 0)), memberOf (linesOf (num 1)), memberOf (linesOf (num 2))])
    (hB : IsSet w s₁.heap Bk bs) (mB : ∀ z, z ∈ bs ↔ z ∈ rows (num ii)) (gB : G.get? Bk = none) (lB : Bk ≠ L)
    (hm : m "members" = some (.ref M)) (hb : m "blocks" = some (.ref Bk)) (hj : m "j" = some (.int (jj : Nat) tj))
    (h : ∀ s₄, Went [] s₁ s₄ → Q .next s₄) :
    wpAny (model prg w) (A.deeper (env201 w.params L)) (execs (jbody w.params) (env201 w.params L)) Q (fun _ _ => False) s₁ := by
  unfold jbody body201 bodyIn forBody env201 scope201 scopeIn
  dsimp only [List.drop]
  have SG' := SG
  obtain ⟨X, T, GL⟩ := SG
  have n₂ := ((n₁.put hm).put (y := "blocks") ((if_neg (by decide)).trans hb)).put (y := "j") ((if_neg (by decide)).trans ((if_neg (by decide)).trans hj))
  clear n₁
  have F₂ := n₂.F
  obtain ⟨oB, hoB, hsB⟩ := hB
  obtain ⟨rest, o₁, o₂, N₂', y₁, y₂, e₁, KK⟩ := stage F₂ n₂.B c₁
  have N₂ := newsAdd N₂' hoB lB gB
  have mj : ∃ t, um[jj]? = some (.str (memberOf (linesOf (num jj))) t) := by
    have h3 : um.toList[jj]? = um[jj]? := by simp
    have hs : um.toList.length = 3 := by have := strs_len hMs; simpa using this
    have hv : um.toList[jj]? = some (um.toList[jj]'(by omega)) := List.getElem?_eq_getElem (by omega)
    obtain ⟨q, t, e, hq⟩ := strs_at hMs jj _ hv
    rw [strAt3 (fun k => memberOf (linesOf (num k))) hjj] at hq
    cases hq
    rw [← h3, hv, e]
    exact ⟨t, rfl⟩
  obtain ⟨tm, mj⟩ := mj
  walk1
  walk1
  walk1
  walk1
  walk1
  walk1
  walk1
  walk1
  walk1
  walk1
  walk1
  walk1
  refine sub_at ⟨_, hM, rfl, kM, rfl⟩ (Nat.lt_trans hjj (by decide)) mj ?_
  walk1
  walk1
  refine wpAny_call (contains_body ((rd _).mono (by omega)) (SG'.keeps fun b o e => F₂.keep b o e) ⟨oB, hoB, hsB⟩ fun s₃ w₃ => ?_)
  replace w₃ : Went [] s₁ s₃ := ⟨w₃.os, w₃.gens, w₃.keep⟩
  have n₃ := n₂.all w₃
  have c₃ := cellTr (x := x) (d := d) c₁ (fun b o _ e => w₃.all b o e)
  have F₃ := n₃.F
  have eD : decide (memberOf (linesOf (num jj)) ∈ bs) = decide (num ii / 2 ^ num jj % 2 = 1) := decide_eq_decide.mpr ((mB _).trans (contains_law (hlt ii hii) (hlt jj hjj)))
  clear n₂ c₁ hM KK F₂ N₂ N₂' y₁ y₂ e₁ rest o₁ o₂ hoB hsB
  obtain ⟨rest, o₁, o₂, N₃, y₁, y₂, e₁, KK⟩ := stage F₃ n₃.B c₃
  obtain ⟨t0, t1, t2, nl⟩ := n₃.B.nums
  rw [eD]
  walk1
  walk1
  walk1
  walk1
  walk1
  walk1
  walk1
  walk1
  walk1
  walk1
  walk1
  rw [getD3 num hii, getD3 num hjj]
  have hn0 := hlt ii hii
  have hn1 := hlt jj hjj
  walk1
  walk1
  walk1
  rw [bit_test (num ii) (num jj)]
  walk1
  walk1
  generalize num ii / 2 ^ num jj = qq at *
  have e2 : (((qq % 2 : Nat) : Int) == 1) = decide (qq % 2 = 1) := by
    have h2 : qq % 2 = 0 ∨ qq % 2 = 1 := by omega
    rcases h2 with h2 | h2 <;> rw [h2] <;> rfl
  rw [e2]
  generalize decide (qq % 2 = 1) = bb
  walk1
  rw [bne_self_eq_false]
  walk1
  walk1
  walk1
  walk1
  walk1
  have h4 := fun tk => h { s₃ with toks := tk } ⟨w₃.os, w₃.gens, w₃.keep⟩
  exact h4 _
end
end Mine

namespace Mine
open Builtin

section
variable {w : World} {mean : ExcName → Option Value} {mg mb : Str → Option Value} {A : Around} {G : Heap} {L H NL I lc k : Nat} {x d : Nat → Addr} {num : Nat → Nat} {m : Str → Option Value} {s₁ : Shared} {Q : Flow → Shared → Prop} {c : Nat} {tc : Tok}
variable {O M : Addr} {E : Nat → Addr} {u : Nat → Array Value} {nv : Nat → Nat} {kO kM : Nat} {um : Array Value} {ii jj : Nat} {ti tj : Tok} {Bk : Addr} {bs : List Str}

set_option maxHeartbeats 4000000 in
/-- the inner loop -/
theorem finD (rd : ∀ env, Room (A.deeper env) 14) (SG : St w mean mg mb G) (K : Fixed G L H NL x d) (n₁ : Fin w G L H NL x d (fun k => linesOf (num k)) num m s₁.heap) (hg : AllBare s₁.gens) (hii : ii < 3) (hlt : ∀ k, k < 3 → num k < 65536)
    (c₁ : s₁.heap.IsCell (L + 2) (some (.int (ii : Nat) ti))) (hM : s₁.heap.get? M = some (listOf um kM)) (hMs : StrsAre um.toList [memberOf (linesOf (num 0)), memberOf (linesOf (num 1)), memberOf (linesOf (num 2))])
    (hB : IsSet w s₁.heap Bk bs) (mB : ∀ z, z ∈ bs ↔ z ∈ rows (num ii)) (gB : G.get? Bk = none) (lB : Bk ≠ L)
    (ho : m "outlines" = some (.ref O)) (hm : m "members" = some (.ref M)) (hb : m "blocks" = some (.ref Bk))
    (h : ∀ s₄ m', Fin w G L H NL x d (fun k => linesOf (num k)) num m' s₄.heap → s₄.os = s₁.os → AllBare s₄.gens → (∀ b o, b ≠ L → s₁.heap.get? b = some o → s₄.heap.get? b = some o) →
      m' "outlines" = some (.ref O) → m' "members" = some (.ref M) → wpAny (model prg w) (A.deeper (env201 w.params L)) (execs (fbody w.params 2) (env201 w.params L)) Q (fun _ _ => False) s₄) :
    wpAny (model prg w) (A.deeper (env201 w.params L)) (execs (fbody w.params 1) (env201 w.params L)) Q (fun _ _ => False) s₁ := by
  have hJB := fun (Q : Flow → Shared → Prop) (s₂ : Shared) (m₂ : Str → Option Value) (jj : Nat) (tj : Tok) (n₂ : Fin w G L H NL x d (fun k => linesOf (num k)) num m₂ s₂.heap) (hjj : jj < 3) (kk : ∀ b o, b ≠ L → s₁.heap.get? b = some o → s₂.heap.get? b = some o) (q1 : m₂ "members" = some (.ref M)) (q2 : m₂ "blocks" = some (.ref Bk)) (q3 : m₂ "j" = some (.int (jj : Nat) tj)) (h' : ∀ s₄, Went [] s₂ s₄ → Q .next s₄) =>
    finC2 (Q := Q) (ti := ti) (kM := kM) rd SG K n₂ hii hjj hlt (cellTr c₁ (n₁.tr K kk)) (listTr hM (n₁.tr K kk)) hMs (let ⟨o, e, r⟩ := hB; ⟨o, kk _ _ lB e, r⟩) mB gB lB q1 q2 q3 h'
  unfold jbody env201 scope201 scopeIn at hJB
  unfold fbody body201 bodyIn forBody env201 scope201 scopeIn
  unfold body201 bodyIn forBody at hJB
  dsimp only [List.drop] at hJB ⊢
  have SG' := SG
  obtain ⟨X, T, GL⟩ := SG
  have n₂ := ((n₁.put ho).put (y := "members") ((if_neg (by decide)).trans hm)).put (y := "blocks") ((if_neg (by decide)).trans ((if_neg (by decide)).trans hb))
  have F₂ := n₂.F
  obtain ⟨rest, o₁, o₂, N₂, y₁, y₂, e₁, KK⟩ := stage F₂ n₂.B c₁
  refine wpAny_execs_cons ?_
  refine for_walk rfl rfl ?_
  walk1
  walk1
  walk1
  walk1
  walk1
  walk1
  walk1
  rename_i h₃ tk₃ t₁ u₁ v₁ hrg F₃ N₃ k₃
  replace k₃ : ∀ b o, s₁.heap.get? b = some o → h₃.get? b = some o := k₃
  refine wpAny_pyIter_range hrg (by decide) ?_
  dsimp only
  have hIL : L ≠ h₃.objs.size := Nat.ne_of_lt F₃.ns.lt
  have hI1 : ∀ b o, s₁.heap.get? b = some o → b ≠ h₃.objs.size := fun b o e q => absurd (Heap.lt_size (k₃ b o e)) (by rw [q]; exact Nat.lt_irrefl _)
  have hGL : G.get? L = none := above_none F₃ (Nat.le_refl _)
  have mk : ∀ (m₂ : Str → Option Value) (h₂ : Heap), h₂.Ns L m₂ → (∀ b o, b ≠ L → s₁.heap.get? b = some o → h₂.get? b = some o) → Fin w G L H NL x d (fun k => linesOf (num k)) num m₂ h₂ := fun m₂ h₂ hn kk =>
    n₁.walk X K ⟨hn, fun b o e => kk b o (fun q => by rw [q, hGL] at e; cases e) (n₁.F.keep b o e), n₁.F.above⟩ kk
  refine ⟨0, h₃.objs.size, _, _, _, _, _, _, fun i m' s' => s'.os = s₁.os ∧ AllBare s'.gens ∧ (∀ b o, b ≠ L → s₁.heap.get? b = some o → s'.heap.get? b = some o) ∧ m' "outlines" = some (.ref O) ∧ m' "members" = some (.ref M) ∧ m' "blocks" = some (.ref Bk), rfl,
    WalkL.of (Walks.range (rd _).hh h₃.objs.size 0 1 3), Nat.zero_le _, (fun hm => hIL (List.mem_singleton.mp hm)), Heap.get?_push_size _ rfl, F₃.ns.push _, ⟨rfl, hg, fun b o _ e => Heap.get?_push_of_some _ (k₃ b o e), rfl, rfl, rfl⟩, ?_, ?_, ?_⟩
  · rintro i m₁ m₂ s' h' tk₄ ⟨a1, a2, a3, a4, a5, a6⟩ hm' k' _
    refine ⟨a1, a2, fun b o hb e => k' b o (fun q => hI1 b o e (List.mem_singleton.mp q)) hb (a3 b o hb e), ?_, ?_, ?_⟩
    · rcases hm' with rfl | ⟨v, rfl⟩
      · exact a4
      · exact a4
    · rcases hm' with rfl | ⟨v, rfl⟩
      · exact a5
      · exact a5
    · rcases hm' with rfl | ⟨v, rfl⟩
      · exact a6
      · exact a6
  · rintro i v m₁ s₂ hi ⟨tv, rfl⟩ hlo₁ hm' hn' ⟨a1, a2, a3, a4, a5, a6⟩ hst
    have ei : (0 + (i : Int) * 1) = i := by omega
    rw [ei] at hm'
    refine hJB _ s₂ m₁ i tv (mk m₁ s₂.heap hn' a3) hi a3 a5 a6 hm' fun s₄ w₄ => ?_
    exact TurnTo.next m₁ (hn'.at' fun o e => w₄.all _ o e) ⟨w₄.os.trans a1, w₄.gens a2, fun b o hb e => w₄.all b o (a3 b o hb e), a4, a5, a6⟩ (w₄.all _ _ hst)
  · rintro m₁ s₂ hlo₁ hn' ⟨a1, a2, a3, a4, a5, a6⟩
    exact h s₂ m₁ (mk m₁ s₂.heap hn' a3) a1 a2 a3 a4 a5
end
end Mine

namespace Mine
open Builtin

section
variable {w : World} {mean : ExcName → Option Value} {mg mb : Str → Option Value} {A : Around} {G : Heap} {L H NL I lc k : Nat} {x d : Nat → Addr} {num : Nat → Nat} {m : Str → Option Value} {s₁ : Shared} {Q : Flow → Shared → Prop} {c : Nat} {tc : Tok}
variable {O : Addr} {E : Nat → Addr} {u : Nat → Array Value} {nv : Nat → Nat} {kO : Nat} {ii : Nat} {ti : Tok}

set_option maxHeartbeats 4000000 in
/-- the depth of an outline -/
theorem finE (rd : ∀ env, Room (A.deeper env) 14) (SG : St w mean mg mb G) (K : Fixed G L H NL x d) (n₁ : Fin w G L H NL x d (fun k => linesOf (num k)) num m s₁.heap) (ou : Outs G L num E u nv s₁.heap) (hO : s₁.heap.get? O = some (listOf #[.ref (E 0), .ref (E 1), .ref (E 2)] kO)) (hii : ii < 3) (hlt : ∀ k, k < 3 → num k < 65536)
    (c₁ : s₁.heap.IsCell (L + 2) (some (.int (ii : Nat) ti))) (ho : m "outlines" = some (.ref O))
    (h : ∀ s₄ m', Fin w G L H NL x d (fun k => linesOf (num k)) num m' s₄.heap → s₄.os = s₁.os → (AllBare s₁.gens → AllBare s₄.gens) → (∀ b o, b ≠ L → s₁.heap.get? b = some o → s₄.heap.get? b = some o) → m' "outlines" = some (.ref O) → m' "members" = m "members" → Q .next s₄) :
    wpAny (model prg w) (A.deeper (env201 w.params L)) (execs (fbody w.params 2) (env201 w.params L)) Q (fun _ _ => False) s₁ := by
  unfold fbody body201 bodyIn forBody env201 scope201 scopeIn
  dsimp only [List.drop]
  have SG' := SG
  obtain ⟨X, T, GL⟩ := SG
  have n₂ := n₁.put ho
  clear n₁
  have F₂ := n₂.F
  obtain ⟨rest, o₁, o₂, N₂, y₁, y₂, e₁, KK⟩ := stage F₂ n₂.B c₁
  walk1
  walk1
  walk1
  walk1
  walk1
  walk1
  walk1
  walk1
  walk1
  walk1
  refine sub_at ⟨_, hO, rfl, kO, rfl⟩ (Nat.lt_trans hii (by decide)) (ref_at E hii) ?_
  walk1
  walk1
  refine wpAny_call (depth_body ((rd _).mono (by omega)) (SG'.keeps fun b o e => F₂.keep b o e) (ou.at' ii hii) (ou.outS ii hii) (Nat.le_trans (lines_len _) (by decide)) (fun q hq => Nat.le_trans (lines_short _ q hq) (by decide)) fun s₃ Mx tM w₃ hM1 hM2 => ?_)
  replace w₃ : Went [] s₁ s₃ := ⟨w₃.os, w₃.gens, w₃.keep⟩
  have hMx := depth_law (hlt ii hii) hM1 hM2
  subst hMx
  have n₃ := n₂.all w₃
  have c₃ := cellTr (x := x) (d := d) c₁ (fun b o _ e => w₃.all b o e)
  have F₃ := n₃.F
  clear n₂ c₁ hO KK F₂ N₂ y₁ y₂ e₁ rest o₁ o₂ ou hM1 hM2
  obtain ⟨rest, o₁, o₂, N₃, y₁, y₂, e₁, KK⟩ := stage F₃ n₃.B c₃
  obtain ⟨t0, t1, t2, nl⟩ := n₃.B.nums
  have en₁ := (N₃ _ (.head _)).1
  have en₂ := (N₃ _ (.tail _ (.head _))).1
  dsimp only at en₁ en₂
  walk1
  walk1
  walk1
  walk1
  refine comp_walk rfl (by decide) rfl (by decide) rfl ?_
  walk1
  walk1
  walk1
  walk1
  walk1
  walk1
  walk1
  walk1
  walk1
  walk1
  walk1
  rename_i Dl h₄ F₄ N₄ l₄
  have k₄ : ∀ b o, b ≠ L → s₃.heap.get? b = some o → h₄.get? b = some o := KK h₄ (fun p hp => N₄ p (.tail _ (.tail _ (.tail _ hp)))) F₄.keep
  have n₄ := n₃.walk X K F₄ k₄
  have nl₄ := isList_mono nl fun b o q => n₃.tr K k₄ b o (.inr (.inr (.inr (.inl q))))
  have hl₄ := (N₄ _ (.head _)).1
  have en₃ := (N₄ _ (.tail _ (.head _))).1
  have en₄ := (N₄ _ (.tail _ (.tail _ (.head _)))).1
  dsimp only at en₃ en₄ hl₄
  refine list_comp 0 (fun av i ys s' => Went [] { s₃ with heap := h₄ } s' ∧ ys.length = ((([1, 2, 4, 16] : List Nat).take i).filter fun t => decide (t ≤ num ii)).length) (rd _).hh hl₄ (show 4 ≤ sizeLine by decide) (Nat.zero_le _) ?_ ?_ ?_ ?_
  · intro av h' tk hav hk _
    exact ⟨⟨rfl, fun q => q, fun b o _ e => hk b o e⟩, rfl⟩
  · rintro av i ys s' h' tk hav ⟨wt, hy⟩ _ hk
    refine ⟨⟨wt.os, wt.gens, fun b o hb e => hk b o (fun q => ?_) (wt.keep b o hb e)⟩, hy⟩
    exact absurd (Heap.lt_size e) (Nat.not_lt_of_le (hav b q))
  · rintro av C i v ys m₁ s₅ hav hltC hC hv hlo₁ hm hns hll ⟨wt, hy⟩
    have hv' : ∃ tw t, ([1, 2, 4, 16] : List Nat)[i]? = some tw ∧ v = .int (tw : Nat) t := by
      match i, hv with
      | 0, hv => cases hv; exact ⟨1, _, rfl, rfl⟩
      | 1, hv => cases hv; exact ⟨2, _, rfl, rfl⟩
      | 2, hv => cases hv; exact ⟨4, _, rfl, rfl⟩
      | 3, hv => cases hv; exact ⟨16, _, rfl, rfl⟩
      | n + 4, hv => cases hv
    obtain ⟨tw, tt, htw, rfl⟩ := hv'
    have FC : Fr G C s₅.heap m₁ := ⟨hns, fun b o e => wt.keep b o (by simp) (F₄.keep b o e), Nat.le_trans (Nat.le_of_lt (Nat.lt_of_le_of_lt F₄.above F₄.ns.lt)) (hav C hC)⟩
    have nC : ∀ b o, h₄.get? b = some o → b ≠ C := fun b o e q => absurd (Heap.lt_size e) (Nat.not_lt_of_le (q ▸ hav C hC))
    have NC : News G C s₅.heap [(L + 2, o₁), (L + 1, o₂)] := by
      intro p hp
      simp only [List.mem_cons, List.not_mem_nil, or_false] at hp
      rcases hp with rfl | rfl
      · exact ⟨wt.all _ _ en₃, nC _ _ en₃, above_none F₄ (Nat.le_succ_of_le (Nat.le_succ _))⟩
      · exact ⟨wt.all _ _ en₄, nC _ _ en₄, above_none F₄ (Nat.le_succ _)⟩
    have nl₅ := isList_mono nl₄ fun b o _ e => wt.all b o e
    clear F₄ N₄ n₄ n₃ KK nl nl₄ h
    refine tests_one ?_
    walk1
    refine ldVarC FC hm ?_
    walk1
    walk1
    walk1
    walk1
    walk1
    walk1
    rw [getD3 num hii]
    by_cases htn : tw ≤ num ii
    · rw [if_pos (by simpa using htn)]
      refine ldVarC FC hm ?_
      refine ⟨fun a _ o e => e, wt, ?_⟩
      rw [List.take_add_one, htw, List.filter_append, List.length_append, List.length_append, hy]
      simp [htn]
    · rw [if_neg (by simpa using htn)]
      refine ⟨fun a _ o e => e, wt, ?_⟩
      rw [List.take_add_one, htw, List.filter_append, List.length_append, hy]
      simp [htn]
  · rintro av Dn ys s₅ kn hav hDn _ hDl ⟨wt, hy⟩ _
    have hyl : ys.length = towers (num ii) := hy.trans (towers_list (num ii))
    have n₅ := Fin.all (s := { s₃ with heap := h₄ }) n₄ wt
    have F₅ := n₅.F
    have gDn : G.get? Dn = none := above_none F₄ (Nat.le_trans (Nat.le_of_lt F₄.ns.lt) (hav Dn hDn))
    have lDn : Dn ≠ L := Nat.ne_of_gt (Nat.lt_of_lt_of_le F₄.ns.lt (hav Dn hDn))
    have k₅ : ∀ b o, b ≠ L → s₁.heap.get? b = some o → s₅.heap.get? b = some o := fun b o hb e => wt.all b o (k₄ b o hb (w₃.all b o e))
    obtain ⟨v₅, c₅⟩ := n₅.B.celi
    clear F₄ N₄ n₄ n₃ KK nl nl₄ c₃ rest o₁ o₂ y₁ y₂ e₁ en₁ en₂ en₃ en₄ hl₄ l₄
    obtain ⟨rest, o₁, o₂, N₅', y₁, y₂, e₁, KK⟩ := stage F₅ n₅.B c₅
    have N₅ := newsAdd N₅' hDl lDn gDn
    clear N₅'
    walk1
    have hsz : ys.toArray.size = towers (num ii) := by rw [List.size_toArray, hyl]
    have ht4 : towers (num ii) < 1000000 := by
      unfold towers
      split <;> split <;> split <;> split <;> decide
    refine Calls.call_len_list ⟨_, hDl, rfl, kn, rfl⟩ (by rw [hsz]; exact fit63 ht4) ?_
    rw [hsz]
    walk1
    rw [bne_self_eq_false]
    walk1
    walk1
    walk1
    walk1
    walk1
    have h4 := fun tk => h { s₅ with toks := tk } _ n₅ (wt.os.trans w₃.os) (fun q => wt.gens (w₃.gens q)) k₅ rfl rfl
    exact h4 _
end
end Mine

namespace Mine
open Builtin

section
variable {w : World} {mean : ExcName → Option Value} {mg mb : Str → Option Value} {A : Around} {G : Heap} {L H NL I lc k : Nat} {x d : Nat → Addr} {num : Nat → Nat} {m : Str → Option Value} {s₁ : Shared} {Q : Flow → Shared → Prop} {c : Nat} {tc : Tok}
variable {O M : Addr} {E : Nat → Addr} {u : Nat → Array Value} {nv : Nat → Nat} {kO kM : Nat} {um : Array Value}

theorem notC {h h' : Heap} {oC : Obj} {v₀ : Option Value} {a : Addr} (eC : h.get? a = some oC) (dC : oC.data = .cell v₀) {b : Addr} {o : Obj} (e : h.get? b = some o) (hd : ∀ v, o.data ≠ .cell v) : b ≠ a := fun r => by
  subst r; rw [eC] at e; cases e; exact hd _ dC

theorem Fin.keepC {h h' : Heap} {m' : Str → Option Value} {v : Option Value} (n : Fin w G L H NL x d (fun k => linesOf (num k)) num m h) (X : (Kw w).In G) (K : Fixed G L H NL x d) (hn : h'.Ns L m')
    (k : ∀ b o, b ≠ L → b ≠ L + 2 → h.get? b = some o → h'.get? b = some o) (c : h'.IsCell (L + 2) v) : Fin w G L H NL x d (fun k => linesOf (num k)) num m' h' := by
  obtain ⟨v₀, oC, eC, dC⟩ := n.B.celi
  have key : ∀ b o, Held x d b o → (∀ v, o.data ≠ .cell v) → h.get? b = some o → h'.get? b = some o := fun b o q hd e =>
    k b o (q.noL n.F.ns e fun i hi => (K.dn i hi).2) (notC (h' := h') eC dC e hd) e
  have hGL : G.get? L = none := above_none n.F (Nat.le_refl _)
  have hGC : G.get? (L + 2) = none := above_none n.F (Nat.le_succ_of_le (Nat.le_succ _))
  have kG : ∀ b o, G.get? b = some o → h'.get? b = some o := fun b o e => k b o (fun q => by rw [q, hGL] at e; cases e) (fun q => by rw [q, hGC] at e; cases e) (n.F.keep b o e)
  have tt : ∀ b ∈ tabs, ∀ o, h.get? b = some o → h'.get? b = some o := fun b hb o e => k b o (Nat.ne_of_lt (K.Lt b hb)) (Nat.ne_of_lt (Nat.lt_succ_of_lt (Nat.lt_succ_of_lt (K.Lt b hb)))) e
  refine ⟨⟨hn, kG, n.F.above⟩, ⟨fun i hi => ?_, ?_, ?_, ?_, v, c⟩, tabsVia X n.F.keep kG n.T (tt 69 (by simp)) (tt 76 (by simp))⟩
  · obtain ⟨vs, nn, a⟩ := n.B.accs i hi
    refine ⟨vs, nn, a.mono fun b o q => key b o (q.elim (fun q => .inl ⟨i, hi, q⟩) fun q => q.elim (fun q => .inr (.inl ⟨i, hi, q⟩)) fun q => .inr (.inr (.inl q))) ?_⟩
    rcases q with ⟨_, _, _, _, q⟩ | ⟨_, _, _, _, q⟩ | ⟨_, _, _, q⟩ <;> (intro v; rw [q]; simp)
  · exact key _ _ (.inr (.inr (.inr (.inl ⟨rfl, _, _, rfl⟩)))) (by intro v; simp) n.B.helO
  · obtain ⟨t0, t1, t2, l⟩ := n.B.nums
    exact ⟨t0, t1, t2, isList_mono l fun b o q => key b o (.inr (.inr (.inr (.inl q)))) (by obtain ⟨_, _, _, q⟩ := q; intro v; rw [q]; simp)⟩
  · obtain ⟨o, e, dd⟩ := n.B.cell
    exact ⟨o, k _ _ (Nat.ne_of_gt (Nat.lt_succ_self _)) (Nat.ne_of_lt (Nat.lt_succ_self _)) e, dd⟩

set_option maxHeartbeats 4000000 in
/-- the last loop -/
theorem finF (rd : ∀ env, Room (A.deeper env) 14) (SG : St w mean mg mb G) (K : Fixed G L H NL x d) (n₁ : Fin w G L H NL x d (fun k => linesOf (num k)) num m s₁.heap) (hg : AllBare s₁.gens) (hlt : ∀ k, k < 3 → num k < 65536) (ou : Outs G L num E u nv s₁.heap) (hO : s₁.heap.get? O = some (listOf #[.ref (E 0), .ref (E 1), .ref (E 2)] kO)) (gO : G.get? O = none) (lO : O ≠ L)
    (hM : s₁.heap.get? M = some (listOf um kM)) (hMs : StrsAre um.toList [memberOf (linesOf (num 0)), memberOf (linesOf (num 1)), memberOf (linesOf (num 2))])
    (ho : m "outlines" = some (.ref O)) (hm : m "members" = some (.ref M))
    (h : ∀ s₄ m', s₄.heap.Ns L m' → s₄.os = s₁.os → AllBare s₄.gens → (∀ b o, G.get? b = some o → s₄.heap.get? b = some o) → Tabs s₄.heap → wpAny (model prg w) (A.deeper (env201 w.params L)) (execs (fin201 w.params 3) (env201 w.params L)) Q (fun _ _ => False) s₄) :
    wpAny (model prg w) (A.deeper (env201 w.params L)) (execs (fin201 w.params 2) (env201 w.params L)) Q (fun _ _ => False) s₁ := by
  unfold fin201 body201 bodyIn env201 scope201 scopeIn
  dsimp only [List.drop]
  have SG' := SG
  obtain ⟨X, T, GL⟩ := SG
  have n₂ := (n₁.put ho).put (y := "members") ((if_neg (by decide)).trans hm)
  have F₂ := n₂.F
  obtain ⟨v₀, c₁⟩ := n₂.B.celi
  obtain ⟨rest, o₁, o₂, N₂, y₁, y₂, e₁, KK⟩ := stage F₂ n₂.B c₁
  refine wpAny_execs_cons ?_
  refine for_walkC (c := L + 2) rfl rfl rfl ?_
  walk1
  walk1
  walk1
  walk1
  walk1
  walk1
  walk1
  rename_i h₃ tk₃ t₁ u₁ v₁ hrg F₃ N₃ k₃
  replace k₃ : ∀ b o, s₁.heap.get? b = some o → h₃.get? b = some o := k₃
  refine wpAny_pyIter_range hrg (by decide) ?_
  dsimp only
  have hIL : L ≠ h₃.objs.size := Nat.ne_of_lt F₃.ns.lt
  have hI1 : ∀ b o, s₁.heap.get? b = some o → b ≠ h₃.objs.size := fun b o e q => absurd (Heap.lt_size (k₃ b o e)) (by rw [q]; exact Nat.lt_irrefl _)
  have hIC : L + 2 ≠ h₃.objs.size := hI1 _ _ e₁
  have hGL : G.get? L = none := above_none F₃ (Nat.le_refl _)
  have hGC : G.get? (L + 2) = none := above_none F₃ (Nat.le_succ_of_le (Nat.le_succ _))
  have lst : ∀ {D : Addr} {us : Array Value} {nu : Nat}, s₁.heap.get? D = some (listOf us nu) → D ≠ L ∧ D ≠ L + 2 := fun e =>
    ⟨Held.noL (x := x) (d := d) (.inr (.inr (.inr (.inl ⟨rfl, _, _, rfl⟩)))) n₁.F.ns e fun i hi => (K.dn i hi).2, notC (h' := h₃) e₁ y₁ e (by intro v; simp)⟩
  refine ⟨0, h₃.objs.size, _, _, _, _, _, _, fun i m' s' => s'.os = s₁.os ∧ AllBare s'.gens ∧ (∀ b o, b ≠ L → b ≠ L + 2 → s₁.heap.get? b = some o → s'.heap.get? b = some o) ∧ (∃ v, s'.heap.IsCell (L + 2) v) ∧ m' "outlines" = some (.ref O) ∧ m' "members" = some (.ref M), rfl,
    WalkL.of (Walks.range (rd _).hh h₃.objs.size 0 1 3), Nat.zero_le _, (fun hm => hIL (List.mem_singleton.mp hm)), (fun hm => hIC (List.mem_singleton.mp hm)), Nat.ne_of_gt (Nat.lt_succ_of_lt (Nat.lt_succ_self _)), Heap.get?_push_size _ rfl, F₃.ns.push _,
    ⟨rfl, hg, fun b o _ _ e => Heap.get?_push_of_some _ (k₃ b o e), ⟨_, o₁, Heap.get?_push_of_some _ (k₃ _ _ e₁), y₁⟩, rfl, rfl⟩, ?_, ?_, ?_, ?_⟩
  · rintro i m₁ s' ⟨a1, a2, a3, a4, a5, a6⟩
    exact a4
  · rintro i m₁ s' h' tk₄ ⟨a1, a2, a3, a4, a5, a6⟩ hc' k'
    exact ⟨a1, a2, fun b o hb hb2 e => k' b o (fun q => hI1 b o e (List.mem_singleton.mp q)) hb2 (a3 b o hb hb2 e), hc', a5, a6⟩
  · rintro i v m₁ s₂ hi ⟨tv, rfl⟩ hlo₁ hcell hn' ⟨a1, a2, a3, a4, a5, a6⟩ hst
    have ei : (0 + (i : Int) * 1) = i := by omega
    rw [ei] at hcell
    have n₃ := n₁.keepC X K hn' a3 hcell
    have ou₃ : Outs G L num E u nv s₂.heap := ⟨fun j hj => a3 _ _ (lst (ou.at' j hj)).1 (lst (ou.at' j hj)).2 (ou.at' j hj), ou.outS, ou.new⟩
    have hO₃ := a3 _ _ (lst hO).1 (lst hO).2 hO
    have hM₃ := a3 _ _ (lst hM).1 (lst hM).2 hM
    have hi3 : i < 3 := hi
    clear KK n₂ F₃ N₃ h
    refine finC1 rd SG' K n₃ a2 ou₃ hO₃ gO lO hi3 hcell hM₃ a5 a6 fun s₄ m₄ Bk bs n₄ ou₄ os₄ g₄ k₄ hO₄ c₄ hM₄ iB₄ mB₄ gB lB b5 b6 b7 => ?_
    refine finD rd SG' K n₄ g₄ hi3 hlt c₄ hM₄ hMs iB₄ mB₄ gB lB b5 b6 b7 fun s₅ m₅ n₅ os₅ g₅ k₅ c5 c6 => ?_
    refine finE rd SG' K n₅ ⟨fun j hj => k₅ _ _ (ou₄.new j hj).2 (ou₄.at' j hj), ou₄.outS, ou₄.new⟩ (k₅ _ _ lO hO₄) hi3 hlt (cellTr c₄ (n₄.tr K k₅)) c5 fun s₆ m₆ n₆ os₆ g₆ k₆ d5 d6 => ?_
    have kk : ∀ b o, b ≠ L → s₂.heap.get? b = some o → s₆.heap.get? b = some o := fun b o hb e => k₆ b o hb (k₅ b o hb (k₄ b o hb e))
    exact TurnTo.next m₆ n₆.F.ns ⟨by rw [os₆, os₅, os₄]; exact a1, g₆ g₅, fun b o hb hb2 e => kk b o hb (a3 b o hb hb2 e), n₆.B.celi, d5, by rw [d6]; exact c6⟩ (kk _ _ (Ne.symm hIL) hst)
  · rintro m₁ s₂ hlo₁ hn' ⟨a1, a2, a3, a4, a5, a6⟩
    have kG : ∀ b o, G.get? b = some o → s₂.heap.get? b = some o := fun b o e => a3 b o (fun q => by rw [q, hGL] at e; cases e) (fun q => by rw [q, hGC] at e; cases e) (n₁.F.keep b o e)
    have tt : ∀ b ∈ tabs, ∀ o, s₁.heap.get? b = some o → s₂.heap.get? b = some o := fun b hb o e => a3 b o (Nat.ne_of_lt (K.Lt b hb)) (Nat.ne_of_lt (Nat.lt_succ_of_lt (Nat.lt_succ_of_lt (K.Lt b hb)))) e
    exact h s₂ m₁ hn' a1 a2 kG (tabsVia X n₁.F.keep kG n₁.T (tt 69 (by simp)) (tt 76 (by simp)))
end
end Mine

namespace Mine
open Builtin

section
variable {w : World} {mean : ExcName → Option Value} {mg mb : Str → Option Value} {A : Around} {R : Result → Shared → Prop} {s : Shared} {h : Heap} {E : Value → Shared → Prop} {g : Heap}

set_option maxHeartbeats 4000000 in
theorem run_body (r : Room A 15) (S : St w mean mg mb g) (kg : g.StaysIn s.heap) (ng : ∀ a ∈ tabs, g.get? a = none) (hT : Tabs s.heap) (hg : AllBare s.gens)
    {lc : Addr} {us : Array Value} {nu : Nat} {cs : List Nat} (hlc : s.heap.get? lc = some (listOf us nu)) (hus : us.toList.length = cs.length) (hcs : ∀ (i c : Nat), cs[i]? = some c → ∃ t, us[i]? = some (Value.int (c : Nat) t)) (hc54 : ∀ c ∈ cs, c < 54) (hlen : cs.length ≤ 100)
    (h : ∀ s', Went tabs s s' → Tabs s'.heap → R (.ok (.ret (.bool true))) s') :
    codeAny (model prg w) A (.call (.ref 201) ⟨[.ref lc], []⟩) R s := by
  have hT0 := hT
  obtain ⟨⟨ps, hc, ht⟩, ⟨qs, hc', ht'⟩⟩ := hT
  have S' : St w mean mg mb s.heap := S.keeps kg
  obtain ⟨X, T, GL⟩ := S.hide kg ng
  obtain ⟨X', T', GL'⟩ := S'
  have NN : ∀ p ∈ [((69 : Addr), tabO qs), ((76 : Addr), tabO ps)], s.heap.get? p.1 = some p.2 := by
    intro p hp
    simp only [List.mem_cons, List.not_mem_nil, or_false] at hp
    rcases hp with rfl | rfl
    · exact ht'.2
    · exact ht.2
  refine' call_defCN (binds := [("codes", .ref lc)]) (news := [((69 : Addr), tabO qs), ((76 : Addr), tabO ps)]) X' ?k2 NN ?k6 ?k7 ?k8 ?k9 ?kB ?c5 ?_ ?c2 ?c3 ?c4
  case k6 => k_is
  case k2 => exact Top.nolimit (by assumption)
  case k7 => k_is
  case k8 => have := r.depth; omega
  case k9 => first | exact BindsTo.of_eq rfl | exact binds_K (by assumption) rfl (by k_is) rfl rfl rfl | exact binds_K (by assumption) rfl (by k_is) rfl rfl (by with_unfolding_all rfl) | exact binds_K (by assumption) rfl (by k_is) rfl rfl (by kernel_rfl)
  case kB => exact fun n => kinds_of ⟨.inl rfl, trivial⟩
  case c2 => exact rfl
  case c3 => exact rfl
  case c4 => exact rfl
  case c5 => decide
  intro L h₁ tk₁ cells F N Y l1 k1 hLs
  obtain ⟨o₁, o₂, rfl, y₁, y₂⟩ := CellsAre.two Y
  have F₀ : Fr (hideAll s.heap tabs) L h₁ (fun y => if y = "codes" then some (Value.ref lc) else none) := F
  have y₁' : o₁.data = .cell none := y₁
  have y₂' : o₂.data = .cell none := y₂
  clear F y₁ y₂
  have N₀ : News (hideAll s.heap tabs) L h₁ [(L + 2, o₁), (L + 1, o₂), (69, tabO qs), (76, tabO ps)] := N
  clear N Y
  have hlcG : (hideAll s.heap tabs).get? lc = some (listOf us nu) := hideAll_get _ hlc fun q => by have := Tabs.cls hT0 _ q _ hlc; cases this
  have SG : St w mean mg mb (hideAll s.heap tabs) := ⟨X, T, GL⟩
  have hG : (hideAll s.heap tabs).objs.size ≤ L := by rw [hideAll_size]; exact hLs
  have rd : ∀ env, Room (A.deeper env) 14 := fun _ => (r.mono (by omega) : Room _ 15).deeper
  walk1
  walk1
  walk1
  walk1
  walk1
  walk1
  refine callWith_own (X.keeps F₀.keep) fun R₁ hR₁ => make_acc ((rd _).mono (by omega)) SG F₀.keep (Nat.le_trans hG (Nat.le_of_lt F₀.ns.lt)) fun s₂ x₀ d₀ n₀ w₂ a₀ hx₀ hd₀ => hR₁ _ _ ?_
  have F₂ := frWent F₀ w₂ (by simp) (by simp)
  have fx₀ := freshOf F₀ hx₀
  have fd₀ := freshOf F₀ hd₀
  clear hR₁ R₁
  dsimp only
  walk1
  walk1
  walk1
  refine callWith_own (X.keeps F₂.keep) fun R₂ hR₂ => make_acc ((rd _).mono (by omega)) SG F₂.keep (Nat.le_trans hG (Nat.le_of_lt F₂.ns.lt)) fun s₃ x₁ d₁ n₁ w₃ a₁ hx₁ hd₁ => hR₂ _ _ ?_
  have F₃ := frWent F₂ w₃ (by simp) (by simp)
  have fx₁ := freshOf F₂ hx₁
  have fd₁ := freshOf F₂ hd₁
  clear hR₂ R₂
  walk1
  walk1
  walk1
  refine callWith_own (X.keeps F₃.keep) fun R₃ hR₃ => make_acc ((rd _).mono (by omega)) SG F₃.keep (Nat.le_trans hG (Nat.le_of_lt F₃.ns.lt)) fun s₄ x₂ d₂ n₂ w₄ a₂ hx₂ hd₂ => hR₃ _ _ ?_
  have F₄ := frWent F₃ w₄ (by simp) (by simp)
  have fx₂ := freshOf F₃ hx₂
  have fd₂ := freshOf F₃ hd₂
  clear hR₃ R₃
  have n41 : News (hideAll s.heap tabs) L s₄.heap [(L + 2, o₁), (L + 1, o₂), (69, tabO qs), (76, tabO ps)] := newsWent (newsWent (newsWent N₀ w₂ (by simp)) w₃ (by simp)) w₄ (by simp)
  have c41 := (n41 _ (.tail _ (.head _))).1
  have c42 := (n41 _ (.head _)).1
  have k₄ := F₄.keep
  dsimp only at c41 c42
  obtain ⟨rest, nr, hmu, KK⟩ := olds_ex F₄ [L + 1, L + 2]
  have N₄ : News (hideAll s.heap tabs) L s₄.heap ((L + 2, o₁) :: (L + 1, o₂) :: rest) := by
    intro p hp
    rcases List.mem_cons.mp hp with rfl | hp
    · exact n41 _ (.head _)
    rcases List.mem_cons.mp hp with rfl | hp
    · exact n41 _ (.tail _ (.head _))
    exact nr _ hp
  clear nr F₀ N₀ F₂ F₃
  k_steps
  rename_i H h₅ l₅ h₆ NL h₇ F₇ N₇ l₇
  refine store_cell (c := L + 1) F₇ rfl ⟨o₂, (N₇ _ (.tail _ (.tail _ (.tail _ (.head _))))).1, y₂'⟩ (above_none F₇ (Nat.le_succ _)) (Nat.ne_of_gt (Nat.lt_succ_self _)) fun h₈ s₈ c₈ F₈ => ?_
  replace s₈ : Heap.SameBut (L + 1) h₇ h₈ := s₈
  have kk : ∀ b o, b ≠ L → b ∉ [L + 1, L + 2] → s₄.heap.get? b = some o → h₈.get? b = some o := fun b o h1 h2 e => (s₈.2 b (fun q => h2 (by simp [q]))).trans (KK h₇ (fun p hp => N₇ p (.tail _ (.tail _ (.tail _ (.tail _ hp))))) F₇.keep b o h1 h2 e)
  have tr : ∀ b o, s₄.heap.get? b = some o → b ≠ L → (∀ v, o.data ≠ .cell v) → h₈.get? b = some o := fun b o e h1 h2 => kk b o h1 (fun q => by
    simp only [List.mem_cons, List.not_mem_nil, or_false] at q
    rcases q with rfl | rfl
    · rw [c41] at e; cases e; exact h2 _ y₂'
    · rw [c42] at e; cases e; exact h2 _ y₁') e
  have trA : ∀ {x d : Addr} {n : Nat}, Acc w s₄.heap x d #[] n [] → x ≠ L → d ≠ L → Acc w h₈ x d #[] n [] := fun a hx hd =>
    ⟨tr _ _ a.obj hx (fun v q => by cases q), let ⟨t, t', e⟩ := a.dict; ⟨t, t', tr _ _ e hd (fun v q => by cases q)⟩, .nil⟩
  have lin0 : linesOf 0 = [] := by decide +kernel
  obtain ⟨x, d, K, B⟩ : ∃ x d, Fixed (hideAll s.heap tabs) L H NL x d ∧ Base w L H NL x d (fun _ => linesOf 0) (fun _ => 0) h₈ := by
    have e₀₃ : s₃.heap.get? x₀ = some _ := w₃.all _ _ a₀.obj
    have x01 : x₀ ≠ x₁ := fun q => by rw [← q, a₀.obj] at hx₁; cases hx₁
    have x02 : x₀ ≠ x₂ := fun q => by rw [← q, e₀₃] at hx₂; cases hx₂
    have x12 : x₁ ≠ x₂ := fun q => by rw [← q, a₁.obj] at hx₂; cases hx₂
    refine ⟨fun i => if i = 0 then x₀ else if i = 1 then x₁ else x₂, fun i => if i = 0 then d₀ else if i = 1 then d₁ else d₂, ⟨Nat.ne_of_lt l₇.1, ?_, ?_, ?_, ?_, ?_, ?_, ?_⟩, ⟨?_, ?_, ?_, c₈, ?_⟩⟩
    · intro a b ha hb q
      have h1 : a = 0 ∨ a = 1 ∨ a = 2 := by omega
      have h2 : b = 0 ∨ b = 1 ∨ b = 2 := by omega
      rcases h1 with rfl | rfl | rfl <;> rcases h2 with rfl | rfl | rfl <;> first | rfl | exact absurd q x01 | exact absurd q.symm x01 | exact absurd q x02 | exact absurd q.symm x02 | exact absurd q x12 | exact absurd q.symm x12
    · intro a ha
      have h1 : a = 0 ∨ a = 1 ∨ a = 2 := by omega
      rcases h1 with rfl | rfl | rfl
      · exact fx₀
      · exact fx₁
      · exact fx₂
    · intro a ha
      have h1 : a = 0 ∨ a = 1 ∨ a = 2 := by omega
      rcases h1 with rfl | rfl | rfl
      · exact fd₀
      · exact fd₁
      · exact fd₂
    · exact ⟨(N₇ _ (.tail _ (.head _))).2.2, (N₇ _ (.tail _ (.head _))).2.1⟩
    · exact ⟨(N₇ _ (.head _)).2.2, (N₇ _ (.head _)).2.1⟩
    · exact fun a ha => hideAll_none _ ha
    · intro a q
      simp only [List.mem_cons, List.not_mem_nil, or_false] at q
      rcases q with rfl | rfl
      · exact l1 (69, tabO qs) (.head _)
      · exact l1 (76, tabO ps) (.tail _ (.head _))
    · intro a ha
      rw [lin0]
      have h1 : a = 0 ∨ a = 1 ∨ a = 2 := by omega
      rcases h1 with rfl | rfl | rfl
      · exact ⟨_, _, trA ((a₀.keep w₃.all).keep w₄.all) fx₀.2 fd₀.2⟩
      · exact ⟨_, _, trA (a₁.keep w₄.all) fx₁.2 fd₁.2⟩
      · exact ⟨_, _, trA a₂ fx₂.2 fd₂.2⟩
    · exact (s₈.2 H (Nat.ne_of_gt l₅.2.1)).trans (N₇ _ (.tail _ (.head _))).1
    · exact ⟨_, _, _, _, (s₈.2 NL (Nat.ne_of_gt l₇.2.2.1)).trans (N₇ _ (.head _)).1, rfl, 0, rfl⟩
    · exact ⟨_, o₁, (s₈.2 (L + 2) (Nat.ne_of_gt (Nat.lt_succ_self _))).trans (N₇ _ (.tail _ (.tail _ (.head _)))).1, y₁'⟩
  have T₈ : Tabs h₈ := by
    have T₄ : Tabs s₄.heap := ((((hT0.keep k1).keep w₂.all).keep w₃.all).keep w₄.all)
    have ne : ∀ b ∈ tabs, b ≠ L ∧ b ∉ [L + 1, L + 2] := fun b hb => by
      have hbL : b < L := by
        simp only [List.mem_cons, List.not_mem_nil, or_false] at hb
        rcases hb with rfl | rfl
        · exact l1 (69, tabO qs) (.head _)
        · exact l1 (76, tabO ps) (.tail _ (.head _))
      refine ⟨Nat.ne_of_lt hbL, fun q => ?_⟩
      simp only [List.mem_cons, List.not_mem_nil, or_false] at q
      rcases q with q | q
      · exact Nat.ne_of_lt (Nat.lt_succ_of_lt hbL) q
      · exact Nat.ne_of_lt (Nat.lt_succ_of_lt (Nat.lt_succ_of_lt hbL)) q
    exact tabsVia X k₄ F₈.keep T₄ (fun o e => kk 69 o (ne 69 (by simp)).1 (ne 69 (by simp)).2 e) (fun o e => kk 76 o (ne 76 (by simp)).1 (ne 76 (by simp)).2 e)
  have W₈ : s₄.os = s.os ∧ AllBare s₄.gens := ⟨w₄.os.trans (w₃.os.trans w₂.os), w₄.gens (w₃.gens (w₂.gens hg))⟩
  clear KK kk tr trA N₇ F₇ a₀ a₁ a₂ c41 c42 k₄
  refine wpAny_execs_cons ?_
  refine for_walk rfl rfl ?_
  walk1
  have hl2 : h₈.IsList lc us := ⟨_, F₈.keep _ _ hlcG, rfl, nu, rfl⟩
  refine wpAny_pyIter_list hl2 ?_
  dsimp only
  have hLs8 : L < h₈.objs.size := F₈.ns.lt
  have hIL : L ≠ h₈.objs.size := Nat.ne_of_lt hLs8
  have hIl : lc ≠ h₈.objs.size := Nat.ne_of_lt (Heap.lt_size (F₈.keep _ _ hlcG))
  have hLl : L ≠ lc := Nat.ne_of_gt (Nat.lt_of_lt_of_le (Heap.lt_size hlcG) F₈.above)
  have hIn : (hideAll s.heap tabs).get? h₈.objs.size = none := above_none F₈ (Nat.le_of_lt hLs8)
  have hLn : (hideAll s.heap tabs).get? L = none := above_none F₈ (Nat.le_refl _)
  have up : ∀ b o, h₈.get? b = some o → (h₈.push { cls := .type "list_iterator", data := .fields #[.ref lc, .int 0 0] }).get? b = some o := fun b o e => Heap.get?_push_of_some _ e
  have F₉ : Fr (hideAll s.heap tabs) L (h₈.push { cls := .type "list_iterator", data := .fields #[.ref lc, .int 0 0] }) _ := ⟨F₈.ns.push _, fun b o e => up b o (F₈.keep b o e), F₈.above⟩
  have hI9 : (h₈.push { cls := .type "list_iterator", data := .fields #[.ref lc, .int 0 0] }).IsListIter h₈.objs.size lc 0 := ⟨_, Heap.get?_push_size _ rfl, rfl, rfl⟩
  have hl9 : (h₈.push { cls := .type "list_iterator", data := .fields #[.ref lc, .int 0 0] }).IsList lc us := hl2.push _
  have B₉ := B.mono (h' := h₈.push { cls := .type "list_iterator", data := .fields #[.ref lc, .int 0 0] }) fun b o _ e => up b o e
  have T₉ := T₈.keep up
  generalize h₈.push { cls := .type "list_iterator", data := .fields #[.ref lc, .int 0 0] } = h₉ at *
  generalize h₈.objs.size = I at *
  clear F₈ B T₈ up hl2 hLs8
  refine ⟨0, I, _, _, _, _, _, _, fun _ m s' => RunJ w (hideAll s.heap tabs) s.os L H NL I x d m s', rfl, WalkL.of (Walks.list (show (A.deeper _).handled = none from r.hh) I lc hIl us), Nat.zero_le _,
    (fun hm => by
      rcases List.mem_cons.mp hm with q | q
      · exact hIL q
      · exact hLl (List.mem_singleton.mp q)), ⟨hI9, hl9⟩, F₉.ns, ?_, ?_, ?_, ?_⟩
  · exact RunJ.make X K F₉ B₉ T₉ hI9 hIn (fun k hk => by decide) W₈.1 W₈.2 rfl
  · intro i m₁ m₂ s' h' tk j hm hk hn
    exact j.stab hIn hLn (by decide) hm hk
  · rintro i v m₁ s₁ hi hP hlo₁ hm hn' ⟨⟨hh, num, hhI, hhL, hlt, Bh, Th, hhk⟩, hos, hgs, hk, hhel⟩ ⟨it, hl1⟩
    have B₁ : Base w L H NL x d (fun k => linesOf (num k)) num s₁.heap := Bh.mono fun b o _ e => hhk b o e
    have T₁ : Tabs s₁.heap := Th.keep hhk
    have hul : us.size = cs.length := by simpa using hus
    have hci : i < cs.length := by rw [← hul]; exact hi
    obtain ⟨tc, htc⟩ := hcs i cs[i] (List.getElem?_eq_getElem hci)
    have hv : v = .int (cs[i] : Nat) tc := by rw [show us[i]? = some v from hP] at htc; exact Option.some.inj htc
    have hc54' : cs[i] < 54 := hc54 _ (List.getElem_mem hci)
    generalize cs[i] = c at *
    subst hv
    have F₁ : Fr (hideAll s.heap tabs) L s₁.heap m₁ := ⟨hn', hk, hG⟩
    refine turn_all rd SG K ⟨F₁, B₁, T₁, it⟩ hgs hlt hc54' hm hhel fun s₄ m' num' n₄ os₄ g₄ hlt' hel' => ?_
    exact TurnTo.next m' n₄.F.ns (RunJ.make X K n₄.F n₄.B n₄.T n₄.it hIn hlt' (os₄.trans hos) g₄ hel') ⟨n₄.it, _, n₄.F.keep _ _ hlcG, rfl, nu, rfl⟩
  · rintro m₁ s₁ hlo₁ hn' ⟨⟨hh, num, hhI, hhL, hlt, Bh, Th, hhk⟩, hos, hgs, hk, hhel⟩
    have n₀ : Fin w (hideAll s.heap tabs) L H NL x d (fun k => linesOf (num k)) num m₁ s₁.heap := ⟨⟨hn', hk, hG⟩, Bh.mono fun b o _ e => hhk b o e, Th.keep hhk⟩
    refine finA rd SG K n₀ hgs hhel fun s₂ m₂ O E u nv n₂ ou os₂ g₂ ⟨kO, hO⟩ gO lO q1 => ?_
    refine finB rd SG K n₂ g₂ ou hO gO lO q1 fun s₃ m₃ M um kM n₃ ou₃ os₃ g₃ hO₃ hM hMs gM lM r1 r2 => ?_
    refine finF rd SG K n₃ g₃ hlt ou₃ hO₃ gO lO hM hMs r1 r2 fun s₄ m₄ hn4 os₄ g₄ kG T₄ => ?_
    have F₄ : Fr (hideAll s.heap tabs) L s₄.heap m₄ := ⟨hn4, kG, hG⟩
    have N₄ : News (hideAll s.heap tabs) L s₄.heap [] := News.nil
    have fin : ∀ tk, R (.ok (.ret (.bool true))) { s₄ with toks := tk } := fun tk => h { s₄ with toks := tk } ⟨by show s₄.os = s.os; rw [os₄, os₃, os₂]; exact hos, fun _ => g₄, fun b o hb e => kG b o (hideAll_get _ e hb)⟩ T₄
    clear h
    unfold fin201 body201 bodyIn env201 scope201 scopeIn
    dsimp only [List.drop]
    k_steps
    exact fin _
end
end Mine

namespace Mine
open Builtin

section
variable {p : Program} {loose' : List Str} {mean : ExcName → Option Value} {mg mb : Str → Option Value} {h : Heap} {K : Frag}

theorem tab_at {d : DefRec} {x : Str} {c P : Addr} (T : Top p loose' mean mg mb h) (X : K.In h) (hd : d ∈ recsOf p) (hn : d.name = x) (ht : tabIn K x = some (c, P)) :
    ∃ a o fd, mg d.name = some (.ref a) ∧ h.get? a = some o ∧ o.data = .func fd ∧ fd.code = .ref c ∧ CodeHd h c P ∧ h.get? P = some (tabObj #[]) := by
  obtain ⟨a, o, fd, c', P', h1, h2, h3, h4, h5, h6⟩ := T.tab d hd
  have h1' := h1
  have h2' := h2
  have h3' := h3
  have h4' := h4
  unfold tabIn at ht
  split at ht
  · rename_i f hf
    have e1 := mg_of X T.g hf
    rw [hn, e1] at h1
    cases h1
    split at ht
    · rename_i hfo
      have e2 := X _ _ hfo
      rw [h2] at e2
      cases e2
      cases h3
      split at ht
      · rename_i c₂ hc
        rw [h4] at hc
        cases hc
        split at ht
        · rename_i hco
          have e3 := X _ _ hco
          have h6' := h6
          obtain ⟨⟨oc, vs, g1, g2, g3, g4⟩, g5⟩ := h6'
          rw [e3] at g1
          cases g1
          cases g3
          split at ht
          · rename_i P₂ hv
            rw [g4] at hv
            cases hv
            cases ht
            exact ⟨_, _, _, h1', h2', h3', h4', CodeHd.of h5 h6, g5⟩
          · cases ht
        · cases ht
      · cases ht
    · cases ht
  · cases ht
end

theorem top_ghost {w : World} {mean : ExcName → Option Value} {mg mb : Str → Option Value} {h : Heap} (X : (hd.heap_39 w.params).In h) (T : Top hd.view_39 loose mean mg mb h)
    (h69 : h.get? 69 = some (tabObj #[])) (h76 : h.get? 76 = some (tabObj #[])) : St w mean mg mb (hideAll h tabs) := by
  have gt : ∀ b o, h.get? b = some o → o ≠ tabObj #[] → (hideAll h tabs).get? b = some o := fun b o e hn => hideAll_get _ e fun q => by
    simp only [List.mem_cons, List.not_mem_nil, or_false] at q
    rcases q with rfl | rfl
    · rw [h69] at e; cases e; exact hn rfl
    · rw [h76] at e; cases e; exact hn rfl
  have hnt : noTabs (hd.heap_39 w.params) = true := by kernel_rfl
  have Xg : (hd.heap_39 w.params).In (hideAll h tabs) := fun a o e => gt a o (X a o e) fun q => by
    have h2 := List.all_eq_true.mp hnt (a, o) (mem_of_lookupK e)
    subst q
    exact absurd (show false = true from h2) Bool.false_ne_true
  have ns : ∀ {a : Addr} {mm : Str → Option Value}, h.Ns a mm → (hideAll h tabs).Ns a mm := fun x =>
    let ⟨o, es, ep, e, hdd, r⟩ := x; ⟨o, es, ep, gt _ _ e (fun q => by rw [q] at hdd; cases hdd), hdd, r⟩
  have hall : (recsOf hd.view_39).all (fun d => match tabIn (hd.heap_39 w.params) d.name with | some (_, P) => P != 69 && P != 76 | none => false) = true := by kernel_rfl
  have Tg : Top hd.view_39 loose mean mg mb (hideAll h tabs) := {
    g := ns T.g
    b := ns T.b
    nolimit := let ⟨mc, a, r⟩ := T.nolimit; ⟨mc, ns a, r⟩
    nodigits := let ⟨mc, a, r⟩ := T.nodigits; ⟨mc, ns a, r⟩
    fn := fun d hd' => by
      obtain ⟨a, o, pm, code, doc, h1, h2, h3, c, oc, vs, t, e1, e2, e3, e4⟩ := T.fn d hd'
      exact ⟨a, o, pm, code, doc, h1, gt _ _ h2 (fun q => by rw [q] at h3; cases h3), h3, c, oc, vs, t, e1, gt _ _ e2 (fun q => by rw [q] at e3; cases e3; cases e4), e3, e4⟩
    own := fun o ho => by
      have e : ownsOf hd.view_39 = [] := by kernel_rfl
      rw [e] at ho; cases ho
    const := T.const
    free := T.free
    builtins := T.builtins
    tab := fun d hd' => by
      have h2 := List.all_eq_true.mp hall d hd'
      split at h2
      · rename_i c P ht
        obtain ⟨a, o, fd, q1, q2, q3, q4, q5, q6⟩ := tab_at T X hd' rfl ht
        have hP : P ≠ 69 ∧ P ≠ 76 := by simpa using h2
        have q6' : (hideAll h tabs).get? P = some (tabObj #[]) := hideAll_get _ q6 (by simpa using hP)
        obtain ⟨oc, vs, file, tf, flags, tg, inF, text, tt, e1, r1, r2, r⟩ := q5
        have q5' : CodeHd (hideAll h tabs) c P := ⟨oc, vs, file, tf, flags, tg, inF, text, tt, gt _ _ e1 (fun q => by rw [q] at r1; cases r1), r1, r2, r⟩
        exact ⟨a, o, fd, c, P, q1, gt _ _ q2 (fun q => by rw [q] at q3; cases q3), q3, q4, q5'.code q6' (by simp [TriplesOk]), q5'.tab q6'⟩
      · cases h2
    bmain := let ⟨bm, ob, a1, a2, a3, a4, r⟩ := T.bmain; ⟨bm, ob, a1, a2, gt _ _ a3 (fun q => by rw [q] at a4; cases a4), a4, r⟩
    seer := fun e => by
      obtain ⟨s1, s2, s3, s4⟩ := T.seer e
      exact ⟨let ⟨mc, a, b⟩ := s1; ⟨mc, ns a, b⟩, let ⟨mc, a, b⟩ := s2; ⟨mc, ns a, b⟩, let ⟨mc, a, b⟩ := s3; ⟨mc, ns a, b⟩,
        let ⟨mg, bm, ob, a, b, c, d, e⟩ := s4; ⟨mg, bm, ob, ns a, b, gt _ _ c (fun q => by rw [q] at d; cases d), d, e⟩⟩ }
  exact ⟨Xg, Tg, glob_of_top Tg _ (by decide +kernel) (by decide +kernel)⟩
end Mine

namespace Mine
open Builtin

noncomputable def body206 (P : Params) : List Stmt := bodyIn (K := hd.heap_39 P) (f := 206) (by k_is)
noncomputable def scope206 (P : Params) : Scope := scopeIn (K := hd.heap_39 P) (f := 206) (by k_is)

section
variable {w : World} {mean : ExcName → Option Value} {mg mb : Str → Option Value} {A : Around} {G h₀ : Heap} {L fa a : Addr} {cd : Value} {s : Shared} {Q : Flow → Shared → Prop} {vs : List Value} {ns : List Int}

theorem ints_at : ∀ {us : List Value} {ks : List Int}, IntsAre us ks → ∀ (i : Nat) (v : Value), us[i]? = some v → ∃ n t, v = .int n t
  | _, _, .nil, i, v, e => by cases i <;> cases e
  | _, _, .cons n t r, 0, v, e => by cases e; exact ⟨_, _, rfl⟩
  | _, _, .cons n t r, i + 1, v, e => ints_at r i v e

set_option maxHeartbeats 4000000 in
theorem law_walk (rd : ∀ env, Room (A.deeper env) 15) (SG : St w mean mg mb G) (S : St w mean mg mb h₀) (kg : G.StaysIn h₀) (ng : ∀ b ∈ tabs, G.get? b = none) (hT : Tabs h₀) (hg : AllBare s.gens)
    (F : Fr h₀ L s.heap (fun y => List.lookup y [(Str.ofString "script", Value.ref a)])) (N : News h₀ L s.heap []) (hl : h₀.IsList a vs.toArray) (hI : IntsAre vs ns) (hn : ns.length ≤ 63)
    (h : ∀ s', Went tabs { s with heap := h₀ } s' → Tabs s'.heap → Q (.ret (.bool true)) s') :
    wpAny (model prg w) (A.deeper (envOf (Str.ofString "law") (scope206 w.params) L fa cd)) (execs (body206 w.params) (envOf (Str.ofString "law") (scope206 w.params) L fa cd)) Q (fun _ _ => False) s := by
  unfold body206 scope206 bodyIn scopeIn
  have S' := S
  obtain ⟨X, T, GL⟩ := S
  walk1
  walk1
  walk1
  walk1
  walk1
  walk1
  refine comp_walk rfl (by decide) rfl (by decide) rfl ?_
  k_steps
  rename_i D₂ ws₂ h₂ F₂ N₂ hI₂ l₂
  have hwl : ws₂.length = ([5, 11, 23, 17, 7, 35] ++ List.take 6 ns).length := hI₂.length
  have hw12 : ws₂.length ≤ 12 := by
    rw [hwl, List.length_append, List.length_take]
    have : ([5, 11, 23, 17, 7, 35] : List Int).length = 6 := rfl
    omega
  have hD₂ := (N₂ _ (.head _)).1
  dsimp only at hD₂ ⊢
  refine list_comp 0 (fun av i ys s' => s'.os = s.os ∧ AllBare s'.gens ∧ (∀ b o, h₂.get? b = some o → s'.heap.get? b = some o) ∧ ∃ ps : List (Nat × Tok), ys = ps.map (fun p => Value.int (p.1 : Nat) p.2) ∧ ∀ p ∈ ps, p.1 < 54) (rd _).hh hD₂ (by rw [List.size_toArray]; exact Nat.le_trans hw12 (by decide)) (Nat.zero_le _) ?_ ?_ ?_ ?_
  · intro av h' tk hav hk _
    exact ⟨rfl, hg, fun b o e => hk b o e, [], rfl, fun p hp => by cases hp⟩
  · rintro av i ys s' h' tk hav ⟨a1, a2, a3, a4⟩ _ hk
    exact ⟨a1, a2, fun b o e => hk b o (fun q => absurd (Heap.lt_size e) (Nat.not_lt_of_le (hav b q))) (a3 b o e), a4⟩
  · rintro av C i v ys m₁ s₃ hav hltC hC hv hlo₁ hm hns hll ⟨a1, a2, a3, ps, a4, a5⟩
    obtain ⟨n, t, rfl⟩ := ints_at hI₂ i v (by simpa using hv)
    have FC : Fr h₀ C s₃.heap m₁ := ⟨hns, fun b o e => a3 b o (F₂.keep b o e), Nat.le_trans (Nat.le_of_lt (Nat.lt_of_le_of_lt F₂.above F₂.ns.lt)) (hav C hC)⟩
    clear F₂ N₂ h
    refine wpAny_pure ?_
    simp only [if_true]
    walk1
    refine ldVarC FC hm ?_
    walk1
    walk1
    have e54 : n.fmod 54 = ((n.fmod 54).toNat : Nat) := (Int.toNat_of_nonneg (Int.fmod_nonneg_of_pos _ (by decide))).symm
    rw [e54]
    refine ⟨fun b _ o e => e, a1, a2, a3, ps ++ [((n.fmod 54).toNat, _)], by rw [a4, List.map_append]; rfl, fun p hp => ?_⟩
    rcases List.mem_append.mp hp with hp | hp
    · exact a5 p hp
    · rw [List.mem_singleton.mp hp]
      have := Int.fmod_lt_of_pos n (show (0 : Int) < 54 by decide)
      show (n.fmod 54).toNat < 54
      omega
  · rintro av Dn ys s₃ kn hav hDn _ hDl ⟨a1, a2, a3, ps, a4, a5⟩ hys
    have F₃ : Fr h₀ L s₃.heap _ := ⟨F₂.ns.at' fun o e => a3 L o e, fun b o e => a3 b o (F₂.keep b o e), F₂.above⟩
    have N₃ : News h₀ L s₃.heap [] := News.nil
    clear F₂ N₂
    walk1
    walk1
    have hpl : ps.length ≤ 12 := by
      have h1 : ys.length = ps.length := by rw [a4, List.length_map]
      rw [List.size_toArray] at hys
      omega
    refine wpAny_call (run_body (cs := ps.map (·.1)) (rd _) SG (fun b o e => F₃.keep b o (kg b o e)) ng (hT.keep F₃.keep) a2 hDl ?_ ?_ ?_ (by rw [List.length_map]; omega) fun s' w' t' => ?_)
    · rw [a4, List.toList_toArray, List.length_map, List.length_map]
    · intro i c hc
      rw [List.getElem?_map] at hc
      obtain ⟨p, hp, rfl⟩ := Option.map_eq_some_iff.mp hc
      refine ⟨p.2, ?_⟩
      rw [a4, List.getElem?_toArray, List.getElem?_map, hp]
      rfl
    · intro c hc
      obtain ⟨p, hp, rfl⟩ := List.mem_map.mp hc
      exact a5 p hp
    · exact h s' ⟨w'.os.trans a1, fun _ => w'.gens a2, fun b o hb e => w'.keep b o hb (F₃.keep b o e)⟩ t'
end
end Mine

namespace Mine

/-- the written part, and the two code tables, empty -/
noncomputable def KT (w : World) (h : Heap) : Prop := (hd.heap_39 w.params).In h ∧ ∀ P ∈ [69, 76], h.get? P = some (tabObj #[])

section
variable {w : World} {mean : ExcName → Option Value} {mg mb : Str → Option Value} {h h' : Heap}

theorem k39_of (KX : KT w h) : (hd.heap_39 w.params).In h := KX.1
theorem t69_of (KX : KT w h) : h.get? 69 = some (tabO #[]) := KX.2 69 (.head _)
theorem t76_of (KX : KT w h) : h.get? 76 = some (tabO #[]) := KX.2 76 (.tail _ (.head _))
theorem tabs_of (KX : KT w h) : h.TableAt 80 76 #[] ∧ h.TableAt 73 69 #[] ∧ Tabs h := by
  have X := k39_of KX
  have c80 : CodeHd h 80 76 := codeHd_of_K X (by kernel_rfl)
  have c73 : CodeHd h 73 69 := codeHd_of_K X (by kernel_rfl)
  have a := c80.tab (t76_of KX)
  have b := c73.tab (t69_of KX)
  exact ⟨a, b, ⟨_, c80.code (t76_of KX) (by simp [TriplesOk]), a⟩, _, c73.code (t69_of KX) (by simp [TriplesOk]), b⟩
theorem st_of (KX : KT w h) (T : Top hd.view_39 loose mean mg mb h) : St w mean mg mb (hideAll h tabs) ∧ St w mean mg mb h := by
  have S := top_ghost (k39_of KX) T (t69_of KX) (t76_of KX)
  exact ⟨S, S.keeps fun b o e => of_hideAll _ e⟩
theorem old_of (KX : KT w h) (k : ∀ b o, b ∉ tabs → h.get? b = some o → h'.get? b = some o) (T' : Tabs h') : OldK h h' := by
  obtain ⟨a, b, _⟩ := tabs_of KX
  obtain ⟨⟨ps, _, hp⟩, qs, _, hq⟩ := T'
  refine ⟨fun x o e => ?_, fun x o e => ?_⟩
  · by_cases hx : x ∈ tabs
    · simp only [List.mem_cons, List.not_mem_nil, or_false] at hx
      rcases hx with rfl | rfl
      · rw [b.2] at e; cases e
        exact .inr (.inl ⟨b.isCodeTable, rfl, #[], qs, rfl, by rw [hq.2]; simp⟩)
      · rw [a.2] at e; cases e
        exact .inr (.inl ⟨a.isCodeTable, rfl, #[], ps, rfl, by rw [hp.2]; simp⟩)
    · exact .inl (k x o hx e)
  · by_cases hx : x ∈ tabs
    · simp only [List.mem_cons, List.not_mem_nil, or_false] at hx
      rcases hx with rfl | rfl
      · exact ⟨_, hq.2⟩
      · exact ⟨_, hp.2⟩
    · exact ⟨o, k x o hx e⟩
theorem room_of (env : Env) : Room (callerA.deeper env) 15 := ⟨rfl, by show callerA.depth + 1 + 15 < recursionLimit; decide, by show callerA.units + 3 + 20 * 15 < cLine; decide⟩
theorem good_of {cl : Str → Option Addr} {ns : List Int} {s₁ s' : Shared} (K : OldK s₁.heap s'.heap) (o : s'.os = s₁.os) (g : AllBare s'.gens) :
    GoodWG PySem.Challenge.rw_wr0010_01.row.claim cl mean [ofPy (PyData.list (List.map PyData.int ns))] s₁ (.ok (.ret (.bool true))) s' :=
  ⟨.inl ⟨_, .bool true, [], rfl, fun _ => rfl, .bool true, by first | kernel_rfl | with_unfolding_all rfl, fun _ => ⟨List.nodup_nil, fun _ q => by cases q⟩⟩, K, o, g⟩
end
end Mine

namespace Mine
set_option maxHeartbeats 8000000 in
theorem final1 : PySem.Challenge.rw_wr0010_01.Holds := by
  refine hd ?_
  k_fill
  intro w s₀ s₁ mg mb G Y fa o pm cd doc dV kV ho hfd hcd hD hmg hg args vals as hpre hlay hrd hwl hlo
  have KX : KT w s₁.heap := ⟨km_in_of Y, km_tabs_of Y⟩
  have X := (Ground.X G).1
  have V := (Ground.X G).2
  have GL := glob_more (Ground.glob G (by decide +kernel) (by decide +kernel)) V
  refine Ground.open G ?_
  intro T B D TE TW
  try (refine guard_noD D (by decide +kernel) ?_; clear D)
  obtain ⟨_, _, M⟩ := bmod_of_top T
  have TA := at_of_top T
  try (obtain ⟨_, _, he, B0⟩ := based_of_top T rfl hmg ho hfd; have he' : cd = _ := he; subst he'; clear he)
  clear hmg
  wrow_args hpre hlay hrd hwl hlo
  all_goals (
    first | refine callC_kw (enter_call ?_) | refine enter_call ?_ | refine callC_kw (enter_callW ?_) | refine enter_callW ?_ | w_how
    w_top on
    have K0 := below_caller (Top.heap T)
    w_call any ho hfd hcd hD T F
    clear hfd TA
    k_drop
    skip)
  rename News _ _ _ [] => N0
  rename Heap.IsList _ _ _ => hLs
  rename IntsAre _ _ => hIs
  obtain ⟨SG, SS⟩ := st_of KX T
  refine wpAny_mono (law_walk (G := hideAll s₁.heap tabs) room_of SG SS (fun b o e => of_hideAll _ e) (fun b hb => hideAll_none _ hb) (tabs_of KX).2.2 (AllBare.of_eq hg) F N0 hLs hIs (by omega) fun s' w' t' => ?_) (fun _ _ q => q) (fun _ _ e => e.elim)
  exact good_of (old_of KX w'.keep t') w'.os (w'.gens (AllBare.of_eq hg))
end Mine

set_option maxRecDepth 100000 in
set_option maxHeartbeats 8000000 in
theorem PySem.Challenge.cw_wr0010_01_holds : PySem.Challenge.rw_wr0010_01.Holds :=
  Mine.final1
