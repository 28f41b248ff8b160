import PyProof.Rows.All
import Wide.All
import OpenK.AllK
import Wide.FinOn
import Lean
import PySem.Challenge.RW_bu5040_01
open PySem PySem.W PyProof.Rows PySem.Calls PySem.Spec
set_option Elab.async false
set_option maxRecDepth 100000
namespace Mine
set_option maxHeartbeats 8000000 in
open_top hd for PySem.Challenge.rw_bu5040_01
end Mine
-- S0
namespace Mine

/-- the values that a set of the law may hold -/
def U : List Int := [0, 1, 2, 3, 22]
def cnt (S : Int → Bool) : Nat := (U.filter S).length
theorem cnt_le (S : Int → Bool) : cnt S ≤ 5 := List.length_filter_le _ _
theorem cnt_eq (S : Int → Bool) : cnt S = (if S 0 then 1 else 0) + (if S 1 then 1 else 0) + (if S 2 then 1 else 0) + (if S 3 then 1 else 0) + (if S 22 then 1 else 0) := by
  unfold cnt U
  simp only [List.filter_cons, List.filter_nil]
  cases S 0 <;> cases S 1 <;> cases S 2 <;> cases S 3 <;> cases S 22 <;> rfl
def SAdd (S : Int → Bool) (k : Int) : Int → Bool := fun k' => S k' || decide (k' = k)
def SSub (S : Int → Bool) (k : Int) : Int → Bool := fun k' => S k' && !decide (k' = k)
def SNil : Int → Bool := fun _ => false
theorem mem_U {k : Int} (h : k ∈ U) : k = 0 ∨ k = 1 ∨ k = 2 ∨ k = 3 ∨ k = 22 := by
  simpa [U] using h
theorem cnt_add {S : Int → Bool} {k : Int} (h : k ∈ U) : cnt (SAdd S k) = if S k then cnt S else cnt S + 1 := by
  rw [cnt_eq, cnt_eq]
  rcases mem_U h with rfl | rfl | rfl | rfl | rfl <;> simp [SAdd] <;>
    cases S 0 <;> cases S 1 <;> cases S 2 <;> cases S 3 <;> cases S 22 <;> rfl
theorem cnt_sub {S : Int → Bool} {k : Int} (h : k ∈ U) (hk : S k = true) : cnt (SSub S k) + 1 = cnt S := by
  rw [cnt_eq, cnt_eq]
  rcases mem_U h with rfl | rfl | rfl | rfl | rfl <;> simp [SSub, hk] <;>
    cases S 0 <;> cases S 1 <;> cases S 2 <;> cases S 3 <;> cases S 22 <;> first | rfl | simp_all
theorem cnt_zero {S : Int → Bool} (hU : ∀ k, S k = true → k ∈ U) (h : cnt S = 0) (k : Int) : S k = false := by
  cases hk : S k with
  | false => rfl
  | true =>
    have : k ∈ U.filter S := List.mem_filter.mpr ⟨hU k hk, hk⟩
    unfold cnt at h
    rw [List.length_eq_zero_iff.mp h] at this
    exact (nomatch this)

theorem nodup_len : ∀ {T l : List Int}, T.Nodup → T ⊆ l → l.length ≤ T.length → l.Nodup
  | [], l, _, _, h => by
    have : l = [] := List.length_eq_zero_iff.mp (Nat.le_zero.mp h)
    subst this; exact List.nodup_nil
  | a :: T, l, hT, hs, h => by
    have ha : a ∈ l := hs (.head _)
    have hne : a ∉ T := (List.nodup_cons.mp hT).1
    have hT' := (List.nodup_cons.mp hT).2
    have hs' : T ⊆ l.erase a := fun b hb => (List.mem_erase_of_ne (fun e : b = a => hne (by rw [← e]; exact hb))).mpr (hs (.tail _ hb))
    have hlen : (l.erase a).length + 1 = l.length := by
      rw [List.length_erase_of_mem ha]
      have : 0 < l.length := List.length_pos_of_mem ha
      omega
    have ih := nodup_len hT' hs' (by simp only [List.length_cons] at h; omega)
    have hna : a ∉ l.erase a := by
      intro hm
      have hs2 : a :: T ⊆ l.erase a := fun b hb => by
        rcases List.mem_cons.mp hb with rfl | hb
        · exact hm
        · exact hs' hb
      have := List.Nodup.length_le_of_subset hT hs2
      omega
    exact (List.perm_cons_erase ha).nodup_iff.mpr (List.nodup_cons.mpr ⟨hna, ih⟩)

def keyOf : Value → Int
  | .int i _ => i
  | _ => 0
theorem keyOf_isInt {k : Int} {v : Value} (h : v.isInt k = true) : keyOf v = k := by
  obtain ⟨t, rfl⟩ := Value.isInt_shape h
  rfl

theorem toList_eraseAt {α : Type} (xs : Array α) (i : Nat) : (SetTable.eraseAt xs i).toList = xs.toList.take i ++ xs.toList.drop (i + 1) := by
  simp [SetTable.eraseAt, List.extract_eq_take_drop, List.take_of_length_le]
theorem size_eraseAt {α : Type} (xs : Array α) (i : Nat) (h : i < xs.size) : (SetTable.eraseAt xs i).size + 1 = xs.size := by
  rw [← Array.length_toList, toList_eraseAt, List.length_append, List.length_take, List.length_drop, Array.length_toList]
  omega
theorem size_insertAt {α : Type} (xs : Array α) (i : Nat) (x : α) : (SetTable.insertAt xs i x).size = xs.size + 1 := by
  rw [← Array.length_toList, (SetTable.insertAt_perm xs i x).length_eq]; simp
theorem drop_fits {t : SetTable} {n i : Nat} (h : t.fits n = true) (hi : i < n) : (t.drop i).fits (n - 1) = true := by
  unfold SetTable.fits SetTable.fill at h
  obtain ⟨h1, h2⟩ := Bool.and_eq_true_iff.mp h
  rw [beq_iff_eq] at h1
  replace h2 := of_decide_eq_true h2
  have hlt : i < t.place.size := by omega
  unfold SetTable.drop
  rw [Array.getElem?_eq_getElem hlt]
  have := size_eraseAt t.place i hlt
  unfold SetTable.fits SetTable.fill
  refine Bool.and_eq_true_iff.mpr ⟨?_, decide_eq_true ?_⟩
  · rw [beq_iff_eq]; dsimp only; omega
  · dsimp only; rw [size_insertAt]; omega

section
variable {prog : Program} {w : World} {A : Around} {E : Value → Shared → Prop} {s : Shared} {a : Addr} {k : Int} {key : Value} {S : Int → Bool}

/-- the set at a holds S, S lies in U -/
def SetU (prog : Program) (w : World) (h : Heap) (a : Addr) (S : Int → Bool) : Prop :=
  h.SetOf (intKind prog w) a S (cnt S) ∧ ∀ k, S k = true → k ∈ U

theorem find_at {Q : Option Nat → Shared → Prop} {o : Obj} {es : Array (Int × Value)} {ep : Nat} {t : SetTable}
    (hkey : (intKind prog w).is k key = true) (hsc : key.scannable = true) (ho : s.heap.get? a = some o) (hd : o.data = .set es ep t) (hel : ElemsOf (intKind prog w) es.toList)
    (hb : es.size < scanBound) (hf : t.fits es.size = true)
    (h : Q (es.toList.findIdx? fun e => (intKind prog w).is k e.2) s) : wpAny (model prog w) A (setFind a key ((intKind prog w).hash k)) Q E s := by
  unfold setFind setFindIn
  refine wpAny_bind (wpAny_setState_of ho hd hf ?_)
  dsimp only
  rw [byScan_of hsc hb hel]
  simp only [↓reduceIte]
  refine wpAny_bind (wpAny_rule ?_)
  refine wpAny_bind (wpAny_setScan_of hkey ho hd hf hel ?_)
  cases hr : List.findIdx? (fun e => (intKind prog w).is k e.2) es.toList with
  | none => rw [hr] at h; exact wpAny_pure h
  | some j => rw [hr] at h; dsimp only; rw [Nat.zero_add]; exact wpAny_pure h

theorem keys_nodup {es : Array (Int × Value)} (hel : ElemsOf (intKind prog w) es.toList) (hmem : ∀ k, S k = true ↔ ∃ e ∈ es.toList, (intKind prog w).is k e.2 = true)
    (hU : ∀ k, S k = true → k ∈ U) (hn : es.size = cnt S) : (es.toList.map fun e => keyOf e.2).Nodup := by
  have hUn : U.Nodup := by decide
  refine nodup_len (T := U.filter S) (hUn.filter _) (fun b hb => ?_) ?_
  · obtain ⟨e, he, hi⟩ := (hmem b).mp (List.mem_filter.mp hb).2
    exact List.mem_map.mpr ⟨e, he, keyOf_isInt hi⟩
  · rw [List.length_map, Array.length_toList, hn]; exact Nat.le_refl _

theorem erase_mem {es : Array (Int × Value)} (hel : ElemsOf (intKind prog w) es.toList) (hmem : ∀ k, S k = true ↔ ∃ e ∈ es.toList, (intKind prog w).is k e.2 = true)
    (hU : ∀ k, S k = true → k ∈ U) (hn : es.size = cnt S) {i : Nat} (hi : i < es.toList.length) (hk : (intKind prog w).is k es.toList[i].2 = true) (k' : Int) :
    SSub S k k' = true ↔ ∃ e ∈ (SetTable.eraseAt es i).toList, (intKind prog w).is k' e.2 = true := by
  have hnd := keys_nodup hel hmem hU hn
  rw [toList_eraseAt]
  have hsplit : es.toList = es.toList.take i ++ es.toList[i] :: es.toList.drop (i + 1) := by
    rw [List.getElem_cons_drop, List.take_append_drop]
  have hne : ∀ e ∈ es.toList.take i ++ es.toList.drop (i + 1), keyOf e.2 ≠ k := by
    rw [hsplit, List.map_append, List.map_cons] at hnd
    intro e he hek
    have hki : keyOf es.toList[i].2 = k := keyOf_isInt hk
    rw [List.nodup_append] at hnd
    obtain ⟨_, h2, h3⟩ := hnd
    rcases List.mem_append.mp he with he | he
    · exact h3 _ (List.mem_map.mpr ⟨e, he, hek⟩) _ (List.mem_cons.mpr (.inl hki.symm)) rfl
    · exact (List.nodup_cons.mp h2).1 (List.mem_map.mpr ⟨e, he, hek.trans hki.symm⟩)
  unfold SSub
  rw [Bool.and_eq_true, hmem k']
  constructor
  · rintro ⟨⟨e, he, hp⟩, hkk⟩
    refine ⟨e, ?_, hp⟩
    rw [hsplit] at he
    rcases List.mem_append.mp he with he | he
    · exact List.mem_append_left _ he
    · rcases List.mem_cons.mp he with rfl | he
      · exfalso
        have := (intKind prog w).inj _ _ _ hp hk
        subst this
        simp at hkk
      · exact List.mem_append_right _ he
  · rintro ⟨e, he, hp⟩
    have hek : keyOf e.2 = k' := keyOf_isInt hp
    refine ⟨⟨e, ?_, hp⟩, ?_⟩
    · rw [hsplit]
      rcases List.mem_append.mp he with he | he
      · exact List.mem_append_left _ he
      · exact List.mem_append_right _ (.tail _ he)
    · have := hne e he
      rw [hek] at this
      simp [this]

/-- a key taken out of a set, or not in it -/
theorem discard_of {Q : Bool → Shared → Prop} (hkey : (intKind prog w).is k key = true) (hsc : key.scannable = true) (hS : SetU prog w s.heap a S)
    (h0 : S k = false → Q false { s with toks := s.toks + 1 })
    (h1 : ∀ h', S k = true → Heap.SameBut a s.heap h' → SetU prog w h' a (SSub S k) → Q true { s with heap := h', toks := s.toks + 1 }) :
    wpAny (model prog w) A (setDiscard a key) Q E s := by
  obtain ⟨⟨o, es, ep, t, ho, hex, hd, hel, hmem, hb, hf, hn⟩, hU⟩ := hS
  unfold setDiscard
  refine wpAny_holding (wpAny_bind ((intKind prog w).pyHash hkey ?_))
  unfold setDiscardHashed
  refine wpAny_bind (find_at (s := { s with toks := s.toks + 1 }) hkey hsc ho hd hel hb hf ?_)
  cases hr : List.findIdx? (fun e => (intKind prog w).is k e.2) es.toList with
  | none =>
    dsimp only
    refine wpAny_pure (h0 ?_)
    rw [← Bool.not_eq_true, hmem k]
    rintro ⟨e, he, hp⟩
    have := List.findIdx?_eq_none_iff.mp hr e he
    rw [hp] at this; exact Bool.noConfusion this
  | some i =>
    dsimp only
    obtain ⟨hi, hpi, _⟩ := List.findIdx?_eq_some_iff_getElem.mp hr
    have hSk : S k = true := (hmem k).mpr ⟨es.toList[i], List.getElem_mem hi, hpi⟩
    have hkU := hU k hSk
    have hi' : i < es.size := by rw [← Array.length_toList]; exact hi
    have hsz := size_eraseAt es i hi'
    refine wpAny_bind (wpAny_setState_of ho hd hf ?_)
    dsimp only
    refine wpAny_bind (wpAny_storeSet_of ho hd ?_ (fits_of_scanBound (by omega)))
    have hel' : ElemsOf (intKind prog w) (SetTable.eraseAt es i).toList := fun e he => by
      rw [toList_eraseAt] at he
      refine hel e ?_
      rcases List.mem_append.mp he with he | he
      · exact List.mem_of_mem_take he
      · exact List.mem_of_mem_drop he
    have hf' : (t.drop i).fits (SetTable.eraseAt es i).size = true := by
      have := drop_fits hf hi'
      have e1 : es.size - 1 = (SetTable.eraseAt es i).size := by omega
      rw [e1] at this; exact this
    obtain ⟨_, hS1⟩ := SetOf_store (knd := intKind prog w) (S' := SSub S k) ho hex hd hel' (erase_mem hel hmem hU hn hi hpi) (by omega) hf'
    have hc : (SetTable.eraseAt es i).size = cnt (SSub S k) := by
      have := cnt_sub hkU hSk
      omega
    rw [hc] at hS1
    refine wpAny_bind (wpAny_point (wpAny_pure (h1 _ hSk (Heap.SameBut.update s.heap a _) ⟨hS1, fun k' hk' => ?_⟩)))
    unfold SSub at hk'
    exact hU k' (Bool.and_eq_true_iff.mp hk').1
end
theorem forIn_still {M : Model} {A : Around} {E : Value → Shared → Prop} {α β : Type} {f : α → β → Sem (ForInStep β)} {b : β} {s : Shared} : ∀ {l : List α} {Q : β → Shared → Prop},
    (∀ x ∈ l, ∀ Q' : ForInStep β → Shared → Prop, Q' (.yield b) s → wpAny M A (f x b) Q' E s) → Q b s → wpAny M A (forIn l b f) Q E s
  | [], Q, _, h => by rw [List.forIn_nil]; exact wpAny_pure h
  | x :: l, Q, hf, h => by
    rw [List.forIn_cons]
    exact wpAny_bind (hf x (.head _) _ (forIn_still (fun y hy => hf y (.tail _ hy)) h))

theorem entry_set_ne : entryFor table "set.__ne__" = some Builtin.«frozenset.__ne__» :=
  entryFor_alias (id' := "frozenset.__ne__") (by kernel_rfl) rfl (by decide +kernel) (by kernel_rfl)
theorem entry_set_eq : entryFor table "set.__eq__" = some Builtin.«frozenset.__eq__» :=
  entryFor_alias (id' := "frozenset.__eq__") (by kernel_rfl) rfl (by decide +kernel) (by kernel_rfl)
section
variable {prog : Program} {w : World} {A : Around} {E : Value → Shared → Prop} {s : Shared} {a b : Addr} {k : Int} {key : Value} {S : Int → Bool}
theorem subset_same {nm : String} {Q : Bool → Shared → Prop} (ha : SetU prog w s.heap a S) (hb : SetU prog w s.heap b S) (h : Q true s) :
    wpAny (model prog w) A (Builtin.Frozenset.subsetOf nm a b) Q E s := by
  obtain ⟨ha', hU⟩ := ha
  obtain ⟨hb', _⟩ := hb
  obtain ⟨o, es, ep, t, ho, hex, hd, hel, hmem, hbn, hf, hn⟩ := id ha'
  obtain ⟨o2, es2, ep2, t2, ho2, hex2, hd2, hel2, hmem2, hbn2, hf2, hn2⟩ := id hb'
  unfold Builtin.Frozenset.subsetOf Builtin.Frozenset.sizeOf
  refine wpAny_bind (wpAny_bind (wpAny_setEntries_of ho hd hf (wpAny_pure ?_)))
  refine wpAny_bind (wpAny_bind (wpAny_setEntries_of ho2 hd2 hf2 (wpAny_pure ?_)))
  rw [if_neg (by omega)]
  refine wpAny_bind (wpAny_setEpoch_of ho hd hf ?_)
  have hquiet : ∀ e ∈ es.toList ++ es2.toList, ∀ (Q' : Bool → Shared → Prop), Q' true s → wpAny (model prog w) A (Builtin.Frozenset.quietEq e.2) Q' E s := by
    intro e he Q' hq
    have hk : ∃ k, (intKind prog w).is k e.2 = true := by
      rcases List.mem_append.mp he with he | he
      · exact let ⟨⟨k, hk, _⟩, _⟩ := hel e he; ⟨k, hk⟩
      · exact let ⟨⟨k, hk, _⟩, _⟩ := hel2 e he; ⟨k, hk⟩
    obtain ⟨k, hk⟩ := hk
    obtain ⟨tk, e2⟩ := Value.isInt_shape hk
    rw [e2]
    exact wpAny_pure hq
  unfold Builtin.Frozenset.walkUnseen
  refine wpAny_bind (wpAny_bind (wpAny_setEntries_of ho hd hf ?_))
  refine wpAny_bind (wpAny_setEntries_of ho2 hd2 hf2 ?_)
  refine wpAny_bind (forIn_still ?_ ?_)
  · intro x hx Q' hq
    refine wpAny_bind (hquiet x hx _ ?_)
    exact wpAny_pure hq
  refine wpAny_pure ?_
  refine wpAny_bind (forIn_still ?_ ?_)
  · rintro ⟨hh, x⟩ hx Q' hq
    obtain ⟨⟨k, hk, hkh⟩, hsc⟩ := hel _ hx
    dsimp only at hk hkh hsc
    subst hkh
    refine wpAny_bind (wpAny_holding (wpAny_setFind_of hk hsc hb' fun r hr => ?_))
    have hSk : S k = true := (hmem k).mpr ⟨_, hx, hk⟩
    rw [hSk] at hr
    have hrn : r.isNone = false := by cases r with | none => cases hr | some _ => rfl
    rw [hrn, if_neg Bool.false_ne_true]
    unfold Builtin.Frozenset.unchanged
    refine wpAny_bind (wpAny_bind (wpAny_setEpoch_of ho hd hf ?_))
    rw [if_neg (by simp)]
    exact wpAny_pure (wpAny_pure hq)
  exact wpAny_pure h

theorem ne_same {Q : Value → Shared → Prop} (ha : SetU prog w s.heap a S) (hb : SetU prog w s.heap b S) (hu : A.units < cLine) (h : Q (.bool false) s) :
    wpAny (model prog w) A (compareOp .NotEq (.ref a) (.ref b)) Q E s := by
  obtain ⟨o, es, ep, t, ho, hex, hd, hel, hmem, hbn, hf, hn⟩ := id ha.1
  obtain ⟨o2, es2, ep2, t2, ho2, hex2, hd2, hel2, hmem2, hbn2, hf2, hn2⟩ := id hb.1
  refine wpAny_richCompare_same_room (op := .NotEq) ha.1.typeIs hb.1.typeIs PySem.F.slot_set_ne (wpAny_call_entry PySem.F.slot_set_ne ha.1.typeIs entry_set_ne ?_ (PySem.F.args_set_ne_2 _ _)) hu
  show wpAny _ _ (Builtin.Frozenset.slot1 "__ne__" ⟨[.ref a, .ref b], []⟩ >>= _) _ _ s
  refine wpAny_bind ?_
  show wpAny _ _ (pure (Value.ref a, Value.ref b)) _ _ s
  refine wpAny_pure ?_
  refine wpAny_bind ?_
  unfold Builtin.Frozenset.isAnySet
  have hsub := sub_set_self
  have hsubf : isSubtype (.type "set") (.type "frozenset") = pure false := by rw [isSubtype_type]; kernel_rfl
  unfold orM
  refine wpAny_bind (wpAny_isInstance hb.1.typeIs hsub ?_)
  refine wpAny_pure ?_
  rw [if_neg (by decide)]
  refine wpAny_bind (wpAny_pure (wpAny_bind (wpAny_pure ?_)))
  unfold Builtin.Frozenset.sizeOf
  refine wpAny_bind (wpAny_bind (wpAny_setEntries_of ho hd hf (wpAny_pure ?_)))
  refine wpAny_bind (wpAny_bind (wpAny_setEntries_of ho2 hd2 hf2 (wpAny_pure ?_)))
  dsimp only
  refine wpAny_bind ?_
  rw [if_neg (by rw [hn, hn2]; simp)]
  unfold andM
  refine wpAny_bind (wpAny_bind (wpAny_isInstance ha.1.typeIs hsubf ?_))
  refine wpAny_pure ?_
  rw [if_neg (by decide)]
  refine subset_same ha hb (wpAny_pure ⟨_, rfl, ?_, h⟩)
  exact fun x => nomatch x

theorem noBool_set : typeLookup (.type "set") "__bool__" = pure none := by rw [typeLookup_type, builtinLookup_eq_fast]; kernel_rfl
theorem truthy_set {Q : Bool → Shared → Prop} (ha : SetU prog w s.heap a S) (h : Q (decide (cnt S ≠ 0)) { s with toks := s.toks + 1 + 1 }) : wpAny (model prog w) A (truthy (.ref a)) Q E s := by
  obtain ⟨o, es, ep, t, ho, hex, hd, hel, hmem, hbn, hf, hn⟩ := id ha.1
  have hc := cnt_le S
  have hne : ((es.size : Int) != 0) = decide (cnt S ≠ 0) := by
    rw [hn]
    by_cases e : cnt S = 0
    · simp [e]
    · have : ((cnt S : Nat) : Int) ≠ 0 := by omega
      simp [e]
  have key : wpAny (model prog w) A (runValue (.builtin "len" ⟨[.ref a], []⟩)) (fun r s' => r = .int es.size (s.toks + 1) ∧ Q (decide (cnt S ≠ 0)) s') E s := by
    refine wpAny_runValue (codeAny_builtin entry_len ?_)
    rw [Around.under_plainId plain_len _]
    exact wpAny_mono (wpAny_len_body_set (Q := fun r s' => r = .int es.size (s.toks + 1) ∧ Q (decide (cnt S ≠ 0)) s') ho hex hd hf (by omega) ⟨rfl, h⟩)
      (fun fin s' h' => by obtain ⟨r, rfl, hq⟩ := h'; exact hq) fun _ _ e => e
  unfold truthy
  first
    | refine wpAny_bind (wpAny_callSpecial?_none (name := Str.ofString "__bool__") ha.1.typeIs noBool_set ?_)
    | refine wpAny_bind (wpAny_pure (wpAny_bind (wpAny_callSpecial?_none (name := Str.ofString "__bool__") ha.1.typeIs noBool_set ?_)))
  first
    | refine wpAny_bind (wpAny_specialOf (name := Str.ofString "__len__") ha.1.typeIs PySem.F.slot_set_len.lookup ?_)
    | refine wpAny_bind (wpAny_pure (wpAny_bind (wpAny_specialOf (name := Str.ofString "__len__") ha.1.typeIs PySem.F.slot_set_len.lookup ?_)))
  first
    | exact wpAny_bind (wpAny_mono key (fun r s' h' => by obtain ⟨rfl, hq⟩ := h'; exact wpAny_pure (hne ▸ hq)) fun _ _ e => e)
    | exact wpAny_bind (wpAny_pure (wpAny_bind (wpAny_mono key (fun r s' h' => by obtain ⟨rfl, hq⟩ := h'; exact wpAny_pure (hne ▸ hq)) fun _ _ e => e)))

theorem method_discard {pl : Sem Bool} {Q : Value × List Value → Shared → Prop} (ha : SetU prog w s.heap a S) (h : Q (.builtin "set.discard", [.ref a]) s) :
    wpAny (model prog w) A (getMethod (.ref a) "discard" pl) Q E s :=
  getMethod_builtin ha.1.typeIs PySem.F.plainAttrs_set PySem.F.slot_set_discard PySem.F.type_set_discard ha.1.noDict h
theorem method_remove {pl : Sem Bool} {Q : Value × List Value → Shared → Prop} (ha : SetU prog w s.heap a S) (h : Q (.builtin "set.remove", [.ref a]) s) :
    wpAny (model prog w) A (getMethod (.ref a) "remove" pl) Q E s :=
  getMethod_builtin ha.1.typeIs PySem.F.plainAttrs_set PySem.F.slot_set_remove PySem.F.type_set_remove ha.1.noDict h

theorem call_discard {Q : Value → Shared → Prop} (hkey : (intKind prog w).is k key = true) (hsc : key.scannable = true) (hS : SetU prog w s.heap a S)
    (h0 : S k = false → Q .none { s with toks := s.toks + 1 })
    (h1 : ∀ h', S k = true → Heap.SameBut a s.heap h' → SetU prog w h' a (SSub S k) → Q .none { s with heap := h', toks := s.toks + 1 }) :
    wpAny (model prog w) A (call (.builtin "set.discard") [.ref a, key]) Q E s := by
  refine wpAny_call_entry PySem.F.slot_set_discard hS.1.typeIs PySem.F.entry_set_discard ?_ (PySem.F.args_set_discard_2 _ _)
  unfold Builtin.«set.discard» Builtin.Frozenset.oneOther
  simp only [List.isEmpty_nil, bind_assoc]
  unfold Builtin.Frozenset.addrOf Builtin.Frozenset.withSetAsKey
  refine wpAny_bind (wpAny_pure ?_)
  try dsimp only
  refine wpAny_bind (wpAny_pure ?_)
  try dsimp only
  refine wpAny_bind (wpAny_tryCatch ?_)
  refine discard_of hkey hsc hS (fun e => ?_) (fun h' e hs hS' => ?_)
  · show wpAny _ _ (ret Value.none) _ _ _
    exact wpAny_pure ⟨_, rfl, h0 e⟩
  · show wpAny _ _ (ret Value.none) _ _ _
    exact wpAny_pure ⟨_, rfl, h1 h' e hs hS'⟩

theorem call_remove {Q : Value → Shared → Prop} (hkey : (intKind prog w).is k key = true) (hsc : key.scannable = true) (hS : SetU prog w s.heap a S) (hk : S k = true)
    (h1 : ∀ h', Heap.SameBut a s.heap h' → SetU prog w h' a (SSub S k) → Q .none { s with heap := h', toks := s.toks + 1 }) :
    wpAny (model prog w) A (call (.builtin "set.remove") [.ref a, key]) Q E s := by
  refine wpAny_call_entry PySem.F.slot_set_remove hS.1.typeIs PySem.F.entry_set_remove ?_ (PySem.F.args_set_remove_2 _ _)
  unfold Builtin.«set.remove» Builtin.Frozenset.oneOther
  simp only [List.isEmpty_nil, bind_assoc]
  unfold Builtin.Frozenset.addrOf Builtin.Frozenset.withSetAsKey
  refine wpAny_bind (wpAny_pure ?_)
  try dsimp only
  refine wpAny_bind (wpAny_pure ?_)
  try dsimp only
  refine wpAny_bind (wpAny_tryCatch ?_)
  refine discard_of hkey hsc hS (fun e => ?_) (fun h' e hs hS' => ?_)
  · rw [hk] at e; cases e
  · rw [if_neg (by decide)]
    show wpAny _ _ (ret Value.none) _ _ _
    exact wpAny_pure ⟨_, rfl, h1 h' hs hS'⟩

theorem call_add {Q : Value → Shared → Prop} (hkey : (intKind prog w).is k key = true) (hsc : key.scannable = true) (hS : SetU prog w s.heap a S) (hk : k ∈ U)
    (h1 : ∀ h', Heap.SameBut a s.heap h' → SetU prog w h' a (SAdd S k) → Q .none { s with heap := h', toks := s.toks + 1 }) :
    wpAny (model prog w) A (call (.builtin "set.add") [.ref a, key]) Q E s := by
  have hc := cnt_le S
  refine call_set_add hkey hsc hS.1 (by unfold scanBound; omega) fun h' hs hS' => h1 h' hs ⟨?_, fun k' hk' => ?_⟩
  · rw [← cnt_add hk] at hS'; exact hS'
  · unfold SAdd at hk'
    rcases Bool.or_eq_true_iff.mp hk' with e | e
    · exact hS.2 k' e
    · rw [of_decide_eq_true e]; exact hk
end
end Mine
-- S1
namespace Mine
noncomputable abbrev PP : Program := PySem.Challenge.rw_bu5040_01.row.prog
noncomputable abbrev LS : List Str := looseW hd.view_39 [Str.ofString "Base", Str.ofString "Leaf", Str.ofString "Annotation", Str.ofString "GetNodeAnnotation", Str.ofString "_style", Str.ofString "FormatToken"]
def ObjU (w : World) (o : Obj) (S : Int → Bool) : Prop := o.SetObjOf (intKind PP w) S (cnt S) ∧ ∀ k, S k = true → k ∈ U
abbrev SubKey : Str := Str.ofString "_yapf_annotation_" ++ Str.ofString "subtype"
abbrev kName (s : String) : Str := Str.ofString s

/-- what a token's dict holds: its leaf, its set -/
def TokEs (es : List DictEntry) (a p : Addr) : Prop :=
  getL (Str.ofString "node") es = some (some (.ref a)) ∧ getL (Str.ofString "subtypes") es = some (some (.ref p)) ∧ getL (Str.ofString "AddSubtype") es = some none
theorem news_drop2 {h₀ h : Heap} {L : Addr} {q a b : Addr × Obj} {r : List (Addr × Obj)} (N : News h₀ L h (q :: a :: b :: r)) : News h₀ L h (q :: r) := fun x hx =>
  N x ((List.mem_cons.mp hx).elim (fun e => by rw [e]; exact List.Mem.head _) fun e => List.Mem.tail _ (List.Mem.tail _ (List.Mem.tail _ e)))
theorem news_drop1 {h₀ h : Heap} {L : Addr} {a b : Addr × Obj} {r : List (Addr × Obj)} (N : News h₀ L h (a :: b :: r)) : News h₀ L h r := fun x hx =>
  N x (List.Mem.tail _ (List.Mem.tail _ hx))
section
variable {w : World} {A : Around} {E : Value → Shared → Prop} {s : Shared} {h₀ : Heap} {L sa : Addr} {m : Str → Option Value} {news : List (Addr × Obj)} {g : Obj → List (Addr × Obj)} {so : Obj} {S : Int → Bool} {k : Int} {t : Tok}
theorem objU_at {h : Heap} (ho : ObjU w so S) (hg : h.get? sa = some so) : SetU PP w h sa S :=
  ⟨ho.1.setOf hg (by have := cnt_le S; unfold scanBound; omega), ho.2⟩
theorem objU_of {h : Heap} (hs : SetU PP w h sa S) : ∃ so, h.get? sa = some so ∧ ObjU w so S := by
  obtain ⟨o, h1, h2⟩ := hs.1.objOf
  exact ⟨o, h1, h2, hs.2⟩
theorem objU_fresh (led : Bool) : ObjU w { cls := .type "set", dict := none, data := .set #[] 0 (.fresh 0 0 led) } SNil := ⟨setObjOf_fresh led, fun _ h => nomatch h⟩
theorem objU_mem {news : List (Addr × Obj)} (N : News h₀ L s.heap news) (hm : (sa, so) ∈ news) (ho : ObjU w so S) : SetU PP w s.heap sa S := objU_at ho (N _ hm).1
theorem objU_zero {o : Obj} (h : o.SetObjOf (intKind PP w) (fun k' => false || decide (k' = 0)) (0 + 1)) : ObjU w o (SAdd SNil 0) :=
  ⟨h, fun k hk => by
    have e : k = 0 := by simpa [SAdd, SNil] using hk
    subst e; decide⟩
theorem sub_eq {S : Int → Bool} {k : Int} (h : S k = false) : SSub S k = S := by
  funext k'
  unfold SSub
  by_cases e : k' = k
  · subst e; rw [h]; rfl
  · simp [e]

theorem ku_add {Q : Value → Shared → Prop} (F : Fr h₀ L s.heap m) (N : News h₀ L s.heap news) (Up : UpdF sa so news g) (ho : ObjU w so S) (hk : k ∈ U)
    (h : ∀ h' so', Fr h₀ L h' m → News h₀ L h' (g so') → ObjU w so' (SAdd S k) → Q .none { s with heap := h', toks := s.toks + 1 }) :
    wpAny (model PP w) A (call (.builtin "set.add") [.ref sa, .int k t]) Q E s := by
  obtain ⟨pre, post, rfl, hg, a, b⟩ := Up.split
  have hm := N (sa, so) (List.mem_append_right _ (.head _))
  refine call_add (intKind_is _ _ _ _) rfl (objU_at ho hm.1) hk fun h' hs hS' => ?_
  obtain ⟨so', ho', hso'⟩ := objU_of hS'
  exact h h' so' (F.change hs hm.2.1 hm.2.2) (hg so' ▸ N.setIn a b hs ho') hso'
theorem ku_remove {Q : Value → Shared → Prop} (F : Fr h₀ L s.heap m) (N : News h₀ L s.heap news) (Up : UpdF sa so news g) (ho : ObjU w so S) (hk : S k = true)
    (h : ∀ h' so', Fr h₀ L h' m → News h₀ L h' (g so') → ObjU w so' (SSub S k) → Q .none { s with heap := h', toks := s.toks + 1 }) :
    wpAny (model PP w) A (call (.builtin "set.remove") [.ref sa, .int k t]) Q E s := by
  obtain ⟨pre, post, rfl, hg, a, b⟩ := Up.split
  have hm := N (sa, so) (List.mem_append_right _ (.head _))
  refine call_remove (intKind_is _ _ _ _) rfl (objU_at ho hm.1) hk fun h' hs hS' => ?_
  obtain ⟨so', ho', hso'⟩ := objU_of hS'
  exact h h' so' (F.change hs hm.2.1 hm.2.2) (hg so' ▸ N.setIn a b hs ho') hso'
theorem ku_discard {Q : Value → Shared → Prop} (F : Fr h₀ L s.heap m) (N : News h₀ L s.heap news) (Up : UpdF sa so news g) (ho : ObjU w so S)
    (h : ∀ h' so', Fr h₀ L h' m → News h₀ L h' (g so') → ObjU w so' (SSub S k) → Q .none { s with heap := h', toks := s.toks + 1 }) :
    wpAny (model PP w) A (call (.builtin "set.discard") [.ref sa, .int k t]) Q E s := by
  obtain ⟨pre, post, rfl, hg, a, b⟩ := Up.split
  have hm := N (sa, so) (List.mem_append_right _ (.head _))
  refine call_discard (intKind_is _ _ _ _) rfl (objU_at ho hm.1) (fun e => ?_) fun h' _ hs hS' => ?_
  · have := h s.heap so F (by rw [hg]; exact N) (by rw [sub_eq e]; exact ho)
    exact this
  · obtain ⟨so', ho', hso'⟩ := objU_of hS'
    exact h h' so' (F.change hs hm.2.1 hm.2.2) (hg so' ▸ N.setIn a b hs ho') hso'
theorem ku_in {Q : Value → Shared → Prop} (N : News h₀ L s.heap news) (hm : (sa, so) ∈ news) (ho : ObjU w so S) (h : Q (.bool (S k)) { s with toks := s.toks + 1 }) :
    wpAny (model PP w) A (compareOp .In (.int k t) (.ref sa)) Q E s :=
  wpAny_inSet_of (intKind_is _ _ _ _) rfl (objU_mem N hm ho).1 h
theorem ku_truthy {Q : Bool → Shared → Prop} (N : News h₀ L s.heap news) (hm : (sa, so) ∈ news) (ho : ObjU w so S) (h : Q (decide (cnt S ≠ 0)) { s with toks := s.toks + 1 + 1 }) :
    wpAny (model PP w) A (truthy (.ref sa)) Q E s := truthy_set (objU_mem N hm ho) h
theorem ku_mAdd {pl : Sem Bool} {Q : Value × List Value → Shared → Prop} (N : News h₀ L s.heap news) (hm : (sa, so) ∈ news) (ho : ObjU w so S) (h : Q (.builtin "set.add", [.ref sa]) s) :
    wpAny (model PP w) A (getMethod (.ref sa) (Str.ofString "add") pl) Q E s := getMethod_set_add (objU_mem N hm ho).1 h
theorem ku_mDiscard {pl : Sem Bool} {Q : Value × List Value → Shared → Prop} (N : News h₀ L s.heap news) (hm : (sa, so) ∈ news) (ho : ObjU w so S) (h : Q (.builtin "set.discard", [.ref sa]) s) :
    wpAny (model PP w) A (getMethod (.ref sa) (Str.ofString "discard") pl) Q E s := method_discard (objU_mem N hm ho) h
theorem ku_mRemove {pl : Sem Bool} {Q : Value × List Value → Shared → Prop} (N : News h₀ L s.heap news) (hm : (sa, so) ∈ news) (ho : ObjU w so S) (h : Q (.builtin "set.remove", [.ref sa]) s) :
    wpAny (model PP w) A (getMethod (.ref sa) (Str.ofString "remove") pl) Q E s := method_remove (objU_mem N hm ho) h
theorem ku_new {Q : Value → Shared → Prop} (F : Fr h₀ L s.heap m) (N : News h₀ L s.heap news)
    (h : ∀ D h' so', Fr h₀ L h' m → News h₀ L h' ((D, so') :: news) → (∀ p ∈ news, p.1 < D) → ObjU w so' SNil → Q (.ref D) { s with heap := h' }) :
    wpAny (model PP w) A (call (.type "set") []) Q E s :=
  newSet_N F N fun h' led F' N' => h _ h' _ F' N' (fun p hp => Heap.lt_size (N p hp).1) (objU_fresh led)
theorem ku_ne {sb : Addr} {so2 : Obj} {Q : Value → Shared → Prop} (N : News h₀ L s.heap news) (hm : (sa, so) ∈ news) (hm2 : (sb, so2) ∈ news) (ho : ObjU w so S) (ho2 : ObjU w so2 S) (hu : A.units < cLine) (h : Q (.bool false) s) :
    wpAny (model PP w) A (compareOp .NotEq (.ref sa) (.ref sb)) Q E s := ne_same (objU_mem N hm ho) (objU_mem N hm2 ho2) hu h
end
end Mine
-- S5
namespace Mine
theorem kind_hasattr : builtinKind "hasattr" = none := by decide +kernel
theorem plain_hasattr : plainId "hasattr" = true := by decide +kernel
theorem entry_hasattr : entryFor table "hasattr" = some Builtin.«hasattr» := entryFor_of_fast (by kernel_rfl)
theorem args_hasattr (a b : Value) : argsOk "hasattr" ⟨[a, b], []⟩ := by kernel_rfl
section
variable {prog : Program} {w : World} {A : Around} {E : Value → Shared → Prop} {s : Shared} {K : Frag} {x C : Addr} {ox : Obj} {od : Option Obj} {name : Str} {t : Tok} {cd : ClassData} {Q : Value → Shared → Prop}
theorem findObj_missing {es : List DictEntry} {n : Nat} (hh : hasDictIn K C = true) (ha : findIn K (.ref C) name = some none) (hc : copiedNames.contains name = false) (hl : getL name es = some none) :
    findObj K C (some (dictOf es n)) name = some .missing := by
  obtain ⟨cd, hc', hd⟩ := any_some hh
  unfold findObj
  have ho : PySem.W.ownOf cd (some (dictOf es n)) name = some none := by unfold PySem.W.ownOf; rw [if_pos hd]; exact hl
  rw [hc', Option.bind_some, ha, Option.bind_some]
  simp only [Option.bind_some, ho, hc, Bool.false_and, Bool.false_eq_true, if_false]

set_option maxHeartbeats 1000000 in
theorem hasattr_miss (hA : A.handled = none) (X : K.In s.heap) (I : InstAt s.heap x ox C od) (hga : findIn K (.ref C) "__getattribute__" = some (some (.builtin "object.__getattribute__")))
    (hk : findIn K (.ref C) "__getattr__" = some none) (hmod : mroIn K C (.type "module") = some false) (hcd : clsIn K C = some cd) (hshort : cd.name.cps.foldl (fun k c => k + (Str.utf8Of c).length) 0 ≤ 100)
    (hf : findObj K C od name = some .missing) (hmsg : (Str.ofString (toString "'" ++ toString cd.name.toString ++ toString "' object has no attribute '") ++ name ++ Str.ofString "'").length ≤ sizeLine)
    (h : ∀ h' tk, (∀ b o, s.heap.get? b = some o → h'.get? b = some o) → Q (.bool false) { s with heap := h', toks := tk }) :
    wpAny (model prog w) A (call (.builtin "hasattr") [.ref x, .str name t]) Q E s := by
  refine Calls.call_function_entry kind_hasattr plain_hasattr entry_hasattr (args_hasattr _ _) ?_
  obtain ⟨hh, g, d, tk, os⟩ := s
  have L0 := I.type (M := model prog w)
  have L1 := looks_findIn (M := model prog w) X hga
  have L2 := looks_find (M := model prog w) X I hf
  have L3 := looks_findIn (M := model prog w) X hk
  have L4 := looks_mroIn (M := model prog w) X hmod
  have L5 := looks_clsIn (M := model prog w) X hcd
  dsimp only at L0 L1 L2 L3 L4 L5
  unfold Builtin.«hasattr»
  repeat ((fail_if_success (with_reducible show wpAny _ _ (getAttrBy? _ _) _ _ _)); lk)
  unfold getAttrBy?
  refine wpAny_bind (wpAny_attempt ?_)
  unfold getAttrBy
  refine wpAny_holding (wpAny_bind (L0.at (wpAny_bind (L1.at ?_))))
  show wpAny _ _ (getAttrEveryday _ _ _) _ _ _
  unfold getAttrEveryday
  refine wpAny_bind (wpAny_onRaise (wpAny_runValue (codeAny_builtin PySem.F.plainObj_entry_getattr_hooked ?_)))
  unfold Builtin.«proto.getattr_hooked»
  dsimp only
  refine wpAny_bind (wpAny_pure (wpAny_bind (L0.at (wpAny_bind (L2.at (wpAny_bind (L3.at ?_)))))))
  show wpAny _ _ (Builtin.ObjectAttr.noSuchAttribute (Value.ref x) name) _ _ _
  unfold Builtin.ObjectAttr.noSuchAttribute
  have LT : ∀ {A : Around} {E : Value → Shared → Prop} {Q : String → Shared → Prop}, Q cd.name.toString ⟨hh, g, d, tk, os⟩ → wpAny (model prog w) A (typeNameOfCut 100 (.ref x)) Q E ⟨hh, g, d, tk, os⟩ := by
    intro A E Q hq
    unfold typeNameOfCut shownTypeOf
    repeat lk
    rw [if_pos hshort]
    exact wpAny_pure hq
  refine wpAny_bind (LT ?_)
  refine wpAny_raiseAttrError (by rw [Around.under_plainId (by decide +kernel) _]; exact hA) (fun h' tk' e hx => ?_) hmsg
  refine wpAny_pure ?_
  have hE : Shared.TypeIs { heap := h', gens := g, drawn := d, toks := tk', os := os } (.ref e) "AttributeError" := by
    obtain ⟨t1, u1, he⟩ := hx.there
    exact ⟨_, he, rfl⟩
  refine wpAny_bind (wpAny_isInstance hE sub_AttributeError ?_)
  rw [if_pos rfl]
  refine wpAny_pure ?_
  rw [if_neg (by decide)]
  exact wpAny_pure ⟨_, rfl, h h' tk' hx.keeps⟩

theorem hasattr_K {h₀ : Heap} {L : Addr} {m : Str → Option Value} {news : List (Addr × Obj)} {es : List DictEntry} {n : Nat} (hA : A.handled = none) (F : Fr h₀ L s.heap m) (N : News h₀ L s.heap news) (X : K.In h₀) (I : InstAt s.heap x ox C (some (dictOf es n)))
    (hg : plainGet K C name = true) (hh : hasDictIn K C = true) (ha : findIn K (.ref C) name = some none) (hc : copiedNames.contains name = false) (hl : getL name es = some none)
    (hmod : mroIn K C (.type "module") = some false) (hcd : clsIn K C = some cd) (hcn : cd.name = Str.ofString "Leaf") (hnm : name = Str.ofString "is_pseudo")
    (h : ∀ h' tk, Fr h₀ L h' m → News h₀ L h' news → Q (.bool false) { s with heap := h', toks := tk }) :
    wpAny (model prog w) A (call (.builtin "hasattr") [.ref x, .str name t]) Q E s := by
  refine hasattr_miss hA (X.keeps F.keep) I (plainGet_of hg).1 (plainGet_of hg).2 hmod hcd ?_ (findObj_missing hh ha hc hl) ?_ fun h' tk hk => h h' tk (F.grownK hk) (N.grown hk)
  · rw [hcn]; exact Nat.le_of_ble_eq_true (by kernel_rfl)
  · rw [hcn, hnm]; exact Nat.le_of_ble_eq_true (by kernel_rfl)
end
end Mine
-- M1
namespace Mine
theorem fill0 (w : World) : hd.heap_39 w.params = hd.heap_39 w.params ∧ PySem.Challenge.rw_bu5040_01 = PySem.Challenge.rw_bu5040_01 := by
  k_fill
  w_top off
  exact ⟨rfl, rfl⟩
theorem lt_cLine {n : Nat} (h : n < 100) : n < cLine := Nat.lt_of_lt_of_le h (Nat.le_of_ble_eq_true rfl)
end Mine
local macro_rules | `(tactic| k_room) => `(tactic| ((try simp only [depth_under_make, depth_under_kw, depth_in1, depth_deeper, depth_caller]); (try dsimp only [ktrTop]); omega))
local macro_rules | `(tactic| k_units) => `(tactic| ((try simp only [units_in1, units_deeper, Around.mark_units, units_caller]); (try dsimp only [ktrTop]); omega))
local macro_rules | `(tactic| k_get) => `(tactic| assumption)
local macro_rules | `(tactic| walk_at "call type:set nil nil") => `(tactic| (k_here; k_dflt (refine' Mine.ku_new ?F ?N ?_; (case F => k_asm); (case N => k_asm); k_whole); intro d' h' o' F' N' l1 hs'; (try k_lt l1); (try k_sweep)))
local macro_rules | `(tactic| walk_at "getMethod ref") => `(tactic| (k_here; (with_reducible show wpAny _ _ (getMethod (Value.ref _) (Str.ofString "add") _) _ _ _); k_dflt (refine' Mine.ku_mAdd ?N ?m ?o ?_; (case N => k_asm); (case m => k_mem); (case o => k_asm))))
local macro_rules | `(tactic| walk_at "getMethod ref") => `(tactic| (k_here; (with_reducible show wpAny _ _ (getMethod (Value.ref _) (Str.ofString "discard") _) _ _ _); k_dflt (refine' Mine.ku_mDiscard ?N ?m ?o ?_; (case N => k_asm); (case m => k_mem); (case o => k_asm))))
local macro_rules | `(tactic| walk_at "getMethod ref") => `(tactic| (k_here; (with_reducible show wpAny _ _ (getMethod (Value.ref _) (Str.ofString "remove") _) _ _ _); k_dflt (refine' Mine.ku_mRemove ?N ?m ?o ?_; (case N => k_asm); (case m => k_mem); (case o => k_asm))))
local macro_rules | `(tactic| walk_at "call builtin:set.add") => `(tactic| (k_here; k_dflt (refine' Mine.ku_add ?F ?N ?U ?o ?k ?_; (case F => k_asm); (case N => k_asm); (case U => k_updF); (case o => k_asm); (case k => assumption); k_whole); intro h' o' F' N' hs'; (try dsimp only at N'); (try k_sweep)))
local macro_rules | `(tactic| walk_at "call builtin:set.discard") => `(tactic| (k_here; k_dflt (refine' Mine.ku_discard ?F ?N ?U ?o ?_; (case F => k_asm); (case N => k_asm); (case U => k_updF); (case o => k_asm); k_whole); intro h' o' F' N' hs'; (try dsimp only at N'); (try k_sweep)))
local macro_rules | `(tactic| walk_at "call builtin:set.remove") => `(tactic| (k_here; k_dflt (refine' Mine.ku_remove ?F ?N ?U ?o ?k ?_; (case F => k_asm); (case N => k_asm); (case U => k_updF); (case o => k_asm); (case k => assumption); k_whole); intro h' o' F' N' hs'; (try dsimp only at N'); (try k_sweep)))
local macro_rules | `(tactic| walk_at "compareOp In int ref") => `(tactic| (k_here; k_dflt (refine' Mine.ku_in ?N ?m ?o ?_; (case N => k_asm); (case m => k_mem); (case o => k_asm)); (try dsimp only)))
local macro_rules | `(tactic| walk_at "truthy ref") => `(tactic| (k_here; k_dflt (refine' Mine.ku_truthy ?N ?m ?o ?_; (case N => k_asm); (case m => k_mem); (case o => k_asm)); (try dsimp only)))
local macro_rules | `(tactic| walk_at "setItem ref") => `(tactic| (k_here; (with_reducible show wpAny _ _ (setItem (Value.ref _) (Value.str _ _) _) _ _ _); k_dflt (refine' kda_set (knd := PySem.strKind _ _) ?F ?N ?U ?d (strKind_is _ _ _ _) ?z ?_; (case F => k_asm); (case N => k_asm); (case U => k_updF); (case d => k_asm); (case z => rw [sizeLine_eq]; exact Nat.le_of_ble_eq_true (by with_unfolding_all rfl))); intro h' o' F' N' hd'; (try dsimp only at N'); (try k_sweep)))
local macro_rules | `(tactic| k_enter) => `(tactic| ((refine' code_def ?k1 ?k2 ?k3 ?k4 ?k5 ?kA ?kF ?kK ?k6 ?k7 ?k8 ?k9 ?kB ?_ ?c2 ?c3 ?c4 ?c5; (case kA => exact rfl); (case kF => exact rfl); (case kK => first | exact rfl | assumption); (case k1 => k_asm); (case k2 => k_asm); (case k3 => k_asm); (case k4 => k_asm); (case k5 => k_asm); (case k6 => k_is); (case k7 => k_is); (case k8 => k_room); (case k9 => first | exact BindsTo.of_eq rfl | exact binds_K (by k_in) rfl (by k_is) rfl rfl rfl | fail "k_enter: no rule for these arguments"); (case c5 => decide); (case kB => exact locs rfl); (case c2 => exact rfl); (case c3 => exact rfl); (case c4 => exact rfl); k_whole; intro g' L' h' FG' F' N' B' X' T'; (try dsimp only); (try k_fold))))
local macro_rules | `(tactic| walk_at "call builtin:hasattr") => `(tactic| (k_here; k_dflt (refine' Mine.hasattr_K ?a ?F ?N ?X ?I ?g ?h ?f ?c ?l ?m ?d ?e ?i ?_; (case a => exact rfl); (case F => k_asm); (case N => k_asm); (case X => k_asm); (case I => k_inst); (case g => k_is); (case h => k_is); (case f => k_is); (case c => decide +kernel); (case l => k_get); (case m => k_is); (case d => first | k_is | exact rfl); (case e => exact rfl); (case i => exact rfl); k_whole); intro h' tk' F' N'; (try k_sweep)))
-- S2
namespace Mine
section
variable {w : World} {mean : ExcName → Option Value} {mg mb : Str → Option Value} {dp un : Nat} {gd : Option (List Code)} {cn : Str} {cs : Scope} {fa : Addr} {ccd : Value} {cl : List (Str × Addr)} {outer : List Env} {A₀ : Around} {base h₀ : Heap} {L : Addr} {m : Str → Option Value} {s : Shared} {Q E : Value → Shared → Prop}
  {rest : List (Addr × Obj)} {a d n p : Addr} {es : List DictEntry} {c : Nat} {no po : Obj} {v : Int} {t1 t2 : Tok} {S : Int → Bool}

set_option maxHeartbeats 4000000 in
theorem append_new (B : Below A₀ base outer h₀) (F : Fr h₀ L s.heap m) (X : (hd.heap_39 w.params).In h₀)
    (N : News h₀ L s.heap ((a, instObj 214 d) :: (d, dictOf es c) :: (n, no) :: rest)) (T : Top hd.view_39 LS mean mg mb h₀) (hk : cs.kind = .function)
    (hdp : dp + 8 < recursionLimit) (hun : un + 64 < cLine)
    (hes : getL (Str.ofString "notes") es = some (some (.ref n))) (hno : no.IsDictOf (strKind PP w) []) (hlo : (n == sysModules) = false)
    (hoff : OwnOff rest [a, d, n]) (had : @LT.lt Nat _ d a) (hdn : @LT.lt Nat _ a n) (hv : v ∈ U)
    (ret : ∀ p po no' h' tk', Fr h₀ L h' m → News h₀ L h' ((p, po) :: (a, instObj 214 d) :: (d, dictOf es c) :: (n, no') :: rest) → (@LT.lt Nat _ a p ∧ @LT.lt Nat _ d p ∧ @LT.lt Nat _ n p ∧ AllLt p rest) → ObjU w po (SAdd SNil v) →
      no'.IsDictOf (strKind PP w) [(SubKey, .ref p)] → Q .none { s with heap := h', toks := tk' }) :
    wpAny (model PP w) (ktrTop dp un gd cn cs L fa ccd cl outer) (call (.ref 252) [.ref a, .str (Str.ofString "subtype") t1, .int v t2]) Q E s := by
  refine wpAny_call ?_
  k_dflt ktr_enter
  k_steps
  exact ret _ _ _ _ _ (by assumption) (by assumption) (by assumption) (by assumption) (by assumption)

set_option maxHeartbeats 4000000 in
theorem append_old (B : Below A₀ base outer h₀) (F : Fr h₀ L s.heap m) (X : (hd.heap_39 w.params).In h₀)
    (N : News h₀ L s.heap ((p, po) :: (a, instObj 214 d) :: (d, dictOf es c) :: (n, no) :: rest)) (T : Top hd.view_39 LS mean mg mb h₀) (hk : cs.kind = .function)
    (hdp : dp + 8 < recursionLimit) (hun : un + 64 < cLine)
    (hes : getL (Str.ofString "notes") es = some (some (.ref n))) (hno : no.IsDictOf (strKind PP w) [(SubKey, .ref p)]) (hlo : (n == sysModules) = false) (hpo : ObjU w po S)
    (hoff : OwnOff rest [p, a, d, n]) (had : @LT.lt Nat _ d a) (hdn : @LT.lt Nat _ a n) (hnp : @LT.lt Nat _ n p) (hv : v ∈ U)
    (ret : ∀ po' no' h' tk', Fr h₀ L h' m → News h₀ L h' ((p, po') :: (a, instObj 214 d) :: (d, dictOf es c) :: (n, no') :: rest) → ObjU w po' (SAdd S v) →
      no'.IsDictOf (strKind PP w) [(SubKey, .ref p)] → Q .none { s with heap := h', toks := tk' }) :
    wpAny (model PP w) (ktrTop dp un gd cn cs L fa ccd cl outer) (call (.ref 252) [.ref a, .str (Str.ofString "subtype") t1, .int v t2]) Q E s := by
  refine wpAny_call ?_
  k_dflt ktr_enter
  k_steps
  exact ret _ _ _ _ (by assumption) (cb_drop (by assumption) fun q hq => List.mem_cons_of_mem _ hq) (by assumption) (by assumption)
end
end Mine
-- S3
namespace Mine
section
variable {w : World} {mean : ExcName → Option Value} {mg mb : Str → Option Value} {dp un : Nat} {gd : Option (List Code)} {cn : Str} {cs : Scope} {fa : Addr} {ccd : Value} {cl : List (Str × Addr)} {outer : List Env} {A₀ : Around} {base h₀ : Heap} {L : Addr} {m : Str → Option Value} {s : Shared} {Q E : Value → Shared → Prop}
  {rest : List (Addr × Obj)} {a d n p : Addr} {es : List DictEntry} {c : Nat} {no po : Obj} {v : Int} {t1 t2 : Tok} {S : Int → Bool} {u : Value} {kvs : List (Str × Value)}

set_option maxHeartbeats 4000000 in
theorem remove_none (B : Below A₀ base outer h₀) (F : Fr h₀ L s.heap m) (X : (hd.heap_39 w.params).In h₀)
    (N : News h₀ L s.heap ((a, instObj 214 d) :: (d, dictOf es c) :: (n, no) :: rest)) (T : Top hd.view_39 LS mean mg mb h₀) (hk : cs.kind = .function)
    (hdp : dp + 8 < recursionLimit)
    (hes : getL (Str.ofString "notes") es = some (some (.ref n))) (hno : no.IsDictOf (strKind PP w) []) (hlo : (n == sysModules) = false)
    (ret : ∀ h' tk', Fr h₀ L h' m → News h₀ L h' ((a, instObj 214 d) :: (d, dictOf es c) :: (n, no) :: rest) → Q .none { s with heap := h', toks := tk' }) :
    wpAny (model PP w) (ktrTop dp un gd cn cs L fa ccd cl outer) (call (.ref 259) [.ref a, .int v t2]) Q E s := by
  refine wpAny_call ?_
  k_dflt ktr_enter
  k_steps
  all_goals exact ret _ _ (by assumption) (by assumption)

set_option maxHeartbeats 4000000 in
theorem remove_some (B : Below A₀ base outer h₀) (F : Fr h₀ L s.heap m) (X : (hd.heap_39 w.params).In h₀)
    (N : News h₀ L s.heap ((p, po) :: (a, instObj 214 d) :: (d, dictOf es c) :: (n, no) :: rest)) (T : Top hd.view_39 LS mean mg mb h₀) (hk : cs.kind = .function)
    (hdp : dp + 8 < recursionLimit)
    (hes : getL (Str.ofString "notes") es = some (some (.ref n))) (hno : no.IsDictOf (strKind PP w) [(SubKey, .ref p)]) (hlo : (n == sysModules) = false) (hpo : ObjU w po S)
    (hoff : OwnOff rest [p, a, d, n]) (had : @LT.lt Nat _ d a) (hdn : @LT.lt Nat _ a n) (hnp : @LT.lt Nat _ n p)
    (ret : ∀ po' no' h' tk', Fr h₀ L h' m → News h₀ L h' ((p, po') :: (a, instObj 214 d) :: (d, dictOf es c) :: (n, no') :: rest) → ObjU w po' (SSub S v) →
      no'.IsDictOf (strKind PP w) [(SubKey, .ref p)] → Q .none { s with heap := h', toks := tk' }) :
    wpAny (model PP w) (ktrTop dp un gd cn cs L fa ccd cl outer) (call (.ref 259) [.ref a, .int v t2]) Q E s := by
  refine wpAny_call ?_
  k_dflt ktr_enter
  k_steps
  all_goals first
    | exact ret _ _ _ _ (by assumption) (by assumption) (by assumption) (by assumption)
    | exact ret po no _ _ (by assumption) (by assumption) (by rw [sub_eq (by assumption)]; exact hpo) hno
    | exact ret po no _ _ (by assumption) (by assumption) (by rw [sub_eq (cnt_zero hpo.2 (by omega) v)]; exact hpo) hno

set_option maxHeartbeats 4000000 in
theorem set_note (B : Below A₀ base outer h₀) (F : Fr h₀ L s.heap m) (X : (hd.heap_39 w.params).In h₀)
    (N : News h₀ L s.heap ((a, instObj 214 d) :: (d, dictOf es c) :: (n, no) :: rest)) (T : Top hd.view_39 LS mean mg mb h₀) (hk : cs.kind = .function)
    (hdp : dp + 8 < recursionLimit)
    (hes : getL (Str.ofString "notes") es = some (some (.ref n))) (hno : no.IsDictOf (strKind PP w) kvs) (hkv : kvs = [] ∨ ∃ u, kvs = [(SubKey, u)]) (hlo : (n == sysModules) = false)
    (hoff : OwnOff rest [a, d, n]) (had : @LT.lt Nat _ d a) (hdn : @LT.lt Nat _ a n)
    (ret : ∀ no' h' tk', Fr h₀ L h' m → News h₀ L h' ((a, instObj 214 d) :: (d, dictOf es c) :: (n, no') :: rest) → no'.IsDictOf (strKind PP w) [(SubKey, .ref p)] → Q .none { s with heap := h', toks := tk' }) :
    wpAny (model PP w) (ktrTop dp un gd cn cs L fa ccd cl outer) (call (.ref 245) [.ref a, .str (Str.ofString "subtype") t1, .ref p]) Q E s := by
  rcases hkv with rfl | ⟨u, rfl⟩
  all_goals (
    refine wpAny_call ?_
    k_dflt ktr_enter
    k_steps
    exact ret _ _ _ (by assumption) (by assumption) (by assumption))
end
end Mine
-- S4
namespace Mine
section
variable {w : World} {mean : ExcName → Option Value} {mg mb : Str → Option Value} {dp un : Nat} {gd : Option (List Code)} {cn : Str} {cs : Scope} {fa : Addr} {ccd : Value} {cl : List (Str × Addr)} {outer : List Env} {A₀ : Around} {base h₀ : Heap} {L : Addr} {m : Str → Option Value} {s : Shared} {Q E : Value → Shared → Prop}
  {rest : List (Addr × Obj)} {a d n p : Addr} {es : List DictEntry} {c : Nat} {no po : Obj} {v : Int} {t1 t2 : Tok} {S : Int → Bool} {u : Value} {kvs : List (Str × Value)} {lv : Str} {ty tv : Tok}

set_option maxHeartbeats 4000000 in
theorem token_none (B : Below A₀ base outer h₀) (F : Fr h₀ L s.heap m) (X : (hd.heap_39 w.params).In h₀)
    (N : News h₀ L s.heap ((a, instObj 214 d) :: (d, dictOf es c) :: (n, no) :: rest)) (T : Top hd.view_39 LS mean mg mb h₀) (hk : cs.kind = .function)
    (hdp : dp + 8 < recursionLimit) (hun : un + 64 < cLine)
    (hes : getL (Str.ofString "notes") es = some (some (.ref n))) (hty : getL (Str.ofString "type") es = some (some (.int 1 ty))) (hva : getL (Str.ofString "value") es = some (some (.str lv tv)))
    (hco : getL (Str.ofString "column") es = some none) (hli : getL (Str.ofString "lineno") es = some none) (hps : getL (Str.ofString "is_pseudo") es = some none)
    (hno : no.IsDictOf (strKind PP w) []) (hlo : (n == sysModules) = false)
    (hoff : OwnOff rest [a, d, n]) (had : @LT.lt Nat _ d a) (hdn : @LT.lt Nat _ a n)
    (ret : ∀ x dx es' c' p po h' tk', Fr h₀ L h' m → News h₀ L h' ((p, po) :: (x, instObj 392 dx) :: (dx, dictOf es' c') :: (a, instObj 214 d) :: (d, dictOf es c) :: (n, no) :: rest) → TokEs es' a p →
      (@LT.lt Nat _ a dx ∧ @LT.lt Nat _ d dx ∧ @LT.lt Nat _ n dx ∧ AllLt dx rest) → @LT.lt Nat _ dx x → @LT.lt Nat _ x p → ObjU w po (SAdd SNil 0) → Q (.ref x) { s with heap := h', toks := tk' }) :
    wpAny (model PP w) (ktrTop dp un gd cn cs L fa ccd cl outer) (call (.ref 392) [.ref a, .str (Str.ofString "T") t1]) Q E s := by
  k_steps
  exact ret _ _ _ _ _ _ _ _ (by assumption) (news_drop2 (by assumption)) ⟨by k_get, by k_get, by k_get⟩ (by assumption) (by assumption) (by omega) (objU_zero (by assumption))

set_option maxHeartbeats 4000000 in
theorem token_some (B : Below A₀ base outer h₀) (F : Fr h₀ L s.heap m) (X : (hd.heap_39 w.params).In h₀)
    (N : News h₀ L s.heap ((p, po) :: (a, instObj 214 d) :: (d, dictOf es c) :: (n, no) :: rest)) (T : Top hd.view_39 LS mean mg mb h₀) (hk : cs.kind = .function)
    (hdp : dp + 8 < recursionLimit) (hun : un + 64 < cLine)
    (hes : getL (Str.ofString "notes") es = some (some (.ref n))) (hty : getL (Str.ofString "type") es = some (some (.int 1 ty))) (hva : getL (Str.ofString "value") es = some (some (.str lv tv)))
    (hco : getL (Str.ofString "column") es = some none) (hli : getL (Str.ofString "lineno") es = some none) (hps : getL (Str.ofString "is_pseudo") es = some none)
    (hno : no.IsDictOf (strKind PP w) [(SubKey, .ref p)]) (hlo : (n == sysModules) = false) (hpo : ObjU w po S)
    (hoff : OwnOff rest [p, a, d, n]) (had : @LT.lt Nat _ d a) (hdn : @LT.lt Nat _ a n) (hnp : @LT.lt Nat _ n p)
    (ret0 : ∀ x dx es' c' p' po' h' tk', cnt S = 0 → Fr h₀ L h' m → News h₀ L h' ((p', po') :: (x, instObj 392 dx) :: (dx, dictOf es' c') :: (p, po) :: (a, instObj 214 d) :: (d, dictOf es c) :: (n, no) :: rest) → TokEs es' a p' →
      (@LT.lt Nat _ p dx ∧ @LT.lt Nat _ a dx ∧ @LT.lt Nat _ d dx ∧ @LT.lt Nat _ n dx ∧ AllLt dx rest) → @LT.lt Nat _ dx x → @LT.lt Nat _ x p' → ObjU w po' (SAdd SNil 0) → Q (.ref x) { s with heap := h', toks := tk' })
    (ret1 : ∀ x dx es' c' h' tk', cnt S ≠ 0 → Fr h₀ L h' m → News h₀ L h' ((x, instObj 392 dx) :: (dx, dictOf es' c') :: (p, po) :: (a, instObj 214 d) :: (d, dictOf es c) :: (n, no) :: rest) → TokEs es' a p →
      (@LT.lt Nat _ p dx ∧ @LT.lt Nat _ a dx ∧ @LT.lt Nat _ d dx ∧ @LT.lt Nat _ n dx ∧ AllLt dx rest) → @LT.lt Nat _ dx x → Q (.ref x) { s with heap := h', toks := tk' }) :
    wpAny (model PP w) (ktrTop dp un gd cn cs L fa ccd cl outer) (call (.ref 392) [.ref a, .str (Str.ofString "T") t1]) Q E s := by
  k_steps
  all_goals first
    | exact ret0 _ _ _ _ _ _ _ _ (by omega) (by assumption) (news_drop2 (by assumption)) ⟨by k_get, by k_get, by k_get⟩ (by assumption) (by assumption) (by omega) (objU_zero (by assumption))
    | exact ret1 _ _ _ _ _ _ (by omega) (by assumption) (news_drop1 (by assumption)) ⟨by k_get, by k_get, by k_get⟩ (by assumption) (by assumption)
end
end Mine
-- S6
namespace Mine
theorem fmod_nn {x lim : Int} (hl : lim = 5 ∨ lim = 12) : 0 ≤ x.fmod lim := by
  rw [Int.fmod_eq_emod_of_nonneg _ (by omega)]
  rcases hl with rfl | rfl <;> omega
theorem fmod_ltl {x lim : Int} (hl : lim = 5 ∨ lim = 12) : x.fmod lim < lim := by
  rw [Int.fmod_eq_emod_of_nonneg _ (by omega)]
  rcases hl with rfl | rfl <;> omega
section
variable {w : World} {mean : ExcName → Option Value} {mg mb : Str → Option Value} {dp un : Nat} {gd : Option (List Code)} {cn : Str} {cs : Scope} {fa : Addr} {ccd : Value} {cl : List (Str × Addr)} {outer : List Env} {A₀ : Around} {base h₀ : Heap} {L : Addr} {m : Str → Option Value} {s : Shared} {Q E : Value → Shared → Prop}
  {rest : List (Addr × Obj)} {st sc : Addr} {i lim : Int} {t tl : Tok} {n n' : Nat} {vs : List Value} {ns : List Int}

set_option maxHeartbeats 4000000 in
theorem next_spec (B : Below A₀ base outer h₀) (F : Fr h₀ L s.heap m) (X : (hd.heap_39 w.params).In h₀)
    (N : News h₀ L s.heap ((st, listOf #[.ref sc, .int i t] n) :: (sc, listOf vs.toArray n') :: rest)) (T : Top hd.view_39 LS mean mg mb h₀) (hk : cs.kind = .function)
    (hdp : dp + 8 < recursionLimit) (hun : un + 64 < cLine)
    (hi : IntsAre vs ns) (h0 : 0 ≤ i) (h1 : i ≤ 100) (hlen : ns.length ≤ 60) (hl : lim = 5 ∨ lim = 12)
    (hoff : OwnOff rest [st, sc]) (had : @LT.lt Nat _ sc st)
    (ret : ∀ v tv t' h' tk', 0 ≤ v → v < lim → Fr h₀ L h' m → News h₀ L h' ((st, listOf #[.ref sc, .int (i + 1) t'] n) :: (sc, listOf vs.toArray n') :: rest) → Q (.int v tv) { s with heap := h', toks := tk' }) :
    wpAny (model PP w) (ktrTop dp un gd cn cs L fa ccd cl outer) (call (.ref 410) [.ref st, .int lim tl]) Q E s := by
  refine wpAny_call ?_
  k_dflt ktr_enter
  k_steps
  · exact ret _ _ _ _ _ (by omega) (by omega) (by assumption) (by assumption)
  · exact ret _ _ _ _ _ (fmod_nn hl) (fmod_ltl hl) (by assumption) (by assumption)
end
end Mine
-- S7
namespace Mine
theorem news_cons {h₀ h : Heap} {L : Addr} {x : Addr × Obj} {news : List (Addr × Obj)} (N : News h₀ L h news) (hm : x ∈ news) : News h₀ L h (x :: news) := fun y hy => by
  rcases List.mem_cons.mp hy with rfl | hy
  · exact N _ hm
  · exact N _ hy
theorem news_tail {h₀ h : Heap} {L : Addr} {x : Addr × Obj} {news : List (Addr × Obj)} (N : News h₀ L h (x :: news)) : News h₀ L h news := fun y hy => N y (List.mem_cons_of_mem _ hy)
/-- what a leaf's notes say of the subtype -/
def NoteIs (w : World) (no : Obj) (nv : Value) : Prop := (no.IsDictOf (strKind PP w) [] ∧ nv = .none) ∨ ∃ p, no.IsDictOf (strKind PP w) [(SubKey, .ref p)] ∧ nv = .ref p
/-- none and none, or two sets that hold the same -/
def SameVal (w : World) (news : List (Addr × Obj)) (nv tv : Value) : Prop :=
  (nv = .none ∧ tv = .none) ∨ ∃ p q po qo S, nv = .ref p ∧ tv = .ref q ∧ (p, po) ∈ news ∧ (q, qo) ∈ news ∧ ObjU w po S ∧ ObjU w qo S
section
variable {w : World} {mean : ExcName → Option Value} {mg mb : Str → Option Value} {dp un : Nat} {gd : Option (List Code)} {cn : Str} {cs : Scope} {fa : Addr} {ccd : Value} {cl : List (Str × Addr)} {outer : List Env} {A₀ : Around} {base h₀ : Heap} {L : Addr} {m : Str → Option Value} {s : Shared} {Q E : Value → Shared → Prop}
  {news : List (Addr × Obj)} {a d n : Addr} {es : List DictEntry} {c : Nat} {no : Obj} {t1 : Tok} {nv tv : Value}

theorem ne_spec {A : Around} {r : List (Addr × Obj)} (N : News h₀ L s.heap news) (h : SameVal w r nv tv) (hr : ∀ p ∈ r, p ∈ news) (hu : A.units < cLine) (ret : Q (.bool false) s) : wpAny (model PP w) A (compareOp .NotEq nv tv) Q E s := by
  rcases h with ⟨rfl, rfl⟩ | ⟨p, q, po, qo, S, rfl, rfl, h1, h2, h3, h4⟩
  · exact EqNone.ne_none_none ret
  · exact ku_ne N (hr _ h1) (hr _ h2) h3 h4 hu ret

set_option maxHeartbeats 4000000 in
theorem get_spec (B : Below A₀ base outer h₀) (F : Fr h₀ L s.heap m) (X : (hd.heap_39 w.params).In h₀)
    (N : News h₀ L s.heap news) (m1 : (a, instObj 214 d) ∈ news) (m2 : (d, dictOf es c) ∈ news) (m3 : (n, no) ∈ news) (T : Top hd.view_39 LS mean mg mb h₀) (hk : cs.kind = .function)
    (hdp : dp + 4 < recursionLimit)
    (hes : getL (Str.ofString "notes") es = some (some (.ref n))) (hno : NoteIs w no nv) (hlo : (n == sysModules) = false)
    (ret : ∀ h' tk', Fr h₀ L h' m → News h₀ L h' news → Q nv { s with heap := h', toks := tk' }) :
    wpAny (model PP w) (ktrTop dp un gd cn cs L fa ccd cl outer) (call (.ref 238) [.ref a, .str (Str.ofString "subtype") t1]) Q E s := by
  have N3 := news_cons (news_cons (news_cons N m3) (List.mem_cons_of_mem _ m2)) (List.mem_cons_of_mem _ (List.mem_cons_of_mem _ m1))
  clear N m1 m2 m3
  rcases hno with ⟨hno, rfl⟩ | ⟨p, hno, rfl⟩
  · refine wpAny_call ?_
    k_dflt k_enter
    k_steps
    exact ret _ _ (by assumption) (news_tail (news_tail (news_tail (by assumption))))
  · refine wpAny_call ?_
    k_dflt k_enter
    k_steps
    exact ret _ _ (by assumption) (news_tail (news_tail (news_tail (by assumption))))
end
end Mine
-- M2
local macro_rules | `(tactic| k_mem) => `(tactic| assumption)
local macro_rules | `(tactic| walk_at "call ref") => `(tactic| (k_here; (with_reducible show wpAny _ _ (call (Value.ref 238) [Value.ref _, Value.str (Str.ofString "subtype") _]) _ _ _); k_dflt (refine' Mine.get_spec ?k1 ?k2 ?k3 ?k4 ?m1 ?m2 ?m3 ?k5 ?hk ?hd ?he ?hn ?hl ?_; (case k1 => k_asm); (case k2 => k_asm); (case k3 => k_asm); (case k4 => k_asm); (case k5 => k_asm); (case hk => exact rfl); (case hd => k_room); (case m1 => k_mem); (case m2 => k_mem); (case he => k_get); (case m3 => k_mem); (case hn => assumption); (case hl => assumption); k_whole); intro h' tk' F' N'; (try k_sweep)))
local macro_rules | `(tactic| walk_at "compareOp NotEq") => `(tactic| (k_here; k_dflt (refine' Mine.ne_spec ?N ?h ?r ?u ?_; (case N => k_asm); (case h => assumption); (case r => (intro p9 hp9; repeat (first | exact hp9 | refine List.mem_cons_of_mem _ ?_))); (case u => k_units))))
theorem Mine.unr_end {h₀ : Heap} {L I : Addr} {it : Obj} {rest : (Str → Option Value) → List (Addr × Obj) → Prop} {s₁ : Shared} {h' : Heap} {tk : Nat} {m' : Str → Option Value} {news' : List (Addr × Obj)} (F : Fr h₀ L h' m') (N : News h₀ L h' ((I, it) :: news'))
    (lt : AllLt I news') (r : rest m' news') : UnrEnd h₀ L s₁ I it rest { s₁ with heap := h', toks := tk } :=
  UnrEnd.intro F N news' (fun _ hp => hp) (fun p hp => Nat.ne_of_lt (kst_ltOf lt p hp)) r
local macro_rules | `(tactic| walk_at "UnrEnd") => `(tactic| (k_dflt (refine' Mine.unr_end ?F ?N ?l ?_; (case F => assumption); (case N => assumption); (case l => assumption))))
local macro_rules | `(tactic| walk_at "call builtin:len") => `(tactic| (k_here; (with_reducible show wpAny _ _ (call (Value.builtin "len") [Value.ref _]) _ _ _); k_dflt (refine' kst_len ?k1 ?k2 ?k3 ?k4 ?_; (case k1 => k_asm); (case k2 => k_mem); (case k3 => exact List.length_map _); (case k4 => omega)); k_whole))
theorem Mine.set_at {vs : List Value} {i : Nat} {v : Value} (h : i < vs.length) : (vs.set i v)[i]? = some v := List.getElem?_set_self h
theorem Mine.item_at {prog : Program} {w : World} {A : Around} {E : Value → Shared → Prop} {s : Shared} {h₀ : Heap} {L l : Addr} {news : List (Addr × Obj)} {value slice : PySem.Expr} {vs : List Value} {k : Int} {u : Tok} {c : Nat} {v : Value} {Q : Value → Shared → Prop}
    (N : News h₀ L s.heap news) (hm : (l, listOf vs.toArray c) ∈ news) (hx : vs[k.toNat]? = some v) (h0 : 0 ≤ k) (hhi : k < 2 ^ 63) (h : Q v s)
    (hs : subscripted slice false (.ref l) (.int k u) = operate [.ref l, .int k u] (getItem (.ref l) (.int k u)) := by with_unfolding_all rfl) :
    wpAny (model prog w) A (subscriptTail value slice (.ref l) (.int k u)) Q E s :=
  have hl : s.heap.IsList l vs.toArray := ⟨_, (N _ hm).1, rfl, c, rfl⟩
  tail_any hl.typeIs slot_list_getitem.lookup (wpAny_getItem_list hl h0 hhi (by simpa using hx) h) hs
local macro_rules | `(tactic| walk_at "subscriptTail Name Name ref int") => `(tactic| (k_here; (with_unfolding_all refine' Mine.item_at ?N ?m ?x ?a ?b ?_ ?s; (case N => k_asm); (case m => k_mem); (case x => first | assumption | (refine Mine.set_at ?_; (rename List.length _ = 2 => hL2); omega)); (case a => omega); (case b => omega); (case s => with_unfolding_all rfl); k_whole)))
theorem Mine.fr_know {h₀ h : Heap} {L : Addr} {x : Str} {v : Option Value} {m : Str → Option Value} (F : Fr h₀ L h (fun y => if y = x then v else m y)) (kvs : List (Str × Value)) (hm : ∀ p ∈ kvs, m p.1 = some p.2) :
    Fr h₀ L h (fun y => if y = x then v else kstB m kvs y) := by
  have e : kstB m kvs = m := funext fun z => kstB_eq hm fun _ => rfl
  rw [e]; exact F
-- S8
namespace Mine
/-- a token, its dict, its leaf, its set and the set that the law holds for it -/
structure TokD where
  x : Addr
  dx : Addr
  es : List DictEntry
  c : Nat
  a : Addr
  p : Addr
  q : Addr
def TokD.ok (w : World) (news : List (Addr × Obj)) (a0 a1 : Addr) (t : TokD) : Prop :=
  (t.x, instObj 392 t.dx) ∈ news ∧ (t.dx, dictOf t.es t.c) ∈ news ∧ TokEs t.es t.a t.p ∧ (t.a = a0 ∨ t.a = a1) ∧ ∃ po qo S, (t.p, po) ∈ news ∧ (t.q, qo) ∈ news ∧ ObjU w po S ∧ ObjU w qo S
section
variable {w : World} {mean : ExcName → Option Value} {mg mb : Str → Option Value} {dp un : Nat} {gd : Option (List Code)} {cn : Str} {cs : Scope} {fa : Addr} {ccd : Value} {cl : List (Str × Addr)} {outer : List Env} {A₀ : Around} {base h₀ : Heap} {L : Addr} {m : Str → Option Value} {s : Shared} {Q E : Value → Shared → Prop}
  {rest news : List (Addr × Obj)} {lv tb tkl hl a0 d0 n0 a1 d1 n1 : Addr} {e0 e1 : List DictEntry} {c0 c1 k0 k1 k2 k3 : Nat} {no0 no1 : Obj} {t1 : Tok} {nv0 nv1 tv0 tv1 : Value} {Ts : List TokD}

set_option maxHeartbeats 4000000 in
theorem told_spec (B : Below A₀ base outer h₀) (F : Fr h₀ L s.heap m) (X : (hd.heap_39 w.params).In h₀)
    (N : News h₀ L s.heap ((lv, listOf #[.ref a0, .ref a1] k0) :: (tb, listOf #[tv0, tv1] k1) :: (tkl, listOf (Ts.map fun t => Value.ref t.x).toArray k2) :: (hl, listOf (Ts.map fun t => Value.ref t.q).toArray k3) :: rest))
    (T : Top hd.view_39 LS mean mg mb h₀) (hk : cs.kind = .function)
    (hdp : dp + 16 < recursionLimit) (hun : un + 100 < cLine)
    (ma0 : (a0, instObj 214 d0) ∈ rest) (md0 : (d0, dictOf e0 c0) ∈ rest) (mn0 : (n0, no0) ∈ rest) (he0 : getL (Str.ofString "notes") e0 = some (some (.ref n0))) (hn0 : NoteIs w no0 nv0) (hl0 : (n0 == sysModules) = false)
    (ma1 : (a1, instObj 214 d1) ∈ rest) (md1 : (d1, dictOf e1 c1) ∈ rest) (mn1 : (n1, no1) ∈ rest) (he1 : getL (Str.ofString "notes") e1 = some (some (.ref n1))) (hn1 : NoteIs w no1 nv1) (hl1 : (n1 == sysModules) = false)
    (hs0 : SameVal w rest nv0 tv0) (hs1 : SameVal w rest nv1 tv1) (hts : ∀ t ∈ Ts, t.ok w rest a0 a1) (hlen : Ts.length ≤ 12) (h01 : @LT.lt Nat _ a0 a1)
    (ret : ∀ h' tk', Fr h₀ L h' m → News h₀ L h' ((lv, listOf #[.ref a0, .ref a1] k0) :: (tb, listOf #[tv0, tv1] k1) :: (tkl, listOf (Ts.map fun t => Value.ref t.x).toArray k2) :: (hl, listOf (Ts.map fun t => Value.ref t.q).toArray k3) :: rest) → Q (.bool true) { s with heap := h', toks := tk' }) :
    wpAny (model PP w) (ktrTop dp un gd cn cs L fa ccd cl outer) (call (.ref 417) [.ref lv, .ref tb, .ref tkl, .ref hl]) Q E s := by
  refine wpAny_call ?_
  k_dflt k_enter
  repeat' ((fail_if_success (with_reducible show wpAny _ _ (exec (PySem.Stmt.For _ (PySem.Expr.Call (PySem.Expr.Name _ _) [PySem.Expr.Call _ [PySem.Expr.Name (Str.ofString "tokens") _] _ _] _ _) _ _ _) _) _ _ _)); first | (k_unfold; (try dsimp only)) | (k_end; kc_close) | walk1 | (dsimp only; walk1) | (leave1; walk_say "STEP leave1"; (try dsimp only)) | fail "no step")
  (rename Fr _ _ _ _ => lF')
  (with_unfolding_all refine' For_invVF lF' ?k1 ?k2 ?_)
  case k1 => exact rfl
  case k2 => exact rfl
  repeat' ((fail_if_success (with_reducible show wpAny _ _ (pyIter _) _ _ _)); first | walk1 | (dsimp only; walk1))
  (rename Fr _ _ _ _ => lF'); (rename News _ _ _ _ => lN'); (rename IsRange _ _ _ _ _ _ _ _ => rgX)
  have hsz : Builtin.Range.rangeSize 0 (Ts.length : Int) 1 = ((Ts.length : Nat) : Int) := by rw [rangeSize_nat]; omega
  (with_unfolding_all refine' tbr_invG (n := Ts.length) (fun _ m nx => nx = ((lv, listOf #[.ref a0, .ref a1] k0) :: (tb, listOf #[tv0, tv1] k1) :: (tkl, listOf (Ts.map fun t => Value.ref t.x).toArray k2) :: (hl, listOf (Ts.map fun t => Value.ref t.q).toArray k3) :: rest) ∧ m (Str.ofString "tokens") = some (.ref tkl) ∧ m (Str.ofString "held") = some (.ref hl) ∧ m (Str.ofString "leaves") = some (.ref lv)) (by rfl) rgX (small_one (by omega) (by omega) (by omega) (by omega)) hsz lF' lN' ?jj ?_ ?_)
  case jj => exact ⟨rfl, by k_dflt exact rfl, by k_dflt exact rfl, by k_dflt exact rfl⟩
  · clear lF' lN' rgX hsz
    rintro i k t m₁ nx h tk' own hk' hoff ⟨rfl, hm1, hm2, hm3⟩ F1 N1
    have hb := mem_rangeKs (List.mem_of_getElem? hk')
    have hi : i < Ts.length := by
      have := (List.getElem?_eq_some_iff.mp hk').1
      rw [rangeKs_length] at this; exact this
    have hki : k = (i : Int) := by
      simp [rangeKs, hi] at hk'
      omega
    have F2 := fr_know F1 [(Str.ofString "tokens", .ref tkl), (Str.ofString "held", .ref hl), (Str.ofString "leaves", .ref lv)] (by intro p hp; simp only [List.mem_cons, List.not_mem_nil, or_false] at hp; rcases hp with rfl | rfl | rfl <;> assumption)
    clear F1
    obtain ⟨tok, htok⟩ : ∃ tok, Ts[i]? = some tok := ⟨_, List.getElem?_eq_getElem hi⟩
    have hk0 : k.toNat = i := by omega
    have hx1 : (Ts.map fun t => Value.ref t.x)[k.toNat]? = some (.ref tok.x) := by rw [hk0, List.getElem?_map, htok]; rfl
    have hx2 : (Ts.map fun t => Value.ref t.q)[k.toNat]? = some (.ref tok.q) := by rw [hk0, List.getElem?_map, htok]; rfl
    obtain ⟨hmx, hmd, ⟨hnode, hsub, hadd⟩, hla, po, qo, S, hmp, hmq, hop, hoq⟩ := hts tok (List.mem_of_getElem? htok)
    obtain ⟨x, dx, es, c, a, p, q⟩ := tok
    dsimp only at *
    have N2 := N1
    simp only [List.cons_append] at N2
    generalize hR : rest ++ own = R at N2
    have hr1 : ∀ p ∈ rest, p ∈ R := fun p hp => by rw [← hR]; exact List.mem_append_left _ hp
    have hr2 : ∀ p ∈ own, p ∈ R := fun p hp => by rw [← hR]; exact List.mem_append_right _ hp
    replace hmx := hr1 _ hmx
    replace hmd := hr1 _ hmd
    replace hmp := hr1 _ hmp
    replace hmq := hr1 _ hmq
    clear N1 hR
    have hsv : SameVal w R (.ref p) (.ref q) := .inr ⟨p, q, po, qo, S, rfl, rfl, hmp, hmq, hop, hoq⟩
    have hb1 := hb.1
    have hb2 := hb.2
    clear hts hk' hb hs0 hs1 hn0 hn1 ret htok
    have ma0' := hr1 _ ma0
    have ma1' := hr1 _ ma1
    rcases hla with rfl | rfl
    all_goals
      k_steps
      refine ⟨_, _, _, _, _, rfl, (by assumption), (by assumption), ?_, ?_, hoff, rfl, (by k_dflt exact rfl), (by k_dflt exact rfl), (by k_dflt exact rfl)⟩
      · intro p hp
        simp only [List.mem_cons] at hp ⊢
        rcases hp with h | h | h | h | h <;> first | (simp only [h, true_or, or_true]; done) | (simp only [hr1 p h, or_true]; done)
      · intro p hp
        simp only [List.mem_cons]
        simp only [hr2 p hp, or_true]
  · rintro m₁ nx h tk' ⟨rfl, _⟩ F1 N1
    k_steps
    exact ret _ _ (by assumption) (by assumption)
end
end Mine
-- S9
namespace Mine
/-- the ledger without some addresses -/
def without (as : List Addr) (news : List (Addr × Obj)) : List (Addr × Obj) := news.filter fun x => !as.contains x.1
theorem mem_without {as : List Addr} {news : List (Addr × Obj)} {x : Addr × Obj} : x ∈ without as news ↔ x ∈ news ∧ x.1 ∉ as := by
  unfold without
  rw [List.mem_filter]
  simp
theorem off_without (as : List Addr) (news : List (Addr × Obj)) : OwnOff (without as news) as := fun p hp b hb e => (mem_without.mp hp).2 (e ▸ hb)
theorem news_fun {h₀ h : Heap} {L : Addr} {news : List (Addr × Obj)} (N : News h₀ L h news) {x y : Addr × Obj} (hx : x ∈ news) (hy : y ∈ news) (e : x.1 = y.1) : x = y := by
  obtain ⟨x1, x2⟩ := x
  obtain ⟨y1, y2⟩ := y
  dsimp only at e
  subst e
  have h1 := (N _ hx).1
  have h2 := (N _ hy).1
  dsimp only at h1 h2
  rw [h1] at h2
  rw [Option.some.inj h2]
theorem updF_mem {d : Addr} {o o' : Obj} {l : List (Addr × Obj)} {g : Obj → List (Addr × Obj)} (U : UpdF d o l g) {x : Addr × Obj} (hx : x ∈ g o') : x = (d, o') ∨ (x ∈ l ∧ x.1 ≠ d) := by
  obtain ⟨pre, post, rfl, hg, a, b⟩ := U.split
  rw [hg] at hx
  rcases List.mem_append.mp hx with h | h
  · exact .inr ⟨List.mem_append_left _ h, a _ h⟩
  · rcases List.mem_cons.mp h with h | h
    · exact .inl h
    · exact .inr ⟨List.mem_append_right _ (.tail _ h), b _ h⟩
theorem updF_at {d : Addr} {o : Obj} {l : List (Addr × Obj)} {g : Obj → List (Addr × Obj)} (U : UpdF d o l g) : (d, o) ∈ l := by
  obtain ⟨pre, post, rfl, hg, a, b⟩ := U.split
  exact List.mem_append_right _ (.head _)
/-- what stood in the ledger, less some places, stands; so does the whole -/
theorem news_back {h₀ h h' : Heap} {L : Addr} {as : List Addr} {fx news : List (Addr × Obj)} (N : News h₀ L h news) (N' : News h₀ L h' (fx ++ without as news)) {news' : List (Addr × Obj)}
    (hs : ∀ x ∈ news', x ∈ fx ∨ (x ∈ news ∧ (x.1 ∈ as → x ∈ fx))) : News h₀ L h' news' := fun x hx => by
  rcases hs x hx with h | ⟨h, ha⟩
  · exact N' _ (List.mem_append_left _ h)
  · by_cases e : x.1 ∈ as
    · exact N' _ (List.mem_append_left _ (ha e))
    · exact N' _ (List.mem_append_right _ (mem_without.mpr ⟨h, e⟩))
theorem lt_back {d : Addr} {as : List Addr} {news : List (Addr × Obj)} (h1 : ∀ a ∈ as, @LT.lt Nat _ a d) (h2 : AllLt d (without as news)) : AllLt d news := allLt_of fun x hx => by
  by_cases e : x.1 ∈ as
  · exact h1 _ e
  · exact kst_ltOf h2 x (mem_without.mpr ⟨hx, e⟩)
section
variable {w : World} {mean : ExcName → Option Value} {mg mb : Str → Option Value} {dp un : Nat} {gd : Option (List Code)} {cn : Str} {cs : Scope} {fa : Addr} {ccd : Value} {cl : List (Str × Addr)} {outer : List Env} {A₀ : Around} {base h₀ : Heap} {L : Addr} {m : Str → Option Value} {s : Shared} {Q E : Value → Shared → Prop}
  {news : List (Addr × Obj)} {g : Obj → List (Addr × Obj)} {g2 : Obj → Obj → List (Addr × Obj)} {a d n p : Addr} {es : List DictEntry} {c : Nat} {no po : Obj} {v : Int} {t1 t2 : Tok} {S : Int → Bool} {lv : Str} {ty tv : Tok}

theorem three (N : News h₀ L s.heap news) (m1 : (a, instObj 214 d) ∈ news) (m2 : (d, dictOf es c) ∈ news) (m3 : (n, no) ∈ news) :
    News h₀ L s.heap ((a, instObj 214 d) :: (d, dictOf es c) :: (n, no) :: without [a, d, n] news) := fun x hx => by
  rcases List.mem_cons.mp hx with rfl | hx
  · exact N _ m1
  rcases List.mem_cons.mp hx with rfl | hx
  · exact N _ m2
  rcases List.mem_cons.mp hx with rfl | hx
  · exact N _ m3
  exact N _ (mem_without.mp hx).1
theorem four (N : News h₀ L s.heap news) (m0 : (p, po) ∈ news) (m1 : (a, instObj 214 d) ∈ news) (m2 : (d, dictOf es c) ∈ news) (m3 : (n, no) ∈ news) :
    News h₀ L s.heap ((p, po) :: (a, instObj 214 d) :: (d, dictOf es c) :: (n, no) :: without [p, a, d, n] news) := fun x hx => by
  rcases List.mem_cons.mp hx with rfl | hx
  · exact N _ m0
  rcases List.mem_cons.mp hx with rfl | hx
  · exact N _ m1
  rcases List.mem_cons.mp hx with rfl | hx
  · exact N _ m2
  rcases List.mem_cons.mp hx with rfl | hx
  · exact N _ m3
  exact N _ (mem_without.mp hx).1

theorem append_newU (B : Below A₀ base outer h₀) (F : Fr h₀ L s.heap m) (X : (hd.heap_39 w.params).In h₀) (N : News h₀ L s.heap news) (T : Top hd.view_39 LS mean mg mb h₀) (hk : cs.kind = .function)
    (hdp : dp + 8 < recursionLimit) (hun : un + 64 < cLine) (m1 : (a, instObj 214 d) ∈ news) (m2 : (d, dictOf es c) ∈ news) (Up : UpdF n no news g)
    (hes : getL (Str.ofString "notes") es = some (some (.ref n))) (hno : no.IsDictOf (strKind PP w) []) (hlo : (n == sysModules) = false)
    (had : @LT.lt Nat _ d a) (hdn : @LT.lt Nat _ a n) (hv : v ∈ U)
    (ret : ∀ p po no' h' tk', Fr h₀ L h' m → News h₀ L h' ((p, po) :: g no') → AllLt p news → ObjU w po (SAdd SNil v) → no'.IsDictOf (strKind PP w) [(SubKey, .ref p)] → Q .none { s with heap := h', toks := tk' }) :
    wpAny (model PP w) (ktrTop dp un gd cn cs L fa ccd cl outer) (call (.ref 252) [.ref a, .str (Str.ofString "subtype") t1, .int v t2]) Q E s := by
  have m3 := updF_at Up
  refine append_new B F X (three N m1 m2 m3) T hk hdp hun hes hno hlo (off_without _ _) had hdn hv fun p po no' h' tk' F' N' hlt hpo hno' => ret p po no' h' tk' F' ?_ ?_ hpo hno'
  · refine news_back (as := [a, d, n]) (fx := [(p, po), (a, instObj 214 d), (d, dictOf es c), (n, no')]) N N' fun x hx => ?_
    rcases List.mem_cons.mp hx with rfl | hx
    · exact .inl (by simp)
    rcases updF_mem Up hx with rfl | ⟨h1, h2⟩
    · exact .inl (by simp)
    · refine .inr ⟨h1, fun e => ?_⟩
      simp only [List.mem_cons, List.not_mem_nil, or_false] at e
      rcases e with e | e | e
      · rw [news_fun N h1 m1 e]; simp
      · rw [news_fun N h1 m2 e]; simp
      · exact absurd e h2
  · refine lt_back (as := [a, d, n]) (fun b hb => ?_) hlt.2.2.2
    simp only [List.mem_cons, List.not_mem_nil, or_false] at hb
    rcases hb with rfl | rfl | rfl
    · exact hlt.1
    · exact hlt.2.1
    · exact hlt.2.2.1

theorem g2_mem {g1 : Obj → List (Addr × Obj)} {po' no' : Obj} (U1 : UpdF p po news g1) (U2 : ∀ po', UpdF n no (g1 po') (g2 po')) {x : Addr × Obj} (hx : x ∈ g2 po' no') : x = (n, no') ∨ (x = (p, po') ∧ x.1 ≠ n) ∨ (x ∈ news ∧ x.1 ≠ n ∧ x.1 ≠ p) := by
  rcases updF_mem (U2 po') hx with h | ⟨h, e⟩
  · exact .inl h
  · rcases updF_mem U1 h with h | ⟨h, e'⟩
    · exact .inr (.inl ⟨h, e⟩)
    · exact .inr (.inr ⟨h, e, e'⟩)
theorem back4 {g1 : Obj → List (Addr × Obj)} {po' no' : Obj} {h' : Heap} (N : News h₀ L s.heap news) (m1 : (a, instObj 214 d) ∈ news) (m2 : (d, dictOf es c) ∈ news) (U1 : UpdF p po news g1) (U2 : ∀ po', UpdF n no (g1 po') (g2 po'))
    (N' : News h₀ L h' ((p, po') :: (a, instObj 214 d) :: (d, dictOf es c) :: (n, no') :: without [p, a, d, n] news)) : News h₀ L h' (g2 po' no') := by
  refine news_back (as := [p, a, d, n]) (fx := [(p, po'), (a, instObj 214 d), (d, dictOf es c), (n, no')]) N N' fun x hx => ?_
  rcases g2_mem U1 U2 hx with rfl | ⟨rfl, _⟩ | ⟨h1, h2, h3⟩
  · exact .inl (by simp)
  · exact .inl (by simp)
  · refine .inr ⟨h1, fun e => ?_⟩
    simp only [List.mem_cons, List.not_mem_nil, or_false] at e
    rcases e with e | e | e | e
    · exact absurd e h3
    · rw [news_fun N h1 m1 e]; simp
    · rw [news_fun N h1 m2 e]; simp
    · exact absurd e h2
theorem back3 {no' : Obj} {h' : Heap} {fx : List (Addr × Obj)} (N : News h₀ L s.heap news) (m1 : (a, instObj 214 d) ∈ news) (m2 : (d, dictOf es c) ∈ news) (Up : UpdF n no news g)
    (N' : News h₀ L h' (fx ++ (a, instObj 214 d) :: (d, dictOf es c) :: (n, no') :: without [a, d, n] news)) : News h₀ L h' (fx ++ g no') := by
  refine news_back (as := [a, d, n]) (fx := fx ++ [(a, instObj 214 d), (d, dictOf es c), (n, no')]) N (by simpa using N') fun x hx => ?_
  rcases List.mem_append.mp hx with hx | hx
  · exact .inl (List.mem_append_left _ hx)
  rcases updF_mem Up hx with rfl | ⟨h1, h2⟩
  · exact .inl (by simp)
  · refine .inr ⟨h1, fun e => ?_⟩
    simp only [List.mem_cons, List.not_mem_nil, or_false] at e
    rcases e with e | e | e
    · rw [news_fun N h1 m1 e]; simp
    · rw [news_fun N h1 m2 e]; simp
    · exact absurd e h2

theorem append_oldU {g1 : Obj → List (Addr × Obj)} (B : Below A₀ base outer h₀) (F : Fr h₀ L s.heap m) (X : (hd.heap_39 w.params).In h₀) (N : News h₀ L s.heap news) (T : Top hd.view_39 LS mean mg mb h₀) (hk : cs.kind = .function)
    (hdp : dp + 8 < recursionLimit) (hun : un + 64 < cLine) (m1 : (a, instObj 214 d) ∈ news) (m2 : (d, dictOf es c) ∈ news) (m3 : (n, no) ∈ news) (U1 : UpdF p po news g1) (U2 : ∀ po', UpdF n no (g1 po') (g2 po'))
    (hes : getL (Str.ofString "notes") es = some (some (.ref n))) (hno : no.IsDictOf (strKind PP w) [(SubKey, .ref p)]) (hlo : (n == sysModules) = false) (hpo : ObjU w po S)
    (had : @LT.lt Nat _ d a) (hdn : @LT.lt Nat _ a n) (hnp : @LT.lt Nat _ n p) (hv : v ∈ U)
    (ret : ∀ po' no' h' tk', Fr h₀ L h' m → News h₀ L h' (g2 po' no') → ObjU w po' (SAdd S v) → no'.IsDictOf (strKind PP w) [(SubKey, .ref p)] → Q .none { s with heap := h', toks := tk' }) :
    wpAny (model PP w) (ktrTop dp un gd cn cs L fa ccd cl outer) (call (.ref 252) [.ref a, .str (Str.ofString "subtype") t1, .int v t2]) Q E s :=
  append_old B F X (four N (updF_at U1) m1 m2 m3) T hk hdp hun hes hno hlo hpo (off_without _ _) had hdn hnp hv fun po' no' h' tk' F' N' hpo' hno' => ret po' no' h' tk' F' (back4 N m1 m2 U1 U2 N') hpo' hno'

theorem remove_noneU (B : Below A₀ base outer h₀) (F : Fr h₀ L s.heap m) (X : (hd.heap_39 w.params).In h₀) (N : News h₀ L s.heap news) (T : Top hd.view_39 LS mean mg mb h₀) (hk : cs.kind = .function)
    (hdp : dp + 8 < recursionLimit) (m1 : (a, instObj 214 d) ∈ news) (m2 : (d, dictOf es c) ∈ news) (m3 : (n, no) ∈ news)
    (hes : getL (Str.ofString "notes") es = some (some (.ref n))) (hno : no.IsDictOf (strKind PP w) []) (hlo : (n == sysModules) = false)
    (ret : ∀ h' tk', Fr h₀ L h' m → News h₀ L h' news → Q .none { s with heap := h', toks := tk' }) :
    wpAny (model PP w) (ktrTop dp un gd cn cs L fa ccd cl outer) (call (.ref 259) [.ref a, .int v t2]) Q E s := by
  refine remove_none (d := d) (c := c) (rest := news) B F X (fun x hx => ?_) T hk hdp hes hno hlo fun h' tk' F' N' => ret h' tk' F' fun x hx => N' x (.tail _ (.tail _ (.tail _ hx)))
  rcases List.mem_cons.mp hx with rfl | hx
  · exact N _ m1
  rcases List.mem_cons.mp hx with rfl | hx
  · exact N _ m2
  rcases List.mem_cons.mp hx with rfl | hx
  · exact N _ m3
  exact N _ hx

theorem remove_someU {g1 : Obj → List (Addr × Obj)} (B : Below A₀ base outer h₀) (F : Fr h₀ L s.heap m) (X : (hd.heap_39 w.params).In h₀) (N : News h₀ L s.heap news) (T : Top hd.view_39 LS mean mg mb h₀) (hk : cs.kind = .function)
    (hdp : dp + 8 < recursionLimit) (m1 : (a, instObj 214 d) ∈ news) (m2 : (d, dictOf es c) ∈ news) (m3 : (n, no) ∈ news) (U1 : UpdF p po news g1) (U2 : ∀ po', UpdF n no (g1 po') (g2 po'))
    (hes : getL (Str.ofString "notes") es = some (some (.ref n))) (hno : no.IsDictOf (strKind PP w) [(SubKey, .ref p)]) (hlo : (n == sysModules) = false) (hpo : ObjU w po S)
    (had : @LT.lt Nat _ d a) (hdn : @LT.lt Nat _ a n) (hnp : @LT.lt Nat _ n p)
    (ret : ∀ po' no' h' tk', Fr h₀ L h' m → News h₀ L h' (g2 po' no') → ObjU w po' (SSub S v) → no'.IsDictOf (strKind PP w) [(SubKey, .ref p)] → Q .none { s with heap := h', toks := tk' }) :
    wpAny (model PP w) (ktrTop dp un gd cn cs L fa ccd cl outer) (call (.ref 259) [.ref a, .int v t2]) Q E s :=
  remove_some B F X (four N (updF_at U1) m1 m2 m3) T hk hdp hes hno hlo hpo (off_without _ _) had hdn hnp fun po' no' h' tk' F' N' hpo' hno' => ret po' no' h' tk' F' (back4 N m1 m2 U1 U2 N') hpo' hno'

theorem set_noteU {kvs : List (Str × Value)} (B : Below A₀ base outer h₀) (F : Fr h₀ L s.heap m) (X : (hd.heap_39 w.params).In h₀) (N : News h₀ L s.heap news) (T : Top hd.view_39 LS mean mg mb h₀) (hk : cs.kind = .function)
    (hdp : dp + 8 < recursionLimit) (m1 : (a, instObj 214 d) ∈ news) (m2 : (d, dictOf es c) ∈ news) (Up : UpdF n no news g)
    (hes : getL (Str.ofString "notes") es = some (some (.ref n))) (hno : no.IsDictOf (strKind PP w) kvs) (hkv : kvs = [] ∨ ∃ u, kvs = [(SubKey, u)]) (hlo : (n == sysModules) = false)
    (had : @LT.lt Nat _ d a) (hdn : @LT.lt Nat _ a n)
    (ret : ∀ no' h' tk', Fr h₀ L h' m → News h₀ L h' (g no') → no'.IsDictOf (strKind PP w) [(SubKey, .ref p)] → Q .none { s with heap := h', toks := tk' }) :
    wpAny (model PP w) (ktrTop dp un gd cn cs L fa ccd cl outer) (call (.ref 245) [.ref a, .str (Str.ofString "subtype") t1, .ref p]) Q E s :=
  set_note B F X (three N m1 m2 (updF_at Up)) T hk hdp hes hno hkv hlo (off_without _ _) had hdn fun no' h' tk' F' N' hno' => ret no' h' tk' F' (back3 (fx := []) N m1 m2 Up N') hno'

theorem same_mem {h' : Heap} {fx : List (Addr × Obj)} {as : List Addr} {ol : List (Addr × Obj)} (N : News h₀ L s.heap news) (has : ∀ x ∈ ol, x ∈ news) (hat : ∀ b ∈ as, ∃ x ∈ ol, x.1 = b) (N' : News h₀ L h' (fx ++ (ol ++ without as news))) : News h₀ L h' (fx ++ news) := by
  refine news_back (as := as) (fx := fx ++ ol) N (by simpa using N') fun x hx => ?_
  rcases List.mem_append.mp hx with hx | hx
  · exact .inl (List.mem_append_left _ hx)
  · refine .inr ⟨hx, fun e => ?_⟩
    obtain ⟨y, hy, e'⟩ := hat _ e
    rw [news_fun N hx (has y hy) e'.symm]
    exact List.mem_append_right _ hy

theorem token_noneU (B : Below A₀ base outer h₀) (F : Fr h₀ L s.heap m) (X : (hd.heap_39 w.params).In h₀) (N : News h₀ L s.heap news) (T : Top hd.view_39 LS mean mg mb h₀) (hk : cs.kind = .function)
    (hdp : dp + 8 < recursionLimit) (hun : un + 64 < cLine) (m1 : (a, instObj 214 d) ∈ news) (m2 : (d, dictOf es c) ∈ news) (m3 : (n, no) ∈ news)
    (hes : getL (Str.ofString "notes") es = some (some (.ref n))) (hty : getL (Str.ofString "type") es = some (some (.int 1 ty))) (hva : getL (Str.ofString "value") es = some (some (.str lv tv)))
    (hco : getL (Str.ofString "column") es = some none) (hli : getL (Str.ofString "lineno") es = some none) (hps : getL (Str.ofString "is_pseudo") es = some none)
    (hno : no.IsDictOf (strKind PP w) []) (hlo : (n == sysModules) = false) (had : @LT.lt Nat _ d a) (hdn : @LT.lt Nat _ a n)
    (ret : ∀ x dx es' c' p po h' tk', Fr h₀ L h' m → News h₀ L h' ((p, po) :: (x, instObj 392 dx) :: (dx, dictOf es' c') :: news) → TokEs es' a p → AllLt dx news → @LT.lt Nat _ dx x → @LT.lt Nat _ x p → ObjU w po (SAdd SNil 0) → Q (.ref x) { s with heap := h', toks := tk' }) :
    wpAny (model PP w) (ktrTop dp un gd cn cs L fa ccd cl outer) (call (.ref 392) [.ref a, .str (Str.ofString "T") t1]) Q E s := by
  refine token_none B F X (three N m1 m2 m3) T hk hdp hun hes hty hva hco hli hps hno hlo (off_without _ _) had hdn fun x dx es' c' p po h' tk' F' N' ht hlt h1 h2 hpo => ret x dx es' c' p po h' tk' F' ?_ ht ?_ h1 h2 hpo
  · refine same_mem (fx := [(p, po), (x, instObj 392 dx), (dx, dictOf es' c')]) (ol := [(a, instObj 214 d), (d, dictOf es c), (n, no)]) (as := [a, d, n]) N ?_ ?_ N'
    · intro y hy; simp only [List.mem_cons, List.not_mem_nil, or_false] at hy
      rcases hy with rfl | rfl | rfl <;> assumption
    · intro b hb; simp only [List.mem_cons, List.not_mem_nil, or_false] at hb
      rcases hb with rfl | rfl | rfl <;> simp
  · refine lt_back (as := [a, d, n]) (fun b hb => ?_) hlt.2.2.2
    simp only [List.mem_cons, List.not_mem_nil, or_false] at hb
    rcases hb with rfl | rfl | rfl
    · exact hlt.1
    · exact hlt.2.1
    · exact hlt.2.2.1

theorem token_someU (B : Below A₀ base outer h₀) (F : Fr h₀ L s.heap m) (X : (hd.heap_39 w.params).In h₀) (N : News h₀ L s.heap news) (T : Top hd.view_39 LS mean mg mb h₀) (hk : cs.kind = .function)
    (hdp : dp + 8 < recursionLimit) (hun : un + 64 < cLine) (m0 : (p, po) ∈ news) (m1 : (a, instObj 214 d) ∈ news) (m2 : (d, dictOf es c) ∈ news) (m3 : (n, no) ∈ news)
    (hes : getL (Str.ofString "notes") es = some (some (.ref n))) (hty : getL (Str.ofString "type") es = some (some (.int 1 ty))) (hva : getL (Str.ofString "value") es = some (some (.str lv tv)))
    (hco : getL (Str.ofString "column") es = some none) (hli : getL (Str.ofString "lineno") es = some none) (hps : getL (Str.ofString "is_pseudo") es = some none)
    (hno : no.IsDictOf (strKind PP w) [(SubKey, .ref p)]) (hlo : (n == sysModules) = false) (hpo : ObjU w po S) (had : @LT.lt Nat _ d a) (hdn : @LT.lt Nat _ a n) (hnp : @LT.lt Nat _ n p)
    (ret : ∀ x dx es' c' h' tk', (cnt S = 0 → ∀ p' po', Fr h₀ L h' m → News h₀ L h' ((p', po') :: (x, instObj 392 dx) :: (dx, dictOf es' c') :: news) → TokEs es' a p' → AllLt dx news → @LT.lt Nat _ dx x → @LT.lt Nat _ x p' → ObjU w po' (SAdd SNil 0) → Q (.ref x) { s with heap := h', toks := tk' }) ∧
      (cnt S ≠ 0 → Fr h₀ L h' m → News h₀ L h' ((x, instObj 392 dx) :: (dx, dictOf es' c') :: news) → TokEs es' a p → AllLt dx news → @LT.lt Nat _ dx x → Q (.ref x) { s with heap := h', toks := tk' })) :
    wpAny (model PP w) (ktrTop dp un gd cn cs L fa ccd cl outer) (call (.ref 392) [.ref a, .str (Str.ofString "T") t1]) Q E s := by
  have hol : ∀ y ∈ [(p, po), (a, instObj 214 d), (d, dictOf es c), (n, no)], y ∈ news := by
    intro y hy; simp only [List.mem_cons, List.not_mem_nil, or_false] at hy
    rcases hy with rfl | rfl | rfl | rfl <;> assumption
  have hat : ∀ b ∈ [p, a, d, n], ∃ x ∈ [(p, po), (a, instObj 214 d), (d, dictOf es c), (n, no)], x.1 = b := by
    intro b hb; simp only [List.mem_cons, List.not_mem_nil, or_false] at hb
    rcases hb with rfl | rfl | rfl | rfl <;> simp
  have hlt' : ∀ dx, (@LT.lt Nat _ p dx ∧ @LT.lt Nat _ a dx ∧ @LT.lt Nat _ d dx ∧ @LT.lt Nat _ n dx ∧ AllLt dx (without [p, a, d, n] news)) → AllLt dx news := by
    intro dx hlt
    refine lt_back (as := [p, a, d, n]) (fun b hb => ?_) hlt.2.2.2.2
    simp only [List.mem_cons, List.not_mem_nil, or_false] at hb
    rcases hb with rfl | rfl | rfl | rfl
    · exact hlt.1
    · exact hlt.2.1
    · exact hlt.2.2.1
    · exact hlt.2.2.2.1
  refine token_some B F X (four N m0 m1 m2 m3) T hk hdp hun hes hty hva hco hli hps hno hlo hpo (off_without _ _) had hdn hnp (fun x dx es' c' p' po' h' tk' h0 F' N' ht hlt h1 h2 hpo' => ?_) (fun x dx es' c' h' tk' h0 F' N' ht hlt h1 => ?_)
  · exact (ret x dx es' c' h' tk').1 h0 p' po' F' (same_mem (fx := [(p', po'), (x, instObj 392 dx), (dx, dictOf es' c')]) N hol hat N') ht (hlt' _ hlt) h1 h2 hpo'
  · exact (ret x dx es' c' h' tk').2 h0 F' (same_mem (fx := [(x, instObj 392 dx), (dx, dictOf es' c')]) N hol hat N') ht (hlt' _ hlt) h1

theorem nextU {st sc : Addr} {i lim : Int} {t tl : Tok} {k k' : Nat} {vs : List Value} {ns : List Int} (B : Below A₀ base outer h₀) (F : Fr h₀ L s.heap m) (X : (hd.heap_39 w.params).In h₀) (N : News h₀ L s.heap news) (T : Top hd.view_39 LS mean mg mb h₀) (hk : cs.kind = .function)
    (hdp : dp + 8 < recursionLimit) (hun : un + 64 < cLine) (Up : UpdF st (listOf #[.ref sc, .int i t] k) news g) (m1 : (sc, listOf vs.toArray k') ∈ news)
    (hi : IntsAre vs ns) (h0 : 0 ≤ i) (h1 : i ≤ 100) (hlen : ns.length ≤ 60) (hl : lim = 5 ∨ lim = 12) (had : @LT.lt Nat _ sc st)
    (ret : ∀ v tv t' h' tk', 0 ≤ v → v < lim → Fr h₀ L h' m → News h₀ L h' (g (listOf #[.ref sc, .int (i + 1) t'] k)) → Q (.int v tv) { s with heap := h', toks := tk' }) :
    wpAny (model PP w) (ktrTop dp un gd cn cs L fa ccd cl outer) (call (.ref 410) [.ref st, .int lim tl]) Q E s := by
  have m0 := updF_at Up
  refine next_spec (n := k) (t := t) (n' := k') (rest := without [st, sc] news) B F X (fun x hx => ?_) T hk hdp hun hi h0 h1 hlen hl (off_without _ _) had fun v tv t' h' tk' v0 v1 F' N' => ret v tv t' h' tk' v0 v1 F' ?_
  · rcases List.mem_cons.mp hx with rfl | hx
    · exact N _ m0
    rcases List.mem_cons.mp hx with rfl | hx
    · exact N _ m1
    exact N _ (mem_without.mp hx).1
  · refine news_back (as := [st, sc]) (fx := [(st, listOf #[.ref sc, .int (i + 1) t'] k), (sc, listOf vs.toArray k')]) N N' fun x hx => ?_
    rcases updF_mem Up hx with rfl | ⟨h1, h2⟩
    · exact .inl (by simp)
    · refine .inr ⟨h1, fun e => ?_⟩
      simp only [List.mem_cons, List.not_mem_nil, or_false] at e
      rcases e with e | e
      · exact absurd e h2
      · rw [news_fun N h1 m1 e]; simp

theorem toldU {lv tb tkl hl a0 d0 n0 a1 d1 n1 : Addr} {e0 e1 : List DictEntry} {c0 c1 k0 k1 k2 k3 : Nat} {no0 no1 : Obj} {nv0 nv1 tv0 tv1 : Value} {Ts : List TokD}
    (B : Below A₀ base outer h₀) (F : Fr h₀ L s.heap m) (X : (hd.heap_39 w.params).In h₀) (N : News h₀ L s.heap news) (T : Top hd.view_39 LS mean mg mb h₀) (hk : cs.kind = .function)
    (hdp : dp + 16 < recursionLimit) (hun : un + 100 < cLine)
    (mlv : (lv, listOf #[.ref a0, .ref a1] k0) ∈ news) (mtb : (tb, listOf #[tv0, tv1] k1) ∈ news) (mtk : (tkl, listOf (Ts.map fun t => Value.ref t.x).toArray k2) ∈ news) (mhl : (hl, listOf (Ts.map fun t => Value.ref t.q).toArray k3) ∈ news)
    (ma0 : (a0, instObj 214 d0) ∈ news) (md0 : (d0, dictOf e0 c0) ∈ news) (mn0 : (n0, no0) ∈ news) (he0 : getL (Str.ofString "notes") e0 = some (some (.ref n0))) (hn0 : NoteIs w no0 nv0) (hl0 : (n0 == sysModules) = false)
    (ma1 : (a1, instObj 214 d1) ∈ news) (md1 : (d1, dictOf e1 c1) ∈ news) (mn1 : (n1, no1) ∈ news) (he1 : getL (Str.ofString "notes") e1 = some (some (.ref n1))) (hn1 : NoteIs w no1 nv1) (hl1 : (n1 == sysModules) = false)
    (hs0 : SameVal w news nv0 tv0) (hs1 : SameVal w news nv1 tv1) (hts : ∀ t ∈ Ts, t.ok w news a0 a1) (hlen : Ts.length ≤ 12) (h01 : @LT.lt Nat _ a0 a1)
    (ret : ∀ h' tk', Fr h₀ L h' m → News h₀ L h' news → Q (.bool true) { s with heap := h', toks := tk' }) :
    wpAny (model PP w) (ktrTop dp un gd cn cs L fa ccd cl outer) (call (.ref 417) [.ref lv, .ref tb, .ref tkl, .ref hl]) Q E s :=
  told_spec B F X (news_cons (news_cons (news_cons (news_cons N mhl) (.tail _ mtk)) (.tail _ (.tail _ mtb))) (.tail _ (.tail _ (.tail _ mlv)))) T hk hdp hun ma0 md0 mn0 he0 hn0 hl0 ma1 md1 mn1 he1 hn1 hl1 hs0 hs1 hts hlen h01
    fun h' tk' F' N' => ret h' tk' F' (news_tail (news_tail (news_tail (news_tail N'))))
end
end Mine
-- M3
local macro_rules | `(tactic| walk_at "call ref") => `(tactic| (k_here; (with_reducible show wpAny _ _ (call (Value.ref 252) _) _ _ _); k_dflt (first
  | (refine' Mine.append_newU ?k1 ?k2 ?k3 ?k4 ?k5 ?hk ?hd ?hu ?m1 ?m2 ?U ?he ?hn ?hl ?x ?y ?v ?_; (case k1 => k_asm); (case k2 => k_asm); (case k3 => k_asm); (case k4 => k_asm); (case k5 => k_asm); (case hk => exact rfl); (case hd => k_room); (case hu => k_units); (case m1 => k_mem); (case m2 => k_mem); (case he => k_get); (case U => k_updF); (case hn => assumption); (case hl => assumption); (case x => omega); (case y => omega); (case v => assumption); k_whole; intro d' o' no' h' tk' F' N' l1 hs' hd'; (try dsimp only at N'); (try simp only [AllLt, and_true] at l1); (try k_sweep))
  | (refine' Mine.append_oldU ?k1 ?k2 ?k3 ?k4 ?k5 ?hk ?hd ?hu ?m1 ?m2 ?m3 ?U ?V ?he ?hn ?hl ?hp ?x ?y ?z ?v ?_; (case k1 => k_asm); (case k2 => k_asm); (case k3 => k_asm); (case k4 => k_asm); (case k5 => k_asm); (case hk => exact rfl); (case hd => k_room); (case hu => k_units); (case m1 => k_mem); (case m2 => k_mem); (case he => k_get); (case m3 => k_mem); (case hn => assumption); (case hl => assumption); (case U => k_updF); (case V => (intro po9; (try dsimp only); k_updF)); (case hp => assumption); (case x => omega); (case y => omega); (case z => omega); (case v => assumption); k_whole; intro o' no' h' tk' F' N' hs' hd'; (try dsimp only at N'); (try k_sweep)))))
local macro_rules | `(tactic| walk_at "call ref") => `(tactic| (k_here; (with_reducible show wpAny _ _ (call (Value.ref 259) _) _ _ _); k_dflt (first
  | (refine' Mine.remove_noneU ?k1 ?k2 ?k3 ?k4 ?k5 ?hk ?hd ?m1 ?m2 ?m3 ?he ?hn ?hl ?_; (case k1 => k_asm); (case k2 => k_asm); (case k3 => k_asm); (case k4 => k_asm); (case k5 => k_asm); (case hk => exact rfl); (case hd => k_room); (case m1 => k_mem); (case m2 => k_mem); (case he => k_get); (case m3 => k_mem); (case hn => assumption); (case hl => assumption); k_whole; intro h' tk' F' N'; (try k_sweep))
  | (refine' Mine.remove_someU ?k1 ?k2 ?k3 ?k4 ?k5 ?hk ?hd ?m1 ?m2 ?m3 ?U ?V ?he ?hn ?hl ?hp ?x ?y ?z ?_; (case k1 => k_asm); (case k2 => k_asm); (case k3 => k_asm); (case k4 => k_asm); (case k5 => k_asm); (case hk => exact rfl); (case hd => k_room); (case m1 => k_mem); (case m2 => k_mem); (case he => k_get); (case m3 => k_mem); (case hn => assumption); (case hl => assumption); (case U => k_updF); (case V => (intro po9; (try dsimp only); k_updF)); (case hp => assumption); (case x => omega); (case y => omega); (case z => omega); k_whole; intro o' no' h' tk' F' N' hs' hd'; (try dsimp only at N'); (try k_sweep)))))
local macro_rules | `(tactic| walk_at "call ref") => `(tactic| (k_here; (with_reducible show wpAny _ _ (call (Value.ref 245) _) _ _ _); k_dflt (
  (refine' Mine.set_noteU ?k1 ?k2 ?k3 ?k4 ?k5 ?hk ?hd ?m1 ?m2 ?U ?he ?hn ?hv ?hl ?x ?y ?_; (case k1 => k_asm); (case k2 => k_asm); (case k3 => k_asm); (case k4 => k_asm); (case k5 => k_asm); (case hk => exact rfl); (case hd => k_room); (case m1 => k_mem); (case m2 => k_mem); (case he => k_get); (case U => k_updF); (case hn => assumption); (case hv => assumption); (case hl => assumption); (case x => omega); (case y => omega); k_whole; intro no' h' tk' F' N' hd'; (try dsimp only at N'); (try k_sweep)))))
local macro_rules | `(tactic| walk_at "call ref") => `(tactic| (k_here; (with_reducible show wpAny _ _ (call (Value.ref 392) _) _ _ _); k_dflt (first
  | (refine' Mine.token_noneU ?k1 ?k2 ?k3 ?k4 ?k5 ?hk ?hd ?hu ?m1 ?m2 ?m3 ?he ?e1 ?e2 ?e3 ?e4 ?e5 ?hn ?hl ?x ?y ?_; (case k1 => k_asm); (case k2 => k_asm); (case k3 => k_asm); (case k4 => k_asm); (case k5 => k_asm); (case hk => exact rfl); (case hd => k_room); (case hu => k_units); (case m1 => k_mem); (case m2 => k_mem); (case he => k_get); (case e1 => assumption); (case e2 => assumption); (case e3 => assumption); (case e4 => assumption); (case e5 => assumption); (case m3 => k_mem); (case hn => assumption); (case hl => assumption); (case x => omega); (case y => omega); k_whole; intro x' dx' es' c' p' po' h' tk' F' N' ht' l1 l2 l3 hs'; (try simp only [AllLt, and_true] at l1); (try k_sweep))
  | (refine' Mine.token_someU ?k1 ?k2 ?k3 ?k4 ?k5 ?hk ?hd ?hu ?m0 ?m1 ?m2 ?m3 ?he ?e1 ?e2 ?e3 ?e4 ?e5 ?hn ?hl ?hp ?x ?y ?z ?_; (case k1 => k_asm); (case k2 => k_asm); (case k3 => k_asm); (case k4 => k_asm); (case k5 => k_asm); (case hk => exact rfl); (case hd => k_room); (case hu => k_units); (case m1 => k_mem); (case m2 => k_mem); (case he => k_get); (case e1 => assumption); (case e2 => assumption); (case e3 => assumption); (case e4 => assumption); (case e5 => assumption); (case m3 => k_mem); (case hn => assumption); (case hl => assumption); (case m0 => k_mem); (case hp => assumption); (case x => omega); (case y => omega); (case z => omega); k_whole; intro x' dx' es' c' h' tk'; refine And.intro ?tz ?tn; (case' tz => (intro hz' p' po' F' N' ht' l1 l2 l3 hs'; (try simp only [AllLt, and_true] at l1); (try k_sweep))); (case' tn => (intro hz' F' N' ht' l1 l2; (try simp only [AllLt, and_true] at l1); (try k_sweep)))))))
local macro_rules | `(tactic| walk_at "call ref") => `(tactic| (k_here; (with_reducible show wpAny _ _ (call (Value.ref 410) _) _ _ _); k_dflt (
  (refine' Mine.nextU ?k1 ?k2 ?k3 ?k4 ?k5 ?hk ?hd ?hu ?U ?m1 ?i ?a ?b ?c ?l ?x ?_; (case k1 => k_asm); (case k2 => k_asm); (case k3 => k_asm); (case k4 => k_asm); (case k5 => k_asm); (case hk => exact rfl); (case hd => k_room); (case hu => k_units); (case U => k_updF); (case m1 => k_mem); (case i => assumption); (case a => omega); (case b => omega); (case c => assumption); (case l => omega); (case x => omega); k_whole; intro v' tv' t' h' tk' v0 v1 F' N'; (try dsimp only at N'); (try k_sweep)))))
theorem Mine.list_put {prog : Program} {w : World} {A : Around} {E : Value → Shared → Prop} {s : Shared} {h₀ : Heap} {L D : Addr} {m : Str → Option Value} {news news' : List (Addr × Obj)} {vs : List Value} {n : Nat} {k : Int} {t : Tok} {v : Value} {Q : Unit → Shared → Prop}
    (F : Fr h₀ L s.heap m) (N : News h₀ L s.heap news) (U : Upd D (listOf vs.toArray n) (listOf (vs.set k.toNat v).toArray n) news news') (h0 : 0 ≤ k) (h1 : k < vs.length) (hfit : k < 2 ^ 63)
    (h : ∀ h', Fr h₀ L h' m → News h₀ L h' news' → Q () { s with heap := h' }) : wpAny (model prog w) A (setItem (.ref D) (.int k t) v) Q E s := by
  obtain ⟨pre, post, rfl, rfl, a, b⟩ := U.split
  have z := N (D, listOf vs.toArray n) (List.mem_append.mpr (.inr (.head _)))
  have hs : vs.toArray.size = vs.length := by rw [List.size_toArray]
  have hj : k.toNat < vs.length := by omega
  refine ki_setAt z.1 h0 hfit (by omega) (h _ (F.change (Heap.SameBut.update ..) z.2.1 z.2.2) (ki_turn _ N a b ?_ ?_))
  · show vs.toArray.setIfInBounds k.toNat v = (vs.set k.toNat v).toArray
    apply Array.toList_inj.mp
    simp
  · simp
local macro_rules | `(tactic| walk_at "setItem ref int") => `(tactic| (k_here; (with_reducible show wpAny _ _ (setItem (Value.ref _) (Value.int _ _) _) _ _ _); k_dflt (refine' Mine.list_put ?k1 ?k2 ?k3 ?k5 ?k6 ?k7 ?_; (case k1 => k_asm); (case k2 => k_asm); (case k3 => k_upd); (case k5 => omega); (case k6 => (rename List.length _ = 2 => hL2; omega)); (case k7 => omega); k_whole); intro h' F' N'; (try k_sweep)))
-- S11
namespace Mine
section
variable {w : World} {A : Around} {E : Value → Shared → Prop} {s : Shared} {h₀ : Heap} {L l : Addr} {m : Str → Option Value} {news : List (Addr × Obj)} {v : Int} {t : Tok} {n : Nat}
theorem objU_one {so : Obj} {S' : Int → Bool} {n' : Nat} (hv : v ∈ U) (h : so.SetObjOf (intKind PP w) S' n') (e : ∀ k, S' k = SAdd SNil v k) (en : n' = 1) : ObjU w so (SAdd SNil v) := by
  have hS : S' = SAdd SNil v := funext e
  subst hS
  subst en
  have hc : cnt (SAdd SNil v) = 1 := by
    have h1 := cnt_add (S := SNil) hv
    have h0 : cnt SNil = 0 := rfl
    rw [h1, h0]; rfl
  refine ⟨by rw [hc]; exact h, fun k hk => ?_⟩
  have : k = v := by simpa [SAdd, SNil] using hk
  rw [this]; exact hv
theorem ku_setOf {Q : Value → Shared → Prop} (hh : A.handled = none) (F : Fr h₀ L s.heap m) (N : News h₀ L s.heap news) (hm : (l, listOf #[.int v t] n) ∈ news) (hv : v ∈ U)
    (h : ∀ D h' tk so, Fr h₀ L h' m → News h₀ L h' ((D, so) :: news) → (∀ p ∈ news, p.1 < D) → ObjU w so (SAdd SNil v) → Q (.ref D) { s with heap := h', toks := tk }) :
    wpAny (model PP w) A (call (.type "set") [.ref l]) Q E s := by
  have hl' : s.heap.IsList l #[.int v t] := ⟨_, (N _ hm).1, rfl, n, rfl⟩
  refine PySem.call_set_list (items := #[.int v t]) (ns := [v]) hh hl' (.cons v t .nil) (by show 1 + 1 < scanBound; decide) fun h' tk hS hk => ?_
  obtain ⟨o, ho, hso⟩ := hS.objOf
  obtain ⟨oL, _, _, hL, _⟩ := F.ns
  have hLlt : L < s.heap.objs.size := Heap.lt_size hL
  refine h s.heap.objs.size h' tk o ⟨F.ns.at' fun o' e => hk L o' hLlt e, fun b o' e => hk b o' (Heap.lt_size (F.keep b o' e)) (F.keep b o' e), F.above⟩ (fun p hp => ?_) (fun p hp => Heap.lt_size (N p hp).1) (objU_one hv hso ?_ ?_)
  · rcases List.mem_cons.mp hp with rfl | hp
    · refine ⟨ho, Nat.ne_of_gt hLlt, ?_⟩
      cases hq : h₀.get? s.heap.objs.size with
      | none => rfl
      | some o' => exact absurd (Heap.lt_size (F.keep _ _ hq)) (Nat.lt_irrefl _)
    · exact ⟨hk _ _ (Heap.lt_size (N p hp).1) (N p hp).1, (N p hp).2.1, (N p hp).2.2⟩
  · intro k
    show (firstMet _ 1).any _ = _
    rw [firstMet_succ, firstMet_zero]
    simp [step_dedup, SAdd, SNil, eq_comm, Bool.beq_eq_decide_eq]
  · show (firstMet _ 1).length = 1
    rw [firstMet_succ, firstMet_zero]
    rfl
theorem ku_len {so : Obj} {S : Int → Bool} {Q : Value → Shared → Prop} (N : News h₀ L s.heap news) (hm : (l, so) ∈ news) (ho : ObjU w so S) (h : Q (.int (cnt S) (s.toks + 1)) { s with toks := s.toks + 1 + 1 }) :
    wpAny (model PP w) A (call (.builtin "len") [.ref l]) Q E s := by
  obtain ⟨⟨hex, es, ep, t, hd, _, _, hn, hf⟩, _⟩ := ho
  have hc := cnt_le S
  have := call_len_set (prog := PP) (w := w) (A := A) (E := E) (Q := Q) (N _ hm).1 hex hd hf (by omega) (by rw [hn]; exact h)
  exact this
end
end Mine
local macro_rules | `(tactic| walk_at "call builtin:len") => `(tactic| (k_here; (with_reducible show wpAny _ _ (call (Value.builtin "len") [Value.ref _]) _ _ _); k_dflt (refine' Mine.ku_len ?N ?m ?o ?_; (case N => k_asm); (case m => k_mem); (case o => assumption)); k_whole))
local macro_rules | `(tactic| walk_at "call type:set cons nil") => `(tactic| (k_here; k_dflt (refine' Mine.ku_setOf ?a ?F ?N ?m ?v ?_; (case a => exact rfl); (case F => k_asm); (case N => k_asm); (case m => k_mem); (case v => first | assumption | decide); k_whole); intro d' h' tk' o' F' N' l1 hs'; (try k_lt l1); (try k_sweep)))
-- S10
namespace Mine
noncomputable def lawStmt : PySem.Stmt := PySem.Challenge.pw_bu5040_01.main.body.getLast?.getD (.Pass ⟨0, 0, 0, 0⟩)
noncomputable def lawBody : List PySem.Stmt := match lawStmt with
  | .FunctionDef (body := b) .. => b
  | _ => []
noncomputable def lawScope : Scope := match lawStmt with
  | .FunctionDef (scope := b) .. => b
  | _ => { kind := .module, names := [], isGenerator := false, isCoroutine := false, more := [] }
noncomputable def turnBody : List PySem.Stmt := match lawBody[5]? with
  | some (PySem.Stmt.For _ _ b _ _) => b
  | _ => []
noncomputable def turnStmt (i : Nat) : PySem.Stmt := (turnBody[i]?).getD (.Pass ⟨0, 0, 0, 0⟩)

/-- the law's names at a turn -/
abbrev lawMap (u : Str → Option Value) (lv tb tkl hl st : Addr) (pk wh v k : Int) (t1 t2 t3 t4 : Tok) : Str → Option Value := fun y =>
  if y = Str.ofString "leaves" then some (.ref lv) else if y = Str.ofString "table" then some (.ref tb) else if y = Str.ofString "tokens" then some (.ref tkl) else if y = Str.ofString "held" then some (.ref hl) else if y = Str.ofString "state" then some (.ref st)
  else if y = Str.ofString "pick" then some (.int pk t1) else if y = Str.ofString "where" then some (.int wh t2) else if y = Str.ofString "value" then some (.int v t3) else if y = Str.ofString "k" then some (.int k t4) else u y
section
variable {w : World} {mean : ExcName → Option Value} {mg mb : Str → Option Value} {E : Value → Shared → Prop} {Q : Flow → Shared → Prop} {s : Shared} {fa L : Addr} {ccd : Value} {A₀ : Around} {base h₀ : Heap} {u : Str → Option Value}
  {rest : List (Addr × Obj)} {lv tb tkl hl st a d n p q : Addr} {es : List DictEntry} {c nlv ntb ntk nhl : Nat} {no po qo : Obj} {pk wh v k : Int} {t1 t2 t3 t4 : Tok} {S : Int → Bool} {lvs tvs : List Value}

set_option maxHeartbeats 4000000 in
theorem blk0_none (B : Below A₀ base [] h₀) (F : Fr h₀ L s.heap (lawMap u lv tb tkl hl st 0 wh v k t1 t2 t3 t4)) (X : (hd.heap_39 w.params).In h₀) (T : Top hd.view_39 LS mean mg mb h₀)
    (N : News h₀ L s.heap ((tb, listOf tvs.toArray ntb) :: (lv, listOf lvs.toArray nlv) :: (n, no) :: (a, instObj 214 d) :: (d, dictOf es c) :: rest))
    (hes : getL (Str.ofString "notes") es = some (some (.ref n))) (hlo : (n == sysModules) = false) (hno : no.IsDictOf (strKind PP w) []) (hlvs : lvs[k.toNat]? = some (.ref a)) (hlen : tvs.length = 2) (k0 : 0 ≤ k) (k2 : k < 2) (hv : v ∈ U) (htvs : tvs[k.toNat]? = some .none) (o1 : @LT.lt Nat _ d a) (o2 : @LT.lt Nat _ a n) (o3 : @LT.lt Nat _ n lv) (o4 : @LT.lt Nat _ lv tb) (hoff : OwnOff rest [tb, lv, n, a, d])
    (ret : ∀ p po q qo no' h' tk', Fr h₀ L h' (lawMap u lv tb tkl hl st 0 wh v k t1 t2 t3 t4) → News h₀ L h' ((q, qo) :: (p, po) :: (tb, listOf (tvs.set k.toNat (.ref q)).toArray ntb) :: (lv, listOf lvs.toArray nlv) :: (n, no') :: (a, instObj 214 d) :: (d, dictOf es c) :: rest) → (@LT.lt Nat _ tb p ∧ @LT.lt Nat _ lv p ∧ @LT.lt Nat _ n p ∧ @LT.lt Nat _ a p ∧ @LT.lt Nat _ d p ∧ AllLt p rest) → @LT.lt Nat _ p q → ObjU w po (SAdd SNil v) → ObjU w qo (SAdd SNil v) → no'.IsDictOf (strKind PP w) [(SubKey, .ref p)] → Q .next { s with heap := h', toks := tk' }) :
  wpAny (model PP w) (callerA.deeper (envOf (Str.ofString "law") lawScope L fa ccd)) (exec (turnStmt 4) (envOf (Str.ofString "law") lawScope L fa ccd)) Q E s := by
  simp only [turnStmt, turnBody, lawBody, lawScope, lawStmt, PySem.Challenge.pw_bu5040_01, List.getLast?, List.getLast, Option.getD, List.getElem?_cons_succ, List.getElem?_cons_zero]
  k_steps
  exact ret _ _ _ _ _ _ _ (by assumption) (by assumption) (by assumption) (by omega) (by assumption) (by assumption) (by assumption)

set_option maxHeartbeats 4000000 in
theorem blk0_some (B : Below A₀ base [] h₀) (F : Fr h₀ L s.heap (lawMap u lv tb tkl hl st 0 wh v k t1 t2 t3 t4)) (X : (hd.heap_39 w.params).In h₀) (T : Top hd.view_39 LS mean mg mb h₀)
    (N : News h₀ L s.heap ((p, po) :: (q, qo) :: (tb, listOf tvs.toArray ntb) :: (lv, listOf lvs.toArray nlv) :: (n, no) :: (a, instObj 214 d) :: (d, dictOf es c) :: rest))
    (hes : getL (Str.ofString "notes") es = some (some (.ref n))) (hlo : (n == sysModules) = false) (hno : no.IsDictOf (strKind PP w) [(SubKey, .ref p)]) (hlvs : lvs[k.toNat]? = some (.ref a)) (hlen : tvs.length = 2) (k0 : 0 ≤ k) (k2 : k < 2) (hv : v ∈ U) (htvs : tvs[k.toNat]? = some (.ref q)) (o1 : @LT.lt Nat _ d a) (o2 : @LT.lt Nat _ a n) (o3 : @LT.lt Nat _ n lv) (o4 : @LT.lt Nat _ lv tb) (hpo : ObjU w po S) (hqo : ObjU w qo S) (o5 : @LT.lt Nat _ tb p) (o7 : @LT.lt Nat _ p q) (hoff : OwnOff rest [p, q, tb, lv, n, a, d])
    (ret : ∀ po' qo' no' h' tk', Fr h₀ L h' (lawMap u lv tb tkl hl st 0 wh v k t1 t2 t3 t4) → News h₀ L h' ((p, po') :: (q, qo') :: (tb, listOf tvs.toArray ntb) :: (lv, listOf lvs.toArray nlv) :: (n, no') :: (a, instObj 214 d) :: (d, dictOf es c) :: rest) → ObjU w po' (SAdd S v) → ObjU w qo' (SAdd S v) → no'.IsDictOf (strKind PP w) [(SubKey, .ref p)] → Q .next { s with heap := h', toks := tk' }) :
  wpAny (model PP w) (callerA.deeper (envOf (Str.ofString "law") lawScope L fa ccd)) (exec (turnStmt 4) (envOf (Str.ofString "law") lawScope L fa ccd)) Q E s := by
  simp only [turnStmt, turnBody, lawBody, lawScope, lawStmt, PySem.Challenge.pw_bu5040_01, List.getLast?, List.getLast, Option.getD, List.getElem?_cons_succ, List.getElem?_cons_zero]
  k_steps
  exact ret _ _ _ _ _ (by assumption) (by assumption) (by assumption) (by assumption) (by assumption)

set_option maxHeartbeats 4000000 in
theorem blk1_none (B : Below A₀ base [] h₀) (F : Fr h₀ L s.heap (lawMap u lv tb tkl hl st 1 wh v k t1 t2 t3 t4)) (X : (hd.heap_39 w.params).In h₀) (T : Top hd.view_39 LS mean mg mb h₀)
    (N : News h₀ L s.heap ((tb, listOf tvs.toArray ntb) :: (lv, listOf lvs.toArray nlv) :: (n, no) :: (a, instObj 214 d) :: (d, dictOf es c) :: rest))
    (hes : getL (Str.ofString "notes") es = some (some (.ref n))) (hlo : (n == sysModules) = false) (hno : no.IsDictOf (strKind PP w) []) (hlvs : lvs[k.toNat]? = some (.ref a)) (hlen : tvs.length = 2) (k0 : 0 ≤ k) (k2 : k < 2) (htvs : tvs[k.toNat]? = some .none) (o1 : @LT.lt Nat _ d a) (o2 : @LT.lt Nat _ a n) (o3 : @LT.lt Nat _ n lv) (o4 : @LT.lt Nat _ lv tb) (hoff : OwnOff rest [tb, lv, n, a, d])
    (ret : ∀ h' tk', Fr h₀ L h' (lawMap u lv tb tkl hl st 1 wh v k t1 t2 t3 t4) → News h₀ L h' ((tb, listOf tvs.toArray ntb) :: (lv, listOf lvs.toArray nlv) :: (n, no) :: (a, instObj 214 d) :: (d, dictOf es c) :: rest) → Q .next { s with heap := h', toks := tk' }) :
  wpAny (model PP w) (callerA.deeper (envOf (Str.ofString "law") lawScope L fa ccd)) (exec (turnStmt 5) (envOf (Str.ofString "law") lawScope L fa ccd)) Q E s := by
  simp only [turnStmt, turnBody, lawBody, lawScope, lawStmt, PySem.Challenge.pw_bu5040_01, List.getLast?, List.getLast, Option.getD, List.getElem?_cons_succ, List.getElem?_cons_zero]
  k_steps
  exact ret _ _ (by assumption) (by assumption)

set_option maxHeartbeats 4000000 in
theorem blk1_some (B : Below A₀ base [] h₀) (F : Fr h₀ L s.heap (lawMap u lv tb tkl hl st 1 wh v k t1 t2 t3 t4)) (X : (hd.heap_39 w.params).In h₀) (T : Top hd.view_39 LS mean mg mb h₀)
    (N : News h₀ L s.heap ((p, po) :: (q, qo) :: (tb, listOf tvs.toArray ntb) :: (lv, listOf lvs.toArray nlv) :: (n, no) :: (a, instObj 214 d) :: (d, dictOf es c) :: rest))
    (hes : getL (Str.ofString "notes") es = some (some (.ref n))) (hlo : (n == sysModules) = false) (hno : no.IsDictOf (strKind PP w) [(SubKey, .ref p)]) (hlvs : lvs[k.toNat]? = some (.ref a)) (hlen : tvs.length = 2) (k0 : 0 ≤ k) (k2 : k < 2) (htvs : tvs[k.toNat]? = some (.ref q)) (o1 : @LT.lt Nat _ d a) (o2 : @LT.lt Nat _ a n) (o3 : @LT.lt Nat _ n lv) (o4 : @LT.lt Nat _ lv tb) (hpo : ObjU w po S) (hqo : ObjU w qo S) (o5 : @LT.lt Nat _ tb p) (o7 : @LT.lt Nat _ p q) (hoff : OwnOff rest [p, q, tb, lv, n, a, d])
    (ret : ∀ po' qo' no' h' tk', Fr h₀ L h' (lawMap u lv tb tkl hl st 1 wh v k t1 t2 t3 t4) → News h₀ L h' ((p, po') :: (q, qo') :: (tb, listOf tvs.toArray ntb) :: (lv, listOf lvs.toArray nlv) :: (n, no') :: (a, instObj 214 d) :: (d, dictOf es c) :: rest) → ObjU w po' (SSub S v) → ObjU w qo' (SSub S v) → no'.IsDictOf (strKind PP w) [(SubKey, .ref p)] → Q .next { s with heap := h', toks := tk' }) :
  wpAny (model PP w) (callerA.deeper (envOf (Str.ofString "law") lawScope L fa ccd)) (exec (turnStmt 5) (envOf (Str.ofString "law") lawScope L fa ccd)) Q E s := by
  simp only [turnStmt, turnBody, lawBody, lawScope, lawStmt, PySem.Challenge.pw_bu5040_01, List.getLast?, List.getLast, Option.getD, List.getElem?_cons_succ, List.getElem?_cons_zero]
  k_steps
  exact ret _ _ _ _ _ (by assumption) (by assumption) (by assumption) (by assumption) (by assumption)

end
end Mine
-- S12
namespace Mine
theorem news_drop2nd {h₀ h : Heap} {L : Addr} {a b : Addr × Obj} {r : List (Addr × Obj)} (N : News h₀ L h (a :: b :: r)) : News h₀ L h (a :: r) := fun x hx =>
  N x ((List.mem_cons.mp hx).elim (fun e => by rw [e]; exact List.Mem.head _) fun e => List.Mem.tail _ (List.Mem.tail _ e))
theorem news_drop24 {h₀ h : Heap} {L : Addr} {a b c d : Addr × Obj} {r : List (Addr × Obj)} (N : News h₀ L h (a :: b :: c :: d :: r)) : News h₀ L h (a :: c :: r) := fun x hx => by
  rcases List.mem_cons.mp hx with rfl | hx
  · exact N _ (.head _)
  rcases List.mem_cons.mp hx with rfl | hx
  · exact N _ (.tail _ (.tail _ (.head _)))
  exact N _ (.tail _ (.tail _ (.tail _ (.tail _ hx))))
section
variable {w : World} {mean : ExcName → Option Value} {mg mb : Str → Option Value} {E : Value → Shared → Prop} {Q : Flow → Shared → Prop} {s : Shared} {fa L : Addr} {ccd : Value} {A₀ : Around} {base h₀ : Heap} {u : Str → Option Value}
  {rest : List (Addr × Obj)} {lv tb tkl hl st a d n p q : Addr} {es : List DictEntry} {c nlv ntb ntk nhl : Nat} {no po qo : Obj} {pk wh v k : Int} {t1 t2 t3 t4 : Tok} {S : Int → Bool} {lvs tvs tls hls : List Value} {lx : Str} {ty tv : Tok} {kvs : List (Str × Value)}

set_option maxHeartbeats 4000000 in
theorem blk2_none (B : Below A₀ base [] h₀) (F : Fr h₀ L s.heap (lawMap u lv tb tkl hl st 2 wh v k t1 t2 t3 t4)) (X : (hd.heap_39 w.params).In h₀) (T : Top hd.view_39 LS mean mg mb h₀)
    (N : News h₀ L s.heap ((hl, listOf hls.toArray nhl) :: (tkl, listOf tls.toArray ntk) :: (tb, listOf tvs.toArray ntb) :: (lv, listOf lvs.toArray nlv) :: (n, no) :: (a, instObj 214 d) :: (d, dictOf es c) :: rest))
    (hes : getL (Str.ofString "notes") es = some (some (.ref n))) (hlo : (n == sysModules) = false) (hty : getL (Str.ofString "type") es = some (some (.int 1 ty))) (hva : getL (Str.ofString "value") es = some (some (.str lx tv))) (hco : getL (Str.ofString "column") es = some none) (hli : getL (Str.ofString "lineno") es = some none) (hps : getL (Str.ofString "is_pseudo") es = some none) (hno : no.IsDictOf (strKind PP w) []) (hlvs : lvs[k.toNat]? = some (.ref a)) (hlen : tvs.length = 2) (k0 : 0 ≤ k) (k2 : k < 2) (htvs : tvs[k.toNat]? = some .none) (o1 : @LT.lt Nat _ d a) (o2 : @LT.lt Nat _ a n) (o3 : @LT.lt Nat _ n lv) (o4 : @LT.lt Nat _ lv tb) (o8 : @LT.lt Nat _ tb tkl) (o9 : @LT.lt Nat _ tkl hl) (hlt : tls.length ≤ 12) (hlh : hls.length ≤ 12) (hoff : OwnOff rest [hl, tkl, tb, lv, n, a, d])
    (ret : ∀ x dx es' c' p' po' q' qo' h' tk', Fr h₀ L h' (lawMap u lv tb tkl hl st 2 wh v k t1 t2 t3 t4) → News h₀ L h' ((q', qo') :: (p', po') :: (x, instObj 392 dx) :: (dx, dictOf es' c') :: (hl, listOf (hls ++ [Value.ref q']).toArray (nhl + 1)) :: (tkl, listOf (tls ++ [Value.ref x]).toArray (ntk + 1)) :: (tb, listOf tvs.toArray ntb) :: (lv, listOf lvs.toArray nlv) :: (n, no) :: (a, instObj 214 d) :: (d, dictOf es c) :: rest) → TokEs es' a p' → (@LT.lt Nat _ hl dx ∧ @LT.lt Nat _ tkl dx ∧ @LT.lt Nat _ tb dx ∧ @LT.lt Nat _ lv dx ∧ @LT.lt Nat _ n dx ∧ @LT.lt Nat _ a dx ∧ @LT.lt Nat _ d dx ∧ AllLt dx rest) → @LT.lt Nat _ dx x → @LT.lt Nat _ x p' → @LT.lt Nat _ p' q' → ObjU w po' (SAdd SNil 0) → ObjU w qo' (SAdd SNil 0) → Q .next { s with heap := h', toks := tk' }) :
  wpAny (model PP w) (callerA.deeper (envOf (Str.ofString "law") lawScope L fa ccd)) (exec (turnStmt 6) (envOf (Str.ofString "law") lawScope L fa ccd)) Q E s := by
  simp only [turnStmt, turnBody, lawBody, lawScope, lawStmt, PySem.Challenge.pw_bu5040_01, List.getLast?, List.getLast, Option.getD, List.getElem?_cons_succ, List.getElem?_cons_zero]
  k_steps
  exact ret _ _ _ _ _ _ _ _ _ _ (by assumption) (by (rename News _ _ _ _ => lN); (simp only [List.push_toArray] at lN); exact news_drop2nd lN) (by assumption) (by assumption) (by assumption) (by assumption) (by omega) (by assumption) (by assumption)

set_option maxHeartbeats 4000000 in
theorem blk2_some (B : Below A₀ base [] h₀) (F : Fr h₀ L s.heap (lawMap u lv tb tkl hl st 2 wh v k t1 t2 t3 t4)) (X : (hd.heap_39 w.params).In h₀) (T : Top hd.view_39 LS mean mg mb h₀)
    (N : News h₀ L s.heap ((p, po) :: (q, qo) :: (hl, listOf hls.toArray nhl) :: (tkl, listOf tls.toArray ntk) :: (tb, listOf tvs.toArray ntb) :: (lv, listOf lvs.toArray nlv) :: (n, no) :: (a, instObj 214 d) :: (d, dictOf es c) :: rest))
    (hes : getL (Str.ofString "notes") es = some (some (.ref n))) (hlo : (n == sysModules) = false) (hty : getL (Str.ofString "type") es = some (some (.int 1 ty))) (hva : getL (Str.ofString "value") es = some (some (.str lx tv))) (hco : getL (Str.ofString "column") es = some none) (hli : getL (Str.ofString "lineno") es = some none) (hps : getL (Str.ofString "is_pseudo") es = some none) (hno : no.IsDictOf (strKind PP w) [(SubKey, .ref p)]) (hlvs : lvs[k.toNat]? = some (.ref a)) (hlen : tvs.length = 2) (k0 : 0 ≤ k) (k2 : k < 2) (htvs : tvs[k.toNat]? = some (.ref q)) (o1 : @LT.lt Nat _ d a) (o2 : @LT.lt Nat _ a n) (o3 : @LT.lt Nat _ n lv) (o4 : @LT.lt Nat _ lv tb) (o8 : @LT.lt Nat _ tb tkl) (o9 : @LT.lt Nat _ tkl hl) (hlt : tls.length ≤ 12) (hlh : hls.length ≤ 12) (hpo : ObjU w po S) (hqo : ObjU w qo S) (o5 : @LT.lt Nat _ hl p) (o7 : @LT.lt Nat _ p q) (hoff : OwnOff rest [p, q, hl, tkl, tb, lv, n, a, d])
    (ret0 : ∀ x dx es' c' p' po' q' qo' h' tk', cnt S = 0 → Fr h₀ L h' (lawMap u lv tb tkl hl st 2 wh v k t1 t2 t3 t4) → News h₀ L h' ((q', qo') :: (p', po') :: (x, instObj 392 dx) :: (dx, dictOf es' c') :: (p, po) :: (q, qo) :: (hl, listOf (hls ++ [Value.ref q']).toArray (nhl + 1)) :: (tkl, listOf (tls ++ [Value.ref x]).toArray (ntk + 1)) :: (tb, listOf tvs.toArray ntb) :: (lv, listOf lvs.toArray nlv) :: (n, no) :: (a, instObj 214 d) :: (d, dictOf es c) :: rest) → TokEs es' a p' → (@LT.lt Nat _ p dx ∧ @LT.lt Nat _ q dx ∧ @LT.lt Nat _ hl dx ∧ @LT.lt Nat _ tkl dx ∧ @LT.lt Nat _ tb dx ∧ @LT.lt Nat _ lv dx ∧ @LT.lt Nat _ n dx ∧ @LT.lt Nat _ a dx ∧ @LT.lt Nat _ d dx ∧ AllLt dx rest) → @LT.lt Nat _ dx x → @LT.lt Nat _ x p' → @LT.lt Nat _ p' q' → ObjU w po' (SAdd SNil 0) → ObjU w qo' (SAdd SNil 0) → Q .next { s with heap := h', toks := tk' })
    (ret1 : ∀ x dx es' c' h' tk', Fr h₀ L h' (lawMap u lv tb tkl hl st 2 wh v k t1 t2 t3 t4) → News h₀ L h' ((x, instObj 392 dx) :: (dx, dictOf es' c') :: (p, po) :: (q, qo) :: (hl, listOf (hls ++ [Value.ref q]).toArray (nhl + 1)) :: (tkl, listOf (tls ++ [Value.ref x]).toArray (ntk + 1)) :: (tb, listOf tvs.toArray ntb) :: (lv, listOf lvs.toArray nlv) :: (n, no) :: (a, instObj 214 d) :: (d, dictOf es c) :: rest) → TokEs es' a p → (@LT.lt Nat _ p dx ∧ @LT.lt Nat _ q dx ∧ @LT.lt Nat _ hl dx ∧ @LT.lt Nat _ tkl dx ∧ @LT.lt Nat _ tb dx ∧ @LT.lt Nat _ lv dx ∧ @LT.lt Nat _ n dx ∧ @LT.lt Nat _ a dx ∧ @LT.lt Nat _ d dx ∧ AllLt dx rest) → @LT.lt Nat _ dx x → Q .next { s with heap := h', toks := tk' }) :
  wpAny (model PP w) (callerA.deeper (envOf (Str.ofString "law") lawScope L fa ccd)) (exec (turnStmt 6) (envOf (Str.ofString "law") lawScope L fa ccd)) Q E s := by
  simp only [turnStmt, turnBody, lawBody, lawScope, lawStmt, PySem.Challenge.pw_bu5040_01, List.getLast?, List.getLast, Option.getD, List.getElem?_cons_succ, List.getElem?_cons_zero]
  k_steps
  all_goals first
    | exact ret1 _ _ _ _ _ _ (by assumption) (by (rename News _ _ _ _ => lN); (simp only [List.push_toArray] at lN); exact lN) (by assumption) (by assumption) (by assumption)
    | exact ret0 _ _ _ _ _ _ _ _ _ _ (by assumption) (by assumption) (by (rename News _ _ _ _ => lN); (simp only [List.push_toArray] at lN); exact news_drop2nd lN) (by assumption) (by assumption) (by assumption) (by assumption) (by omega) (by assumption) (by assumption)

set_option maxHeartbeats 4000000 in
theorem blk4 (B : Below A₀ base [] h₀) (F : Fr h₀ L s.heap (lawMap u lv tb tkl hl st 4 wh v k t1 t2 t3 t4)) (X : (hd.heap_39 w.params).In h₀) (T : Top hd.view_39 LS mean mg mb h₀)
    (N : News h₀ L s.heap ((tb, listOf tvs.toArray ntb) :: (lv, listOf lvs.toArray nlv) :: (n, no) :: (a, instObj 214 d) :: (d, dictOf es c) :: rest))
    (hes : getL (Str.ofString "notes") es = some (some (.ref n))) (hlo : (n == sysModules) = false) (hno : no.IsDictOf (strKind PP w) kvs) (hkv : kvs = [] ∨ ∃ u, kvs = [(SubKey, u)]) (hlvs : lvs[k.toNat]? = some (.ref a)) (hlen : tvs.length = 2) (k0 : 0 ≤ k) (k2 : k < 2) (hv : v ∈ U) (o1 : @LT.lt Nat _ d a) (o2 : @LT.lt Nat _ a n) (o3 : @LT.lt Nat _ n lv) (o4 : @LT.lt Nat _ lv tb) (hoff : OwnOff rest [tb, lv, n, a, d])
    (ret : ∀ p po q qo no' h' tk', Fr h₀ L h' (lawMap u lv tb tkl hl st 4 wh v k t1 t2 t3 t4) → News h₀ L h' ((q, qo) :: (p, po) :: (tb, listOf (tvs.set k.toNat (.ref q)).toArray ntb) :: (lv, listOf lvs.toArray nlv) :: (n, no') :: (a, instObj 214 d) :: (d, dictOf es c) :: rest) → (@LT.lt Nat _ tb p ∧ @LT.lt Nat _ lv p ∧ @LT.lt Nat _ n p ∧ @LT.lt Nat _ a p ∧ @LT.lt Nat _ d p ∧ AllLt p rest) → @LT.lt Nat _ p q → ObjU w po (SAdd SNil v) → ObjU w qo (SAdd SNil v) → no'.IsDictOf (strKind PP w) [(SubKey, .ref p)] → Q .next { s with heap := h', toks := tk' }) :
  wpAny (model PP w) (callerA.deeper (envOf (Str.ofString "law") lawScope L fa ccd)) (exec (turnStmt 8) (envOf (Str.ofString "law") lawScope L fa ccd)) Q E s := by
  simp only [turnStmt, turnBody, lawBody, lawScope, lawStmt, PySem.Challenge.pw_bu5040_01, List.getLast?, List.getLast, Option.getD, List.getElem?_cons_succ, List.getElem?_cons_zero]
  k_steps
  exact ret _ _ _ _ _ _ _ (by assumption) (news_drop24 (by assumption)) (And.right (by assumption)) (by omega) (by assumption) (by assumption) (by assumption)

end
end Mine
-- S13
local macro_rules | `(tactic| walk_at "call builtin:len") => `(tactic| (k_here; (with_reducible show wpAny _ _ (call (Value.builtin "len") [Value.ref _]) _ _ _); k_dflt (refine' kst_len ?k1 ?k2 ?k3 ?k4 ?_; (case k1 => k_asm); (case k2 => k_mem); (case k3 => exact rfl); (case k4 => omega)); k_whole))
local macro_rules | `(tactic| walk_at "subscriptTail Name BinOp ref int") => `(tactic| (k_here; (with_unfolding_all refine' Mine.item_at ?N ?m ?x ?a ?b ?_ ?s; (case N => k_asm); (case m => k_mem); (case x => assumption); (case a => omega); (case b => omega); (case s => with_unfolding_all rfl); k_whole)))
namespace Mine
section
variable {w : World} {mean : ExcName → Option Value} {mg mb : Str → Option Value} {E : Value → Shared → Prop} {Q : Flow → Shared → Prop} {s : Shared} {fa L : Addr} {ccd : Value} {A₀ : Around} {base h₀ : Heap} {u : Str → Option Value}
  {rest : List (Addr × Obj)} {lv tb tkl hl st a d n p q : Addr} {es : List DictEntry} {c nlv ntb ntk nhl : Nat} {no po qo : Obj} {pk wh v k : Int} {t1 t2 t3 t4 : Tok} {S : Int → Bool} {lvs tvs tls hls : List Value} {lx : Str} {ty tv : Tok} {x dx : Addr} {kvs : List (Str × Value)}

set_option maxHeartbeats 4000000 in
theorem blk3_empty (B : Below A₀ base [] h₀) (F : Fr h₀ L s.heap (lawMap u lv tb tkl hl st 3 wh v k t1 t2 t3 t4)) (X : (hd.heap_39 w.params).In h₀) (T : Top hd.view_39 LS mean mg mb h₀)
    (N : News h₀ L s.heap ((tkl, listOf tls.toArray ntk) :: rest))
    (hlt : tls.length = 0)
    (ret : ∀ h' tk', Fr h₀ L h' (lawMap u lv tb tkl hl st 3 wh v k t1 t2 t3 t4) → News h₀ L h' ((tkl, listOf tls.toArray ntk) :: rest) → Q .next { s with heap := h', toks := tk' }) :
  wpAny (model PP w) (callerA.deeper (envOf (Str.ofString "law") lawScope L fa ccd)) (exec (turnStmt 7) (envOf (Str.ofString "law") lawScope L fa ccd)) Q E s := by
  simp only [turnStmt, turnBody, lawBody, lawScope, lawStmt, PySem.Challenge.pw_bu5040_01, List.getLast?, List.getLast, Option.getD, List.getElem?_cons_succ, List.getElem?_cons_zero]
  k_steps
  all_goals exact ret _ _ (by assumption) (by assumption)

set_option maxHeartbeats 4000000 in
theorem blk3_some (B : Below A₀ base [] h₀) (F : Fr h₀ L s.heap (lawMap u lv tb tkl hl st 3 wh v k t1 t2 t3 t4)) (X : (hd.heap_39 w.params).In h₀) (T : Top hd.view_39 LS mean mg mb h₀)
    (N : News h₀ L s.heap ((p, po) :: (q, qo) :: (x, instObj 392 dx) :: (dx, dictOf es c) :: (hl, listOf hls.toArray nhl) :: (tkl, listOf tls.toArray ntk) :: rest))
    (hlt : tls.length ≤ 12) (hpos : 0 < tls.length) (j0 : 0 ≤ wh.fmod (tls.length : Int)) (j1 : wh.fmod (tls.length : Int) < 12) (hx : tls[(wh.fmod (tls.length : Int)).toNat]? = some (.ref x)) (hq : hls[(wh.fmod (tls.length : Int)).toNat]? = some (.ref q)) (hes : TokEs es a p) (hv : v ∈ U) (hpo : ObjU w po S) (hqo : ObjU w qo S) (o1 : @LT.lt Nat _ tkl hl) (o3 : @LT.lt Nat _ dx x) (o4 : @LT.lt Nat _ hl dx) (o5 : @LT.lt Nat _ hl p) (o7 : @LT.lt Nat _ p q) (o8 : @Ne Nat x p) (o9 : @Ne Nat x q) (o10 : @Ne Nat dx p) (o11 : @Ne Nat dx q) (hoff : OwnOff rest [p, q, x, dx, hl, tkl])
    (ret : ∀ po' qo' h' tk', Fr h₀ L h' (lawMap u lv tb tkl hl st 3 wh v k t1 t2 t3 t4) → News h₀ L h' ((p, po') :: (q, qo') :: (x, instObj 392 dx) :: (dx, dictOf es c) :: (hl, listOf hls.toArray nhl) :: (tkl, listOf tls.toArray ntk) :: rest) → ObjU w po' (SAdd S v) → ObjU w qo' (SAdd S v) → Q .next { s with heap := h', toks := tk' }) :
  wpAny (model PP w) (callerA.deeper (envOf (Str.ofString "law") lawScope L fa ccd)) (exec (turnStmt 7) (envOf (Str.ofString "law") lawScope L fa ccd)) Q E s := by
  simp only [turnStmt, turnBody, lawBody, lawScope, lawStmt, PySem.Challenge.pw_bu5040_01, List.getLast?, List.getLast, Option.getD, List.getElem?_cons_succ, List.getElem?_cons_zero]
  obtain ⟨hnode, hsub, hadd⟩ := hes
  k_steps
  exact ret _ _ _ _ (by assumption) (by assumption) (by assumption) (by assumption)

end
end Mine
-- S14
namespace Mine
theorem fr_law {h₀ h : Heap} {L : Addr} {m : Str → Option Value} {lv tb tkl hl st : Addr} {pk wh v k : Int} {t1 t2 t3 t4 : Tok} (F : Fr h₀ L h m)
    (e0 : m (Str.ofString "leaves") = some (.ref lv)) (e1 : m (Str.ofString "table") = some (.ref tb)) (e2 : m (Str.ofString "tokens") = some (.ref tkl)) (e3 : m (Str.ofString "held") = some (.ref hl)) (e4 : m (Str.ofString "state") = some (.ref st)) (e5 : m (Str.ofString "pick") = some (.int pk t1)) (e6 : m (Str.ofString "where") = some (.int wh t2)) (e7 : m (Str.ofString "value") = some (.int v t3)) (e8 : m (Str.ofString "k") = some (.int k t4)) : Fr h₀ L h (lawMap m lv tb tkl hl st pk wh v k t1 t2 t3 t4) := by
  have e : lawMap m lv tb tkl hl st pk wh v k t1 t2 t3 t4 = m := funext fun y => by
    unfold lawMap
    split
    · next h => rw [h, e0]
    split
    · next h => rw [h, e1]
    split
    · next h => rw [h, e2]
    split
    · next h => rw [h, e3]
    split
    · next h => rw [h, e4]
    split
    · next h => rw [h, e5]
    split
    · next h => rw [h, e6]
    split
    · next h => rw [h, e7]
    split
    · next h => rw [h, e8]
    rfl
  rw [e]; exact F
theorem menu_in {k : Int} (h0 : 0 ≤ k) (h5 : k < 5) : ([1, 2, 3, 22, 0] : List Int).getD k.toNat 0 ∈ U := by
  have hk : k = 0 ∨ k = 1 ∨ k = 2 ∨ k = 3 ∨ k = 4 := by omega
  rcases hk with rfl | rfl | rfl | rfl | rfl <;> decide
section
variable {w : World} {mean : ExcName → Option Value} {mg mb : Str → Option Value} {E : Value → Shared → Prop} {Q : Flow → Shared → Prop} {s : Shared} {fa L : Addr} {ccd : Value} {A₀ : Around} {base h₀ : Heap} {u m : Str → Option Value}
  {rest news : List (Addr × Obj)} {lv tb tkl hl st sc : Addr} {pk wh v k i : Int} {t t1 t2 t3 t4 : Tok} {vs : List Value} {ns : List Int} {n n' : Nat}

set_option maxHeartbeats 4000000 in
theorem draws (B : Below A₀ base [] h₀) (F : Fr h₀ L s.heap (fun y => if y = Str.ofString "leaves" then some (.ref lv) else if y = Str.ofString "table" then some (.ref tb) else if y = Str.ofString "tokens" then some (.ref tkl) else if y = Str.ofString "held" then some (.ref hl) else if y = Str.ofString "state" then some (.ref st) else u y)) (X : (hd.heap_39 w.params).In h₀) (T : Top hd.view_39 LS mean mg mb h₀)
    (N : News h₀ L s.heap ((st, listOf #[.ref sc, .int i t] n) :: (sc, listOf vs.toArray n') :: rest))
    (hi : IntsAre vs ns) (h0 : 0 ≤ i) (h1 : i ≤ 90) (hlen : ns.length ≤ 60) (had : @LT.lt Nat _ sc st) (hoff : OwnOff rest [st, sc])
    {ss : List PySem.Stmt}
    (ret : ∀ u' pk wh v k t1 t2 t3 t4 t' h' tk', 0 ≤ pk → pk < 5 → 0 ≤ wh → wh < 12 → v ∈ U → k = wh.fmod 2 → Fr h₀ L h' (lawMap u' lv tb tkl hl st pk wh v k t1 t2 t3 t4) → News h₀ L h' ((st, listOf #[.ref sc, .int (i + 3) t'] n) :: (sc, listOf vs.toArray n') :: rest) →
      wpAny (model PP w) (callerA.deeper (envOf (Str.ofString "law") lawScope L fa ccd)) (execs ss (envOf (Str.ofString "law") lawScope L fa ccd)) Q E { s with heap := h', toks := tk' }) :
  wpAny (model PP w) (callerA.deeper (envOf (Str.ofString "law") lawScope L fa ccd)) (execs (turnStmt 0 :: turnStmt 1 :: turnStmt 2 :: turnStmt 3 :: ss) (envOf (Str.ofString "law") lawScope L fa ccd)) Q E s := by
  simp only [turnStmt, turnBody, lawBody, lawScope, lawStmt, PySem.Challenge.pw_bu5040_01, List.getLast?, List.getLast, Option.getD, List.getElem?_cons_succ, List.getElem?_cons_zero]
  simp only [turnStmt, turnBody, lawBody, lawScope, lawStmt, PySem.Challenge.pw_bu5040_01, List.getLast?, List.getLast, Option.getD, List.getElem?_cons_succ, List.getElem?_cons_zero] at ret
  k_steps
  (rename News _ _ _ _ => lN)
  have e : i + 1 + 1 + 1 = i + 3 := by omega
  rw [e] at lN
  refine ret _ _ _ _ _ _ _ _ _ _ _ _ ?p0 ?p1 ?w0 ?w1 ?hv ?hk (fr_law (by assumption) (by k_dflt exact rfl) (by k_dflt exact rfl) (by k_dflt exact rfl) (by k_dflt exact rfl) (by k_dflt exact rfl) (by k_dflt exact rfl) (by k_dflt exact rfl) (by k_dflt exact rfl) (by k_dflt exact rfl)) (news_tail lN)
  case p0 => assumption
  case p1 => assumption
  case w0 => assumption
  case w1 => assumption
  case hv => exact menu_in (by assumption) (by assumption)
  case hk => rfl

set_option maxHeartbeats 4000000 in
theorem skip4 (B : Below A₀ base [] h₀) (F : Fr h₀ L s.heap (lawMap u lv tb tkl hl st pk wh v k t1 t2 t3 t4)) (X : (hd.heap_39 w.params).In h₀) (T : Top hd.view_39 LS mean mg mb h₀) (N : News h₀ L s.heap news) (hpk : (pk == 0) = false)
    (ret : ∀ h' tk', Fr h₀ L h' (lawMap u lv tb tkl hl st pk wh v k t1 t2 t3 t4) → News h₀ L h' news → Q .next { s with heap := h', toks := tk' }) :
  wpAny (model PP w) (callerA.deeper (envOf (Str.ofString "law") lawScope L fa ccd)) (exec (turnStmt 4) (envOf (Str.ofString "law") lawScope L fa ccd)) Q E s := by
  simp only [turnStmt, turnBody, lawBody, lawScope, lawStmt, PySem.Challenge.pw_bu5040_01, List.getLast?, List.getLast, Option.getD, List.getElem?_cons_succ, List.getElem?_cons_zero]
  k_steps
  exact ret _ _ (by assumption) (by assumption)
set_option maxHeartbeats 4000000 in
theorem skip5 (B : Below A₀ base [] h₀) (F : Fr h₀ L s.heap (lawMap u lv tb tkl hl st pk wh v k t1 t2 t3 t4)) (X : (hd.heap_39 w.params).In h₀) (T : Top hd.view_39 LS mean mg mb h₀) (N : News h₀ L s.heap news) (hpk : (pk == 1) = false)
    (ret : ∀ h' tk', Fr h₀ L h' (lawMap u lv tb tkl hl st pk wh v k t1 t2 t3 t4) → News h₀ L h' news → Q .next { s with heap := h', toks := tk' }) :
  wpAny (model PP w) (callerA.deeper (envOf (Str.ofString "law") lawScope L fa ccd)) (exec (turnStmt 5) (envOf (Str.ofString "law") lawScope L fa ccd)) Q E s := by
  simp only [turnStmt, turnBody, lawBody, lawScope, lawStmt, PySem.Challenge.pw_bu5040_01, List.getLast?, List.getLast, Option.getD, List.getElem?_cons_succ, List.getElem?_cons_zero]
  k_steps
  exact ret _ _ (by assumption) (by assumption)
set_option maxHeartbeats 4000000 in
theorem skip6 (B : Below A₀ base [] h₀) (F : Fr h₀ L s.heap (lawMap u lv tb tkl hl st pk wh v k t1 t2 t3 t4)) (X : (hd.heap_39 w.params).In h₀) (T : Top hd.view_39 LS mean mg mb h₀) (N : News h₀ L s.heap news) (hpk : (pk == 2) = false)
    (ret : ∀ h' tk', Fr h₀ L h' (lawMap u lv tb tkl hl st pk wh v k t1 t2 t3 t4) → News h₀ L h' news → Q .next { s with heap := h', toks := tk' }) :
  wpAny (model PP w) (callerA.deeper (envOf (Str.ofString "law") lawScope L fa ccd)) (exec (turnStmt 6) (envOf (Str.ofString "law") lawScope L fa ccd)) Q E s := by
  simp only [turnStmt, turnBody, lawBody, lawScope, lawStmt, PySem.Challenge.pw_bu5040_01, List.getLast?, List.getLast, Option.getD, List.getElem?_cons_succ, List.getElem?_cons_zero]
  k_steps
  exact ret _ _ (by assumption) (by assumption)
set_option maxHeartbeats 4000000 in
theorem skip7 (B : Below A₀ base [] h₀) (F : Fr h₀ L s.heap (lawMap u lv tb tkl hl st pk wh v k t1 t2 t3 t4)) (X : (hd.heap_39 w.params).In h₀) (T : Top hd.view_39 LS mean mg mb h₀) (N : News h₀ L s.heap news) (hpk : (pk == 3) = false)
    (ret : ∀ h' tk', Fr h₀ L h' (lawMap u lv tb tkl hl st pk wh v k t1 t2 t3 t4) → News h₀ L h' news → Q .next { s with heap := h', toks := tk' }) :
  wpAny (model PP w) (callerA.deeper (envOf (Str.ofString "law") lawScope L fa ccd)) (exec (turnStmt 7) (envOf (Str.ofString "law") lawScope L fa ccd)) Q E s := by
  simp only [turnStmt, turnBody, lawBody, lawScope, lawStmt, PySem.Challenge.pw_bu5040_01, List.getLast?, List.getLast, Option.getD, List.getElem?_cons_succ, List.getElem?_cons_zero]
  k_steps
  exact ret _ _ (by assumption) (by assumption)
set_option maxHeartbeats 4000000 in
theorem skip8 (B : Below A₀ base [] h₀) (F : Fr h₀ L s.heap (lawMap u lv tb tkl hl st pk wh v k t1 t2 t3 t4)) (X : (hd.heap_39 w.params).In h₀) (T : Top hd.view_39 LS mean mg mb h₀) (N : News h₀ L s.heap news) (hpk : (pk == 4) = false)
    (ret : ∀ h' tk', Fr h₀ L h' (lawMap u lv tb tkl hl st pk wh v k t1 t2 t3 t4) → News h₀ L h' news → Q .next { s with heap := h', toks := tk' }) :
  wpAny (model PP w) (callerA.deeper (envOf (Str.ofString "law") lawScope L fa ccd)) (exec (turnStmt 8) (envOf (Str.ofString "law") lawScope L fa ccd)) Q E s := by
  simp only [turnStmt, turnBody, lawBody, lawScope, lawStmt, PySem.Challenge.pw_bu5040_01, List.getLast?, List.getLast, Option.getD, List.getElem?_cons_succ, List.getElem?_cons_zero]
  k_steps
  exact ret _ _ (by assumption) (by assumption)
end
end Mine
-- S15
local macro_rules | `(tactic| walk_at "call ref") => `(tactic| (k_here; (with_reducible show wpAny _ _ (call (Value.ref 417) _) _ _ _); k_dflt (
  (refine' Mine.toldU ?k1 ?k2 ?k3 ?k4 ?k5 ?hk ?hd ?hu ?m1 ?m2 ?m3 ?m4 ?m5 ?m6 ?m7 ?e1 ?n1 ?l1 ?m8 ?m9 ?m10 ?e2 ?n2 ?l2 ?s1 ?s2 ?t ?tl ?o ?_; (case k1 => k_asm); (case k2 => k_asm); (case k3 => k_asm); (case k4 => k_asm); (case k5 => k_asm); (case hk => exact rfl); (case hd => k_room); (case hu => k_units); (case m1 => assumption); (case m2 => assumption); (case m3 => assumption); (case m4 => assumption); (case m5 => assumption); (case m8 => assumption); (case m6 => assumption); (case m9 => assumption); (case e1 => assumption); (case e2 => assumption); (case m7 => assumption); (case m10 => assumption); (case n1 => assumption); (case n2 => assumption); (case l1 => assumption); (case l2 => assumption); (case s1 => assumption); (case s2 => assumption); (case t => assumption); (case tl => assumption); (case o => assumption); k_whole; intro h' tk' F' N'; (try k_sweep)))))
namespace Mine
noncomputable def retStmt : PySem.Stmt := (lawBody[6]?).getD (.Pass ⟨0, 0, 0, 0⟩)
section
variable {w : World} {mean : ExcName → Option Value} {mg mb : Str → Option Value} {E : Value → Shared → Prop} {Q : Flow → Shared → Prop} {s : Shared} {fa L : Addr} {ccd : Value} {A₀ : Around} {base h₀ : Heap} {u m : Str → Option Value}
  {rest news : List (Addr × Obj)} {lv tb tkl hl st : Addr} {pk wh v k : Int} {t1 t2 t3 t4 : Tok}
  {a0 d0 n0 a1 d1 n1 : Addr} {e0 e1 : List DictEntry} {c0 c1 k0 k1 k2 k3 : Nat} {no0 no1 : Obj} {nv0 nv1 tv0 tv1 : Value} {Ts : List TokD}

set_option maxHeartbeats 4000000 in
theorem blk9 (B : Below A₀ base [] h₀) (F : Fr h₀ L s.heap (lawMap u lv tb tkl hl st pk wh v k t1 t2 t3 t4)) (X : (hd.heap_39 w.params).In h₀) (N : News h₀ L s.heap news) (T : Top hd.view_39 LS mean mg mb h₀)
    (mlv : (lv, listOf #[.ref a0, .ref a1] k0) ∈ news) (mtb : (tb, listOf #[tv0, tv1] k1) ∈ news) (mtk : (tkl, listOf (Ts.map fun t => Value.ref t.x).toArray k2) ∈ news) (mhl : (hl, listOf (Ts.map fun t => Value.ref t.q).toArray k3) ∈ news)
    (ma0 : (a0, instObj 214 d0) ∈ news) (md0 : (d0, dictOf e0 c0) ∈ news) (mn0 : (n0, no0) ∈ news) (he0 : getL (Str.ofString "notes") e0 = some (some (.ref n0))) (hn0 : NoteIs w no0 nv0) (hl0 : (n0 == sysModules) = false)
    (ma1 : (a1, instObj 214 d1) ∈ news) (md1 : (d1, dictOf e1 c1) ∈ news) (mn1 : (n1, no1) ∈ news) (he1 : getL (Str.ofString "notes") e1 = some (some (.ref n1))) (hn1 : NoteIs w no1 nv1) (hl1 : (n1 == sysModules) = false)
    (hs0 : SameVal w news nv0 tv0) (hs1 : SameVal w news nv1 tv1) (hts : ∀ t ∈ Ts, t.ok w news a0 a1) (hlen : Ts.length ≤ 12) (h01 : @LT.lt Nat _ a0 a1)
    (ret : ∀ h' tk', Fr h₀ L h' (lawMap u lv tb tkl hl st pk wh v k t1 t2 t3 t4) → News h₀ L h' news → Q .next { s with heap := h', toks := tk' }) :
  wpAny (model PP w) (callerA.deeper (envOf (Str.ofString "law") lawScope L fa ccd)) (exec (turnStmt 9) (envOf (Str.ofString "law") lawScope L fa ccd)) Q E s := by
  simp only [turnStmt, turnBody, lawBody, lawScope, lawStmt, PySem.Challenge.pw_bu5040_01, List.getLast?, List.getLast, Option.getD, List.getElem?_cons_succ, List.getElem?_cons_zero]
  k_steps
  exact ret _ _ (by assumption) (by assumption)

set_option maxHeartbeats 4000000 in
theorem blkR (B : Below A₀ base [] h₀) (F : Fr h₀ L s.heap (fun y => if y = Str.ofString "leaves" then some (.ref lv) else if y = Str.ofString "table" then some (.ref tb) else if y = Str.ofString "tokens" then some (.ref tkl) else if y = Str.ofString "held" then some (.ref hl) else m y)) (X : (hd.heap_39 w.params).In h₀) (N : News h₀ L s.heap news) (T : Top hd.view_39 LS mean mg mb h₀)
    (mlv : (lv, listOf #[.ref a0, .ref a1] k0) ∈ news) (mtb : (tb, listOf #[tv0, tv1] k1) ∈ news) (mtk : (tkl, listOf (Ts.map fun t => Value.ref t.x).toArray k2) ∈ news) (mhl : (hl, listOf (Ts.map fun t => Value.ref t.q).toArray k3) ∈ news)
    (ma0 : (a0, instObj 214 d0) ∈ news) (md0 : (d0, dictOf e0 c0) ∈ news) (mn0 : (n0, no0) ∈ news) (he0 : getL (Str.ofString "notes") e0 = some (some (.ref n0))) (hn0 : NoteIs w no0 nv0) (hl0 : (n0 == sysModules) = false)
    (ma1 : (a1, instObj 214 d1) ∈ news) (md1 : (d1, dictOf e1 c1) ∈ news) (mn1 : (n1, no1) ∈ news) (he1 : getL (Str.ofString "notes") e1 = some (some (.ref n1))) (hn1 : NoteIs w no1 nv1) (hl1 : (n1 == sysModules) = false)
    (hs0 : SameVal w news nv0 tv0) (hs1 : SameVal w news nv1 tv1) (hts : ∀ t ∈ Ts, t.ok w news a0 a1) (hlen : Ts.length ≤ 12) (h01 : @LT.lt Nat _ a0 a1)
    (ret : ∀ h' tk', Fr h₀ L h' (fun y => if y = Str.ofString "leaves" then some (.ref lv) else if y = Str.ofString "table" then some (.ref tb) else if y = Str.ofString "tokens" then some (.ref tkl) else if y = Str.ofString "held" then some (.ref hl) else m y) → Q (.ret (.bool true)) { s with heap := h', toks := tk' }) :
  wpAny (model PP w) (callerA.deeper (envOf (Str.ofString "law") lawScope L fa ccd)) (exec retStmt (envOf (Str.ofString "law") lawScope L fa ccd)) Q E s := by
  simp only [retStmt, lawBody, lawScope, lawStmt, PySem.Challenge.pw_bu5040_01, List.getLast?, List.getLast, Option.getD, List.getElem?_cons_succ, List.getElem?_cons_zero]
  k_steps
  exact ret _ _ (by assumption)
end
end Mine
-- S16
namespace Mine
/-- it stands in the ledger, and no other's it is -/
def Has (W own : List (Addr × Obj)) (a : Addr) (o : Obj) : Prop := (a, o) ∈ W ∧ ∀ x ∈ own, x.1 ≠ a
structure Cn where
  sc : Addr
  st : Addr
  lv : Addr
  tb : Addr
  tkl : Addr
  hl : Addr
  A : Nat → Addr
  D : Nat → Addr
  N : Nat → Addr
  ES : Nat → List DictEntry
  CC : Nat → Nat
  klv : Nat
  ktb : Nat
  kst : Nat
  ksc : Nat
  vs : List Value
  ns : List Int
structure CnOk (C : Cn) : Prop where
  ord : @LT.lt Nat _ C.sc C.st ∧ @LT.lt Nat _ C.st (C.D 0) ∧ @LT.lt Nat _ (C.D 0) (C.A 0) ∧ @LT.lt Nat _ (C.A 0) (C.N 0) ∧ @LT.lt Nat _ (C.N 0) (C.D 1) ∧ @LT.lt Nat _ (C.D 1) (C.A 1) ∧ @LT.lt Nat _ (C.A 1) (C.N 1) ∧ @LT.lt Nat _ (C.N 1) C.lv ∧ @LT.lt Nat _ C.lv C.tb ∧ @LT.lt Nat _ C.tb C.tkl ∧ @LT.lt Nat _ C.tkl C.hl
  nts : ∀ j, j < 2 → getL (Str.ofString "notes") (C.ES j) = some (some (.ref (C.N j)))
  typ : ∀ j, j < 2 → ∃ t, getL (Str.ofString "type") (C.ES j) = some (some (.int 1 t))
  val : ∀ j, j < 2 → ∃ x t, getL (Str.ofString "value") (C.ES j) = some (some (.str x t))
  col : ∀ j, j < 2 → getL (Str.ofString "column") (C.ES j) = some none
  lin : ∀ j, j < 2 → getL (Str.ofString "lineno") (C.ES j) = some none
  psd : ∀ j, j < 2 → getL (Str.ofString "is_pseudo") (C.ES j) = some none
  sys : ∀ j, j < 2 → (C.N j == sysModules) = false
  hint : IntsAre C.vs C.ns
  hlen : C.ns.length ≤ 60
def NoteR (w : World) (no : Obj) (tv : Value) (PQ : List (Addr × Addr)) : Prop :=
  (no.IsDictOf (strKind PP w) [] ∧ tv = .none) ∨ ∃ p q, (p, q) ∈ PQ ∧ no.IsDictOf (strKind PP w) [(SubKey, .ref p)] ∧ tv = .ref q
def PairOk (w : World) (C : Cn) (W own : List (Addr × Obj)) (r : Addr × Addr) : Prop :=
  @LT.lt Nat _ C.hl r.1 ∧ @LT.lt Nat _ r.1 r.2 ∧ ∃ po qo S, Has W own r.1 po ∧ Has W own r.2 qo ∧ ObjU w po S ∧ ObjU w qo S
def SepOk (PQ : List (Addr × Addr)) : Prop := ∀ r ∈ PQ, ∀ r' ∈ PQ, (r.1 = r'.1 → r = r') ∧ (r.2 = r'.2 → r = r') ∧ r.1 ≠ r'.2
def TkOk (C : Cn) (W own : List (Addr × Obj)) (PQ : List (Addr × Addr)) (t : TokD) : Prop :=
  Has W own t.x (instObj 392 t.dx) ∧ Has W own t.dx (dictOf t.es t.c) ∧ TokEs t.es t.a t.p ∧ (t.a = C.A 0 ∨ t.a = C.A 1) ∧ (t.p, t.q) ∈ PQ ∧ @LT.lt Nat _ C.hl t.dx ∧ @LT.lt Nat _ t.dx t.x
structure G (w : World) (C : Cn) (own W : List (Addr × Obj)) (i : Int) (t : Tok) (NO : Nat → Obj) (TV : Nat → Value) (PQ : List (Addr × Addr)) (Ts : List TokD) (ktk khl : Nat) : Prop where
  ownIn : ∀ x ∈ own, x ∈ W
  mst : Has W own C.st (listOf #[.ref C.sc, .int i t] C.kst)
  msc : Has W own C.sc (listOf C.vs.toArray C.ksc)
  mlv : Has W own C.lv (listOf #[.ref (C.A 0), .ref (C.A 1)] C.klv)
  mtb : Has W own C.tb (listOf #[TV 0, TV 1] C.ktb)
  mtk : Has W own C.tkl (listOf (Ts.map fun t => Value.ref t.x).toArray ktk)
  mhl : Has W own C.hl (listOf (Ts.map fun t => Value.ref t.q).toArray khl)
  mA : ∀ j, j < 2 → Has W own (C.A j) (instObj 214 (C.D j))
  mD : ∀ j, j < 2 → Has W own (C.D j) (dictOf (C.ES j) (C.CC j))
  mN : ∀ j, j < 2 → Has W own (C.N j) (NO j)
  nr : ∀ j, j < 2 → NoteR w (NO j) (TV j) PQ
  pq : ∀ r ∈ PQ, PairOk w C W own r
  sep : SepOk PQ
  tk : ∀ t ∈ Ts, TkOk C W own PQ t
def Good (w : World) (C : Cn) (own W : List (Addr × Obj)) (i : Int) (n : Nat) : Prop :=
  ∃ t NO TV PQ Ts ktk khl, G w C own W i t NO TV PQ Ts ktk khl ∧ Ts.length ≤ n

section
variable {w : World} {C : Cn} {own W W' own' : List (Addr × Obj)} {i : Int} {t : Tok} {NO NO' : Nat → Obj} {TV TV' : Nat → Value} {PQ PQ' : List (Addr × Addr)} {Ts : List TokD} {ktk khl : Nat} {h₀ h : Heap} {L : Addr}

theorem kind_inst {a b : Addr} {S : Int → Bool} (ho : ObjU w (instObj a b) S) : False := by
  obtain ⟨⟨⟨h, _⟩, _⟩, _⟩ := ho
  cases h
theorem kind_dict {es : List DictEntry} {c : Nat} {S : Int → Bool} (ho : ObjU w (dictOf es c) S) : False := by
  obtain ⟨⟨⟨h, _⟩, _⟩, _⟩ := ho
  simp at h
theorem Has.fn (N : News h₀ L h W) {a : Addr} {o o' : Obj} (h1 : Has W own a o) (h2 : Has W own a o') : o = o' := by
  have := news_fun N h1.1 h2.1 rfl
  exact congrArg Prod.snd this
theorem Has.lt {a d : Addr} {o : Obj} (h1 : Has W own a o) (hd : ∀ x ∈ W, @LT.lt Nat _ x.1 d) : @LT.lt Nat _ a d := hd _ h1.1
theorem G.mono (g : G w C own W i t NO TV PQ Ts ktk khl) (h : ∀ a o, Has W own a o → Has W' own' a o) (ho : ∀ x ∈ own', x ∈ W') : G w C own' W' i t NO TV PQ Ts ktk khl where
  ownIn := ho
  mst := h _ _ g.mst
  msc := h _ _ g.msc
  mlv := h _ _ g.mlv
  mtb := h _ _ g.mtb
  mtk := h _ _ g.mtk
  mhl := h _ _ g.mhl
  mA := fun j hj => h _ _ (g.mA j hj)
  mD := fun j hj => h _ _ (g.mD j hj)
  mN := fun j hj => h _ _ (g.mN j hj)
  nr := g.nr
  pq := fun r hr => let ⟨a, b, po, qo, S, c, d, e, f⟩ := g.pq r hr; ⟨a, b, po, qo, S, h _ _ c, h _ _ d, e, f⟩
  sep := g.sep
  tk := fun t ht => let ⟨a, b, c⟩ := g.tk t ht; ⟨h _ _ a, h _ _ b, c⟩
theorem NoteR.sub {no : Obj} {tv : Value} (h : NoteR w no tv PQ) (hs : ∀ r ∈ PQ, r ∈ PQ') : NoteR w no tv PQ' :=
  h.elim .inl fun ⟨p, q, a, b⟩ => .inr ⟨p, q, hs _ a, b⟩
theorem TkOk.sub {t : TokD} (h : TkOk C W own PQ t) (hk : ∀ a o, Has W own a o → a = t.x ∨ a = t.dx → Has W' own a o) (hs : ∀ r ∈ PQ, r ∈ PQ') : TkOk C W' own PQ' t :=
  let ⟨a, b, c, d, e, f⟩ := h; ⟨hk _ _ a (.inl rfl), hk _ _ b (.inr rfl), c, d, hs _ e, f⟩
theorem two {P : Nat → Prop} (h0 : P 0) (h1 : P 1) : ∀ j, j < 2 → P j := fun j hj => by
  have : j = 0 ∨ j = 1 := by omega
  rcases this with rfl | rfl <;> assumption

/-- a pair's sets changed -/
theorem G.pair (g : G w C own W i t NO TV PQ Ts ktk khl) (N : News h₀ L h W) (ok : CnOk C) {p q : Addr} {po' qo' : Obj} {S : Int → Bool} (hpq : (p, q) ∈ PQ)
    (hk : ∀ a o, Has W own a o → a ≠ p → a ≠ q → a ≠ C.N 0 → a ≠ C.N 1 → Has W' own a o) (ho : ∀ x ∈ own, x ∈ W') (hp : Has W' own p po') (hq : Has W' own q qo') (hpo : ObjU w po' S) (hqo : ObjU w qo' S)
    (hN : ∀ j, j < 2 → Has W' own (C.N j) (NO' j)) (hr : ∀ j, j < 2 → NoteR w (NO' j) (TV j) PQ) : G w C own W' i t NO' TV PQ Ts ktk khl := by
  obtain ⟨l1, l2, po, qo, S0, m1, m2, o1, o2⟩ := g.pq _ hpq
  dsimp only at l1 l2 m1 m2
  obtain ⟨r1, r2, r3, r4, r5, r6, r7, r8, r9, r10, r11⟩ := ok.ord
  have hk' : ∀ a o, Has W own a o → @LE.le Nat _ a C.hl → @Ne Nat a (C.N 0) → @Ne Nat a (C.N 1) → Has W' own a o := fun a o h1 h2 h3 h4 => hk a o h1 (fun e => by rw [e] at h2; exact absurd h2 (by omega)) (fun e => by rw [e] at h2; exact absurd h2 (by omega)) h3 h4
  have up : ∀ a o, Has W own a o → @LT.lt Nat _ C.hl a → a ≠ p → a ≠ q → Has W' own a o := fun a o h1 h2 h3 h4 => hk a o h1 h3 h4 (fun e => by rw [e] at h2; omega) (fun e => by rw [e] at h2; omega)
  exact {
    ownIn := ho
    mst := hk' _ _ g.mst (by omega) (by omega) (by omega)
    msc := hk' _ _ g.msc (by omega) (by omega) (by omega)
    mlv := hk' _ _ g.mlv (by omega) (by omega) (by omega)
    mtb := hk' _ _ g.mtb (by omega) (by omega) (by omega)
    mtk := hk' _ _ g.mtk (by omega) (by omega) (by omega)
    mhl := hk' _ _ g.mhl (by omega) (by omega) (by omega)
    mA := two (hk' _ _ (g.mA 0 (by omega)) (by omega) (by omega) (by omega)) (hk' _ _ (g.mA 1 (by omega)) (by omega) (by omega) (by omega))
    mD := two (hk' _ _ (g.mD 0 (by omega)) (by omega) (by omega) (by omega)) (hk' _ _ (g.mD 1 (by omega)) (by omega) (by omega) (by omega))
    mN := hN
    nr := hr
    pq := fun r hr => by
      obtain ⟨x1, x2, xo, yo, S1, n1, n2, y1, y2⟩ := g.pq r hr
      by_cases e : r = (p, q)
      · subst e
        exact ⟨x1, x2, po', qo', S, hp, hq, hpo, hqo⟩
      · have s1 := g.sep r hr _ hpq
        have s2 := g.sep _ hpq r hr
        exact ⟨x1, x2, xo, yo, S1, up _ _ n1 x1 (fun h => e (s1.1 h)) s1.2.2, up _ _ n2 (Nat.lt_trans x1 x2) (fun h => s2.2.2 h.symm) (fun h => e (s1.2.1 h)), y1, y2⟩
    sep := g.sep
    tk := fun t ht => by
      obtain ⟨b1, b2, b3, b4, b5, b6, b7⟩ := g.tk t ht
      refine ⟨up _ _ b1 (Nat.lt_trans b6 b7) (fun e => ?_) (fun e => ?_), up _ _ b2 b6 (fun e => ?_) (fun e => ?_), b3, b4, b5, b6, b7⟩
      · rw [e] at b1; rw [← Has.fn N b1 m1] at o1; exact kind_inst o1
      · rw [e] at b1; rw [← Has.fn N b1 m2] at o2; exact kind_inst o2
      · rw [e] at b2; rw [← Has.fn N b2 m1] at o1; exact kind_dict o1
      · rw [e] at b2; rw [← Has.fn N b2 m2] at o2; exact kind_dict o2 }

theorem sep_new (g : SepOk PQ) {p q : Addr} (h1 : ∀ r ∈ PQ, @LT.lt Nat _ r.1 p ∧ @LT.lt Nat _ r.2 p) (h2 : @LT.lt Nat _ p q) : SepOk ((p, q) :: PQ) := by
  intro r hr r' hr'
  rcases List.mem_cons.mp hr with rfl | hr
  · rcases List.mem_cons.mp hr' with rfl | hr'
    · exact ⟨fun _ => rfl, fun _ => rfl, Nat.ne_of_lt h2⟩
    · have := h1 r' hr'
      exact ⟨fun e => absurd this.1 (by rw [← e]; exact Nat.lt_irrefl _), fun e => absurd (Nat.lt_trans this.2 h2) (by rw [← e]; exact Nat.lt_irrefl _), fun e => absurd this.2 (by rw [← e]; exact Nat.lt_irrefl _)⟩
  · have := h1 r hr
    rcases List.mem_cons.mp hr' with rfl | hr'
    · exact ⟨fun e => absurd this.1 (by rw [e]; exact Nat.lt_irrefl _), fun e => absurd (Nat.lt_trans this.2 h2) (by rw [e]; exact Nat.lt_irrefl _), fun e => absurd (Nat.lt_trans this.1 h2) (by rw [e]; exact Nat.lt_irrefl _)⟩
    · exact g r hr r' hr'

/-- a fresh pair, for a leaf -/
theorem G.fresh (g : G w C own W i t NO TV PQ Ts ktk khl) (ok : CnOk C) {p q : Addr} {po qo : Obj} {S : Int → Bool}
    (hk : ∀ a o, Has W own a o → a ≠ C.tb → a ≠ C.N 0 → a ≠ C.N 1 → Has W' own a o) (ho : ∀ x ∈ own, x ∈ W') (hlt : ∀ x ∈ W, @LT.lt Nat _ x.1 p) (hl2 : @LT.lt Nat _ p q) (hp : (p, po) ∈ W') (hq : (q, qo) ∈ W') (hpo : ObjU w po S) (hqo : ObjU w qo S)
    (htb : Has W' own C.tb (listOf #[TV' 0, TV' 1] C.ktb))
    (hN : ∀ j, j < 2 → Has W' own (C.N j) (NO' j)) (hr : ∀ j, j < 2 → NoteR w (NO' j) (TV' j) ((p, q) :: PQ)) : G w C own W' i t NO' TV' ((p, q) :: PQ) Ts ktk khl := by
  obtain ⟨r1, r2, r3, r4, r5, r6, r7, r8, r9, r10, r11⟩ := ok.ord
  have hk' : ∀ a o, Has W own a o → @Ne Nat a C.tb → @Ne Nat a (C.N 0) → @Ne Nat a (C.N 1) → Has W' own a o := fun a o h1 h2 h3 h4 => hk a o h1 h2 h3 h4
  have up : ∀ a o, Has W own a o → @LT.lt Nat _ C.hl a → Has W' own a o := fun a o h1 h2 => hk a o h1 (fun e => by rw [e] at h2; omega) (fun e => by rw [e] at h2; omega) (fun e => by rw [e] at h2; omega)
  have ox : ∀ x ∈ own, @LT.lt Nat _ x.1 p := fun x hx => hlt x (g.ownIn x hx)
  exact {
    ownIn := ho
    mst := hk' _ _ g.mst (by omega) (by omega) (by omega)
    msc := hk' _ _ g.msc (by omega) (by omega) (by omega)
    mlv := hk' _ _ g.mlv (by omega) (by omega) (by omega)
    mtb := htb
    mtk := hk' _ _ g.mtk (by omega) (by omega) (by omega)
    mhl := hk' _ _ g.mhl (by omega) (by omega) (by omega)
    mA := two (hk' _ _ (g.mA 0 (by omega)) (by omega) (by omega) (by omega)) (hk' _ _ (g.mA 1 (by omega)) (by omega) (by omega) (by omega))
    mD := two (hk' _ _ (g.mD 0 (by omega)) (by omega) (by omega) (by omega)) (hk' _ _ (g.mD 1 (by omega)) (by omega) (by omega) (by omega))
    mN := hN
    nr := hr
    pq := fun r hr => by
      rcases List.mem_cons.mp hr with rfl | hr
      · exact ⟨g.mhl.lt hlt, hl2, po, qo, S, ⟨hp, fun x hx => Nat.ne_of_lt (ox x hx)⟩, ⟨hq, fun x hx => Nat.ne_of_lt (Nat.lt_trans (ox x hx) hl2)⟩, hpo, hqo⟩
      · obtain ⟨x1, x2, xo, yo, S1, n1, n2, y1, y2⟩ := g.pq r hr
        exact ⟨x1, x2, xo, yo, S1, up _ _ n1 x1, up _ _ n2 (Nat.lt_trans x1 x2), y1, y2⟩
    sep := sep_new g.sep (fun r hr => by
      obtain ⟨x1, x2, xo, yo, S1, n1, n2, y1, y2⟩ := g.pq r hr
      exact ⟨n1.lt hlt, n2.lt hlt⟩) hl2
    tk := fun t ht => (g.tk t ht).sub (fun a o h e => up a o h (by
      obtain ⟨b1, b2, b3, b4, b5, b6, b7⟩ := g.tk t ht
      rcases e with rfl | rfl
      · exact Nat.lt_trans b6 b7
      · exact b6)) fun r hr => .tail _ hr }

/-- a token more -/
theorem G.token (g : G w C own W i t NO TV PQ Ts ktk khl) (ok : CnOk C) {T : TokD} {ktk' khl' : Nat}
    (hk : ∀ a o, Has W own a o → a ≠ C.tkl → a ≠ C.hl → Has W' own a o) (ho : ∀ x ∈ own, x ∈ W')
    (htk : Has W' own C.tkl (listOf ((Ts ++ [T]).map fun t => Value.ref t.x).toArray ktk')) (hhl : Has W' own C.hl (listOf ((Ts ++ [T]).map fun t => Value.ref t.q).toArray khl'))
    (hs : ∀ r ∈ PQ, r ∈ PQ') (hpq : ∀ r ∈ PQ', r ∈ PQ ∨ PairOk w C W' own r) (hsep : SepOk PQ') (hT : TkOk C W' own PQ' T) : G w C own W' i t NO TV PQ' (Ts ++ [T]) ktk' khl' := by
  obtain ⟨r1, r2, r3, r4, r5, r6, r7, r8, r9, r10, r11⟩ := ok.ord
  have hk' : ∀ a o, Has W own a o → @Ne Nat a C.tkl → @Ne Nat a C.hl → Has W' own a o := fun a o h1 h2 h3 => hk a o h1 h2 h3
  have up : ∀ a o, Has W own a o → @LT.lt Nat _ C.hl a → Has W' own a o := fun a o h1 h2 => hk a o h1 (fun e => by rw [e] at h2; omega) (fun e => by rw [e] at h2; omega)
  exact {
    ownIn := ho
    mst := hk' _ _ g.mst (by omega) (by omega)
    msc := hk' _ _ g.msc (by omega) (by omega)
    mlv := hk' _ _ g.mlv (by omega) (by omega)
    mtb := hk' _ _ g.mtb (by omega) (by omega)
    mtk := htk
    mhl := hhl
    mA := two (hk' _ _ (g.mA 0 (by omega)) (by omega) (by omega)) (hk' _ _ (g.mA 1 (by omega)) (by omega) (by omega))
    mD := two (hk' _ _ (g.mD 0 (by omega)) (by omega) (by omega)) (hk' _ _ (g.mD 1 (by omega)) (by omega) (by omega))
    mN := two (hk' _ _ (g.mN 0 (by omega)) (by omega) (by omega)) (hk' _ _ (g.mN 1 (by omega)) (by omega) (by omega))
    nr := fun j hj => (g.nr j hj).sub hs
    pq := fun r hr => by
      rcases hpq r hr with hr | hr
      · obtain ⟨x1, x2, xo, yo, S1, n1, n2, y1, y2⟩ := g.pq r hr
        exact ⟨x1, x2, xo, yo, S1, up _ _ n1 x1, up _ _ n2 (Nat.lt_trans x1 x2), y1, y2⟩
      · exact hr
    sep := hsep
    tk := fun t ht => by
      rcases List.mem_append.mp ht with ht | ht
      · exact (g.tk t ht).sub (fun a o h e => up a o h (by
          obtain ⟨b1, b2, b3, b4, b5, b6, b7⟩ := g.tk t ht
          rcases e with rfl | rfl
          · exact Nat.lt_trans b6 b7
          · exact b6)) hs
      · rw [List.mem_singleton.mp ht]; exact hT }

/-- the state moved on -/
theorem G.drawn (g : G w C own W i t NO TV PQ Ts ktk khl) (ok : CnOk C) {i' : Int} {t' : Tok}
    (hk : ∀ a o, Has W own a o → a ≠ C.st → Has W' own a o) (ho : ∀ x ∈ own, x ∈ W') (hst : Has W' own C.st (listOf #[.ref C.sc, .int i' t'] C.kst)) : G w C own W' i' t' NO TV PQ Ts ktk khl := by
  obtain ⟨r1, r2, r3, r4, r5, r6, r7, r8, r9, r10, r11⟩ := ok.ord
  have hk' : ∀ a o, Has W own a o → @Ne Nat a C.st → Has W' own a o := fun a o h1 h2 => hk a o h1 h2
  have up : ∀ a o, Has W own a o → @LT.lt Nat _ C.hl a → Has W' own a o := fun a o h1 h2 => hk a o h1 (fun e => by rw [e] at h2; omega)
  exact {
    ownIn := ho
    mst := hst
    msc := hk' _ _ g.msc (by omega)
    mlv := hk' _ _ g.mlv (by omega)
    mtb := hk' _ _ g.mtb (by omega)
    mtk := hk' _ _ g.mtk (by omega)
    mhl := hk' _ _ g.mhl (by omega)
    mA := two (hk' _ _ (g.mA 0 (by omega)) (by omega)) (hk' _ _ (g.mA 1 (by omega)) (by omega))
    mD := two (hk' _ _ (g.mD 0 (by omega)) (by omega)) (hk' _ _ (g.mD 1 (by omega)) (by omega))
    mN := two (hk' _ _ (g.mN 0 (by omega)) (by omega)) (hk' _ _ (g.mN 1 (by omega)) (by omega))
    nr := g.nr
    pq := fun r hr => by
      obtain ⟨x1, x2, xo, yo, S1, n1, n2, y1, y2⟩ := g.pq r hr
      exact ⟨x1, x2, xo, yo, S1, up _ _ n1 x1, up _ _ n2 (Nat.lt_trans x1 x2), y1, y2⟩
    sep := g.sep
    tk := fun t ht => (g.tk t ht).sub (fun a o h e => up a o h (by
      obtain ⟨b1, b2, b3, b4, b5, b6, b7⟩ := g.tk t ht
      rcases e with rfl | rfl
      · exact Nat.lt_trans b6 b7
      · exact b6)) fun r hr => hr }

/-- the ledger, written anew: some entries ahead, the rest without them -/
theorem written (N : News h₀ L h W) {ws : List (Addr × Obj)} {as : List Addr} (hws : ∀ y ∈ ws, y ∈ W) : News h₀ L h (ws ++ without as W) := fun x hx => by
  rcases List.mem_append.mp hx with hx | hx
  · exact N _ (hws _ hx)
  · exact N _ (mem_without.mp hx).1
theorem kept (N : News h₀ L h W) (ws : List (Addr × Obj)) {fx : List (Addr × Obj)} {as chg : List Addr} (hws : ∀ y ∈ ws, y ∈ W) (has : ∀ b ∈ as, ∃ y ∈ ws, y.1 = b) (h1 : ∀ y ∈ ws, y ∈ fx ∨ y.1 ∈ chg) {x : Addr × Obj} (hx : x ∈ W) (hc : x.1 ∉ chg) : x ∈ fx ++ without as W := by
  by_cases e : x.1 ∈ as
  · obtain ⟨y, hy, e'⟩ := has _ e
    have := news_fun N (hws y hy) hx e'
    subst this
    rcases h1 y hy with h | h
    · exact List.mem_append_left _ h
    · exact absurd h hc
  · exact List.mem_append_right _ (mem_without.mpr ⟨hx, e⟩)
end
end Mine
-- S17
namespace Mine
def upd {α : Type} (f : Nat → α) (j : Nat) (v : α) : Nat → α := fun i => if i = j then v else f i
theorem upd_same {α : Type} {f : Nat → α} {j : Nat} {v : α} : upd f j v j = v := if_pos rfl
theorem upd_other {α : Type} {f : Nat → α} {j i : Nat} {v : α} (h : i ≠ j) : upd f j v i = f i := if_neg h
theorem at_two {f : Nat → Value} : ∀ j, j < 2 → ([f 0, f 1])[j]? = some (f j) := two rfl rfl
theorem set_two {f : Nat → Value} {v : Value} : ∀ j, j < 2 → ([f 0, f 1]).set j v = [upd f j v 0, upd f j v 1] := two rfl rfl
section
variable {w : World} {C : Cn} {own W W' own' : List (Addr × Obj)} {i : Int} {n j : Nat} {t : Tok} {NO NO' : Nat → Obj} {TV TV' : Nat → Value} {PQ PQ' : List (Addr × Addr)} {Ts : List TokD} {ktk khl : Nat} {h₀ h : Heap} {L : Addr}
theorem CnOk.leaf (ok : CnOk C) : ∀ j, j < 2 → @LT.lt Nat _ (C.D j) (C.A j) ∧ @LT.lt Nat _ (C.A j) (C.N j) ∧ @LT.lt Nat _ (C.N j) C.lv := by
  obtain ⟨r1, r2, r3, r4, r5, r6, r7, r8, r9, r10, r11⟩ := ok.ord
  exact two (by omega) (by omega)
abbrev wlv (C : Cn) : Addr × Obj := (C.lv, listOf #[.ref (C.A 0), .ref (C.A 1)] C.klv)
abbrev wA (C : Cn) (j : Nat) : Addr × Obj := (C.A j, instObj 214 (C.D j))
abbrev wD (C : Cn) (j : Nat) : Addr × Obj := (C.D j, dictOf (C.ES j) (C.CC j))

theorem fresh_leaf (g : G w C own W i t NO TV PQ Ts ktk khl) (hn : Ts.length ≤ n) (N : News h₀ L h W) (ok : CnOk C) (hj : j < 2) {p q : Addr} {po qo no' : Obj} {S : Int → Bool}
    (hlt : @LT.lt Nat _ C.tb p ∧ @LT.lt Nat _ C.lv p ∧ @LT.lt Nat _ (C.N j) p ∧ @LT.lt Nat _ (C.A j) p ∧ @LT.lt Nat _ (C.D j) p ∧ AllLt p (without [C.tb, C.lv, C.N j, C.A j, C.D j] W)) (hpq : @LT.lt Nat _ p q)
    (hpo : ObjU w po S) (hqo : ObjU w qo S) (hno' : no'.IsDictOf (strKind PP w) [(SubKey, .ref p)]) :
    Good w C own ((q, qo) :: (p, po) :: (C.tb, listOf (([TV 0, TV 1]).set j (.ref q)).toArray C.ktb) :: wlv C :: (C.N j, no') :: wA C j :: wD C j :: without [C.tb, C.lv, C.N j, C.A j, C.D j] W) i n := by
  have hws : ∀ y ∈ [(C.tb, listOf #[TV 0, TV 1] C.ktb), wlv C, (C.N j, NO j), wA C j, wD C j], y ∈ W := by
    intro y hy
    simp only [List.mem_cons, List.not_mem_nil, or_false] at hy
    rcases hy with rfl | rfl | rfl | rfl | rfl
    · exact g.mtb.1
    · exact g.mlv.1
    · exact (g.mN j hj).1
    · exact (g.mA j hj).1
    · exact (g.mD j hj).1
  have K : ∀ x ∈ W, x.1 ≠ C.tb → x.1 ≠ C.N j → x ∈ (q, qo) :: (p, po) :: (C.tb, listOf (([TV 0, TV 1]).set j (.ref q)).toArray C.ktb) :: wlv C :: (C.N j, no') :: wA C j :: wD C j :: without [C.tb, C.lv, C.N j, C.A j, C.D j] W := fun x hx h1 h2 =>
    kept N [(C.tb, listOf #[TV 0, TV 1] C.ktb), wlv C, (C.N j, NO j), wA C j, wD C j] (fx := [(q, qo), (p, po), (C.tb, listOf (([TV 0, TV 1]).set j (.ref q)).toArray C.ktb), wlv C, (C.N j, no'), wA C j, wD C j]) (as := [C.tb, C.lv, C.N j, C.A j, C.D j]) (chg := [C.tb, C.N j]) hws
      (by intro b hb; simp only [List.mem_cons, List.not_mem_nil, or_false] at hb; rcases hb with rfl | rfl | rfl | rfl | rfl <;> simp)
      (by intro y hy; simp only [List.mem_cons, List.not_mem_nil, or_false] at hy; rcases hy with rfl | rfl | rfl | rfl | rfl <;> simp) hx (by simp only [List.mem_cons, List.not_mem_nil, or_false, not_or]; exact ⟨h1, h2⟩)
  have hlt' : ∀ x ∈ W, @LT.lt Nat _ x.1 p := kst_ltOf (lt_back (as := [C.tb, C.lv, C.N j, C.A j, C.D j]) (by
    intro b hb; simp only [List.mem_cons, List.not_mem_nil, or_false] at hb
    obtain ⟨a1, a2, a3, a4, a5, _⟩ := hlt
    rcases hb with rfl | rfl | rfl | rfl | rfl <;> assumption) hlt.2.2.2.2.2)
  refine ⟨t, upd NO j no', upd TV j (.ref q), (p, q) :: PQ, Ts, ktk, khl, g.fresh ok (fun a o h h1 h2 h3 => ⟨K _ h.1 h1 (two (P := fun j => a ≠ C.N j) h2 h3 j hj), h.2⟩) (fun x hx => K x (g.ownIn x hx) (g.mtb.2 x hx) ((g.mN j hj).2 x hx)) hlt' hpq (.tail _ (.head _)) (.head _) hpo hqo ⟨?_, g.mtb.2⟩ (fun i hi => ?_) (fun i hi => ?_), hn⟩
  · rw [set_two j hj]
    exact .tail _ (.tail _ (.head _))
  · refine ⟨?_, (g.mN i hi).2⟩
    by_cases e : i = j
    · subst e
      rw [upd_same]
      simp
    · rw [upd_other e]
      have l0 := ok.leaf
      obtain ⟨r1, r2, r3, r4, r5, r6, r7, r8, r9, r10, r11⟩ := ok.ord
      have hh : @Ne Nat (C.N i) (C.tb) ∧ @Ne Nat (C.N i) (C.N j) := by
        have a : i = 0 ∨ i = 1 := by omega
        have b : j = 0 ∨ j = 1 := by omega
        rcases a with rfl | rfl <;> rcases b with rfl | rfl <;> first | (exact absurd rfl e) | (constructor <;> omega)
      exact K _ (g.mN i hi).1 hh.1 hh.2
  · by_cases e : i = j
    · subst e
      rw [upd_same, upd_same]
      exact .inr ⟨p, q, .head _, hno', rfl⟩
    · rw [upd_other e, upd_other e]
      exact (g.nr i hi).sub fun r hr => .tail _ hr

theorem pair_leaf (g : G w C own W i t NO TV PQ Ts ktk khl) (hn : Ts.length ≤ n) (N : News h₀ L h W) (ok : CnOk C) (hj : j < 2) {p q : Addr} {po qo po' qo' no' : Obj} {S : Int → Bool} (hpq : (p, q) ∈ PQ) (htv : TV j = .ref q) (mp : Has W own p po) (mq : Has W own q qo)
    (hpo : ObjU w po' S) (hqo : ObjU w qo' S) (hno' : no'.IsDictOf (strKind PP w) [(SubKey, .ref p)]) :
    Good w C own ((p, po') :: (q, qo') :: (C.tb, listOf #[TV 0, TV 1] C.ktb) :: wlv C :: (C.N j, no') :: wA C j :: wD C j :: without [p, q, C.tb, C.lv, C.N j, C.A j, C.D j] W) i n := by
  have hws : ∀ y ∈ [(p, po), (q, qo), (C.tb, listOf #[TV 0, TV 1] C.ktb), wlv C, (C.N j, NO j), wA C j, wD C j], y ∈ W := by
    intro y hy
    simp only [List.mem_cons, List.not_mem_nil, or_false] at hy
    rcases hy with rfl | rfl | rfl | rfl | rfl | rfl | rfl
    · exact mp.1
    · exact mq.1
    · exact g.mtb.1
    · exact g.mlv.1
    · exact (g.mN j hj).1
    · exact (g.mA j hj).1
    · exact (g.mD j hj).1
  have K : ∀ x ∈ W, x.1 ≠ p → x.1 ≠ q → x.1 ≠ C.N j → x ∈ (p, po') :: (q, qo') :: (C.tb, listOf #[TV 0, TV 1] C.ktb) :: wlv C :: (C.N j, no') :: wA C j :: wD C j :: without [p, q, C.tb, C.lv, C.N j, C.A j, C.D j] W := fun x hx h1 h2 h3 =>
    kept N [(p, po), (q, qo), (C.tb, listOf #[TV 0, TV 1] C.ktb), wlv C, (C.N j, NO j), wA C j, wD C j] (fx := [(p, po'), (q, qo'), (C.tb, listOf #[TV 0, TV 1] C.ktb), wlv C, (C.N j, no'), wA C j, wD C j]) (as := [p, q, C.tb, C.lv, C.N j, C.A j, C.D j]) (chg := [p, q, C.N j]) hws
      (by intro b hb; simp only [List.mem_cons, List.not_mem_nil, or_false] at hb; rcases hb with rfl | rfl | rfl | rfl | rfl | rfl | rfl <;> simp)
      (by intro y hy; simp only [List.mem_cons, List.not_mem_nil, or_false] at hy; rcases hy with rfl | rfl | rfl | rfl | rfl | rfl | rfl <;> simp) hx (by simp only [List.mem_cons, List.not_mem_nil, or_false, not_or]; exact ⟨h1, h2, h3⟩)
  obtain ⟨l1, l2, _⟩ := g.pq _ hpq
  dsimp only at l1 l2
  obtain ⟨r1, r2, r3, r4, r5, r6, r7, r8, r9, r10, r11⟩ := ok.ord
  refine ⟨t, upd NO j no', TV, PQ, Ts, ktk, khl, g.pair N ok hpq (fun a o h h1 h2 h3 h4 => ⟨K _ h.1 h1 h2 (two (P := fun j => a ≠ C.N j) h3 h4 j hj), h.2⟩) (fun x hx => K x (g.ownIn x hx) (mp.2 x hx) (mq.2 x hx) ((g.mN j hj).2 x hx)) ⟨.head _, mp.2⟩ ⟨.tail _ (.head _), mq.2⟩ hpo hqo (fun i hi => ?_) (fun i hi => ?_), hn⟩
  · refine ⟨?_, (g.mN i hi).2⟩
    by_cases e : i = j
    · subst e
      rw [upd_same]
      simp
    · rw [upd_other e]
      have hh : @Ne Nat (C.N i) p ∧ @Ne Nat (C.N i) q ∧ @Ne Nat (C.N i) (C.N j) := by
        have a : i = 0 ∨ i = 1 := by omega
        have b : j = 0 ∨ j = 1 := by omega
        rcases a with rfl | rfl <;> rcases b with rfl | rfl <;> first | (exact absurd rfl e) | (refine ⟨?_, ?_, ?_⟩ <;> omega)
      exact K _ (g.mN i hi).1 hh.1 hh.2.1 hh.2.2
  · by_cases e : i = j
    · subst e
      rw [upd_same]
      exact .inr ⟨p, q, hpq, hno', htv⟩
    · rw [upd_other e]
      exact g.nr i hi

/-- a token's pair changed -/
theorem pair_tok (g : G w C own W i t NO TV PQ Ts ktk khl) (hn : Ts.length ≤ n) (N : News h₀ L h W) (ok : CnOk C) {p q x dx : Addr} {es : List DictEntry} {c : Nat} {po qo po' qo' ho to : Obj} {S : Int → Bool} (hpq : (p, q) ∈ PQ) (mp : Has W own p po) (mq : Has W own q qo) (mx : (x, instObj 392 dx) ∈ W) (md : (dx, dictOf es c) ∈ W) (mh : (C.hl, ho) ∈ W) (mt : (C.tkl, to) ∈ W)
    (hpo : ObjU w po' S) (hqo : ObjU w qo' S) :
    Good w C own ((p, po') :: (q, qo') :: (x, instObj 392 dx) :: (dx, dictOf es c) :: (C.hl, ho) :: (C.tkl, to) :: without [p, q, x, dx, C.hl, C.tkl] W) i n := by
  have hws : ∀ y ∈ [(p, po), (q, qo), (x, instObj 392 dx), (dx, dictOf es c), (C.hl, ho), (C.tkl, to)], y ∈ W := by
    intro y hy
    simp only [List.mem_cons, List.not_mem_nil, or_false] at hy
    rcases hy with rfl | rfl | rfl | rfl | rfl | rfl
    · exact mp.1
    · exact mq.1
    all_goals assumption
  have K : ∀ y ∈ W, y.1 ≠ p → y.1 ≠ q → y ∈ (p, po') :: (q, qo') :: (x, instObj 392 dx) :: (dx, dictOf es c) :: (C.hl, ho) :: (C.tkl, to) :: without [p, q, x, dx, C.hl, C.tkl] W := fun y hy h1 h2 =>
    kept N [(p, po), (q, qo), (x, instObj 392 dx), (dx, dictOf es c), (C.hl, ho), (C.tkl, to)] (fx := [(p, po'), (q, qo'), (x, instObj 392 dx), (dx, dictOf es c), (C.hl, ho), (C.tkl, to)]) (as := [p, q, x, dx, C.hl, C.tkl]) (chg := [p, q]) hws
      (by intro b hb; simp only [List.mem_cons, List.not_mem_nil, or_false] at hb; rcases hb with rfl | rfl | rfl | rfl | rfl | rfl <;> simp)
      (by intro y hy; simp only [List.mem_cons, List.not_mem_nil, or_false] at hy; rcases hy with rfl | rfl | rfl | rfl | rfl | rfl <;> simp) hy (by simp only [List.mem_cons, List.not_mem_nil, or_false, not_or]; exact ⟨h1, h2⟩)
  obtain ⟨l1, l2, _⟩ := g.pq _ hpq
  dsimp only at l1 l2
  obtain ⟨r1, r2, r3, r4, r5, r6, r7, r8, r9, r10, r11⟩ := ok.ord
  have hh : ∀ i, i < 2 → @Ne Nat (C.N i) p ∧ @Ne Nat (C.N i) q := two (by constructor <;> omega) (by constructor <;> omega)
  exact ⟨t, NO, TV, PQ, Ts, ktk, khl, g.pair N ok hpq (fun a o h h1 h2 h3 h4 => ⟨K _ h.1 h1 h2, h.2⟩) (fun x hx => K x (g.ownIn x hx) (mp.2 x hx) (mq.2 x hx)) ⟨.head _, mp.2⟩ ⟨.tail _ (.head _), mq.2⟩ hpo hqo (fun i hi => ⟨K _ (g.mN i hi).1 (hh i hi).1 (hh i hi).2, (g.mN i hi).2⟩) g.nr, hn⟩

theorem snoc_map {f : TokD → Value} {T : TokD} {v : Value} (h : f T = v) : (Ts.map f ++ [v]) = (Ts ++ [T]).map f := by simp [h]

theorem tok_old (g : G w C own W i t NO TV PQ Ts ktk khl) (hn : Ts.length ≤ n) (ok : CnOk C) (hj : j < 2) {p q x dx : Addr} {es' : List DictEntry} {c' : Nat} {kh kt : Nat} (hpq : (p, q) ∈ PQ)
    (K : ∀ y ∈ W, y.1 ≠ C.tkl → y.1 ≠ C.hl → y ∈ W') (mx : (x, instObj 392 dx) ∈ W') (md : (dx, dictOf es' c') ∈ W')
    (mh : (C.hl, listOf ((Ts.map fun t => Value.ref t.q) ++ [Value.ref q]).toArray kh) ∈ W') (mt : (C.tkl, listOf ((Ts.map fun t => Value.ref t.x) ++ [Value.ref x]).toArray kt) ∈ W') (hes : TokEs es' (C.A j) p) (hlt : ∀ y ∈ W, @LT.lt Nat _ y.1 dx) (hdx : @LT.lt Nat _ dx x) :
    Good w C own W' i (n + 1) := by
  have ox : ∀ y ∈ own, @LT.lt Nat _ y.1 dx := fun y hy => hlt y (g.ownIn y hy)
  rw [snoc_map (T := ⟨x, dx, es', c', C.A j, p, q⟩) rfl] at mh
  rw [snoc_map (T := ⟨x, dx, es', c', C.A j, p, q⟩) rfl] at mt
  refine ⟨t, NO, TV, PQ, Ts ++ [⟨x, dx, es', c', C.A j, p, q⟩], kt, kh, g.token ok (fun a o h h1 h2 => ⟨K _ h.1 h1 h2, h.2⟩) (fun y hy => K y (g.ownIn y hy) (g.mtk.2 y hy) (g.mhl.2 y hy)) ⟨mt, g.mtk.2⟩ ⟨mh, g.mhl.2⟩ (fun r hr => hr) (fun r hr => .inl hr) g.sep ⟨⟨mx, fun y hy => Nat.ne_of_lt (Nat.lt_trans (ox y hy) hdx)⟩, ⟨md, fun y hy => Nat.ne_of_lt (ox y hy)⟩, hes, ?_, hpq, g.mhl.lt hlt, hdx⟩, by simp; omega⟩
  have b : j = 0 ∨ j = 1 := by omega
  rcases b with rfl | rfl
  · exact .inl rfl
  · exact .inr rfl

theorem tok_fresh (g : G w C own W i t NO TV PQ Ts ktk khl) (hn : Ts.length ≤ n) (ok : CnOk C) (hj : j < 2) {p q x dx : Addr} {po qo : Obj} {S : Int → Bool} {es' : List DictEntry} {c' : Nat} {kh kt : Nat}
    (K : ∀ y ∈ W, y.1 ≠ C.tkl → y.1 ≠ C.hl → y ∈ W') (mx : (x, instObj 392 dx) ∈ W') (md : (dx, dictOf es' c') ∈ W') (mp : (p, po) ∈ W') (mq : (q, qo) ∈ W')
    (mh : (C.hl, listOf ((Ts.map fun t => Value.ref t.q) ++ [Value.ref q]).toArray kh) ∈ W') (mt : (C.tkl, listOf ((Ts.map fun t => Value.ref t.x) ++ [Value.ref x]).toArray kt) ∈ W') (hes : TokEs es' (C.A j) p) (hlt : ∀ y ∈ W, @LT.lt Nat _ y.1 dx) (hdx : @LT.lt Nat _ dx x)
    (hxp : @LT.lt Nat _ x p) (hpq : @LT.lt Nat _ p q) (hpo : ObjU w po S) (hqo : ObjU w qo S) :
    Good w C own W' i (n + 1) := by
  have hdp : @LT.lt Nat _ dx p := Nat.lt_trans hdx hxp
  have ox : ∀ y ∈ own, @LT.lt Nat _ y.1 dx := fun y hy => hlt y (g.ownIn y hy)
  rw [snoc_map (T := ⟨x, dx, es', c', C.A j, p, q⟩) rfl] at mh
  rw [snoc_map (T := ⟨x, dx, es', c', C.A j, p, q⟩) rfl] at mt
  refine ⟨t, NO, TV, (p, q) :: PQ, Ts ++ [⟨x, dx, es', c', C.A j, p, q⟩], kt, kh, g.token ok (fun a o h h1 h2 => ⟨K _ h.1 h1 h2, h.2⟩) (fun y hy => K y (g.ownIn y hy) (g.mtk.2 y hy) (g.mhl.2 y hy)) ⟨mt, g.mtk.2⟩ ⟨mh, g.mhl.2⟩ (fun r hr => .tail _ hr) (fun r hr => ?_) (sep_new g.sep (fun r hr => ?_) hpq) ⟨⟨mx, fun y hy => Nat.ne_of_lt (Nat.lt_trans (ox y hy) hdx)⟩, ⟨md, fun y hy => Nat.ne_of_lt (ox y hy)⟩, hes, ?_, .head _, g.mhl.lt hlt, hdx⟩, by simp; omega⟩
  · rcases List.mem_cons.mp hr with rfl | hr
    · exact .inr ⟨Nat.lt_trans (g.mhl.lt hlt) hdp, hpq, po, qo, S, ⟨mp, fun y hy => Nat.ne_of_lt (Nat.lt_trans (ox y hy) hdp)⟩, ⟨mq, fun y hy => Nat.ne_of_lt (Nat.lt_trans (Nat.lt_trans (ox y hy) hdp) hpq)⟩, hpo, hqo⟩
    · exact .inl hr
  · obtain ⟨x1, x2, xo, yo, S1, n1, n2, y1, y2⟩ := g.pq r hr
    exact ⟨Nat.lt_trans (n1.lt hlt) hdp, Nat.lt_trans (n2.lt hlt) hdp⟩
  · have b : j = 0 ∨ j = 1 := by omega
    rcases b with rfl | rfl
    · exact .inl rfl
    · exact .inr rfl
end
end Mine
-- S18
namespace Mine
section
variable {w : World} {mean : ExcName → Option Value} {mg mb : Str → Option Value} {E : Value → Shared → Prop} {Q : Flow → Shared → Prop} {s : Shared} {fa L : Addr} {ccd : Value} {A₀ : Around} {base h₀ : Heap} {u : Str → Option Value}
  {C : Cn} {own W : List (Addr × Obj)} {i pk wh v k : Int} {t1 t2 t3 t4 : Tok} {n : Nat}

abbrev LM (C : Cn) (u : Str → Option Value) (pk wh v k : Int) (t1 t2 t3 t4 : Tok) : Str → Option Value := lawMap u C.lv C.tb C.tkl C.hl C.st pk wh v k t1 t2 t3 t4

theorem leafOf (k0 : 0 ≤ k) (k2 : k < 2) : ∃ j, j < 2 ∧ k.toNat = j := ⟨k.toNat, by omega, rfl⟩
theorem lvs_at {C : Cn} : ∀ j, j < 2 → ([Value.ref (C.A 0), Value.ref (C.A 1)])[j]? = some (.ref (C.A j)) := two rfl rfl

theorem step4 (B : Below A₀ base [] h₀) (F : Fr h₀ L s.heap (LM C u pk wh v k t1 t2 t3 t4)) (X : (hd.heap_39 w.params).In h₀) (T : Top hd.view_39 LS mean mg mb h₀) (N : News h₀ L s.heap W) (ok : CnOk C) (g : Good w C own W i n) (k0 : 0 ≤ k) (k2 : k < 2) (hv : v ∈ U)
    (ret : ∀ W' h' tk', Fr h₀ L h' (LM C u pk wh v k t1 t2 t3 t4) → News h₀ L h' W' → Good w C own W' i n → Q .next { s with heap := h', toks := tk' }) :
    wpAny (model PP w) (callerA.deeper (envOf (Str.ofString "law") lawScope L fa ccd)) (exec (turnStmt 4) (envOf (Str.ofString "law") lawScope L fa ccd)) Q E s := by
  cases hpk : (pk == 0)
  · exact skip4 B F X T N hpk fun h' tk' F' N' => ret _ h' tk' F' N' g
  have : pk = 0 := by simpa using hpk
  subst this
  obtain ⟨t, NO, TV, PQ, Ts, ktk, khl, g, hn⟩ := g
  obtain ⟨j, hj, ej⟩ := leafOf k0 k2
  obtain ⟨l1, l2, l3⟩ := ok.leaf j hj
  obtain ⟨r1, r2, r3, r4, r5, r6, r7, r8, r9, r10, r11⟩ := ok.ord
  rcases g.nr j hj with ⟨hno, htv⟩ | ⟨p, q, hpq, hno, htv⟩
  · have N1 := written (ws := [(C.tb, listOf #[TV 0, TV 1] C.ktb), wlv C, (C.N j, NO j), wA C j, wD C j]) (as := [C.tb, C.lv, C.N j, C.A j, C.D j]) N (by
      intro y hy
      simp only [List.mem_cons, List.not_mem_nil, or_false] at hy
      rcases hy with rfl | rfl | rfl | rfl | rfl
      · exact g.mtb.1
      · exact g.mlv.1
      · exact (g.mN j hj).1
      · exact (g.mA j hj).1
      · exact (g.mD j hj).1)
    refine blk0_none (tvs := [TV 0, TV 1]) (lvs := [.ref (C.A 0), .ref (C.A 1)]) B F X T N1 (ok.nts j hj) (ok.sys j hj) hno (by rw [ej]; exact lvs_at j hj) rfl k0 k2 hv (by rw [ej, at_two j hj, htv]) l1 l2 l3 r9 (off_without _ _) ?_
    intro p po q qo no' h' tk' F' N' hlt hpq hpo hqo hno'
    rw [ej] at N'
    exact ret _ _ _ F' N' (fresh_leaf g hn N ok hj hlt hpq hpo hqo hno')
  · obtain ⟨p1, p2, po, qo, S, mp, mq, hpo, hqo⟩ := g.pq _ hpq
    dsimp only at p1 p2 mp mq
    have N1 := written (ws := [(p, po), (q, qo), (C.tb, listOf #[TV 0, TV 1] C.ktb), wlv C, (C.N j, NO j), wA C j, wD C j]) (as := [p, q, C.tb, C.lv, C.N j, C.A j, C.D j]) N (by
      intro y hy
      simp only [List.mem_cons, List.not_mem_nil, or_false] at hy
      rcases hy with rfl | rfl | rfl | rfl | rfl | rfl | rfl
      · exact mp.1
      · exact mq.1
      · exact g.mtb.1
      · exact g.mlv.1
      · exact (g.mN j hj).1
      · exact (g.mA j hj).1
      · exact (g.mD j hj).1)
    refine blk0_some (tvs := [TV 0, TV 1]) (lvs := [.ref (C.A 0), .ref (C.A 1)]) B F X T N1 (ok.nts j hj) (ok.sys j hj) hno (by rw [ej]; exact lvs_at j hj) rfl k0 k2 hv (by rw [ej, at_two j hj, htv]) l1 l2 l3 r9 hpo hqo (by omega) p2 (off_without _ _) ?_
    intro po' qo' no' h' tk' F' N' hpo' hqo' hno'
    exact ret _ _ _ F' N' (pair_leaf g hn N ok hj hpq htv mp mq hpo' hqo' hno')

theorem step5 (B : Below A₀ base [] h₀) (F : Fr h₀ L s.heap (LM C u pk wh v k t1 t2 t3 t4)) (X : (hd.heap_39 w.params).In h₀) (T : Top hd.view_39 LS mean mg mb h₀) (N : News h₀ L s.heap W) (ok : CnOk C) (g : Good w C own W i n) (k0 : 0 ≤ k) (k2 : k < 2)
    (ret : ∀ W' h' tk', Fr h₀ L h' (LM C u pk wh v k t1 t2 t3 t4) → News h₀ L h' W' → Good w C own W' i n → Q .next { s with heap := h', toks := tk' }) :
    wpAny (model PP w) (callerA.deeper (envOf (Str.ofString "law") lawScope L fa ccd)) (exec (turnStmt 5) (envOf (Str.ofString "law") lawScope L fa ccd)) Q E s := by
  cases hpk : (pk == 1)
  · exact skip5 B F X T N hpk fun h' tk' F' N' => ret _ h' tk' F' N' g
  have : pk = 1 := by simpa using hpk
  subst this
  have g0 := g
  obtain ⟨t, NO, TV, PQ, Ts, ktk, khl, g, hn⟩ := g
  obtain ⟨j, hj, ej⟩ := leafOf k0 k2
  obtain ⟨l1, l2, l3⟩ := ok.leaf j hj
  obtain ⟨r1, r2, r3, r4, r5, r6, r7, r8, r9, r10, r11⟩ := ok.ord
  rcases g.nr j hj with ⟨hno, htv⟩ | ⟨p, q, hpq, hno, htv⟩
  · have hws : ∀ y ∈ [(C.tb, listOf #[TV 0, TV 1] C.ktb), wlv C, (C.N j, NO j), wA C j, wD C j], y ∈ W := by
      intro y hy
      simp only [List.mem_cons, List.not_mem_nil, or_false] at hy
      rcases hy with rfl | rfl | rfl | rfl | rfl
      · exact g.mtb.1
      · exact g.mlv.1
      · exact (g.mN j hj).1
      · exact (g.mA j hj).1
      · exact (g.mD j hj).1
    have N1 := written (as := [C.tb, C.lv, C.N j, C.A j, C.D j]) N hws
    refine blk1_none (tvs := [TV 0, TV 1]) (lvs := [.ref (C.A 0), .ref (C.A 1)]) B F X T N1 (ok.nts j hj) (ok.sys j hj) hno (by rw [ej]; exact lvs_at j hj) rfl k0 k2 (by rw [ej, at_two j hj, htv]) l1 l2 l3 r9 (off_without _ _) ?_
    intro h' tk' F' N'
    refine ret W _ _ F' (news_back (fx := [(C.tb, listOf #[TV 0, TV 1] C.ktb), wlv C, (C.N j, NO j), wA C j, wD C j]) N N' fun x hx => .inr ⟨hx, fun e => ?_⟩) g0
    have : ∃ y ∈ [(C.tb, listOf #[TV 0, TV 1] C.ktb), wlv C, (C.N j, NO j), wA C j, wD C j], y.1 = x.1 := by
      simp only [List.mem_cons, List.not_mem_nil, or_false] at e
      rcases e with e | e | e | e | e <;> rw [e] <;> simp
    obtain ⟨y, hy, e'⟩ := this
    rw [← news_fun N (hws y hy) hx e']
    exact hy
  · obtain ⟨p1, p2, po, qo, S, mp, mq, hpo, hqo⟩ := g.pq _ hpq
    dsimp only at p1 p2 mp mq
    have N1 := written (ws := [(p, po), (q, qo), (C.tb, listOf #[TV 0, TV 1] C.ktb), wlv C, (C.N j, NO j), wA C j, wD C j]) (as := [p, q, C.tb, C.lv, C.N j, C.A j, C.D j]) N (by
      intro y hy
      simp only [List.mem_cons, List.not_mem_nil, or_false] at hy
      rcases hy with rfl | rfl | rfl | rfl | rfl | rfl | rfl
      · exact mp.1
      · exact mq.1
      · exact g.mtb.1
      · exact g.mlv.1
      · exact (g.mN j hj).1
      · exact (g.mA j hj).1
      · exact (g.mD j hj).1)
    refine blk1_some (tvs := [TV 0, TV 1]) (lvs := [.ref (C.A 0), .ref (C.A 1)]) B F X T N1 (ok.nts j hj) (ok.sys j hj) hno (by rw [ej]; exact lvs_at j hj) rfl k0 k2 (by rw [ej, at_two j hj, htv]) l1 l2 l3 r9 hpo hqo (by omega) p2 (off_without _ _) ?_
    intro po' qo' no' h' tk' F' N' hpo' hqo' hno'
    exact ret _ _ _ F' N' (pair_leaf g hn N ok hj hpq htv mp mq hpo' hqo' hno')

theorem step8 (B : Below A₀ base [] h₀) (F : Fr h₀ L s.heap (LM C u pk wh v k t1 t2 t3 t4)) (X : (hd.heap_39 w.params).In h₀) (T : Top hd.view_39 LS mean mg mb h₀) (N : News h₀ L s.heap W) (ok : CnOk C) (g : Good w C own W i n) (k0 : 0 ≤ k) (k2 : k < 2) (hv : v ∈ U)
    (ret : ∀ W' h' tk', Fr h₀ L h' (LM C u pk wh v k t1 t2 t3 t4) → News h₀ L h' W' → Good w C own W' i n → Q .next { s with heap := h', toks := tk' }) :
    wpAny (model PP w) (callerA.deeper (envOf (Str.ofString "law") lawScope L fa ccd)) (exec (turnStmt 8) (envOf (Str.ofString "law") lawScope L fa ccd)) Q E s := by
  cases hpk : (pk == 4)
  · exact skip8 B F X T N hpk fun h' tk' F' N' => ret _ h' tk' F' N' g
  have : pk = 4 := by simpa using hpk
  subst this
  obtain ⟨t, NO, TV, PQ, Ts, ktk, khl, g, hn⟩ := g
  obtain ⟨j, hj, ej⟩ := leafOf k0 k2
  obtain ⟨l1, l2, l3⟩ := ok.leaf j hj
  obtain ⟨r1, r2, r3, r4, r5, r6, r7, r8, r9, r10, r11⟩ := ok.ord
  obtain ⟨kvs, hno, hkv⟩ : ∃ kvs, (NO j).IsDictOf (strKind PP w) kvs ∧ (kvs = [] ∨ ∃ u, kvs = [(SubKey, u)]) := by
    rcases g.nr j hj with ⟨hno, htv⟩ | ⟨p, q, hpq, hno, htv⟩
    · exact ⟨_, hno, .inl rfl⟩
    · exact ⟨_, hno, .inr ⟨_, rfl⟩⟩
  have N1 := written (ws := [(C.tb, listOf #[TV 0, TV 1] C.ktb), wlv C, (C.N j, NO j), wA C j, wD C j]) (as := [C.tb, C.lv, C.N j, C.A j, C.D j]) N (by
      intro y hy
      simp only [List.mem_cons, List.not_mem_nil, or_false] at hy
      rcases hy with rfl | rfl | rfl | rfl | rfl
      · exact g.mtb.1
      · exact g.mlv.1
      · exact (g.mN j hj).1
      · exact (g.mA j hj).1
      · exact (g.mD j hj).1)
  refine blk4 (tvs := [TV 0, TV 1]) (lvs := [.ref (C.A 0), .ref (C.A 1)]) B F X T N1 (ok.nts j hj) (ok.sys j hj) hno hkv (by rw [ej]; exact lvs_at j hj) rfl k0 k2 hv l1 l2 l3 r9 (off_without _ _) ?_
  intro p po q qo no' h' tk' F' N' hlt hpq hpo hqo hno'
  rw [ej] at N'
  exact ret _ _ _ F' N' (fresh_leaf g hn N ok hj hlt hpq hpo hqo hno')

end
end Mine
-- S19
namespace Mine
section
variable {w : World} {mean : ExcName → Option Value} {mg mb : Str → Option Value} {E : Value → Shared → Prop} {Q : Flow → Shared → Prop} {s : Shared} {fa L : Addr} {ccd : Value} {A₀ : Around} {base h₀ : Heap} {u m : Str → Option Value}
  {C : Cn} {own W : List (Addr × Obj)} {i pk wh v k : Int} {t1 t2 t3 t4 : Tok} {n : Nat}

theorem step6 (B : Below A₀ base [] h₀) (F : Fr h₀ L s.heap (LM C u pk wh v k t1 t2 t3 t4)) (X : (hd.heap_39 w.params).In h₀) (T : Top hd.view_39 LS mean mg mb h₀) (N : News h₀ L s.heap W) (ok : CnOk C) (g : Good w C own W i n) (k0 : 0 ≤ k) (k2 : k < 2) (hn12 : n ≤ 11)
    (ret : ∀ W' h' tk', Fr h₀ L h' (LM C u pk wh v k t1 t2 t3 t4) → News h₀ L h' W' → Good w C own W' i (n + 1) → Q .next { s with heap := h', toks := tk' }) :
    wpAny (model PP w) (callerA.deeper (envOf (Str.ofString "law") lawScope L fa ccd)) (exec (turnStmt 6) (envOf (Str.ofString "law") lawScope L fa ccd)) Q E s := by
  cases hpk : (pk == 2)
  · exact skip6 B F X T N hpk fun h' tk' F' N' => ret _ h' tk' F' N' (let ⟨a, b, c, d, e, f, l, m, hh⟩ := g; ⟨a, b, c, d, e, f, l, m, Nat.le_succ_of_le hh⟩)
  have : pk = 2 := by simpa using hpk
  subst this
  obtain ⟨t, NO, TV, PQ, Ts, ktk, khl, g, hn⟩ := g
  obtain ⟨j, hj, ej⟩ := leafOf k0 k2
  obtain ⟨l1, l2, l3⟩ := ok.leaf j hj
  obtain ⟨r1, r2, r3, r4, r5, r6, r7, r8, r9, r10, r11⟩ := ok.ord
  obtain ⟨ty, hty⟩ := ok.typ j hj
  obtain ⟨lx, tv, hva⟩ := ok.val j hj
  have ht1 : (Ts.map fun t => Value.ref t.x).length ≤ 12 := by rw [List.length_map]; omega
  have ht2 : (Ts.map fun t => Value.ref t.q).length ≤ 12 := by rw [List.length_map]; omega
  rcases g.nr j hj with ⟨hno, htv⟩ | ⟨p, q, hpq, hno, htv⟩
  · have hws : ∀ y ∈ [(C.hl, listOf (Ts.map fun t => Value.ref t.q).toArray khl), (C.tkl, listOf (Ts.map fun t => Value.ref t.x).toArray ktk), (C.tb, listOf #[TV 0, TV 1] C.ktb), wlv C, (C.N j, NO j), wA C j, wD C j], y ∈ W := by
      intro y hy
      simp only [List.mem_cons, List.not_mem_nil, or_false] at hy
      rcases hy with rfl | rfl | rfl | rfl | rfl | rfl | rfl
      · exact g.mhl.1
      · exact g.mtk.1
      · exact g.mtb.1
      · exact g.mlv.1
      · exact (g.mN j hj).1
      · exact (g.mA j hj).1
      · exact (g.mD j hj).1
    have N1 := written (as := [C.hl, C.tkl, C.tb, C.lv, C.N j, C.A j, C.D j]) N hws
    refine blk2_none (tvs := [TV 0, TV 1]) (lvs := [.ref (C.A 0), .ref (C.A 1)]) B F X T N1 (ok.nts j hj) (ok.sys j hj) hty hva (ok.col j hj) (ok.lin j hj) (ok.psd j hj) hno (by rw [ej]; exact lvs_at j hj) rfl k0 k2 (by rw [ej, at_two j hj, htv]) l1 l2 l3 r9 r10 r11 ht1 ht2 (off_without _ _) ?_
    intro x dx es' c' p' po' q' qo' h' tk' F' N' hes hlt hdx hxp hpq hpo hqo
    refine ret _ _ _ F' N' (tok_fresh g hn ok hj (fun y hy h1 h2 => ?_) (.tail _ (.tail _ (.head _))) (.tail _ (.tail _ (.tail _ (.head _)))) (.tail _ (.head _)) (.head _) (.tail _ (.tail _ (.tail _ (.tail _ (.head _))))) (.tail _ (.tail _ (.tail _ (.tail _ (.tail _ (.head _)))))) hes ?_ hdx hxp hpq hpo hqo)
    · exact kept N [(C.hl, listOf (Ts.map fun t => Value.ref t.q).toArray khl), (C.tkl, listOf (Ts.map fun t => Value.ref t.x).toArray ktk), (C.tb, listOf #[TV 0, TV 1] C.ktb), wlv C, (C.N j, NO j), wA C j, wD C j] (fx := [(q', qo'), (p', po'), (x, instObj 392 dx), (dx, dictOf es' c'), (C.hl, listOf ((Ts.map fun t => Value.ref t.q) ++ [Value.ref q']).toArray (khl + 1)), (C.tkl, listOf ((Ts.map fun t => Value.ref t.x) ++ [Value.ref x]).toArray (ktk + 1)), (C.tb, listOf #[TV 0, TV 1] C.ktb), wlv C, (C.N j, NO j), wA C j, wD C j]) (as := [C.hl, C.tkl, C.tb, C.lv, C.N j, C.A j, C.D j]) (chg := [C.hl, C.tkl]) hws
        (by intro b hb; simp only [List.mem_cons, List.not_mem_nil, or_false] at hb; rcases hb with rfl | rfl | rfl | rfl | rfl | rfl | rfl <;> simp)
        (by intro y hy; simp only [List.mem_cons, List.not_mem_nil, or_false] at hy; rcases hy with rfl | rfl | rfl | rfl | rfl | rfl | rfl <;> simp) hy (by simp only [List.mem_cons, List.not_mem_nil, or_false, not_or]; exact ⟨h2, h1⟩)
    · refine kst_ltOf (lt_back (as := [C.hl, C.tkl, C.tb, C.lv, C.N j, C.A j, C.D j]) ?_ hlt.2.2.2.2.2.2.2)
      intro b hb; simp only [List.mem_cons, List.not_mem_nil, or_false] at hb
      obtain ⟨a1, a2, a3, a4, a5, a6, a7, _⟩ := hlt
      rcases hb with rfl | rfl | rfl | rfl | rfl | rfl | rfl <;> assumption
  · obtain ⟨p1, p2, po, qo, S, mp, mq, hpo, hqo⟩ := g.pq _ hpq
    dsimp only at p1 p2 mp mq
    have hws : ∀ y ∈ [(p, po), (q, qo), (C.hl, listOf (Ts.map fun t => Value.ref t.q).toArray khl), (C.tkl, listOf (Ts.map fun t => Value.ref t.x).toArray ktk), (C.tb, listOf #[TV 0, TV 1] C.ktb), wlv C, (C.N j, NO j), wA C j, wD C j], y ∈ W := by
      intro y hy
      simp only [List.mem_cons, List.not_mem_nil, or_false] at hy
      rcases hy with rfl | rfl | rfl | rfl | rfl | rfl | rfl | rfl | rfl
      · exact mp.1
      · exact mq.1
      · exact g.mhl.1
      · exact g.mtk.1
      · exact g.mtb.1
      · exact g.mlv.1
      · exact (g.mN j hj).1
      · exact (g.mA j hj).1
      · exact (g.mD j hj).1
    have N1 := written (as := [p, q, C.hl, C.tkl, C.tb, C.lv, C.N j, C.A j, C.D j]) N hws
    have hall : ∀ dx, (@LT.lt Nat _ p dx ∧ @LT.lt Nat _ q dx ∧ @LT.lt Nat _ C.hl dx ∧ @LT.lt Nat _ C.tkl dx ∧ @LT.lt Nat _ C.tb dx ∧ @LT.lt Nat _ C.lv dx ∧ @LT.lt Nat _ (C.N j) dx ∧ @LT.lt Nat _ (C.A j) dx ∧ @LT.lt Nat _ (C.D j) dx ∧ AllLt dx (without [p, q, C.hl, C.tkl, C.tb, C.lv, C.N j, C.A j, C.D j] W)) → ∀ y ∈ W, @LT.lt Nat _ y.1 dx := fun dx hlt => by
      refine kst_ltOf (lt_back (as := [p, q, C.hl, C.tkl, C.tb, C.lv, C.N j, C.A j, C.D j]) ?_ hlt.2.2.2.2.2.2.2.2.2)
      intro b hb; simp only [List.mem_cons, List.not_mem_nil, or_false] at hb
      obtain ⟨a1, a2, a3, a4, a5, a6, a7, a8, a9, _⟩ := hlt
      rcases hb with rfl | rfl | rfl | rfl | rfl | rfl | rfl | rfl | rfl <;> assumption
    refine blk2_some (tvs := [TV 0, TV 1]) (lvs := [.ref (C.A 0), .ref (C.A 1)]) B F X T N1 (ok.nts j hj) (ok.sys j hj) hty hva (ok.col j hj) (ok.lin j hj) (ok.psd j hj) hno (by rw [ej]; exact lvs_at j hj) rfl k0 k2 (by rw [ej, at_two j hj, htv]) l1 l2 l3 r9 r10 r11 ht1 ht2 hpo hqo p1 p2 (off_without _ _) ?_ ?_
    · intro x dx es' c' p' po' q' qo' h' tk' _ F' N' hes hlt hdx hxp hpq' hpo' hqo'
      refine ret _ _ _ F' N' (tok_fresh g hn ok hj (fun y hy h1 h2 => ?_) (.tail _ (.tail _ (.head _))) (.tail _ (.tail _ (.tail _ (.head _)))) (.tail _ (.head _)) (.head _) (.tail _ (.tail _ (.tail _ (.tail _ (.tail _ (.tail _ (.head _))))))) (.tail _ (.tail _ (.tail _ (.tail _ (.tail _ (.tail _ (.tail _ (.head _)))))))) hes (hall _ hlt) hdx hxp hpq' hpo' hqo')
      exact kept N [(p, po), (q, qo), (C.hl, listOf (Ts.map fun t => Value.ref t.q).toArray khl), (C.tkl, listOf (Ts.map fun t => Value.ref t.x).toArray ktk), (C.tb, listOf #[TV 0, TV 1] C.ktb), wlv C, (C.N j, NO j), wA C j, wD C j] (fx := [(q', qo'), (p', po'), (x, instObj 392 dx), (dx, dictOf es' c'), (p, po), (q, qo), (C.hl, listOf ((Ts.map fun t => Value.ref t.q) ++ [Value.ref q']).toArray (khl + 1)), (C.tkl, listOf ((Ts.map fun t => Value.ref t.x) ++ [Value.ref x]).toArray (ktk + 1)), (C.tb, listOf #[TV 0, TV 1] C.ktb), wlv C, (C.N j, NO j), wA C j, wD C j]) (as := [p, q, C.hl, C.tkl, C.tb, C.lv, C.N j, C.A j, C.D j]) (chg := [C.hl, C.tkl]) hws
        (by intro b hb; simp only [List.mem_cons, List.not_mem_nil, or_false] at hb; rcases hb with rfl | rfl | rfl | rfl | rfl | rfl | rfl | rfl | rfl <;> simp)
        (by intro y hy; simp only [List.mem_cons, List.not_mem_nil, or_false] at hy; rcases hy with rfl | rfl | rfl | rfl | rfl | rfl | rfl | rfl | rfl <;> simp) hy (by simp only [List.mem_cons, List.not_mem_nil, or_false, not_or]; exact ⟨h2, h1⟩)
    · intro x dx es' c' h' tk' F' N' hes hlt hdx
      refine ret _ _ _ F' N' (tok_old g hn ok hj hpq (fun y hy h1 h2 => ?_) (.head _) (.tail _ (.head _)) (.tail _ (.tail _ (.tail _ (.tail _ (.head _))))) (.tail _ (.tail _ (.tail _ (.tail _ (.tail _ (.head _)))))) hes (hall _ hlt) hdx)
      exact kept N [(p, po), (q, qo), (C.hl, listOf (Ts.map fun t => Value.ref t.q).toArray khl), (C.tkl, listOf (Ts.map fun t => Value.ref t.x).toArray ktk), (C.tb, listOf #[TV 0, TV 1] C.ktb), wlv C, (C.N j, NO j), wA C j, wD C j] (fx := [(x, instObj 392 dx), (dx, dictOf es' c'), (p, po), (q, qo), (C.hl, listOf ((Ts.map fun t => Value.ref t.q) ++ [Value.ref q]).toArray (khl + 1)), (C.tkl, listOf ((Ts.map fun t => Value.ref t.x) ++ [Value.ref x]).toArray (ktk + 1)), (C.tb, listOf #[TV 0, TV 1] C.ktb), wlv C, (C.N j, NO j), wA C j, wD C j]) (as := [p, q, C.hl, C.tkl, C.tb, C.lv, C.N j, C.A j, C.D j]) (chg := [C.hl, C.tkl]) hws
        (by intro b hb; simp only [List.mem_cons, List.not_mem_nil, or_false] at hb; rcases hb with rfl | rfl | rfl | rfl | rfl | rfl | rfl | rfl | rfl <;> simp)
        (by intro y hy; simp only [List.mem_cons, List.not_mem_nil, or_false] at hy; rcases hy with rfl | rfl | rfl | rfl | rfl | rfl | rfl | rfl | rfl <;> simp) hy (by simp only [List.mem_cons, List.not_mem_nil, or_false, not_or]; exact ⟨h2, h1⟩)

theorem step7 (B : Below A₀ base [] h₀) (F : Fr h₀ L s.heap (LM C u pk wh v k t1 t2 t3 t4)) (X : (hd.heap_39 w.params).In h₀) (T : Top hd.view_39 LS mean mg mb h₀) (N : News h₀ L s.heap W) (ok : CnOk C) (g : Good w C own W i n) (hn12 : n ≤ 12) (w0 : 0 ≤ wh) (hv : v ∈ U)
    (ret : ∀ W' h' tk', Fr h₀ L h' (LM C u pk wh v k t1 t2 t3 t4) → News h₀ L h' W' → Good w C own W' i n → Q .next { s with heap := h', toks := tk' }) :
    wpAny (model PP w) (callerA.deeper (envOf (Str.ofString "law") lawScope L fa ccd)) (exec (turnStmt 7) (envOf (Str.ofString "law") lawScope L fa ccd)) Q E s := by
  cases hpk : (pk == 3)
  · exact skip7 B F X T N hpk fun h' tk' F' N' => ret _ h' tk' F' N' g
  have : pk = 3 := by simpa using hpk
  subst this
  have g0 := g
  obtain ⟨t, NO, TV, PQ, Ts, ktk, khl, g, hn⟩ := g
  obtain ⟨r1, r2, r3, r4, r5, r6, r7, r8, r9, r10, r11⟩ := ok.ord
  have hlm : (Ts.map fun t => Value.ref t.x).length = Ts.length := List.length_map _
  by_cases hz : Ts.length = 0
  · have hws : ∀ y ∈ [(C.tkl, listOf (Ts.map fun t => Value.ref t.x).toArray ktk)], y ∈ W := by
      intro y hy
      rw [List.mem_singleton.mp hy]
      exact g.mtk.1
    have N1 := written (as := [C.tkl]) N hws
    refine blk3_empty B F X T N1 (by rw [hlm]; exact hz) fun h' tk' F' N' => ret W _ _ F' (news_back (fx := [(C.tkl, listOf (Ts.map fun t => Value.ref t.x).toArray ktk)]) N N' fun x hx => .inr ⟨hx, fun e => ?_⟩) g0
    rw [List.mem_singleton] at e ⊢
    exact news_fun N hx g.mtk.1 e
  · have hpos : 0 < Ts.length := Nat.pos_of_ne_zero hz
    have j0 : 0 ≤ wh.fmod ((Ts.map fun t => Value.ref t.x).length : Int) := Int.fmod_nonneg_of_pos _ (by rw [hlm]; omega)
    have j1 : wh.fmod ((Ts.map fun t => Value.ref t.x).length : Int) < ((Ts.map fun t => Value.ref t.x).length : Int) := Int.fmod_lt_of_pos _ (by rw [hlm]; omega)
    obtain ⟨jx, hjx⟩ : ∃ jx, (wh.fmod ((Ts.map fun t => Value.ref t.x).length : Int)).toNat = jx := ⟨_, rfl⟩
    have hjl : jx < Ts.length := by rw [hlm] at j1 j0 hjx; omega
    obtain ⟨tok, htok⟩ : ∃ tok, Ts[jx]? = some tok := ⟨_, List.getElem?_eq_getElem hjl⟩
    obtain ⟨b1, b2, b3, b4, b5, b6, b7⟩ := g.tk tok (List.mem_of_getElem? htok)
    obtain ⟨p1, p2, po, qo, S, mp, mq, hpo, hqo⟩ := g.pq _ b5
    dsimp only at p1 p2 mp mq
    have hws : ∀ y ∈ [(tok.p, po), (tok.q, qo), (tok.x, instObj 392 tok.dx), (tok.dx, dictOf tok.es tok.c), (C.hl, listOf (Ts.map fun t => Value.ref t.q).toArray khl), (C.tkl, listOf (Ts.map fun t => Value.ref t.x).toArray ktk)], y ∈ W := by
      intro y hy
      simp only [List.mem_cons, List.not_mem_nil, or_false] at hy
      rcases hy with rfl | rfl | rfl | rfl | rfl | rfl
      · exact mp.1
      · exact mq.1
      · exact b1.1
      · exact b2.1
      · exact g.mhl.1
      · exact g.mtk.1
    have N1 := written (as := [tok.p, tok.q, tok.x, tok.dx, C.hl, C.tkl]) N hws
    refine blk3_some (tls := Ts.map fun (t : TokD) => Value.ref t.x) (hls := Ts.map fun (t : TokD) => Value.ref t.q) (x := tok.x) (dx := tok.dx) (p := tok.p) (q := tok.q) B F X T N1 (by rw [hlm]; omega) (by rw [hlm]; exact hpos) j0 (by rw [hlm] at j1 ⊢; omega) (by rw [hjx, List.getElem?_map, htok]; rfl) (by rw [hjx, List.getElem?_map, htok]; rfl) b3 hv hpo hqo r11 b7 b6 p1 p2 ?_ ?_ ?_ ?_ (off_without _ _) ?_
    · intro e; rw [e] at b1; rw [← Has.fn N b1 mp] at hpo; exact kind_inst hpo
    · intro e; rw [e] at b1; rw [← Has.fn N b1 mq] at hqo; exact kind_inst hqo
    · intro e; rw [e] at b2; rw [← Has.fn N b2 mp] at hpo; exact kind_dict hpo
    · intro e; rw [e] at b2; rw [← Has.fn N b2 mq] at hqo; exact kind_dict hqo
    · intro po' qo' h' tk' F' N' hpo' hqo'
      exact ret _ _ _ F' N' (pair_tok g hn N ok b5 mp mq b1.1 b2.1 g.mhl.1 g.mtk.1 hpo' hqo')

theorem NoteR.same {no : Obj} {tv : Value} {PQ : List (Addr × Addr)} (h : NoteR w no tv PQ) (hp : ∀ r ∈ PQ, PairOk w C W own r) : ∃ nv, NoteIs w no nv ∧ SameVal w W nv tv := by
  rcases h with ⟨hno, htv⟩ | ⟨p, q, hpq, hno, htv⟩
  · exact ⟨.none, .inl ⟨hno, rfl⟩, .inl ⟨rfl, htv⟩⟩
  · obtain ⟨p1, p2, po, qo, S, mp, mq, hpo, hqo⟩ := hp _ hpq
    exact ⟨.ref p, .inr ⟨p, hno, rfl⟩, .inr ⟨p, q, po, qo, S, rfl, htv, mp.1, mq.1, hpo, hqo⟩⟩
theorem TkOk.told {PQ : List (Addr × Addr)} {t : TokD} (h : TkOk C W own PQ t) (hp : ∀ r ∈ PQ, PairOk w C W own r) : t.ok w W (C.A 0) (C.A 1) := by
  obtain ⟨b1, b2, b3, b4, b5, b6, b7⟩ := h
  obtain ⟨p1, p2, po, qo, S, mp, mq, hpo, hqo⟩ := hp _ b5
  exact ⟨b1.1, b2.1, b3, b4, po, qo, S, mp.1, mq.1, hpo, hqo⟩

theorem step9 (B : Below A₀ base [] h₀) (F : Fr h₀ L s.heap (LM C u pk wh v k t1 t2 t3 t4)) (X : (hd.heap_39 w.params).In h₀) (T : Top hd.view_39 LS mean mg mb h₀) (N : News h₀ L s.heap W) (ok : CnOk C) (g : Good w C own W i n) (hn12 : n ≤ 12)
    (ret : ∀ h' tk', Fr h₀ L h' (LM C u pk wh v k t1 t2 t3 t4) → News h₀ L h' W → Q .next { s with heap := h', toks := tk' }) :
    wpAny (model PP w) (callerA.deeper (envOf (Str.ofString "law") lawScope L fa ccd)) (exec (turnStmt 9) (envOf (Str.ofString "law") lawScope L fa ccd)) Q E s := by
  obtain ⟨t, NO, TV, PQ, Ts, ktk, khl, g, hn⟩ := g
  obtain ⟨r1, r2, r3, r4, r5, r6, r7, r8, r9, r10, r11⟩ := ok.ord
  obtain ⟨nv0, hn0, hs0⟩ := (g.nr 0 (by omega)).same g.pq
  obtain ⟨nv1, hn1, hs1⟩ := (g.nr 1 (by omega)).same g.pq
  exact blk9 B F X N T g.mlv.1 g.mtb.1 g.mtk.1 g.mhl.1 (g.mA 0 (by omega)).1 (g.mD 0 (by omega)).1 (g.mN 0 (by omega)).1 (ok.nts 0 (by omega)) hn0 (ok.sys 0 (by omega)) (g.mA 1 (by omega)).1 (g.mD 1 (by omega)).1 (g.mN 1 (by omega)).1 (ok.nts 1 (by omega)) hn1 (ok.sys 1 (by omega)) hs0 hs1 (fun t ht => (g.tk t ht).told g.pq) (by omega) (by omega) ret

theorem stepR (B : Below A₀ base [] h₀) (F : Fr h₀ L s.heap (fun y => if y = Str.ofString "leaves" then some (.ref C.lv) else if y = Str.ofString "table" then some (.ref C.tb) else if y = Str.ofString "tokens" then some (.ref C.tkl) else if y = Str.ofString "held" then some (.ref C.hl) else m y)) (X : (hd.heap_39 w.params).In h₀) (T : Top hd.view_39 LS mean mg mb h₀) (N : News h₀ L s.heap W) (ok : CnOk C) (g : Good w C own W i n) (hn12 : n ≤ 12)
    (ret : ∀ h' tk' m', Fr h₀ L h' m' → Q (.ret (.bool true)) { s with heap := h', toks := tk' }) :
    wpAny (model PP w) (callerA.deeper (envOf (Str.ofString "law") lawScope L fa ccd)) (exec retStmt (envOf (Str.ofString "law") lawScope L fa ccd)) Q E s := by
  obtain ⟨t, NO, TV, PQ, Ts, ktk, khl, g, hn⟩ := g
  obtain ⟨r1, r2, r3, r4, r5, r6, r7, r8, r9, r10, r11⟩ := ok.ord
  obtain ⟨nv0, hn0, hs0⟩ := (g.nr 0 (by omega)).same g.pq
  obtain ⟨nv1, hn1, hs1⟩ := (g.nr 1 (by omega)).same g.pq
  exact blkR B F X N T g.mlv.1 g.mtb.1 g.mtk.1 g.mhl.1 (g.mA 0 (by omega)).1 (g.mD 0 (by omega)).1 (g.mN 0 (by omega)).1 (ok.nts 0 (by omega)) hn0 (ok.sys 0 (by omega)) (g.mA 1 (by omega)).1 (g.mD 1 (by omega)).1 (g.mN 1 (by omega)).1 (ok.nts 1 (by omega)) hn1 (ok.sys 1 (by omega)) hs0 hs1 (fun t ht => (g.tk t ht).told g.pq) (by omega) (by omega) fun h' tk' F' => ret h' tk' _ F'
end
end Mine
-- S20
namespace Mine
theorem turnBody_eq : turnBody = [turnStmt 0, turnStmt 1, turnStmt 2, turnStmt 3, turnStmt 4, turnStmt 5, turnStmt 6, turnStmt 7, turnStmt 8, turnStmt 9] := by rfl
/-- the law's lists stand under their names -/
def Named (C : Cn) (m : Str → Option Value) : Prop :=
  m (Str.ofString "leaves") = some (.ref C.lv) ∧ m (Str.ofString "table") = some (.ref C.tb) ∧ m (Str.ofString "tokens") = some (.ref C.tkl) ∧ m (Str.ofString "held") = some (.ref C.hl) ∧ m (Str.ofString "state") = some (.ref C.st)
theorem fr_five {h₀ h : Heap} {L : Addr} {m : Str → Option Value} {C : Cn} (F : Fr h₀ L h m) (hm : Named C m) :
    Fr h₀ L h (fun y => if y = Str.ofString "leaves" then some (.ref C.lv) else if y = Str.ofString "table" then some (.ref C.tb) else if y = Str.ofString "tokens" then some (.ref C.tkl) else if y = Str.ofString "held" then some (.ref C.hl) else if y = Str.ofString "state" then some (.ref C.st) else m y) := by
  obtain ⟨e0, e1, e2, e3, e4⟩ := hm
  have e : (fun y => if y = Str.ofString "leaves" then some (.ref C.lv) else if y = Str.ofString "table" then some (.ref C.tb) else if y = Str.ofString "tokens" then some (.ref C.tkl) else if y = Str.ofString "held" then some (.ref C.hl) else if y = Str.ofString "state" then some (.ref C.st) else m y) = m := funext fun y => by
    split
    · next h => rw [h, e0]
    split
    · next h => rw [h, e1]
    split
    · next h => rw [h, e2]
    split
    · next h => rw [h, e3]
    split
    · next h => rw [h, e4]
    rfl
  rw [e]; exact F
section
variable {w : World} {mean : ExcName → Option Value} {mg mb : Str → Option Value} {E : Value → Shared → Prop} {Q : Flow → Shared → Prop} {s : Shared} {fa L : Addr} {ccd : Value} {A₀ : Around} {base h₀ : Heap} {u m : Str → Option Value}
  {C : Cn} {own W : List (Addr × Obj)} {i : Int} {n : Nat}

theorem turn_ok (B : Below A₀ base [] h₀) (F : Fr h₀ L s.heap m) (hm : Named C m) (X : (hd.heap_39 w.params).In h₀) (T : Top hd.view_39 LS mean mg mb h₀) (N : News h₀ L s.heap W) (ok : CnOk C) (g : Good w C own W i n) (h0 : 0 ≤ i) (h1 : i ≤ 90) (hn12 : n ≤ 11)
    (ret : ∀ u pk wh v k t1 t2 t3 t4 W' h' tk', Fr h₀ L h' (LM C u pk wh v k t1 t2 t3 t4) → News h₀ L h' W' → Good w C own W' (i + 3) (n + 1) → Q .next { s with heap := h', toks := tk' }) :
    wpAny (model PP w) (callerA.deeper (envOf (Str.ofString "law") lawScope L fa ccd)) (execs turnBody (envOf (Str.ofString "law") lawScope L fa ccd)) Q E s := by
  rw [turnBody_eq]
  obtain ⟨t, NO, TV, PQ, Ts, ktk, khl, g, hn⟩ := g
  have hws : ∀ y ∈ [(C.st, listOf #[.ref C.sc, .int i t] C.kst), (C.sc, listOf C.vs.toArray C.ksc)], y ∈ W := by
    intro y hy
    simp only [List.mem_cons, List.not_mem_nil, or_false] at hy
    rcases hy with rfl | rfl
    · exact g.mst.1
    · exact g.msc.1
  have N1 := written (as := [C.st, C.sc]) N hws
  refine draws B (fr_five F hm) X T N1 ok.hint h0 h1 ok.hlen ok.ord.1 (off_without _ _) ?_
  intro u pk wh v k t1 t2 t3 t4 t' h' tk' p0 p5 w0 w12 hv hk F1 N1
  have k0 : 0 ≤ k := by rw [hk]; exact Int.fmod_nonneg_of_pos _ (by omega)
  have k2 : k < 2 := by rw [hk]; exact Int.fmod_lt_of_pos _ (by omega)
  have g1 : Good w C own ((C.st, listOf #[.ref C.sc, .int (i + 3) t'] C.kst) :: (C.sc, listOf C.vs.toArray C.ksc) :: without [C.st, C.sc] W) (i + 3) n := by
    have K : ∀ x ∈ W, x.1 ≠ C.st → x ∈ (C.st, listOf #[.ref C.sc, .int (i + 3) t'] C.kst) :: (C.sc, listOf C.vs.toArray C.ksc) :: without [C.st, C.sc] W := fun x hx h1 =>
      kept N [(C.st, listOf #[.ref C.sc, .int i t] C.kst), (C.sc, listOf C.vs.toArray C.ksc)] (fx := [(C.st, listOf #[.ref C.sc, .int (i + 3) t'] C.kst), (C.sc, listOf C.vs.toArray C.ksc)]) (as := [C.st, C.sc]) (chg := [C.st]) hws
        (by intro b hb; simp only [List.mem_cons, List.not_mem_nil, or_false] at hb; rcases hb with rfl | rfl <;> simp)
        (by intro y hy; simp only [List.mem_cons, List.not_mem_nil, or_false] at hy; rcases hy with rfl | rfl <;> simp) hx (by rw [List.mem_singleton]; exact h1)
    exact ⟨t', NO, TV, PQ, Ts, ktk, khl, g.drawn ok (fun a o h h1 => ⟨K _ h.1 h1, h.2⟩) (fun x hx => K x (g.ownIn x hx) (g.mst.2 x hx)) ⟨.head _, g.mst.2⟩, hn⟩
  clear g hn hws N F hm
  refine wpAny_execs_cons (step4 B F1 X T N1 ok g1 k0 k2 hv fun W1 h1' tk1 F2 N2 g2 => ?_)
  dsimp only
  refine wpAny_execs_cons (step5 B F2 X T N2 ok g2 k0 k2 fun W2 h2' tk2 F3 N3 g3 => ?_)
  dsimp only
  refine wpAny_execs_cons (step6 B F3 X T N3 ok g3 k0 k2 hn12 fun W3 h3' tk3 F4 N4 g4 => ?_)
  dsimp only
  refine wpAny_execs_cons (step7 B F4 X T N4 ok g4 (by omega) w0 hv fun W4 h4' tk4 F5 N5 g5 => ?_)
  dsimp only
  refine wpAny_execs_cons (step8 B F5 X T N5 ok g5 k0 k2 hv fun W5 h5' tk5 F6 N6 g6 => ?_)
  dsimp only
  refine wpAny_execs_cons (step9 B F6 X T N6 ok g6 (by omega) fun h6' tk6 F7 N7 => ?_)
  dsimp only
  exact wpAny_execs_nil (ret u pk wh v k t1 t2 t3 t4 _ _ _ F7 N7 g6)

theorem loop_ok {r : Addr} {b : Int} {t₀ u₀ v₀ : Tok} {nn : Nat} (hnn : nn ≤ 12) (B : Below A₀ base [] h₀) (F : Fr h₀ L s.heap m) (hm : Named C m) (X : (hd.heap_39 w.params).In h₀) (T : Top hd.view_39 LS mean mg mb h₀) (N : News h₀ L s.heap W) (ok : CnOk C) (g : Good w C [] W 0 0)
    (rg : IsRange s.heap r 0 b 1 t₀ u₀ v₀) (hsmall : Builtin.Range.small 0 b 1 = true) (hsz : Builtin.Range.rangeSize 0 b 1 = (nn : Int))
    (ret : ∀ m₁ nx h tk, Named C m₁ → Good w C [] nx (3 * (nn : Int)) nn → Fr h₀ L h m₁ → News h₀ L h nx → Q .next { s with heap := h, toks := tk }) :
    wpAny (model PP w) (callerA.deeper (envOf (Str.ofString "law") lawScope L fa ccd)) (pyIter (.ref r)) (fun it s₂ => LoopAtV PP w (callerA.deeper (envOf (Str.ofString "law") lawScope L fa ccd)) h₀ (envOf (Str.ofString "law") lawScope L fa ccd) (Str.ofString "turn") turnBody Q E it s₂) E s := by
  have g0 : Good w C [] W (3 * ((0 : Nat) : Int)) 0 := by
    have e : (3 * ((0 : Nat) : Int)) = 0 := by omega
    rw [e]; exact g
  refine tbr_invG (n := nn) (fun i m nx => Good w C [] nx (3 * (i : Int)) i ∧ Named C m) rfl rg hsmall hsz F N ⟨g0, hm⟩ ?_ ?_
  · rintro i k t m₁ nx h tk own hk hoff ⟨g, hm⟩ F1 N1
    have hi : i < nn := by
      have := (List.getElem?_eq_some_iff.mp hk).1
      rw [rangeKs_length] at this; exact this
    have g1 : Good w C own (nx ++ own) (3 * (i : Int)) i := by
      obtain ⟨t, NO, TV, PQ, Ts, ktk, khl, g, hn⟩ := g
      exact ⟨t, NO, TV, PQ, Ts, ktk, khl, g.mono (fun a o h => ⟨List.mem_append_left _ h.1, fun x hx => hoff x hx _ h.1⟩) (fun x hx => List.mem_append_right _ hx), hn⟩
    refine turn_ok B F1 ?_ X T N1 ok g1 (by omega) (by omega) (by omega) ?_
    · obtain ⟨e0, e1, e2, e3, e4⟩ := hm
      exact ⟨e0, e1, e2, e3, e4⟩
    · intro u pk wh v k t1 t2 t3 t4 W' h' tk' F' N' g'
      refine ⟨_, _, _, W', without (own.map (·.1)) W', rfl, F', N', fun p hp => (mem_without.mp hp).1, ?_, ?_, ?_, ?_⟩
      · obtain ⟨t, NO, TV, PQ, Ts, ktk, khl, g, hn⟩ := g'
        exact g.ownIn
      · intro p hp q hq e
        exact (mem_without.mp hq).2 (by rw [← e]; exact List.mem_map_of_mem hp)
      · obtain ⟨t, NO, TV, PQ, Ts, ktk, khl, g, hn⟩ := g'
        have e : 3 * (((i + 1 : Nat)) : Int) = 3 * (i : Int) + 3 := by omega
        rw [e]
        refine ⟨t, NO, TV, PQ, Ts, ktk, khl, g.mono (fun a o h => ⟨mem_without.mpr ⟨h.1, fun hx => ?_⟩, fun x hx => nomatch hx⟩) (fun x hx => nomatch hx), hn⟩
        obtain ⟨y, hy, e⟩ := List.mem_map.mp hx
        exact h.2 y hy e
      · exact ⟨rfl, rfl, rfl, rfl, rfl⟩
  · rintro m₁ nx h tk ⟨g, hm⟩ F1 N1
    exact ret m₁ nx h tk hm g F1 N1
end
end Mine
-- S21
namespace Mine
def pick2 {α : Type} (x y : α) : Nat → α := fun j => if j = 0 then x else y
section
variable {w : World} {mean : ExcName → Option Value} {mg mb : Str → Option Value} {E : Value → Shared → Prop} {Q Qr : Flow → Shared → Prop} {s : Shared} {fa L : Addr} {ccd : Value} {A₀ : Around} {base h₀ : Heap} {u m : Str → Option Value}

theorem fin_range (x : Int) (h : 0 ≤ x) : ∃ nn : Nat, nn ≤ 12 ∧ (if x < 12 then x else 12) = (nn : Int) := by
  by_cases e : x < 12
  · rw [if_pos e]
    exact ⟨x.toNat, by omega, by omega⟩
  · rw [if_neg e]
    exact ⟨12, by omega, rfl⟩

theorem finish {r : Addr} {t₀ u₀ v₀ t : Tok} {nsAll : List Int} {ws : List Value} {hl tkl tb lv f1 n1 a1 d1 f0 n0 a0 d0 st sc : Addr} {fo1 no1 fo0 no0 : Obj} {e0 e1 : List DictEntry} {c0 c1 ktb klv kst ksc k1 k2 : Nat}
    (B : Below A₀ base [] h₀) (F : Fr h₀ L s.heap m) (X : (hd.heap_39 w.params).In h₀) (T : Top hd.view_39 LS mean mg mb h₀)
    (N : News h₀ L s.heap [(hl, listOf #[] k2), (tkl, listOf #[] k1), (tb, listOf #[.none, .none] ktb), (lv, listOf #[.ref a0, .ref a1] klv), (f1, fo1), (n1, no1), (a1, instObj 214 d1), (d1, dictOf e1 c1), (f0, fo0), (n0, no0), (a0, instObj 214 d0), (d0, dictOf e0 c0), (st, listOf #[.ref sc, .int 0 t] kst), (sc, listOf ws.toArray ksc)])
    (m0 : m (Str.ofString "leaves") = some (.ref lv)) (m1 : m (Str.ofString "table") = some (.ref tb)) (m2 : m (Str.ofString "tokens") = some (.ref tkl)) (m3 : m (Str.ofString "held") = some (.ref hl)) (m4 : m (Str.ofString "state") = some (.ref st))
    (rg : IsRange s.heap r 0 (if ((nsAll.length : Int) + 2).fdiv 3 < 12 then ((nsAll.length : Int) + 2).fdiv 3 else 12) 1 t₀ u₀ v₀)
    (hi : IntsAre ws (nsAll.take 60))
    (ord : @LT.lt Nat _ sc st ∧ @LT.lt Nat _ st d0 ∧ @LT.lt Nat _ d0 a0 ∧ @LT.lt Nat _ a0 n0 ∧ @LT.lt Nat _ n0 d1 ∧ @LT.lt Nat _ d1 a1 ∧ @LT.lt Nat _ a1 n1 ∧ @LT.lt Nat _ n1 lv ∧ @LT.lt Nat _ lv tb ∧ @LT.lt Nat _ tb tkl ∧ @LT.lt Nat _ tkl hl)
    (hn0 : getL (Str.ofString "notes") e0 = some (some (.ref n0))) (hn1 : getL (Str.ofString "notes") e1 = some (some (.ref n1)))
    {ty0 ty1 tv0 tv1 : Tok} {x0 x1 : Str}
    (ht0 : getL (Str.ofString "type") e0 = some (some (.int 1 ty0))) (ht1 : getL (Str.ofString "type") e1 = some (some (.int 1 ty1)))
    (hv0 : getL (Str.ofString "value") e0 = some (some (.str x0 tv0))) (hv1 : getL (Str.ofString "value") e1 = some (some (.str x1 tv1)))
    (hc0 : getL (Str.ofString "column") e0 = some none) (hc1 : getL (Str.ofString "column") e1 = some none)
    (hl0 : getL (Str.ofString "lineno") e0 = some none) (hl1 : getL (Str.ofString "lineno") e1 = some none)
    (hp0 : getL (Str.ofString "is_pseudo") e0 = some none) (hp1 : getL (Str.ofString "is_pseudo") e1 = some none)
    (hs0 : (n0 == sysModules) = false) (hs1 : (n1 == sysModules) = false)
    (hd0 : no0.IsDictOf (strKind PP w) []) (hd1 : no1.IsDictOf (strKind PP w) [])
    (hQ : ∀ s', wpAny (model PP w) (callerA.deeper (envOf (Str.ofString "law") lawScope L fa ccd)) (execs [retStmt] (envOf (Str.ofString "law") lawScope L fa ccd)) Qr E s' → Q .next s')
    (ret : ∀ h' tk' m', Fr h₀ L h' m' → Qr (.ret (.bool true)) { s with heap := h', toks := tk' }) :
    wpAny (model PP w) (callerA.deeper (envOf (Str.ofString "law") lawScope L fa ccd)) (pyIter (.ref r)) (fun it s₂ => LoopAtV PP w (callerA.deeper (envOf (Str.ofString "law") lawScope L fa ccd)) h₀ (envOf (Str.ofString "law") lawScope L fa ccd) (Str.ofString "turn") turnBody Q E it s₂) E s := by
  obtain ⟨C, hC⟩ : ∃ C : Cn, C = { sc := sc, st := st, lv := lv, tb := tb, tkl := tkl, hl := hl, A := pick2 a0 a1, D := pick2 d0 d1, N := pick2 n0 n1, ES := pick2 e0 e1, CC := pick2 c0 c1, klv := klv, ktb := ktb, kst := kst, ksc := ksc, vs := ws, ns := nsAll.take 60 } := ⟨_, rfl⟩
  have ok : CnOk C := by
    subst hC
    exact {
      ord := ord
      nts := two hn0 hn1
      typ := two ⟨_, ht0⟩ ⟨_, ht1⟩
      val := two ⟨_, _, hv0⟩ ⟨_, _, hv1⟩
      col := two hc0 hc1
      lin := two hl0 hl1
      psd := two hp0 hp1
      sys := two hs0 hs1
      hint := hi
      hlen := by show (nsAll.take 60).length ≤ 60; rw [List.length_take]; omega }
  have g : Good w C [] [(hl, listOf #[] k2), (tkl, listOf #[] k1), (tb, listOf #[.none, .none] ktb), (lv, listOf #[.ref a0, .ref a1] klv), (f1, fo1), (n1, no1), (a1, instObj 214 d1), (d1, dictOf e1 c1), (f0, fo0), (n0, no0), (a0, instObj 214 d0), (d0, dictOf e0 c0), (st, listOf #[.ref sc, .int 0 t] kst), (sc, listOf ws.toArray ksc)] 0 0 := by
    subst hC
    have nil : ∀ a : Addr, ∀ x ∈ ([] : List (Addr × Obj)), x.1 ≠ a := fun _ _ h => nomatch h
    refine ⟨t, pick2 no0 no1, fun _ => .none, [], [], k1, k2, ?_, Nat.le_refl _⟩
    exact {
      ownIn := fun _ h => nomatch h
      mst := ⟨by simp, nil _⟩
      msc := ⟨by simp, nil _⟩
      mlv := ⟨by simp [pick2], nil _⟩
      mtb := ⟨by simp, nil _⟩
      mtk := ⟨by simp, nil _⟩
      mhl := ⟨by simp, nil _⟩
      mA := two ⟨by simp [pick2], nil _⟩ ⟨by simp [pick2], nil _⟩
      mD := two ⟨by simp [pick2], nil _⟩ ⟨by simp [pick2], nil _⟩
      mN := two ⟨by simp [pick2], nil _⟩ ⟨by simp [pick2], nil _⟩
      nr := two (.inl ⟨hd0, rfl⟩) (.inl ⟨hd1, rfl⟩)
      pq := fun _ h => nomatch h
      sep := fun _ h => nomatch h
      tk := fun _ h => nomatch h }
  have hm : Named C m := by subst hC; exact ⟨m0, m1, m2, m3, m4⟩
  obtain ⟨nn, hnn, hb⟩ := fin_range (((nsAll.length : Int) + 2).fdiv 3) (Int.fdiv_nonneg (by omega) (by omega))
  rw [hb] at rg
  refine loop_ok hnn B F hm X T N ok g rg (small_one (by omega) (by omega) (by omega) (by omega)) (by rw [rangeSize_nat]; omega) ?_
  intro m₁ nx h tk hm1 g1 F1 N1
  obtain ⟨q0, q1, q2, q3, q4⟩ := hm1
  have e : (fun y => if y = Str.ofString "leaves" then some (Value.ref C.lv) else if y = Str.ofString "table" then some (.ref C.tb) else if y = Str.ofString "tokens" then some (.ref C.tkl) else if y = Str.ofString "held" then some (.ref C.hl) else m₁ y) = m₁ := funext fun y => by
    split
    · next h => rw [h, q0]
    split
    · next h => rw [h, q1]
    split
    · next h => rw [h, q2]
    split
    · next h => rw [h, q3]
    rfl
  have F2 := F1
  rw [← e] at F2
  exact hQ _ (wpAny_execs_cons (stepR (s := { s with heap := h, toks := tk }) (m := m₁) B F2 X T N1 ok g1 hnn fun h' tk' m' F' => ret h' tk' m' F'))
end
end Mine
-- H5
local macro_rules | `(tactic| walk_at "subscriptTail Name Slice ref ref") => `(tactic| (k_here; (with_reducible show wpAny _ _ (subscriptTail _ (PySem.Expr.Slice _ _ none _) (Value.ref _) (Value.ref _)) _ _ _); k_dflt (refine' kmk_slice_lit ?F ?N ?l ?p ?q ?e ?_ ?s ?t ?z; (case F => k_asm); (case N => k_asm); (case l => exact lstK (Frag.In.keeps (by k_asm) (Fr.keep (by k_asm))) (by k_is)); (case p => kmk_part); (case q => kmk_part); (case e => kl_lit); (case s => with_unfolding_all rfl); (case t => kmk_pure); (case z => kmk_size)); intro D' h' F' N' l1; (try k_lt l1); (try k_sweep)))
set_option maxHeartbeats 8000000 in
set_option pp.deepTerms false in
theorem PySem.Challenge.cw_bu5040_01_holds : PySem.Challenge.rw_bu5040_01.Holds := by
  refine Mine.hd ?_
  w_strict (k_go0; (all_goals try k_fold); (repeat' ((fail_if_success (with_reducible show wpAny _ _ (exec (PySem.Stmt.For _ _ _ _ _) _) _ _ _)); first | (k_unfold; (try dsimp only)) | (k_end; kc_close) | walk1 | (dsimp only; walk1) | (leave1; walk_say "STEP leave1"; (try dsimp only)) | fail "no step")); (rename Fr _ _ _ _ => lF'); (with_unfolding_all refine' For_invVF lF' ?k1 ?k2 ?_); (case k1 => exact rfl); (case k2 => exact rfl); (repeat' ((fail_if_success (with_reducible show wpAny _ _ (pyIter _) _ _ _)); first | walk1 | (dsimp only; walk1))); (refine' Mine.finish ?B ?F ?X ?T ?N ?m0 ?m1 ?m2 ?m3 ?m4 ?rg ?hi ?ord ?a0 ?a1 ?b0 ?b1 ?c0 ?c1 ?d0 ?d1 ?e0 ?e1 ?f0 ?f1 ?s0 ?s1 ?h0 ?h1 ?hQ ?ret); (case B => k_asm); (case F => k_asm); (case X => k_asm); (case T => k_asm); (case N => assumption); (case m0 => k_dflt exact rfl); (case m1 => k_dflt exact rfl); (case m2 => k_dflt exact rfl); (case m3 => k_dflt exact rfl); (case m4 => k_dflt exact rfl); (case rg => assumption); (case hi => assumption); (case ord => (refine ⟨?_, ?_, ?_, ?_, ?_, ?_, ?_, ?_, ?_, ?_, ?_⟩ <;> omega)); (case a0 => k_get); (case a1 => k_get); (case b0 => k_get); (case b1 => k_get); (case c0 => k_get); (case c1 => k_get); (case d0 => k_get); (case d1 => k_get); (case e0 => k_get); (case e1 => k_get); (case f0 => k_get); (case f1 => k_get); (case s0 => assumption); (case s1 => assumption); (case h0 => assumption); (case h1 => assumption); (case hQ => (intro s' h'; exact h')); (case ret => (intro h' tk' m' F'; (try dsimp only); kc_close)))
