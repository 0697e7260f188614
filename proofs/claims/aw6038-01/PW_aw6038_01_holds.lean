import PyProof.Rows.All
import Wide.All
import OpenK.AllK
import Wide.FinOn
import PySem.Challenge.RW_aw6038_01
set_option Elab.async false
-- part HD
section
open PySem PySem.W PyProof.Rows
namespace Mine
set_option maxRecDepth 100000 in
set_option maxHeartbeats 8000000 in
open_top hd for PySem.Challenge.rw_aw6038_01
end Mine
end
theorem Mine.fill : (PySem.Challenge.rw_aw6038_01 = PySem.Challenge.rw_aw6038_01) ∧ (Mine.hd.heap_39 = Mine.hd.heap_39) := by k_fill; exact ⟨rfl, rfl⟩
-- part S1
section
open PySem PySem.W PyProof.Rows
set_option maxRecDepth 100000
namespace Mine

/-- the table of a set of ints -/
structure Tab (es : Array (Int × Value)) (t : SetTable) (ns : List Int) : Prop where
  els : ∀ e ∈ es.toList, ∃ k tk, e.2 = .int k tk ∧ e.1 = hashInt k
  mem : ∀ k, k ∈ ns ↔ ∃ e ∈ es.toList, ∃ tk, e.2 = .int k tk
  size : es.size = ns.length
  fits : t.fits es.size = true
  small : es.size < 1000

section
variable {prog : Program} {w : World} {A : Around} {E : Value → Shared → Prop} {s : Shared}
variable {a : Addr} {o : Obj} {es : Array (Int × Value)} {ep : Nat} {t : SetTable} {ns : List Int}

theorem hash_int (k : Int) : (intKind prog w).hash k = hashInt k := rfl
theorem is_int (k : Int) (v : Value) : (intKind prog w).is k v = true ↔ ∃ tk, v = .int k tk := by
  cases v <;> simp [intKind, Value.isInt]
theorem Tab.elems (H : Tab es t ns) : ElemsOf (intKind prog w) es.toList := fun e he => by
  obtain ⟨k, tk, h1, h2⟩ := H.els e he
  exact ⟨⟨k, by rw [is_int]; exact ⟨tk, h1⟩, by rw [hash_int]; exact h2⟩, by rw [h1]; rfl⟩
theorem Tab.bound (H : Tab es t ns) : es.size < scanBound := by have := H.small; unfold scanBound; omega
theorem Tab.find_some (H : Tab es t ns) {k : Int} : (es.toList.findIdx? fun e => (intKind prog w).is k e.2).isSome = decide (k ∈ ns) := by
  cases hr : es.toList.findIdx? fun e => (intKind prog w).is k e.2 with
  | none =>
    have : ¬ k ∈ ns := by
      rw [H.mem]; rintro ⟨e, he, tk, h⟩
      have := List.findIdx?_eq_none_iff.mp hr e he
      rw [(is_int k e.2).mpr ⟨tk, h⟩] at this; cases this
    simp [this]
  | some j =>
    obtain ⟨hj, hpj, _⟩ := List.findIdx?_eq_some_iff_getElem.mp hr
    have : k ∈ ns := by
      rw [H.mem]; exact ⟨es.toList[j], List.getElem_mem hj, (is_int k _).mp hpj⟩
    simp [this]

theorem setFind_i {k : Int} {tk : Tok} {Q : Option Nat → Shared → Prop} (ho : s.heap.get? a = some o) (hd : o.data = .set es ep t) (H : Tab es t ns)
    (h : ∀ r : Option Nat, r = es.toList.findIdx? (fun e => (intKind prog w).is k e.2) → r.isSome = decide (k ∈ ns) → Q r s) :
    wpAny (model prog w) A (setFind a (.int k tk) ((intKind prog w).hash k)) Q E s := by
  unfold setFind setFindIn
  refine wpAny_bind (wpAny_setState_of ho hd H.fits ?_)
  dsimp only
  rw [byScan_of (knd := intKind prog w) rfl H.bound H.elems]
  simp only [↓reduceIte]
  refine wpAny_bind (wpAny_rule ?_)
  refine wpAny_bind (wpAny_setScan_of (knd := intKind prog w) (intKind_is _ _ _ _) ho hd H.fits H.elems ?_)
  have hf := H.find_some (prog := prog) (w := w) (k := k)
  cases hr : List.findIdx? (fun e => (intKind prog w).is k e.2) es.toList with
  | none => rw [hr] at hf; exact wpAny_pure (h none hr.symm hf)
  | some j => rw [hr] at hf; dsimp only; rw [Nat.zero_add]; exact wpAny_pure (h (some j) hr.symm hf)

/-- what an add of an absent element makes of the table -/
def addP (es : Array (Int × Value)) (t : SetTable) (h : Int) (x : Value) : Array (Int × Value) × SetTable :=
  let L := layNew t es h x
  if (!L.2.2.1 && L.2.1.tooFull) = true then ((relayAll L.2.1 L.1 (SetTable.grown L.1.size)).1, (relayAll L.2.1 L.1 (SetTable.grown L.1.size)).2.1) else (L.1, L.2.1)
def addOf (es : Array (Int × Value)) (t : SetTable) (ns : List Int) (k : Int) (tk : Tok) : Array (Int × Value) × SetTable :=
  if k ∈ ns then (es, t) else addP es t (hashInt k) (.int k tk)
def addN (ns : List Int) (k : Int) : List Int := if k ∈ ns then ns else ns ++ [k]

theorem addP_perm (h : Int) (x : Value) : (addP es t h x).1.toList.Perm (es.toList ++ [(h, x)]) := by
  have h1 := layNew_perm t es h x
  rw [Array.toList_push] at h1
  unfold addP
  dsimp only
  split
  · exact (relayAll_perm _ _ _).trans h1
  · exact h1
theorem addP_fits (h : Int) (x : Value) : (addP es t h x).2.fits (addP es t h x).1.size = true := by
  unfold addP
  dsimp only
  split
  · exact relayAll_fits _ _ _
  · exact layNew_fits _ _ _ _
theorem addP_size (h : Int) (x : Value) : (addP es t h x).1.size = es.size + 1 := by
  rw [← Array.length_toList, (addP_perm h x).length_eq, List.length_append, Array.length_toList]; rfl

theorem Tab.add (H : Tab es t ns) (k : Int) (tk : Tok) (hs : es.size < 900) : Tab (addOf es t ns k tk).1 (addOf es t ns k tk).2 (addN ns k) := by
  unfold addOf addN
  by_cases hk : k ∈ ns
  · simp only [if_pos hk]; exact H
  simp only [if_neg hk]
  have hp := addP_perm (es := es) (t := t) (hashInt k) (.int k tk)
  refine ⟨fun e he => ?_, fun k' => ?_, ?_, addP_fits _ _, ?_⟩
  · rcases List.mem_append.mp (hp.mem_iff.mp he) with he | he
    · exact H.els e he
    · rw [List.mem_singleton] at he; subst he; exact ⟨k, tk, rfl, rfl⟩
  · rw [List.mem_append, List.mem_singleton, H.mem]
    constructor
    · rintro (⟨e, he, tk', h⟩ | rfl)
      · exact ⟨e, hp.mem_iff.mpr (List.mem_append_left _ he), tk', h⟩
      · exact ⟨_, hp.mem_iff.mpr (List.mem_append_right _ (List.mem_singleton.mpr rfl)), tk, rfl⟩
    · rintro ⟨e, he, tk', h⟩
      rcases List.mem_append.mp (hp.mem_iff.mp he) with he | he
      · exact .inl ⟨e, he, tk', h⟩
      · rw [List.mem_singleton] at he; subst he
        injection h with h; exact .inr h.symm
  · rw [addP_size, H.size, List.length_append]; rfl
  · rw [addP_size]; omega

theorem setAddHashed_i {k : Int} {tk : Tok} {Q : Bool → Shared → Prop} (ho : s.heap.get? a = some o) (hd : o.data = .set es ep t) (H : Tab es t ns) (hs : es.size < 900)
    (h : ∀ h' ep', Heap.SameBut a s.heap h' → h'.get? a = some { o with data := .set (addOf es t ns k tk).1 ep' (addOf es t ns k tk).2 } → Q (!decide (k ∈ ns)) { s with heap := h' }) :
    wpAny (model prog w) A (setAddHashed a (.int k tk) ((intKind prog w).hash k)) Q E s := by
  unfold setAddHashed setAddHashedIn
  refine wpAny_holding (wpAny_bind (wpAny_setState_of ho hd H.fits ?_))
  dsimp only
  rw [byScan_of (knd := intKind prog w) rfl H.bound H.elems]
  simp only [↓reduceIte]
  unfold setAddByScan
  refine wpAny_bind ?_
  refine wpAny_bind (wpAny_rule ?_)
  refine wpAny_bind (wpAny_setScan_of (knd := intKind prog w) (intKind_is _ _ _ _) ho hd H.fits H.elems ?_)
  have hf := H.find_some (prog := prog) (w := w) (k := k)
  cases hr : List.findIdx? (fun e => (intKind prog w).is k e.2) es.toList with
  | some j =>
    rw [hr] at hf
    have hk : k ∈ ns := by simpa using hf.symm
    dsimp only
    refine wpAny_pure (wpAny_pure ?_)
    have e : s = { s with heap := s.heap } := by cases s; rfl
    have := h s.heap ep (Heap.SameBut.refl a s.heap) (by rw [ho]; unfold addOf; simp only [if_pos hk]; rw [← hd])
    rw [e]; simpa [hk] using this
  | none =>
    rw [hr] at hf
    have hk : ¬ k ∈ ns := by simpa using hf.symm
    dsimp only
    have hgw : ∀ (b : Bool) {s₁ : Shared} {Q' : Unit → Shared → Prop}, Q' () s₁ → wpAny (model prog w) A (match b with | true => rule "set.scan.the-table-gave-way" | false => pure ()) Q' E s₁ :=
      fun b s₁ Q' hq => by cases b <;> first | exact wpAny_pure hq | exact wpAny_rule hq
    rw [hash_int]
    have hz : (addP es t (hashInt k) (.int k tk)).1.size ≤ sizeLine := by rw [addP_size, sizeLine_eq]; omega
    have hz1 : (layNew t es (hashInt k) (.int k tk)).1.size ≤ sizeLine := by
      have := layNew_perm t es (hashInt k) (.int k tk)
      rw [← Array.length_toList, this.length_eq, Array.length_toList, Array.size_push, sizeLine_eq]; omega
    have hh : ∀ h' ep', Heap.SameBut a s.heap h' → h'.get? a = some { o with data := .set (addP es t (hashInt k) (.int k tk)).1 ep' (addP es t (hashInt k) (.int k tk)).2 } → Q true { s with heap := h' } := by
      intro h' ep' h1 h2
      have := h h' ep' h1 (by unfold addOf; simp only [if_neg hk]; exact h2)
      simpa [hk] using this
    unfold addP at hh hz
    dsimp only at hh hz
    generalize layNew t es (hashInt k) (.int k tk) = L at hz1 hz hh ⊢
    obtain ⟨es1, t1, wd, gv⟩ := L
    dsimp only at hz1 hz hh ⊢
    refine wpAny_bind (hgw _ ?_)
    have hst : ∀ {X : Sem (Option Bool)} {R : Option Bool → Shared → Prop} {S0 : Shared}, wpAny (model prog w) A X R E S0 → wpAny (model prog w) A X R E S0 := fun x => x
    have tail : wpAny (model prog w) A (do
        storeSet a es1 t1
        if (!wd && t1.tooFull) = true then do
            (match (relayAll t1 es1 (SetTable.grown es1.size)).2.2 with | true => rule "set.scan.the-table-gave-way" | false => pure ())
            storeSet a (relayAll t1 es1 (SetTable.grown es1.size)).1 (relayAll t1 es1 (SetTable.grown es1.size)).2.1
            pure (some true)
          else pure (some true)) (fun r s' => wpAny (model prog w) A (match r with | some added => pure added | none => setAddHashedIn a (Value.int k tk) (hashInt k) 99999) Q E s') E s := by
      refine wpAny_bind (wpAny_storeSet_of ho hd ?_ hz1)
      have hg : (s.heap.update a (Obj.putSet es1 t1)).get? a = some { o with data := .set es1 (ep + 1) t1 } := by
        have := Heap.get?_update_self (Obj.putSet es1 t1) ho (by rw [putSet_of es1 t1 hd]; rfl)
        rw [putSet_of es1 t1 hd] at this; exact this
      split
      · rename_i hc
        simp only [if_pos hc] at hh hz
        generalize relayAll t1 es1 (SetTable.grown es1.size) = R at hz hh ⊢
        obtain ⟨es2, t2, g2⟩ := R
        dsimp only at hz hh ⊢
        refine wpAny_bind (hgw _ ?_)
        refine wpAny_bind (wpAny_storeSet_of hg rfl ?_ hz)
        refine wpAny_pure (wpAny_pure ?_)
        refine hh _ (ep + 1 + 1) ((Heap.SameBut.update _ a _).trans (Heap.SameBut.update _ a _)) ?_
        have := Heap.get?_update_self (Obj.putSet es2 t2) hg (by rw [putSet_of es2 t2 rfl]; rfl)
        rw [putSet_of es2 t2 rfl] at this; exact this
      · rename_i hc
        simp only [if_neg hc] at hh
        exact wpAny_pure (wpAny_pure (hh _ (ep + 1) (Heap.SameBut.update _ a _) hg))
    split
    · refine wpAny_bind (wpAny_of_eq (hashByValue_scannable 8 (x := .int k tk) rfl) ?_)
      exact tail
    · refine wpAny_bind (wpAny_pure ?_)
      exact tail
end
end Mine
end
-- part S2
section
open PySem PySem.W PyProof.Rows
set_option maxRecDepth 100000
namespace Mine

section
variable {prog : Program} {w : World} {A : Around} {E : Value → Shared → Prop} {s : Shared}

theorem k236 : typeIn (Mine.hd.heap_39 w.params) (.ref 236) = some (.type "list") := by k_is
theorem k237 : typeIn (Mine.hd.heap_39 w.params) (.ref 237) = some (.type "dict") := by k_is
theorem k239 : typeIn (Mine.hd.heap_39 w.params) (.ref 239) = some (.type "tuple") := by k_is
theorem k240 : typeIn (Mine.hd.heap_39 w.params) (.ref 240) = some (.type "list") := by k_is
theorem k236h : specialIn (Mine.hd.heap_39 w.params) (.ref 236) "__hash__" = some (some .none) := by k_is
theorem k237h : specialIn (Mine.hd.heap_39 w.params) (.ref 237) "__hash__" = some (some .none) := by k_is
theorem k238h : specialIn (Mine.hd.heap_39 w.params) (.ref 238) "__hash__" = some (some .none) := by k_is
theorem k240h : specialIn (Mine.hd.heap_39 w.params) (.ref 240) "__hash__" = some (some .none) := by k_is
theorem k239h : specialIn (Mine.hd.heap_39 w.params) (.ref 239) "__hash__" = some (some (.builtin "tuple.__hash__")) := by k_is
theorem k238 : typeIn (Mine.hd.heap_39 w.params) (.ref 238) = some (.type "list") := by k_is

theorem typeIs_of {K : Frag} (X : K.In s.heap) {v : Value} {T : String} (h : typeIn K v = some (.type T)) : ∃ a, v = .ref a → s.TypeIs v T := ⟨0, fun e => by
  subst e
  obtain ⟨o, ho, hc⟩ := Option.map_eq_some_iff.mp h
  exact ⟨o, X _ _ ho, hc⟩⟩
theorem refType {K : Frag} {a : Addr} (X : K.In s.heap) {T : String} (h : typeIn K (.ref a) = some (.type T)) : s.TypeIs (.ref a) T := by
  obtain ⟨o, ho, hc⟩ := Option.map_eq_some_iff.mp h
  exact ⟨o, X _ _ ho, hc⟩

/-- a thing whose type's hash is None -/
theorem hash_none {K : Frag} {a : Addr} {T : String} {Q : Int → Shared → Prop} (X : K.In s.heap) (ht : typeIn K (.ref a) = some (.type T)) (hn : specialIn K (.ref a) "__hash__" = some (some .none))
    (hne : (Value.type T == Value.type "builtin_function_or_method") = false) (hz : ((s!"unhashable type: '{shownName T}'" : String) : Str).length ≤ sizeLine)
    (hh : A.handled = none) (hu : A.units < cLine)
    (hE : ∀ h' tk e, Heap.NewExc s.heap h' e "TypeError" → E (.ref e) { s with heap := h', toks := tk }) : wpAny (model prog w) A (pyHash (.ref a)) Q E s := by
  show wpAny _ _ (pyHashByItsType (.ref a)) _ _ _
  unfold pyHashByItsType
  refine wpAny_bind (wpAny_cRoomFor hu ?_)
  refine wpAny_bind ((looks_specialIn X hn).here ?_)
  rw [if_pos (by rfl)]
  refine wpAny_bind (wpAny_rule ?_)
  refine wpAny_bind (wpAny_typeNameOf' (refType X ht) hne ?_)
  exact wpAny_bind (wpAny_raiseErrorMade plainExc_TypeError hh hE hz)

theorem un_list : ((s!"unhashable type: '{shownName "list"}'" : String) : Str).length ≤ sizeLine := by rw [sizeLine_eq]; decide +kernel
theorem un_dict : ((s!"unhashable type: '{shownName "dict"}'" : String) : Str).length ≤ sizeLine := by rw [sizeLine_eq]; decide +kernel
theorem entry_tuple_hash : entryFor table "tuple.__hash__" = some Builtin.«tuple.__hash__» := entryFor_of_tree (by kernel_rfl)
theorem slot_tuple_hash : Slot "tuple" "__hash__" "tuple.__hash__" :=
  .of (owner := "tuple") (n := "__hash__") (by rw [typeLookup_type, builtinLookup_eq_fast]; kernel_rfl) (by decide +kernel) (by decide +kernel) (by decide +kernel)
    (by first | exact .inl (by decide +kernel) | exact .inr (by decide +kernel)) (by rw [isSubtype_type]; kernel_rfl)
theorem args_tuple_hash (a : Value) : argsOk "tuple.__hash__" ⟨[a], []⟩ := by unfold argsOk; kernel_rfl

def Wrong (v : Value) : Prop := v = .ref 236 ∨ v = .ref 237 ∨ v = .ref 239 ∨ v = .ref 240

theorem hash_wrong {v : Value} {Q : Int → Shared → Prop} (hw : Wrong v) (X : (Mine.hd.heap_39 w.params).In s.heap)
    (hh : A.handled = none) (hu : A.units + 2 < cLine)
    (hE : ∀ h' tk e, Heap.NewExc s.heap h' e "TypeError" → E (.ref e) { s with heap := h', toks := tk }) : wpAny (model prog w) A (pyHash v) Q E s := by
  rcases hw with rfl | rfl | rfl | rfl
  · exact hash_none X k236 k236h (by decide) un_list hh (by omega) hE
  · exact hash_none X k237 k237h (by decide) un_dict hh (by omega) hE
  · show wpAny _ _ (pyHashByItsType (.ref 239)) _ _ _
    unfold pyHashByItsType
    refine wpAny_bind (wpAny_cRoomFor (by omega) ?_)
    refine wpAny_bind ((looks_specialIn X k239h).here ?_)
    rw [if_neg (by rw [show (some (Value.builtin "tuple.__hash__") == some Value.none) = false from by decide +kernel]; exact Bool.false_ne_true)]
    refine wpAny_bind ((looks_specialIn X k239h).here ?_)
    dsimp only
    refine wpAny_bind ?_
    unfold callSpecialIfBoundUnlessNone? bindSpecialIfBound?
    refine wpAny_holding (wpAny_bind (wpAny_bind ((looks_specialIn X k239h).here ?_)))
    dsimp only
    refine wpAny_bind (wpAny_askSetting ?_)
    rw [slot_tuple_hash.bind]
    have body : wpAny (model prog w) A (if (Value.builtin "tuple.__hash__" == Value.none) = true then do
            let a ← (do
                rule "hash.unhashable"
                let n ← PySem.typeNameOf (Value.ref 239)
                raiseErrorMade "TypeError" (toString "unhashable type: '" ++ toString n ++ toString "'") : Sem Value)
            pure (some a)
          else do
            let a ← call (Value.builtin "tuple.__hash__") [.ref 239]
            pure (some a)) (fun _ _ => False) E s := by
      rw [if_neg (by rw [show (Value.builtin "tuple.__hash__" == Value.none) = false from by decide +kernel]; exact Bool.false_ne_true)]
      refine wpAny_bind (wpAny_call_entry slot_tuple_hash (refType X k239) entry_tuple_hash ?_ (args_tuple_hash _))
      unfold Builtin.«tuple.__hash__»
      refine wpAny_bind (m := slotArgs "__hash__" 0 { pos := [Value.ref 239] }) (wpAny_pure ?_)
      dsimp only
      have h239 : s.heap.get? 239 = some { cls := Value.type "tuple", data := Data.seq #[Value.ref 238] } := X _ _ (by rfl)
      refine wpAny_bind ?_
      unfold Builtin.Tuple.tupleItemsOf
      refine wpAny_bind (wpAny_seqItems h239 rfl ?_)
      refine wpAny_pure ?_
      rw [Array.forIn_toList.symm]
      show wpAny _ _ (forIn [Value.ref 238] _ _ >>= _) _ _ _
      rw [List.forIn_cons]
      refine wpAny_bind (wpAny_bind (wpAny_bind ?_))
      exact hash_none X k238 k238h (by decide) un_list hh (by show A.units + 1 < cLine; omega) hE
    split
    · exact wpAny_bind (wpAny_pure (wpAny_pure (wpAny_mono body (fun _ _ z => z.elim) (fun _ _ z => z))))
    · exact wpAny_tryCatch (wpAny_bind (wpAny_pure (wpAny_pure (wpAny_mono body (fun _ _ z => z.elim) (fun _ _ z => z)))))
  · exact hash_none X k240 k240h (by decide) un_list hh (by omega) hE
end
end Mine
end
-- part P0
section
open PySem PySem.W PyProof.Rows
set_option maxRecDepth 100000
namespace Mine

/-- strictly rising, all at most m -/
def Rising (l : List Nat) (m : Nat) : Prop := l.Pairwise (· < ·) ∧ ∀ x ∈ l, x ≤ m

structure Lay (es : Array (Int × Value)) (t : SetTable) : Prop where
  dum : t.dummies = #[]
  ris : Rising t.place.toList t.mask
  cs : (t.mask = 7 ∧ es.size ≤ 4) ∨ (t.mask = 31 ∧ 5 ≤ es.size ∧ t.place.toList = es.toList.map fun e => e.1.toNat)

structure Good (es : Array (Int × Value)) (t : SetTable) (ns : List Int) : Prop where
  tab : Tab es t ns
  lay : Lay es t
  nodup : ns.Nodup
  range : ∀ k ∈ ns, 0 ≤ k ∧ k < 12
  keys : (es.toList.map fun e => e.1).Perm ns

theorem hash_small {k : Int} (h0 : 0 ≤ k) (h1 : k < 12) : hashInt k = k := by
  have : ∀ n : Fin 12, hashInt (n.val : Int) = (n.val : Int) := by decide +kernel
  have := this ⟨k.toNat, by omega⟩
  simp only at this
  rw [show ((k.toNat : Nat) : Int) = k by omega] at this
  exact this

theorem nodup_len : ∀ (m : Nat) (ns : List Int), ns.Nodup → (∀ k ∈ ns, 0 ≤ k ∧ k < (m : Int)) → ns.length ≤ m
  | 0, [], _, _ => Nat.le_refl _
  | 0, k :: r, _, h => by have := h k (.head _); omega
  | m + 1, ns, hn, h => by
    have h1 : (ns.filter (fun k => decide (k ≠ (m : Int)))).length ≤ m := by
      refine nodup_len m _ (hn.filter _) fun k hk => ?_
      rw [List.mem_filter] at hk
      have := h k hk.1
      have h2 : k ≠ (m : Int) := by simpa using hk.2
      omega
    have h2 : ns.length ≤ (ns.filter (fun k => decide (k ≠ (m : Int)))).length + 1 := by
      clear h h1
      induction ns with
      | nil => simp
      | cons a r ih =>
        rw [List.nodup_cons] at hn
        by_cases ha : a = (m : Int)
        · have : r.filter (fun k => decide (k ≠ (m : Int))) = r := by
            rw [List.filter_eq_self]; intro x hx
            have : x ≠ (m : Int) := fun e => hn.1 (by rw [ha, ← e]; exact hx)
            simpa using this
          rw [List.filter_cons]; simp [ha]; rw [show (fun k => !decide (k = (m : Int))) = (fun k => decide (k ≠ (m : Int))) from by funext k; simp]; rw [this]; omega
        · rw [List.filter_cons]; simp [ha]
          have := ih hn.2
          simpa using this
    omega
theorem Good.size {es t ns} (G : Good es t ns) : es.size ≤ 12 := by
  rw [G.tab.size]; exact nodup_len 12 ns G.nodup G.range

end Mine
end
-- part P1
section
open PySem PySem.W PyProof.Rows
set_option maxRecDepth 100000
namespace Mine
open SetTable

theorem below_go {xs : Array Nat} {j : Nat} (hs : xs.toList.Pairwise (· < ·)) : ∀ (fuel lo hi : Nat), hi - lo ≤ fuel → lo ≤ hi → hi ≤ xs.size →
    (∀ i, i < lo → xs.getD i j < j) → (∀ i, hi ≤ i → i < xs.size → j ≤ xs.getD i j) →
    below.go xs j fuel lo hi ≤ xs.size ∧ (∀ i, i < below.go xs j fuel lo hi → xs.getD i j < j) ∧ (∀ i, below.go xs j fuel lo hi ≤ i → i < xs.size → j ≤ xs.getD i j)
  | 0, lo, hi, h1, h2, h3, h4, h5 => by
    have : lo = hi := by omega
    subst this
    exact ⟨h3, h4, h5⟩
  | fuel + 1, lo, hi, h1, h2, h3, h4, h5 => by
    have mono : ∀ a b, a < b → b < xs.size → xs.getD a j < xs.getD b j := by
      intro a b hab hb
      have hp := List.pairwise_iff_getElem.mp hs a b (by rw [Array.length_toList]; omega) (by rw [Array.length_toList]; omega) hab
      simp only [Array.getElem_toList] at hp
      rw [Array.getD_eq_getD_getElem?, Array.getD_eq_getD_getElem?, Array.getElem?_eq_getElem (by omega), Array.getElem?_eq_getElem hb]
      exact hp
    unfold below.go
    by_cases hlt : lo < hi
    · rw [if_pos hlt]
      dsimp only
      have hm : (lo + hi) / 2 < hi ∧ lo ≤ (lo + hi) / 2 := by omega
      by_cases hc : xs.getD ((lo + hi) / 2) j < j
      · rw [if_pos hc]
        refine below_go hs fuel _ hi (by omega) (by omega) h3 (fun i hi' => ?_) h5
        by_cases he : i = (lo + hi) / 2
        · rw [he]; exact hc
        · have := mono i ((lo + hi) / 2) (by omega) (by omega); omega
      · rw [if_neg hc]
        refine below_go hs fuel lo _ (by omega) (by omega) (by omega) h4 (fun i hi' hi2 => ?_)
        by_cases he : i = (lo + hi) / 2
        · rw [he]; omega
        · have := mono ((lo + hi) / 2) i (by omega) hi2; omega
    · rw [if_neg hlt]
      have : lo = hi := by omega
      subst this
      exact ⟨h3, h4, h5⟩

theorem below_spec {xs : Array Nat} {j : Nat} (hs : xs.toList.Pairwise (· < ·)) : below xs j ≤ xs.size ∧ (∀ x ∈ xs.toList.take (below xs j), x < j) ∧ (∀ x ∈ xs.toList.drop (below xs j), j ≤ x) := by
  have h := below_go (j := j) hs xs.size 0 xs.size (by omega) (by omega) (Nat.le_refl _) (fun i hi => by omega) (fun i h1 h2 => by omega)
  refine ⟨h.1, fun x hx => ?_, fun x hx => ?_⟩
  · obtain ⟨i, hi, rfl⟩ := List.mem_iff_getElem.mp hx
    have hi2 : i < below xs j ∧ i < xs.size := by have := hi; rw [List.length_take, Array.length_toList] at this; omega
    have := h.2.1 i (by unfold below at hi2; omega)
    rw [Array.getD_eq_getD_getElem?, Array.getElem?_eq_getElem hi2.2] at this
    simpa using this
  · obtain ⟨i, hi, rfl⟩ := List.mem_iff_getElem.mp hx
    have hi2 : below xs j + i < xs.size := by have := hi; rw [List.length_drop, Array.length_toList] at this; omega
    have := h.2.2 (below xs j + i) (by unfold below; omega) hi2
    rw [Array.getD_eq_getD_getElem?, Array.getElem?_eq_getElem hi2] at this
    simpa using this

/-- a slot's place put in order -/
theorem insert_rising {xs : Array Nat} {j m : Nat} (hs : Rising xs.toList m) (hj : j ∉ xs.toList) (hm : j ≤ m) : Rising (insertAt xs (below xs j) j).toList m := by
  obtain ⟨h1, h2, h3⟩ := below_spec (j := j) hs.1
  rw [SetTable.toList_insertAt]
  refine ⟨?_, ?_⟩
  · rw [List.pairwise_append, List.pairwise_cons]
    refine ⟨hs.1.sublist (List.take_sublist _ _), ⟨fun x hx => ?_, hs.1.sublist (List.drop_sublist _ _)⟩, fun a ha b hb => ?_⟩
    · have := h3 x hx
      have : x ≠ j := fun e => hj (e ▸ List.mem_of_mem_drop hx)
      omega
    · rcases List.mem_cons.mp hb with rfl | hb
      · exact h2 a ha
      · have := h2 a ha; have := h3 b hb; omega
  · intro x hx
    rcases List.mem_append.mp hx with hx | hx
    · exact hs.2 x (List.mem_of_mem_take hx)
    · rcases List.mem_cons.mp hx with rfl | hx
      · exact hm
      · exact hs.2 x (List.mem_of_mem_drop hx)

theorem slot_empty {t : SetTable} {j : Nat} (hd : t.dummies = #[]) (hj : j ∉ t.place.toList) : t.slot j = .empty := by
  unfold SetTable.slot
  dsimp only
  rw [if_neg ?_, if_neg ?_]
  · unfold SetTable.has
    rw [hd]; simp
  · intro h
    have h := eq_of_beq h
    exact hj (Array.mem_toList_iff.mpr (Array.mem_of_getElem? h))

theorem free_31 {t : SetTable} {h : Int} (hd : t.dummies = #[]) (hm : t.mask = 31) (h0 : 0 ≤ h) (h1 : h < 12) (hj : h.toNat ∉ t.place.toList) : t.freeSlot h = some (h.toNat, false) := by
  have hb : bits h = h.toNat := by unfold bits; omega
  have hi : bits h % (t.mask + 1) = h.toNat := by rw [hb, hm]; omega
  unfold SetTable.freeSlot SetTable.probe
  rw [hm]
  show (match SetTable.probe.go t (fun _ => h + 1) h 460 (t.probeStart h) with | some (.empty j dummy) => some (dummy.getD j, dummy.isSome) | _ => none) = _
  rw [show (460 : Nat) = 459 + 1 from rfl]
  unfold SetTable.probe.go
  rw [show (t.probeStart h).j = h.toNat from hi, slot_empty hd hj]
  rfl

/-- only mask, places and dummies tell the free slot -/
theorem go_congr {t t' : SetTable} (h1 : t.mask = t'.mask) (h2 : t.place = t'.place) (h3 : t.dummies = t'.dummies) (f : Nat → Int) (h : Int) : ∀ (n : Nat) (p : Probe), SetTable.probe.go t f h n p = SetTable.probe.go t' f h n p
  | 0, _ => rfl
  | n + 1, p => by
    have hs : ∀ j, t.slot j = t'.slot j := fun j => by unfold SetTable.slot; rw [h2, h3]
    have ha : ∀ p, t.advance p = t'.advance p := fun p => by unfold SetTable.advance; rw [h1]
    unfold SetTable.probe.go
    rw [hs]
    cases t'.slot p.j with
    | empty => rfl
    | dummy => dsimp only; rw [ha]; exact go_congr h1 h2 h3 f h n _
    | live i => dsimp only; rw [ha]; split <;> first | rfl | exact go_congr h1 h2 h3 f h n _
theorem free_congr {t t' : SetTable} (h1 : t.mask = t'.mask) (h2 : t.place = t'.place) (h3 : t.dummies = t'.dummies) (h : Int) : t.freeSlot h = t'.freeSlot h := by
  unfold SetTable.freeSlot SetTable.probe
  rw [go_congr h1 h2 h3, h1]
  unfold SetTable.probeStart
  rw [h1]

def small7 (b : Nat) : SetTable := { mask := 7, place := ((List.range 8).filter fun x => b.testBit x).toArray, dummies := #[], finger := 0, led := true, moves := 0, plain := true }
def free7 (b : Nat) (h : Int) : Bool := (((List.range 8).filter fun x => b.testBit x).length > 4) || (match (small7 b).freeSlot h with | some (j, d) => !d && decide (j ≤ 7) && !b.testBit j | none => false)
theorem free7_all : ∀ b : Fin 256, ∀ h : Fin 12, free7 b.val (h.val : Int) = true := by decide +kernel

end Mine
end
-- part P2
section
open PySem PySem.W PyProof.Rows
set_option maxRecDepth 100000
namespace Mine
open SetTable

theorem rising_filter {l : List Nat} {n : Nat} (h : Rising l n) : l = (List.range (n + 1)).filter fun x => decide (x ∈ l) := by
  refine List.Perm.eq_of_pairwise (le := (· < ·)) (fun a b _ _ h1 h2 => by omega) h.1 (List.pairwise_lt_range.filter _) ?_
  refine (List.perm_ext_iff_of_nodup (h.1.imp fun h => Nat.ne_of_lt h) (List.nodup_range.filter _)).mpr fun x => ?_
  rw [List.mem_filter, List.mem_range]
  exact ⟨fun hx => ⟨Nat.lt_succ_of_le (h.2 x hx), by simpa using hx⟩, fun hx => by simpa using hx.2⟩

/-- a set of places as a number -/
def ofB (p : Nat → Bool) : Nat → Nat
  | 0 => 0
  | n + 1 => 2 * ofB (fun x => p (x + 1)) n + (p 0).toNat
theorem ofB_lt : ∀ (n : Nat) (p : Nat → Bool), ofB p n < 2 ^ n
  | 0, _ => Nat.one_pos
  | n + 1, p => by
    have := ofB_lt n (fun x => p (x + 1))
    have h : (p 0).toNat ≤ 1 := Bool.toNat_le _
    unfold ofB
    rw [Nat.pow_succ]; omega
theorem ofB_test : ∀ (n : Nat) (p : Nat → Bool) (x : Nat), x < n → (ofB p n).testBit x = p x
  | 0, _, _, h => absurd h (Nat.not_lt_zero _)
  | n + 1, p, 0, _ => by
    unfold ofB
    rw [Nat.testBit_zero]
    cases p 0 <;> simp <;> omega
  | n + 1, p, x + 1, h => by
    unfold ofB
    rw [Nat.testBit_succ]
    have : (2 * ofB (fun x => p (x + 1)) n + (p 0).toNat) / 2 = ofB (fun x => p (x + 1)) n := by
      have h : (p 0).toNat ≤ 1 := Bool.toNat_le _
      omega
    rw [this]
    exact ofB_test n _ x (by omega)
def asBits (l : List Nat) : Nat := ofB (fun x => decide (x ∈ l)) 8
theorem asBits_lt (l : List Nat) : asBits l < 256 := ofB_lt 8 _
theorem asBits_test (l : List Nat) (x : Nat) (hx : x < 8) : (asBits l).testBit x = decide (x ∈ l) := ofB_test 8 _ x hx

theorem free_7 {t : SetTable} {h : Int} (hd : t.dummies = #[]) (hm : t.mask = 7) (hr : Rising t.place.toList 7) (hn : t.place.size ≤ 4) (h0 : 0 ≤ h) (h1 : h < 12) :
    ∃ j, t.freeSlot h = some (j, false) ∧ j ≤ 7 ∧ j ∉ t.place.toList := by
  have hp : t.place.toList = (List.range 8).filter fun x => (asBits t.place.toList).testBit x := by
    conv => lhs; rw [rising_filter hr]
    refine List.filter_congr fun x hx => ?_
    rw [asBits_test _ x (List.mem_range.mp hx)]
  have ha := free7_all ⟨asBits t.place.toList, asBits_lt _⟩ ⟨h.toNat, by omega⟩
  simp only at ha
  rw [show ((h.toNat : Nat) : Int) = h by omega] at ha
  unfold free7 at ha
  have hc : t.freeSlot h = (small7 (asBits t.place.toList)).freeSlot h := by
    refine free_congr (by rw [hm]; rfl) ?_ (by rw [hd]; rfl) h
    show t.place = ((List.range 8).filter fun x => (asBits t.place.toList).testBit x).toArray
    rw [← hp]
  rw [← hp, ← hc, Array.length_toList] at ha
  have hg : decide (t.place.size > 4) = false := by simp; omega
  rw [hg, Bool.false_or] at ha
  cases hf : t.freeSlot h with
  | none => rw [hf] at ha; cases ha
  | some r =>
    obtain ⟨j, d⟩ := r
    rw [hf] at ha
    simp only [Bool.and_eq_true, Bool.not_eq_true', decide_eq_true_eq] at ha
    obtain ⟨⟨rfl, h2⟩, h3⟩ := ha
    refine ⟨j, rfl, h2, fun hx => ?_⟩
    rw [asBits_test _ j (by omega)] at h3
    simp [hx] at h3

/-- where the j-th hash of distinct small ones lies -/
theorem findIdx_append_one {l : List Int} {h : Int} {j : Nat} (hn : h ∉ l) : (l ++ [h]).findIdx? (fun x => x == (j : Int)) = if h = (j : Int) then some l.length else l.findIdx? (fun x => x == (j : Int)) := by
  rw [List.findIdx?_append]
  by_cases hj : h = (j : Int)
  · rw [if_pos hj]
    have : l.findIdx? (fun x => x == (j : Int)) = none := by
      rw [List.findIdx?_eq_none_iff]; intro x hx
      have : x ≠ (j : Int) := fun e => hn (by rw [hj, ← e]; exact hx)
      simpa using this
    rw [this]
    simp [List.findIdx?_cons, hj]
  · rw [if_neg hj]
    have : (h == (j : Int)) = false := by simpa using hj
    simp [List.findIdx?_cons, this]

structure Owns (owner : Array (Option Nat)) (p : List Int) (mask : Nat) : Prop where
  size : owner.size = mask + 1
  at_ : ∀ j, owner.getD j none = p.findIdx? (fun x => x == (j : Int))

theorem free_own {owner : Array (Option Nat)} {p : List Int} {mask : Nat} {h : Int} (O : Owns owner p mask) (hm : 12 ≤ mask) (h0 : 0 ≤ h) (h1 : h < 12) (hn : h ∉ p) (fuel : Nat) :
    layClean.free mask owner (fuel + 1) (bits h % (mask + 1)) (bits h) = some h.toNat := by
  have hb : bits h % (mask + 1) = h.toNat := by
    have : bits h = h.toNat := by unfold bits; omega
    rw [this, Nat.mod_eq_of_lt (by omega)]
  rw [hb]
  unfold layClean.free
  have hr : ∃ n, runEnd mask h.toNat + 1 - h.toNat = n + 1 := ⟨runEnd mask h.toNat - h.toNat, by unfold runEnd; split <;> omega⟩
  obtain ⟨n, hr⟩ := hr
  have hat := O.at_ h.toNat
  rw [show ((h.toNat : Nat) : Int) = h by omega] at hat
  have hnone : p.findIdx? (fun x => x == h) = none := by
    rw [List.findIdx?_eq_none_iff]; intro x hx
    have : x ≠ h := fun e => hn (e ▸ hx)
    simpa using this
  rw [hnone] at hat
  have hlt : h.toNat < owner.size := by rw [O.size]; omega
  have hz : owner.getD (h.toNat + 0) (some 0) = none := by
    rw [Nat.add_zero]
    rw [Array.getD_eq_getD_getElem?, Array.getElem?_eq_getElem hlt] at hat ⊢
    exact hat
  rw [hr, List.range_succ_eq_map, List.find?_cons, hz]
  rfl

theorem own_step {owner : Array (Option Nat)} {p : List Int} {mask : Nat} {h : Int} (O : Owns owner p mask) (hm : 12 ≤ mask) (h0 : 0 ≤ h) (h1 : h < 12) (hn : h ∉ p) : Owns (owner.setIfInBounds h.toNat (some p.length)) (p ++ [h]) mask := by
  refine ⟨by simpa using O.size, fun j => ?_⟩
  rw [findIdx_append_one hn, ← O.at_ j]
  have hlt : h.toNat < owner.size := by rw [O.size]; omega
  rw [Array.getD_eq_getD_getElem?, Array.getD_eq_getD_getElem?, Array.getElem?_setIfInBounds]
  by_cases hj : h = (j : Int)
  · rw [if_pos hj]
    have : h.toNat = j := by omega
    rw [if_pos this, if_pos (by omega)]; rfl
  · rw [if_neg hj, if_neg (by omega)]

theorem layClean_go {mask : Nat} (hm : 12 ≤ mask) : ∀ (hs : List Int) (p : List Int) (owner : Array (Option Nat)), Owns owner p mask → (p ++ hs).Nodup → (∀ h ∈ hs, 0 ≤ h ∧ h < 12) →
    ∃ ow, hs.foldl (init := some (owner, p.length)) (fun acc h => do
      let (owner, k) ← acc
      let j ← layClean.free mask owner (turns mask) (bits h % (mask + 1)) (bits h)
      pure (owner.setIfInBounds j (some k), k + 1)) = some (ow, (p ++ hs).length) ∧ Owns ow (p ++ hs) mask
  | [], p, owner, O, _, _ => ⟨owner, by simp, by simpa using O⟩
  | h :: hs, p, owner, O, hn, hr => by
    have hh := hr h (.head _)
    have hnp : h ∉ p := fun e => by
      rw [List.nodup_append] at hn
      exact hn.2.2 h e h (.head _) rfl
    have hf := free_own O hm hh.1 hh.2 hnp (mask + 14)
    obtain ⟨ow, h1, h2⟩ := layClean_go hm hs (p ++ [h]) _ (own_step O hm hh.1 hh.2 hnp) (by simpa using hn) fun x hx => hr x (.tail _ hx)
    refine ⟨ow, ?_, by simpa using h2⟩
    rw [List.foldl_cons]
    have he : (do
      let (owner, k) ← (some (owner, p.length) : Option (Array (Option Nat) × Nat))
      let j ← layClean.free mask owner (turns mask) (bits h % (mask + 1)) (bits h)
      pure (owner.setIfInBounds j (some k), k + 1)) = some (owner.setIfInBounds h.toNat (some p.length), p.length + 1) := by
      show (do
        let j ← layClean.free mask owner (turns mask) (bits h % (mask + 1)) (bits h)
        pure (owner.setIfInBounds j (some p.length), p.length + 1)) = _
      rw [show turns mask = mask + 14 + 1 from rfl, hf]; rfl
    rw [he]
    have : (p ++ [h]).length = p.length + 1 := by simp
    rw [this] at h1
    rw [h1]
    simp

theorem layClean_ok {mask : Nat} (hm : 12 ≤ mask) (hs : Array Int) (hn : hs.toList.Nodup) (hr : ∀ h ∈ hs.toList, 0 ≤ h ∧ h < 12) : ∃ ow, layClean mask hs = some ow ∧ Owns ow hs.toList mask := by
  have O : Owns (Array.replicate (mask + 1) none) [] mask := ⟨by simp, fun j => by rw [Array.getD_eq_getD_getElem?, Array.getElem?_replicate]; split <;> rfl⟩
  obtain ⟨ow, h1, h2⟩ := layClean_go hm hs.toList [] _ O (by simpa using hn) hr
  refine ⟨ow, ?_, by simpa using h2⟩
  unfold layClean
  rw [← Array.foldl_toList]
  simp only [List.length_nil] at h1
  rw [h1]; rfl
end Mine
end
-- part P3
section
open PySem PySem.W PyProof.Rows
set_option maxRecDepth 100000
namespace Mine
open SetTable

theorem fm_congr {α β : Type} {f g : α → Option β} : ∀ {l : List α}, (∀ x ∈ l, f x = g x) → l.filterMap f = l.filterMap g
  | [], _ => rfl
  | a :: l, h => by rw [List.filterMap_cons, List.filterMap_cons, h a (.head _), fm_congr fun x hx => h x (.tail _ hx)]

theorem laid_ok {mask finger moves : Nat} {led plain : Bool} (hm : 12 ≤ mask) (es : Array (Int × Value)) (hn : (es.toList.map fun e => e.1).Nodup) (hr : ∀ e ∈ es.toList, 0 ≤ e.1 ∧ e.1 < 12) :
    ∃ t' order, SetTable.laid mask finger moves led plain (es.map fun e => e.1) = some (t', order) ∧ t'.mask = mask ∧ t'.dummies = #[] ∧ Rising t'.place.toList mask ∧ order.toList.Perm (List.range es.size) ∧
      t'.place.toList = (order.filterMap (es[·]?)).toList.map (fun e => e.1.toNat) ∧ (order.filterMap (es[·]?)).size = es.size := by
  have hm' : (es.map fun e => e.1).toList = es.toList.map fun e => e.1 := by simp
  obtain ⟨ow, h1, O⟩ := layClean_ok hm (es.map fun e => e.1) (by rw [hm']; exact hn) (by
    rw [hm']; intro h hh
    obtain ⟨e, he, rfl⟩ := List.mem_map.mp hh
    exact hr e he)
  rw [hm'] at O
  let live := (List.range (mask + 1)).filterMap fun j => (ow.getD j none).map (j, ·)
  have hlive : ∀ j k, (j, k) ∈ live ↔ (k < es.size ∧ ∃ e, es[k]? = some e ∧ e.1 = (j : Int)) := by
    intro j k
    simp only [live, List.mem_filterMap, List.mem_range, Option.map_eq_some_iff, Prod.mk.injEq]
    constructor
    · rintro ⟨j', hj, k', hk, rfl, rfl⟩
      rw [O.at_] at hk
      obtain ⟨hk1, hk2, _⟩ := List.findIdx?_eq_some_iff_getElem.mp hk
      simp only [List.length_map, Array.length_toList] at hk1
      refine ⟨hk1, es[k'], Array.getElem?_eq_getElem hk1, ?_⟩
      simpa using hk2
    · rintro ⟨hk, e, he, hj⟩
      have hem : e ∈ es.toList := Array.mem_toList_iff.mpr (Array.mem_of_getElem? he)
      have hb := hr e hem
      refine ⟨j, by omega, k, ?_, rfl, rfl⟩
      rw [O.at_, List.findIdx?_eq_some_iff_getElem]
      have hl : k < (es.toList.map fun e => e.1).length := by rw [List.length_map, Array.length_toList]; exact hk
      have hke : (es.toList.map fun e => e.1)[k] = (j : Int) := by
        simp only [List.getElem_map, Array.getElem_toList]
        obtain ⟨_, he2⟩ := Array.getElem?_eq_some_iff.mp he
        rw [he2]; exact hj
      refine ⟨hl, by rw [hke]; simp, fun j' hj' => ?_⟩
      intro hc
      have hc' : (es.toList.map fun e => e.1)[j'] = (j : Int) := by simpa using hc
      have := (List.nodup_iff_pairwise_ne.mp hn)
      rw [List.pairwise_iff_getElem] at this
      exact this j' k (by omega) hl hj' (by rw [hc', hke])
  have hord : (live.map fun p => p.2).Perm (List.range es.size) := by
    refine (List.perm_ext_iff_of_nodup ?_ List.nodup_range).mpr fun k => ?_
    · show (live.map fun p => p.2).Pairwise (· ≠ ·)
      rw [List.pairwise_map]
      have hw : live.Pairwise fun a b => a.1 < b.1 := by
        simp only [live]
        rw [List.pairwise_filterMap]
        refine List.pairwise_lt_range.imp fun {a b} hab x hx y hy => ?_
        obtain ⟨k1, _, rfl⟩ := Option.map_eq_some_iff.mp hx
        obtain ⟨k2, _, rfl⟩ := Option.map_eq_some_iff.mp hy
        exact hab
      refine (List.Pairwise.and_mem.mp hw).imp fun {a b} h e => ?_
      obtain ⟨ha, hb, hab⟩ := h
      obtain ⟨j1, k1⟩ := a
      obtain ⟨j2, k2⟩ := b
      dsimp only at e hab
      subst e
      obtain ⟨_, e1, he1, hj1⟩ := (hlive j1 k1).mp ha
      obtain ⟨_, e2, he2, hj2⟩ := (hlive j2 k1).mp hb
      rw [he1] at he2
      have := Option.some.inj he2
      subst this
      omega
    · rw [List.mem_map, List.mem_range]
      constructor
      · rintro ⟨⟨j, k'⟩, hx, rfl⟩
        exact ((hlive j k').mp hx).1
      · intro hk
        have hem : es[k] ∈ es.toList := by rw [Array.mem_toList_iff]; exact Array.getElem_mem hk
        have hb := hr _ hem
        exact ⟨((es[k]).1.toNat, k), (hlive _ _).mpr ⟨hk, es[k], Array.getElem?_eq_getElem hk, by omega⟩, rfl⟩
  have hfm : ((live.map fun p => p.2).filterMap (es[·]?)).map (fun e => e.1.toNat) = live.map fun p => p.1 := by
    rw [List.filterMap_map, List.map_filterMap]
    have : live.filterMap (fun p => some p.1) = live.map fun p => p.1 := by simp
    rw [← this]
    refine fm_congr fun p hp => ?_
    obtain ⟨j, k⟩ := p
    obtain ⟨hk, e, he, hj⟩ := (hlive j k).mp hp
    simp only [Function.comp]
    rw [he]
    simp only [Option.map_some, Option.some.injEq]
    omega
  refine ⟨_, _, by unfold SetTable.laid; rw [h1]; rfl, rfl, rfl, ⟨?_, ?_⟩, ?_, ?_, ?_⟩
  · show (live.map fun p => p.1).Pairwise (· < ·)
    rw [List.pairwise_map]
    simp only [live]
    rw [List.pairwise_filterMap]
    refine List.pairwise_lt_range.imp fun {a b} hab x hx y hy => ?_
    obtain ⟨k1, _, rfl⟩ := Option.map_eq_some_iff.mp hx
    obtain ⟨k2, _, rfl⟩ := Option.map_eq_some_iff.mp hy
    exact hab
  · intro x hx
    have hx : x ∈ live.map fun p => p.1 := hx
    obtain ⟨⟨j, k⟩, hp, rfl⟩ := List.mem_map.mp hx
    obtain ⟨hk, e, he, hj⟩ := (hlive j k).mp hp
    have hem : e ∈ es.toList := Array.mem_toList_iff.mpr (Array.mem_of_getElem? he)
    have hb := hr e hem
    show j ≤ mask
    omega
  · exact hord
  · show live.map (fun p => p.1) = _
    rw [Array.toList_filterMap]
    exact hfm.symm
  · rw [← Array.length_toList, Array.toList_filterMap]
    show ((live.map fun p => p.2).filterMap (es[·]?)).length = es.size
    rw [(hord.filterMap _).length_eq, filterMap_getElem?_range, Array.length_toList]

theorem Good.hashes {es t ns} (G : Good es t ns) : (es.toList.map fun e => e.1).Nodup ∧ ∀ e ∈ es.toList, 0 ≤ e.1 ∧ e.1 < 12 :=
  ⟨G.keys.nodup_iff.mpr G.nodup, fun e he => G.range _ (G.keys.mem_iff.mp (List.mem_map_of_mem he))⟩

theorem relay_31 {t : SetTable} {es : Array (Int × Value)} (h5 : es.size = 5) (hn : (es.toList.map fun e => e.1).Nodup) (hr : ∀ e ∈ es.toList, 0 ≤ e.1 ∧ e.1 < 12) : Lay (relayAll t es (grown es.size)).1 (relayAll t es (grown es.size)).2.1 := by
  have hs : sizeAbove (grown es.size) - 1 = 31 := by rw [h5]; decide +kernel
  obtain ⟨t', order, h1, h2, h3, h4, h5', h6, h7⟩ := laid_ok (mask := 31) (finger := t.finger) (moves := t.movedTo 31) (led := t.led) (plain := t.plain) (by decide) es hn hr
  have hp : t'.place.size = es.size := by rw [← Array.length_toList, h6, List.length_map, Array.length_toList, h7]
  have hrl : t.relaid (es.map fun e => e.1) (grown es.size) = some (t', order) := by unfold SetTable.relaid; rw [hs]; exact h1
  unfold relayAll
  rw [hrl]
  dsimp only
  rw [if_pos ?_]
  · refine ⟨h3, h2 ▸ h4, .inr ⟨h2, by rw [h7, h5]; decide, h6⟩⟩
  · rw [Bool.and_eq_true]
    refine ⟨?_, ?_⟩
    · unfold coversAll
      exact List.isPerm_iff.mpr h5'
    · unfold SetTable.fits SetTable.fill
      rw [h3, h7, hp, h2, h5]; rfl

theorem has_false {t : SetTable} (hd : t.dummies = #[]) (j : Nat) : SetTable.has t.dummies j = false := by
  unfold SetTable.has; rw [hd]; simp

theorem layNew_of {t : SetTable} {es : Array (Int × Value)} {h : Int} {x : Value} {j : Nat} (hd : t.dummies = #[]) (hf : t.freeSlot h = some (j, false)) (hz : t.place.size = es.size) (hm : es.size + 1 ≤ t.mask) :
    layNew t es h x = (insertAt es (below t.place j) (h, x), { t with place := insertAt t.place (below t.place j) j }, false, false) := by
  have h1 : (insertAt t.place (below t.place j) j).size = t.place.size + 1 := by
    rw [← Array.length_toList, (SetTable.insertAt_perm _ _ _).length_eq, Array.length_toList, Array.size_push]
  have h2 : (insertAt es (below t.place j) (h, x)).size = es.size + 1 := by
    rw [← Array.length_toList, (SetTable.insertAt_perm _ _ _).length_eq, Array.length_toList, Array.size_push]
  have hput : t.put j = ({ t with place := insertAt t.place (below t.place j) j }, below t.place j) := by
    unfold SetTable.put
    rw [has_false hd, if_neg Bool.false_ne_true]
  have hfit : ({ t with place := insertAt t.place (below t.place j) j } : SetTable).fits (insertAt es (below t.place j) (h, x)).size = true := by
    unfold SetTable.fits SetTable.fill
    dsimp only
    rw [h1, h2, hd, hz]
    simp only [beq_self_eq_true, Bool.true_and, decide_eq_true_eq]
    simpa using hm
  unfold layNew
  rw [hf]
  dsimp only
  rw [hput]
  dsimp only
  unfold SetTable.orStandIn
  rw [hfit]
  rfl

theorem insertAt_map {α β : Type} (xs : Array α) (p : Nat) (x : α) (f : α → β) : (insertAt xs p x).toList.map f = (xs.toList.map f).take p ++ f x :: (xs.toList.map f).drop p := by
  rw [SetTable.toList_insertAt, List.map_append, List.map_cons, List.map_take, List.map_drop]

theorem Lay.add {es t ns k tk} (G : Good es t ns) (h0 : 0 ≤ k) (h1 : k < 12) : Lay (addOf es t ns k tk).1 (addOf es t ns k tk).2 := by
  unfold addOf
  by_cases hk : k ∈ ns
  · rw [if_pos hk]; exact G.lay
  rw [if_neg hk, hash_small h0 h1]
  obtain ⟨hd, hr, hc⟩ := G.lay
  have hz : t.place.size = es.size := by
    have := G.tab.fits
    simp only [SetTable.fits, Bool.and_eq_true, beq_iff_eq] at this
    exact this.1
  have hkeys : ((es.toList ++ [(k, Value.int k tk)]).map fun e => e.1).Nodup ∧ ∀ e ∈ (es.toList ++ [(k, Value.int k tk)]), 0 ≤ e.1 ∧ e.1 < 12 := by
    obtain ⟨a, b⟩ := G.hashes
    refine ⟨?_, fun e he => ?_⟩
    · rw [List.map_append, List.nodup_append]
      refine ⟨a, by simp, fun x hx y hy => ?_⟩
      simp only [List.map_cons, List.map_nil, List.mem_singleton] at hy
      subst hy
      intro e; exact hk (G.keys.mem_iff.mp (e ▸ hx))
    · rcases List.mem_append.mp he with he | he
      · exact b e he
      · rw [List.mem_singleton] at he; subst he; exact ⟨h0, h1⟩
  rcases hc with ⟨hm, hn⟩ | ⟨hm, hn, hp⟩
  · obtain ⟨j, hf, hj, hjn⟩ := free_7 hd hm (hm ▸ hr) (by omega) h0 h1
    have hL := layNew_of (x := Value.int k tk) hd hf hz (by omega)
    have hsz : (insertAt es (below t.place j) (k, Value.int k tk)).size = es.size + 1 := by
      rw [← Array.length_toList, (SetTable.insertAt_perm _ _ _).length_eq, Array.length_toList, Array.size_push]
    have hpz : (insertAt t.place (below t.place j) j).size = es.size + 1 := by
      rw [← Array.length_toList, (SetTable.insertAt_perm _ _ _).length_eq, Array.length_toList, Array.size_push, hz]
    have hir : Rising (insertAt t.place (below t.place j) j).toList t.mask := insert_rising hr hjn (by omega)
    unfold addP
    rw [hL]
    dsimp only
    by_cases hfull : (SetTable.tooFull { t with place := insertAt t.place (below t.place j) j }) = true
    · rw [if_pos (by rw [hfull]; rfl)]
      have h5 : es.size + 1 = 5 := by
        unfold SetTable.tooFull SetTable.fill at hfull
        dsimp only at hfull
        rw [hpz, hd, hm] at hfull
        simp at hfull
        omega
      have hpm := SetTable.insertAt_perm es (below t.place j) (k, Value.int k tk)
      rw [Array.toList_push] at hpm
      exact relay_31 (by rw [hsz]; exact h5) ((hpm.map _).nodup_iff.mpr hkeys.1) fun e he => hkeys.2 e (hpm.mem_iff.mp he)
    · rw [if_neg (by rw [Bool.eq_false_iff.mpr hfull]; exact Bool.false_ne_true)]
      have h5 : es.size + 1 ≤ 4 := by
        unfold SetTable.tooFull SetTable.fill at hfull
        dsimp only at hfull
        rw [hpz, hd, hm] at hfull
        simp at hfull
        omega
      exact ⟨hd, hir, .inl ⟨hm, by rw [hsz]; exact h5⟩⟩
  · have hnp : k.toNat ∉ t.place.toList := by
      rw [hp]; intro hx
      obtain ⟨e, he, hek⟩ := List.mem_map.mp hx
      have := G.hashes.2 e he
      have : e.1 = k := by omega
      exact hk (G.keys.mem_iff.mp (this ▸ List.mem_map_of_mem he))
    have hf := free_31 hd hm h0 h1 hnp
    have hle : es.size ≤ 12 := G.size
    have hL := layNew_of (x := Value.int k tk) hd hf hz (by omega)
    have hsz : (insertAt es (below t.place k.toNat) (k, Value.int k tk)).size = es.size + 1 := by
      rw [← Array.length_toList, (SetTable.insertAt_perm _ _ _).length_eq, Array.length_toList, Array.size_push]
    have hpz : (insertAt t.place (below t.place k.toNat) k.toNat).size = es.size + 1 := by
      rw [← Array.length_toList, (SetTable.insertAt_perm _ _ _).length_eq, Array.length_toList, Array.size_push, hz]
    unfold addP
    rw [hL]
    dsimp only
    rw [if_neg ?_]
    · refine ⟨hd, (show Rising (insertAt t.place (below t.place k.toNat) k.toNat).toList t.mask from insert_rising hr hnp (by rw [hm]; omega)), .inr ⟨hm, by rw [hsz]; omega, ?_⟩⟩
      show (insertAt t.place (below t.place k.toNat) k.toNat).toList = _
      rw [insertAt_map, ← hp, SetTable.toList_insertAt]
    · intro hfull
      unfold SetTable.tooFull SetTable.fill at hfull
      dsimp only at hfull
      rw [hpz, hd, hm] at hfull
      simp at hfull
      omega
end Mine
end
-- part P4
section
open PySem PySem.W PyProof.Rows
set_option maxRecDepth 100000
namespace Mine
theorem addN_nodup {ns : List Int} (h : ns.Nodup) (k : Int) : (addN ns k).Nodup := by
  unfold addN; split
  · exact h
  · rename_i hk
    rw [List.nodup_append]
    refine ⟨h, by simp, fun a ha b hb => ?_⟩
    rw [List.mem_singleton] at hb; subst hb
    exact fun e => hk (e ▸ ha)
theorem mem_addN {ns : List Int} {k x : Int} : x ∈ addN ns k ↔ x ∈ ns ∨ x = k := by
  unfold addN; split
  · rename_i hk
    exact ⟨.inl, fun h => h.elim id fun e => e ▸ hk⟩
  · simp
theorem Good.add {es t ns} (G : Good es t ns) {k : Int} (tk : Tok) (h0 : 0 ≤ k) (h1 : k < 12) : Good (addOf es t ns k tk).1 (addOf es t ns k tk).2 (addN ns k) :=
  ⟨G.tab.add k tk (by have := G.size; omega), Lay.add G h0 h1, addN_nodup G.nodup k, fun x hx => (mem_addN.mp hx).elim (G.range x) fun e => e ▸ ⟨h0, h1⟩, by
    unfold addOf addN
    by_cases hk : k ∈ ns
    · simp only [if_pos hk]; exact G.keys
    · simp only [if_neg hk]
      refine ((addP_perm (es := es) (t := t) (hashInt k) (.int k tk)).map _).trans ?_
      rw [List.map_append, List.map_cons, List.map_nil]
      rw [hash_small h0 h1]
      exact G.keys.append_right [k]⟩

theorem good_fresh (led : Bool) : Good #[] (.fresh 0 0 led) [] :=
  ⟨⟨fun e he => by simp at he, fun k => by simp, rfl, by rfl, by decide⟩, ⟨rfl, ⟨List.Pairwise.nil, fun x hx => by simp [SetTable.fresh] at hx⟩, .inl ⟨rfl, by decide⟩⟩, List.nodup_nil, fun k hk => by simp at hk, by simp⟩
end Mine
end
-- part S3
section
open PySem PySem.W PyProof.Rows
set_option maxRecDepth 100000
namespace Mine
section
variable {prog : Program} {w : World} {A : Around} {E : Value → Shared → Prop} {s : Shared}

theorem c_contains : findIn (Mine.hd.heap_39 w.params) (.ref 232) "__contains__" = some (some (.builtin "set.__contains__")) := by k_is
theorem c_set : subIn (Mine.hd.heap_39 w.params) (.ref 232) (.type "set") = some true := by k_is
theorem c_frozen : subIn (Mine.hd.heap_39 w.params) (.ref 232) (.type "frozenset") = some false := by k_is
theorem c_len : findIn (Mine.hd.heap_39 w.params) (.ref 232) "__len__" = some (some (.builtin "set.__len__")) := by k_is
theorem c_ne : findIn (Mine.hd.heap_39 w.params) (.ref 232) "__ne__" = some (some (.builtin "set.__ne__")) := by k_is

/-- the thing at a is an OrderedSet -/
structure IsO (s : Shared) (w : World) (a : Addr) (o : Obj) : Prop where
  X : (Mine.hd.heap_39 w.params).In s.heap
  get : s.heap.get? a = some o
  cls : o.cls = .ref 232
variable {a : Addr} {o : Obj} {es : Array (Int × Value)} {ep : Nat} {t : SetTable} {ns : List Int}

theorem IsO.type {M : Model} (I : IsO s w a o) : Looks M s.heap (typeOf (.ref a)) (.ref 232) := I.cls ▸ (Looks.ld I.get).andThen .now
theorem IsO.set {M : Model} (I : IsO s w a o) : Looks M s.heap (isInstance (.ref a) (.type "set")) true := I.type.andThen (looks_subIn I.X c_set)

/-- a call of a built-in method on a self whose type is above its owner -/
theorem callOn {id owner n : String} {kind : Manifest.AttrKind} {b : Builtin} {self : Value} {rest : List Value} {Q : Value → Shared → Prop}
    (hp : plainId id = true) (hb : entryFor table id = some b) (hk : builtinKind id = some kind) (hkk : kind = .method ∨ kind = .slot) (hs : splitId id = some (owner, n))
    (hi : Looks (model prog w) s.heap (isInstance self (.type owner)) true) (ha : argsOk id ⟨self :: rest, []⟩)
    (hc : wpAny (model prog w) A.in1 (b ⟨self :: rest, []⟩) (fun fin s' => ∃ v, fin = .done (.ret v) ∧ Q v s') E s) :
    wpAny (model prog w) A (call (.builtin id) (self :: rest)) Q E s := by
  refine wpAny_call (codeAny_call_builtin hp hb ?_)
  have hcc : wpAny (model prog w) A.in1 (b ⟨self :: rest, []⟩) (fun fin s' => match fin with | .done f => (match (Except.ok f : Result) with | .ok (.ret v) => Q v s' | .ok _ => False | .error e => E e s') | .again c' => c'.quiet = true ∧ codeAny (model prog w) A c' (fun r s' => match r with | .ok (.ret v) => Q v s' | .ok _ => False | .error e => E e s') s') E s :=
    wpAny_mono hc (fun fin s' h' => by obtain ⟨v, rfl, hv⟩ := h'; exact hv) fun _ _ x => x
  simp only [checkBuiltinCall, hk, hs]
  have hsig : ∀ sig, Manifest.signature? id = some sig → Bind.checkArgs id sig ⟨self :: rest, []⟩ = pure () := by
    intro sig hsig; simp only [argsOk, hsig] at ha; exact ha
  rcases hkk with rfl | rfl
  · refine wpAny_bind (hi.here ?_)
    simp only [Bool.not_true, Bool.false_eq_true, if_false]
    cases hs' : Manifest.signature? id with
    | none => exact wpAny_pure hcc
    | some sig => have h2 := hsig sig hs'; dsimp only; rw [h2]; exact wpAny_pure hcc
  · refine wpAny_bind (hi.here ?_)
    simp only [Bool.not_true, Bool.false_eq_true, if_false]
    cases hs' : Manifest.signature? id with
    | none => exact wpAny_pure hcc
    | some sig => have h2 := hsig sig hs'; dsimp only; rw [h2]; exact wpAny_pure hcc

theorem p_contains : plainId "set.__contains__" = true := PySem.F.slot_set_contains.plain
theorem kd_contains : builtinKind "set.__contains__" = some .method := by kernel_rfl
theorem sp_contains : splitId "set.__contains__" = some ("set", "__contains__") := by kernel_rfl
theorem en_contains : entryFor table "set.__contains__" = some Builtin.«frozenset.__contains__» := PySem.entry_set_contains
theorem ar_contains (a b : Value) : argsOk "set.__contains__" ⟨[a, b], []⟩ := PySem.F.args_set_contains_2 a b
theorem p_len : plainId "set.__len__" = true := PySem.F.slot_set_len.plain
theorem kd_len : builtinKind "set.__len__" = some .slot := by kernel_rfl
theorem sp_len : splitId "set.__len__" = some ("set", "__len__") := by kernel_rfl
theorem en_len : entryFor table "set.__len__" = some Builtin.«frozenset.__len__» := PySem.entry_set_len
theorem ar_len (a : Value) : argsOk "set.__len__" ⟨[a], []⟩ := PySem.F.args_set_len_1 a
theorem p_ne : plainId "set.__ne__" = true := PySem.F.slot_set_ne.plain
theorem kd_ne : builtinKind "set.__ne__" = some .slot := by kernel_rfl
theorem sp_ne : splitId "set.__ne__" = some ("set", "__ne__") := by kernel_rfl
theorem en_ne : entryFor table "set.__ne__" = some Builtin.«frozenset.__ne__» := entryFor_alias (id' := "frozenset.__ne__") (by rw [fastTable_eq_tree]; kernel_rfl) rfl (by decide +kernel) (by rw [fastTable_eq_tree]; kernel_rfl)
theorem ar_ne (a b : Value) : argsOk "set.__ne__" ⟨[a, b], []⟩ := PySem.F.args_set_ne_2 a b
theorem p_add : plainId "set.add" = true := PySem.F.slot_set_add.plain
theorem kd_add : builtinKind "set.add" = some .method := by kernel_rfl
theorem sp_add : splitId "set.add" = some ("set", "add") := by kernel_rfl
theorem en_add : entryFor table "set.add" = some Builtin.«set.add» := PySem.F.entry_set_add
theorem ar_add (a b : Value) : argsOk "set.add" ⟨[a, b], []⟩ := PySem.F.args_set_add_2 a b
theorem p_remove : plainId "set.remove" = true := PySem.F.slot_set_remove.plain
theorem kd_remove : builtinKind "set.remove" = some .method := by kernel_rfl
theorem sp_remove : splitId "set.remove" = some ("set", "remove") := by kernel_rfl
theorem en_remove : entryFor table "set.remove" = some Builtin.«set.remove» := PySem.F.entry_set_remove
theorem ar_remove (a b : Value) : argsOk "set.remove" ⟨[a, b], []⟩ := PySem.F.args_set_remove_2 a b
theorem p_update : plainId "set.update" = true := PySem.F.slot_set_update.plain
theorem kd_update : builtinKind "set.update" = some .method := by kernel_rfl
theorem sp_update : splitId "set.update" = some ("set", "update") := by kernel_rfl
theorem en_update : entryFor table "set.update" = some Builtin.«set.update» := PySem.F.entry_set_update
theorem ar_update (a b : Value) : argsOk "set.update" ⟨[a, b], []⟩ := PySem.F.args_set_update_2 a b
theorem p_intersection : plainId "set.intersection" = true := PySem.F.slot_set_intersection.plain
theorem kd_intersection : builtinKind "set.intersection" = some .method := by kernel_rfl
theorem sp_intersection : splitId "set.intersection" = some ("set", "intersection") := by kernel_rfl
theorem en_intersection : entryFor table "set.intersection" = some Builtin.«frozenset.intersection» := entryFor_alias (id' := "frozenset.intersection") (by rw [fastTable_eq_tree]; kernel_rfl) rfl (by decide +kernel) (by rw [fastTable_eq_tree]; kernel_rfl)
theorem ar_intersection (a b : Value) : argsOk "set.intersection" ⟨[a, b], []⟩ := PySem.F.args_set_intersection_2 a b
theorem p_intersection_update : plainId "set.intersection_update" = true := PySem.F.slot_set_intersection_update.plain
theorem kd_intersection_update : builtinKind "set.intersection_update" = some .method := by kernel_rfl
theorem sp_intersection_update : splitId "set.intersection_update" = some ("set", "intersection_update") := by kernel_rfl
theorem en_intersection_update : entryFor table "set.intersection_update" = some Builtin.«set.intersection_update» := PySem.F.entry_set_intersection_update
theorem ar_intersection_update (a b : Value) : argsOk "set.intersection_update" ⟨[a, b], []⟩ := PySem.F.args_set_intersection_update_2 a b
theorem p_difference : plainId "set.difference" = true := PySem.F.slot_set_difference.plain
theorem kd_difference : builtinKind "set.difference" = some .method := by kernel_rfl
theorem sp_difference : splitId "set.difference" = some ("set", "difference") := by kernel_rfl
theorem en_difference : entryFor table "set.difference" = some Builtin.«frozenset.difference» := entryFor_alias (id' := "frozenset.difference") (by rw [fastTable_eq_tree]; kernel_rfl) rfl (by decide +kernel) (by rw [fastTable_eq_tree]; kernel_rfl)
theorem ar_difference (a b : Value) : argsOk "set.difference" ⟨[a, b], []⟩ := PySem.F.args_set_difference_2 a b
theorem p_difference_update : plainId "set.difference_update" = true := PySem.F.slot_set_difference_update.plain
theorem kd_difference_update : builtinKind "set.difference_update" = some .method := by kernel_rfl
theorem sp_difference_update : splitId "set.difference_update" = some ("set", "difference_update") := by kernel_rfl
theorem en_difference_update : entryFor table "set.difference_update" = some Builtin.«set.difference_update» := PySem.F.entry_set_difference_update
theorem ar_difference_update (a b : Value) : argsOk "set.difference_update" ⟨[a, b], []⟩ := PySem.F.args_set_difference_update_2 a b
theorem p_symmetric_difference_update : plainId "set.symmetric_difference_update" = true := PySem.F.slot_set_symmetric_difference_update.plain
theorem kd_symmetric_difference_update : builtinKind "set.symmetric_difference_update" = some .method := by kernel_rfl
theorem sp_symmetric_difference_update : splitId "set.symmetric_difference_update" = some ("set", "symmetric_difference_update") := by kernel_rfl
theorem en_symmetric_difference_update : entryFor table "set.symmetric_difference_update" = some Builtin.«set.symmetric_difference_update» := PySem.F.entry_set_symmetric_difference_update
theorem ar_symmetric_difference_update (a b : Value) : argsOk "set.symmetric_difference_update" ⟨[a, b], []⟩ := PySem.F.args_set_symmetric_difference_update_2 a b
end
end Mine
end
-- part S4
section
open PySem PySem.W PyProof.Rows
set_option maxRecDepth 100000
namespace Mine
section
variable {prog : Program} {w : World} {A : Around} {E : Value → Shared → Prop} {s : Shared}
variable {a : Addr} {o : Obj} {es : Array (Int × Value)} {ep : Nat} {t : SetTable} {ns : List Int}

/-- a method's code on an OrderedSet, one argument -/
theorem callO {id n : String} {kind : Manifest.AttrKind} {b : Builtin} {rest : List Value} {Q : Value → Shared → Prop} (I : IsO s w a o)
    (hp : plainId id = true) (hb : entryFor table id = some b) (hk : builtinKind id = some kind) (hkk : kind = .method ∨ kind = .slot) (hs : splitId id = some ("set", n))
    (ha : argsOk id ⟨.ref a :: rest, []⟩)
    (hc : wpAny (model prog w) A.in1 (b ⟨.ref a :: rest, []⟩) (fun fin s' => ∃ v, fin = .done (.ret v) ∧ Q v s') E s) :
    wpAny (model prog w) A (call (.builtin id) (.ref a :: rest)) Q E s := callOn hp hb hk hkk hs I.set ha hc

theorem contains_O {v : Value} {Q : Bool → Shared → Prop} (I : IsO s w a o)
    (h : wpAny (model prog w) A (call (.builtin "set.__contains__") [.ref a, v]) (fun r s' => wpAny (model prog w) A (truthy r) Q E s') E s) : wpAny (model prog w) A (contains (.ref a) v) Q E s := by
  unfold contains
  try with_reducible refine wpAny_holding ?_
  refine wpAny_bind (wpAny_bind (I.type.here ((looks_findIn I.X c_contains).here ?_)))
  rw [if_neg (by rw [show (some (Value.builtin "set.__contains__") == some Value.none) = false from by decide +kernel]; exact Bool.false_ne_true)]
  unfold callSpecialUnlessNone?
  refine wpAny_bind (wpAny_bind (wpAny_bind (I.type.here ((looks_findIn I.X c_contains).here ?_))))
  refine wpAny_holding ?_
  rw [PySem.F.slot_set_contains.bind]
  refine wpAny_bind (wpAny_pure ?_)
  dsimp only
  rw [if_neg (by rw [show (Value.builtin "set.__contains__" == Value.none) = false from by decide +kernel]; exact Bool.false_ne_true)]
  exact wpAny_bind (wpAny_mono h (fun r s' z => wpAny_pure z) fun _ _ z => z)

theorem call_contains_i {k : Int} {tk : Tok} {Q : Value → Shared → Prop} (I : IsO s w a o) (hd : o.data = .set es ep t) (H : Tab es t ns)
    (h : Q (.bool (decide (k ∈ ns))) { s with toks := s.toks + 1 }) :
    wpAny (model prog w) A (call (.builtin "set.__contains__") [.ref a, .int k tk]) Q E s := by
  refine callO I p_contains en_contains kd_contains (.inl rfl) sp_contains (ar_contains _ _) ?_
  unfold Builtin.«frozenset.__contains__» Builtin.Frozenset.oneOther
  simp only [List.isEmpty_nil, bind_assoc]
  unfold Builtin.Frozenset.addrOf Builtin.Frozenset.withSetAsKey setContains
  refine wpAny_bind (wpAny_pure ?_)
  try dsimp only
  refine wpAny_bind (wpAny_pure ?_)
  try dsimp only
  refine wpAny_bind (wpAny_tryCatch ?_)
  refine wpAny_holding ?_
  refine wpAny_bind ((intKind prog w).pyHash (intKind_is _ _ k tk) ?_)
  refine wpAny_bind (setFind_i (s := { s with toks := s.toks + 1 }) I.get hd H fun r _ hr => ?_)
  refine wpAny_pure ?_
  show wpAny _ _ (ret (Value.bool r.isSome)) _ _ _
  rw [hr]
  exact wpAny_pure ⟨_, rfl, h⟩

theorem in_i {k : Int} {tk : Tok} {Q : Value → Shared → Prop} (I : IsO s w a o) (hd : o.data = .set es ep t) (H : Tab es t ns)
    (h : Q (.bool (decide (k ∈ ns))) { s with toks := s.toks + 1 }) : wpAny (model prog w) A (compareOp .In (.int k tk) (.ref a)) Q E s := by
  show wpAny _ _ (do return .bool (← contains (.ref a) (.int k tk))) Q E s
  exact wpAny_bind (contains_O I (call_contains_i I hd H (wpAny_truthy_bool (wpAny_pure h))))
theorem notin_i {k : Int} {tk : Tok} {Q : Value → Shared → Prop} (I : IsO s w a o) (hd : o.data = .set es ep t) (H : Tab es t ns)
    (h : Q (.bool (!decide (k ∈ ns))) { s with toks := s.toks + 1 }) : wpAny (model prog w) A (compareOp .NotIn (.int k tk) (.ref a)) Q E s := by
  show wpAny _ _ (do return .bool (!(← contains (.ref a) (.int k tk)))) Q E s
  exact wpAny_bind (contains_O I (call_contains_i I hd H (wpAny_truthy_bool (wpAny_pure h))))

theorem wrong_notset {v : Value} (hw : Wrong v) (X : (Mine.hd.heap_39 w.params).In s.heap) {M : Model} : Looks M s.heap (isInstance v (.type "set")) false := by
  rcases hw with rfl | rfl | rfl | rfl
  · exact looks_instIn X (show instIn (Mine.hd.heap_39 w.params) (.ref 236) (.type "set") = some false by k_is)
  · exact looks_instIn X (show instIn (Mine.hd.heap_39 w.params) (.ref 237) (.type "set") = some false by k_is)
  · exact looks_instIn X (show instIn (Mine.hd.heap_39 w.params) (.ref 239) (.type "set") = some false by k_is)
  · exact looks_instIn X (show instIn (Mine.hd.heap_39 w.params) (.ref 240) (.type "set") = some false by k_is)

/-- what a raise hands on -/
abbrev Raises (E : Value → Shared → Prop) (s : Shared) : Prop := ∀ h' tk e, Heap.NewExc s.heap h' e "TypeError" → E (.ref e) { s with heap := h', toks := tk }

theorem asKey_wrong {id : String} {v : Value} {look : Value → Sem Bool} {Q : Bool → Shared → Prop} (hw : Wrong v) (X : (Mine.hd.heap_39 w.params).In s.heap)
    (hl : ∀ E' : Value → Shared → Prop, Raises E' s → wpAny (model prog w) A (look v) Q E' s) (hE : Raises E s) : wpAny (model prog w) A (Builtin.Frozenset.withSetAsKey id v look) Q E s := by
  unfold Builtin.Frozenset.withSetAsKey
  refine wpAny_tryCatch (hl _ fun h' tk e hn => ?_)
  have X' : (Mine.hd.heap_39 w.params).In h' := X.keeps hn.keeps
  refine wpAny_bind (m := (isInstance v (.type "set") <&&> isInstance (.ref e) (.type "TypeError"))) ?_
  refine wpAny_bind ((wrong_notset hw (s := { s with heap := h', toks := tk }) X').here ?_)
  refine wpAny_pure ?_
  exact wpAny_bind (wpAny_throw (hE h' tk e hn))

theorem call_contains_w {v : Value} {Q : Value → Shared → Prop} (I : IsO s w a o) (hw : Wrong v) (hh : A.handled = none) (hu : A.units + 3 < cLine) (hE : Raises E s) :
    wpAny (model prog w) A (call (.builtin "set.__contains__") [.ref a, v]) Q E s := by
  refine callO I p_contains en_contains kd_contains (.inl rfl) sp_contains (ar_contains _ _) ?_
  unfold Builtin.«frozenset.__contains__» Builtin.Frozenset.oneOther
  simp only [List.isEmpty_nil, bind_assoc]
  unfold Builtin.Frozenset.addrOf
  refine wpAny_bind (wpAny_pure ?_)
  try dsimp only
  refine wpAny_bind (wpAny_pure ?_)
  try dsimp only
  refine wpAny_bind (asKey_wrong hw I.X (fun E' hE' => ?_) hE)
  unfold setContains
  refine wpAny_holding ?_
  exact wpAny_bind (hash_wrong hw I.X hh (by show A.units + 1 + 2 < cLine; omega) hE')
theorem in_w {v : Value} {Q : Value → Shared → Prop} (I : IsO s w a o) (hw : Wrong v) (hh : A.handled = none) (hu : A.units + 3 < cLine) (hE : Raises E s) : wpAny (model prog w) A (compareOp .In v (.ref a)) Q E s := by
  show wpAny _ _ (do return .bool (← contains (.ref a) v)) Q E s
  exact wpAny_bind (contains_O I (call_contains_w I hw hh hu hE))
theorem notin_w {v : Value} {Q : Value → Shared → Prop} (I : IsO s w a o) (hw : Wrong v) (hh : A.handled = none) (hu : A.units + 3 < cLine) (hE : Raises E s) : wpAny (model prog w) A (compareOp .NotIn v (.ref a)) Q E s := by
  show wpAny _ _ (do return .bool (!(← contains (.ref a) v))) Q E s
  exact wpAny_bind (contains_O I (call_contains_w I hw hh hu hE))

theorem call_add_i {k : Int} {tk : Tok} {Q : Value → Shared → Prop} (I : IsO s w a o) (hd : o.data = .set es ep t) (H : Tab es t ns) (hs : es.size < 900)
    (h : ∀ h' ep', Heap.SameBut a s.heap h' → h'.get? a = some { o with data := .set (addOf es t ns k tk).1 ep' (addOf es t ns k tk).2 } → Q .none { s with heap := h', toks := s.toks + 1 }) :
    wpAny (model prog w) A (call (.builtin "set.add") [.ref a, .int k tk]) Q E s := by
  refine callO I p_add en_add kd_add (.inl rfl) sp_add (ar_add _ _) ?_
  unfold Builtin.«set.add» Builtin.Frozenset.oneOther
  simp only [List.isEmpty_nil, bind_assoc]
  unfold Builtin.Frozenset.addrOf setAdd
  refine wpAny_bind (wpAny_pure ?_)
  try dsimp only
  refine wpAny_bind (wpAny_pure ?_)
  try dsimp only
  refine wpAny_bind ?_
  refine wpAny_holding ?_
  refine wpAny_bind ((intKind prog w).pyHash (intKind_is _ _ k tk) ?_)
  refine setAddHashed_i (s := { s with toks := s.toks + 1 }) I.get hd H hs fun h' ep' hsb hg => ?_
  exact wpAny_pure ⟨_, rfl, h h' ep' hsb hg⟩

theorem call_remove_w {v : Value} {Q : Value → Shared → Prop} (I : IsO s w a o) (hw : Wrong v) (hh : A.handled = none) (hu : A.units + 3 < cLine) (hE : Raises E s) :
    wpAny (model prog w) A (call (.builtin "set.remove") [.ref a, v]) Q E s := by
  refine callO I p_remove en_remove kd_remove (.inl rfl) sp_remove (ar_remove _ _) ?_
  unfold Builtin.«set.remove» Builtin.Frozenset.oneOther
  simp only [List.isEmpty_nil, bind_assoc]
  unfold Builtin.Frozenset.addrOf
  refine wpAny_bind (wpAny_pure ?_)
  try dsimp only
  refine wpAny_bind (wpAny_pure ?_)
  try dsimp only
  refine wpAny_bind (asKey_wrong hw I.X (fun E' hE' => ?_) hE)
  unfold setDiscard
  refine wpAny_holding ?_
  exact wpAny_bind (hash_wrong hw I.X hh (by show A.units + 1 + 2 < cLine; omega) hE')
end
end Mine
end
-- part S5
section
open PySem PySem.W PyProof.Rows
set_option maxRecDepth 100000
namespace Mine

/-- h' has all of h but what stands at S -/
def Kept (S : List Addr) (h h' : Heap) : Prop := ∀ b o, b ∉ S → h.get? b = some o → h'.get? b = some o
theorem Kept.refl (S : List Addr) (h : Heap) : Kept S h h := fun _ _ _ e => e
theorem Kept.trans {S : List Addr} {h₁ h₂ h₃ : Heap} (x : Kept S h₁ h₂) (y : Kept S h₂ h₃) : Kept S h₁ h₃ := fun b o hb e => y b o hb (x b o hb e)
theorem Kept.mono {S S' : List Addr} {h h' : Heap} (x : Kept S h h') (hs : ∀ b ∈ S, b ∈ S') : Kept S' h h' := fun b o hb e => x b o (fun z => hb (hs b z)) e
theorem Kept.of_same {S : List Addr} {a : Addr} {h h' : Heap} (x : Heap.SameBut a h h') (ha : a ∈ S) : Kept S h h' := fun b o hb e => (x.2 b (fun z => hb (z ▸ ha))).trans e
theorem Kept.of_ext {S : List Addr} {a : Addr} {h h' : Heap} (x : Heap.ExtBut a h h') (ha : a ∈ S) : Kept S h h' := fun b o hb e => x b o (fun z => hb (z ▸ ha)) e
theorem Kept.push (S : List Addr) (h : Heap) (o : Obj) : Kept S h (h.push o) := fun _ _ _ e => Heap.get?_push_of_some o e
theorem Kept.list {S : List Addr} {h h' : Heap} (x : Kept S h h') {l : Addr} {vs : Array Value} (hl : h.IsList l vs) (hn : l ∉ S) : h'.IsList l vs :=
  let ⟨o, ho, r⟩ := hl; ⟨o, x l o hn ho, r⟩

/-- all of h stands in h' -/
def Over (h h' : Heap) : Prop := ∀ b o, h.get? b = some o → h'.get? b = some o
theorem Over.kept {S : List Addr} {h₀ h h' : Heap} (x : Over h₀ h) (k : Kept S h h') (hS : ∀ b ∈ S, h₀.get? b = none) : Over h₀ h' := fun b o e => k b o (fun z => by rw [hS b z] at e; cases e) (x b o e)
theorem Over.exc {h₀ h h' : Heap} {e : Addr} {cls : String} (x : Over h₀ h) (n : Heap.NewExc h h' e cls) : Heap.NewExc h₀ h' e cls := by
  refine ⟨fun b o z => n.keeps b o (x b o z), ?_, n.there⟩
  cases q : h₀.get? e with
  | none => rfl
  | some o => have := x e o q; rw [n.new] at this; cases this

theorem fresh_at {h : Heap} : h.get? h.objs.size = none := Heap.get?_none_of_le (Nat.le_refl _)

theorem intsAre_get : ∀ {vs : List Value} {ms : List Int} {i : Nat} {v : Value}, IntsAre vs ms → vs[i]? = some v → ∃ k tk, v = .int k tk ∧ ms[i]? = some k
  | _, _, i, v, .nil, h => by simp at h
  | _, _, 0, v, .cons k tk r, h => by simp at h; exact ⟨k, tk, h.symm, rfl⟩
  | _, _, i + 1, v, .cons k tk r, h => by simp at h; simpa using intsAre_get r h

section
variable {prog : Program} {w : World} {A : Around} {E : Value → Shared → Prop} {s : Shared} {R : Result → Shared → Prop}
variable {a I l : Addr} {o : Obj} {es : Array (Int × Value)} {ep : Nat} {t : SetTable} {ns : List Int}

theorem shared_eq {s : Shared} : s = { s with heap := s.heap, toks := s.toks } := rfl

/-- one more int of a list into a set -/
theorem update_loop_ok {items : Array Value} {ms : List Int} (hh : A.handled = none) (hm : IntsAre items.toList ms) (hr : ∀ k ∈ ms, 0 ≤ k ∧ k < 12)
    (haI : a ≠ I) (hal : a ≠ l) (hIl : I ≠ l) :
    ∀ (j i : Nat) (s : Shared) (o : Obj) (es : Array (Int × Value)) (ep : Nat) (t : SetTable) (ns : List Int), items.size - i = j → i ≤ items.size →
      s.heap.IsListIter I l i → s.heap.IsList l items → s.heap.get? a = some o → o.data = .set es ep t → Good es t ns →
      (∀ h' tk es' ep' t', Kept [a, I] s.heap h' → h'.get? a = some { o with data := .set es' ep' t' } → Good es' t' ((ms.drop i).foldl addN ns) → R (.ok (.ret .none)) { s with heap := h', toks := tk }) →
      codeAny (model prog w) A (.builtin "set.update.loop" ⟨[.ref a, .ref I], []⟩) R s := by
  have hml : items.size = ms.length := by rw [← hm.length, Array.length_toList]
  intro j
  induction j with
  | zero =>
    intro i s o es ep t ns hj hi hit hl ha hd G hR
    have hi' : i = items.size := by omega
    refine codeAny_builtin F.entry_set_update_loop ?_
    rw [Around.under_plainId F.plain_set_update_loop _]
    show wpAny _ A.in1 (pyNext (.ref I) >>= _) _ _ s
    refine wpAny_bind (wpAny_pyNext_list_end (A := A.in1) hh hit hl (by simp [hi']) fun h' hx => ?_)
    show wpAny _ A.in1 (ret Value.none) _ _ _
    refine wpAny_pure ?_
    have := hR h' s.toks es ep t (Kept.of_ext hx (by simp)) (by rw [← hd]; exact hx a o haI ha) (by rw [List.drop_eq_nil_of_le (by omega)]; exact G)
    exact this
  | succ j ih =>
    intro i s o es ep t ns hj hi hit hl ha hd G hR
    have hlt : i < items.size := by omega
    obtain ⟨k, tk, hv, hk⟩ := intsAre_get hm (i := i) (v := items[i]) (by rw [Array.getElem?_toList]; simp [hlt])
    have hkr := hr k (List.mem_of_getElem? hk)
    refine codeAny_builtin F.entry_set_update_loop ?_
    rw [Around.under_plainId F.plain_set_update_loop _]
    show wpAny _ A.in1 (pyNext (.ref I) >>= _) _ _ s
    refine wpAny_bind (wpAny_pyNext_list_item hit hl (x := items[i]) (by simp [hlt]) fun h₁ hit₁ hs₁ => ?_)
    rw [hv]
    show wpAny _ A.in1 (holding [Value.int k tk] (setAdd a (.int k tk)) >>= _) _ _ _
    refine wpAny_bind (wpAny_holding ?_)
    unfold setAdd
    refine wpAny_holding ?_
    refine wpAny_bind ((intKind prog w).pyHash (intKind_is _ _ k tk) ?_)
    have ha₁ : h₁.get? a = some o := (hs₁.2 a haI).trans ha
    refine setAddHashed_i (s := { s with heap := h₁, toks := s.toks + 1 }) ha₁ hd G.tab (by have := G.size; omega) fun h₂ ep₂ hs₂ hg₂ => ?_
    refine wpAny_pure ⟨plainId_quiet F.plain_set_update_loop _, ?_⟩
    refine ih (i + 1) _ _ _ ep₂ _ (addN ns k) (by omega) hlt ?_ ?_ hg₂ rfl (G.add tk hkr.1 hkr.2) ?_
    · obtain ⟨oi, h1, h2⟩ := hit₁
      exact ⟨oi, (hs₂.2 I (Ne.symm haI)).trans h1, h2⟩
    · obtain ⟨ol, h1, h2⟩ := hl
      exact ⟨ol, (hs₂.2 l (Ne.symm hal)).trans ((hs₁.2 l (Ne.symm hIl)).trans h1), h2⟩
    · intro h' tk' es' ep' t' hk' hg' G'
      refine hR h' tk' es' ep' t' (((Kept.of_same hs₁ (by simp)).trans (Kept.of_same hs₂ (by simp))).trans hk') hg' ?_
      have : ms.drop i = k :: ms.drop (i + 1) := by
        rw [List.drop_eq_getElem_cons (by omega)]
        congr 1
        have := List.getElem?_eq_some_iff.mp hk; exact this.2
      rw [this]; exact G'

/-- a list's ints, then a wrong thing: the set's table holds on, the walk ends in a TypeError -/
theorem update_loop_w {items : Array Value} {ms : List Int} {v : Value} {more : List Value} {vs : List Value} {h₀ : Heap} (hh : A.handled = none) (hu : A.units + 3 < cLine)
    (hi0 : items.toList = vs ++ v :: more) (hm : IntsAre vs ms) (hr : ∀ k ∈ ms, 0 ≤ k ∧ k < 12) (hw : Wrong v) (X : (Mine.hd.heap_39 w.params).In h₀)
    (haI : a ≠ I) (hal : a ≠ l) (hIl : I ≠ l) (ha0 : h₀.get? a = none) (hI0 : h₀.get? I = none) :
    ∀ (j i : Nat) (s : Shared) (o : Obj) (es : Array (Int × Value)) (ep : Nat) (t : SetTable) (ns : List Int), vs.length - i = j → i ≤ vs.length → Over h₀ s.heap →
      s.heap.IsListIter I l i → s.heap.IsList l items → s.heap.get? a = some o → o.data = .set es ep t → Good es t ns →
      (∀ h' tk e, Heap.NewExc h₀ h' e "TypeError" → R (.error (.ref e)) { s with heap := h', toks := tk }) →
      codeAny (model prog w) A (.builtin "set.update.loop" ⟨[.ref a, .ref I], []⟩) R s := by
  have hS : ∀ b ∈ [a, I], h₀.get? b = none := by intro b hb; simp at hb; rcases hb with rfl | rfl <;> assumption
  have hsz : items.size = vs.length + 1 + more.length := by rw [← Array.length_toList, hi0]; simp; omega
  intro j
  induction j with
  | zero =>
    intro i s o es ep t ns hj hi ov hit hl ha hd G hR
    have hi' : i = vs.length := by omega
    have hx : items[i]? = some v := by rw [← Array.getElem?_toList, hi0, hi']; simp
    refine codeAny_builtin F.entry_set_update_loop ?_
    rw [Around.under_plainId F.plain_set_update_loop _]
    show wpAny _ A.in1 (pyNext (.ref I) >>= _) _ _ s
    refine wpAny_bind (wpAny_pyNext_list_item hit hl hx fun h₁ hit₁ hs₁ => ?_)
    show wpAny _ A.in1 (holding [v] (setAdd a v) >>= _) _ _ _
    refine wpAny_bind (wpAny_holding ?_)
    unfold setAdd
    refine wpAny_holding ?_
    have ov₁ : Over h₀ h₁ := ov.kept (Kept.of_same (S := [a, I]) hs₁ (by simp)) hS
    refine wpAny_bind (hash_wrong (s := { s with heap := h₁ }) hw (fun b o e => ov₁ b o (X b o e)) hh (by show A.units + 1 + 2 < cLine; omega) fun h' tk e hn => ?_)
    exact hR h' tk e (ov₁.exc hn)
  | succ j ih =>
    intro i s o es ep t ns hj hi ov hit hl ha hd G hR
    have hlt : i < vs.length := by omega
    obtain ⟨k, tk, hv, hk⟩ := intsAre_get hm (i := i) (v := vs[i]) (by simp [hlt])
    have hkr := hr k (List.mem_of_getElem? hk)
    have hx : items[i]? = some (vs[i]) := by rw [← Array.getElem?_toList, hi0, List.getElem?_append_left hlt]; simp [hlt]
    refine codeAny_builtin F.entry_set_update_loop ?_
    rw [Around.under_plainId F.plain_set_update_loop _]
    show wpAny _ A.in1 (pyNext (.ref I) >>= _) _ _ s
    refine wpAny_bind (wpAny_pyNext_list_item hit hl hx fun h₁ hit₁ hs₁ => ?_)
    rw [hv]
    show wpAny _ A.in1 (holding [Value.int k tk] (setAdd a (.int k tk)) >>= _) _ _ _
    refine wpAny_bind (wpAny_holding ?_)
    unfold setAdd
    refine wpAny_holding ?_
    refine wpAny_bind ((intKind prog w).pyHash (intKind_is _ _ k tk) ?_)
    have ha₁ : h₁.get? a = some o := (hs₁.2 a haI).trans ha
    refine setAddHashed_i (s := { s with heap := h₁, toks := s.toks + 1 }) ha₁ hd G.tab (by have := G.size; omega) fun h₂ ep₂ hs₂ hg₂ => ?_
    refine wpAny_pure ⟨plainId_quiet F.plain_set_update_loop _, ?_⟩
    refine ih (i + 1) _ _ _ ep₂ _ (addN ns k) (by omega) hlt ?_ ?_ ?_ hg₂ rfl (G.add tk hkr.1 hkr.2) ?_
    · exact (ov.kept (Kept.of_same (S := [a, I]) hs₁ (by simp)) hS).kept (Kept.of_same (S := [a, I]) hs₂ (by simp)) hS
    · obtain ⟨oi, h1, h2⟩ := hit₁
      exact ⟨oi, (hs₂.2 I (Ne.symm haI)).trans h1, h2⟩
    · obtain ⟨ol, h1, h2⟩ := hl
      exact ⟨ol, (hs₂.2 l (Ne.symm hal)).trans ((hs₁.2 l (Ne.symm hIl)).trans h1), h2⟩
    · exact hR
end
end Mine
end
-- part S6
section
open PySem PySem.W PyProof.Rows
set_option maxRecDepth 100000
namespace Mine
section
variable {prog : Program} {w : World} {A : Around} {E : Value → Shared → Prop} {s : Shared} {R : Result → Shared → Prop}
variable {a I l : Addr} {o : Obj} {es : Array (Int × Value)} {ep : Nat} {t : SetTable} {ns : List Int}

theorem list_notset {M : Model} {items : Array Value} (hl : s.heap.IsList l items) : Looks M s.heap (Builtin.Frozenset.isAnySet (.ref l)) false := by
  obtain ⟨o, ho, hc, n, hd⟩ := hl
  have L : Looks M s.heap (typeOf (.ref l)) (.type "list") := hc ▸ (Looks.ld ho).andThen .now
  unfold Builtin.Frozenset.isAnySet
  have h1 : Looks M s.heap (isInstance (.ref l) (.type "set")) false := L.andThen (Looks.of_pure PySem.F.sub_list_set)
  have h2 : Looks M s.heap (isInstance (.ref l) (.type "frozenset")) false := L.andThen (Looks.of_pure PySem.F.sub_list_frozenset)
  exact h1.andThen h2

theorem updateFrom_core {id : String} {items : Array Value} {Q : Unit → Shared → Prop} (hl : s.heap.IsList l items)
    (h : codeAny (model prog w) A (.builtin "set.update.loop" ⟨[.ref a, .ref s.heap.objs.size], []⟩) (fun r s' => match r with | .ok (.ret _) => Q () s' | .ok _ => False | .error e => E e s')
      { s with heap := s.heap.push { cls := .type "list_iterator", data := .fields #[.ref l, .int 0 0] } }) :
    wpAny (model prog w) A (Builtin.Frozenset.updateFrom id a (.ref l)) Q E s := by
  unfold Builtin.Frozenset.updateFrom
  refine wpAny_bind ((list_notset hl).here ?_)
  rw [if_neg Bool.false_ne_true]
  have L : Looks (model prog w) s.heap (typeOf (.ref l)) (.type "list") := by
    obtain ⟨o, ho, hc, n, hd⟩ := hl
    exact hc ▸ (Looks.ld ho).andThen .now
  refine wpAny_bind (L.here ?_)
  rw [if_neg (by rw [show (Value.type "list" == Value.type "dict") = false from by decide]; exact Bool.false_ne_true)]
  refine wpAny_bind (wpAny_pyIter_list hl ?_)
  refine wpAny_bind (wpAny_runValue (codeAny_mono h fun r s' z => ?_))
  rcases r with e | (v | _ | _ | _) <;> first | exact z | exact z.elim | exact wpAny_pure z

theorem iter_new {o' : Obj} {h : Heap} : (h.push { cls := .type "list_iterator", data := .fields #[.ref l, .int 0 0] }).IsListIter h.objs.size l 0 :=
  ⟨_, Heap.get?_push_size _ rfl, rfl, rfl⟩

theorem updateFrom_ok {id : String} {items : Array Value} {ms : List Int} {Q : Unit → Shared → Prop} (hh : A.handled = none) (hl : s.heap.IsList l items) (hm : IntsAre items.toList ms) (hr : ∀ k ∈ ms, 0 ≤ k ∧ k < 12)
    (ha : s.heap.get? a = some o) (hal : a ≠ l) (hd : o.data = .set es ep t) (G : Good es t ns)
    (h : ∀ h' tk es' ep' t', Kept [a] s.heap h' → h'.get? a = some { o with data := .set es' ep' t' } → Good es' t' (ms.foldl addN ns) → Q () { s with heap := h', toks := tk }) :
    wpAny (model prog w) A (Builtin.Frozenset.updateFrom id a (.ref l)) Q E s := by
  have hla := Heap.lt_size ha
  have hll : l < s.heap.objs.size := by obtain ⟨ol, hol, _⟩ := hl; exact Heap.lt_size hol
  refine updateFrom_core hl ?_
  refine update_loop_ok (I := s.heap.objs.size) (l := l) hh hm hr (Nat.ne_of_lt hla) hal (Nat.ne_of_gt hll) (items.size - 0) 0 _ o es ep t ns (by omega) (Nat.zero_le _) ⟨_, Heap.get?_push_size _ rfl, rfl, rfl⟩ (hl.push _) (Heap.get?_push_of_some _ ha) hd G ?_
  intro h' tk es' ep' t' hk hg G'
  refine h h' tk es' ep' t' (fun b o' hb e => hk b o' ?_ (Heap.get?_push_of_some _ e)) hg (by simpa using G')
  simp only [List.mem_cons, List.not_mem_nil, or_false, not_or] at hb ⊢
  exact ⟨hb, Nat.ne_of_lt (Heap.lt_size e)⟩

theorem updateFrom_w {id : String} {items : Array Value} {ms : List Int} {v : Value} {more vs : List Value} {h₀ : Heap} {Q : Unit → Shared → Prop} (hh : A.handled = none) (hu : A.units + 3 < cLine) (hl : s.heap.IsList l items)
    (hi0 : items.toList = vs ++ v :: more) (hm : IntsAre vs ms) (hr : ∀ k ∈ ms, 0 ≤ k ∧ k < 12) (hw : Wrong v) (X : (Mine.hd.heap_39 w.params).In h₀)
    (ha : s.heap.get? a = some o) (hal : a ≠ l) (hd : o.data = .set es ep t) (G : Good es t ns) (ha0 : h₀.get? a = none) (ov : Over h₀ s.heap)
    (hE : ∀ h' tk e, Heap.NewExc h₀ h' e "TypeError" → E (.ref e) { s with heap := h', toks := tk }) :
    wpAny (model prog w) A (Builtin.Frozenset.updateFrom id a (.ref l)) Q E s := by
  have hla := Heap.lt_size ha
  have hll : l < s.heap.objs.size := by obtain ⟨ol, hol, _⟩ := hl; exact Heap.lt_size hol
  refine updateFrom_core hl ?_
  have hI0 : h₀.get? s.heap.objs.size = none := by
    cases q : h₀.get? s.heap.objs.size with
    | none => rfl
    | some o => exact absurd (Heap.lt_size (ov _ _ q)) (Nat.lt_irrefl _)
  refine update_loop_w (I := s.heap.objs.size) (l := l) (h₀ := h₀) hh hu hi0 hm hr hw X (Nat.ne_of_lt hla) hal (Nat.ne_of_gt hll) ha0 hI0 (vs.length - 0) 0 _ o es ep t ns (by omega) (Nat.zero_le _)
    (fun b o' e => Heap.get?_push_of_some _ (ov b o' e)) ⟨_, Heap.get?_push_size _ rfl, rfl, rfl⟩ (hl.push _) (Heap.get?_push_of_some _ ha) hd G ?_
  intro h' tk e hn
  exact hE h' tk e hn

theorem call_update_ok {items : Array Value} {ms : List Int} {Q : Value → Shared → Prop} (J : IsO s w a o) (hh : A.handled = none) (hl : s.heap.IsList l items) (hm : IntsAre items.toList ms) (hr : ∀ k ∈ ms, 0 ≤ k ∧ k < 12)
    (hal : a ≠ l) (hd : o.data = .set es ep t) (G : Good es t ns)
    (h : ∀ h' tk es' ep' t', Kept [a] s.heap h' → h'.get? a = some { o with data := .set es' ep' t' } → Good es' t' (ms.foldl addN ns) → Q .none { s with heap := h', toks := tk }) :
    wpAny (model prog w) A (call (.builtin "set.update") [.ref a, .ref l]) Q E s := by
  refine callO J p_update en_update kd_update (.inl rfl) sp_update (ar_update _ _) ?_
  unfold Builtin.«set.update» Builtin.Frozenset.manyOthers
  simp only [List.isEmpty_nil, Bool.not_true, Bool.false_eq_true, if_false, bind_assoc]
  unfold Builtin.Frozenset.addrOf
  refine wpAny_bind (wpAny_pure ?_)
  try dsimp only
  refine wpAny_bind (wpAny_pure ?_)
  try dsimp only
  rw [List.forIn_cons]
  refine wpAny_bind (wpAny_bind (wpAny_bind (updateFrom_ok (A := A.in1) hh hl hm hr J.get hal hd G fun h' tk es' ep' t' hk hg G' => ?_)))
  refine wpAny_pure ?_
  dsimp only
  rw [List.forIn_nil]
  exact wpAny_pure (wpAny_pure ⟨_, rfl, h h' tk es' ep' t' hk hg G'⟩)

theorem c_cls : ∃ cd, clsIn (Mine.hd.heap_39 w.params) 232 = some cd ∧ cd.name = ("OrderedSet" : Str) ∧ cd.abstract = false ∧ cd.hasDel = false ∧ cd.mro = [.ref 232, .type "set", .type "object"] ∧ cd.hasDict = false := ⟨_, by k_is, rfl, rfl, rfl, rfl, rfl⟩

theorem name_O {M : Model} (J : IsO s w a o) (n : Nat) (hn : 10 ≤ n) : ∃ x, Looks M s.heap (typeNameOfCut n (.ref a)) x := by
  obtain ⟨cd, h1, h2, _⟩ := c_cls (w := w)
  refine ⟨("OrderedSet" : Str).toString, ?_⟩
  unfold typeNameOfCut shownTypeOf
  refine Looks.andThen (a := .ref 232) (J.type.andThen ?_) ?_
  · rw [if_neg (by rw [show (Value.ref 232 == Value.type "builtin_function_or_method") = false from by decide]; exact Bool.false_ne_true)]
    exact .now
  · unfold typeNameCut
    refine (looks_clsIn J.X h1).andThen ?_
    rw [h2]
    dsimp only
    rw [if_pos (by refine Nat.le_trans ?_ hn; decide +kernel)]
    exact .now
end
end Mine
end
-- part S7
section
open PySem PySem.W PyProof.Rows
set_option maxRecDepth 100000
namespace Mine
section
variable {prog : Program} {w : World} {A : Around} {E : Value → Shared → Prop} {s : Shared} {R : Result → Shared → Prop}
variable {a I l : Addr} {o : Obj} {es : Array (Int × Value)} {ep : Nat} {t : SetTable} {ns : List Int}

theorem printed_O {M : Model} (J : IsO s w a o) : ∃ x, Looks M s.heap (Bind.printed "*" false ⟨.positional, "set", "*", .self, [⟨"iterable", .posOnly, false⟩]⟩ (some (.ref a))) x := by
  obtain ⟨cd, h1, h2, _⟩ := c_cls (w := w)
  refine ⟨Bind.lastOf cd.name.toString, ?_⟩
  unfold Bind.printed Bind.receiverType
  rw [if_neg (by decide)]
  dsimp only
  rw [if_neg (by decide)]
  refine J.type.andThen (Looks.andThen (a := cd.name.toString) ((looks_clsIn J.X h1).andThen .now) ?_)
  exact .now

theorem check_init_O {other : Value} {Q : Unit → Shared → Prop} (J : IsO s w a o) (hQ : Q () s) :
    wpAny (model prog w) A (checkBuiltinCall "set.__init__" ⟨[.ref a, other], []⟩) Q E s := by
  simp only [checkBuiltinCall, kind_set_init, split_set_init, sig_set_init]
  refine wpAny_bind (J.set.here ?_)
  simp only [Bool.not_true, Bool.false_eq_true, if_false]
  unfold Bind.checkArgs
  dsimp only
  refine wpAny_bind (m := Bind.printed "set" true _ _) (PyProof.Rows.printed_name (by decide) ?_)
  obtain ⟨short, hs⟩ := printed_O (M := model prog w) J
  refine wpAny_bind (m := Bind.printed "*" false _ _) (hs.here ?_)
  have hrn : (Manifest.Receiver.self == Manifest.Receiver.none) = false := by decide
  have hn : (if (Manifest.Receiver.self == Manifest.Receiver.none) = true then [Value.ref a, other].length else [Value.ref a, other].length - 1) = 1 := by simp [hrn]
  rw [hn]
  simp only [List.map_nil]
  have hk1 : (Manifest.ParamKind.posOnly == Manifest.ParamKind.posOnly) = true := by decide
  have hk2 : (Manifest.ParamKind.posOnly == Manifest.ParamKind.posOrKw) = false := by decide
  have hk3 : (Manifest.ParamKind.posOnly == Manifest.ParamKind.varPos) = false := by decide
  have hc : Bind.check ⟨.positional, "set", "*", .self, [⟨"iterable", .posOnly, false⟩]⟩ "set" short 1 [] = pure () := by
    simp [Bind.check, Bind.checkCount, Bind.isPositional, hk1, hk2, hk3]
  rw [hc]
  exact wpAny_pure hQ

theorem call_init_ok {items : Array Value} {ms : List Int} {Q : Value → Shared → Prop} (J : IsO s w a o) (hh : A.handled = none) (hl : s.heap.IsList l items) (hm : IntsAre items.toList ms) (hr : ∀ k ∈ ms, 0 ≤ k ∧ k < 12)
    (hal : a ≠ l) (hd : o.data = .set es ep t) (G : Good es t ns) (hfill : t.fill = 0)
    (h : ∀ h' tk es' ep' t', Kept [a] s.heap h' → h'.get? a = some { o with data := .set es' ep' t' } → Good es' t' (ms.foldl addN ns) → Q .none { s with heap := h', toks := tk }) :
    wpAny (model prog w) A (call (.builtin "set.__init__") [.ref a, .ref l]) Q E s := by
  refine wpAny_call (codeAny_call_builtin PySem.F.called_set.init.plain PySem.F.entry_set_init (check_init_O J ?_))
  unfold Builtin.«set.__init__» noKeywords
  refine wpAny_bind (wpAny_pure ?_)
  dsimp only
  obtain ⟨x, hx⟩ := name_O (M := model prog w) J 200 (by decide)
  refine wpAny_bind (hx.here ?_)
  refine wpAny_bind (m := checkCount x 0 1 1) (wpAny_pure ?_)
  refine wpAny_bind (m := Builtin.Frozenset.addrOf (.ref a)) (wpAny_pure ?_)
  unfold setUsed
  refine wpAny_bind (wpAny_bind (wpAny_setState_of J.get hd G.tab.fits (wpAny_pure ?_)))
  dsimp only
  rw [hfill]
  rw [if_neg (by decide)]
  refine wpAny_bind (updateFrom_ok (A := A.in1) hh hl hm hr J.get hal hd G fun h' tk es' ep' t' hk hg G' => ?_)
  exact wpAny_pure (h h' tk es' ep' t' hk hg G')
end
end Mine
end
-- part S8
section
open PySem PySem.W PyProof.Rows
set_option maxRecDepth 100000
namespace Mine
section
variable {prog : Program} {w : World} {A : Around} {E : Value → Shared → Prop} {s : Shared} {R : Result → Shared → Prop}

abbrev OObj (dx : Addr) (led : Bool) : Obj := { cls := .ref 232, dict := some dx, data := .set #[] 0 (.fresh 0 0 led) }

theorem k232 : ∃ oc od cd sl, (Mine.hd.heap_39 w.params).lookup 232 = some ⟨oc, od, .cls cd, sl⟩ ∧ cd.abstract = false ∧ cd.hasDel = false ∧ cd.mro = [.ref 232, .type "set", .type "object"] ∧ sl[4]? = some (some (.builtin "set.__new__")) :=
  ⟨_, _, _, _, rfl, rfl, rfl, rfl, rfl⟩
theorem mro_232 {M : Model} {h : Heap} (X : (Mine.hd.heap_39 w.params).In h) : Looks M h (mroOf (.ref 232)) [.ref 232, .type "set", .type "object"] := by
  obtain ⟨cd, h1, _, _, _, h2, _⟩ := c_cls (w := w)
  exact (looks_clsIn X h1).andThen (by rw [h2]; exact .now)
theorem made_232 {M : Model} {h : Heap} (X : (Mine.hd.heap_39 w.params).In h) : Looks M h (Bind.madeBy (.ref 232)) (some "set.__new__") := by
  obtain ⟨oc, od, cd, sl, h1, h2, h3, h4, h5⟩ := k232 (w := w)
  intro A Q E s k q
  unfold Bind.madeBy
  refine wpAny_bind (mro_232 X A _ E s k ?_)
  rw [List.forIn_cons]
  refine wpAny_bind (wpAny_bind (wpAny_bind (wpAny_bind (wpAny_loadPart (k _ _ (X _ _ h1)) (wpAny_pure ?_)))))
  dsimp only
  rw [h5]
  exact wpAny_pure (wpAny_pure (wpAny_pure q))
theorem base_232 {M : Model} {h : Heap} (X : (Mine.hd.heap_39 w.params).In h) : Looks M h (Bind.staticBase (.ref 232)) (.ref 232) := by
  intro A Q E s k q
  unfold Bind.staticBase
  refine wpAny_bind (mro_232 X A _ E s k ?_)
  rw [List.forIn_cons]
  exact wpAny_bind (wpAny_bind (wpAny_bind (made_232 X A _ E s k (wpAny_pure (wpAny_pure (wpAny_pure q))))))
theorem isType_232 {M : Model} {h : Heap} (X : (Mine.hd.heap_39 w.params).In h) : Looks M h (isType (.ref 232)) true := by
  obtain ⟨oc, od, cd, sl, h1, h2, h3, h4, h5⟩ := k232 (w := w)
  exact (Looks.ld (X _ _ h1)).andThen .now
theorem sub_232 {M : Model} {h : Heap} (X : (Mine.hd.heap_39 w.params).In h) : Looks M h (isSubtype (.ref 232) (.type "set")) true := looks_subIn X c_set

theorem kd_new : builtinKind "set.__new__" = some .builtinFn := by kernel_rfl
theorem sp_new : splitId "set.__new__" = some ("set", "__new__") := by kernel_rfl
theorem sg_new : Manifest.signature? "set.__new__" = some ⟨.any, "set", "set", .cls, [⟨"args", .varPos, false⟩, ⟨"kwargs", .varKw, false⟩]⟩ := by
  rw [signature?_of (id := "set.__new__") (n := ['_', '_', 'w', 'e', 'n', '_', '_']) (o := ['t', 'e', 's']) (by kernel_rfl) F.owner_set]; kernel_rfl

theorem check_new {rest : List Value} {Q : Unit → Shared → Prop} (X : (Mine.hd.heap_39 w.params).In s.heap) (q : Q () s) :
    wpAny (model prog w) A (checkBuiltinCall "set.__new__" ⟨.ref 232 :: rest, []⟩) Q E s := by
  simp only [checkBuiltinCall, kd_new, sp_new, sg_new]
  rw [if_pos (by rfl)]
  refine wpAny_bind ((isType_232 X).here ?_)
  simp only [Bool.not_true, Bool.false_eq_true, if_false]
  refine wpAny_bind ((sub_232 X).here ?_)
  simp only [Bool.not_true, Bool.false_eq_true, if_false]
  refine wpAny_bind ((base_232 X).here ?_)
  refine wpAny_bind ((made_232 X).here ?_)
  dsimp only
  rw [if_neg (by rw [bne_self_eq_false]; exact Bool.false_ne_true)]
  have args : Bind.checkArgs "set.__new__" ⟨.any, "set", "set", .cls, [⟨"args", .varPos, false⟩, ⟨"kwargs", .varKw, false⟩]⟩ ⟨.ref 232 :: rest, []⟩ = pure () := by kernel_rfl
  rw [args]
  exact wpAny_pure q

theorem new_O {rest : List Value} (X : (Mine.hd.heap_39 w.params).In s.heap)
    (hq : ∀ led : Bool, R (.ok (.ret (.ref (s.heap.objs.size + 1)))) { s with heap := (s.heap.push emptyDict).push (OObj s.heap.objs.size led) }) :
    codeAny (model prog w) A (.call (.builtin "set.__new__") ⟨.ref 232 :: rest, []⟩) R s := by
  refine codeAny_of_tree ?_
  show wpAny _ A.in1 (do checkBuiltinCall "set.__new__" ⟨.ref 232 :: rest, []⟩; again (.builtin "set.__new__" ⟨.ref 232 :: rest, []⟩)) _ _ s
  refine wpAny_bind (check_new X (wpAny_pure ⟨plainId_quiet F.plain_set_new _, codeAny_builtin F.entry_set_new ?_⟩))
  rw [Around.under_plainId F.plain_set_new _]
  unfold Builtin.«set.__new__» Builtin.Frozenset.newClass
  refine wpAny_bind ?_
  dsimp only
  refine wpAny_bind ((isType_232 X).here ?_)
  simp only [Bool.not_true, Bool.false_eq_true, if_false]
  refine wpAny_bind ((sub_232 X).here ?_)
  simp only [Bool.not_true, Bool.false_eq_true, if_false]
  refine wpAny_pure ?_
  unfold newSet setsByText
  refine wpAny_bind (wpAny_bind (wpAny_bind (wpAny_askSetting (wpAny_pure ?_))))
  dsimp only
  refine wpAny_bind (wpAny_alloc ?_)
  simp only [newObj]
  rw [if_neg (by rw [sizeLine_eq]; decide)]
  unfold newObjAsIs classHasDel
  refine wpAny_bind (wpAny_alloc ?_)
  obtain ⟨oc, od, cd, sl, h1, h2, h3, h4, h5⟩ := k232 (w := w)
  refine wpAny_bind (wpAny_bind (wpAny_bind (wpAny_load (Heap.get?_push_of_some _ (Heap.get?_push_of_some _ (X _ _ h1))) (wpAny_pure ?_))))
  dsimp only
  rw [h3]
  refine wpAny_pure (wpAny_pure (wpAny_pure ?_))
  rw [Heap.size_push]
  exact hq _
end
end Mine
end
-- part S9
section
open PySem PySem.W PySem.Calls PyProof.Rows Builtin
set_option maxRecDepth 100000
namespace Mine
section
variable {prog : Program} {w : World} {A : Around} {E : Value → Shared → Prop} {s : Shared} {R : Result → Shared → Prop} {h : Heap} {g : Array GenState} {d : Drawn} {t : Nat} {os : OsState}

theorem call_232 {M : Model} {h : Heap} (X : (Mine.hd.heap_39 w.params).In h) : Looks M h (specialOf (.ref 232) "__call__") (some (.builtin "type.__call__")) := looks_specialIn X (show specialIn (Mine.hd.heap_39 w.params) (.ref 232) "__call__" = some (some (.builtin "type.__call__")) by k_is)
theorem typ_232 {M : Model} {h : Heap} (X : (Mine.hd.heap_39 w.params).In h) : Looks M h (isInstance (.ref 232) (.type "type")) true := looks_instIn X (show instIn (Mine.hd.heap_39 w.params) (.ref 232) (.type "type") = some true by k_is)
theorem self_232 {M : Model} {h : Heap} (X : (Mine.hd.heap_39 w.params).In h) : Looks M h (isSubtype (.ref 232) (.ref 232)) true := looks_subIn X (show subIn (Mine.hd.heap_39 w.params) (.ref 232) (.ref 232) = some true by k_is)
theorem init_232 {M : Model} {h : Heap} (X : (Mine.hd.heap_39 w.params).In h) : Looks M h (typeLookup (.ref 232) "__init__") (some (.ref 44)) := looks_findIn X (show findIn (Mine.hd.heap_39 w.params) (.ref 232) "__init__" = some (some (.ref 44)) by k_is)
theorem fn_44 {M : Model} {h : Heap} (X : (Mine.hd.heap_39 w.params).In h) (self : Value) : Looks M h (bindSpecial (.ref 44) self) (.ref 44, [self]) := bind_fn X self (show typeIn (Mine.hd.heap_39 w.params) (.ref 44) = some (.type "function") by k_is)

theorem make_O {rest : List Value} (X : (Mine.hd.heap_39 w.params).In h)
    (hq : ∀ led : Bool, codeAny (model prog w) (A.under (.builtin "type.__call__" ⟨.ref 232 :: rest, []⟩)) (.call (.ref 44) ⟨.ref (h.objs.size + 1) :: rest, []⟩) (InitBack (h.objs.size + 1) R) ⟨(h.push emptyDict).push (OObj h.objs.size led), g, d, t, os⟩) :
    codeAny (model prog w) A (.call (.ref 232) ⟨rest, []⟩) R ⟨h, g, d, t, os⟩ := by
  obtain ⟨oc, od, cd, sl, h1, h2, h3, h4, h5⟩ := k232 (w := w)
  have hC := X _ _ h1
  have made := made_232 (M := model prog w) X
  have typ := typ_232 (M := model prog w) X
  have hm := mro_232 (M := model prog w) X
  refine codeAny_of_tree ?_
  show wpAny _ _ (callAny (.ref 232) _) _ _ _
  refine nd_load hC ?_
  show wpAny _ _ (callAny.viaDunder (.ref 232) _) _ _ _
  unfold callAny.viaDunder
  refine wpAny_bind ((call_232 X).at ?_)
  dsimp only
  rw [tc_bind]
  refine wpAny_bind (wpAny_pure (wpAny_bind (wpAny_pure ?_)))
  refine wpAny_pure (a := Fin.again (.call (.builtin "type.__call__") ⟨.ref 232 :: rest, []⟩)) (And.intro rfl ?_)
  refine codeAny_call_builtin_at (Code.quiet_builtin _ (by decide +kernel)) entry_typeCall (check_slot tc_kind tc_split typ (tc_args _ _ _) ?_)
  unfold Builtin.«type.__call__»
  have e4 : ([Value.ref 232, .type "set", .type "object"] : List Value).isEmpty = false := rfl
  repeat (first | simp only [e4, Bool.false_eq_true, if_false] | with_reducible refine wpAny_call ?_ | lk)
  refine new_O X fun led => ?_
  have k : ∀ b o, h.get? b = some o → ((h.push emptyDict).push (OObj h.objs.size led)).get? b = some o := fun b o e => Heap.get?_push_of_some _ (Heap.get?_push_of_some _ e)
  have hx : ((h.push emptyDict).push (OObj h.objs.size led)).get? (h.objs.size + 1) = some (OObj h.objs.size led) := by heap_get
  have t1 : Looks (model prog w) ((h.push emptyDict).push (OObj h.objs.size led)) (typeOf (.ref (h.objs.size + 1))) (.ref 232) := (Looks.ld hx).andThen .now
  have X1 : (Mine.hd.heap_39 w.params).In ((h.push emptyDict).push (OObj h.objs.size led)) := X.keeps k
  have s1 := self_232 (M := model prog w) X1
  have i1 := init_232 (M := model prog w) X1
  have b1 := fn_44 (M := model prog w) X1 (.ref (h.objs.size + 1))
  unfold isInstance callSpecial? specialOf
  dsimp only
  repeat (first | with_reducible refine wpAny_call ?_ | lk)
  refine codeAny_mono (hq led) fun r s' z => ?_
  rcases r with e | (v | _ | _ | _) <;> first | exact z | exact z.elim | skip
  obtain ⟨rfl, z⟩ := z
  exact wpAny_pure (wpAny_pure z)

variable {h₀ : Heap} {L : Addr} {m : Str → Option Value} {news : List (Addr × Obj)}
theorem call_O {rest : List Value} {Q : Value → Shared → Prop} (F : Fr h₀ L s.heap m) (X₀ : (Mine.hd.heap_39 w.params).In h₀) (N : News h₀ L s.heap news)
    (h : ∀ x dx h' led, Fr h₀ L h' m → News h₀ L h' ((x, OObj dx led) :: (dx, dictOf [] 0) :: news) → (∀ p ∈ news, p.1 < dx) → dx < x →
      codeAny (model prog w) (A.under (.builtin "type.__call__" ⟨.ref 232 :: rest, []⟩)) (.call (.ref 44) ⟨.ref x :: rest, []⟩) (InitBack x fun r s' => match r with | .ok (.ret v) => Q v s' | .ok _ => False | .error e => E e s') { s with heap := h' }) :
    wpAny (model prog w) A (call (.ref 232) rest) Q E s := by
  refine wpAny_call ?_
  obtain ⟨hh, g, d, t, os⟩ := s
  refine make_O (X₀.keeps F.keep) fun led => ?_
  have N' := (N.push F emptyDict).push (F.push _) (OObj hh.objs.size led)
  rw [Heap.size_push] at N'
  exact h _ hh.objs.size _ led ((F.push _).push _) N' (fun p hp => Heap.lt_size (N p hp).1) (Nat.lt_succ_self _)
end
end Mine
end
-- part S10
section
open PySem PySem.W PySem.Calls PyProof.Rows Builtin Builtin.ObjectAttr Builtin.Getset_descriptor
set_option maxRecDepth 100000
namespace Mine
section
variable {prog : Program} {w : World} {A : Around} {E : Value → Shared → Prop} {s : Shared} {R : Result → Shared → Prop}
variable {a : Addr} {o : Obj} {h₀ : Heap} {L : Addr} {m : Str → Option Value}

theorem c_ga : findIn (Mine.hd.heap_39 w.params) (.ref 232) "__getattribute__" = some (some (.builtin "set.__getattribute__")) := by k_is
theorem c_gattr : findIn (Mine.hd.heap_39 w.params) (.ref 232) "__getattr__" = some none := by k_is
theorem c_list : findIn (Mine.hd.heap_39 w.params) (.ref 232) "_list" = some (some (.ref 233)) := by k_is
theorem c_listg : specialIn (Mine.hd.heap_39 w.params) (.ref 233) "__get__" = some (some (.builtin "member_descriptor.__get__")) := by k_is
theorem c_listt : takesIn (Mine.hd.heap_39 w.params) (.ref 233) = some true := by k_is
theorem c_lists : slotIn (Mine.hd.heap_39 w.params) 233 232 = some 0 := by k_is
theorem c_isc : (clsIn (Mine.hd.heap_39 w.params) 232).isSome = true := by obtain ⟨cd, h, _⟩ := c_cls (w := w); rw [h]; rfl
theorem canon_set_ga : (Manifest.canonical "set.__getattribute__" != "object.__getattribute__") = false := by decide +kernel
theorem c_sa : findIn (Mine.hd.heap_39 w.params) (.ref 232) "__setattr__" = some (some (.builtin "object.__setattr__")) := by k_is
theorem c_type233 : typeIn (Mine.hd.heap_39 w.params) (.ref 233) = some (.type "member_descriptor") := by k_is

theorem instO {s : Shared} {od : Obj} {dx : Addr} (I : IsO s w a o) (hd : o.dict = some dx) (hg : s.heap.get? dx = some od) {es ep t} (hda : o.data = .set es ep t) : InstAt s.heap a o 232 (some od) :=
  ⟨I.get, I.cls, by unfold notCls; rw [hda], by rw [hd]; exact hg⟩

/-- self._list read -/
theorem get_list {od : Obj} {v : Value} {expr : Bool} {Q : Value → Shared → Prop} (I : IsO s w a o) (J : InstAt s.heap a o 232 (some od)) (hs : o.slots = #[some v]) (hh : handedIn v = true) (h : Q v { s with toks := s.toks + 1 }) :
    wpAny (model prog w) A (getAttr (.ref a) "_list" expr) Q E s := by
  obtain ⟨hp, g, d, t, os⟩ := s
  have X := I.X
  have L0 := J.type (M := model prog w)
  have L1 := looks_findIn (M := model prog w) X c_ga
  have L2 := looks_findIn (M := model prog w) X c_gattr
  have LF := looks_find (M := model prog w) X J (findObj_data c_isc c_list c_listg c_listt)
  unfold getAttr getAttrBy
  refine wpAny_bind (wpAny_mkText (wpAny_holding (wpAny_bind (L0.at (wpAny_bind (L1.at ?_))))))
  dsimp only
  rw [if_neg (by rw [show (Value.builtin "set.__getattribute__" == Value.builtin "object.__getattribute__") = false from by decide +kernel, Bool.and_false]; exact Bool.false_ne_true)]
  unfold getAttrByItsOwn hookBefore
  rw [if_pos (show onTheHeap (.ref 232) = true from rfl)]
  refine wpAny_bind (L2.at ?_)
  refine wpAny_bind (wpAny_attempt (wpAny_holding ?_))
  unfold callGetattribute
  rw [if_neg (by rw [show onTheHeap (Value.builtin "set.__getattribute__") = false from rfl, Bool.and_false]; exact Bool.false_ne_true)]
  unfold boundAndCalled
  rw [PySem.F.slot_set_getattribute.bind]
  refine wpAny_bind (wpAny_pure ?_)
  show wpAny _ _ (call (.builtin "set.__getattribute__") [.ref a, .str "_list" t]) _ _ _
  refine callOn (s := ⟨hp, g, d, t + 1, os⟩) PySem.F.slot_set_getattribute.plain PySem.F.entry_set_ga (kind := .slot) (owner := "set") (n := "__getattribute__") (by kernel_rfl) (.inr rfl) (by kernel_rfl) (L0.andThen (looks_subIn X c_set)) (PySem.F.args_set_getattribute_2 _ _) ?_
  unfold Builtin.«object.__getattribute__»
  refine wpAny_bind (wpAny_pure (wpAny_bind (wpAny_pure (wpAny_bind (L0.at (wpAny_bind (LF.at ?_)))))))
  dsimp only
  show wpAny _ _ (holding [.ref 233] (call (.builtin "member_descriptor.__get__") [.ref 233, .ref a, .ref 232]) >>= ret) _ _ _
  refine wpAny_bind (wpAny_holding (wpAny_call (slot_get (s := ⟨hp, g, d, t + 1, os⟩) X J c_lists (by rw [hs]; rfl) ?_)))
  refine wpAny_pure ⟨v, rfl, ?_⟩
  show wpAny _ _ (handedOut v) _ _ _
  rw [handedOut_of hh]
  exact wpAny_pure h

/-- a method of the class, got on an object -/
theorem get_method {od : Obj} {f : Addr} {name : Str} {pl : Sem Bool} {Q : Value × List Value → Shared → Prop} (I : IsO s w a o) (J : InstAt s.heap a o 232 (some od)) (hod : lookIn name od = some none)
    (hf : findIn (Mine.hd.heap_39 w.params) (.ref 232) name = some (some (.ref f))) (ht : typeIn (Mine.hd.heap_39 w.params) (.ref f) = some (.type "function")) (h : Q (.ref f, [.ref a]) s) :
    wpAny (model prog w) A (getMethod (.ref a) name pl) Q E s := by
  have X := I.X
  unfold getMethod specialOf
  refine wpAny_bind (wpAny_bind (J.type.here ((looks_findIn X c_ga).here ?_)))
  dsimp only
  rw [canon_set_ga, if_neg (by decide)]
  refine wpAny_bind (wpAny_bind (J.type.here ((looks_findIn X c_gattr).here ?_)))
  refine wpAny_bind (wpAny_bind (J.type.here ((looks_findIn X hf).here (wpAny_bind ((looks_typeIn X ht).here ?_)))))
  rw [if_neg (by decide +kernel)]
  refine wpAny_bind (wpAny_loadPart J.at_ ?_)
  have hd := J.dict
  cases e : o.dict with
  | none => exact wpAny_bind (wpAny_rule (wpAny_pure h))
  | some dx =>
    rw [e] at hd
    refine wpAny_bind (wpAny_bind (wpAny_loadPart hd ?_))
    rw [nsLook_of hod]
    refine wpAny_pure ?_
    exact wpAny_bind (wpAny_rule (wpAny_pure h))

theorem passes_set (self : Value) : refuseLoop self "__setattr__" [.type "set", .type "object"] = pure () := by kernel_rfl

/-- self._list = v -/
theorem set_list {od : Obj} {v : Value} {o' : Obj} {pre post : List (Addr × Obj)} {Q : Unit → Shared → Prop} (I : IsO s w a o) (J : InstAt s.heap a o 232 (some od)) (F : Fr h₀ L s.heap m) (N : News h₀ L s.heap (pre ++ (a, o) :: post))
    (h1 : ∀ p ∈ pre, p.1 ≠ a) (h2 : ∀ p ∈ post, p.1 ≠ a)
    (e : { o with slots := (o.slots ++ Array.replicate (0 + 1 - o.slots.size) none).setIfInBounds 0 (some v) } = o') (hf : o'.isFreed = false)
    (h : ∀ h', Fr h₀ L h' m → News h₀ L h' (pre ++ (a, o') :: post) → Q () { s with heap := h', toks := s.toks + 1 }) :
    wpAny (model prog w) A (setAttr (.ref a) "_list" v) Q E s := by
  refine set_plain I.X J c_sa ?_
  have SF := PySem.F.store_object
  have X := I.X
  have L0 := J.type (M := model prog w)
  have sub : Looks (model prog w) s.heap (isInstance (.ref a) (.type "object")) true := J.type.andThen (looks_subIn X (show subIn (Mine.hd.heap_39 w.params) (.ref 232) (.type "object") = some true by k_is))
  refine codeAny_call_builtin SF.slot.plain SF.entry (@check_slot (model prog w) _ _ { s with toks := s.toks + 1 } "object.__setattr__" "object" "__setattr__" (.ref a) [.str "_list" s.toks, v] [] _ SF.kind SF.split sub (SF.args (.ref a) (.str "_list" s.toks) v) ?_)
  have L3 : Looks (model prog w) s.heap (storeTaker? (some (.ref 233))) (some (.ref 233)) := by
    refine (looks_takesIn X c_listt).andThen ?_
    exact .now
  rw [osa_eq, refuse_eq]
  refine wpAny_bind (wpAny_bind (L0.here (s := { s with toks := s.toks + 1 }) (wpAny_bind ((mro_232 X).here (s := { s with toks := s.toks + 1 }) ?_))))
  rw [refuseLoop_ref, passes_set]
  refine wpAny_pure (wpAny_bind (L0.here (s := { s with toks := s.toks + 1 }) (wpAny_bind ((looks_findIn X c_list).here (s := { s with toks := s.toks + 1 }) (wpAny_bind (L3.here (s := { s with toks := s.toks + 1 }) ?_))))))
  dsimp only
  refine wpAny_bind (wpAny_rule (wpAny_bind (wpAny_holding (wpAny_bind (wpAny_bind ((looks_typeIn X c_type233).here (s := { s with toks := s.toks + 1 }) ((Looks.of_pure KF.slot_mset.lookup).here (s := { s with toks := s.toks + 1 }) (wpAny_holding ?_))))))))
  rw [KF.slot_mset.bind]
  refine wpAny_bind (wpAny_pure (wpAny_bind (wpAny_call ?_)))
  refine codeAny_mono (slot_set (s := { s with toks := s.toks + 1 }) (R := fun r s' => match r with | .ok (.ret _) => Q () s' | .ok _ => False | .error e => E e s') F N X J c_lists (by decide) h1 h2 e hf fun h' F' N' => h h' F' N') fun r s' z => ?_
  rcases r with e | (v | _ | _ | _) <;> first | exact z | exact wpAny_pure (wpAny_pure z) | exact z.elim
end
end Mine
end
-- part S11
section
open PySem PySem.W PySem.Calls PyProof.Rows Builtin
set_option maxRecDepth 100000
namespace Mine
section
variable {prog : Program} {w : World} {A : Around} {E : Value → Shared → Prop} {s : Shared} {R : Result → Shared → Prop}
variable {a l : Addr} {o : Obj} {es : Array (Int × Value)} {ep : Nat} {t : SetTable} {ns : List Int} {h₀ : Heap}

abbrev SObj (led : Bool) : Obj := { cls := .type "set", dict := none, data := .set #[] 0 (.fresh 0 0 led) }

theorem base_O {Q : Value → Shared → Prop} (I : IsO s w a o) (h : Q (.type "set") s) : wpAny (model prog w) A (Frozenset.baseOf a) Q E s := by
  unfold Frozenset.baseOf
  refine wpAny_bind (I.set.here ?_)
  exact wpAny_pure h
theorem new_set {Q : Value → Shared → Prop} (h : ∀ led : Bool, Q (.ref s.heap.objs.size) { s with heap := s.heap.push (SObj led) }) : wpAny (model prog w) A (newSet (.type "set")) Q E s :=
  wpAny_newSet_of (knd := intKind prog w) fun led _ => h led

theorem entry_inter_loop : entryFor table "frozenset.intersection.loop" = some Builtin.«frozenset.intersection.loop» := entryFor_of_tree (by kernel_rfl)
theorem plain_inter_loop : plainId "frozenset.intersection.loop" = true := by decide +kernel

theorem inter_w {id : String} {items : Array Value} {v : Value} {more : List Value} {Q : Value → Shared → Prop} (I : IsO s w a o) (hh : A.handled = none) (hu : A.units + 4 < cLine) (hl : s.heap.IsList l items) (hla : l ≠ a)
    (hi0 : items.toList = v :: more) (hw : Wrong v) (hE : Raises E s) : wpAny (model prog w) A (Frozenset.intersection id a (.ref l)) Q E s := by
  unfold Frozenset.intersection
  rw [if_neg (by simpa using hla)]
  refine wpAny_bind (base_O I ?_)
  refine wpAny_bind (new_set fun led => ?_)
  refine wpAny_bind (m := Frozenset.addrOf _) (wpAny_pure ?_)
  have hl' : (s.heap.push (SObj led)).IsList l items := hl.push _
  refine wpAny_bind (wpAny_holding ?_)
  refine wpAny_bind ((list_notset (s := { s with heap := s.heap.push (SObj led) }) hl').here ?_)
  rw [if_neg Bool.false_ne_true]
  refine wpAny_bind (wpAny_pyIter_list (s := { s with heap := s.heap.push (SObj led) }) hl' ?_)
  refine wpAny_bind (wpAny_runValue (codeAny_builtin entry_inter_loop ?_))
  rw [Around.under_plainId plain_inter_loop _]
  show wpAny _ A.in1 (pyNext (.ref _) >>= _) _ _ _
  refine wpAny_bind (wpAny_pyNext_list_item (i := 0) (x := v) ⟨_, Heap.get?_push_size _ rfl, rfl, rfl⟩ (hl'.push _) (by rw [← Array.getElem?_toList, hi0]; rfl) fun h' hit hs => ?_)
  have ov : Over s.heap h' := fun b o' e => by
    have h1 : ((s.heap.push (SObj led)).push { cls := .type "list_iterator", data := .fields #[.ref l, .int 0 0] }).get? b = some o' := Heap.get?_push_of_some _ (Heap.get?_push_of_some _ e)
    rw [hs.2 b ?_]
    · exact h1
    · rw [Heap.size_push]; exact Nat.ne_of_lt (Nat.lt_succ_of_lt (Heap.lt_size e))
  refine wpAny_bind (wpAny_holding ?_)
  exact hash_wrong (s := { s with heap := h' }) hw (fun b o' e => ov b o' (I.X b o' e)) hh (by show A.units + 1 + 2 < cLine; omega) fun h'' tk e hn => hE h'' tk e (ov.exc hn)

theorem call_inter_w {items : Array Value} {v : Value} {more : List Value} {Q : Value → Shared → Prop} (I : IsO s w a o) (hh : A.handled = none) (hu : A.units + 5 < cLine) (hl : s.heap.IsList l items) (hla : l ≠ a)
    (hi0 : items.toList = v :: more) (hw : Wrong v) (hE : Raises E s) : wpAny (model prog w) A (call (.builtin "set.intersection") [.ref a, .ref l]) Q E s := by
  refine callO I p_intersection en_intersection kd_intersection (.inl rfl) sp_intersection (ar_intersection _ _) ?_
  unfold Builtin.«frozenset.intersection» Frozenset.manyOthers
  simp only [List.isEmpty_nil, Bool.not_true, Bool.false_eq_true, if_false, bind_assoc]
  refine wpAny_bind (m := Frozenset.addrOf _) (wpAny_pure ?_)
  refine wpAny_bind (wpAny_pure ?_)
  dsimp only
  rw [if_neg (show ¬ (([Value.ref l] : List Value).isEmpty = true) from Bool.false_ne_true)]
  rw [List.forIn_cons]
  refine wpAny_bind (wpAny_bind (wpAny_bind (wpAny_holding ?_)))
  refine wpAny_bind (m := Frozenset.addrOf _) (wpAny_pure ?_)
  exact inter_w (A := A.in1) I hh (by show A.units + 1 + 4 < cLine; omega) hl hla hi0 hw hE

theorem call_interu_w {items : Array Value} {v : Value} {more : List Value} {Q : Value → Shared → Prop} (I : IsO s w a o) (hh : A.handled = none) (hu : A.units + 5 < cLine) (hl : s.heap.IsList l items) (hla : l ≠ a)
    (hi0 : items.toList = v :: more) (hw : Wrong v) (hE : Raises E s) : wpAny (model prog w) A (call (.builtin "set.intersection_update") [.ref a, .ref l]) Q E s := by
  refine callO I p_intersection_update en_intersection_update kd_intersection_update (.inl rfl) sp_intersection_update (ar_intersection_update _ _) ?_
  unfold Builtin.«set.intersection_update» Frozenset.manyOthers
  simp only [List.isEmpty_nil, Bool.not_true, Bool.false_eq_true, if_false, bind_assoc]
  refine wpAny_bind (m := Frozenset.addrOf _) (wpAny_pure ?_)
  refine wpAny_bind (wpAny_pure ?_)
  dsimp only
  rw [if_neg (show ¬ (([Value.ref l] : List Value).isEmpty = true) from Bool.false_ne_true)]
  refine wpAny_bind (wpAny_pure ?_)
  rw [List.forIn_cons]
  refine wpAny_bind (wpAny_bind (wpAny_bind (wpAny_holding ?_)))
  refine wpAny_bind (m := Frozenset.addrOf _) (wpAny_pure ?_)
  exact inter_w (A := A.in1) I hh (by show A.units + 1 + 4 < cLine; omega) hl hla hi0 hw hE

theorem entry_diff_loop : entryFor table "set.difference_update.loop" = some Builtin.«set.difference_update.loop» := entryFor_of_tree (by kernel_rfl)
theorem plain_diff_loop : plainId "set.difference_update.loop" = true := by decide +kernel

/-- the ints of a table -/
def intsOf (es : Array (Int × Value)) : List Int := es.toList.map fun e => match e.2 with | .int k _ => k | _ => 0
structure Ints (es : Array (Int × Value)) (t : SetTable) : Prop where
  els : ∀ e ∈ es.toList, ∃ k tk, e.2 = .int k tk ∧ e.1 = hashInt k
  fits : t.fits es.size = true
  small : es.size < 1000
theorem Ints.tab (H : Ints es t) : Tab es t (intsOf es) := by
  refine ⟨H.els, fun k => ?_, by simp [intsOf], H.fits, H.small⟩
  unfold intsOf
  rw [List.mem_map]
  constructor
  · rintro ⟨e, he, h⟩
    obtain ⟨k', tk, h1, _⟩ := H.els e he
    rw [h1] at h; exact ⟨e, he, tk, by rw [h1, ← h]⟩
  · rintro ⟨e, he, tk, h⟩
    exact ⟨e, he, by rw [h]⟩
theorem Tab.ints (H : Tab es t ns) : Ints es t := ⟨H.els, H.fits, H.small⟩

theorem toList_eraseAt {α : Type} (xs : Array α) (i : Nat) : (SetTable.eraseAt xs i).toList = xs.toList.take i ++ xs.toList.drop (i + 1) := by
  simp [SetTable.eraseAt, List.extract_eq_take_drop, List.take_of_length_le]
theorem size_eraseAt {α : Type} (xs : Array α) (i : Nat) (h : i < xs.size) : (SetTable.eraseAt xs i).size = xs.size - 1 := by
  rw [← Array.length_toList, toList_eraseAt, List.length_append, List.length_take, List.length_drop, Array.length_toList]; omega
theorem Ints.drop (H : Ints es t) {i : Nat} (hi : i < es.size) : Ints (SetTable.eraseAt es i) (t.drop i) := by
  refine ⟨fun e he => ?_, ?_, by rw [size_eraseAt es i hi]; have := H.small; omega⟩
  · rw [toList_eraseAt] at he
    rcases List.mem_append.mp he with he | he
    · exact H.els e (List.mem_of_mem_take he)
    · exact H.els e (List.mem_of_mem_drop he)
  · have hf : t.place.size = es.size ∧ t.place.size + t.dummies.size ≤ t.mask := by
      have := H.fits
      simp only [SetTable.fits, Bool.and_eq_true, beq_iff_eq, decide_eq_true_eq] at this
      exact this
    have hip : i < t.place.size := by omega
    have e : t.drop i = { t with place := SetTable.eraseAt t.place i, dummies := SetTable.insertAt t.dummies (SetTable.below t.dummies t.place[i]) t.place[i] } := by
      unfold SetTable.drop
      rw [Array.getElem?_eq_getElem hip]
    have h3 : (SetTable.insertAt t.dummies (SetTable.below t.dummies t.place[i]) t.place[i]).size = t.dummies.size + 1 := by
      rw [← Array.length_toList, (SetTable.insertAt_perm _ _ _).length_eq, Array.length_toList, Array.size_push]
    have h1 := size_eraseAt es i hi
    have h2 := size_eraseAt t.place i hip
    rw [e]
    simp only [SetTable.fits, Bool.and_eq_true, beq_iff_eq, decide_eq_true_eq]
    refine ⟨by omega, ?_⟩
    show (SetTable.eraseAt t.place i).size + (SetTable.insertAt t.dummies (SetTable.below t.dummies t.place[i]) t.place[i]).size ≤ t.mask
    omega

theorem discard_i {k : Int} {tk : Tok} {Q : Bool → Shared → Prop} (ho : s.heap.get? a = some o) (hd : o.data = .set es ep t) (H : Ints es t)
    (h : ∀ r h' es' ep' t', Heap.SameBut a s.heap h' → h'.get? a = some { o with data := .set es' ep' t' } → Ints es' t' → Q r { s with heap := h', toks := s.toks + 1 }) :
    wpAny (model prog w) A (setDiscard a (.int k tk)) Q E s := by
  unfold setDiscard
  refine wpAny_holding ?_
  refine wpAny_bind ((intKind prog w).pyHash (intKind_is _ _ k tk) ?_)
  unfold setDiscardHashed
  refine wpAny_bind (setFind_i (s := { s with toks := s.toks + 1 }) ho hd H.tab fun r hr _ => ?_)
  cases r with
  | none =>
    dsimp only
    exact wpAny_pure (h false s.heap es ep t (Heap.SameBut.refl a s.heap) (by rw [ho, ← hd]) H)
  | some i =>
    dsimp only
    obtain ⟨hi, _, _⟩ := List.findIdx?_eq_some_iff_getElem.mp hr.symm
    rw [Array.length_toList] at hi
    refine wpAny_bind (wpAny_setState_of (s := { s with toks := s.toks + 1 }) ho hd H.fits ?_)
    dsimp only
    refine wpAny_bind (wpAny_storeSet_of (s := { s with toks := s.toks + 1 }) ho hd ?_ (by rw [size_eraseAt es i hi, sizeLine_eq]; have := H.small; omega))
    refine wpAny_bind (wpAny_point (wpAny_pure ?_))
    refine h true _ (SetTable.eraseAt es i) (ep + 1) (t.drop i) (Heap.SameBut.update _ a _) ?_ (H.drop hi)
    have := Heap.get?_update_self (Obj.putSet (SetTable.eraseAt es i) (t.drop i)) ho (by rw [putSet_of _ _ hd]; rfl)
    rw [putSet_of _ _ hd] at this; exact this

theorem diff_loop_w {I : Addr} {items : Array Value} {ms : List Int} {v : Value} {more : List Value} {vs : List Value} (hh : A.handled = none) (hu : A.units + 3 < cLine)
    (hi0 : items.toList = vs ++ v :: more) (hm : IntsAre vs ms) (hw : Wrong v) (X : (Mine.hd.heap_39 w.params).In h₀)
    (haI : a ≠ I) (hal : a ≠ l) (hIl : I ≠ l) (ha0 : vs ≠ [] → h₀.get? a = none) (hI0 : h₀.get? I = none) :
    ∀ (j i : Nat) (s : Shared) (o : Obj) (es : Array (Int × Value)) (ep : Nat) (t : SetTable), vs.length - i = j → i ≤ vs.length → Over h₀ s.heap →
      s.heap.IsListIter I l i → s.heap.IsList l items → s.heap.get? a = some o → o.data = .set es ep t → Ints es t →
      (∀ h' tk e, Heap.NewExc h₀ h' e "TypeError" → R (.error (.ref e)) { s with heap := h', toks := tk }) →
      codeAny (model prog w) A (.builtin "set.difference_update.loop" ⟨[.ref a, .ref I], []⟩) R s := by
  intro j
  induction j with
  | zero =>
    intro i s o es ep t hj hi ov hit hl ha hd G hR
    have hi' : i = vs.length := by omega
    have hx : items[i]? = some v := by rw [← Array.getElem?_toList, hi0, hi']; simp
    refine codeAny_builtin entry_diff_loop ?_
    rw [Around.under_plainId plain_diff_loop _]
    show wpAny _ A.in1 (pyNext (.ref I) >>= _) _ _ s
    refine wpAny_bind (wpAny_pyNext_list_item hit hl hx fun h₁ hit₁ hs₁ => ?_)
    show wpAny _ A.in1 (holding [v] (setDiscard a v) >>= _) _ _ _
    refine wpAny_bind (wpAny_holding ?_)
    unfold setDiscard
    refine wpAny_holding ?_
    have ov₁ : Over h₀ h₁ := ov.kept (Kept.of_same (S := [I]) hs₁ (by simp)) (by intro b hb; simp at hb; rw [hb]; exact hI0)
    refine wpAny_bind (hash_wrong (s := { s with heap := h₁ }) hw (fun b o e => ov₁ b o (X b o e)) hh (by show A.units + 1 + 2 < cLine; omega) fun h' tk e hn => ?_)
    exact hR h' tk e (ov₁.exc hn)
  | succ j ih =>
    intro i s o es ep t hj hi ov hit hl ha hd G hR
    have hlt : i < vs.length := by omega
    have ha0' : h₀.get? a = none := ha0 (fun e => by rw [e] at hlt; simp at hlt)
    have hS : ∀ b ∈ [a, I], h₀.get? b = none := by intro b hb; simp at hb; rcases hb with rfl | rfl <;> assumption
    obtain ⟨k, tk, hv, hk⟩ := intsAre_get hm (i := i) (v := vs[i]) (by simp [hlt])
    have hx : items[i]? = some (vs[i]) := by rw [← Array.getElem?_toList, hi0, List.getElem?_append_left hlt]; simp [hlt]
    refine codeAny_builtin entry_diff_loop ?_
    rw [Around.under_plainId plain_diff_loop _]
    show wpAny _ A.in1 (pyNext (.ref I) >>= _) _ _ s
    refine wpAny_bind (wpAny_pyNext_list_item hit hl hx fun h₁ hit₁ hs₁ => ?_)
    rw [hv]
    show wpAny _ A.in1 (holding [Value.int k tk] (setDiscard a (.int k tk)) >>= _) _ _ _
    refine wpAny_bind (wpAny_holding ?_)
    have ha₁ : h₁.get? a = some o := (hs₁.2 a haI).trans ha
    refine discard_i (s := { s with heap := h₁ }) ha₁ hd G fun r h₂ es₂ ep₂ t₂ hs₂ hg₂ G₂ => ?_
    refine wpAny_pure ⟨plainId_quiet plain_diff_loop _, ?_⟩
    refine ih (i + 1) _ _ _ ep₂ _ (by omega) hlt ?_ ?_ ?_ hg₂ rfl G₂ ?_
    · exact (ov.kept (Kept.of_same (S := [a, I]) hs₁ (by simp)) hS).kept (Kept.of_same (S := [a, I]) hs₂ (by simp)) hS
    · obtain ⟨oi, h1, h2⟩ := hit₁
      exact ⟨oi, (hs₂.2 I (Ne.symm haI)).trans h1, h2⟩
    · obtain ⟨ol, h1, h2⟩ := hl
      exact ⟨ol, (hs₂.2 l (Ne.symm hal)).trans ((hs₁.2 l (Ne.symm hIl)).trans h1), h2⟩
    · exact hR

theorem differenceUpdate_w {id : String} {items : Array Value} {ms : List Int} {v : Value} {more vs : List Value} {Q : Unit → Shared → Prop} (hh : A.handled = none) (hu : A.units + 3 < cLine) (hl : s.heap.IsList l items)
    (hi0 : items.toList = vs ++ v :: more) (hm : IntsAre vs ms) (hw : Wrong v) (X : (Mine.hd.heap_39 w.params).In h₀)
    (ha : s.heap.get? a = some o) (hal : a ≠ l) (hd : o.data = .set es ep t) (G : Ints es t) (ha0 : vs ≠ [] → h₀.get? a = none) (ov : Over h₀ s.heap)
    (hE : ∀ h' tk e, Heap.NewExc h₀ h' e "TypeError" → E (.ref e) { s with heap := h', toks := tk }) :
    wpAny (model prog w) A (Frozenset.differenceUpdate id a (.ref l)) Q E s := by
  have hla := Heap.lt_size ha
  have hll : l < s.heap.objs.size := by obtain ⟨ol, hol, _⟩ := hl; exact Heap.lt_size hol
  have hI0 : h₀.get? s.heap.objs.size = none := by
    cases q : h₀.get? s.heap.objs.size with
    | none => rfl
    | some o => exact absurd (Heap.lt_size (ov _ _ q)) (Nat.lt_irrefl _)
  unfold Frozenset.differenceUpdate
  rw [if_neg (by simpa using Ne.symm hal)]
  refine wpAny_bind ((list_notset hl).here ?_)
  rw [if_neg Bool.false_ne_true]
  refine wpAny_bind (wpAny_pyIter_list hl ?_)
  refine wpAny_bind (wpAny_runValue ?_)
  refine diff_loop_w (I := s.heap.objs.size) (l := l) (h₀ := h₀) hh hu hi0 hm hw X (Nat.ne_of_lt hla) hal (Nat.ne_of_gt hll) ha0 hI0 (vs.length - 0) 0 _ o es ep t (by omega) (Nat.zero_le _)
    (fun b o' e => Heap.get?_push_of_some _ (ov b o' e)) ⟨_, Heap.get?_push_size _ rfl, rfl, rfl⟩ (hl.push _) (Heap.get?_push_of_some _ ha) hd G ?_
  intro h' tk e hn
  exact hE h' tk e hn

theorem call_diffu_w {items : Array Value} {v : Value} {more : List Value} {Q : Value → Shared → Prop} (I : IsO s w a o) (hd : o.data = .set es ep t) (G : Tab es t ns) (hh : A.handled = none) (hu : A.units + 5 < cLine) (hl : s.heap.IsList l items) (hla : l ≠ a)
    (hi0 : items.toList = v :: more) (hw : Wrong v) (hE : Raises E s) : wpAny (model prog w) A (call (.builtin "set.difference_update") [.ref a, .ref l]) Q E s := by
  refine callO I p_difference_update en_difference_update kd_difference_update (.inl rfl) sp_difference_update (ar_difference_update _ _) ?_
  unfold Builtin.«set.difference_update» Frozenset.manyOthers
  simp only [List.isEmpty_nil, Bool.not_true, Bool.false_eq_true, if_false, bind_assoc]
  refine wpAny_bind (m := Frozenset.addrOf _) (wpAny_pure ?_)
  refine wpAny_bind (wpAny_pure ?_)
  dsimp only
  rw [List.forIn_cons]
  refine wpAny_bind (wpAny_bind (wpAny_bind ?_))
  exact differenceUpdate_w (A := A.in1) (vs := []) (ms := []) hh (by show A.units + 1 + 3 < cLine; omega) hl hi0 .nil hw I.X I.get (Ne.symm hla) hd G.ints (fun e => absurd rfl e) (fun _ _ e => e) hE
end
end Mine
end
-- part S12
section
open PySem PySem.W PySem.Calls PyProof.Rows Builtin
set_option maxRecDepth 100000
namespace Mine
section
variable {prog : Program} {w : World} {A : Around} {E : Value → Shared → Prop} {s : Shared} {R : Result → Shared → Prop}
variable {a l : Addr} {o : Obj} {es : Array (Int × Value)} {ep : Nat} {t : SetTable} {ns : List Int} {h₀ : Heap}

def roomT (m : Nat) (led : Bool) : SetTable := { mask := m, place := #[], dummies := #[], finger := 0, led := led, moves := 1, plain := true }
theorem room_tab (n : Nat) (h5 : 5 ≤ n) (h12 : n ≤ 12) (led : Bool) : ∃ m, (m = 15 ∨ m = 31) ∧ (SetTable.fresh 0 0 led).relaid #[] ((0 + n) * 2) = some (roomT m led, #[]) ∧ SetTable.sizeAbove ((0 + n) * 2) ≤ 1000 := by
  have : n = 5 ∨ n = 6 ∨ n = 7 ∨ n = 8 ∨ n = 9 ∨ n = 10 ∨ n = 11 ∨ n = 12 := by omega
  rcases this with rfl | rfl | rfl | rfl | rfl | rfl | rfl | rfl
  · exact ⟨15, .inl rfl, by kernel_rfl, by decide +kernel⟩
  · exact ⟨15, .inl rfl, by kernel_rfl, by decide +kernel⟩
  · exact ⟨15, .inl rfl, by kernel_rfl, by decide +kernel⟩
  · exact ⟨31, .inr rfl, by kernel_rfl, by decide +kernel⟩
  · exact ⟨31, .inr rfl, by kernel_rfl, by decide +kernel⟩
  · exact ⟨31, .inr rfl, by kernel_rfl, by decide +kernel⟩
  · exact ⟨31, .inr rfl, by kernel_rfl, by decide +kernel⟩
  · exact ⟨31, .inr rfl, by kernel_rfl, by decide +kernel⟩

theorem store_set {r : Addr} {o : Obj} {es es' : Array (Int × Value)} {ep : Nat} {t t' : SetTable} {Q : Unit → Shared → Prop} (hr : s.heap.get? r = some o) (hd : o.data = .set es ep t) (hz : es'.size ≤ sizeLine)
    (h : ∀ h', Heap.SameBut r s.heap h' → h'.get? r = some { o with data := .set es' (ep + 1) t' } → Q () { s with heap := h' }) : wpAny (model prog w) A (storeSet r es' t') Q E s := by
  refine wpAny_storeSet_of hr hd ?_ hz
  refine h _ (Heap.SameBut.update _ r _) ?_
  have := Heap.get?_update_self (Obj.putSet es' t') hr (by rw [putSet_of _ _ hd]; rfl)
  rw [putSet_of _ _ hd] at this; exact this

theorem fits_fresh (led : Bool) : (SetTable.fresh 0 0 led).fits (#[] : Array (Int × Value)).size = true := rfl
theorem fits_room (m : Nat) (led : Bool) : (roomT m led).fits (#[] : Array (Int × Value)).size = true := by
  unfold SetTable.fits SetTable.fill roomT
  simp

theorem road_same {ts to : SetTable} (h1 : ts.fill = 0) (h2 : ts.mask = to.mask) (h3 : to.dummies = #[]) : ts.road to = .slotForSlot := by
  unfold SetTable.road
  rw [h1, h2, h3]; simp
theorem road_clean {ts to : SetTable} (h1 : ts.fill = 0) (h2 : ts.mask ≠ to.mask) : ts.road to = .clean := by
  unfold SetTable.road
  rw [h1, if_neg (by decide)]
  rw [if_neg (by simp [h2])]

theorem reord {es : Array (Int × Value)} {laid : Option (SetTable × Array Nat)} {t' : SetTable} {order : Array Nat} {Q : Array (Int × Value) × SetTable → Shared → Prop} (he : laid = some (t', order)) (hz : (order.filterMap (es[·]?)).size = es.size)
    (h : Q (order.filterMap (es[·]?), t') s) : wpAny (model prog w) A (do
      let some (t, order) := laid | unsupported "internal:set-table-without-room"
      let es' := order.filterMap (es[·]?)
      if es'.size != es.size then unsupported "internal:set-table-lost-an-element"
      pure (es', t)) Q E s := by
  rw [he]
  dsimp only
  rw [if_neg (by rw [hz, bne_self_eq_false]; exact Bool.false_ne_true)]
  exact wpAny_pure h

theorem merge_copy {r : Addr} {led : Bool} {each : Sem Unit} {Q : Unit → Shared → Prop} (hr : s.heap.get? r = some (SObj led)) (ha : s.heap.get? a = some o) (hra : r ≠ a) (hd : o.data = .set es ep t) (G : Good es t ns)
    (h : ∀ h' es' ep' t', Heap.SameBut r s.heap h' → h'.get? r = some { cls := .type "set", dict := none, data := .set es' ep' t' } → Ints es' t' → Q () { s with heap := h' }) :
    wpAny (model prog w) A (setMerge r a each) Q E s := by
  have hsz := G.size
  have hzl : es.size ≤ sizeLine := by rw [sizeLine_eq]; omega
  unfold setMerge
  rw [if_neg (by simpa using hra)]
  refine wpAny_bind (wpAny_setState_of ha hd G.tab.fits ?_)
  dsimp only
  by_cases h0 : es.isEmpty = true
  · rw [if_pos h0]
    exact wpAny_pure (h s.heap #[] 0 _ (Heap.SameBut.refl _ _) hr ⟨fun e he => by simp at he, fits_fresh led, by decide⟩)
  rw [if_neg h0]
  have hfit : ∀ ts : SetTable, ({ t with finger := ts.finger, led := ts.led && t.led, moves := ts.moves, plain := ts.plain && t.plain } : SetTable).fits es.size = true := fun ts => by
    have := G.tab.fits
    unfold SetTable.fits SetTable.fill at this ⊢
    exact this
  rcases G.lay.cs with ⟨hm, hn⟩ | ⟨hm, hn, _⟩
  · unfold setRoomFor
    refine wpAny_bind (wpAny_bind (wpAny_setState_of hr rfl (fits_fresh led) ?_))
    dsimp only
    have hroom : (SetTable.fresh 0 0 led).roomFor es.size = none := by
      unfold SetTable.roomFor SetTable.fill SetTable.fresh
      dsimp only
      rw [if_neg (by simp; omega)]
    rw [hroom]
    refine wpAny_pure ?_
    refine wpAny_bind (wpAny_setState_of hr rfl (fits_fresh led) ?_)
    dsimp only
    rw [road_same (by rfl) (by rw [hm]; rfl) G.lay.dum]
    dsimp only
    refine store_set hr rfl hzl fun h' hs hg => ?_
    exact h h' es _ _ hs hg ⟨G.tab.els, hfit _, G.tab.small⟩
  · obtain ⟨m, hmm, hrel, hab⟩ := room_tab es.size hn hsz led
    unfold setRoomFor
    refine wpAny_bind (wpAny_bind (wpAny_setState_of hr rfl (fits_fresh led) ?_))
    dsimp only
    have hroom : (SetTable.fresh 0 0 led).roomFor es.size = some ((0 + es.size) * 2) := by
      unfold SetTable.roomFor SetTable.fill SetTable.fresh
      dsimp only
      rw [if_pos (by simp; omega)]
      rfl
    rw [hroom]
    dsimp only
    unfold setRelay
    refine wpAny_bind (wpAny_setState_of hr rfl (fits_fresh led) ?_)
    dsimp only
    rw [if_neg (by rw [sizeLine_eq]; omega)]
    refine wpAny_bind (reord (es := #[]) (t' := roomT m led) (order := #[]) (by rw [Array.map_empty]; exact hrel) rfl ?_)
    dsimp only
    refine store_set hr rfl (by rw [sizeLine_eq]; decide) fun h₁ hs₁ hg₁ => ?_
    refine wpAny_bind (wpAny_setState_of (s := { s with heap := h₁ }) hg₁ rfl (fits_room m led) ?_)
    dsimp only
    by_cases hme : m = t.mask
    · rw [road_same (by rfl) hme G.lay.dum]
      dsimp only
      refine store_set (s := { s with heap := h₁ }) hg₁ rfl hzl fun h' hs hg => ?_
      exact h h' es _ _ (hs₁.trans hs) hg ⟨G.tab.els, hfit _, G.tab.small⟩
    · rw [road_clean (by rfl) hme]
      dsimp only
      obtain ⟨hn1, hn2⟩ := G.hashes
      obtain ⟨t', order, h1, h2, h3, h4, h5, h6, h7⟩ := laid_ok (mask := m) (finger := (roomT m led).finger) (moves := (roomT m led).moves) (led := (roomT m led).led && t.led) (plain := (roomT m led).plain && t.plain) (by rcases hmm with rfl | rfl <;> decide) es hn1 hn2
      refine wpAny_bind (reord (es := es) (t' := t') (order := order) h1 h7 ?_)
      dsimp only
      refine store_set (s := { s with heap := h₁ }) hg₁ rfl (by rw [h7]; exact hzl) fun h' hs hg => ?_
      refine h h' _ _ _ (hs₁.trans hs) hg ⟨fun e he => ?_, ?_, by rw [h7]; exact G.tab.small⟩
      · rw [Array.mem_toList_iff, Array.mem_filterMap] at he
        obtain ⟨i, _, hi⟩ := he
        exact G.tab.els e (Array.mem_toList_iff.mpr (Array.mem_of_getElem? hi))
      · have hp : t'.place.size = es.size := by rw [← Array.length_toList, h6, List.length_map, Array.length_toList, h7]
        unfold SetTable.fits SetTable.fill
        rw [h7, h3, hp, h2]
        simp
        rcases hmm with rfl | rfl <;> omega

theorem copy_O {Q : Value → Shared → Prop} (I : IsO s w a o) (hd : o.data = .set es ep t) (G : Good es t ns)
    (h : ∀ h' es' ep' t', Over s.heap h' → h'.get? s.heap.objs.size = some { cls := .type "set", dict := none, data := .set es' ep' t' } → Ints es' t' → Q (.ref s.heap.objs.size) { s with heap := h' }) :
    wpAny (model prog w) A (Frozenset.copyOf a) Q E s := by
  unfold Frozenset.copyOf
  refine wpAny_bind (base_O I ?_)
  refine wpAny_bind (new_set fun led => ?_)
  refine wpAny_bind (m := Frozenset.addrOf _) (wpAny_pure ?_)
  refine wpAny_bind (merge_copy (s := { s with heap := s.heap.push (SObj led) }) (led := led) (Heap.get?_push_size _ rfl) (Heap.get?_push_of_some _ I.get) (Nat.ne_of_gt (Heap.lt_size I.get)) hd G fun h' es' ep' t' hs hg H => ?_)
  refine wpAny_pure (h h' es' ep' t' (fun b o' e => ?_) hg H)
  rw [hs.2 b (Nat.ne_of_lt (Heap.lt_size e))]
  exact Heap.get?_push_of_some _ e

theorem call_diff_w {items : Array Value} {ms : List Int} {v : Value} {vs more : List Value} {Q : Value → Shared → Prop} (I : IsO s w a o) (hd : o.data = .set es ep t) (G : Good es t ns) (hh : A.handled = none) (hu : A.units + 5 < cLine) (hl : s.heap.IsList l items)
    (hi0 : items.toList = vs ++ v :: more) (hm : IntsAre vs ms) (hw : Wrong v) (hE : Raises E s) : wpAny (model prog w) A (call (.builtin "set.difference") [.ref a, .ref l]) Q E s := by
  refine callO I p_difference en_difference kd_difference (.inl rfl) sp_difference (ar_difference _ _) ?_
  unfold Builtin.«frozenset.difference» Frozenset.manyOthers
  simp only [List.isEmpty_nil, Bool.not_true, Bool.false_eq_true, if_false, bind_assoc]
  refine wpAny_bind (m := Frozenset.addrOf _) (wpAny_pure ?_)
  refine wpAny_bind (wpAny_pure ?_)
  dsimp only
  refine wpAny_bind ?_
  unfold Frozenset.difference
  refine wpAny_bind ((list_notset hl).here ?_)
  have L : Looks (model prog w) s.heap (typeOf (.ref l)) (.type "list") := by
    obtain ⟨o, ho, hc, n, hd⟩ := hl
    exact hc ▸ (Looks.ld ho).andThen .now
  show wpAny _ _ (ite ((!false) = true) _ _) _ _ _
  rw [if_pos (show (!false) = true from rfl)]
  refine wpAny_bind (L.here ?_)
  rw [if_pos (show (Value.type "list" != Value.type "dict") = true from by decide)]
  refine wpAny_bind (copy_O I hd G fun h' es' ep' t' ov hg H => ?_)
  refine wpAny_bind (m := Frozenset.addrOf _) (wpAny_pure ?_)
  refine wpAny_bind (wpAny_holding ?_)
  have hl' : h'.IsList l items := by obtain ⟨ol, h1, h2⟩ := hl; exact ⟨ol, ov _ _ h1, h2⟩
  have hll : l < s.heap.objs.size := by obtain ⟨ol, hol, _⟩ := hl; exact Heap.lt_size hol
  exact differenceUpdate_w (A := A.in1) (s := { s with heap := h' }) (h₀ := s.heap) hh (by show A.units + 1 + 3 < cLine; omega) hl' hi0 hm hw I.X hg (Nat.ne_of_gt hll) rfl H (fun _ => fresh_at) ov fun h'' tk e hn => hE h'' tk e hn

theorem newFrom_w {id : String} {items : Array Value} {ms : List Int} {v : Value} {vs more : List Value} {Q : Value → Shared → Prop} (X : (Mine.hd.heap_39 w.params).In s.heap) (hh : A.handled = none) (hu : A.units + 3 < cLine) (hl : s.heap.IsList l items)
    (hi0 : items.toList = vs ++ v :: more) (hm : IntsAre vs ms) (hr : ∀ k ∈ ms, 0 ≤ k ∧ k < 12) (hw : Wrong v) (hE : Raises E s) : wpAny (model prog w) A (Frozenset.newFrom id (.type "set") (.ref l)) Q E s := by
  unfold Frozenset.newFrom
  refine wpAny_bind (new_set fun led => ?_)
  have hll : l < s.heap.objs.size := by obtain ⟨ol, hol, _⟩ := hl; exact Heap.lt_size hol
  refine wpAny_bind (m := Frozenset.addrOf _) (wpAny_pure ?_)
  refine wpAny_bind (wpAny_holding ?_)
  exact updateFrom_w (s := { s with heap := s.heap.push (SObj led) }) (h₀ := s.heap) hh hu (hl.push _) hi0 hm hr hw X (Heap.get?_push_size _ rfl) (Nat.ne_of_gt hll) rfl (good_fresh led) fresh_at (fun b o e => Heap.get?_push_of_some _ e) fun h' tk e hn => hE h' tk e hn

theorem call_symu_w {items : Array Value} {ms : List Int} {v : Value} {vs more : List Value} {Q : Value → Shared → Prop} (I : IsO s w a o) (hh : A.handled = none) (hu : A.units + 5 < cLine) (hl : s.heap.IsList l items) (hla : l ≠ a)
    (hi0 : items.toList = vs ++ v :: more) (hm : IntsAre vs ms) (hr : ∀ k ∈ ms, 0 ≤ k ∧ k < 12) (hw : Wrong v) (hE : Raises E s) : wpAny (model prog w) A (call (.builtin "set.symmetric_difference_update") [.ref a, .ref l]) Q E s := by
  refine callO I p_symmetric_difference_update en_symmetric_difference_update kd_symmetric_difference_update (.inl rfl) sp_symmetric_difference_update (ar_symmetric_difference_update _ _) ?_
  unfold Builtin.«set.symmetric_difference_update» Frozenset.oneOther
  simp only [List.isEmpty_nil, bind_assoc]
  refine wpAny_bind (m := Frozenset.addrOf _) (wpAny_pure ?_)
  refine wpAny_bind (wpAny_pure ?_)
  dsimp only
  refine wpAny_bind ?_
  unfold Frozenset.symmetricDifferenceUpdate
  rw [if_neg (by simpa using hla)]
  have L : Looks (model prog w) s.heap (typeOf (.ref l)) (.type "list") := by
    obtain ⟨o, ho, hc, n, hd⟩ := hl
    exact hc ▸ (Looks.ld ho).andThen .now
  refine wpAny_bind (L.here ?_)
  rw [if_neg (by rw [show (Value.type "list" == Value.type "dict") = false from by decide]; exact Bool.false_ne_true)]
  refine wpAny_bind ((list_notset hl).here ?_)
  rw [if_neg Bool.false_ne_true]
  refine wpAny_bind (base_O I ?_)
  exact wpAny_bind (newFrom_w (A := A.in1) I.X hh (by show A.units + 1 + 3 < cLine; omega) hl hi0 hm hr hw hE)
end
end Mine
end
-- part S13
section
open PySem PySem.W PySem.Calls PyProof.Rows Builtin
set_option maxRecDepth 100000
namespace Mine
section
variable {prog : Program} {w : World} {A : Around} {E : Value → Shared → Prop} {s : Shared} {R : Result → Shared → Prop}
variable {a l : Addr} {o : Obj} {es : Array (Int × Value)} {ep : Nat} {t : SetTable} {ns : List Int} {h₀ : Heap}

set_option maxHeartbeats 3200000 in
theorem call_set1 {x : Value} {Q : Value → Shared → Prop}
    (h : ∀ led : Bool, codeAny (model prog w) A.in1 (.call (.builtin "set.__init__") ⟨[.ref s.heap.objs.size, x], []⟩) (wants (fun r s₂ => r = .none ∧ Q (.ref s.heap.objs.size) s₂) E) { s with heap := s.heap.push (SObj led) }) :
    wpAny (model prog w) A (call (.type "set") [x]) Q E s := by
  obtain ⟨c, tl, hmro⟩ := PySem.F.called_set.mro
  have hmade := PySem.F.called_set.made
  have hsub := PySem.F.called_set.sub
  refine wpAny_call (codeAny_of_tree ?_)
  show wpAny _ _ (callAny (.type "set") _) _ _ _
  refine wpAny_pure ⟨Code.quiet_builtin _ (by decide +kernel), codeAny_builtin PySem.F.entry_type_call ?_⟩
  rw [Around.under_plain (weight_type_call_type "set" [x] []) rfl]
  have h1 := PySem.F.called_set.notType
  have h2 := PySem.F.called_set.canCreate
  have hct := PySem.F.typeCall_set_1 x
  repeat (any_goals (first | assumption | wp_step))
  refine codeAny_mono (code_set_new_1 x (E := E) (Q₁ := fun obj s₁ => ∃ led : Bool, obj = .ref s.heap.objs.size ∧ s₁ = { s with heap := s.heap.push (SObj led) }) fun led => ⟨led, rfl, rfl⟩) fun r s₁ hr => ?_
  cases r with
  | error e => exact hr
  | ok fl =>
    cases fl with
    | ret obj =>
      obtain ⟨led, rfl, rfl⟩ := hr
      have hS : (s.heap.push (SObj led)).get? s.heap.objs.size = some (SObj led) := Heap.get?_push_size _ rfl
      have hT : Shared.TypeIs { s with heap := s.heap.push (SObj led) } (.ref s.heap.objs.size) "set" := ⟨_, hS, rfl⟩
      have hli := PySem.F.called_set.init.lookup
      have hbi := PySem.F.called_set.init.bind (.ref s.heap.objs.size)
      repeat (any_goals (first | assumption | wp_step))
      refine codeAny_mono (h led) fun r₂ s₂ hr₂ => ?_
      cases r₂ with
      | error e => exact hr₂
      | ok fl₂ =>
        cases fl₂ with
        | ret r =>
          obtain ⟨rfl, hq⟩ := hr₂
          repeat (any_goals (first | assumption | wp_step))
        | _ => exact hr₂.elim
    | _ => exact hr.elim

/-- set.__init__ on a fresh plain set, over a list -/
theorem init_set {R : Result → Shared → Prop} {led : Bool} (hr : s.heap.get? a = some (SObj led))
    (h : wpAny (model prog w) A.in1 (Frozenset.updateFrom "set.__init__" a (.ref l)) (fun _ s' => R (.ok (.ret .none)) s') (fun e s' => R (.error e) s') s) :
    codeAny (model prog w) A (.call (.builtin "set.__init__") ⟨[.ref a, .ref l], []⟩) R s := by
  have hT : s.TypeIs (.ref a) "set" := ⟨_, hr, rfl⟩
  refine codeAny_call_builtin PySem.F.called_set.init.plain PySem.F.entry_set_init (check_set_init_1 hT ?_)
  unfold Builtin.«set.__init__» noKeywords
  refine wpAny_bind (wpAny_pure ?_)
  dsimp only
  have hn : ∃ x, Looks (model prog w) s.heap (typeNameOfCut 200 (.ref a)) x :=
    ⟨(Manifest.find? "set").elim "set" (·.tpName), Looks.andThen (a := .type "set") (((Looks.ld hr).andThen .now).andThen .now) .now⟩
  obtain ⟨x, hx⟩ := hn
  refine wpAny_bind (hx.here ?_)
  refine wpAny_bind (m := checkCount x 0 1 1) (wpAny_pure ?_)
  refine wpAny_bind (m := Builtin.Frozenset.addrOf (.ref a)) (wpAny_pure ?_)
  unfold setUsed
  refine wpAny_bind (wpAny_bind (wpAny_setState_of hr rfl (fits_fresh led) (wpAny_pure ?_)))
  dsimp only
  rw [if_neg (show ¬ (((SetTable.fresh 0 0 led).fill != 0) = true) from Bool.false_ne_true)]
  exact wpAny_bind (wpAny_mono h (fun _ _ z => wpAny_pure z) fun _ _ z => z)

theorem call_set_ok {items : Array Value} {ms : List Int} {Q : Value → Shared → Prop} (hh : A.handled = none) (hl : s.heap.IsList l items) (hm : IntsAre items.toList ms) (hr : ∀ k ∈ ms, 0 ≤ k ∧ k < 12)
    (h : ∀ h' tk es' ep' t', Over s.heap h' → h'.get? s.heap.objs.size = some { cls := .type "set", dict := none, data := .set es' ep' t' } → Good es' t' (ms.foldl addN []) → Q (.ref s.heap.objs.size) { s with heap := h', toks := tk }) :
    wpAny (model prog w) A (call (.type "set") [.ref l]) Q E s := by
  have hll : l < s.heap.objs.size := by obtain ⟨ol, hol, _⟩ := hl; exact Heap.lt_size hol
  refine call_set1 fun led => ?_
  refine init_set (s := { s with heap := s.heap.push (SObj led) }) (Heap.get?_push_size _ rfl) ?_
  refine updateFrom_ok (A := A.in1.in1) (s := { s with heap := s.heap.push (SObj led) }) hh (hl.push _) hm hr (Heap.get?_push_size _ rfl) (Nat.ne_of_gt hll) rfl (good_fresh led) fun h' tk es' ep' t' hk hg G => ?_
  refine ⟨rfl, h h' tk es' ep' t' (fun b o e => hk b o ?_ (Heap.get?_push_of_some _ e)) hg G⟩
  simp only [List.mem_singleton]; exact Nat.ne_of_lt (Heap.lt_size e)

theorem call_set_w {items : Array Value} {ms : List Int} {v : Value} {vs more : List Value} {Q : Value → Shared → Prop} (X : (Mine.hd.heap_39 w.params).In s.heap) (hh : A.handled = none) (hu : A.units + 5 < cLine) (hl : s.heap.IsList l items)
    (hi0 : items.toList = vs ++ v :: more) (hm : IntsAre vs ms) (hr : ∀ k ∈ ms, 0 ≤ k ∧ k < 12) (hw : Wrong v) (hE : Raises E s) : wpAny (model prog w) A (call (.type "set") [.ref l]) Q E s := by
  have hll : l < s.heap.objs.size := by obtain ⟨ol, hol, _⟩ := hl; exact Heap.lt_size hol
  refine call_set1 fun led => ?_
  refine init_set (s := { s with heap := s.heap.push (SObj led) }) (Heap.get?_push_size _ rfl) ?_
  exact updateFrom_w (A := A.in1.in1) (s := { s with heap := s.heap.push (SObj led) }) (h₀ := s.heap) hh (by show A.units + 1 + 1 + 3 < cLine; omega) (hl.push _) hi0 hm hr hw X (Heap.get?_push_size _ rfl) (Nat.ne_of_gt hll) rfl (good_fresh led) fresh_at (fun b o e => Heap.get?_push_of_some _ e) fun h' tk e hn => hE h' tk e hn
end
end Mine
end
-- part S14
section
open PySem PySem.W PySem.Calls PyProof.Rows Builtin
set_option maxRecDepth 100000
namespace Mine
section
variable {prog : Program} {w : World} {A : Around} {E : Value → Shared → Prop} {s : Shared} {R : Result → Shared → Prop}
variable {a l : Addr} {o : Obj} {h₀ : Heap} {L : Addr} {m : Str → Option Value} {news : List (Addr × Obj)}

abbrev DObj : Obj := { cls := .type "dict", data := .dict #[] }
theorem typeCall_dict_0 : checkTypeCall "dict" ⟨[], []⟩ = pure () := by kernel_rfl
theorem newCall_dict_0 : checkBuiltinCall "dict.__new__" ⟨[.type "dict"], []⟩ = pure () := by kernel_rfl
theorem code_dict_new_0 {Q₁ : Value → Shared → Prop} (h : Q₁ (.ref s.heap.objs.size) { s with heap := s.heap.push DObj }) :
    codeAny (model prog w) A (.call (.builtin "dict.__new__") ⟨[.type "dict"], []⟩) (wants Q₁ E) s := by
  refine codeAny_call_builtin PySem.F.kt_plain_dict_new PySem.F.kt_entry_dict_new (wpAny_of_eq newCall_dict_0 ?_)
  have hsub := PySem.F.kt_sub_dict
  have hmro := PySem.F.kt_mro_dict
  obtain ⟨hp, g, d, tk, os⟩ := s
  unfold Builtin.«dict.__new__»
  wp_walk
  exact h
theorem call_dict_0 {Q : Value → Shared → Prop} (h : Q (.ref s.heap.objs.size) { s with heap := s.heap.push DObj }) : wpAny (model prog w) A (call (.type "dict") []) Q E s := by
  refine callType_codes (Q₁ := fun obj s₁ => obj = .ref s.heap.objs.size ∧ s₁ = { s with heap := s.heap.push DObj }) PySem.F.kt_called_dict typeCall_dict_0 PySem.F.entry_dict_init (code_dict_new_0 ⟨rfl, rfl⟩) ?_
  rintro obj s₁ ⟨rfl, rfl⟩
  have hT : Shared.TypeIs { s with heap := s.heap.push DObj } (.ref s.heap.objs.size) "dict" := ⟨_, Heap.get?_push_size _ rfl, rfl⟩
  refine ⟨hT, PySem.F.args_dict_init_1 _, ?_⟩
  unfold Builtin.«dict.__init__»
  refine wpAny_bind ?_
  unfold Builtin.Dict.selfAndRest
  refine wpAny_bind (wpAny_notOrdered_dict hT ?_)
  show wpAny _ _ (pure (s.heap.objs.size, [])) _ _ _
  refine wpAny_pure ?_
  show wpAny _ _ (Builtin.Dict.addKeywords s.heap.objs.size [] >>= _) _ _ _
  exact wpAny_bind (wpAny_pure (wpAny_pure ⟨rfl, h⟩))

theorem entry_fk : entryFor table "dict.fromkeys" = some Builtin.«dict.fromkeys» := entryFor_of_tree (by kernel_rfl)
theorem entry_fkl : entryFor table "dict.fromkeys.loop" = some Builtin.«dict.fromkeys.loop» := entryFor_of_tree (by kernel_rfl)
theorem plain_fkl : plainId "dict.fromkeys.loop" = true := by decide +kernel
theorem plain_fk : plainId "dict.fromkeys" = true := by decide +kernel

/-- one list of ints as keys -/
theorem fkl_ok {I d : Addr} {items : Array Value} {ms : List Int} (hh : A.handled = none) (hm : IntsAre items.toList ms) (hsm : items.size < 1000)
    (hdI : d ≠ I) (hdl : d ≠ l) (hIl : I ≠ l) :
    ∀ (j i : Nat) (s : Shared) (kvs : List (Int × Value)), items.size - i = j → i ≤ items.size → kvs.length ≤ i →
      s.heap.IsListIter I l i → s.heap.IsList l items → s.heap.DictOf (intKind prog w) d kvs →
      (∀ h' tk kvs', Kept [d, I] s.heap h' → h'.DictOf (intKind prog w) d kvs' → kvs'.map (·.1) = (ms.drop i).foldl addN (kvs.map (·.1)) → R (.ok (.ret (.ref d))) { s with heap := h', toks := tk }) →
      codeAny (model prog w) A (.builtin "dict.fromkeys.loop" ⟨[.ref d, .ref I, .none], []⟩) R s := by
  have hml : items.size = ms.length := by rw [← hm.length, Array.length_toList]
  intro j
  induction j with
  | zero =>
    intro i s kvs hj hi hk0 hit hl hd hR
    have hi' : i = items.size := by omega
    refine codeAny_builtin entry_fkl ?_
    rw [Around.under_plainId plain_fkl _]
    show wpAny _ A.in1 (pyNext (.ref I) >>= _) _ _ s
    refine wpAny_bind (wpAny_pyNext_list_end (A := A.in1) hh hit hl (by simp [hi']) fun h' hx => ?_)
    show wpAny _ A.in1 (ret (Value.ref d)) _ _ _
    refine wpAny_pure ?_
    refine hR h' s.toks kvs (Kept.of_ext hx (by simp)) ?_ (by rw [List.drop_eq_nil_of_le (by omega)]; rfl)
    obtain ⟨o, es, ep, h1, h2⟩ := hd
    exact ⟨o, es, ep, hx d o hdI h1, h2⟩
  | succ j ih =>
    intro i s kvs hj hi hk0 hit hl hd hR
    have hlt : i < items.size := by omega
    obtain ⟨k, tk, hv, hk⟩ := intsAre_get hm (i := i) (v := items[i]) (by rw [Array.getElem?_toList]; simp [hlt])
    refine codeAny_builtin entry_fkl ?_
    rw [Around.under_plainId plain_fkl _]
    show wpAny _ A.in1 (pyNext (.ref I) >>= _) _ _ s
    refine wpAny_bind (wpAny_pyNext_list_item hit hl (x := items[i]) (by simp [hlt]) fun h₁ hit₁ hs₁ => ?_)
    rw [hv]
    dsimp only
    have hd₁ : h₁.DictOf (intKind prog w) d kvs := by
      obtain ⟨o, es, ep, h1, h2⟩ := hd
      exact ⟨o, es, ep, (hs₁.2 d hdI).trans h1, h2⟩
    have hT : Shared.TypeIs { s with heap := h₁ } (.ref d) "dict" := hd₁.typeIs
    refine wpAny_bind (wpAny_typeOf hT ?_)
    rw [if_pos (by decide)]
    refine wpAny_bind (m := Builtin.Dict.addrOf (.ref d)) (wpAny_pure ?_)
    refine wpAny_bind (wpAny_holding ?_)
    unfold dictSet
    try with_reducible refine wpAny_holding ?_
    refine wpAny_bind ((intKind prog w).pyHash (intKind_is _ _ k tk) ?_)
    refine wpAny_dictSetHashed_pairs (s := { s with heap := h₁, toks := s.toks + 1 }) (hsz := by rw [sizeLine_eq]; omega) (intKind_is _ _ k tk) hd₁ fun h₂ hd₂ hs₂ => ?_
    refine wpAny_pure ⟨plainId_quiet plain_fkl _, ?_⟩
    have hst : (stored kvs k .none).map (·.1) = addN (kvs.map (·.1)) k := by
      unfold stored addN
      have he : (kvs.any fun kv => decide (kv.1 = k)) = true ↔ k ∈ kvs.map (·.1) := by
        rw [List.any_eq_true, List.mem_map]
        constructor
        · rintro ⟨x, hx, h⟩; exact ⟨x, hx, of_decide_eq_true h⟩
        · rintro ⟨x, hx, h⟩; exact ⟨x, hx, decide_eq_true h⟩
      by_cases hc : k ∈ kvs.map (·.1)
      · rw [if_pos hc, if_pos (he.mpr hc), List.map_map]
        refine List.map_congr_left fun x _ => ?_
        simp only [Function.comp]; split <;> rfl
      · rw [if_neg hc, if_neg (fun e => hc (he.mp e))]; simp
    have hln : (stored kvs k (.none : Value)).length ≤ i + 1 := by have := stored_length_le kvs k (.none : Value); omega
    refine ih (i + 1) _ (stored kvs k .none) (by omega) hlt hln ?_ ?_ hd₂ ?_
    · obtain ⟨oi, h1, h2⟩ := hit₁
      exact ⟨oi, (hs₂.2 I (Ne.symm hdI)).trans h1, h2⟩
    · obtain ⟨ol, h1, h2⟩ := hl
      exact ⟨ol, (hs₂.2 l (Ne.symm hdl)).trans ((hs₁.2 l (Ne.symm hIl)).trans h1), h2⟩
    · intro h' tk' kvs' hk' hd' he'
      refine hR h' tk' kvs' (((Kept.of_same hs₁ (by simp)).trans (Kept.of_same hs₂ (by simp))).trans hk') hd' ?_
      have : ms.drop i = k :: ms.drop (i + 1) := by
        rw [List.drop_eq_getElem_cons (by omega)]
        congr 1
        have := List.getElem?_eq_some_iff.mp hk; exact this.2
      rw [this, List.foldl_cons, ← hst]; exact he'
end
end Mine
end
-- part S15
section
open PySem PySem.W PySem.Calls PyProof.Rows Builtin
set_option maxRecDepth 100000
namespace Mine
section
variable {prog : Program} {w : World} {A : Around} {E : Value → Shared → Prop} {s : Shared} {R : Result → Shared → Prop}
variable {a l : Addr} {o : Obj} {h₀ : Heap} {L : Addr} {m : Str → Option Value} {news : List (Addr × Obj)}

theorem fkl_w {I d : Addr} {items : Array Value} {ms : List Int} {v : Value} {more vs : List Value} (hh : A.handled = none) (hu : A.units + 3 < cLine)
    (hi0 : items.toList = vs ++ v :: more) (hm : IntsAre vs ms) (hsm : vs.length < 1000) (hw : Wrong v) (X : (Mine.hd.heap_39 w.params).In h₀)
    (hdI : d ≠ I) (hdl : d ≠ l) (hIl : I ≠ l) (hd0 : h₀.get? d = none) (hI0 : h₀.get? I = none) :
    ∀ (j i : Nat) (s : Shared) (kvs : List (Int × Value)), vs.length - i = j → i ≤ vs.length → kvs.length ≤ i → Over h₀ s.heap →
      s.heap.IsListIter I l i → s.heap.IsList l items → s.heap.DictOf (intKind prog w) d kvs →
      (∀ h' tk e, Heap.NewExc h₀ h' e "TypeError" → R (.error (.ref e)) { s with heap := h', toks := tk }) →
      codeAny (model prog w) A (.builtin "dict.fromkeys.loop" ⟨[.ref d, .ref I, .none], []⟩) R s := by
  have hS : ∀ b ∈ [d, I], h₀.get? b = none := by intro b hb; simp at hb; rcases hb with rfl | rfl <;> assumption
  intro j
  induction j with
  | zero =>
    intro i s kvs hj hi hk0 ov hit hl hd hR
    have hi' : i = vs.length := by omega
    have hx : items[i]? = some v := by rw [← Array.getElem?_toList, hi0, hi']; simp
    refine codeAny_builtin entry_fkl ?_
    rw [Around.under_plainId plain_fkl _]
    show wpAny _ A.in1 (pyNext (.ref I) >>= _) _ _ s
    refine wpAny_bind (wpAny_pyNext_list_item hit hl hx fun h₁ hit₁ hs₁ => ?_)
    dsimp only
    have hd₁ : h₁.DictOf (intKind prog w) d kvs := by
      obtain ⟨o, es, ep, h1, h2⟩ := hd
      exact ⟨o, es, ep, (hs₁.2 d hdI).trans h1, h2⟩
    have hT : Shared.TypeIs { s with heap := h₁ } (.ref d) "dict" := hd₁.typeIs
    refine wpAny_bind (wpAny_typeOf hT ?_)
    rw [if_pos (by decide)]
    refine wpAny_bind (m := Builtin.Dict.addrOf (.ref d)) (wpAny_pure ?_)
    refine wpAny_bind (wpAny_holding ?_)
    unfold dictSet
    try with_reducible refine wpAny_holding ?_
    have ov₁ : Over h₀ h₁ := ov.kept (Kept.of_same (S := [d, I]) hs₁ (by simp)) hS
    refine wpAny_bind (hash_wrong (s := { s with heap := h₁ }) hw (fun b o e => ov₁ b o (X b o e)) hh (by show A.units + 1 + 2 < cLine; omega) fun h' tk e hn => ?_)
    exact hR h' tk e (ov₁.exc hn)
  | succ j ih =>
    intro i s kvs hj hi hk0 ov hit hl hd hR
    have hlt : i < vs.length := by omega
    obtain ⟨k, tk, hv, hk⟩ := intsAre_get hm (i := i) (v := vs[i]) (by simp [hlt])
    have hx : items[i]? = some (vs[i]) := by rw [← Array.getElem?_toList, hi0, List.getElem?_append_left hlt]; simp [hlt]
    refine codeAny_builtin entry_fkl ?_
    rw [Around.under_plainId plain_fkl _]
    show wpAny _ A.in1 (pyNext (.ref I) >>= _) _ _ s
    refine wpAny_bind (wpAny_pyNext_list_item hit hl hx fun h₁ hit₁ hs₁ => ?_)
    rw [hv]
    dsimp only
    have hd₁ : h₁.DictOf (intKind prog w) d kvs := by
      obtain ⟨o, es, ep, h1, h2⟩ := hd
      exact ⟨o, es, ep, (hs₁.2 d hdI).trans h1, h2⟩
    have hT : Shared.TypeIs { s with heap := h₁ } (.ref d) "dict" := hd₁.typeIs
    refine wpAny_bind (wpAny_typeOf hT ?_)
    rw [if_pos (by decide)]
    refine wpAny_bind (m := Builtin.Dict.addrOf (.ref d)) (wpAny_pure ?_)
    refine wpAny_bind (wpAny_holding ?_)
    unfold dictSet
    try with_reducible refine wpAny_holding ?_
    refine wpAny_bind ((intKind prog w).pyHash (intKind_is _ _ k tk) ?_)
    refine wpAny_dictSetHashed_pairs (s := { s with heap := h₁, toks := s.toks + 1 }) (hsz := by rw [sizeLine_eq]; omega) (intKind_is _ _ k tk) hd₁ fun h₂ hd₂ hs₂ => ?_
    refine wpAny_pure ⟨plainId_quiet plain_fkl _, ?_⟩
    have hln : (stored kvs k (.none : Value)).length ≤ i + 1 := by have := stored_length_le kvs k (.none : Value); omega
    refine ih (i + 1) _ (stored kvs k .none) (by omega) hlt hln ?_ ?_ ?_ hd₂ hR
    · exact (ov.kept (Kept.of_same (S := [d, I]) hs₁ (by simp)) hS).kept (Kept.of_same (S := [d, I]) hs₂ (by simp)) hS
    · obtain ⟨oi, h1, h2⟩ := hit₁
      exact ⟨oi, (hs₂.2 I (Ne.symm hdI)).trans h1, h2⟩
    · obtain ⟨ol, h1, h2⟩ := hl
      exact ⟨ol, (hs₂.2 l (Ne.symm hdl)).trans ((hs₁.2 l (Ne.symm hIl)).trans h1), h2⟩

theorem isType_dict : isType (.type "dict") = pure true := rfl
/-- dict.fromkeys over a list -/
theorem fk_core {items : Array Value} (hl : s.heap.IsList l items)
    (h : codeAny (model prog w) A (.builtin "dict.fromkeys.loop" ⟨[.ref s.heap.objs.size, .ref (s.heap.objs.size + 1), .none], []⟩) R
      { s with heap := (s.heap.push DObj).push { cls := .type "list_iterator", data := .fields #[.ref l, .int 0 0] } }) (hE : True) :
    codeAny (model prog w) A (.builtin "dict.fromkeys" ⟨[.type "dict", .ref l], []⟩) R s := by
  refine codeAny_builtin entry_fk ?_
  rw [Around.under_plainId plain_fk _]
  unfold Builtin.«dict.fromkeys»
  refine wpAny_bind (wpAny_of_eq isType_dict ?_)
  simp only [Bool.not_true, Bool.false_eq_true, if_false]
  refine wpAny_bind (wpAny_of_eq PySem.F.kt_sub_dict ?_)
  simp only [Bool.not_true, Bool.false_eq_true, if_false, List.isEmpty_nil]
  refine wpAny_bind (wpAny_rule ?_)
  refine wpAny_bind (wpAny_pure ?_)
  dsimp only
  refine wpAny_bind (call_dict_0 ?_)
  refine wpAny_holding ?_
  have hl' : (s.heap.push DObj).IsList l items := hl.push _
  have hTd : Shared.TypeIs { s with heap := s.heap.push DObj } (.ref s.heap.objs.size) "dict" := ⟨_, Heap.get?_push_size _ rfl, rfl⟩
  refine wpAny_bind (wpAny_typeOf (T := "list") hl'.typeIs ?_)
  refine wpAny_bind (wpAny_typeOf hTd ?_)
  rw [if_neg (by decide)]
  refine wpAny_bind (wpAny_typeOf hTd ?_)
  rw [if_neg (by decide)]
  refine wpAny_bind (wpAny_pyIter_list (s := { s with heap := s.heap.push DObj }) hl' ?_)
  refine wpAny_pure ⟨plainId_quiet plain_fkl _, ?_⟩
  rw [Heap.size_push]
  exact h
end
end Mine
end
-- part S16
section
open PySem PySem.W PySem.Calls PyProof.Rows Builtin
set_option maxRecDepth 100000
namespace Mine

def fkObj : Obj := { cls := .type "builtin_function_or_method", data := .fields #[.builtin "dict.fromkeys", .type "dict"] }
theorem type_fk : typeOf (.builtin "dict.fromkeys") = pure (.type "classmethod_descriptor") := by show builtinType _ = _; rw [builtinType_eq_fast]; kernel_rfl
theorem owner_fk : (kfb_private% "ownerAndName") "dict.fromkeys" = ("dict", "fromkeys") := by first | decide +kernel | kernel_rfl
theorem check_fk {l : Addr} : checkBoundCall "dict.fromkeys" ⟨[.type "dict", .ref l], []⟩ = pure () := by first | kernel_rfl | rfl
section
variable {prog : Program} {w : World} {M : Model} {A : Around} {E : Value → Shared → Prop} {s : Shared} {R : Result → Shared → Prop}
variable {a l : Addr} {o : Obj} {h₀ : Heap} {L : Addr} {m : Str → Option Value} {news : List (Addr × Obj)} {K : Frag}

theorem run_fk {P : Fin → Shared → Prop} (h : P (.done (.ret (.ref s.heap.objs.size))) { s with heap := s.heap.push fkObj }) :
    wpAny M A (Builtin.«classmethod_descriptor.__get__» ⟨[.builtin "dict.fromkeys", .none, .type "dict"], []⟩) P E s := by
  unfold Builtin.«classmethod_descriptor.__get__»
  refine wpAny_bind (wpAny_of_eq (a := (.builtin "dict.fromkeys", none, some (.type "dict"))) (by first | rfl | kernel_rfl) ?_)
  simp only [owner_fk]
  refine wpAny_bind (wpAny_of_eq (a := .type "dict") rfl ?_)
  refine wpAny_bind (wpAny_of_eq (a := true) isType_dict ?_)
  refine KFB.if_not rfl ?_
  refine wpAny_bind (wpAny_of_eq (a := true) PySem.F.kt_sub_dict ?_)
  refine KFB.if_not rfl ?_
  exact wpAny_bind (wpAny_newObj_type (wpAny_pure h))

theorem c_fk : findCls (Mine.hd.heap_39 w.params) (.type "dict") (.type "type") "fromkeys" = some (.get (.builtin "classmethod_descriptor.__get__") (.builtin "dict.fromkeys") .none (.type "dict")) := by k_is

theorem getm_fk {pl : Sem Bool} {Q : Value × List Value → Shared → Prop} (F : Fr h₀ L s.heap m) (X₀ : (Mine.hd.heap_39 w.params).In h₀)  (N : News h₀ L s.heap news)
    (h : ∀ x h', Fr h₀ L h' m → News h₀ L h' ((x, fkObj) :: news) → (∀ p ∈ news, p.1 < x) → Q (.ref x, []) { s with heap := h', toks := s.toks + 1 }) :
    wpAny (model prog w) A (getMethod (.type "dict") "fromkeys" pl) Q E s := by
  have X := X₀.keeps F.keep
  have hstub : opaqueClassAbove (.type "dict") = pure none := by unfold opaqueClassAbove; dsimp only; rw [show Manifest.isStub "dict" = false by decide +kernel]; rfl
  have ht : typeOf (.type "dict") = pure (.type "type") := by first | rfl | kernel_rfl
  have L0 : Looks (model prog w) s.heap (typeOf (.type "dict")) (.type "type") := Looks.of_pure ht
  have hg : findIn (Mine.hd.heap_39 w.params) (.type "type") "__getattribute__" = some (some (.builtin "type.__getattribute__")) := type_tga
  unfold getMethod specialOf
  refine wpAny_bind (wpAny_bind (L0.here ((looks_findIn X hg).here ?_)))
  dsimp only
  rw [if_pos canon_tga]
  refine wpAny_bind (wpAny_mono (Q := fun v => Q (v, [])) (E := E) ?_ (fun _ _ z => wpAny_pure z) fun _ _ z => z)
  have LO : Looks (model prog w) s.heap (opaqueClassAbove (.type "dict")) none := Looks.of_pure hstub
  refine cls_open X LO L0 hg (looks_hook X (r := none) (by rfl)) (by show subIn _ _ _ = _; rfl) c_fk ?_
  show wpAny _ _ (holding [.builtin "dict.fromkeys"] (call (.builtin "classmethod_descriptor.__get__") [.builtin "dict.fromkeys", .none, .type "dict"]) >>= fun v => ret v) _ _ _
  refine wpAny_bind (wpAny_holding (wpAny_call_entry KFB.slot_get type_fk KFB.entry_get (run_fk ⟨_, rfl, wpAny_pure (wpAny_pure (h _ _ (F.push _) (News.push F N _) fun p hp => Heap.lt_size (N p hp).1))⟩) (KFB.args_get _ _ _)))

def FkAt (x : Addr) (h : Heap) : Prop := h.get? x = some fkObj
theorem fkAt_of {x : Addr} {h : Heap} (N : News h₀ L h news) (hm : (x, fkObj) ∈ news) : FkAt x h := N.get hm
theorem callWith_fk0 {pos : Pos} {u : Addr} {first : List Value} {args : List (Bool × Sem Value)} {Q : Value → Shared → Prop} (hplain : args.any (·.1) = false)
    (h : wpAny M A (evalArgs (.ref u) true args []) (fun x s₁ => FkAt u s₁.heap ∧ wpAny M A (call (.ref u) (first ++ x.pos) x.kw) Q E s₁) E s) : wpAny M A (callWith pos (.ref u) first args []) Q E s := by
  unfold callWith
  refine wpAny_bind (wpAny_holding (wpAny_mono h (fun x s₁ h₁ => wpAny_bind (wpAny_standAt ?_)) fun _ _ x => x))
  obtain ⟨ho, hcall⟩ := h₁
  simp only [hplain, List.any_nil, Bool.or_false]
  refine wpAny_bind (m := keeperOf (.ref u)) ?_
  unfold keeperOf
  refine wpAny_bind (wpAny_load ho ?_)
  simp only [fkObj, show (Value.type "builtin_function_or_method" != Value.type "method") = true by decide, show (Value.type "builtin_function_or_method" == Value.type "builtin_function_or_method" || Value.type "builtin_function_or_method" == Value.type "method-wrapper") = true by decide, if_true]
  refine wpAny_pure ?_
  exact wpAny_bind (wpAny_mono hcall (fun r s₂ hr => wpAny_bind (wpAny_holding (wpAny_point (wpAny_pure hr)))) fun _ _ x => x)
theorem callWith_fk {pos : Pos} {u : Addr} {first : List Value} {env : Env} {e : PySem.Expr} {rest : List PySem.Expr} {Q : Value → Shared → Prop}
    (h : wpAny M A (spliced (backTo pos (starEach (e :: rest) env))) (fun vs s₁ => FkAt u s₁.heap ∧ wpAny M A (call (.ref u) (first ++ vs)) Q E s₁) E s)
    (he : starEach (e :: rest) env = (false, eval e env) :: starEach rest env := by rfl) (hplain : (backTo pos (starEach rest env)).any (·.1) = false := by rfl) :
    wpAny M A (callWith pos (.ref u) first (backTo pos (starEach (e :: rest) env)) []) Q E s := by
  rw [he] at h ⊢
  refine callWith_fk0 (by show (false || (backTo pos (starEach rest env)).any (·.1)) = false; rw [hplain]; rfl) ?_
  exact evalArgs_plain h

theorem call_fk {x : Addr} {Q : Value → Shared → Prop} (ho : FkAt x s.heap)
    (h : codeAny (model prog w) A (.builtin "dict.fromkeys" ⟨[.type "dict", .ref l], []⟩) (fun r s' => match r with | .ok (.ret v) => Q v s' | .ok _ => False | .error e => E e s') s) :
    wpAny (model prog w) A (call (.ref x) [.ref l]) Q E s := by
  refine wpAny_call (codeAny_of_tree ?_)
  show wpAny _ A.in1 (callAny (.ref x) ⟨[.ref l], []⟩) _ _ s
  simp only [callAny]
  refine wpAny_bind (wpAny_load ho ?_)
  simp only [fkObj, show (Value.type "builtin_function_or_method" == Value.type "method" || Value.type "builtin_function_or_method" == Value.type "builtin_function_or_method" || Value.type "builtin_function_or_method" == Value.type "method-wrapper") = true by decide, if_true]
  refine KFB.if_so (by decide) ?_
  refine wpAny_bind (wpAny_of_eq (a := ()) check_fk ?_)
  refine wpAny_bind (wpAny_pure (wpAny_pure ?_))
  exact ⟨Code.quiet_builtin _ (by decide +kernel), h⟩

theorem call_fk_ok {x : Addr} {items : Array Value} {ms : List Int} {Q : Value → Shared → Prop} (ho : FkAt x s.heap) (hh : A.handled = none) (hl : s.heap.IsList l items) (hm : IntsAre items.toList ms) (hsm : items.size < 1000)
    (h : ∀ h' tk o kvs, Over s.heap h' → h'.get? s.heap.objs.size = some o → o.IsDictOf (intKind prog w) kvs → kvs.map (·.1) = ms.foldl addN [] → Q (.ref s.heap.objs.size) { s with heap := h', toks := tk }) :
    wpAny (model prog w) A (call (.ref x) [.ref l]) Q E s := by
  have hll : l < s.heap.objs.size := by obtain ⟨ol, hol, _⟩ := hl; exact Heap.lt_size hol
  refine call_fk ho (fk_core hl ?_ trivial)
  refine fkl_ok (l := l) hh hm hsm (Nat.ne_of_lt (Nat.lt_succ_self _)) (Nat.ne_of_gt hll) (Nat.ne_of_gt (Nat.lt_succ_of_lt hll)) (items.size - 0) 0 _ [] (by omega) (Nat.zero_le _) (Nat.le_refl _) ?_ ((hl.push _).push _) ?_ ?_
  · have h1 := Heap.get?_push_size (s.heap.push DObj) (o := { cls := .type "list_iterator", data := .fields #[.ref l, .int 0 0] }) rfl
    rw [Heap.size_push] at h1
    exact ⟨_, h1, rfl, rfl⟩
  · have := Heap.DictOf.new (knd := intKind prog w) s.heap
    exact this.push _
  · intro h' tk kvs' hk hd he
    obtain ⟨o, ho, hd⟩ := Heap.dictOf_iff.mp hd
    refine h h' tk o kvs' (fun b o' e => hk b o' ?_ (Heap.get?_push_of_some _ (Heap.get?_push_of_some _ e))) ho hd (by simpa using he)
    have := Heap.lt_size e
    simp only [List.mem_cons, List.not_mem_nil, or_false, not_or]
    exact ⟨Nat.ne_of_lt this, Nat.ne_of_lt (Nat.lt_succ_of_lt this)⟩

theorem call_fk_w {x : Addr} {items : Array Value} {ms : List Int} {v : Value} {vs more : List Value} {Q : Value → Shared → Prop} (ho : FkAt x s.heap) (X : (Mine.hd.heap_39 w.params).In s.heap) (hh : A.handled = none) (hu : A.units + 3 < cLine) (hl : s.heap.IsList l items)
    (hi0 : items.toList = vs ++ v :: more) (hm : IntsAre vs ms) (hsm : vs.length < 1000) (hw : Wrong v) (hE : Raises E s) :
    wpAny (model prog w) A (call (.ref x) [.ref l]) Q E s := by
  have hll : l < s.heap.objs.size := by obtain ⟨ol, hol, _⟩ := hl; exact Heap.lt_size hol
  have hs1 : (s.heap.push DObj).objs.size = s.heap.objs.size + 1 := Heap.size_push _ _
  refine call_fk ho (fk_core hl ?_ trivial)
  refine fkl_w (l := l) (h₀ := s.heap) hh hu hi0 hm hsm hw X (Nat.ne_of_lt (Nat.lt_succ_self _)) (Nat.ne_of_gt hll) (Nat.ne_of_gt (Nat.lt_succ_of_lt hll)) fresh_at (Heap.get?_none_of_le (Nat.le_succ _)) (vs.length - 0) 0 _ [] (by omega) (Nat.zero_le _) (Nat.le_refl _) (fun b o' e => Heap.get?_push_of_some _ (Heap.get?_push_of_some _ e)) ?_ ((hl.push _).push _) ?_ ?_
  · have h1 := Heap.get?_push_size (s.heap.push DObj) (o := { cls := .type "list_iterator", data := .fields #[.ref l, .int 0 0] }) rfl
    rw [Heap.size_push] at h1
    exact ⟨_, h1, rfl, rfl⟩
  · have := Heap.DictOf.new (knd := intKind prog w) s.heap
    exact this.push _
  · intro h' tk e hn
    exact hE h' tk e hn
end
end Mine
end
-- part M0
section
open PySem PySem.W PySem.Calls PyProof.Rows PySem.Spec
set_option maxRecDepth 100000
namespace Mine

/-- an OrderedSet of the ints ns, its row at la -/
structure OSet (so : Obj) (dx la : Addr) (ns : List Int) : Prop where
  cls : so.cls = .ref 232
  dict : so.dict = some dx
  slots : so.slots = #[some (.ref la)]
  data : ∃ es ep t, so.data = .set es ep t ∧ Good es t ns

theorem foldAdd_len : ∀ (ms acc : List Int), (ms.foldl addN acc).length ≤ acc.length + ms.length
  | [], acc => by simp
  | m :: ms, acc => by
    have h1 := foldAdd_len ms (addN acc m)
    have h2 : (addN acc m).length ≤ acc.length + 1 := by unfold addN; split <;> simp
    simp only [List.foldl_cons, List.length_cons]; omega

section
variable {h₀ h : Heap} {L : Addr} {news news' : List (Addr × Obj)}
theorem News.sub (N : News h₀ L h news) (hs : ∀ p ∈ news', p ∈ news) : News h₀ L h news' := fun p hp => N p (hs p hp)
end

section
variable {prog : Program} {w : World} {A : Around} {E : Value → Shared → Prop} {s : Shared} {h₀ : Heap} {L : Addr} {m : Str → Option Value} {news : List (Addr × Obj)}
variable {sa dx la : Addr} {so : Obj} {ns : List Int}

theorem OSet.isO (H : OSet so dx la ns) (F : Fr h₀ L s.heap m) (X : (Mine.hd.heap_39 w.params).In h₀) (N : News h₀ L s.heap news) (hm : (sa, so) ∈ news) : IsO s w sa so :=
  ⟨X.keeps F.keep, (N _ hm).1, H.cls⟩
theorem OSet.inst (H : OSet so dx la ns) (F : Fr h₀ L s.heap m) (X : (Mine.hd.heap_39 w.params).In h₀) (N : News h₀ L s.heap news) (hm : (sa, so) ∈ news) (hd : (dx, dictOf [] 0) ∈ news) : InstAt s.heap sa so 232 (some (dictOf [] 0)) := by
  obtain ⟨es, ep, t, h1, _⟩ := H.data
  exact instO (H.isO F X N hm) H.dict (N _ hd).1 h1

theorem o_list {expr : Bool} {Q : Value → Shared → Prop} (H : OSet so dx la ns) (F : Fr h₀ L s.heap m) (X : (Mine.hd.heap_39 w.params).In h₀) (N : News h₀ L s.heap news) (hm : (sa, so) ∈ news) (hd : (dx, dictOf [] 0) ∈ news)
    (h : Q (.ref la) { s with toks := s.toks + 1 }) : wpAny (model prog w) A (getAttr (.ref sa) "_list" expr) Q E s :=
  get_list (H.isO F X N hm) (H.inst F X N hm hd) H.slots rfl h
theorem o_method {f : Addr} {name : Str} {pl : Sem Bool} {Q : Value × List Value → Shared → Prop} (H : OSet so dx la ns) (F : Fr h₀ L s.heap m) (X : (Mine.hd.heap_39 w.params).In h₀) (N : News h₀ L s.heap news) (hm : (sa, so) ∈ news) (hd : (dx, dictOf [] 0) ∈ news)
    (hf : findIn (Mine.hd.heap_39 w.params) (.ref 232) name = some (some (.ref f))) (ht : typeIn (Mine.hd.heap_39 w.params) (.ref f) = some (.type "function")) (h : Q (.ref f, [.ref sa]) s) :
    wpAny (model prog w) A (getMethod (.ref sa) name pl) Q E s :=
  get_method (H.isO F X N hm) (H.inst F X N hm hd) rfl hf ht h
theorem o_in {k : Int} {tk : Tok} {Q : Value → Shared → Prop} (H : OSet so dx la ns) (F : Fr h₀ L s.heap m) (X : (Mine.hd.heap_39 w.params).In h₀) (N : News h₀ L s.heap news) (hm : (sa, so) ∈ news)
    (h : Q (.bool (decide (k ∈ ns))) { s with toks := s.toks + 1 }) : wpAny (model prog w) A (compareOp .In (.int k tk) (.ref sa)) Q E s := by
  obtain ⟨es, ep, t, h1, G⟩ := H.data
  exact in_i (H.isO F X N hm) h1 G.tab h
theorem o_notin {k : Int} {tk : Tok} {Q : Value → Shared → Prop} (H : OSet so dx la ns) (F : Fr h₀ L s.heap m) (X : (Mine.hd.heap_39 w.params).In h₀) (N : News h₀ L s.heap news) (hm : (sa, so) ∈ news)
    (h : Q (.bool (!decide (k ∈ ns))) { s with toks := s.toks + 1 }) : wpAny (model prog w) A (compareOp .NotIn (.int k tk) (.ref sa)) Q E s := by
  obtain ⟨es, ep, t, h1, G⟩ := H.data
  exact notin_i (H.isO F X N hm) h1 G.tab h
theorem o_inw {v : Value} {Q : Value → Shared → Prop} (H : OSet so dx la ns) (F : Fr h₀ L s.heap m) (X : (Mine.hd.heap_39 w.params).In h₀) (N : News h₀ L s.heap news) (hm : (sa, so) ∈ news) (hw : Wrong v) (hh : A.handled = none) (hu : A.units + 3 < cLine)
    (hE : Raises E s) : wpAny (model prog w) A (compareOp .In v (.ref sa)) Q E s := in_w (H.isO F X N hm) hw hh hu hE
theorem o_notinw {v : Value} {Q : Value → Shared → Prop} (H : OSet so dx la ns) (F : Fr h₀ L s.heap m) (X : (Mine.hd.heap_39 w.params).In h₀) (N : News h₀ L s.heap news) (hm : (sa, so) ∈ news) (hw : Wrong v) (hh : A.handled = none) (hu : A.units + 3 < cLine)
    (hE : Raises E s) : wpAny (model prog w) A (compareOp .NotIn v (.ref sa)) Q E s := notin_w (H.isO F X N hm) hw hh hu hE

theorem news_same {h' : Heap} {o' : Obj} {pre post : List (Addr × Obj)} (F : Fr h₀ L s.heap m) (N : News h₀ L s.heap (pre ++ (sa, so) :: post)) (h1 : ∀ p ∈ pre, p.1 ≠ sa) (h2 : ∀ p ∈ post, p.1 ≠ sa) (hs : Kept [sa] s.heap h') (ho : h'.get? sa = some o') :
    Fr h₀ L h' m ∧ News h₀ L h' (pre ++ (sa, o') :: post) := by
  have z := N (sa, so) (List.mem_append.mpr (.inr (.head _)))
  have hne : ∀ b, b ≠ sa → b ∉ [sa] := fun b hb => by simpa using hb
  refine ⟨⟨F.ns.at' fun o e => hs L o (hne L (Ne.symm z.2.1)) e, fun b o e => hs b o (hne b fun q => ?_) (F.keep b o e), F.above⟩, fun p hp => ?_⟩
  · rw [q, z.2.2] at e; cases e
  · rcases List.mem_append.mp hp with hp | hp
    · have z := N p (List.mem_append.mpr (.inl hp))
      exact ⟨hs _ _ (hne _ (h1 p hp)) z.1, z.2⟩
    · rcases List.mem_cons.mp hp with rfl | hp
      · exact ⟨ho, z.2⟩
      · have z := N p (List.mem_append.mpr (.inr (.tail _ hp)))
        exact ⟨hs _ _ (hne _ (h2 p hp)) z.1, z.2⟩

/-- set.add(self, k) -/
theorem o_add {k : Int} {tk : Tok} {pre post : List (Addr × Obj)} {Q : Value → Shared → Prop} (H : OSet so dx la ns) (F : Fr h₀ L s.heap m) (X : (Mine.hd.heap_39 w.params).In h₀) (N : News h₀ L s.heap (pre ++ (sa, so) :: post)) (h1 : ∀ p ∈ pre, p.1 ≠ sa) (h2 : ∀ p ∈ post, p.1 ≠ sa)
    (k0 : 0 ≤ k) (k1 : k < 12) (h : ∀ h' so', OSet so' dx la (addN ns k) → Fr h₀ L h' m → News h₀ L h' (pre ++ (sa, so') :: post) → Q .none { s with heap := h', toks := s.toks + 1 }) :
    wpAny (model prog w) A (call (.builtin "set.add") [.ref sa, .int k tk]) Q E s := by
  obtain ⟨es, ep, t, hd, G⟩ := H.data
  refine call_add_i (H.isO F X N (List.mem_append.mpr (.inr (.head _)))) hd G.tab (by have := G.size; omega) fun h' ep' hsb hg => ?_
  obtain ⟨F', N'⟩ := news_same F N h1 h2 (Kept.of_same hsb (by simp)) hg
  exact h h' { so with data := .set (addOf es t ns k tk).1 ep' (addOf es t ns k tk).2 } ⟨H.cls, H.dict, H.slots, _, _, _, rfl, G.add tk k0 k1⟩ F' N'

theorem c_meth_type {name : Str} {v : Value} {T : String} {pl : Sem Bool} {Q : Value × List Value → Shared → Prop} (F : Fr h₀ L s.heap m) (X : (Mine.hd.heap_39 w.params).In h₀) (ht : typeOf (.type T) = pure (.type "type")) (hs : Manifest.isStub T = false)
    (e : findCls (Mine.hd.heap_39 w.params) (.type T) (.type "type") name = some (.val v)) (hh : handedIn v = true) (h : Q (v, []) { s with toks := s.toks + 1 }) : wpAny (model prog w) A (getMethod (.type T) name pl) Q E s :=
  method_type F X ht hs e hh h
theorem meta_set : typeOf (.type "set") = pure (.type "type") := by first | rfl | kernel_rfl
theorem stub_set : Manifest.isStub "set" = false := by decide +kernel

abbrev OObj1 (dx la : Addr) (led : Bool) : Obj := { cls := .ref 232, dict := some dx, data := .set #[] 0 (.fresh 0 0 led), slots := #[some (.ref la)] }
theorem oset_fresh (dx la : Addr) (led : Bool) : OSet (OObj1 dx la led) dx la [] := ⟨rfl, rfl, rfl, _, _, _, rfl, good_fresh led⟩

theorem o_new {Q : Value → Shared → Prop} (F : Fr h₀ L s.heap m) (X : (Mine.hd.heap_39 w.params).In h₀) (N : News h₀ L s.heap news)
    (h : ∀ x dx h' led, Fr h₀ L h' m → News h₀ L h' ((x, OObj dx led) :: (dx, dictOf [] 0) :: news) → (∀ p ∈ news, p.1 < dx) → dx < x → Q (.ref x) { s with heap := h' }) :
    wpAny (model prog w) A (call (.builtin "set.__new__") [.ref 232]) Q E s := by
  refine wpAny_call (new_O (X.keeps F.keep) fun led => ?_)
  have N' := (N.push F emptyDict).push (F.push _) (OObj s.heap.objs.size led)
  rw [Heap.size_push] at N'
  exact h _ s.heap.objs.size _ led ((F.push _).push _) N' (fun p hp => Heap.lt_size (N p hp).1) (Nat.lt_succ_self _)

theorem o_set {x v : Addr} {led : Bool} {rest : List (Addr × Obj)} {Q : Unit → Shared → Prop} (F : Fr h₀ L s.heap m) (X : (Mine.hd.heap_39 w.params).In h₀) (N : News h₀ L s.heap ((x, OObj dx led) :: rest)) (hd : (dx, dictOf [] 0) ∈ rest) (h2 : ∀ p ∈ rest, p.1 ≠ x)
    (h : ∀ h', Fr h₀ L h' m → News h₀ L h' ((x, OObj1 dx v led) :: rest) → Q () { s with heap := h', toks := s.toks + 1 }) : wpAny (model prog w) A (setAttr (.ref x) "_list" (.ref v)) Q E s := by
  have I : IsO s w x (OObj dx led) := ⟨X.keeps F.keep, (N _ (.head _)).1, rfl⟩
  have J : InstAt s.heap x (OObj dx led) 232 (some (dictOf [] 0)) := instO I rfl (N _ (.tail _ hd)).1 rfl
  exact set_list (pre := []) I J F N (fun _ h => nomatch h) h2 rfl rfl fun h' F' N' => h h' F' N'

theorem o_update {x l : Addr} {vs : List Value} {c : Nat} {ms : List Int} {rest : List (Addr × Obj)} {Q : Value → Shared → Prop} (H : OSet so dx la ns) (hh : A.handled = none) (F : Fr h₀ L s.heap m) (X : (Mine.hd.heap_39 w.params).In h₀) (N : News h₀ L s.heap ((x, so) :: rest)) (h2 : ∀ p ∈ rest, p.1 ≠ x)
    (hl : (l, listOf vs.toArray c) ∈ rest) (hm : IntsAre vs ms) (hr : ∀ k ∈ ms, 0 ≤ k ∧ k < 12)
    (h : ∀ h' tk so', OSet so' dx la (ms.foldl addN ns) → Fr h₀ L h' m → News h₀ L h' ((x, so') :: rest) → Q .none { s with heap := h', toks := tk }) : wpAny (model prog w) A (call (.builtin "set.update") [.ref x, .ref l]) Q E s := by
  obtain ⟨es, ep, t, hd, G⟩ := H.data
  refine call_update_ok (H.isO F X N (.head _)) hh ⟨_, (N _ (.tail _ hl)).1, rfl, c, rfl⟩ (by simpa using hm) hr (Ne.symm (h2 _ hl)) hd G fun h' tk es' ep' t' hk hg G' => ?_
  obtain ⟨F', N'⟩ := news_same (pre := []) F N (fun _ h => nomatch h) h2 hk hg
  exact h h' tk { so with data := .set es' ep' t' } ⟨H.cls, H.dict, H.slots, _, _, _, rfl, G'⟩ F' N'

theorem o_init {x l : Addr} {vs : List Value} {c : Nat} {ms : List Int} {led : Bool} {rest : List (Addr × Obj)} {Q : Value → Shared → Prop} (hh : A.handled = none) (F : Fr h₀ L s.heap m) (X : (Mine.hd.heap_39 w.params).In h₀) (N : News h₀ L s.heap ((x, OObj1 dx la led) :: rest)) (h2 : ∀ p ∈ rest, p.1 ≠ x)
    (hl : (l, listOf vs.toArray c) ∈ rest) (hm : IntsAre vs ms) (hr : ∀ k ∈ ms, 0 ≤ k ∧ k < 12)
    (h : ∀ h' tk so', OSet so' dx la (ms.foldl addN []) → Fr h₀ L h' m → News h₀ L h' ((x, so') :: rest) → Q .none { s with heap := h', toks := tk }) : wpAny (model prog w) A (call (.builtin "set.__init__") [.ref x, .ref l]) Q E s := by
  have H := oset_fresh dx la led
  refine call_init_ok (H.isO F X N (.head _)) hh ⟨_, (N _ (.tail _ hl)).1, rfl, c, rfl⟩ (by simpa using hm) hr (Ne.symm (h2 _ hl)) rfl (good_fresh led) rfl fun h' tk es' ep' t' hk hg G' => ?_
  obtain ⟨F', N'⟩ := news_same (pre := []) F N (fun _ h => nomatch h) h2 hk hg
  exact h h' tk { OObj1 dx la led with data := .set es' ep' t' } ⟨rfl, rfl, rfl, _, _, _, rfl, G'⟩ F' N'

theorem foldAdd_fresh : ∀ (ms acc : List Int), (acc ++ ms).Nodup → ms.foldl addN acc = acc ++ ms
  | [], acc, _ => by simp
  | k :: ms, acc, h => by
    have hk : k ∉ acc := by
      rw [List.nodup_append] at h
      exact fun e => h.2.2 k e k (.head _) rfl
    have e : addN acc k = acc ++ [k] := by unfold addN; rw [if_neg hk]
    rw [List.foldl_cons, e, foldAdd_fresh ms (acc ++ [k]) (by simpa using h)]
    simp
theorem foldAdd_nil {ms : List Int} (h : ms.Nodup) : ms.foldl addN [] = ms := by simpa using foldAdd_fresh ms [] (by simpa using h)
theorem foldAdd_nodup : ∀ (ms acc : List Int), acc.Nodup → (ms.foldl addN acc).Nodup
  | [], _, h => h
  | k :: ms, acc, h => by rw [List.foldl_cons]; exact foldAdd_nodup ms _ (addN_nodup h k)
theorem mem_foldAdd : ∀ {ms acc : List Int} {x : Int}, x ∈ ms.foldl addN acc ↔ x ∈ acc ∨ x ∈ ms
  | [], acc, x => by simp
  | k :: ms, acc, x => by rw [List.foldl_cons, mem_foldAdd, mem_addN]; simp [or_assoc]
theorem foldAdd_range {ms acc : List Int} (h1 : ∀ k ∈ acc, 0 ≤ k ∧ k < 12) (h2 : ∀ k ∈ ms, 0 ≤ k ∧ k < 12) : ∀ k ∈ ms.foldl addN acc, 0 ≤ k ∧ k < 12 := fun k hk => (mem_foldAdd.mp hk).elim (h1 k) (h2 k)
end
end Mine
end
-- part M1
section
open PySem PySem.W PySem.Calls PyProof.Rows PySem.Spec
set_option maxRecDepth 100000
namespace Mine
local macro_rules | `(tactic| k_room) => `(tactic| (show _ < 1000; (try simp only [depth_under_make, depth_under_kw, depth_in1, depth_deeper, depth_caller]); (try dsimp only); omega))

section
variable {prog : Program} {w : World} {A : Around} {E : Value → Shared → Prop} {s : Shared} {h₀ : Heap} {L : Addr} {m : Str → Option Value} {news : List (Addr × Obj)}

theorem ints_of_keys : ∀ {kvs : List (Int × Value)} {vs : List Value}, vs.length = kvs.length → (∀ (j : Nat) (v : Value), vs[j]? = some v → ∃ (k : Int) (x : Value), kvs[j]? = some (k, x) ∧ (intKind prog w).is k v = true) → IntsAre vs (kvs.map (·.1))
  | [], [], _, _ => .nil
  | [], _ :: _, h, _ => by simp at h
  | _ :: _, [], h, _ => by simp at h
  | q :: r, v :: vs, h, hv => by
    obtain ⟨k, x, e, hk⟩ := hv 0 v rfl
    simp only [List.getElem?_cons_zero, Option.some.injEq] at e
    subst e
    obtain ⟨t, rfl⟩ := (is_int k v).mp hk
    exact .cons k t (ints_of_keys (kvs := r) (by simpa using h) fun j u hu => by simpa using hv (j + 1) u (by simpa using hu))

theorem list_keys {d : Addr} {o : Obj} {kvs : List (Int × Value)} {Q : Value → Shared → Prop} (hh : A.handled = none) (F : Fr h₀ L s.heap m) (N : News h₀ L s.heap news) (lo : (d == sysModules) = false) (hp : (d, o) ∈ news) (hd : o.IsDictOf (intKind prog w) kvs) (hn : kvs.length < 1000)
    (h : ∀ B c h' tk ys, IntsAre ys (kvs.map (·.1)) → Fr h₀ L h' m → News h₀ L h' ((B, listOf ys.toArray c) :: news) → (∀ q ∈ news, q.1 < B) → Q (.ref B) { s with heap := h', toks := tk }) :
    wpAny (model prog w) A (call (.type "list") [.ref d]) Q E s := by
  have hD : s.heap.DictOf (intKind prog w) d kvs := Heap.dictOf_iff.mpr ⟨o, (N _ hp).1, hd⟩
  obtain ⟨ep, hat⟩ := hD.dictAt
  refine kdl_N (kdl_dict (knd := intKind prog w) (kvs := kvs) (ep := ep) lo) hh F N hat (by rw [sizeLine_eq]; omega) fun B c h' tk vs F' N' l1 hl hv => ?_
  exact h B c h' tk vs (ints_of_keys hl hv) F' N' l1

theorem fk_line {x l : Addr} {vs : List Value} {c : Nat} {ms : List Int} {Q : Value → Shared → Prop} (hh : A.handled = none) (F : Fr h₀ L s.heap m) (N : News h₀ L s.heap news) (hbig : h₀.NoLimit) (hx : (x, fkObj) ∈ news) (hl : (l, listOf vs.toArray c) ∈ news) (hm : IntsAre vs ms) (hs : vs.length < 1000)
    (h : ∀ D h' tk o kvs, kvs.map (·.1) = ms.foldl addN [] → o.IsDictOf (intKind prog w) kvs → (D == sysModules) = false → Fr h₀ L h' m → News h₀ L h' ((D, o) :: news) → (∀ q ∈ news, q.1 < D) → Q (.ref D) { s with heap := h', toks := tk }) :
    wpAny (model prog w) A (call (.ref x) [.ref l]) Q E s :=
  call_fk_ok (fkAt_of N hx) hh ⟨_, (N _ hl).1, rfl, c, rfl⟩ (by simpa using hm) (by simpa using hs) fun h' tk o kvs ov ho hd he =>
    h _ h' tk o kvs he hd (F.notModules (modules_low hbig)) (F.keeps ov) (news_pushed F N ov ho rfl) fun q hq => Heap.lt_size (N q hq).1
end

local macro_rules | `(tactic| walk_at "getMethod type:dict") => `(tactic| (k_here; k_dflt (refine' getm_fk ?F ?X ?N ?_; (case F => k_asm); (case X => k_asm); (case N => k_asm); k_whole; intro x' h' F' N' l1; (try k_lt l1); (try k_sweep))))
local macro_rules | `(tactic| walk_at "callWith ref") => `(tactic| (k_here; (with_reducible show wpAny _ _ (callWith _ (Value.ref _) _ (backTo _ (starEach (_ :: _) _)) []) _ _ _); k_dflt (refine' callWith_fk ?_; k_whole)))
local macro_rules | `(tactic| walk_at "And") => `(tactic| ((with_reducible show FkAt _ _ ∧ _); k_dflt (refine ⟨fkAt_of (by k_asm) (by k_mem), ?_⟩); (try dsimp only [List.nil_append, List.cons_append])))

section
variable {prog : Program} {w : World} {E : Value → Shared → Prop} {s : Shared}
variable {A₀ : Around} {base h₀ : Heap} {outer : List Env} {env : Env} {L : Addr} {m mg mb : Str → Option Value} {mean : ExcName → Option Value} {news : List (Addr × Obj)} {d u : Nat} {gs : Option (List Code)}

set_option maxHeartbeats 8000000 in
theorem unique_ok {l : Addr} {vs : List Value} {c : Nat} {ms : List Int} {Q : Value → Shared → Prop} (hd : d < 900) (hu : u < 9000)
    (B : Below A₀ base outer h₀) (F : Fr h₀ L s.heap m) (X : (Mine.hd.heap_39 w.params).In h₀) (N : News h₀ L s.heap news)
    (T : Top Mine.hd.view_39 (looseW Mine.hd.view_39 [Str.ofString "OrderedSet", Str.ofString "_law_wrongs"]) mean mg mb h₀)
    (hf : env.frame = some L) (hke : env.scope.kind = .function) (hl : (l, listOf vs.toArray c) ∈ news) (hm : IntsAre vs ms) (hs : vs.length < 1000)
    (hQ : ∀ D c h' tk ys, IntsAre ys (ms.foldl addN []) → Fr h₀ L h' m → News h₀ L h' ((D, listOf ys.toArray c) :: news) → (∀ q ∈ news, q.1 < D) → Q (.ref D) { s with heap := h', toks := tk }) :
    wpAny (model prog w) ⟨none, d, some (env :: outer), gs, u⟩ (call (.ref 28) [.ref l]) Q E s := by
  refine wpAny_call ?_
  refine code_def B F X N T rfl hf hke (by k_is) (by k_is) (by k_room) (BindsTo.of_eq rfl) (locs rfl) ?_ rfl rfl rfl (by decide)
  intro g' L' h' FG' F' N' B' X' T'
  (try dsimp only)
  k_steps
  refine fk_line rfl (by assumption) (by assumption) (Top.nolimit T') (.head _) (List.mem_cons_of_mem _ hl) hm hs ?_
  intro D h₂ tk₂ o kvs he hd' lo' F₂ N₂ l2
  k_steps
  have hlen : kvs.length < 1000 := by
    have h1 : kvs.length = (kvs.map (·.1)).length := by simp
    have h2 := foldAdd_len ms []
    have h3 := hm.length
    simp only [List.length_nil] at h2
    rw [h1, he]; omega
  refine list_keys rfl (by assumption) (by assumption) lo' (.head _) hd' hlen ?_
  intro B₃ c₃ h₃ tk₃ ys hys F₃ N₃ l3
  k_steps
  rename_i kF kN _ _
  exact hQ _ _ _ _ ys (he ▸ hys) kF (News.sub kN fun p hp => by rcases List.mem_cons.mp hp with rfl | hp; exact .head _; exact .tail _ (.tail _ (.tail _ hp))) fun q hq => l3 q (.tail _ (.tail _ hq))
end
end Mine
end
-- part M2
section
open PySem PySem.W PySem.Calls PyProof.Rows PySem.Spec
set_option maxRecDepth 100000
namespace Mine
local macro_rules | `(tactic| k_room) => `(tactic| (show _ < 1000; (try simp only [depth_mark, depth_under_make, depth_under_kw, depth_in1, depth_deeper, depth_caller]); (try dsimp only); omega))
local macro_rules | `(tactic| walk_at "none such") => `(tactic| skip)
local macro_rules | `(tactic| walk_at "getMethod type:dict") => `(tactic| (k_here; k_dflt (refine' getm_fk ?F ?X ?N ?_; (case F => k_asm); (case X => k_asm); (case N => k_asm); k_whole; intro x' h' F' N' l1; (try k_lt l1); (try k_sweep))))
local macro_rules | `(tactic| walk_at "callWith ref") => `(tactic| (k_here; (with_reducible show wpAny _ _ (callWith _ (Value.ref _) _ (backTo _ (starEach (_ :: _) _)) []) _ _ _); k_dflt (refine' callWith_fk ?_; k_whole)))
local macro_rules | `(tactic| walk_at "And") => `(tactic| ((with_reducible show FkAt _ _ ∧ _); k_dflt (refine ⟨fkAt_of (by k_asm) (by k_mem), ?_⟩); (try dsimp only [List.nil_append, List.cons_append])))
section
variable {prog : Program} {w : World} {E : Value → Shared → Prop} {s : Shared}
variable {A₀ : Around} {base h₀ : Heap} {outer : List Env} {env : Env} {L : Addr} {m mg mb : Str → Option Value} {mean : ExcName → Option Value} {news : List (Addr × Obj)} {d u : Nat} {gs : Option (List Code)}

theorem RaisedN.sub {base G : Heap} {l : List Env} {e : Addr} {cls : Value} {news news' : List (Addr × Obj)} {h : Heap} (R : RaisedSN base G l e cls news h) (hs : ∀ q ∈ news', q ∈ news) : RaisedSN base G l e cls news' h :=
  let ⟨B, a0, hB, hG, hl, hf⟩ := R; ⟨B, a0, hB, hG, fun q hq => hl q (hs q hq), hf⟩
/-- where a called def has raised a TypeError: its frame left, the caller's stands -/
def RaisedTo (base : Heap) (env : Env) (outer : List Env) (h₀ : Heap) (L : Addr) (m : Str → Option Value) (news : List (Addr × Obj)) (E : Value → Shared → Prop) (s : Shared) : Prop :=
  ∀ g₂ h' tk e, Fr h₀ L g₂ m → RaisedSN base g₂ (env :: outer) e (.type "TypeError") news h' → g₂.UpToSlots h' → E (.ref e) { s with heap := h', toks := tk }

set_option maxHeartbeats 8000000 in
theorem unique_w {l : Addr} {vs more : List Value} {v : Value} {c : Nat} {ms : List Int} {Q : Value → Shared → Prop} (hd : d < 900) (hu : u < 9000)
    (B : Below A₀ base outer h₀) (F : Fr h₀ L s.heap m) (X : (Mine.hd.heap_39 w.params).In h₀) (N : News h₀ L s.heap news)
    (T : Top Mine.hd.view_39 (looseW Mine.hd.view_39 [Str.ofString "OrderedSet", Str.ofString "_law_wrongs"]) mean mg mb h₀)
    (hf : env.frame = some L) (hke : env.scope.kind = .function) (hl : (l, listOf (vs ++ v :: more).toArray c) ∈ news) (hm : IntsAre vs ms) (hs : vs.length < 1000) (hw : Wrong v)
    (hE : RaisedTo base env outer h₀ L m news E s) :
    wpAny (model prog w) ⟨none, d, some (env :: outer), gs, u⟩ (call (.ref 28) [.ref l]) Q E s := by
  refine wpAny_call ?_
  refine code_def B F X N T rfl hf hke (by k_is) (by k_is) (by k_room) (BindsTo.of_eq rfl) (locs rfl) ?_ rfl rfl rfl (by decide)
  intro g' L' h' FG' F' N' B' X' T'
  (try dsimp only)
  k_steps
  rename_i F₁ N₁ _
  refine call_fk_w (vs := vs) (more := more) (fkAt_of N₁ (.head _)) (X'.keeps F₁.keep) rfl (by show u + 3 + 3 < 9900; omega) ⟨_, (N₁ _ (List.mem_cons_of_mem _ hl)).1, rfl, c, rfl⟩ (by simp) hm hs hw ?_
  intro h₂ tk₂ e hn
  (try dsimp only)
  have kd : KtsDicts [] h₀ := ktsDicts_nil
  k_steps
  rename_i S' R' U'
  exact hE _ _ _ _ FG' (RaisedN.sub S' fun q hq => .tail _ hq) U'
end
end Mine
end
-- part M3
section
open PySem PySem.W PySem.Calls PyProof.Rows PySem.Spec
set_option maxRecDepth 100000
namespace Mine
local macro_rules | `(tactic| k_room) => `(tactic| (show _ < 1000; (try simp only [depth_mark, depth_under_make, depth_under_kw, depth_in1, depth_deeper, depth_caller]); (try dsimp only); omega))
local macro_rules | `(tactic| walk_at "none such") => `(tactic| skip)
local macro_rules | `(tactic| walk_at "getMethod type:dict") => `(tactic| (k_here; k_dflt (refine' getm_fk ?F ?X ?N ?_; (case F => k_asm); (case X => k_asm); (case N => k_asm); k_whole; intro x' h' F' N' l1; (try k_lt l1); (try k_sweep))))
local macro_rules | `(tactic| walk_at "callWith ref") => `(tactic| (k_here; (with_reducible show wpAny _ _ (callWith _ (Value.ref _) _ (backTo _ (starEach (_ :: _) _)) []) _ _ _); k_dflt (refine' callWith_fk ?_; k_whole)))
local macro_rules | `(tactic| walk_at "And") => `(tactic| ((with_reducible show FkAt _ _ ∧ _); k_dflt (refine ⟨fkAt_of (by k_asm) (by k_mem), ?_⟩); (try dsimp only [List.nil_append, List.cons_append])))
local macro_rules | `(tactic| walk_at "getMethod type:set") => `(tactic| (k_here; refine' c_meth_type ?F ?X meta_set stub_set ?e ?h ?_; (case F => k_asm); (case X => k_asm); (case e => k_dflt k_is); (case h => k_handed)))
local macro_rules | `(tactic| k_mem) => `(tactic| assumption)
section
variable {prog : Program} {w : World} {E : Value → Shared → Prop} {s : Shared}
variable {A₀ : Around} {base h₀ : Heap} {outer : List Env} {env : Env} {L : Addr} {m mg mb : Str → Option Value} {mean : ExcName → Option Value} {news : List (Addr × Obj)} {d u : Nat} {gs : Option (List Code)}
set_option maxHeartbeats 8000000 in
theorem from_ok {sa l : Addr} {vs : List Value} {c : Nat} {ns : List Int} {Q : Value → Shared → Prop} (hd : d < 900) (hu : u < 9000)
    (B : Below A₀ base outer h₀) (F : Fr h₀ L s.heap m) (X : (Mine.hd.heap_39 w.params).In h₀) (N : News h₀ L s.heap news)
    (T : Top Mine.hd.view_39 (looseW Mine.hd.view_39 [Str.ofString "OrderedSet", Str.ofString "_law_wrongs"]) mean mg mb h₀)
    (hf : env.frame = some L) (hke : env.scope.kind = .function) (hl : (l, listOf vs.toArray c) ∈ news) (hm : IntsAre vs ns) (hn : ns.Nodup) (hr : ∀ k ∈ ns, 0 ≤ k ∧ k < 12)
    (hQ : ∀ x dx so h' tk, OSet so dx l ns → Fr h₀ L h' m → News h₀ L h' ((x, so) :: (dx, dictOf [] 0) :: news) → (∀ q ∈ news, q.1 < dx) → dx < x → Q (.ref x) { s with heap := h', toks := tk }) :
    wpAny (model prog w) ⟨none, d, some (env :: outer), gs, u⟩ (call (.ref 58) [.ref sa, .ref l]) Q E s := by
  refine wpAny_call ?_
  refine code_def B F X N T rfl hf hke (by k_is) (by k_is) (by k_room) (BindsTo.of_eq rfl) (locs rfl) ?_ rfl rfl rfl (by decide)
  intro g' L' h' FG' F' N' B' X' T'
  (try dsimp only)
  k_steps
  refine o_new F' X' N' ?_
  intro x dx h₂ led F₂ N₂ l2 l3
  have ha : ∀ p ∈ ((dx, dictOf [] 0) :: news), p.1 ≠ x := fun p hp => by
    rcases List.mem_cons.mp hp with rfl | hp
    · exact Nat.ne_of_lt l3
    · exact Nat.ne_of_lt (Nat.lt_trans (l2 p hp) l3)
  k_steps
  refine o_set (by assumption) X' (by assumption) (.head _) ha ?_
  intro h₄ F₄ N₄
  k_steps
  refine o_update (oset_fresh dx l led) rfl F₄ X' N₄ ha (.tail _ hl) hm hr ?_
  intro h₅ tk₅ so H₅ F₅ N₅
  rw [foldAdd_nil hn] at H₅
  k_steps
  rename_i kF kN _ _
  exact hQ x dx so _ _ H₅ kF kN l2 l3
end
end Mine
end
-- part I1
section
open PySem PySem.W PySem.Calls PyProof.Rows PySem.Spec
set_option maxRecDepth 100000
namespace Mine
section
variable {prog : Program} {w : World} {A : Around} {E : Value → Shared → Prop} {s : Shared} {env : Env} {h₀ : Heap} {x : Str} {body : List Stmt} {Q : Flow → Shared → Prop}
theorem loop_row {I l : Addr} {n : Nat} {P : Nat → Value → Prop} {St : Nat → Heap → Prop} {m₀ : Str → Option Value} {news : List (Addr × Obj)} (J : Nat → (Str → Option Value) → List (Addr × Obj) → Prop)
    (W : Walks prog w A I [I, l] [I] n P St) (hl : l ∈ news.map (·.1)) (hI : ∀ p ∈ news, p.1 < I) (hIL : env.locals ≠ I) (hI0 : h₀.get? I = none) (hst : St 0 s.heap) (F : Fr h₀ env.locals s.heap m₀) (N : News h₀ env.locals s.heap news) (hj : J 0 m₀ news)
    (turn : ∀ i v m₁ nx h tk own, i < n → P i v → nx.map (·.1) = news.map (·.1) → (∀ p ∈ own, ∀ b ∈ news.map (·.1), b ≠ l → p.1 ≠ b) → J i m₁ nx → Fr h₀ env.locals h (fun y => if y = x then some v else m₁ y) → News h₀ env.locals h (nx ++ own) →
      wpAny (model prog w) A (execs body env) (InvPostN h₀ env.locals (J (i + 1)) own (news.map (·.1)) { s with heap := h, toks := tk } Q) E { s with heap := h, toks := tk })
    (done : ∀ m₁ nx h tk, nx.map (·.1) = news.map (·.1) → J n m₁ nx → Fr h₀ env.locals h m₁ → News h₀ env.locals h nx → Q .next { s with heap := h, toks := tk }) :
    LoopAtV prog w A h₀ env x body Q E (.ref I) s := by
  let J' : Nat → (Str → Option Value) → List (Addr × Obj) → Prop := fun i m₁ news₁ => news₁.map (·.1) = news.map (·.1) ∧ J i m₁ news₁
  refine ⟨I, _, _, n, P, St, m₀, news, J', rfl, W, ?_, ?_, ?_, hst, F, N, ⟨rfl, hj⟩, ?_, ?_⟩
  · intro h
    rcases List.mem_cons.mp h with h | h
    · exact hIL h
    · obtain ⟨p, hp, hq⟩ := List.mem_map.mp hl
      exact (N p hp).2.1 (hq.trans (List.mem_singleton.mp h).symm)
  · intro b hb
    rw [List.mem_singleton.mp hb]; exact hI0
  · intro p hp hb
    exact absurd (hI p hp) (by rw [List.mem_singleton.mp hb]; exact Nat.lt_irrefl _)
  · rintro i v m₁ news₁ s₁ own ⟨hh', tk', rfl⟩ hin hP ⟨hadr, hJ⟩ hoff hown _ _ _ F₁ N₁
    have hsep : ∀ p ∈ own, ∀ b ∈ news.map (·.1), b ≠ l → p.1 ≠ b := by
      intro p hp b hb hbl e
      rcases List.mem_cons.mp (hown p hp) with h1 | h1
      · obtain ⟨q, hq, rfl⟩ := List.mem_map.mp hb
        exact absurd (hI q hq) (by rw [← e, h1]; exact Nat.lt_irrefl _)
      · exact hbl (e.symm.trans (List.mem_singleton.mp h1))
    have N₂ : News h₀ env.locals hh' (news₁ ++ own) := fun p hp => N₁ p ((List.mem_append.mp hp).elim (fun h => List.mem_append.mpr (.inr h)) fun h => List.mem_append.mpr (.inl h))
    refine wpAny_mono (turn i v m₁ news₁ hh' tk' own hin hP hadr hsep hJ F₁ N₂) (fun f s₂ p => ?_) fun _ _ e => e
    have fin : InvEndN h₀ env.locals (J (i + 1)) own (news.map (·.1)) { s with heap := hh', toks := tk' } s₂ → LoopStepU h₀ env.locals [I] own (J' (i + 1)) { s with heap := hh', toks := tk' } .next s₂ := by
      rintro ⟨h', tk, m', news', nx, e, F', N', hn, ho, ha, hm⟩
      refine ⟨rfl, h', tk, m', nx, e, F', fun p hp => N' p ((List.mem_append.mp hp).elim (ho p) (hn p)), fun p hp hq => ?_, ha, hm⟩
      have h1 : p.1 ∈ nx.map (·.1) := List.mem_map.mpr ⟨p, hp, rfl⟩
      rw [ha, ← hadr] at h1
      obtain ⟨q, hq1, hq2⟩ := List.mem_map.mp h1
      exact hoff q hq1 (by rw [hq2]; exact hq)
    cases f with
    | ret v => exact .ret p
    | brk => exact .brk p
    | next => exact .next (fin p)
    | cont => exact .cont (fin p)
  · rintro h' tk m' news' F' N' _ ⟨ha, hJ⟩
    exact done m' news' h' tk ha hJ F' N'

theorem iter_row {l : Addr} {vs : List Value} {c : Nat} {m₀ : Str → Option Value} {news : List (Addr × Obj)} (J : Nat → (Str → Option Value) → List (Addr × Obj) → Prop)
    (hh : A.handled = none) (hl : (l, listOf vs.toArray c) ∈ news) (F : Fr h₀ env.locals s.heap m₀) (N : News h₀ env.locals s.heap news) (hj : J 0 m₀ news)
    (turn : ∀ i v m₁ nx h tk own, vs[i]? = some v → nx.map (·.1) = news.map (·.1) → (∀ p ∈ own, ∀ b ∈ news.map (·.1), b ≠ l → p.1 ≠ b) → J i m₁ nx → Fr h₀ env.locals h (fun y => if y = x then some v else m₁ y) → News h₀ env.locals h (nx ++ own) →
      wpAny (model prog w) A (execs body env) (InvPostN h₀ env.locals (J (i + 1)) own (news.map (·.1)) { s with heap := h, toks := tk } Q) E { s with heap := h, toks := tk })
    (done : ∀ m₁ nx h tk, nx.map (·.1) = news.map (·.1) → J vs.length m₁ nx → Fr h₀ env.locals h m₁ → News h₀ env.locals h nx → Q .next { s with heap := h, toks := tk }) :
    wpAny (model prog w) A (pyIter (.ref l)) (fun it s₂ => LoopAtV prog w A h₀ env x body Q E it s₂) E s := by
  have hls : s.heap.IsList l vs.toArray := ⟨_, (N _ hl).1, rfl, c, rfl⟩
  have hlt := Heap.lt_size (N _ hl).1
  refine wpAny_pyIter_list hls ?_
  refine loop_row J (Walks.list hh s.heap.objs.size l (Nat.ne_of_lt hlt) vs.toArray) (List.mem_map.mpr ⟨_, hl, rfl⟩) (fun p hp => Heap.lt_size (N p hp).1) (fun e => absurd F.ns.lt (e ▸ Nat.lt_irrefl _)) (next_is_new F)
    ⟨⟨_, Heap.get?_push_size _ rfl, rfl, rfl⟩, hls.at fun o e => Heap.get?_push_of_some _ e⟩ (F.push _) (fun p hp => ⟨Heap.get?_push_of_some _ (N p hp).1, (N p hp).2⟩) hj (fun i v m₁ nx h tk own hi hP => turn i v m₁ nx h tk own (by have hP' : vs.toArray[i]? = some v := hP; simpa using hP')) (fun m₁ nx h tk ha hJ => done m₁ nx h tk ha (by simpa using hJ))

theorem iter_tup {l : Addr} {vs : List Value} {lo : Obj} {m₀ : Str → Option Value} {news : List (Addr × Obj)} (J : Nat → (Str → Option Value) → List (Addr × Obj) → Prop)
    (hh : A.handled = none) (hl : (l, lo) ∈ news) (hc : lo.cls = .type "tuple") (hd : ∃ c, lo.data = .seq vs.toArray c) (F : Fr h₀ env.locals s.heap m₀) (N : News h₀ env.locals s.heap news) (hj : J 0 m₀ news)
    (turn : ∀ i v m₁ nx h tk own, vs[i]? = some v → nx.map (·.1) = news.map (·.1) → (∀ p ∈ own, ∀ b ∈ news.map (·.1), b ≠ l → p.1 ≠ b) → J i m₁ nx → Fr h₀ env.locals h (fun y => if y = x then some v else m₁ y) → News h₀ env.locals h (nx ++ own) →
      wpAny (model prog w) A (execs body env) (InvPostN h₀ env.locals (J (i + 1)) own (news.map (·.1)) { s with heap := h, toks := tk } Q) E { s with heap := h, toks := tk })
    (done : ∀ m₁ nx h tk, nx.map (·.1) = news.map (·.1) → J vs.length m₁ nx → Fr h₀ env.locals h m₁ → News h₀ env.locals h nx → Q .next { s with heap := h, toks := tk }) :
    wpAny (model prog w) A (pyIter (.ref l)) (fun it s₂ => LoopAtV prog w A h₀ env x body Q E it s₂) E s := by
  have hls : s.heap.IsTuple l vs.toArray := ⟨_, (N _ hl).1, hc, hd⟩
  have hlt := Heap.lt_size (N _ hl).1
  refine wpAny_pyIter_tuple hls ?_
  refine loop_row J (Walks.tuple hh s.heap.objs.size l (Nat.ne_of_lt hlt) vs.toArray) (List.mem_map.mpr ⟨_, hl, rfl⟩) (fun p hp => Heap.lt_size (N p hp).1) (fun e => absurd F.ns.lt (e ▸ Nat.lt_irrefl _)) (next_is_new F)
    ⟨⟨_, Heap.get?_push_size _ rfl, rfl, rfl⟩, hls.at fun o e => Heap.get?_push_of_some _ e⟩ (F.push _) (fun p hp => ⟨Heap.get?_push_of_some _ (N p hp).1, (N p hp).2⟩) hj (fun i v m₁ nx h tk own hi hP => turn i v m₁ nx h tk own (by have hP' : vs.toArray[i]? = some v := hP; simpa using hP')) (fun m₁ nx h tk ha hJ => done m₁ nx h tk ha (by simpa using hJ))

/-- a star tuple of one thing -/
theorem iter_tup1 {l : Addr} {v : Value} {lo : Obj} {m₀ : Str → Option Value} {news : List (Addr × Obj)} (R : List (Addr × Obj) → Prop)
    (hh : A.handled = none) (hl : (l, lo) ∈ news) (hc : lo.cls = .type "tuple") (hd : ∃ c, lo.data = .seq #[v] c) (F : Fr h₀ env.locals s.heap m₀) (N : News h₀ env.locals s.heap news)
    (turn : ∀ h tk own, (∀ p ∈ own, ∀ b ∈ news.map (·.1), b ≠ l → p.1 ≠ b) → Fr h₀ env.locals h (fun y => if y = x then some v else m₀ y) → News h₀ env.locals h (news ++ own) →
      wpAny (model prog w) A (execs body env) (InvPostN h₀ env.locals (fun _ nx => R nx) own (news.map (·.1)) { s with heap := h, toks := tk } Q) E { s with heap := h, toks := tk })
    (done : ∀ m₁ nx h tk, R nx → Fr h₀ env.locals h m₁ → News h₀ env.locals h nx → Q .next { s with heap := h, toks := tk }) :
    wpAny (model prog w) A (pyIter (.ref l)) (fun it s₂ => LoopAtV prog w A h₀ env x body Q E it s₂) E s := by
  refine iter_tup (vs := [v]) (fun i mm nx => (i = 0 → mm = m₀ ∧ nx = news) ∧ (i = 1 → R nx)) hh hl hc hd F N ⟨fun _ => ⟨rfl, rfl⟩, fun h => absurd h (by decide)⟩ ?_ ?_
  · rintro i v' m₁ nx h tk own hv ha hoff ⟨hJ, _⟩ F₁ N₁
    have hi : i = 0 := by
      have := (List.getElem?_eq_some_iff.mp hv).1
      simp at this; omega
    subst hi
    obtain ⟨rfl, rfl⟩ := hJ rfl
    cases Option.some.inj hv
    refine wpAny_mono (turn h tk own hoff F₁ N₁) (fun f s₂ p => ?_) fun _ _ e => e
    have go : InvEndN h₀ env.locals (fun _ nx => R nx) own (nx.map (·.1)) { s with heap := h, toks := tk } s₂ → InvEndN h₀ env.locals (fun (mm : Str → Option Value) nx' => (0 + 1 = 0 → mm = m₁ ∧ nx' = nx) ∧ (0 + 1 = 1 → R nx')) own (nx.map (·.1)) { s with heap := h, toks := tk } s₂ := by
      rintro ⟨h', tk', m', news', nx', e, F', N', hn, ho, ha', hr⟩
      exact ⟨h', tk', m', news', nx', e, F', N', hn, ho, ha', ⟨fun h => absurd h (by decide), fun _ => hr⟩⟩
    cases f with
    | ret v => exact p
    | brk => exact p
    | next => exact go p
    | cont => exact go p
  · rintro m₁ nx h tk _ ⟨_, hr⟩ F₁ N₁
    exact done m₁ nx h tk (hr rfl) F₁ N₁

/-- a list of the ledger; the body sets no local but the loop's own -/
theorem iter_keep {l : Addr} {vs : List Value} {c : Nat} {m₀ : Str → Option Value} {news : List (Addr × Obj)} (R : Nat → List (Addr × Obj) → Prop)
    (hh : A.handled = none) (hl : (l, listOf vs.toArray c) ∈ news) (F : Fr h₀ env.locals s.heap m₀) (N : News h₀ env.locals s.heap news) (hj : R 0 news)
    (turn : ∀ i v nx h tk own, vs[i]? = some v → nx.map (·.1) = news.map (·.1) → (∀ p ∈ own, ∀ b ∈ news.map (·.1), b ≠ l → p.1 ≠ b) → R i nx → Fr h₀ env.locals h (fun y => if y = x then some v else m₀ y) → News h₀ env.locals h (nx ++ own) →
      wpAny (model prog w) A (execs body env) (InvPostN h₀ env.locals (fun m' nx => R (i + 1) nx ∧ ∀ z, z ≠ x → m' z = m₀ z) own (news.map (·.1)) { s with heap := h, toks := tk } Q) E { s with heap := h, toks := tk })
    (done : ∀ (u : Str → Option Value) nx h tk, R vs.length nx → Fr h₀ env.locals h (fun z => if z = x then u z else m₀ z) → News h₀ env.locals h nx → Q .next { s with heap := h, toks := tk }) :
    wpAny (model prog w) A (pyIter (.ref l)) (fun it s₂ => LoopAtV prog w A h₀ env x body Q E it s₂) E s := by
  refine iter_row (fun i mm nx => R i nx ∧ ∀ z, z ≠ x → mm z = m₀ z) hh hl F N ⟨hj, fun _ _ => rfl⟩ ?_ ?_
  · rintro i v m₁ nx h tk own hv ha hoff ⟨hR, hm⟩ F₁ N₁
    rw [map_none hm] at F₁
    exact turn i v nx h tk own hv ha hoff hR F₁ N₁
  · rintro m₁ nx h tk _ ⟨hR, hm⟩ F₁ N₁
    refine done m₁ nx h tk hR ?_ N₁
    rw [done_none hm]; exact F₁
end

theorem OSet.len {so : Obj} {dx la : Addr} {ns : List Int} (H : OSet so dx la ns) : ns.length ≤ 12 := by
  obtain ⟨es, ep, t, _, G⟩ := H.data
  rw [← G.tab.size]; exact G.size
theorem o_append {prog : Program} {w : World} {A : Around} {E : Value → Shared → Prop} {s : Shared} {h₀ : Heap} {L : Addr} {m : Str → Option Value} {la : Addr} {vs : List Value} {c : Nat} {v : Value} {pre post : List (Addr × Obj)} {Q : Value → Shared → Prop} (F : Fr h₀ L s.heap m) (N : News h₀ L s.heap (pre ++ (la, listOf vs.toArray c) :: post)) (h1 : ∀ p ∈ pre, p.1 ≠ la) (h2 : ∀ p ∈ post, p.1 ≠ la) (hz : vs.length ≤ 12)
    (h : ∀ h', Fr h₀ L h' m → News h₀ L h' (pre ++ (la, listOf (vs ++ [v]).toArray (c + 1)) :: post) → Q .none { s with heap := h' }) :
    wpAny (model prog w) A (call (.builtin "list.append") [.ref la, v]) Q E s := by
  have z := N (la, listOf vs.toArray c) (List.mem_append.mpr (.inr (.head _)))
  refine append_at (hsz := by rw [sizeLine_eq]; simp; omega) z.1 fun h' hs ho' => h h' (F.change hs z.2.1 z.2.2) (news_set N h1 h2 hs (by simpa using ho'))
end Mine
end
-- part M4
section
open PySem PySem.W PySem.Calls PyProof.Rows PySem.Spec
set_option maxRecDepth 100000
namespace Mine
local macro_rules | `(tactic| k_room) => `(tactic| (show _ < 1000; (try simp only [depth_mark, depth_under_make, depth_under_kw, depth_in1, depth_deeper, depth_caller]); (try dsimp only); omega))
local macro_rules | `(tactic| walk_at "getMethod type:dict") => `(tactic| (k_here; k_dflt (refine' getm_fk ?F ?X ?N ?_; (case F => k_asm); (case X => k_asm); (case N => k_asm); k_whole; intro x' h' F' N' l1; (try k_lt l1); (try k_sweep))))
local macro_rules | `(tactic| walk_at "callWith ref") => `(tactic| (k_here; (with_reducible show wpAny _ _ (callWith _ (Value.ref _) _ (backTo _ (starEach (_ :: _) _)) []) _ _ _); k_dflt (refine' callWith_fk ?_; k_whole)))
local macro_rules | `(tactic| walk_at "And") => `(tactic| ((with_reducible show FkAt _ _ ∧ _); k_dflt (refine ⟨fkAt_of (by k_asm) (by k_mem), ?_⟩); (try dsimp only [List.nil_append, List.cons_append])))
local macro_rules | `(tactic| walk_at "getMethod type:set") => `(tactic| (k_here; refine' c_meth_type ?F ?X meta_set stub_set ?e ?h ?_; (case F => k_asm); (case X => k_asm); (case e => k_dflt k_is); (case h => k_handed)))
local macro_rules | `(tactic| k_mem) => `(tactic| assumption)
section
variable {prog : Program} {w : World} {E : Value → Shared → Prop} {s : Shared}
variable {A₀ : Around} {base h₀ : Heap} {outer : List Env} {env : Env} {L : Addr} {m mg mb : Str → Option Value} {mean : ExcName → Option Value} {news : List (Addr × Obj)} {d u : Nat} {gs : Option (List Code)}
set_option maxHeartbeats 8000000 in
theorem update_okC {sa dx la t1 : Addr} {so : Obj} {vs ts : List Value} {c c' : Nat} {ns ms : List Int} {rest : List (Addr × Obj)} {Q : Value → Shared → Prop} (hd : d < 900) (hu : u < 9000)
    (B : Below A₀ base outer h₀) (F : Fr h₀ L s.heap m) (X : (Mine.hd.heap_39 w.params).In h₀) (N : News h₀ L s.heap ((sa, so) :: (la, listOf vs.toArray c) :: rest))
    (T : Top Mine.hd.view_39 (looseW Mine.hd.view_39 [Str.ofString "OrderedSet", Str.ofString "_law_wrongs"]) mean mg mb h₀)
    (hf : env.frame = some L) (hke : env.scope.kind = .function) (H : OSet so dx la ns) (hv : IntsAre vs ns) (hdx : (dx, dictOf [] 0) ∈ rest) (ht : (t1, listOf ts.toArray c') ∈ rest) (hm : IntsAre ts ms) (hr : ∀ k ∈ ms, 0 ≤ k ∧ k < 12)
    (hsl : sa ≠ la) (hra : ∀ p ∈ rest, p.1 ≠ sa ∧ p.1 ≠ la)
    (hQ : ∀ so' vs' c' h' tk, OSet so' dx la (ms.foldl addN ns) → IntsAre vs' (ms.foldl addN ns) → Fr h₀ L h' m → News h₀ L h' ((sa, so') :: (la, listOf vs'.toArray c') :: rest) → Q .none { s with heap := h', toks := tk }) :
    codeAny (model prog w) ⟨none, d, some (env :: outer), gs, u⟩ (.call (.ref 135) ⟨[.ref sa, .ref t1], []⟩) (fun r s' => match r with | .ok (.ret v) => Q v s' | .ok _ => False | .error e => E e s') s := by
  obtain ⟨sc, lo, gl, ce, qu, fu, co, fr, bu⟩ := env
  obtain ⟨k1, k2, k3, k4, k5⟩ := sc
  dsimp only at hf hke
  subst hf hke
  have hm' := hm
  kc_enter
  k_steps
  rename_i D g' L' h1 FG' F' N' B' X' T' l1
  obtain ⟨l1a, l1b, l1c⟩ := l1
  refine iter_tup1 (fun nx => ∃ so' vs' c', OSet so' dx la (ms.foldl addN ns) ∧ IntsAre vs' (ms.foldl addN ns) ∧ nx = (D, { cls := .type "tuple", dict := none, data := .seq #[.ref t1] 0 }) :: (sa, so') :: (la, listOf vs'.toArray c') :: rest) rfl (.head _) rfl ⟨_, rfl⟩ F' N' ?_ ?_
  · intro h₂ tk₂ own₂ hoff₂ F₂ N₂
    k_steps
    refine iter_keep (fun i nx => ∃ so' vs' c', OSet so' dx la ((ms.take i).foldl addN ns) ∧ IntsAre vs' ((ms.take i).foldl addN ns) ∧ nx = (D, { cls := .type "tuple", dict := none, data := .seq #[.ref t1] 0 }) :: (sa, so') :: (la, listOf vs'.toArray c') :: (rest ++ own₂)) rfl (c := c') (vs := ts) (by simp [ht]) (by assumption) (by assumption) ⟨so, vs, c, by simpa using H, by simpa using hv, rfl⟩ ?_ ?_
    · rintro i v _ h₃ tk₃ own₃ hv₃ - hoff₃ ⟨so', vs', c', H', hv', rfl⟩ F₃ N₃
      have hlen := IntsAre.length hm
      have hi : i < ts.length := (List.getElem?_eq_some_iff.mp hv₃).1
      obtain ⟨k, hk⟩ : ∃ k, ms[i]? = some k := ⟨ms[i]'(by omega), by simp [show i < ms.length by omega]⟩
      obtain ⟨t, ht'⟩ := hm.get i k hk
      rw [hv₃] at ht'; cases Option.some.inj ht'
      have hfold : (ms.take (i + 1)).foldl addN ns = addN ((ms.take i).foldl addN ns) k := by rw [List.take_add_one, hk]; simp
      rw [hfold]
      generalize (ms.take i).foldl addN ns = acc at H' hv' ⊢
      have hkr := hr k (List.mem_of_getElem? hk)
      k_steps
      refine o_notin H' (by assumption) X' (by assumption) (by simp) ?_
      by_cases hka : k ∈ acc
      · rw [decide_eq_true hka]
        k_steps
        have e : addN acc k = acc := by unfold addN; rw [if_pos hka]
        refine InvEndN.intro (nx := (D, { cls := .type "tuple", dict := none, data := .seq #[.ref t1] 0 }) :: (sa, so') :: (la, listOf vs'.toArray c') :: (rest ++ own₂)) (by assumption) (by assumption) ⟨⟨so', vs', c', by rw [e]; exact H', by rw [e]; exact hv', rfl⟩, ?_⟩ (by simp) (fun p hp => List.mem_append.mpr (.inl hp)) (fun p hp => List.mem_append.mpr (.inr hp))
        intro z hz
        simp only [if_neg hz]
      · rw [decide_eq_false hka]
        k_steps
        refine o_list H' (by assumption) X' (by assumption) (by simp) (by simp [hdx]) ?_
        k_steps
        have hD : ∀ p ∈ rest ++ own₂, p.1 ≠ la ∧ p.1 ≠ sa := fun p hp => by
          rcases List.mem_append.mp hp with hp | hp
          · exact ⟨(hra p hp).2, (hra p hp).1⟩
          · exact ⟨hoff₂ p hp la (by simp) (Nat.ne_of_lt l1b), hoff₂ p hp sa (by simp) (Nat.ne_of_lt l1a)⟩
        have hD2 : ∀ p ∈ (rest ++ own₂) ++ own₃, p.1 ≠ la ∧ p.1 ≠ sa := fun p hp => by
          rcases List.mem_append.mp hp with hp | hp
          · exact hD p hp
          · exact ⟨hoff₃ p hp la (by simp) (Ne.symm (hra _ ht).2), hoff₃ p hp sa (by simp) (Ne.symm (hra _ ht).1)⟩
        refine o_append (pre := [(D, _), (sa, so')]) (post := (rest ++ own₂) ++ own₃) (by assumption) (by assumption) (fun p hp => ?_) (fun p hp => (hD2 p hp).1) (by rw [hv'.length]; exact H'.len) ?_
        · rcases List.mem_cons.mp hp with rfl | hp
          · exact Nat.ne_of_gt l1b
          · rw [List.mem_singleton.mp hp]; exact hsl
        intro h₅ F₅ N₅
        k_steps
        refine o_add (pre := [(D, _)]) (post := (la, _) :: ((rest ++ own₂) ++ own₃)) H' (by assumption) X' (by assumption) (fun p hp => ?_) (fun p hp => ?_) hkr.1 hkr.2 ?_
        · rw [List.mem_singleton.mp hp]; exact Nat.ne_of_gt l1a
        · rcases List.mem_cons.mp hp with rfl | hp
          · exact Ne.symm hsl
          · exact (hD2 p hp).2
        intro h₆ so₆ H₆ F₆ N₆
        k_steps
        have e : addN acc k = acc ++ [k] := by unfold addN; rw [if_neg hka]
        refine InvEndN.intro (nx := (D, { cls := .type "tuple", dict := none, data := .seq #[.ref t1] 0 }) :: (sa, so₆) :: (la, listOf (vs' ++ [Value.int k t]).toArray (c' + 1)) :: (rest ++ own₂)) (by assumption) (by assumption) ⟨⟨so₆, _, _, H₆, by rw [e]; exact hv'.append (.cons k _ .nil), rfl⟩, ?_⟩ (by simp) (fun p hp => ?_) (fun p hp => List.mem_append.mpr (.inr (.tail _ (.tail _ (List.mem_append.mpr (.inr hp))))))
        · intro z hz
          simp only [if_neg hz]
        · simp only [List.mem_cons, List.mem_append] at hp ⊢
          grind
    · rintro u₁ _ h₃ tk₃ ⟨so', vs', c', H', hv', rfl⟩ F₃ N₃
      k_steps
      have hl : ms.take ts.length = ms := by rw [hm.length, List.take_length]
      rw [hl] at H' hv'
      refine InvEndN.intro (nx := (D, { cls := .type "tuple", dict := none, data := .seq #[.ref t1] 0 }) :: (sa, so') :: (la, listOf vs'.toArray c') :: rest) (by assumption) (by assumption) ⟨so', vs', c', H', hv', rfl⟩ (by simp) (fun p hp => ?_) (fun p hp => ?_)
      · simp only [List.mem_cons, List.mem_append] at hp ⊢
        grind
      · simp only [List.mem_cons, List.mem_append]
        exact .inr (.inr (.inr (.inr hp)))
  · rintro u₁ _ h₃ tk₃ ⟨so', vs', c', H', hv', rfl⟩ F₃ N₃
    k_steps
    rename_i kF kN _ _
    exact hQ so' vs' c' _ _ H' hv' kF (News.sub kN fun p hp => .tail _ hp)
end
end Mine
end
-- part M5
section
open PySem PySem.W PySem.Calls PyProof.Rows PySem.Spec
set_option maxRecDepth 100000
namespace Mine
local macro_rules | `(tactic| k_room) => `(tactic| (show _ < 1000; (try simp only [depth_mark, depth_under_make, depth_under_kw, depth_in1, depth_deeper, depth_caller]); (try dsimp only); omega))
local macro_rules | `(tactic| walk_at "none such") => `(tactic| skip)
local macro_rules | `(tactic| walk_at "getMethod type:dict") => `(tactic| (k_here; k_dflt (refine' getm_fk ?F ?X ?N ?_; (case F => k_asm); (case X => k_asm); (case N => k_asm); k_whole; intro x' h' F' N' l1; (try k_lt l1); (try k_sweep))))
local macro_rules | `(tactic| walk_at "callWith ref") => `(tactic| (k_here; (with_reducible show wpAny _ _ (callWith _ (Value.ref _) _ (backTo _ (starEach (_ :: _) _)) []) _ _ _); k_dflt (refine' callWith_fk ?_; k_whole)))
local macro_rules | `(tactic| walk_at "And") => `(tactic| ((with_reducible show FkAt _ _ ∧ _); k_dflt (refine ⟨fkAt_of (by k_asm) (by k_mem), ?_⟩); (try dsimp only [List.nil_append, List.cons_append])))
local macro_rules | `(tactic| walk_at "getMethod type:set") => `(tactic| (k_here; refine' c_meth_type ?F ?X meta_set stub_set ?e ?h ?_; (case F => k_asm); (case X => k_asm); (case e => k_dflt k_is); (case h => k_handed)))
local macro_rules | `(tactic| k_mem) => `(tactic| assumption)
section
variable {prog : Program} {w : World} {E : Value → Shared → Prop} {s : Shared}
variable {A₀ : Around} {base h₀ : Heap} {outer : List Env} {env : Env} {L : Addr} {m mg mb : Str → Option Value} {mean : ExcName → Option Value} {news : List (Addr × Obj)} {d u : Nat} {gs : Option (List Code)}
set_option maxHeartbeats 8000000 in
theorem update_wC {sa dx la t1 : Addr} {so : Obj} {vs ts more : List Value} {v : Value} {c c' : Nat} {ns ms : List Int} {rest : List (Addr × Obj)} {Q : Value → Shared → Prop} (hd : d < 900) (hu : u < 9000)
    (B : Below A₀ base outer h₀) (F : Fr h₀ L s.heap m) (X : (Mine.hd.heap_39 w.params).In h₀) (N : News h₀ L s.heap ((sa, so) :: (la, listOf vs.toArray c) :: rest))
    (T : Top Mine.hd.view_39 (looseW Mine.hd.view_39 [Str.ofString "OrderedSet", Str.ofString "_law_wrongs"]) mean mg mb h₀)
    (hf : env.frame = some L) (hke : env.scope.kind = .function) (H : OSet so dx la ns) (hv : IntsAre vs ns) (hdx : (dx, dictOf [] 0) ∈ rest) (ht : (t1, listOf (ts ++ v :: more).toArray c') ∈ rest) (hw : Wrong v) (hm : IntsAre ts ms) (hr : ∀ k ∈ ms, 0 ≤ k ∧ k < 12)
    (hsl : sa ≠ la) (hra : ∀ p ∈ rest, p.1 ≠ sa ∧ p.1 ≠ la)
    (hE : ∀ so' vs' c', OSet so' dx la (ms.foldl addN ns) → IntsAre vs' (ms.foldl addN ns) → RaisedTo base env outer h₀ L m ((sa, so') :: (la, listOf vs'.toArray c') :: rest) E s) :
    codeAny (model prog w) ⟨none, d, some (env :: outer), gs, u⟩ (.call (.ref 135) ⟨[.ref sa, .ref t1], []⟩) (fun r s' => match r with | .ok (.ret v) => Q v s' | .ok _ => False | .error e => E e s') s := by
  obtain ⟨sc, lo, gl, ce, qu, fu, co, fr, bu⟩ := env
  obtain ⟨k1, k2, k3, k4, k5⟩ := sc
  dsimp only at hf hke
  subst hf hke
  have hm' := hm
  kc_enter
  k_steps
  rename_i D g' L' h1 FG' F' N' B' X' T' l1
  obtain ⟨l1a, l1b, l1c⟩ := l1
  refine iter_tup1 (fun nx => False) rfl (.head _) rfl ⟨_, rfl⟩ F' N' ?_ ?_
  · intro h₂ tk₂ own₂ hoff₂ F₂ N₂
    k_steps
    refine iter_keep (fun i nx => i ≤ ms.length ∧ ∃ so' vs' c', OSet so' dx la ((ms.take i).foldl addN ns) ∧ IntsAre vs' ((ms.take i).foldl addN ns) ∧ nx = (D, { cls := .type "tuple", dict := none, data := .seq #[.ref t1] 0 }) :: (sa, so') :: (la, listOf vs'.toArray c') :: (rest ++ own₂)) rfl (c := c') (vs := ts ++ v :: more) (by simp [ht]) (by assumption) (by assumption) ⟨Nat.zero_le _, so, vs, c, by simpa using H, by simpa using hv, rfl⟩ ?_ ?_
    · rintro i v' _ h₃ tk₃ own₃ hv₃ - hoff₃ ⟨hi, so', vs', c', H', hv', rfl⟩ F₃ N₃
      k_steps
      have hlen := IntsAre.length hm
      by_cases hit : i = ts.length
      · subst hit
        have hvv : v' = v := by simpa using hv₃.symm
        subst hvv
        refine o_notinw H' (by assumption) X' (by assumption) (by simp) hw rfl (by show u + 3 + 3 < 9900; omega) ?_
        have hl : ms.take ts.length = ms := by rw [hlen, List.take_length]
        rw [hl] at H' hv'
        intro h₄ tk₄ e hn
        (try dsimp only)
        have kd : KtsDicts [] h₀ := ktsDicts_nil
        k_steps
        rename_i S' R' U'
        exact hE so' vs' c' H' hv' _ _ _ _ FG' (RaisedN.sub S' fun q hq => by simp at hq ⊢; grind) U'
      have hi : i < ts.length := by omega
      obtain ⟨k, hk⟩ : ∃ k, ms[i]? = some k := ⟨ms[i]'(by omega), by simp [show i < ms.length by omega]⟩
      obtain ⟨t, ht'⟩ := hm.get i k hk
      rw [List.getElem?_append_left hi] at hv₃
      rw [hv₃] at ht'; cases Option.some.inj ht'
      have hfold : (ms.take (i + 1)).foldl addN ns = addN ((ms.take i).foldl addN ns) k := by rw [List.take_add_one, hk]; simp
      rw [hfold]
      generalize (ms.take i).foldl addN ns = acc at H' hv' ⊢
      have hkr := hr k (List.mem_of_getElem? hk)
      k_steps
      refine o_notin H' (by assumption) X' (by assumption) (by simp) ?_
      by_cases hka : k ∈ acc
      · rw [decide_eq_true hka]
        k_steps
        have e : addN acc k = acc := by unfold addN; rw [if_pos hka]
        refine InvEndN.intro (nx := (D, { cls := .type "tuple", dict := none, data := .seq #[.ref t1] 0 }) :: (sa, so') :: (la, listOf vs'.toArray c') :: (rest ++ own₂)) (by assumption) (by assumption) ⟨⟨by omega, so', vs', c', by rw [e]; exact H', by rw [e]; exact hv', rfl⟩, ?_⟩ (by simp) (fun p hp => List.mem_append.mpr (.inl hp)) (fun p hp => List.mem_append.mpr (.inr hp))
        intro z hz
        simp only [if_neg hz]
      · rw [decide_eq_false hka]
        k_steps
        refine o_list H' (by assumption) X' (by assumption) (by simp) (by simp [hdx]) ?_
        k_steps
        have hD : ∀ p ∈ rest ++ own₂, p.1 ≠ la ∧ p.1 ≠ sa := fun p hp => by
          rcases List.mem_append.mp hp with hp | hp
          · exact ⟨(hra p hp).2, (hra p hp).1⟩
          · exact ⟨hoff₂ p hp la (by simp) (Nat.ne_of_lt l1b), hoff₂ p hp sa (by simp) (Nat.ne_of_lt l1a)⟩
        have hD2 : ∀ p ∈ (rest ++ own₂) ++ own₃, p.1 ≠ la ∧ p.1 ≠ sa := fun p hp => by
          rcases List.mem_append.mp hp with hp | hp
          · exact hD p hp
          · exact ⟨hoff₃ p hp la (by simp) (Ne.symm (hra _ ht).2), hoff₃ p hp sa (by simp) (Ne.symm (hra _ ht).1)⟩
        refine o_append (pre := [(D, _), (sa, so')]) (post := (rest ++ own₂) ++ own₃) (by assumption) (by assumption) (fun p hp => ?_) (fun p hp => (hD2 p hp).1) (by rw [hv'.length]; exact H'.len) ?_
        · rcases List.mem_cons.mp hp with rfl | hp
          · exact Nat.ne_of_gt l1b
          · rw [List.mem_singleton.mp hp]; exact hsl
        intro h₅ F₅ N₅
        k_steps
        refine o_add (pre := [(D, _)]) (post := (la, _) :: ((rest ++ own₂) ++ own₃)) H' (by assumption) X' (by assumption) (fun p hp => ?_) (fun p hp => ?_) hkr.1 hkr.2 ?_
        · rw [List.mem_singleton.mp hp]; exact Nat.ne_of_gt l1a
        · rcases List.mem_cons.mp hp with rfl | hp
          · exact Ne.symm hsl
          · exact (hD2 p hp).2
        intro h₆ so₆ H₆ F₆ N₆
        k_steps
        have e : addN acc k = acc ++ [k] := by unfold addN; rw [if_neg hka]
        refine InvEndN.intro (nx := (D, { cls := .type "tuple", dict := none, data := .seq #[.ref t1] 0 }) :: (sa, so₆) :: (la, listOf (vs' ++ [Value.int k t]).toArray (c' + 1)) :: (rest ++ own₂)) (by assumption) (by assumption) ⟨⟨by omega, so₆, _, _, H₆, by rw [e]; exact hv'.append (.cons k _ .nil), rfl⟩, ?_⟩ (by simp) (fun p hp => ?_) (fun p hp => List.mem_append.mpr (.inr (.tail _ (.tail _ (List.mem_append.mpr (.inr hp))))))
        · intro z hz
          simp only [if_neg hz]
        · simp only [List.mem_cons, List.mem_append] at hp ⊢
          grind
    · rintro u₁ _ h₃ tk₃ ⟨hi, _⟩ F₃ N₃
      have hlen := IntsAre.length hm
      simp at hi; omega
  · rintro u₁ _ h₃ tk₃ hi
    exact absurd hi id
end
end Mine
end
-- part I2
section
namespace Mine
/-- the walker stops at a call of a def, unless NoTag lies in the context -/
def NoTag : Prop := True
def Tag (a : Prop) : Prop := a
theorem Tag.mk {a : Prop} (h : Tag a) : a := h
theorem Tag.un {a : Prop} (h : a) : Tag a := h
end Mine
end
-- part U1
section
open PySem PySem.W PySem.Calls PyProof.Rows PySem.Spec Builtin Builtin.ObjectAttr
set_option maxRecDepth 100000
namespace Mine
section
variable {M : Model} {A : Around} {E : Value → Shared → Prop} {s : Shared} {env : Env}
theorem starCall_ {o e : Expr} {name : Str} {apos pos p : Pos} {Q : Value → Shared → Prop}
    (h : wpAny M A (eval o env) (fun ov s₁ => wpAny M A (getAttr ov name true) (fun f s₂ => wpAny M A (callWith pos f [] (backTo pos (starEach [.Starred e p] env)) []) Q E s₂) E s₁) E s)
    (he : eval (.Call (.Attribute o name apos) [.Starred e p] [] pos) env = (do
      let ov ← eval o env
      standAt apos.atName
      let (f, first) ← holding [ov] (do pure (← getAttr ov name true, []))
      let cp ← (pure pos : Sem Pos)
      callWith cp f first (backTo pos (starEach [.Starred e p] env)) []) := by rfl) :
    wpAny M A (eval (.Call (.Attribute o name apos) [.Starred e p] [] pos) env) Q E s := by
  rw [he]
  refine wpAny_bind (wpAny_mono h (fun ov s₁ h₁ => wpAny_bind (wpAny_standAt (wpAny_bind (wpAny_holding (wpAny_bind (wpAny_mono h₁ (fun f s₂ h₂ => wpAny_pure ?_) fun _ _ x => x)))))) fun _ _ x => x)
  exact wpAny_bind (wpAny_pure h₂)
end
section
variable {prog : Program} {w : World} {A : Around} {E : Value → Shared → Prop} {s : Shared} {h₀ : Heap} {L : Addr} {m : Str → Option Value} {news : List (Addr × Obj)}
variable {sa dx la : Addr} {so : Obj} {ns : List Int}
theorem callWith_SM {K : Frag} {env : Env} {pos p : Pos} {e : Expr} {Q : Value → Shared → Prop} {q g : Addr} {self : Value} (_N : News h₀ L s.heap news) (_q : (q, methodObj (.ref g) self) ∈ news) (hf : fnIn K g = true)
    (h : wpAny (model prog w) A (eval e env) (fun v s₁ => StarOf (model prog w) A E v (fun vs s₂ => MethP K q g self s₂.heap ∧ wpAny (model prog w) A (call (.ref q) ([] ++ vs)) Q E s₂) s₁) E s)
    (he : starEach [.Starred e p] env = [(true, eval e env)] := by rfl) :
    wpAny (model prog w) A (callWith pos (.ref q) [] (backTo pos (starEach [.Starred e p] env)) []) Q E s := by
  rw [he]
  exact ks_call rfl (keeps_M hf) (ks_lone h)

theorem findObj_fn0 {K : Frag} {C f : Addr} {name : Str} {od : Obj} {g : Value} (hh : (clsIn K C).isSome = true) (ha : findIn K (.ref C) name = some (some (.ref f))) (hg : specialIn K (.ref f) "__get__" = some (some g)) (ht : takesIn K (.ref f) = some false) (hc : copiedNames.contains name = false) (hl : lookIn name od = some none) :
    findObj K C (some od) name = some (.bind g (.ref f)) := by
  obtain ⟨cd, hcd⟩ := Option.isSome_iff_exists.mp hh
  unfold findObj
  have ho : W.ownOf cd (some od) name = some none := by unfold W.ownOf; split <;> first | exact hl | rfl
  rw [hcd, Option.bind_some, ha, Option.bind_some]
  simp only [hg, ht, Option.bind_some, ho, hc, Bool.false_and, Bool.false_eq_true, if_false]
theorem o_bound {f : Addr} {name : Str} {expr : Bool} {Q : Value → Shared → Prop} (H : OSet so dx la ns) (F : Fr h₀ L s.heap m) (X₀ : (Mine.hd.heap_39 w.params).In h₀) (N : News h₀ L s.heap news) (hm : (sa, so) ∈ news) (hd : (dx, dictOf [] 0) ∈ news)
    (ha : findIn (Mine.hd.heap_39 w.params) (.ref 232) name = some (some (.ref f))) (hf : isFn (Mine.hd.heap_39 w.params) (.ref f) = true)
    (hgf : specialIn (Mine.hd.heap_39 w.params) (.ref f) "__get__" = some (some (.builtin "function.__get__"))) (ht : takesIn (Mine.hd.heap_39 w.params) (.ref f) = some false) (hc : copiedNames.contains name = false)
    (h : ∀ q h', Fr h₀ L h' m → News h₀ L h' ((q, methodObj (.ref f) (.ref sa)) :: news) → (∀ p ∈ news, p.1 < q) → Q (.ref q) { s with heap := h', toks := s.toks + 1 }) : wpAny (model prog w) A (getAttr (.ref sa) name expr) Q E s := by
  have J := H.inst F X₀ N hm hd
  have h' := h s.heap.objs.size _ (F.push _) (N.push F _) fun p hp => Heap.lt_size (N p hp).1
  clear h
  obtain ⟨hp, g, d, t, os⟩ := s
  have X := X₀.keeps F.keep
  have L0 := J.type (M := model prog w)
  have L1 := looks_findIn (M := model prog w) X c_ga
  have L2 := looks_findIn (M := model prog w) X c_gattr
  have LF := looks_find (M := model prog w) X J (findObj_fn0 c_isc ha hgf ht hc rfl)
  unfold getAttr getAttrBy
  refine wpAny_bind (wpAny_mkText (wpAny_holding (wpAny_bind (L0.at (wpAny_bind (L1.at ?_))))))
  dsimp only
  rw [if_neg (by rw [show (Value.builtin "set.__getattribute__" == Value.builtin "object.__getattribute__") = false from by decide +kernel, Bool.and_false]; exact Bool.false_ne_true)]
  unfold getAttrByItsOwn hookBefore
  rw [if_pos (show onTheHeap (.ref 232) = true from rfl)]
  refine wpAny_bind (L2.at ?_)
  refine wpAny_bind (wpAny_attempt (wpAny_holding ?_))
  unfold callGetattribute
  rw [if_neg (by rw [show onTheHeap (Value.builtin "set.__getattribute__") = false from rfl, Bool.and_false]; exact Bool.false_ne_true)]
  unfold boundAndCalled
  rw [PySem.F.slot_set_getattribute.bind]
  refine wpAny_bind (wpAny_pure ?_)
  show wpAny _ _ (call (.builtin "set.__getattribute__") [.ref sa, .str name t]) _ _ _
  refine callOn (s := ⟨hp, g, d, t + 1, os⟩) PySem.F.slot_set_getattribute.plain PySem.F.entry_set_ga (kind := .slot) (owner := "set") (n := "__getattribute__") (by kernel_rfl) (.inr rfl) (by kernel_rfl) (L0.andThen (looks_subIn X c_set)) (PySem.F.args_set_getattribute_2 _ _) ?_
  unfold Builtin.«object.__getattribute__»
  refine wpAny_bind (wpAny_pure (wpAny_bind (wpAny_pure (wpAny_bind (L0.at (wpAny_bind (LF.at ?_)))))))
  dsimp only
  show wpAny _ _ (holding [.ref f] (call (.builtin "function.__get__") [.ref f, .ref sa, .ref 232]) >>= ret) _ _ _
  refine wpAny_bind (wpAny_holding (wpAny_call (fn_get (s := ⟨hp, g, d, t + 1, os⟩) X (beq_iff_eq.mp hf) ?_)))
  refine wpAny_pure ⟨_, rfl, ?_⟩
  show wpAny _ _ (handedOut (.ref hp.objs.size)) _ _ _
  rw [handedOut_of rfl]
  exact wpAny_pure h'
end
end Mine
end
-- part M6
section
open PySem PySem.W PySem.Calls PyProof.Rows PySem.Spec
set_option maxRecDepth 100000
namespace Mine
local macro_rules | `(tactic| k_room) => `(tactic| (show _ < 1000; (try simp only [depth_mark, depth_under_make, depth_under_kw, depth_in1, depth_deeper, depth_caller]); (try dsimp only); omega))
local macro_rules | `(tactic| walk_at "getMethod type:set") => `(tactic| (k_here; refine' c_meth_type ?F ?X meta_set stub_set ?e ?h ?_; (case F => k_asm); (case X => k_asm); (case e => k_dflt k_is); (case h => k_handed)))
local macro_rules | `(tactic| k_mem) => `(tactic| (first | assumption | exact List.Mem.head _ | (refine List.Mem.tail _ ?_; k_mem)))
local macro_rules | `(tactic| walk_at "getMethod ref") => `(tactic| (k_here; k_dflt (refine' o_method ?H ?F ?X ?N ?m ?d ?e ?t ?_; (case F => k_asm); (case X => k_asm); (case N => k_asm); (case m => k_mem); (case H => assumption); (case d => k_mem); (case e => k_is); (case t => k_is))))
local macro_rules | `(tactic| walk_at "getAttr ref") => `(tactic| (k_here; (with_reducible show wpAny _ _ (getAttr (Value.ref _) (PySem.Str.ofString "_list") _) _ _ _); k_dflt (refine' o_list ?H ?F ?X ?N ?m ?d ?_; (case F => k_asm); (case X => k_asm); (case N => k_asm); (case m => k_mem); (case H => assumption); (case d => k_mem))))
local macro_rules | `(tactic| walk_at "call ref") => `(tactic| ((fail_if_success (rename NoTag => nt)); refine Tag.mk ?_))
section
variable {prog : Program} {w : World} {E : Value → Shared → Prop} {s : Shared}
variable {A₀ : Around} {base h₀ : Heap} {outer : List Env} {env : Env} {L : Addr} {m mg mb : Str → Option Value} {mean : ExcName → Option Value} {news : List (Addr × Obj)} {d u : Nat} {gs : Option (List Code)}
set_option maxHeartbeats 8000000 in
theorem union_ok {sa dx la t1 : Addr} {so : Obj} {vs ts : List Value} {c c' : Nat} {ns ms : List Int} {Q : Value → Shared → Prop} (hd : d < 800) (hu : u < 8000)
    (B : Below A₀ base outer h₀) (F : Fr h₀ L s.heap m) (X : (Mine.hd.heap_39 w.params).In h₀) (N : News h₀ L s.heap news)
    (T : Top Mine.hd.view_39 (looseW Mine.hd.view_39 [Str.ofString "OrderedSet", Str.ofString "_law_wrongs"]) mean mg mb h₀)
    (hf : env.frame = some L) (hke : env.scope.kind = .function) (H : OSet so dx la ns) (hv : IntsAre vs ns) (hn : ns.Nodup) (hrn : ∀ k ∈ ns, 0 ≤ k ∧ k < 12) (hsa : (sa, so) ∈ news) (hla : (la, listOf vs.toArray c) ∈ news) (hdx : (dx, dictOf [] 0) ∈ news) (ht : (t1, listOf ts.toArray c') ∈ news) (hm : IntsAre ts ms) (hr : ∀ k ∈ ms, 0 ≤ k ∧ k < 12)
    (hQ : ∀ x dx' l' so' vs' c' h' tk, OSet so' dx' l' (ms.foldl addN ns) → IntsAre vs' (ms.foldl addN ns) → Fr h₀ L h' m → News h₀ L h' ((x, so') :: (l', listOf vs'.toArray c') :: (dx', dictOf [] 0) :: news) → (∀ q ∈ news, q.1 < l') → l' < dx' → dx' < x → Q (.ref x) { s with heap := h', toks := tk }) :
    wpAny (model prog w) ⟨none, d, some (env :: outer), gs, u⟩ (call (.ref 149) [.ref sa, .ref t1]) Q E s := by
  obtain ⟨sc, lo, gl, ce, qu, fu, co, fr, bu⟩ := env
  obtain ⟨k1, k2, k3, k4, k5⟩ := sc
  dsimp only at hf hke
  subst hf hke
  have nt : NoTag := trivial
  k_steps
  clear nt
  rename_i D gg LL hh ln FG' F' N' B' X' T'
  refine kup_listOf (zs := vs) (by assumption) (by assumption) (.tail _ hla) (by simp) ?_ (by rw [sizeLine_eq]; simp; rw [hv.length]; have := H.len; omega)
  intro x0 c0 h₀' F₀ N₀ l0
  k_steps
  refine Tag.un ?_
  refine' from_ok ?a ?b ?B ?F ?X ?N ?T ?e ?k ?m ?i ?n ?r ?_
  (case B => k_asm)
  (case F => k_asm)
  (case X => k_asm)
  (case N => k_asm)
  (case T => k_asm)
  (case m => k_mem)
  (case i => assumption)
  (case n => assumption)
  (case r => assumption)
  (case e => exact rfl)
  (case k => exact rfl)
  (case a => (show d + 1 < 900; omega))
  (case b => (show u + 3 < 9000; omega))
  intro x1 dx1 so1 h1 tk1 H1 F1 N1 l2 l3
  have hx1 := l2
  have hx2 := l3
  k_steps
  refine starCall_ ?_
  k_steps
  refine o_bound (f := 135) H1 (by assumption) (by assumption) (by assumption) (by k_mem) (by k_mem) (by k_is) (by k_is) (by k_is) (by k_is) (by decide +kernel) ?_
  intro q hq Fq Nq lq
  refine callWith_SM (K := Mine.hd.heap_39 w.params) Nq (.head _) (by k_is) ?_
  k_steps
  refine Tag.un ?_
  rename News _ _ _ _ => NN
  rename Fr _ _ _ _ => FF
  refine call_meth NN (.head _) ?_
  have hr1 : ∀ p ∈ (q, methodObj (.ref 135) (.ref x1)) :: (dx1, dictOf [] 0) :: (D, { cls := .type "tuple", dict := none, data := .seq #[.ref t1] 0 }) :: news, p.1 ≠ x1 ∧ p.1 ≠ x0 := by
    intro p hp
    have h01 := hx1 (x0, _) (.head _)
    have hq1 := lq (x1, _) (.head _)
    have hD := l0 _ (.head _)
    simp only at h01 hq1 hD
    rcases List.mem_cons.mp hp with rfl | hp
    · exact ⟨Nat.ne_of_gt hq1, Nat.ne_of_gt (Nat.lt_trans h01 (Nat.lt_trans hx2 hq1))⟩
    rcases List.mem_cons.mp hp with rfl | hp
    · exact ⟨Nat.ne_of_lt hx2, Nat.ne_of_gt h01⟩
    rcases List.mem_cons.mp hp with rfl | hp
    · exact ⟨Nat.ne_of_lt (Nat.lt_trans hD (Nat.lt_trans h01 hx2)), Nat.ne_of_lt hD⟩
    · have := ln p hp
      exact ⟨Nat.ne_of_lt (Nat.lt_trans this (Nat.lt_trans hD (Nat.lt_trans h01 hx2))), Nat.ne_of_lt (Nat.lt_trans this hD)⟩
  refine update_okC (c := c0) (vs := vs) (ts := ts) (rest := (q, methodObj (.ref 135) (.ref x1)) :: (dx1, dictOf [] 0) :: _ :: news) (by show d + 1 < 900; omega) (by show u + 3 < 9000; omega) (by assumption) FF (by assumption) (News.sub NN ?_) (by assumption) rfl rfl H1 hv (.tail _ (.head _)) (.tail _ (.tail _ (.tail _ ht))) hm hr ?_ hr1 ?_
  · intro p hp
    simp only [List.mem_cons] at hp ⊢
    grind
  · have h01 := hx1 (x0, _) (.head _)
    exact Nat.ne_of_gt (Nat.lt_trans h01 hx2)
  intro so' vs' c' h₇ tk₇ H₇ hv₇ F₇ N₇
  k_steps
  rename_i kF kN _ _
  refine hQ x1 dx1 x0 so' vs' c' _ _ H₇ hv₇ kF (News.sub kN ?_) ?_ ?_ hx2
  · intro p hp
    simp only [List.mem_cons] at hp ⊢
    grind
  · intro p hp
    exact Nat.lt_trans (ln p hp) (l0 _ (.head _))
  · exact hx1 (x0, _) (.head _)
end
end Mine
end
-- part M7
section
open PySem PySem.W PySem.Calls PyProof.Rows PySem.Spec
set_option maxRecDepth 100000
namespace Mine
local macro_rules | `(tactic| k_room) => `(tactic| (show _ < 1000; (try simp only [depth_mark, depth_under_make, depth_under_kw, depth_in1, depth_deeper, depth_caller]); (try dsimp only); omega))
local macro_rules | `(tactic| walk_at "none such") => `(tactic| skip)
local macro_rules | `(tactic| walk_at "getMethod type:set") => `(tactic| (k_here; refine' c_meth_type ?F ?X meta_set stub_set ?e ?h ?_; (case F => k_asm); (case X => k_asm); (case e => k_dflt k_is); (case h => k_handed)))
local macro_rules | `(tactic| k_mem) => `(tactic| (first | assumption | exact List.Mem.head _ | (refine List.Mem.tail _ ?_; k_mem)))
local macro_rules | `(tactic| walk_at "getMethod ref") => `(tactic| (k_here; k_dflt (refine' o_method ?H ?F ?X ?N ?m ?d ?e ?t ?_; (case F => k_asm); (case X => k_asm); (case N => k_asm); (case m => k_mem); (case H => assumption); (case d => k_mem); (case e => k_is); (case t => k_is))))
local macro_rules | `(tactic| walk_at "getAttr ref") => `(tactic| (k_here; (with_reducible show wpAny _ _ (getAttr (Value.ref _) (PySem.Str.ofString "_list") _) _ _ _); k_dflt (refine' o_list ?H ?F ?X ?N ?m ?d ?_; (case F => k_asm); (case X => k_asm); (case N => k_asm); (case m => k_mem); (case H => assumption); (case d => k_mem))))
local macro_rules | `(tactic| walk_at "call ref") => `(tactic| ((fail_if_success (rename NoTag => nt)); refine Tag.mk ?_))
section
variable {prog : Program} {w : World} {E : Value → Shared → Prop} {s : Shared}
variable {A₀ : Around} {base h₀ : Heap} {outer : List Env} {env : Env} {L : Addr} {m mg mb : Str → Option Value} {mean : ExcName → Option Value} {news : List (Addr × Obj)} {d u : Nat} {gs : Option (List Code)}
set_option maxHeartbeats 8000000 in
theorem union_w {sa dx la t1 : Addr} {so : Obj} {vs ts more : List Value} {v : Value} {c c' : Nat} {ns ms : List Int} {Q : Value → Shared → Prop} (hd : d < 800) (hu : u < 8000)
    (B : Below A₀ base outer h₀) (F : Fr h₀ L s.heap m) (X : (Mine.hd.heap_39 w.params).In h₀) (N : News h₀ L s.heap news)
    (T : Top Mine.hd.view_39 (looseW Mine.hd.view_39 [Str.ofString "OrderedSet", Str.ofString "_law_wrongs"]) mean mg mb h₀)
    (hf : env.frame = some L) (hke : env.scope.kind = .function) (H : OSet so dx la ns) (hv : IntsAre vs ns) (hn : ns.Nodup) (hrn : ∀ k ∈ ns, 0 ≤ k ∧ k < 12) (hsa : (sa, so) ∈ news) (hla : (la, listOf vs.toArray c) ∈ news) (hdx : (dx, dictOf [] 0) ∈ news) (ht : (t1, listOf (ts ++ v :: more).toArray c') ∈ news) (hw : Wrong v) (hm : IntsAre ts ms) (hr : ∀ k ∈ ms, 0 ≤ k ∧ k < 12)
    (hE : RaisedTo base env outer h₀ L m news E s) :
    wpAny (model prog w) ⟨none, d, some (env :: outer), gs, u⟩ (call (.ref 149) [.ref sa, .ref t1]) Q E s := by
  obtain ⟨sc, lo, gl, ce, qu, fu, co, fr, bu⟩ := env
  obtain ⟨k1, k2, k3, k4, k5⟩ := sc
  dsimp only at hf hke
  subst hf hke
  have nt : NoTag := trivial
  k_steps
  clear nt
  rename_i D gg LL hh ln FG' F' N' B' X' T'
  refine kup_listOf (zs := vs) (by assumption) (by assumption) (.tail _ hla) (by simp) ?_ (by rw [sizeLine_eq]; simp; rw [hv.length]; have := H.len; omega)
  intro x0 c0 h₀' F₀ N₀ l0
  k_steps
  refine Tag.un ?_
  refine' from_ok ?a ?b ?B ?F ?X ?N ?T ?e ?k ?m ?i ?n ?r ?_
  (case B => k_asm)
  (case F => k_asm)
  (case X => k_asm)
  (case N => k_asm)
  (case T => k_asm)
  (case m => k_mem)
  (case i => assumption)
  (case n => assumption)
  (case r => assumption)
  (case e => exact rfl)
  (case k => exact rfl)
  (case a => (show d + 1 < 900; omega))
  (case b => (show u + 3 < 9000; omega))
  intro x1 dx1 so1 h1 tk1 H1 F1 N1 l2 l3
  have hx1 := l2
  have hx2 := l3
  k_steps
  refine starCall_ ?_
  k_steps
  refine o_bound (f := 135) H1 (by assumption) (by assumption) (by assumption) (by k_mem) (by k_mem) (by k_is) (by k_is) (by k_is) (by k_is) (by decide +kernel) ?_
  intro q hq Fq Nq lq
  refine callWith_SM (K := Mine.hd.heap_39 w.params) Nq (.head _) (by k_is) ?_
  k_steps
  refine Tag.un ?_
  rename News _ _ _ _ => NN
  rename Fr _ _ _ _ => FF
  refine call_meth NN (.head _) ?_
  have hr1 : ∀ p ∈ (q, methodObj (.ref 135) (.ref x1)) :: (dx1, dictOf [] 0) :: (D, { cls := .type "tuple", dict := none, data := .seq #[.ref t1] 0 }) :: news, p.1 ≠ x1 ∧ p.1 ≠ x0 := by
    intro p hp
    have h01 := hx1 (x0, _) (.head _)
    have hq1 := lq (x1, _) (.head _)
    have hD := l0 _ (.head _)
    simp only at h01 hq1 hD
    rcases List.mem_cons.mp hp with rfl | hp
    · exact ⟨Nat.ne_of_gt hq1, Nat.ne_of_gt (Nat.lt_trans h01 (Nat.lt_trans hx2 hq1))⟩
    rcases List.mem_cons.mp hp with rfl | hp
    · exact ⟨Nat.ne_of_lt hx2, Nat.ne_of_gt h01⟩
    rcases List.mem_cons.mp hp with rfl | hp
    · exact ⟨Nat.ne_of_lt (Nat.lt_trans hD (Nat.lt_trans h01 hx2)), Nat.ne_of_lt hD⟩
    · have := ln p hp
      exact ⟨Nat.ne_of_lt (Nat.lt_trans this (Nat.lt_trans hD (Nat.lt_trans h01 hx2))), Nat.ne_of_lt (Nat.lt_trans this hD)⟩
  refine update_wC (c := c0) (vs := vs) (ts := ts) (v := v) (more := more) (rest := (q, methodObj (.ref 135) (.ref x1)) :: (dx1, dictOf [] 0) :: _ :: news) (by show d + 1 < 900; omega) (by show u + 3 < 9000; omega) (by assumption) FF (by assumption) (News.sub NN ?_) (by assumption) rfl rfl H1 hv (.tail _ (.head _)) (.tail _ (.tail _ (.tail _ ht))) hw hm hr ?_ hr1 ?_
  · intro p hp
    simp only [List.mem_cons] at hp ⊢
    grind
  · have h01 := hx1 (x0, _) (.head _)
    exact Nat.ne_of_gt (Nat.lt_trans h01 hx2)
  intro so' vs' c' H₇ hv₇ g₂ h₇ tk₇ e F₇ R₇ U₇
  (try dsimp only)
  have kd : KtsDicts [] h₀ := ktsDicts_nil
  k_steps
  rename_i S' R' U'
  exact hE _ _ _ _ FG' (RaisedN.sub S' fun q hq => .tail _ (.tail _ (.tail _ (.tail _ (.tail _ hq))))) U'
end
end Mine
end
-- part M8
section
open PySem PySem.W PySem.Calls PyProof.Rows PySem.Spec
set_option maxRecDepth 100000
namespace Mine
local macro_rules | `(tactic| k_room) => `(tactic| (show _ < 1000; (try simp only [depth_mark, depth_under_make, depth_under_kw, depth_in1, depth_deeper, depth_caller]); (try dsimp only); omega))
local macro_rules | `(tactic| walk_at "getMethod type:set") => `(tactic| (k_here; refine' c_meth_type ?F ?X meta_set stub_set ?e ?h ?_; (case F => k_asm); (case X => k_asm); (case e => k_dflt k_is); (case h => k_handed)))
local macro_rules | `(tactic| k_mem) => `(tactic| (first | assumption | exact List.Mem.head _ | (refine List.Mem.tail _ ?_; k_mem)))
local macro_rules | `(tactic| walk_at "getMethod ref") => `(tactic| (k_here; k_dflt (refine' o_method ?H ?F ?X ?N ?m ?d ?e ?t ?_; (case F => k_asm); (case X => k_asm); (case N => k_asm); (case m => k_mem); (case H => assumption); (case d => k_mem); (case e => k_is); (case t => k_is))))
local macro_rules | `(tactic| walk_at "getAttr ref") => `(tactic| (k_here; (with_reducible show wpAny _ _ (getAttr (Value.ref _) (PySem.Str.ofString "_list") _) _ _ _); k_dflt (refine' o_list ?H ?F ?X ?N ?m ?d ?_; (case F => k_asm); (case X => k_asm); (case N => k_asm); (case m => k_mem); (case H => assumption); (case d => k_mem))))
local macro_rules | `(tactic| walk_at "call ref") => `(tactic| ((fail_if_success (rename NoTag => nt)); refine Tag.mk ?_))
section
variable {prog : Program} {w : World} {E : Value → Shared → Prop} {s : Shared}
variable {A₀ : Around} {base h₀ : Heap} {outer : List Env} {env : Env} {L : Addr} {m mg mb : Str → Option Value} {mean : ExcName → Option Value} {news : List (Addr × Obj)} {d u : Nat} {gs : Option (List Code)}
set_option maxHeartbeats 8000000 in
theorem class_ok {l : Addr} {vs : List Value} {c : Nat} {ms : List Int} {Q : Value → Shared → Prop} (hd : d < 800) (hu : u < 8000)
    (B : Below A₀ base outer h₀) (F : Fr h₀ L s.heap m) (X : (Mine.hd.heap_39 w.params).In h₀) (N : News h₀ L s.heap news)
    (T : Top Mine.hd.view_39 (looseW Mine.hd.view_39 [Str.ofString "OrderedSet", Str.ofString "_law_wrongs"]) mean mg mb h₀)
    (hf : env.frame = some L) (hke : env.scope.kind = .function) (hl : (l, listOf vs.toArray c) ∈ news) (hm : IntsAre vs ms) (hs : vs.length < 1000) (hr : ∀ k ∈ ms, 0 ≤ k ∧ k < 12)
    (hQ : ∀ x dx l' so ys c' h' tk, OSet so dx l' (ms.foldl addN []) → IntsAre ys (ms.foldl addN []) → Fr h₀ L h' m → News h₀ L h' ((x, so) :: (l', listOf ys.toArray c') :: (dx, dictOf [] 0) :: news) → (∀ q ∈ news, q.1 < dx) → dx < x → x < l' → Q (.ref x) { s with heap := h', toks := tk }) :
    wpAny (model prog w) ⟨none, d, some (env :: outer), gs, u⟩ (call (.ref 232) [.ref l]) Q E s := by
  refine call_O F X N ?_
  intro x dx h₁ led F₁ N₁ l1 l2
  obtain ⟨sc, lo, gl, ce, qu, fu, co, fr, bu⟩ := env
  obtain ⟨k1, k2, k3, k4, k5⟩ := sc
  dsimp only at hf hke
  subst hf hke
  k_enter
  k_steps
  refine Tag.un ?_
  rename News _ _ _ _ => NN
  rename Fr _ _ _ _ => FF
  rename Frag.In _ _ => XX
  rename Below _ _ _ _ => BB
  rename Top _ _ _ _ _ _ => TT
  refine unique_ok ?hd ?hu BB FF XX NN TT rfl rfl (.tail _ (.tail _ hl)) hm hs ?_
  case hd => (show _ + 1 < 900; simp only [depth_under_make]; (try dsimp only); omega)
  case hu => (have hk : Code.cUnits (.builtin "type.__call__" ⟨[.ref 232, .ref l], []⟩) ≤ 100 := Nat.le_of_ble_eq_true rfl; show u + Code.cUnits _ + 3 < 9000; omega)
  intro l' c₂ h₂ tk₂ ys hys F₂ N₂ l3
  k_steps
  refine o_set (led := led) F₂ XX (News.sub N₂ ?_ : News _ _ _ ((x, OObj dx led) :: (l', listOf ys.toArray c₂) :: (dx, dictOf [] 0) :: news)) (.tail _ (.head _)) ?_ ?_
  · intro p hp
    simp only [List.mem_cons] at hp ⊢
    grind
  · intro p hp
    rcases List.mem_cons.mp hp with rfl | hp
    · exact Nat.ne_of_gt (l3 (x, _) (.head _))
    rcases List.mem_cons.mp hp with rfl | hp
    · exact Nat.ne_of_lt l2
    · exact Nat.ne_of_lt (Nat.lt_trans (l1 p hp) l2)
  intro h₃ F₃ N₃
  have H₃ := oset_fresh dx l' led
  k_steps
  have ha : ∀ p ∈ (l', listOf ys.toArray c₂) :: (dx, dictOf [] 0) :: news, p.1 ≠ x := by
    intro p hp
    rcases List.mem_cons.mp hp with rfl | hp
    · exact Nat.ne_of_gt (l3 (x, _) (.head _))
    rcases List.mem_cons.mp hp with rfl | hp
    · exact Nat.ne_of_lt l2
    · exact Nat.ne_of_lt (Nat.lt_trans (l1 p hp) l2)
  have hnd := foldAdd_nodup ms [] List.nodup_nil
  have hrr : ∀ k ∈ ms.foldl addN [], 0 ≤ k ∧ k < 12 := foldAdd_range (by simp) hr
  refine o_init rfl (by assumption) XX (by assumption) ha (.head _) hys hrr ?_
  intro h₅ tk₅ so₅ H₅ F₅ N₅
  rw [foldAdd_nil hnd] at H₅
  k_steps
  rename_i kF kN _ _
  exact hQ x dx l' so₅ ys c₂ _ _ H₅ hys kF kN l1 l2 (l3 (x, _) (.head _))
end
end Mine
end
-- part M9
section
open PySem PySem.W PySem.Calls PyProof.Rows PySem.Spec
set_option maxRecDepth 100000
namespace Mine
local macro_rules | `(tactic| k_room) => `(tactic| (show _ < 1000; (try simp only [depth_mark, depth_under_make, depth_under_kw, depth_in1, depth_deeper, depth_caller]); (try dsimp only); omega))
local macro_rules | `(tactic| walk_at "none such") => `(tactic| skip)
local macro_rules | `(tactic| walk_at "getMethod type:set") => `(tactic| (k_here; refine' c_meth_type ?F ?X meta_set stub_set ?e ?h ?_; (case F => k_asm); (case X => k_asm); (case e => k_dflt k_is); (case h => k_handed)))
local macro_rules | `(tactic| k_mem) => `(tactic| (first | assumption | exact List.Mem.head _ | (refine List.Mem.tail _ ?_; k_mem)))
local macro_rules | `(tactic| walk_at "getMethod ref") => `(tactic| (k_here; k_dflt (refine' o_method ?H ?F ?X ?N ?m ?d ?e ?t ?_; (case F => k_asm); (case X => k_asm); (case N => k_asm); (case m => k_mem); (case H => assumption); (case d => k_mem); (case e => k_is); (case t => k_is))))
local macro_rules | `(tactic| walk_at "getAttr ref") => `(tactic| (k_here; (with_reducible show wpAny _ _ (getAttr (Value.ref _) (PySem.Str.ofString "_list") _) _ _ _); k_dflt (refine' o_list ?H ?F ?X ?N ?m ?d ?_; (case F => k_asm); (case X => k_asm); (case N => k_asm); (case m => k_mem); (case H => assumption); (case d => k_mem))))
local macro_rules | `(tactic| walk_at "call ref") => `(tactic| ((fail_if_success (rename NoTag => nt)); refine Tag.mk ?_))
section
variable {prog : Program} {w : World} {E : Value → Shared → Prop} {s : Shared}
variable {A₀ : Around} {base h₀ : Heap} {outer : List Env} {env : Env} {L : Addr} {m mg mb : Str → Option Value} {mean : ExcName → Option Value} {news : List (Addr × Obj)} {d u : Nat} {gs : Option (List Code)}
set_option maxHeartbeats 8000000 in
theorem class_w {l : Addr} {vs more : List Value} {v : Value} {c : Nat} {ms : List Int} {Q : Value → Shared → Prop} (hd : d < 800) (hu : u < 8000)
    (B : Below A₀ base outer h₀) (F : Fr h₀ L s.heap m) (X : (Mine.hd.heap_39 w.params).In h₀) (N : News h₀ L s.heap news)
    (T : Top Mine.hd.view_39 (looseW Mine.hd.view_39 [Str.ofString "OrderedSet", Str.ofString "_law_wrongs"]) mean mg mb h₀)
    (hf : env.frame = some L) (hke : env.scope.kind = .function) (hl : (l, listOf (vs ++ v :: more).toArray c) ∈ news) (hw : Wrong v) (hm : IntsAre vs ms) (hs : vs.length < 1000)
    (hE : RaisedTo base env outer h₀ L m news E s) :
    wpAny (model prog w) ⟨none, d, some (env :: outer), gs, u⟩ (call (.ref 232) [.ref l]) Q E s := by
  refine call_O F X N ?_
  intro x dx h₁ led F₁ N₁ l1 l2
  obtain ⟨sc, lo, gl, ce, qu, fu, co, fr, bu⟩ := env
  obtain ⟨k1, k2, k3, k4, k5⟩ := sc
  dsimp only at hf hke
  subst hf hke
  k_enter
  k_steps
  refine Tag.un ?_
  rename News _ _ _ _ => NN
  rename Fr _ _ _ _ => FF
  rename Frag.In _ _ => XX
  rename Below _ _ _ _ => BB
  rename Top _ _ _ _ _ _ => TT
  refine unique_w ?hd ?hu BB FF XX NN TT rfl rfl (.tail _ (.tail _ hl)) hm hs hw ?_
  case hd => (show _ + 1 < 900; simp only [depth_under_make]; (try dsimp only); omega)
  case hu => (have hk : Code.cUnits (.builtin "type.__call__" ⟨[.ref 232, .ref l], []⟩) ≤ 100 := Nat.le_of_ble_eq_true rfl; show u + Code.cUnits _ + 3 < 9000; omega)
  rename Fr h₀ L _ m => FG'
  intro g₂ h₇ tk₇ e F₇ R₇ U₇
  (try dsimp only)
  have kd : KtsDicts [] h₀ := ktsDicts_nil
  k_steps
  rename_i S' R' U'
  exact hE _ _ _ _ FG' (RaisedN.sub S' fun q hq => .tail _ (.tail _ hq)) U'
end
end Mine
end
-- part Q1
section
open PySem PySem.W PySem.Calls PyProof.Rows PySem.Spec Builtin
set_option maxRecDepth 100000
namespace Mine
section
variable {prog : Program} {w : World} {A : Around} {E : Value → Shared → Prop} {s : Shared} {a : Addr} {o : Obj} {es : Array (Int × Value)} {ep : Nat} {t : SetTable} {ns : List Int}
theorem len_O {Q : Value → Shared → Prop} (I : IsO s w a o) (hd : o.data = .set es ep t) (hf : t.fits es.size = true) (hfit : (es.size : Int) < 2 ^ 63)
    (h : Q (.int es.size (s.toks + 1)) { s with toks := s.toks + 1 + 1 }) : wpAny (model prog w) A (call (.builtin "len") [.ref a]) Q E s := by
  refine Calls.call_function_entry kind_len plain_len entry_len (args_len1 _) ?_
  unfold Builtin.«len»
  refine wpAny_bind (m := oneArg "len" _) (wpAny_pure ?_)
  refine wpAny_bind (m := callSpecial? (.ref a) (Str.ofString "__len__")) ?_
  · unfold callSpecial?
    refine wpAny_bind (m := specialOf _ _) (wpAny_bind (I.type.here ((looks_findIn I.X c_len).here ?_)))
    dsimp only
    refine wpAny_holding ?_
    rw [PySem.F.slot_set_len.bind]
    refine wpAny_bind (wpAny_pure ?_)
    refine wpAny_bind ?_
    refine callO I p_len en_len kd_len (.inr rfl) sp_len (ar_len _) ?_
    unfold Builtin.«frozenset.__len__» Builtin.Frozenset.slot0 slotArgs
    simp only [List.isEmpty_nil, Bool.not_true, Bool.false_eq_true, ↓reduceIte, bind_assoc, List.length_nil, bne_self_eq_false]
    unfold Builtin.Frozenset.addrOf Builtin.Frozenset.sizeOf
    refine wpAny_bind (wpAny_pure ?_)
    try dsimp only
    refine wpAny_bind (wpAny_pure ?_)
    refine wpAny_bind (wpAny_bind (wpAny_setEntries_of I.get hd hf (wpAny_pure ?_)))
    show wpAny _ _ (retInt _) _ _ _
    unfold retInt
    refine wpAny_bind (wpAny_mkInt (wpAny_pure ⟨_, rfl, ?_⟩))
    refine wpAny_pure ?_
    refine wpAny_bind (wpAny_holding (wpAny_pure ?_))
    refine wpAny_bind (wpAny_letGo ?_)
    show wpAny _ _ (if ((es.size : Nat) : Int) < 0 then _ else _) _ _ _
    rw [if_neg (by omega)]
    show wpAny _ _ (if ((es.size : Nat) : Int) ≥ 2 ^ 63 then _ else _) _ _ _
    rw [if_neg (by omega)]
    exact wpAny_bind (wpAny_mkInt (wpAny_pure ⟨_, rfl, h⟩))
end
section
variable {prog : Program} {w : World} {A : Around} {E : Value → Shared → Prop} {s : Shared} {h₀ : Heap} {L : Addr} {m : Str → Option Value} {news : List (Addr × Obj)}
variable {sa dx la : Addr} {so : Obj} {ns : List Int}
theorem o_len {Q : Value → Shared → Prop} (H : OSet so dx la ns) (F : Fr h₀ L s.heap m) (X : (Mine.hd.heap_39 w.params).In h₀) (N : News h₀ L s.heap news) (hm : (sa, so) ∈ news)
    (h : Q (.int ns.length (s.toks + 1)) { s with toks := s.toks + 1 + 1 }) : wpAny (model prog w) A (call (.builtin "len") [.ref sa]) Q E s := by
  have I := H.isO F X N hm
  obtain ⟨es, ep, t, hd, G⟩ := H.data
  have := G.size
  refine len_O I hd G.tab.fits (by omega) ?_
  rw [G.tab.size]; exact h
abbrev LIt (l : Addr) : Obj := { cls := .type "list_iterator", data := .fields #[.ref l, .int 0 0] }
theorem call_iter_list {l : Addr} {items : Array Value} {c : Nat} {Q : Value → Shared → Prop} (F : Fr h₀ L s.heap m) (N : News h₀ L s.heap news) (hl : (l, listOf items c) ∈ news)
    (h : ∀ I h', Fr h₀ L h' m → News h₀ L h' ((I, LIt l) :: news) → (∀ p ∈ news, p.1 < I) → Q (.ref I) { s with heap := h' }) : wpAny (model prog w) A (call (.builtin "iter") [.ref l]) Q E s := by
  refine call_function_entry (by decide +kernel) (by decide +kernel) kdk_entry_iter (kdk_args_iter _) ?_
  unfold Builtin.«iter»
  refine wpAny_bind (m := someArgs "iter" 1 2 _) (wpAny_of_eq (a := [Value.ref l]) (by first | rfl | kernel_rfl!) ?_)
  refine wpAny_bind (wpAny_pyIter_list ⟨_, (N _ hl).1, rfl, c, rfl⟩ (wpAny_pure ⟨_, rfl, ?_⟩))
  exact h _ _ (F.push _) (N.push F (LIt l)) fun p hp => Heap.lt_size (N p hp).1
end
end Mine
end
-- part M10
section
open PySem PySem.W PySem.Calls PyProof.Rows PySem.Spec
set_option maxRecDepth 100000
namespace Mine
local macro_rules | `(tactic| k_room) => `(tactic| (show _ < 1000; (try simp only [depth_mark, depth_under_make, depth_under_kw, depth_in1, depth_deeper, depth_caller]); (try dsimp only); omega))
local macro_rules | `(tactic| walk_at "getMethod type:set") => `(tactic| (k_here; refine' c_meth_type ?F ?X meta_set stub_set ?e ?h ?_; (case F => k_asm); (case X => k_asm); (case e => k_dflt k_is); (case h => k_handed)))
local macro_rules | `(tactic| k_mem) => `(tactic| (first | assumption | exact List.Mem.head _ | (refine List.Mem.tail _ ?_; k_mem)))
local macro_rules | `(tactic| walk_at "getMethod ref") => `(tactic| (k_here; k_dflt (refine' o_method ?H ?F ?X ?N ?m ?d ?e ?t ?_; (case F => k_asm); (case X => k_asm); (case N => k_asm); (case m => k_mem); (case H => assumption); (case d => k_mem); (case e => k_is); (case t => k_is))))
local macro_rules | `(tactic| walk_at "getAttr ref") => `(tactic| (k_here; (with_reducible show wpAny _ _ (getAttr (Value.ref _) (PySem.Str.ofString "_list") _) _ _ _); k_dflt (refine' o_list ?H ?F ?X ?N ?m ?d ?_; (case F => k_asm); (case X => k_asm); (case N => k_asm); (case m => k_mem); (case H => assumption); (case d => k_mem))))
local macro_rules | `(tactic| walk_at "call ref") => `(tactic| ((fail_if_success (rename NoTag => nt)); refine Tag.mk ?_))
section
variable {prog : Program} {w : World} {E : Value → Shared → Prop} {s : Shared}
variable {A₀ : Around} {base h₀ : Heap} {outer : List Env} {env : Env} {L : Addr} {m mg mb : Str → Option Value} {mean : ExcName → Option Value} {news : List (Addr × Obj)} {d u : Nat} {gs : Option (List Code)}
set_option maxHeartbeats 8000000 in
theorem iter_ok {sa dx la : Addr} {so : Obj} {vs : List Value} {c : Nat} {ns : List Int} {Q : Value → Shared → Prop} (hd : d < 900) 
    (B : Below A₀ base outer h₀) (F : Fr h₀ L s.heap m) (X : (Mine.hd.heap_39 w.params).In h₀) (N : News h₀ L s.heap news)
    (T : Top Mine.hd.view_39 (looseW Mine.hd.view_39 [Str.ofString "OrderedSet", Str.ofString "_law_wrongs"]) mean mg mb h₀)
    (hf : env.frame = some L) (hke : env.scope.kind = .function) (H : OSet so dx la ns) (hsa : (sa, so) ∈ news) (hla : (la, listOf vs.toArray c) ∈ news) (hdx : (dx, dictOf [] 0) ∈ news)
    (hQ : ∀ I h' tk, Fr h₀ L h' m → News h₀ L h' ((I, LIt la) :: news) → (∀ q ∈ news, q.1 < I) → Q (.ref I) { s with heap := h', toks := tk }) :
    wpAny (model prog w) ⟨none, d, some (env :: outer), gs, u⟩ (call (.ref 114) [.ref sa]) Q E s := by
  obtain ⟨sc, lo, gl, ce, qu, fu, co, fr, bu⟩ := env
  obtain ⟨k1, k2, k3, k4, k5⟩ := sc
  dsimp only at hf hke
  subst hf hke
  refine wpAny_call ?_
  k_enter
  k_steps
  refine call_iter_list (by assumption) (by assumption) hla ?_
  intro I h₁ F₁ N₁ l1
  k_steps
  rename_i kF kN _ _
  exact hQ I _ _ kF kN l1

theorem extloop_ok {S I la : Addr} {vs : List Value} {c c₁ : Nat} {A : Around} {R : Result → Shared → Prop} (hh : A.handled = none) (F : Fr h₀ L s.heap m) (N : News h₀ L s.heap ((I, LIt la) :: (S, listOf #[] c₁) :: news)) (hla : (la, listOf vs.toArray c) ∈ news) (hz : vs.length ≤ 12) (l0 : ∀ q ∈ news, q.1 < S) (l1 : S < I)
    (hR : ∀ c' h' tk, Fr h₀ L h' m → News h₀ L h' ((S, listOf vs.toArray c') :: news) → R (.ok (.ret .none)) { s with heap := h', toks := tk }) :
    codeAny (model prog w) A (.builtin "list.extend.loop" ⟨[.ref S, .ref I, .none], []⟩) R s := by
  have hlaS := l0 _ hla
  have W := (Walks.list (prog := prog) (w := w) (A := A.in1) hh I la (Nat.ne_of_lt (Nat.lt_trans hlaS l1)) vs.toArray).toS
  have nI := N (I, _) (.head _)
  have nS := N (S, _) (.tail _ (.head _))
  refine codeAny_extend_loopS W (by rw [sizeLine_eq]; simp; omega) S (by simp; exact ⟨Nat.ne_of_lt l1, Nat.ne_of_gt hlaS⟩) .none vs.toArray.size 0 s #[] c₁ (by omega) (Nat.zero_le _) ⟨⟨_, nI.1, rfl, rfl⟩, ⟨_, (N _ (.tail _ (.tail _ hla))).1, rfl, c, rfl⟩⟩ nS.1 (ItemsOf.nil _) ?_
  rintro ⟨h', g', d', tk', os'⟩ acc' c' hm hS' hacc
  obtain ⟨k1, k2, k3, k4, k5⟩ := hm
  cases k2; cases k3; cases k4
  have e : acc' = vs.toArray := by
    refine Array.ext hacc.1 fun j hj hj' => ?_
    have := hacc.2 j acc'[j] (by simp [hj])
    have h2 : vs.toArray[j]? = some acc'[j] := this
    rw [Array.getElem?_eq_getElem hj'] at h2
    exact (Option.some.inj h2).symm
  subst e
  have hk : ∀ b o, b ≠ S → b ≠ I → s.heap.get? b = some o → h'.get? b = some o := fun b o h1 h2 => k1 b o (by simp [h1, h2])
  refine hR c' h' tk' ⟨F.ns.at' fun o e => hk L o (Ne.symm nS.2.1) (Ne.symm nI.2.1) e, fun b o e => hk b o (fun q => ?_) (fun q => ?_) (F.keep b o e), F.above⟩ fun p hp => ?_
  · have := nS.2.2; rw [← q, e] at this; cases this
  · have := nI.2.2; rw [← q, e] at this; cases this
  · rcases List.mem_cons.mp hp with rfl | hp
    · exact ⟨hS', nS.2⟩
    · have z := N p (.tail _ (.tail _ hp))
      exact ⟨hk _ _ (Nat.ne_of_lt (l0 p hp)) (Nat.ne_of_lt (Nat.lt_trans (l0 p hp) l1)) z.1, z.2⟩

set_option maxHeartbeats 8000000 in
theorem ext_ok {S sa dx la : Addr} {so : Obj} {vs : List Value} {c c₁ : Nat} {ns : List Int} {A : Around} {R : Result → Shared → Prop} (hd : d < 900) (hh : A.handled = none)
    (B : Below A₀ base outer h₀) (F : Fr h₀ L s.heap m) (X : (Mine.hd.heap_39 w.params).In h₀) (N : News h₀ L s.heap ((S, listOf #[] c₁) :: news))
    (T : Top Mine.hd.view_39 (looseW Mine.hd.view_39 [Str.ofString "OrderedSet", Str.ofString "_law_wrongs"]) mean mg mb h₀)
    (hf : env.frame = some L) (hke : env.scope.kind = .function) (H : OSet so dx la ns) (hsa : (sa, so) ∈ news) (hla : (la, listOf vs.toArray c) ∈ news) (hdx : (dx, dictOf [] 0) ∈ news) (hv : IntsAre vs ns) (l0 : ∀ q ∈ news, q.1 < S)
    (hA : A.in1 = ⟨none, d, some (env :: outer), gs, u⟩)
    (hR : ∀ c' h' tk, Fr h₀ L h' m → News h₀ L h' ((S, listOf vs.toArray c') :: news) → R (.ok (.ret .none)) { s with heap := h', toks := tk }) :
    wpAny (model prog w) A.in1 (Builtin.List.listExtendWith (.ref S) (.ref sa) .none)
      (fun fin s' => match fin with | .done f => R (.ok f) s' | .again c' => c'.quiet = true ∧ codeAny (model prog w) A c' R s') (fun e s' => R (.error e) s') s := by
  have hlen := H.len
  have hvl := hv.length
  have hne : sa ≠ S := Nat.ne_of_lt (l0 _ hsa)
  have I₂ := H.isO F X N (.tail _ hsa)
  unfold Builtin.List.listExtendWith
  refine wpAny_bind (I₂.type.here ?_)
  have hc1 : (Builtin.List.listSameRef (.ref S) (.ref sa) || Value.ref 232 == Value.type "list" || Value.ref 232 == Value.type "tuple") = false := by
    simp [Builtin.List.listSameRef, Ne.symm hne]
  rw [hc1, if_neg Bool.false_ne_true]
  refine wpAny_bind (owit_iter F X (H.inst F X N (.tail _ hsa) (.tail _ hdx)) (f := 114) (by k_is) (by k_is) ?_)
  rw [hA]
  refine iter_ok hd B F X N T hf hke H (.tail _ hsa) (.tail _ hla) (.tail _ hdx) ?_
  rw [← hA]
  intro I h₃ tk₃ F₃ N₃ l3
  unfold OwitIt
  refine wpAny_specialOf (T := "list_iterator") ⟨_, (N₃ _ (.head _)).1, rfl⟩ PySem.slot_listiter_next.lookup ?_
  dsimp only
  have I₃ := H.isO (s := { s with heap := h₃, toks := tk₃ }) F₃ X N₃ (.tail _ (.tail _ hsa))
  refine wpAny_bind (wpAny_holding ?_)
  unfold Builtin.List.listLengthHint
  refine wpAny_bind (m := specialOf _ _) (wpAny_bind (I₃.type.here ((looks_findIn I₃.X c_len).here ?_)))
  dsimp only
  rw [sp_len]
  dsimp only
  refine wpAny_bind (I₃.set.here ?_)
  rw [if_neg (by decide), if_pos (by decide +kernel)]
  refine wpAny_bind (I₃.type.here ?_)
  dsimp only
  refine wpAny_bind (o_len (s := { s with heap := h₃, toks := tk₃ }) H F₃ X N₃ (.tail _ (.tail _ hsa)) ?_)
  refine wpAny_bind (m := asInt? _) (wpAny_pure ?_)
  refine wpAny_pure ?_
  have l31 := l3 _ (.head _)
  have fin : ∀ (h₄ : Heap) (c₄ tk₄ : Nat), Fr h₀ L h₄ m → News h₀ L h₄ ((I, LIt la) :: (S, listOf #[] c₄) :: news) → wpAny (model prog w) A.in1 (again (.builtin "list.extend.loop" ⟨[.ref S, .ref I, .none], []⟩))
      (fun fin s' => match fin with | .done f => R (.ok f) s' | .again c' => c'.quiet = true ∧ codeAny (model prog w) A c' R s') (fun e s' => R (.error e) s') { s with heap := h₄, toks := tk₄ } := fun h₄ c₄ tk₄ F₄ N₄ =>
    wpAny_pure ⟨plainId_quiet PySem.F.plain_extend_loop _, extloop_ok (s := { s with heap := h₄, toks := tk₄ }) hh F₄ N₄ hla (by omega) l0 l31 fun c' h' tk F' N' => hR c' h' tk F' N'⟩
  split
  · refine wpAny_bind (wpAny_rule ?_)
    refine wpAny_bind ?_
    show wpAny _ A.in1 (updateSeq S (·.push .none) >>= fun _ => updateSeq S (·.pop)) _ _ _
    have hS := (N₃ (S, _) (.tail _ (.head _)))
    refine wpAny_bind (wpAny_updateSeq hS.1 rfl ?_)
    have hS₂ := Heap.get?_update_self (Obj.mapSeq (·.push Value.none)) hS.1 rfl
    refine wpAny_updateSeq (hz := by seq_fits) hS₂ rfl ?_
    have hS₃ := Heap.get?_update_self (Obj.mapSeq (·.pop)) hS₂ rfl
    obtain ⟨c₄, hS₄⟩ : ∃ c₄, ((h₃.update S (Obj.mapSeq (·.push Value.none))).update S (Obj.mapSeq (·.pop))).get? S = some (listOf #[] c₄) := ⟨_, by simpa [Obj.mapSeq] using hS₃⟩
    have hsb := (Heap.SameBut.update h₃ S (Obj.mapSeq (·.push Value.none))).trans (Heap.SameBut.update _ S (Obj.mapSeq (·.pop)))
    refine fin _ c₄ _ (F₃.change hsb hS.2.1 hS.2.2) (news_set (pre := [(I, _)]) N₃ (fun p hp => ?_) (fun p hp => Nat.ne_of_lt (l0 p hp)) hsb hS₄)
    rw [List.mem_singleton.mp hp]; exact Nat.ne_of_gt l31
  · exact fin _ _ _ F₃ N₃

set_option maxHeartbeats 8000000 in
theorem list_ok {sa dx la : Addr} {so : Obj} {vs : List Value} {c : Nat} {ns : List Int} {Q : Value → Shared → Prop} (hd : d < 800) 
    (B : Below A₀ base outer h₀) (F : Fr h₀ L s.heap m) (X : (Mine.hd.heap_39 w.params).In h₀) (N : News h₀ L s.heap news)
    (T : Top Mine.hd.view_39 (looseW Mine.hd.view_39 [Str.ofString "OrderedSet", Str.ofString "_law_wrongs"]) mean mg mb h₀)
    (hf : env.frame = some L) (hke : env.scope.kind = .function) (H : OSet so dx la ns) (hsa : (sa, so) ∈ news) (hla : (la, listOf vs.toArray c) ∈ news) (hdx : (dx, dictOf [] 0) ∈ news) (hv : IntsAre vs ns)
    (hQ : ∀ D c' h' tk, Fr h₀ L h' m → News h₀ L h' ((D, listOf vs.toArray c') :: news) → (∀ q ∈ news, q.1 < D) → Q (.ref D) { s with heap := h', toks := tk }) :
    wpAny (model prog w) ⟨none, d, some (env :: outer), gs, u⟩ (call (.type "list") [.ref sa]) Q E s := by
  have hlen := H.len
  have hvl := hv.length
  have hne : sa ≠ s.heap.objs.size := fun e => Nat.lt_irrefl _ (e ▸ Heap.lt_size (N _ hsa).1)
  refine callType_codes (Q₁ := fun obj s₁ => obj = .ref s.heap.objs.size ∧ s₁ = { s with heap := s.heap.push { cls := .type "list", data := .seq #[] } }) PySem.F.called_list (PySem.F.typeCall_list_1 _) PySem.F.entry_list_init
    (code_list_new _ ⟨rfl, rfl⟩) fun obj s₁ h₁ => ?_
  obtain ⟨rfl, rfl⟩ := h₁
  have l0 : ∀ q ∈ news, q.1 < s.heap.objs.size := fun q hq => Heap.lt_size (N q hq).1
  have F₁ : Fr h₀ L (s.heap.push (listOf #[] 0)) m := F.push _
  have N₁ : News h₀ L (s.heap.push (listOf #[] 0)) ((s.heap.objs.size, listOf #[] 0) :: news) := N.push F (listOf #[] 0)
  have hS : (s.heap.push { cls := .type "list", data := .seq #[] }).get? s.heap.objs.size = some { cls := .type "list", data := .seq #[] } := Heap.get?_push_size _ rfl
  refine ⟨⟨_, hS, rfl⟩, PySem.F.args_list_init_2 _ _, ?_⟩
  generalize hSn : s.heap.objs.size = S at *
  show wpAny _ _ (do let old ← Builtin.List.listItems (.ref S); Builtin.List.listUpdate (.ref S) (fun _ => #[]); letGo old.toList.reverse; Builtin.List.listExtendWith (.ref S) (.ref sa) .none) _ _ _
  refine wpAny_bind ?_
  unfold Builtin.List.listItems
  refine wpAny_bind (wpAny_seqItems hS rfl (wpAny_pure ?_))
  show wpAny _ _ (updateSeq S (fun _ => #[]) >>= fun _ => letGo (#[] : Array Value).toList.reverse >>= fun _ => Builtin.List.listExtendWith (.ref S) (.ref sa) .none) _ _ _
  refine wpAny_bind (wpAny_updateSeq hS rfl ?_)
  have hS₂ := Heap.get?_update_self (Obj.mapSeq (fun _ => (#[] : Array Value))) hS rfl
  have F₂ := F₁.change (Heap.SameBut.update _ S (Obj.mapSeq (fun _ => (#[] : Array Value)))) (N₁ _ (.head _)).2.1 (N₁ _ (.head _)).2.2
  obtain ⟨c₁, hS₃⟩ : ∃ c₁, ((s.heap.push (listOf #[] 0)).update S (Obj.mapSeq (fun _ => (#[] : Array Value)))).get? S = some (listOf #[] c₁) := ⟨_, by simpa [Obj.mapSeq] using hS₂⟩
  have N₂ := news_set (pre := []) N₁ (fun _ h => nomatch h) (fun p hp => Nat.ne_of_lt (l0 p hp)) (Heap.SameBut.update _ S (Obj.mapSeq (fun _ => (#[] : Array Value)))) hS₃
  refine wpAny_bind (wpAny_letGo ?_)
  refine ext_ok (env := env) (outer := outer) (s := ⟨_, _, _, _, _⟩) (by first | (show d < 900; omega) | (show d + 1 < 900; omega)) rfl B F₂ X N₂ T hf hke H hsa hla hdx hv l0 rfl ?_
  intro c' h' tk F' N'
  exact ⟨rfl, hQ S c' _ _ F' N' l0⟩
end
end Mine
end
-- part Q2
section
open PySem PySem.W PySem.Calls PyProof.Rows PySem.Spec Builtin Builtin.Frozenset
set_option maxRecDepth 100000
namespace Mine
section
variable {prog : Program} {w : World} {A : Around} {E : Value → Shared → Prop} {s : Shared} {a b : Addr} {o o2 : Obj} {es es2 : Array (Int × Value)} {ep ep2 : Nat} {t t2 : SetTable} {ns ns2 : List Int}
theorem quiet_int {e : Value} {Q : Bool → Shared → Prop} (h : ∃ k tk, e = .int k tk) (hq : Q true s) : wpAny (model prog w) A (Builtin.Frozenset.quietEq e) Q E s := by
  obtain ⟨k, tk, rfl⟩ := h
  exact wpAny_pure hq

theorem subset_same {id : String} {Q : Bool → Shared → Prop} (ha : s.heap.get? a = some o) (hb : s.heap.get? b = some o2) (hd : o.data = .set es ep t) (hd2 : o2.data = .set es2 ep2 t2) (H : Tab es t ns) (H2 : Tab es2 t2 ns) (hq : Q true s) :
    wpAny (model prog w) A (subsetOf id a b) Q E s := by
  have hsz : es.size = es2.size := by rw [H.size, H2.size]
  have hints : ∀ e ∈ es.toList ++ es2.toList, ∃ k tk, e.2 = .int k tk := fun e he => by
    rcases List.mem_append.mp he with he | he
    · obtain ⟨k, tk, h1, _⟩ := H.els e he; exact ⟨k, tk, h1⟩
    · obtain ⟨k, tk, h1, _⟩ := H2.els e he; exact ⟨k, tk, h1⟩
  unfold subsetOf
  refine wpAny_bind (m := sizeOf a) (wpAny_bind (wpAny_setEntries_of ha hd H.fits (wpAny_pure ?_)))
  refine wpAny_bind (m := sizeOf b) (wpAny_bind (wpAny_setEntries_of hb hd2 H2.fits (wpAny_pure ?_)))
  rw [if_neg (by omega)]
  unfold setEpoch
  refine wpAny_bind (wpAny_bind (wpAny_setState_of ha hd H.fits (wpAny_pure ?_)))
  refine wpAny_bind (m := Builtin.Frozenset.walkUnseen a b) ?_
  unfold Builtin.Frozenset.walkUnseen
  refine wpAny_bind (wpAny_setEntries_of ha hd H.fits ?_)
  refine wpAny_bind (wpAny_setEntries_of hb hd2 H2.fits ?_)
  refine wpAny_bind ?_
  refine wpAny_forIn_list _ (fun l r s' => r = (none, ()) ∧ s = s' ∧ ∀ e ∈ l, ∃ k tk, e.2 = Value.int k tk) _ ?_ ?_ _ _ ⟨rfl, rfl, hints⟩
  · rintro ⟨h, x⟩ rest r s' ⟨rfl, rfl, hl⟩
    dsimp only
    refine wpAny_bind (quiet_int (hl _ (.head _)) ?_)
    exact wpAny_pure (a := ForInStep.yield (none, ())) ⟨rfl, rfl, fun e he => hl e (.tail _ he)⟩
  rintro r s' ⟨rfl, rfl, -⟩
  dsimp only
  refine wpAny_pure ?_
  refine wpAny_bind ?_
  refine wpAny_forIn_list _ (fun l r s'' => r = (none, ()) ∧ s = s'' ∧ ∀ e ∈ l, ∃ k tk, e.2 = Value.int k tk ∧ e.1 = hashInt k ∧ k ∈ ns) _ ?_ ?_ _ _ ⟨rfl, rfl, fun e he => ?_⟩
  · rintro ⟨h, x⟩ rest r s'' ⟨rfl, rfl, hl⟩
    obtain ⟨k, tk, h1, h2, h3⟩ := hl _ (.head _)
    dsimp only at h1 h2
    subst h1 h2
    dsimp only
    refine wpAny_bind (wpAny_holding (setFind_i hb hd2 H2 fun r hr hs => ?_))
    rw [decide_eq_true h3] at hs
    obtain ⟨r0, rfl⟩ := Option.isSome_iff_exists.mp hs
    refine wpAny_bind (m := unchanged id a ep) ?_
    · unfold unchanged setEpoch
      refine wpAny_bind (wpAny_bind (wpAny_setState_of ha hd H.fits (wpAny_pure ?_)))
      dsimp only
      rw [if_neg (by simp)]
      exact wpAny_pure (wpAny_pure ⟨rfl, rfl, fun e he => hl e (.tail _ he)⟩)
  · rintro r s'' ⟨rfl, rfl, -⟩
    exact wpAny_pure hq
  · obtain ⟨k, tk, h1, h2⟩ := H.els e he
    exact ⟨k, tk, h1, h2, (H.mem k).mpr ⟨e, he, tk, h1⟩⟩

theorem sub_set_set : isSubtype (.type "set") (.type "set") = pure true := by rw [isSubtype_type]; kernel_rfl
theorem IsO.frozen {M : Model} (I : IsO s w a o) : Looks M s.heap (isInstance (.ref a) (.type "frozenset")) false := I.type.andThen (looks_subIn I.X c_frozen)
theorem c_notsub : subIn (Mine.hd.heap_39 w.params) (.type "set") (.ref 232) = some false := by k_is
theorem ne_O {Q : Value → Shared → Prop} (hu : A.units < cLine) (I : IsO s w a o) (hb : s.heap.get? b = some o2) (hc : o2.cls = .type "set") (hd : o.data = .set es ep t) (hd2 : o2.data = .set es2 ep2 t2) (H : Tab es t ns) (H2 : Tab es2 t2 ns) (hq : Q (.bool false) s) :
    wpAny (model prog w) A (richCompare .NotEq (.ref a) (.ref b)) Q E s := by
  have hT : s.TypeIs (.ref b) "set" := ⟨o2, hb, hc⟩
  unfold richCompare
  simp only [oneThing_ref]
  refine wpAny_holding (wpAny_bind (wpAny_cRoomFor hu ?_))
  refine wpAny_bind (I.type.here (wpAny_bind (wpAny_typeOf hT ?_)))
  rw [if_pos (by simp)]
  refine wpAny_bind ((looks_subIn I.X c_notsub).here ?_)
  simp only [Bool.false_eq_true, if_false]
  refine wpAny_bind (m := tryCompare _ _ _) ?_
  unfold tryCompare
  have one : ∀ Q' : Option Value → Shared → Prop, Q' (some (.bool false)) s → wpAny (model prog w) A (callSpecialIfBound? (.ref a) "__ne__" [.ref b]) Q' E s := by
    intro Q' hq'
    simp only [callSpecialIfBound?, bindSpecialIfBound?]
    refine wpAny_holding (wpAny_bind (wpAny_bind (wpAny_bind (I.type.here ((looks_findIn I.X c_ne).here ?_)))))
    refine wpAny_bind (wpAny_askSetting (wpAny_ite ?_))
    have fin : wpAny (model prog w) A (call (.builtin "set.__ne__") ([.ref a] ++ [.ref b]) >>= fun v => pure (some v)) Q' E s := by
      refine wpAny_bind ?_
      refine callO I p_ne en_ne kd_ne (.inr rfl) sp_ne (ar_ne _ _) ?_
      unfold Builtin.«frozenset.__ne__»
      refine wpAny_bind (m := slot1 _ _) (wpAny_pure ?_)
      dsimp only
      refine wpAny_bind (m := Builtin.Frozenset.isAnySet _) ?_
      refine wpAny_bind (wpAny_isInstance hT sub_set_set ?_)
      refine wpAny_pure ?_
      rw [if_neg (by decide)]
      refine wpAny_bind (m := addrOf _) (wpAny_pure ?_)
      refine wpAny_bind (m := addrOf _) (wpAny_pure ?_)
      refine wpAny_bind (m := Frozenset.sizeOf a) (wpAny_bind (wpAny_setEntries_of I.get hd H.fits (wpAny_pure ?_)))
      refine wpAny_bind (m := Frozenset.sizeOf b) (wpAny_bind (wpAny_setEntries_of hb hd2 H2.fits (wpAny_pure ?_)))
      rw [if_neg (by simp [H.size, H2.size])]
      refine wpAny_bind ?_
      refine wpAny_bind (m := isInstance (.ref a) _ <&&> isInstance (.ref b) _) ?_
      refine wpAny_bind (I.frozen.here (wpAny_pure ?_))
      rw [if_neg (by decide)]
      refine subset_same I.get hb hd hd2 H H2 ?_
      exact wpAny_pure ⟨_, rfl, wpAny_pure hq'⟩
    split
    · rw [PySem.F.slot_set_ne.bind]
      exact wpAny_bind (wpAny_pure (wpAny_pure (by exact fin)))
    · rw [PySem.F.slot_set_ne.bind]
      exact wpAny_tryCatch (wpAny_bind (wpAny_pure (wpAny_pure (by exact fin))))
  refine wpAny_bind (one _ ?_)
  exact wpAny_pure (wpAny_pure hq)
end
end Mine
end
-- part C1
section
open PySem PySem.W PySem.Calls PyProof.Rows PySem.Spec PyProof.V PySem.SeqAt
set_option maxRecDepth 100000
namespace Mine
def BEl (news : List (Addr × Obj)) (b : Bool) (y : Value) (news' : List (Addr × Obj)) : Prop := news' = news ∧ y = .bool b
section
variable {prog : Program} {w : World} {A : Around} {h₀ : Heap} {L : Addr} {m : Str → Option Value} {env : Env} {elt : Expr} {x : Str} {scope : Scope} {cl : List (Str × Addr)} {s : Shared} {S : List (Addr × Obj) → Prop} {Fin : List Value → List (Addr × Obj) → Prop} {news : List (Addr × Obj)}
theorem kb_range {n : Nat} {a : Int} (g : Int → Bool)
    (turn : ∀ k t I oI C oC D m₂ ys h tk (E' : Value → Shared → Prop), LCg.NsObj oC m₂ → m₂ x = some (.int k t) → Fr h₀ L h m → News h₀ L h ((I, oI) :: (C, oC) :: (D, LCg.lst ys) :: news) → LCg.Off3 I C D news → ((@Ne Nat I C) ∧ (@Ne Nat I D) ∧ (@Ne Nat C D)) →
      wpAny (model prog w) A (eval elt (compEnvC scope cl C env)) (LCg.CompEnd h₀ L m { s with heap := h, toks := tk } I oI C oC D (LCg.lst ys) S (fun y news' => BEl news (g k) y news')) E' { s with heap := h, toks := tk })
    (fin : Fin (((rangeKs a n).map g).map Value.bool) news) : LCg.CompRest prog w A h₀ L m env elt x scope cl s S (fun i v => ∃ t, v = .int (a + (i : Int)) t) Fin n 0 [] news := by
  have key : ∀ (j i : Nat) (ys : List Value), i + j = n → ys = (((rangeKs a n).take i).map g).map Value.bool → LCg.CompRest prog w A h₀ L m env elt x scope cl s S (fun i v => ∃ t, v = .int (a + (i : Int)) t) Fin j i ys news := by
    intro j
    induction j with
    | zero =>
      intro i ys hi hy
      have e : i = (rangeKs a n).length := by rw [rangeKs_length]; omega
      subst e
      rw [List.take_length] at hy
      subst hy
      exact LCg.CompRest.zero fin
    | succ j ih =>
      intro i ys hi hy
      refine LCg.CompRest.succ ?_
      rintro v I oI C oC D m₂ h tk E' ⟨t, rfl⟩ hC hx F N off ne
      refine wpAny_mono (turn _ t I oI C oC D m₂ ys h tk E' hC hx F N off ne) (fun y s₂ hq => ?_) fun _ _ e => e
      obtain ⟨h', tk', nw, e, F', N', off', hS, hn, hy'⟩ := hq
      subst hn
      refine ⟨h', tk', nw, e, F', N', off', hS, ?_⟩
      refine ih (i + 1) _ (by omega) ?_
      have hk : (rangeKs a n)[i]? = some (a + (i : Int)) := by
        have : i < n := by omega
        simp [rangeKs, this]
      rw [List.take_add_one, hk, hy, hy']
      simp
  exact key n 0 [] (by omega) (by simp)
end

theorem readsAll_of_bools {h : Heap} : ∀ (bs : List Bool), ReadsAll h (bs.map Value.bool) (bs.map PyData.bool) []
  | [] => .nil
  | b :: r => by
    have := ReadsAll.cons (Reads.bool (h := h) b) (readsAll_of_bools (h := h) r)
    simpa using this
theorem canLayAll0_bools : ∀ bs : List Bool, PyData.canLayAll0 (bs.map PyData.bool) = true
  | [] => by simp [PyData.canLayAll0]
  | n :: r => by simp [PyData.canLayAll0, PyData.canLay0, canLayAll0_bools r]
theorem depthAll_bools : ∀ bs : List Bool, PyData.depthAll (bs.map PyData.bool) ≤ 1
  | [] => by simp [PyData.depthAll]
  | n :: r => by
    have := depthAll_bools r
    simp only [List.map_cons, PyData.depthAll, PyData.depth]
    omega
theorem shaped_bools (bs : List Bool) : shaped (.list (bs.map PyData.bool)) = true := by
  have h1 := depthAll_bools bs
  have h2 : PyData.depth (.list (bs.map PyData.bool)) ≤ 64 := by simp only [PyData.depth]; omega
  show (PyData.canLay0 (.list (bs.map PyData.bool)) && decide (PyData.depth (.list (bs.map PyData.bool)) ≤ 64)) = true
  rw [Bool.and_eq_true]
  exact ⟨by simp only [PyData.canLay0]; exact canLayAll0_bools bs, decide_eq_true h2⟩
theorem noMix_bools : ∀ bs cs : List Bool, noMixAll (bs.map PyData.bool) (cs.map PyData.bool) = true
  | [], [] => by simp [noMixAll]
  | [], _ :: _ => by simp [noMixAll]
  | _ :: _, [] => by simp [noMixAll]
  | _ :: r, _ :: q => by simp [noMixAll, noMix, noMix_bools r q]
theorem same_bools : ∀ bs : List Bool, PySem.Spec.sameAll (bs.map PyData.bool) (bs.map PyData.bool) = true
  | [] => by simp [PySem.Spec.sameAll]
  | n :: r => by simp [PySem.Spec.sameAll, PySem.Spec.same, same_bools r]
section
variable {prog : Program} {w : World} {A : Around} {E : Value → Shared → Prop} {s : Shared}
theorem eq_boolsK {a b : Addr} {bs : List Bool} {Q : Value → Shared → Prop} (hl : s.heap.IsList a (bs.map Value.bool).toArray) (hl' : s.heap.IsList b (bs.map Value.bool).toArray) (hu : A.units + 64 < cLine)
    (h : Q (.bool true) s) : wpAny (model prog w) A (compareOp .Eq (.ref a) (.ref b)) Q E s := by
  obtain ⟨o, ho, hc, n, hd⟩ := hl
  obtain ⟨o', ho', hc', n', hd'⟩ := hl'
  refine eq_dataH_same (Reads.list ho hc hd (by simpa using readsAll_of_bools (h := s.heap) bs)) (Reads.list ho' hc' hd' (by simpa using readsAll_of_bools (h := s.heap) bs)) (shaped_bools bs) (shaped_bools bs) hu (by simp only [noMix]; exact noMix_bools bs bs) (by simp only [PySem.Spec.same]; rw [same_bools]; exact h)
end
end Mine
end
-- part M11
section
open PySem PySem.W PySem.Calls PyProof.Rows PySem.Spec
set_option maxRecDepth 100000
namespace Mine
local macro_rules | `(tactic| k_room) => `(tactic| (show _ < 1000; (try simp only [depth_mark, depth_under_make, depth_under_kw, depth_in1, depth_deeper, depth_caller]); (try dsimp only); omega))
local macro_rules | `(tactic| walk_at "getMethod type:set") => `(tactic| (k_here; refine' c_meth_type ?F ?X meta_set stub_set ?e ?h ?_; (case F => k_asm); (case X => k_asm); (case e => k_dflt k_is); (case h => k_handed)))
local macro_rules | `(tactic| k_mem) => `(tactic| (first | assumption | exact List.Mem.head _ | exact List.Mem.tail _ (by assumption) | exact List.Mem.tail _ (List.Mem.head _) | exact List.Mem.tail _ (List.Mem.tail _ (by assumption)) | exact List.Mem.tail _ (List.Mem.tail _ (List.Mem.head _)) | exact List.Mem.tail _ (List.Mem.tail _ (List.Mem.tail _ (by assumption))) | exact List.Mem.tail _ (List.Mem.tail _ (List.Mem.tail _ (List.Mem.head _))) | exact List.Mem.tail _ (List.Mem.tail _ (List.Mem.tail _ (List.Mem.tail _ (by assumption)))) | exact List.Mem.tail _ (List.Mem.tail _ (List.Mem.tail _ (List.Mem.tail _ (List.Mem.head _)))) | exact List.Mem.tail _ (List.Mem.tail _ (List.Mem.tail _ (List.Mem.tail _ (List.Mem.tail _ (by assumption))))) | exact List.Mem.tail _ (List.Mem.tail _ (List.Mem.tail _ (List.Mem.tail _ (List.Mem.tail _ (List.Mem.head _))))) | exact List.Mem.tail _ (List.Mem.tail _ (List.Mem.tail _ (List.Mem.tail _ (List.Mem.tail _ (List.Mem.tail _ (by assumption)))))) | exact List.Mem.tail _ (List.Mem.tail _ (List.Mem.tail _ (List.Mem.tail _ (List.Mem.tail _ (List.Mem.tail _ (List.Mem.head _)))))) | exact List.Mem.tail _ (List.Mem.tail _ (List.Mem.tail _ (List.Mem.tail _ (List.Mem.tail _ (List.Mem.tail _ (List.Mem.tail _ (by assumption))))))) | exact List.Mem.tail _ (List.Mem.tail _ (List.Mem.tail _ (List.Mem.tail _ (List.Mem.tail _ (List.Mem.tail _ (List.Mem.tail _ (List.Mem.head _))))))) | exact List.Mem.tail _ (List.Mem.tail _ (List.Mem.tail _ (List.Mem.tail _ (List.Mem.tail _ (List.Mem.tail _ (List.Mem.tail _ (List.Mem.tail _ (by assumption)))))))) | exact List.Mem.tail _ (List.Mem.tail _ (List.Mem.tail _ (List.Mem.tail _ (List.Mem.tail _ (List.Mem.tail _ (List.Mem.tail _ (List.Mem.tail _ (List.Mem.head _))))))))))
local macro_rules | `(tactic| walk_at "getMethod ref") => `(tactic| (k_here; k_dflt (refine' o_method ?H ?F ?X ?N ?m ?d ?e ?t ?_; (case F => k_asm); (case X => k_asm); (case N => k_asm); (case m => k_mem); (case H => assumption); (case d => k_mem); (case e => k_is); (case t => k_is))))
local macro_rules | `(tactic| walk_at "getAttr ref") => `(tactic| (k_here; (with_reducible show wpAny _ _ (getAttr (Value.ref _) (PySem.Str.ofString "_list") _) _ _ _); k_dflt (refine' o_list ?H ?F ?X ?N ?m ?d ?_; (case F => k_asm); (case X => k_asm); (case N => k_asm); (case m => k_mem); (case H => assumption); (case d => k_mem))))
local macro_rules | `(tactic| walk_at "call ref") => `(tactic| ((fail_if_success (rename NoTag => nt)); refine Tag.mk ?_))
local macro_rules | `(tactic| walk_at "compareOp NotEq ref ref") => `(tactic| refine Tag.mk ?_)
local macro_rules | `(tactic| walk_at "compareOp Eq ref ref") => `(tactic| refine Tag.mk ?_)
local macro_rules | `(tactic| walk_at "call type:list") => `(tactic| refine Tag.mk ?_)
local macro_rules | `(tactic| walk_at "call type:set") => `(tactic| refine Tag.mk ?_)
local macro_rules | `(tactic| walk_at "compareOp In int ref") => `(tactic| refine Tag.mk ?_)
local macro_rules | `(tactic| walk_at "compareOp NotIn int ref") => `(tactic| refine Tag.mk ?_)
local macro_rules | `(tactic| walk_at "CompSrc") => `(tactic| (k_here; k_dflt (refine LCg.CompSrc.range (by rfl) (by k_asm) (by k_asm) (by assumption) (by decide) (by first | exact rangeSize_nat _ _ | rfl) (by exact Nat.le_of_ble_eq_true rfl) ?_; intro g'; refine' kb_range _ (fun k' t' I' oI' C' oC' D' m' ys' h' tk' E' hC' hx' F' N' off' ne' => ?_) ?_)))
section
variable {prog : Program} {w : World} {E : Value → Shared → Prop} {s : Shared}
variable {A₀ : Around} {base h₀ : Heap} {outer : List Env} {env : Env} {L : Addr} {m mg mb : Str → Option Value} {mean : ExcName → Option Value} {news : List (Addr × Obj)} {d u : Nat} {gs : Option (List Code)}
theorem o_mkset {A : Around} {l : Addr} {vs : List Value} {c : Nat} {ms : List Int} {Q : Value → Shared → Prop} (hh : A.handled = none) (F : Fr h₀ L s.heap m) (N : News h₀ L s.heap news)
    (hl : (l, listOf vs.toArray c) ∈ news) (hm : IntsAre vs ms) (hn : ms.Nodup) (hr : ∀ k ∈ ms, 0 ≤ k ∧ k < 12)
    (h : ∀ D h' tk es ep t, Good es t ms → Fr h₀ L h' m → News h₀ L h' ((D, { cls := .type "set", dict := none, data := .set es ep t }) :: news) → (∀ p ∈ news, p.1 < D) → Q (.ref D) { s with heap := h', toks := tk }) :
    wpAny (model prog w) A (call (.type "set") [.ref l]) Q E s := by
  refine call_set_ok hh ⟨_, (N _ hl).1, rfl, c, rfl⟩ (by simpa using hm) hr fun h' tk es ep t hov hg G => ?_
  rw [foldAdd_nil hn] at G
  have hN : ∀ b o, s.heap.get? b = some o → h'.get? b = some o := fun b o e => hov b o e
  refine h _ h' tk es ep t G ⟨F.ns.at' fun o e => hN L o e, fun b o e => hN b o (F.keep b o e), F.above⟩ (fun p hp => ?_) fun p hp => Heap.lt_size (N p hp).1
  rcases List.mem_cons.mp hp with rfl | hp
  · exact ⟨hg, fun e => absurd F.ns.lt (e ▸ Nat.lt_irrefl _), next_is_new F⟩
  · exact ⟨hN _ _ (N p hp).1, (N p hp).2⟩
set_option maxHeartbeats 8000000 in
theorem agrees_ok {sa dx la pl : Addr} {so : Obj} {vs ps : List Value} {c c' : Nat} {ns : List Int} {Q : Value → Shared → Prop} (hd : d < 700) (hu : u < 7000)
    (B : Below A₀ base outer h₀) (F : Fr h₀ L s.heap m) (X : (Mine.hd.heap_39 w.params).In h₀) (N : News h₀ L s.heap news)
    (T : Top Mine.hd.view_39 (looseW Mine.hd.view_39 [Str.ofString "OrderedSet", Str.ofString "_law_wrongs"]) mean mg mb h₀)
    (hf : env.frame = some L) (hke : env.scope.kind = .function) (H : OSet so dx la ns) (hv : IntsAre vs ns) (hn : ns.Nodup) (hrn : ∀ k ∈ ns, 0 ≤ k ∧ k < 12) (hsa : (sa, so) ∈ news) (hla : (la, listOf vs.toArray c) ∈ news) (hdx : (dx, dictOf [] 0) ∈ news) (hpl : (pl, listOf ps.toArray c') ∈ news) (hp : IntsAre ps ns)
    (hQ : ∀ h' tk, Fr h₀ L h' m → News h₀ L h' news → Q (.bool true) { s with heap := h', toks := tk }) :
    wpAny (model prog w) ⟨none, d, some (env :: outer), gs, u⟩ (call (.ref 258) [.ref sa, .ref pl]) Q E s := by
  obtain ⟨sc, lo, gl, ce, qu, fu, co, fr, bu⟩ := env
  obtain ⟨k1, k2, k3, k4, k5⟩ := sc
  dsimp only at hf hke
  subst hf hke
  refine wpAny_call ?_
  k_enter
  k_steps
  rename_i g' L' h' tk' FG' F' B' X' T' lt o1 o2 d1 d2 N'
  refine Tag.un ?_
  refine list_ok (by show d + 1 < 800; omega) B' F' X' N' T' rfl rfl H (.tail _ (.tail _ hsa)) (.tail _ (.tail _ hla)) (.tail _ (.tail _ hdx)) hv ?_
  intro D₁ c₁ h₁ tk₁ F₁ N₁ l1
  k_steps
  refine Tag.un ?_
  refine ne_intsK ⟨_, (N₁ _ (.head _)).1, rfl, c₁, rfl⟩ hv ⟨_, (N₁ _ (.tail _ (.tail _ (.tail _ hpl)))).1, rfl, c', rfl⟩ hp (by show u + 3 + 64 < 9900; omega) ?_
  rw [decide_eq_true rfl, Bool.not_true]
  k_steps
  refine o_len H F₁ X' N₁ (.tail _ (.tail _ (.tail _ hsa))) ?_
  k_steps
  refine call_len_list (items := ps.toArray) ⟨_, (N₁ _ (.tail _ (.tail _ (.tail _ hpl)))).1, rfl, c', rfl⟩ (by have := hp.length; have := H.len; simp; omega) ?_
  have hpz : ps.toArray.size = ns.length := by simp [hp.length]
  rw [hpz]
  k_steps
  · exfalso; first | omega | simp_all
  refine Tag.un ?_
  refine o_mkset (by rfl) (by assumption) (by assumption) (.tail _ (.tail _ (.tail _ hpl))) hp hn hrn ?_
  intro D₂ h₂ tk₂ es2 ep2 t2 G₂ F₂ N₂ l2
  k_steps
  refine Tag.un ?_
  obtain ⟨es, ep, t, hdat, G⟩ := H.data
  refine cmp_ofNotEq (ne_O (by show u + 3 < 9900; omega) (H.isO F₂ X' N₂ (.tail _ (.tail _ (.tail _ (.tail _ hsa))))) (N₂ _ (.head _)).1 rfl hdat rfl G.tab G₂.tab ?_)
  k_steps
  · rename_i a; exact decide (a ∈ ns)
  · refine Tag.un ?_
    refine o_in H (by assumption) X' (by assumption) (by k_mem) ?_
    refine LCg.CompEnd.intro (by assumption) (by assumption) _ (fun p hp => hp) (by assumption) trivial ⟨rfl, rfl⟩
  · rename_i a; exact decide (a ∈ ns)
  · refine Tag.un ?_
    rename News _ _ _ _ => NN
    refine in_list_ints ⟨_, (NN _ (by k_mem : (pl, listOf ps.toArray c') ∈ _)).1, rfl, c', rfl⟩ (by assumption) ?_
    have hany : ∀ k : Int, ns.any (· == k) = decide (k ∈ ns) := fun k => by
      rw [Bool.eq_iff_iff]; simp [List.any_eq_true]
    rw [hany]
    refine LCg.CompEnd.intro (by assumption) NN _ (fun p hp => hp) (by assumption) trivial ⟨rfl, rfl⟩
  · refine Tag.un ?_
    rename News _ _ _ _ => NN
    refine eq_boolsK ⟨_, (NN _ (.tail _ (.head _))).1, rfl, _, rfl⟩ ⟨_, (NN _ (.head _)).1, rfl, _, rfl⟩ (by show u + 3 + 64 < 9900; omega) ?_
    k_steps
    rename_i kF kN _ _
    refine hQ _ _ kF (News.sub kN fun p hp => ?_)
    simp only [List.mem_cons]
    grind
end
end Mine
end
-- part G1
section
open PySem PySem.W PySem.Calls PyProof.Rows PySem.Spec
set_option maxRecDepth 100000
namespace Mine
theorem kts_memE {env : Env} {L b : Addr} {outer : List Env} (hf : env.frame = some L) (hm : b ∈ (env :: outer).filterMap (·.frame)) : b = L ∨ b ∈ outer.filterMap (·.frame) := by
  obtain ⟨env', he, hf'⟩ := List.mem_filterMap.mp hm
  rcases List.mem_cons.mp he with rfl | he
  · exact .inl (Option.some.inj (hf'.symm.trans hf))
  · exact .inr (List.mem_filterMap.mpr ⟨env', he, hf'⟩)
theorem pushE {A : Around} {base h₀ h : Heap} {outer : List Env} {env : Env} {L : Addr} {m : Str → Option Value} (K : Below A base outer h₀) (F : Fr h₀ L h m) (hf : env.frame = some L) (hl : env.locals = L) (hk : env.scope.kind = .function) : Below (A.deeper env) base (env :: outer) h := by
  have hnew : base.get? L = none := by
    cases hq : base.get? L with
    | none => rfl
    | some o => exact absurd (Nat.lt_of_lt_of_le (Heap.lt_size (K.stays L o hq)) F.above) (Nat.lt_irrefl _)
  refine ⟨Around.frames_deeper K.stack, fun b o e => F.keep b o (K.stays b o e), ?_⟩
  exact .cons (by rw [hk]; decide) hf F.ns hnew (K.frames.of_keeps fun b o e _ => ⟨o, F.keep b o e, rfl⟩)
section
variable {M : Model} {A : Around} {E : Value → Shared → Prop} {s' : Shared} {base g g₂ h : Heap} {outer : List Env} {L e : Addr} {m : Str → Option Value} {env : Env} {Q : Unit → Shared → Prop} {news : List (Addr × Obj)}
theorem leave_newE {cls : String} (K : Below A base outer g) (hx : Heap.NewExc h s'.heap e cls) (F : Fr g L h m) (N : News g L h news) (hf : env.frame = some L) (hlo : env.locals = L) (hk : env.scope.kind = .function)
    (hQ : ∀ h', RaisedSN base g outer e (.type cls) news h' → g.UpToSlots h' → Q () { s' with heap := h' }) :
    wpAny M (A.deeper env) (leaving env (.ref e)) Q E s' := by
  have K' := pushE K F hf hlo hk
  have hin : ∀ env' ∈ (env :: outer), ∀ b, env'.frame = some b → b ∈ (env :: outer).filterMap (·.frame) := fun env' he b hb => List.mem_filterMap.mpr ⟨env', he, hb⟩
  have st : base.StaysIn (hideAll h ((env :: outer).filterMap (·.frame))) := fun b o q => hideAll_get _ (K'.stays b o q) fun hm => by
    rw [(K'.frames.mem hm).1] at q; cases q
  have sg : ∀ b o, g.get? b = some o → b ∉ outer.filterMap (·.frame) → (hideAll h ((env :: outer).filterMap (·.frame))).get? b = some o := fun b o q nm => hideAll_get _ (F.keep b o q) fun hm => by
    rcases kts_memE hf hm with z | z
    · rw [z, kts_self F] at q
      cases q
    · exact nm z
  have hl : ∀ q ∈ news, (hideAll h ((env :: outer).filterMap (·.frame))).get? q.1 = some q.2 ∧ g.get? q.1 = none ∧ base.get? q.1 = none := fun q hq => by
    refine ⟨hideAll_get _ (N q hq).1 fun hm => ?_, (N q hq).2.2, fresh_of_stays K.stays (N q hq).2.2⟩
    rcases kts_memE hf hm with z | z
    · exact (N q hq).2.1 z
    · obtain ⟨o, ho, _⟩ := (K.frames.mem z).2
      rw [(N q hq).2.2] at ho; cases ho
  obtain ⟨ob, tp, he, hcls, hd⟩ := hx.there
  have hen : (hideAll h ((env :: outer).filterMap (·.frame))).get? e = none := by
    cases q : (hideAll h ((env :: outer).filterMap (·.frame))).get? e with
    | none => rfl
    | some o => have := of_hideAll _ q; rw [hx.new] at this; cases this
  refine wpAny_leaving_firstW (a0 := tp) K'.stack ((funFrames_hide K'.frames hin).of_keeps fun b o hb _ => ⟨o, hx.keeps b o hb, rfl⟩) hf he (fun b o hb => hx.keeps b o (of_hideAll _ hb)) hen hd rfl rfl fun h' hL => ?_
  obtain ⟨k1, ⟨_, _, k2⟩, k3, k4⟩ := hL
  have R : RaisedSN base g outer e (.type cls) news h' := ⟨_, tp, st, sg, hl, k1, hen, k2, by rw [← hcls]; exact k3⟩
  exact hQ h' R (((Heap.UpToSlots.of_keeps F.keep).trans (Heap.UpToSlots.of_keeps hx.keeps)).trans k4)
end

section
variable {prog : Program} {w : World} {A₀ A : Around} {s : Shared} {base h₀ g₀ : Heap} {outer : List Env} {L : Addr} {m : Str → Option Value} {env : Env} {news : List (Addr × Obj)} {K : Frag} {p : Program} {loose : List Str} {mean : ExcName → Option Value} {mg mb : Str → Option Value}
    {R : Result → Shared → Prop} {name qual : Str} {params : Arguments} {body : List Stmt} {scope : Scope} {dV kV doc pm cdv ct oc : Value} {an od : Option Addr} {osl : Array (Option Value)} {f : Addr} {args : Args} {binds : List (Str × Value)}
theorem kts_enterE (B : Below A₀ base outer h₀) (F : Fr h₀ L s.heap m) (N : News h₀ L s.heap news) (hA : A.frames = some (env :: outer)) (hf : env.frame = some L) (hlo : env.locals = L) (hck : env.scope.kind = .function) :
    ∃ oL es ep, (hideAll s.heap (news.map (·.1))).get? L = some oL ∧ oL.data = .dict es ep ∧ (∀ h', h'.get? L = some oL → Heap.Ns h' L m) ∧ (∀ (sl : Array (Option Value)) h', h'.get? L = some { oL with slots := sl } → Heap.Ns h' L m) ∧
      h₀.StaysIn (hideAll s.heap (news.map (·.1))) ∧ Below A base (env :: outer) (hideAll s.heap (news.map (·.1))) := by
  have nm : ∀ b o, h₀.get? b = some o → b ∉ news.map (·.1) := fun b o e q => by
    obtain ⟨p, hp, rfl⟩ := List.mem_map.mp q
    rw [(N p hp).2.2] at e; cases e
  have st : h₀.StaysIn (hideAll s.heap (news.map (·.1))) := fun b o e => hideAll_get _ (F.keep b o e) (nm b o e)
  obtain ⟨oL, es, ep, hL, hLd, hLk, hLf⟩ := F.ns
  have nL : L ∉ news.map (·.1) := fun q => by
    obtain ⟨p, hp, e⟩ := List.mem_map.mp q
    exact (N p hp).2.1 e
  have hLg := hideAll_get (news.map (·.1)) hL nL
  have B₁ := pushE B F hf hlo hck
  exact ⟨oL, es, ep, hLg, hLd, fun h' e => ⟨oL, es, ep, e, hLd, hLk, hLf⟩, fun sl h' e => ⟨_, es, ep, e, hLd, hLk, hLf⟩, st, ⟨hA, fun b o e => st b o (B.stays b o e), funFrames_hideAll B₁.frames fun env' he b hb hf' => by
    cases he with
    | head => exact nL (Option.some.inj (hf.symm.trans hf') ▸ hb)
    | tail _ he =>
      obtain ⟨L₁, o₁, hf₁, ho₁⟩ := funFrames_in B.frames env' he
      rw [hf₁] at hf'
      exact nm L₁ o₁ ho₁ ((Option.some.inj hf' : L₁ = b) ▸ hb)⟩⟩

theorem code_defR (B : Below A₀ base [] h₀) (F : Fr h₀ L s.heap m) (X₀ : K.In h₀) (N : News h₀ L s.heap news) (T : Top p loose mean mg mb h₀) (hA : A.frames = some [env]) (hf : env.frame = some L) (hlo : env.locals = L)
    (ho : K.lookup f = some ⟨oc, od, .func (fnOf name qual params body scope dV kV doc pm an cdv ct), osl⟩) (hcd : codeIn K cdv qual = true) (hroom : A.depth < recursionLimit)
    (hbind : BindsTo s (fnOf name qual params body scope dV kV doc pm an cdv ct) args binds) (hloc : ∀ y ∈ binds, scope.names.lookup y.1 = some .local)
    (h : ∀ g L' h₁, Fr h₀ L g m → Fr g L' h₁ (fun y => binds.reverse.lookup y) → News g L' h₁ news → Below A base [env] g → K.In g → Top p loose mean mg mb g → KtsDicts ([env].filterMap (·.frame)) g →
      wpAny (model prog w) (A.deeper (envOf qual scope L' f cdv)) (execs body (envOf qual scope L' f cdv))
        (fun fl s' => LeaveS0 ([env].filterMap (·.frame)) h₀ L m g R (match fl with | .ret v => v | _ => .none) s')
        (fun e s' => wpAny (model prog w) (A.deeper (envOf qual scope L' f cdv)) (leaving (envOf qual scope L' f cdv) e) (fun _ s'' => R (.error e) s'') (fun e' s'' => R (.error e') s'') s')
        { s with heap := h₁, toks := s.toks + binds.length })
    (hck : env.scope.kind = .function) (hco : scope.isCoroutine = false) (hgen : scope.isGenerator = false) (hk : scope.kind = .function)
    (hcell : ∀ x ∈ scope.names, x.2 ≠ .cell) : codeAny (model prog w) A (.call (.ref f) args) R s := by
  have X := X₀.keeps F.keep
  refine codeAny_call_def (fd := fnOf name qual params body scope dV kV doc pm an cdv ct) (body := body) (binds := binds) hroom (X _ _ ho) rfl (T.nolimit.keeps F.keep) (codeRec_of X hcd) rfl hbind hcell hloc (fun h₁ hns hk₁ => ?_) hco hgen hk
  obtain ⟨oL, es, ep, hLg, hLd, hN, hNs, st, B₂⟩ := kts_enterE B F N hA hf hlo hck
  refine wpAny_mono (h _ s.heap.objs.size h₁ ⟨hN _ hLg, st, F.above⟩ ⟨hns, fun b o e => hk₁ b o (of_hideAll _ e), Nat.le_of_eq (hideAll_size _ _)⟩
    (fun p hp => ⟨hk₁ _ _ (N p hp).1, Nat.ne_of_lt (Heap.lt_size (N p hp).1), hideAll_none _ (List.mem_map_of_mem hp)⟩) B₂ (X₀.keeps st) (T.keeps st) (fun b hb => by
      rcases kts_memE hf hb with rfl | z
      · exact ⟨oL, es, ep, hLg, hLd⟩
      · simp at z)) (fun fl s' hl => ?_) fun _ _ y => y
  obtain ⟨g', L', m', news', T', F', N', k⟩ := hl
  have nL₀ : h₀.get? L = none := kts_self F
  obtain ⟨sl, hs⟩ := T'.up hLg
  refine k ⟨hNs sl _ (F'.keep _ _ hs), fun b o e => F'.keep b o (T'.other b o (st b o e) (fun q => by
    rcases kts_memE hf q with z | z
    · rw [z, nL₀] at e
      cases e
    · simp at z)), F.above⟩ fun p hp => ⟨(N' p hp).1, fun q => ?_, ?_⟩
  · have := (N' p hp).2.2; rw [q, hs] at this; cases this
  · cases q : h₀.get? p.1 with
    | none => rfl
    | some o =>
      obtain ⟨sl', hs'⟩ := T'.up (st _ _ q)
      have := (N' p hp).2.2
      rw [hs'] at this
      cases this
end
end Mine
end
-- part I3
section
namespace Mine
def NoTry : Prop := True
end Mine
end
-- part G2
section
open PySem PySem.W PySem.Calls PyProof.Rows PySem.Spec
set_option maxRecDepth 100000
namespace Mine
section
variable {prog : Program} {w : World} {A₀ : Around} {E : Value → Shared → Prop} {s' : Shared} {base g g₀ h : Heap} {outer : List Env} {L a e : Addr} {m : Str → Option Value} {name : Str} {scope : Scope} {cd : Value}
  {n : Str} {b₀ : Stmt} {suite : List Stmt} {pos np : Pos} {rest : List ExceptHandler} {Q : Flow → Shared → Prop} {news : List (Addr × Obj)} {KF : Frag}
  {p : Program} {loose : List Str} {mean : ExcName → Option Value} {mg mb : Str → Option Value} {x : Str} {X T' : String}
theorem caught_new0 (hxn : Heap.NewExc h s'.heap e X) (F : Fr g L h m) (N : News g L h news) (K : Below A₀ base outer g) (XB : KF.In base) (TB : Top p loose mean mg mb base)
    (D : KtsDicts (outer.filterMap (·.frame)) g) (T0 : KtsTurn (outer.filterMap (·.frame)) g₀ g)
    (ex : nsIn KF mainGlobals x = some none) (hv : bootBuiltins x = some (.type T')) (hn' : x ≠ "__name__")
    (hexc : isSubtype (.type T') (.type "BaseException") = pure true) (hnt : isSubtype (.type ((Manifest.find? T').elim "type" fun y => y.metatype)) (.type "tuple") = pure false) (hsub : isSubtype (.type X) (.type T') = pure true)
    (k : ∀ h' g', KtsTurn (outer.filterMap (·.frame)) g₀ g' → Fr g' L h' m → News g' L h' news → Below A₀ base outer g' → KF.In g' → Top p loose mean mg mb g' → KtsDicts (outer.filterMap (·.frame)) g' →
      wpAny (model prog w) ((A₀.deeper (envOf name scope L a cd)).mark (some (.ref e))) (execs (b₀ :: suite) (envOf name scope L a cd)) Q E { s' with heap := h' })
    (hk : scope.kind = .function := by rfl) (hx : (envOf name scope L a cd).kindOf x = some .globalImplicit := by rfl) (hd : (x == ("__debug__" : Str)) = false := by decide)
    (hE : PassesOwnAt (model prog w) ((A₀.deeper (envOf name scope L a cd)).mark (some (.ref e))) (A₀.deeper (envOf name scope L a cd)) (envOf name scope L a cd) E := by passes_own) :
    wpAny (model prog w) (A₀.deeper (envOf name scope L a cd)) (noteFrame (.ref e) (envOf name scope L a cd))
      (fun _ s₂ => wpAny (model prog w) (A₀.deeper (envOf name scope L a cd)) (setFlight (.ref e) none) (fun _ s₃ =>
        wpAny (model prog w) (A₀.deeper (envOf name scope L a cd)) (handleBy (.ref e) (envOf name scope L a cd) (.ExceptHandler (some (.Name x np)) none (b₀ :: suite) pos :: rest)) Q E s₃) E s₂) E s' := by
  have K' := K.push (name := name) (a := a) (cd := cd) F hk
  have hin : ∀ env ∈ (envOf name scope L a cd :: outer), ∀ b, env.frame = some b → b ∈ (envOf name scope L a cd :: outer).filterMap (·.frame) := fun env he b hb => List.mem_filterMap.mpr ⟨env, he, hb⟩
  have hB : base.StaysIn (hideAll h ((envOf name scope L a cd :: outer).filterMap (·.frame))) := fun b o q => hideAll_get _ (K'.stays b o q) fun hm => by
    rw [(K'.frames.mem hm).1] at q; cases q
  have hBG : ∀ b o, h.get? b = some o → b ∉ (envOf name scope L a cd :: outer).filterMap (·.frame) → (hideAll h ((envOf name scope L a cd :: outer).filterMap (·.frame))).get? b = some o := fun b o q nm => hideAll_get _ q nm
  have hl : ∀ q ∈ news, (hideAll h ((envOf name scope L a cd :: outer).filterMap (·.frame))).get? q.1 = some q.2 := fun q hq => by
    refine hideAll_get _ (N q hq).1 fun hm => ?_
    rcases kts_mem hm with z | z
    · exact (N q hq).2.1 z
    · obtain ⟨o, ho, _⟩ := (K.frames.mem z).2
      rw [(N q hq).2.2] at ho; cases ho
  obtain ⟨ob, tp, he, hcls, hdt⟩ := hxn.there
  have hen : (hideAll h ((envOf name scope L a cd :: outer).filterMap (·.frame))).get? e = none := by
    cases q : (hideAll h ((envOf name scope L a cd :: outer).filterMap (·.frame))).get? e with
    | none => rfl
    | some o => have := of_hideAll _ q; rw [hxn.new] at this; cases this
  have hL : (hideAll h ((envOf name scope L a cd :: outer).filterMap (·.frame))).get? L = none := hideAll_none _ (hin _ (.head _) L rfl)
  have hFF : s'.heap.FunFrames (hideAll h ((envOf name scope L a cd :: outer).filterMap (·.frame))) (envOf name scope L a cd :: outer) := (funFrames_hide K'.frames hin).of_keeps fun b o hb _ => ⟨o, hxn.keeps b o hb, rfl⟩
  have hst : (hideAll h ((envOf name scope L a cd :: outer).filterMap (·.frame))).StaysIn s'.heap := fun b o hb => hxn.keeps b o (of_hideAll _ hb)
  have hsm : h.UpToSlots s'.heap := Heap.UpToSlots.of_keeps hxn.keeps
  generalize hideAll h ((envOf name scope L a cd :: outer).filterMap (·.frame)) = B at *
  unfold noteFrame
  simp only [show (envOf name scope L a cd).frame = some L from rfl]
  refine wpAny_bind (wpAny_field he hdt (x := .none) rfl ?_)
  rw [if_neg (by decide)]
  refine wpAny_entryW (Around.frames_deeper K.stack) hFF rfl he hst hen hdt (by simp) rfl fun h₄ hNo => ?_
  obtain ⟨n1, n2, n3, n4⟩ := hNo
  have hheld₄ : Heap.HeldW B (envOf name scope L a cd :: outer) e ob.cls tp L h₄ := ⟨n1, hen, n2, n3⟩
  have hsm₄ : s'.heap.UpToSlots h₄ := n4
  refine wpAny_landsW (s := { s' with heap := h₄ }) hheld₄ fun h₅ hheld hsm₅' => ?_
  have hsm₅ := hsm₄.trans hsm₅'
  obtain ⟨g₅, T₅, F₅, K₅⟩ := kts_ground K F hBG hheld.1 (hsm.trans hsm₅)
  have X₅ : KF.In g₅ := XB.keeps K₅.stays
  have P₅ : TopRead p loose mg mb g₅ := topRead_of (TB.keeps K₅.stays)
  obtain ⟨ob', hob, hobc⟩ := hheld.there
  refine wpAny_handleBy_builtin (X := X) (T := T') (b := true) hexc hnt hsub (name_B F₅ X₅ P₅ ex hv hn' ⟨rfl, ⟨ob', hob, hobc.trans hcls⟩, ?_⟩ hk hx hd)
  refine lands_againW hheld fun h₆ hfl₆ hsm₆ => ?_
  obtain ⟨g₆, T₆, F₆, K₆⟩ := kts_ground K F hBG hfl₆.1 ((hsm.trans hsm₅).trans hsm₆)
  have Nl : News g₆ L h₆ news := fun q hq => ⟨hfl₆.1 _ _ (hl q hq), (fun z => by have := hl q hq; rw [z, hL] at this; cases this), T₆.none_ _ (N q hq).2.2⟩
  have X₆ : KF.In g₆ := XB.keeps K₆.stays
  have P₆ : Top p loose mean mg mb g₆ := TB.keeps K₆.stays
  have D₆ : KtsDicts (outer.filterMap (·.frame)) g₆ := D.turn T₆
  exact wpAny_passesOwnAt hE (k h₆ g₆ (T0.trans T₆) F₆ Nl K₆ X₆ P₆ D₆)
end
end Mine
end
-- part G3
section
open PySem PySem.W PySem.Calls PyProof.Rows PySem.Spec
namespace Mine
def NoIf : Prop := True
structure StopAdd : Prop where
structure StopCW : Prop where
theorem if_no {M : Model} {A : Around} {E : Value → Shared → Prop} {s : Shared} {env : Env} {test : Expr} {body : List Stmt} {st : Stmt} {pos : Pos} {Q : Flow → Shared → Prop}
    (h : wpAny M A (isTrue test env (eval test env)) (fun b s₁ => b = false ∧ Tag (wpAny M A (exec st env) Q E s₁)) E s) : wpAny M A (exec (.If test body [st] pos) env) Q E s := by
  refine wpAny_If (wpAny_mono h (fun b s₁ hb => ?_) fun _ _ e => e)
  obtain ⟨rfl, hb⟩ := hb
  have hb' : wpAny M A (exec st env) Q E s₁ := hb
  simp only [Bool.false_eq_true, if_false]
  refine wpAny_execs_cons (wpAny_mono hb' (fun f s₂ hq => ?_) fun _ _ e => e)
  cases f with
  | next => exact wpAny_execs_nil hq
  | _ => exact hq
end Mine
end
-- part G4
section
open PySem PySem.W PySem.Calls PyProof.Rows PySem.Spec Builtin
set_option maxRecDepth 100000
namespace Mine
section
variable {prog : Program} {w : World} {A : Around} {E : Value → Shared → Prop} {h : Heap} {g : Array GenState} {d : Drawn} {t : Nat} {os : OsState} {a : Addr} {o : Obj} {its : Array Value} {n : Nat}
theorem entry_hasattr : entryFor table "hasattr" = some Builtin.«hasattr» := entryFor_of_fast (by kernel_rfl)
theorem args_hasattr (a b : Value) : argsOk "hasattr" ⟨[a, b], []⟩ := by unfold argsOk; kernel_rfl
theorem typeOf_list_len : typeOf (.builtin "list.__len__") = pure (.type "wrapper_descriptor") := by show builtinType _ = _; rw [builtinType_eq_fast]; kernel_rfl
theorem wd_get : typeLookup (.type "wrapper_descriptor") "__get__" = pure (some (.builtin "wrapper_descriptor.__get__")) := by rw [typeLookup_type, builtinLookup_eq_fast]; kernel_rfl
theorem wd_set : typeLookup (.type "wrapper_descriptor") "__set__" = pure none := by rw [typeLookup_type, builtinLookup_eq_fast]; kernel_rfl
theorem wd_del : typeLookup (.type "wrapper_descriptor") "__delete__" = pure none := by rw [typeLookup_type, builtinLookup_eq_fast]; kernel_rfl
theorem sub_list_module : isSubtype (.type "list") (.type "module") = pure false := by rw [isSubtype_type]; kernel_rfl
theorem codeOn {s : Shared} {id owner n : String} {kind : Manifest.AttrKind} {b : Builtin} {self : Value} {rest : List Value} {Q : Value → Shared → Prop}
    (hp : plainId id = true) (hb : entryFor table id = some b) (hk : builtinKind id = some kind) (hkk : kind = .method ∨ kind = .slot) (hs : splitId id = some (owner, n))
    (hi : Looks (model prog w) s.heap (isInstance self (.type owner)) true) (ha : argsOk id ⟨self :: rest, []⟩)
    (hc : wpAny (model prog w) A.in1 (b ⟨self :: rest, []⟩) (fun fin s' => ∃ v, fin = .done (.ret v) ∧ Q v s') E s) :
    codeAny (model prog w) A (.call (.builtin id) ⟨self :: rest, []⟩) (fun r s' => match r with | .ok (.ret v) => Q v s' | .ok _ => False | .error e => E e s') s := by
  refine (codeAny_call_builtin hp hb ?_)
  have hcc : wpAny (model prog w) A.in1 (b ⟨self :: rest, []⟩) (fun fin s' => match fin with | .done f => (match (Except.ok f : Result) with | .ok (.ret v) => Q v s' | .ok _ => False | .error e => E e s') | .again c' => c'.quiet = true ∧ codeAny (model prog w) A c' (fun r s' => match r with | .ok (.ret v) => Q v s' | .ok _ => False | .error e => E e s') s') E s :=
    wpAny_mono hc (fun fin s' h' => by obtain ⟨v, rfl, hv⟩ := h'; exact hv) fun _ _ x => x
  simp only [checkBuiltinCall, hk, hs]
  have hsig : ∀ sig, Manifest.signature? id = some sig → Bind.checkArgs id sig ⟨self :: rest, []⟩ = pure () := by
    intro sig hsig; simp only [argsOk, hsig] at ha; exact ha
  rcases hkk with rfl | rfl
  · refine wpAny_bind (hi.here ?_)
    simp only [Bool.not_true, Bool.false_eq_true, if_false]
    cases hs' : Manifest.signature? id with
    | none => exact wpAny_pure hcc
    | some sig => have h2 := hsig sig hs'; dsimp only; rw [h2]; exact wpAny_pure hcc
  · refine wpAny_bind (hi.here ?_)
    simp only [Bool.not_true, Bool.false_eq_true, if_false]
    cases hs' : Manifest.signature? id with
    | none => exact wpAny_pure hcc
    | some sig => have h2 := hsig sig hs'; dsimp only; rw [h2]; exact wpAny_pure hcc
theorem entry_wdget : entryFor table "wrapper_descriptor.__get__" = some Builtin.«wrapper_descriptor.__get__» := entryFor_of_tree (by kernel_rfl)
theorem sub_wd : isSubtype (.type "wrapper_descriptor") (.type "wrapper_descriptor") = pure true := by rw [isSubtype_type]; kernel_rfl
theorem sub_list_list : isSubtype (.type "list") (.type "list") = pure true := by rw [isSubtype_type]; kernel_rfl
theorem args_wdget (x y z : Value) : argsOk "wrapper_descriptor.__get__" ⟨[x, y, z], []⟩ := by unfold argsOk; kernel_rfl
set_option maxHeartbeats 4000000 in
theorem len_entry {tk : Tok} {Q : Fin → Shared → Prop} (hx : h.get? a = some { cls := .type "list", data := .seq its n }) (hq : ∀ h', (∀ b o', h.get? b = some o' → h'.get? b = some o') → Q (.done (.ret (.ref h.objs.size))) ⟨h', g, d, t, os⟩) :
    wpAny (model prog w) A (Builtin.«object.__getattribute__» ⟨[.ref a, .str "__len__" tk], []⟩) Q E ⟨h, g, d, t, os⟩ := by
  have hT : (⟨h, g, d, t, os⟩ : Shared).TypeIs (.ref a) "list" := ⟨_, hx, rfl⟩
  have f1 := PySem.F.slot_list_len.lookup
  have f4 := typeOf_list_len
  have f5 := wd_get
  have f6 := wd_set
  have f7 := wd_del
  unfold Builtin.«object.__getattribute__»
  refine wpAny_bind (wpAny_pure (wpAny_bind (wpAny_pure (wpAny_bind (wpAny_typeOf hT ?_)))))
  repeat (any_goals (first | assumption | wp_step))
  refine codeOn (s := ⟨h, g, d, t, os⟩) (kind := .slot) (owner := "wrapper_descriptor") (n := "__get__") (by decide +kernel) entry_wdget (by kernel_rfl) (.inr rfl) (by kernel_rfl) ?_ (args_wdget _ _ _) ?_
  · exact Looks.of_pure (by unfold isInstance; rw [f4, pure_bind]; exact sub_wd)
  unfold Builtin.«wrapper_descriptor.__get__»
  have ho : ".".intercalate ("list.__len__".cutAt '.').dropLast = "list" := by decide +kernel
  have f9 : isSubtype (.type "list") (.type (".".intercalate ("list.__len__".cutAt '.').dropLast)) = pure true := by rw [ho]; exact sub_list_list
  refine wpAny_bind (wpAny_of_eq (a := (Value.builtin "list.__len__", some (Value.ref a), some (Value.type "list"))) (by first | rfl | kernel_rfl) ?_)
  dsimp only
  repeat (any_goals (first | assumption | wp_step))
  exact ⟨_, rfl, wpAny_pure (hq _ fun b o' e => Heap.get?_push_of_some _ e)⟩
set_option maxHeartbeats 4000000 in
theorem hasattr_list {tk : Tok} {Q : Value → Shared → Prop} (hx : h.get? a = some { cls := .type "list", data := .seq its n })
    (hq : ∀ h', (∀ b o', h.get? b = some o' → h'.get? b = some o') → Q (.bool true) ⟨h', g, d, t, os⟩) :
    wpAny (model prog w) A (call (.builtin "hasattr") [.ref a, .str "__len__" tk]) Q E ⟨h, g, d, t, os⟩ := by
  have hT : (⟨h, g, d, t, os⟩ : Shared).TypeIs (.ref a) "list" := ⟨_, hx, rfl⟩
  refine call_function_entry (by decide +kernel) (by decide +kernel) entry_hasattr (args_hasattr _ _) ?_
  have f1 := PySem.F.slot_list_len.lookup
  have f2 := PySem.F.slot_list_getattribute.lookup
  have f3 := PySem.F.slot_list_getattribute.bind (.ref a)
  have f4 := typeOf_list_len
  have f5 := wd_get
  have f6 := wd_set
  have f7 := wd_del
  have f8 := sub_list_module
  repeat (any_goals (first | assumption | wp_step))
  refine codeAny_call_builtin PySem.F.slot_list_getattribute.plain PySem.F.entry_list_ga (PySem.F.slot_list_getattribute.check _ _ _ _ _ _ _ _ hT (PySem.F.args_list_getattribute_2 _ _) ?_)
  refine len_entry hx ?_
  intro h' hk
  repeat (any_goals (first | assumption | wp_step))
  exact ⟨_, rfl, hq h' hk⟩
end
section
variable {prog : Program} {w : World} {A : Around} {E : Value → Shared → Prop} {s : Shared} {h₀ : Heap} {L : Addr} {m : Str → Option Value} {news : List (Addr × Obj)}
theorem o_hasattr {l : Addr} {items : Array Value} {c : Nat} {tk : Tok} {Q : Value → Shared → Prop} (F : Fr h₀ L s.heap m) (N : News h₀ L s.heap news) (hl : (l, listOf items c) ∈ news)
    (h : ∀ h', Fr h₀ L h' m → News h₀ L h' news → Q (.bool true) { s with heap := h' }) : wpAny (model prog w) A (call (.builtin "hasattr") [.ref l, .str "__len__" tk]) Q E s := by
  obtain ⟨hp, g, d, t, os⟩ := s
  refine hasattr_list (N _ hl).1 fun h' hk => h h' ⟨F.ns.at' fun o e => hk L o e, fun b o e => hk b o (F.keep b o e), F.above⟩ fun p hp => ⟨hk _ _ (N p hp).1, (N p hp).2⟩
end
end Mine
end
-- part G5
section
open PySem PySem.W PySem.Calls PyProof.Rows PySem.Spec
set_option maxRecDepth 100000
namespace Mine
section
variable {M : Model} {A : Around} {E : Value → Shared → Prop} {s : Shared} {env : Env}
theorem starCallG {o : Expr} {args : List Expr} {name : Str} {apos pos : Pos} {Q : Value → Shared → Prop}
    (h : wpAny M A (eval o env) (fun ov s₁ => wpAny M A (getAttr ov name true) (fun f s₂ => wpAny M A (callWith pos f [] (backTo pos (starEach args env)) []) Q E s₂) E s₁) E s)
    (he : eval (.Call (.Attribute o name apos) args [] pos) env = (do
      let ov ← eval o env
      standAt apos.atName
      let (f, first) ← holding [ov] (do pure (← getAttr ov name true, []))
      let cp ← (pure pos : Sem Pos)
      callWith cp f first (backTo pos (starEach args env)) []) := by rfl) :
    wpAny M A (eval (.Call (.Attribute o name apos) args [] pos) env) Q E s := by
  rw [he]
  refine wpAny_bind (wpAny_mono h (fun ov s₁ h₁ => wpAny_bind (wpAny_standAt (wpAny_bind (wpAny_holding (wpAny_bind (wpAny_mono h₁ (fun f s₂ h₂ => wpAny_pure ?_) fun _ _ x => x)))))) fun _ _ x => x)
  exact wpAny_bind (wpAny_pure h₂)
theorem callWith_SB {id : String} {e₁ e₂ : Expr} {p pos : Pos} {Q : Value → Shared → Prop}
    (h : wpAny M A (spliced (backTo pos (starEach [e₁, .Starred e₂ p] env))) (fun vs s₁ => True ∧ wpAny M A (call (.builtin id) ([] ++ vs)) Q E s₁) E s)
    (he : starEach [e₁, .Starred e₂ p] env = (false, eval e₁ env) :: starEach [.Starred e₂ p] env := by rfl) (hst : (backTo pos (starEach [.Starred e₂ p] env)).any (·.1) = true := by rfl) :
    wpAny M A (callWith pos (.builtin id) [] (backTo pos (starEach [e₁, .Starred e₂ p] env)) []) Q E s := by
  rw [he] at h ⊢
  refine ks_call (P := fun _ => True) (by show (false || (backTo pos (starEach [.Starred e₂ p] env)).any (·.1)) = true; rw [hst]; rfl) (fun h' _ => ⟨.machine, .inr (.inl rfl), Looks.of_pure rfl⟩) (evalArgs_plain h)
end
section
variable {prog : Program} {w : World} {A : Around} {E : Value → Shared → Prop} {s : Shared} {h₀ : Heap} {L : Addr} {m : Str → Option Value} {K : Frag} {name : Str} {v : Value}
theorem getattr_type {T : String} {expr : Bool} {Q : Value → Shared → Prop} (F : Fr h₀ L s.heap m) (X₀ : K.In h₀) (ht : typeOf (.type T) = pure (.type "type")) (hs : Manifest.isStub T = false)
    (e : findCls K (.type T) (.type "type") name = some (.val v)) (hh : handedIn v = true) (h : Q v { s with toks := s.toks + 1 }) : wpAny (model prog w) A (getAttr (.type T) name expr) Q E s := by
  have X := X₀.keeps F.keep
  have hstub : opaqueClassAbove (.type T) = pure none := by unfold opaqueClassAbove; dsimp only; rw [hs]; rfl
  have L0 : Looks (model prog w) s.heap (typeOf (.type T)) (.type "type") := Looks.of_pure ht
  have hg : findIn K (.type "type") "__getattribute__" = some (some (.builtin "type.__getattribute__")) := type_tga
  have LO : Looks (model prog w) s.heap (opaqueClassAbove (.type T)) none := Looks.of_pure hstub
  refine cls_open X LO L0 hg (looks_hook X (r := none) (by rfl)) (by show subIn K _ _ = _; rfl) e
    (wpAny_pure (by show wpAny _ _ (handedOut v) _ _ _; rw [handedOut_of hh]; exact wpAny_pure h))
end
end Mine
end
-- part G6
section
open PySem PySem.W PySem.Calls PyProof.Rows PySem.Spec
set_option maxRecDepth 100000
namespace Mine
section
variable {prog : Program} {w : World} {A A₀ : Around} {s : Shared} {K : Frag} {L : Addr} {h₀ base : Heap} {m mg mb : Str → Option Value} {news : List (Addr × Obj)} {p : Program} {loose : List Str} {mean : ExcName → Option Value}
variable {env : Env} {outer : List Env} {R : Result → Shared → Prop} {name qual : Str} {params : Arguments} {body : List Stmt} {scope : Scope} {dV kV doc pm cdv ct oc : Value} {an od : Option Addr} {osl : Array (Option Value)} {f : Addr} {args : Args}
theorem frameC {binds : List (Str × Value)} {E : Value → Shared → Prop} (B : Below A₀ base outer h₀) (F : Fr h₀ L s.heap m) (N : News h₀ L s.heap news) (hlim : h₀.NoLimit) (hA : A.frames = some (env :: outer)) (hf : env.frame = some L) (hke : env.scope.kind = .function)
    (hkind : ∀ n, ∀ x ∈ binds, scope.names.lookup x.1 = some .local ∨ (scope.names.lookup x.1 = some .cell ∧ ((cellsFrom n scope.names []).lookup x.1).isSome = true))
    (hnd : ((cellsFrom 0 scope.names []).map (·.1)).Nodup)
    (h : ∀ g L' h₁ tk cells, Fr h₀ L g m → Fr g L' h₁ (bindL (envOfC qual scope L' f cdv).kindOf binds fun _ => none) → News g L' h₁ (cells ++ news) →
      CellsAre (bindC (envOfC qual scope L' f cdv).kindOf binds fun _ => none) (cellsFrom (L' + 1) scope.names []) cells → Below A base (env :: outer) g → h₀.StaysIn g → (∀ p ∈ news, p.1 < L') →
      wpAny (model prog w) (A.deeper (envOfC qual scope L' f cdv)) (execs body (envOfC qual scope L' f cdv))
        (fun fl s' => LeaveK h₀ L m g R (match fl with | .ret v => v | _ => .none) s')
        (fun e s' => wpAny (model prog w) (A.deeper (envOfC qual scope L' f cdv)) (leaving (envOfC qual scope L' f cdv) e) (fun _ s'' => R (.error e) s'') (fun e' s'' => R (.error e') s'') s')
        { s with heap := h₁, toks := tk })
    (hk : scope.kind = .function) :
    wpAny (model prog w) A.in1 (newFunctionEnv scope mainGlobals [] binds (qual ++ ".<locals>.") (some f) cdv none builtinsNs) (fun env' s₂ => s₂.heap.NoLimit ∧ codeAny (model prog w) A (.func body env') R s₂) E s := by
  obtain ⟨FG, BG, st, lv⟩ := groundX (R := R) B F N hA hf hke
  refine wpAny_newFunctionEnv_cells hk (hkind _) fun env' he s' x => ?_
  subst he
  refine ⟨(hlim.keeps F.keep).keeps x.toInCall.keep, codeAny_func ?_⟩
  obtain ⟨h₁, tk, rfl, _⟩ := x.done
  have hk₁ := x.toInCall.keep
  obtain ⟨cells, NC, Y⟩ := Cl.news (h₀ := s.heap) (Nat.le_refl _) fun n c hm => ⟨x.cell n c (lookup_of_mem_nodup (cellsFrom_names scope.names 0 (s.heap.objs.size + 1) [] [] rfl ▸ hnd) hm), x.above n c hm⟩
  refine wpAny_mono (h _ s.heap.objs.size h₁ tk cells FG ⟨x.toInCall.ns, fun b o e => hk₁ b o (of_hideAll _ e), Nat.le_of_eq (hideAll_size _ _)⟩ (fun p hp => ?_) Y BG st (fun p hp => Heap.lt_size (N p hp).1)) (fun fl s' hl => lv _ _ hl) fun _ _ y => y
  rcases List.mem_append.mp hp with hp | hp
  · refine ⟨(NC p hp).1, (NC p hp).2.1, ?_⟩
    cases q : (hideAll s.heap (news.map (·.1))).get? p.1 with
    | none => rfl
    | some o => have := of_hideAll _ q; rw [(NC p hp).2.2] at this; cases this
  · exact ⟨hk₁ _ _ (N p hp).1, Nat.ne_of_lt (Heap.lt_size (N p hp).1), hideAll_none _ (List.mem_map_of_mem hp)⟩

theorem restC {vs : List Value} {g₁ : Addr → Option (List (Str × Value))} {binds : Addr → List (Str × Value)}
    (B : Below A₀ base outer h₀) (F : Fr h₀ L s.heap m) (X₀ : K.In h₀) (N : News h₀ L s.heap news) (T : Top p loose mean mg mb h₀) (hA : A.frames = some (env :: outer)) (hf : env.frame = some L) (hke : env.scope.kind = .function)
    (ho : K.lookup f = some ⟨oc, od, .func (fnOf name qual params body scope dV kV doc pm an cdv ct), osl⟩) (hcd : codeIn K cdv qual = true) (hroom : A.depth < recursionLimit)
    (hp : peek1 K ⟨prog, w.params⟩ (bindArgs (fnOf name qual params body scope dV kV doc pm an cdv ct) args) = some (({ cls := .type "tuple", data := .seq vs.toArray } : Obj), g₁))
    (hg : ∀ D, g₁ D = some (binds D))
    (hkind : ∀ D n, ∀ x ∈ binds D, scope.names.lookup x.1 = some .local ∨ (scope.names.lookup x.1 = some .cell ∧ ((cellsFrom n scope.names []).lookup x.1).isSome = true))
    (hnd : ((cellsFrom 0 scope.names []).map (·.1)).Nodup)
    (h : ∀ D g L' h₁ tk cells, (∀ p ∈ news, p.1 < D) → Fr h₀ L g m → Fr g L' h₁ (bindL (envOfC qual scope L' f cdv).kindOf (binds D) fun _ => none) → News g L' h₁ (cells ++ (D, ({ cls := .type "tuple", data := .seq vs.toArray } : Obj)) :: news) →
      CellsAre (bindC (envOfC qual scope L' f cdv).kindOf (binds D) fun _ => none) (cellsFrom (L' + 1) scope.names []) cells → Below A base (env :: outer) g → K.In g → Top p loose mean mg mb g → (D < L') →
      wpAny (model prog w) (A.deeper (envOfC qual scope L' f cdv)) (execs body (envOfC qual scope L' f cdv))
        (fun fl s' => LeaveK h₀ L m g R (match fl with | .ret v => v | _ => .none) s')
        (fun e s' => wpAny (model prog w) (A.deeper (envOfC qual scope L' f cdv)) (leaving (envOfC qual scope L' f cdv) e) (fun _ s'' => R (.error e) s'') (fun e' s'' => R (.error e') s'') s')
        { s with heap := h₁, toks := tk })
    (hco : scope.isCoroutine = false) (hgen : scope.isGenerator = false) (hk : scope.kind = .function) : codeAny (model prog w) A (.call (.ref f) args) R s := by
  refine codeAny_call_function (fd := fnOf name qual params body scope dV kV doc pm an cdv ct) (body := body) hroom ((X₀.keeps F.keep) _ _ ho) rfl hco hgen rfl (codeRec_of (X₀.keeps F.keep) hcd) ?_
  refine wp_of_peek1 (o := ({ cls := .type "tuple", data := .seq vs.toArray } : Obj)) F N (X₀.keeps F.keep) rfl (r := binds) (fun D h' F' N' l => ?_) _ g₁ hp hg
  exact frameC (s := { s with heap := h' }) B F' N' T.nolimit hA hf hke (hkind D) hnd (fun g L' h₁ tk cells FG FL NG Y BG st l' => h D g L' h₁ tk cells l FG FL NG Y BG (X₀.keeps st) (T.keeps st) (l' _ (.head _))) hk
end
end Mine
end
-- part M13
section
open PySem PySem.W PySem.Calls PyProof.Rows PySem.Spec
set_option maxRecDepth 100000
namespace Mine
local macro_rules | `(tactic| k_room) => `(tactic| (show _ < 1000; (try simp only [depth_mark, depth_under_make, depth_under_kw, depth_in1, depth_deeper, depth_caller]); (try dsimp only); omega))
local macro_rules | `(tactic| walk_at "getMethod type:set") => `(tactic| (k_here; refine' c_meth_type ?F ?X meta_set stub_set ?e ?h ?_; (case F => k_asm); (case X => k_asm); (case e => k_dflt k_is); (case h => k_handed)))
local macro_rules | `(tactic| k_mem) => `(tactic| (first | assumption | exact List.Mem.head _ | exact List.Mem.tail _ (by assumption) | exact List.Mem.tail _ (List.Mem.head _) | exact List.Mem.tail _ (List.Mem.tail _ (by assumption)) | exact List.Mem.tail _ (List.Mem.tail _ (List.Mem.head _)) | exact List.Mem.tail _ (List.Mem.tail _ (List.Mem.tail _ (by assumption))) | exact List.Mem.tail _ (List.Mem.tail _ (List.Mem.tail _ (List.Mem.head _))) | exact List.Mem.tail _ (List.Mem.tail _ (List.Mem.tail _ (List.Mem.tail _ (by assumption)))) | exact List.Mem.tail _ (List.Mem.tail _ (List.Mem.tail _ (List.Mem.tail _ (List.Mem.head _)))) | exact List.Mem.tail _ (List.Mem.tail _ (List.Mem.tail _ (List.Mem.tail _ (List.Mem.tail _ (by assumption))))) | exact List.Mem.tail _ (List.Mem.tail _ (List.Mem.tail _ (List.Mem.tail _ (List.Mem.tail _ (List.Mem.head _))))) | exact List.Mem.tail _ (List.Mem.tail _ (List.Mem.tail _ (List.Mem.tail _ (List.Mem.tail _ (List.Mem.tail _ (by assumption)))))) | exact List.Mem.tail _ (List.Mem.tail _ (List.Mem.tail _ (List.Mem.tail _ (List.Mem.tail _ (List.Mem.tail _ (List.Mem.head _)))))) | exact List.Mem.tail _ (List.Mem.tail _ (List.Mem.tail _ (List.Mem.tail _ (List.Mem.tail _ (List.Mem.tail _ (List.Mem.tail _ (by assumption))))))) | exact List.Mem.tail _ (List.Mem.tail _ (List.Mem.tail _ (List.Mem.tail _ (List.Mem.tail _ (List.Mem.tail _ (List.Mem.tail _ (List.Mem.head _))))))) | exact List.Mem.tail _ (List.Mem.tail _ (List.Mem.tail _ (List.Mem.tail _ (List.Mem.tail _ (List.Mem.tail _ (List.Mem.tail _ (List.Mem.tail _ (by assumption)))))))) | exact List.Mem.tail _ (List.Mem.tail _ (List.Mem.tail _ (List.Mem.tail _ (List.Mem.tail _ (List.Mem.tail _ (List.Mem.tail _ (List.Mem.tail _ (List.Mem.head _))))))))))
local macro_rules | `(tactic| walk_at "getMethod ref") => `(tactic| (k_here; k_dflt (refine' o_method ?H ?F ?X ?N ?m ?d ?e ?t ?_; (case F => k_asm); (case X => k_asm); (case N => k_asm); (case m => k_mem); (case H => assumption); (case d => k_mem); (case e => k_is); (case t => k_is))))
local macro_rules | `(tactic| walk_at "getAttr ref") => `(tactic| (k_here; (with_reducible show wpAny _ _ (getAttr (Value.ref _) (PySem.Str.ofString "_list") _) _ _ _); k_dflt (refine' o_list ?H ?F ?X ?N ?m ?d ?_; (case F => k_asm); (case X => k_asm); (case N => k_asm); (case m => k_mem); (case H => assumption); (case d => k_mem))))
local macro_rules | `(tactic| walk_at "call ref") => `(tactic| ((fail_if_success (rename NoTag => nt)); refine Tag.mk ?_))
local macro_rules | `(tactic| walk_at "compareOp NotEq ref ref") => `(tactic| refine Tag.mk ?_)
local macro_rules | `(tactic| walk_at "compareOp Eq ref ref") => `(tactic| refine Tag.mk ?_)
local macro_rules | `(tactic| walk_at "call type:list") => `(tactic| refine Tag.mk ?_)
local macro_rules | `(tactic| walk_at "call type:set") => `(tactic| refine Tag.mk ?_)
local macro_rules | `(tactic| walk_at "compareOp In int ref") => `(tactic| refine Tag.mk ?_)
local macro_rules | `(tactic| walk_at "compareOp NotIn int ref") => `(tactic| refine Tag.mk ?_)
local macro_rules | `(tactic| walk_at "CompSrc") => `(tactic| (k_here; k_dflt (refine LCg.CompSrc.range (by rfl) (by k_asm) (by k_asm) (by assumption) (by decide) (by first | exact rangeSize_nat _ _ | rfl) (by exact Nat.le_of_ble_eq_true rfl) ?_; intro g'; refine' kb_range _ (fun k' t' I' oI' C' oC' D' m' ys' h' tk' E' hC' hx' F' N' off' ne' => ?_) ?_)))
local macro_rules | `(tactic| walk_at "exec Try") => `(tactic| ((fail_if_success (rename NoTry => nt)); refine Tag.mk ?_))
local macro_rules | `(tactic| walk_at "exec If") => `(tactic| ((fail_if_success (rename NoIf => nt)); refine Tag.mk ?_))
local macro_rules | `(tactic| walk_at "binaryOp Add ref ref") => `(tactic| ((rename StopAdd => nt); refine Tag.mk ?_))
local macro_rules | `(tactic| walk_at "callWith ref") => `(tactic| ((rename StopCW => nt); refine Tag.mk ?_))
section
variable {prog : Program} {w : World} {E : Value → Shared → Prop} {s : Shared}
variable {A₀ : Around} {base h₀ : Heap} {outer : List Env} {env : Env} {L : Addr} {m mg mb : Str → Option Value} {mean : ExcName → Option Value} {news : List (Addr × Obj)} {d u : Nat} {gs : Option (List Code)}
set_option maxHeartbeats 8000000 in
theorem mInter_w {sa dx la t1 : Addr} {so : Obj} {ts : List Value} {v : Value} {c' : Nat} {ns : List Int} {Q : Value → Shared → Prop} (hd : d < 900) (hu : u < 9000)
    (B : Below A₀ base outer h₀) (F : Fr h₀ L s.heap m) (X : (Mine.hd.heap_39 w.params).In h₀) (N : News h₀ L s.heap news)
    (T : Top Mine.hd.view_39 (looseW Mine.hd.view_39 [Str.ofString "OrderedSet", Str.ofString "_law_wrongs"]) mean mg mb h₀)
    (hf : env.frame = some L) (hke : env.scope.kind = .function) (H : OSet so dx la ns) (hsa : (sa, so) ∈ news) (hdx : (dx, dictOf [] 0) ∈ news) (ht : (t1, listOf (v :: ts).toArray c') ∈ news) (hw : Wrong v) (hne : t1 ≠ sa)
    (hE : RaisedTo base env outer h₀ L m news E s) :
    wpAny (model prog w) ⟨none, d, some (env :: outer), gs, u⟩ (call (.ref 161) [.ref sa, .ref t1]) Q E s := by
  refine wpAny_call ?_
  refine restC (vs := [.ref t1]) B F X N T rfl hf hke (by k_is) (by k_is) (by k_room) (by exact rfl) (fun _ => rfl) (fun _ => kindsX (by rfl)) (by decide) ?_ rfl rfl rfl
  intro D g' L' h' tk cells l1 FG' F' N' Y B' X' T' l2
  replace N' := News.sub N' (news' := (D, _) :: news) (fun p hp => List.mem_append.mpr (.inr hp))
  clear Y
  k_steps
  refine starCallG ?_
  k_steps
  refine' getattr_type (K := Mine.hd.heap_39 w.params) (v := .builtin "set.intersection") ?F ?X ?a ?b ?c ?d ?_
  (case F => exact F')
  (case X => exact X')
  (case a => exact meta_set)
  (case b => exact stub_set)
  (case c => k_is)
  (case d => decide +kernel)
  refine callWith_SB ?_
  k_steps
  · trivial
  rename News _ _ _ _ => N₅
  rename Fr _ _ _ _ => F₅
  refine call_inter_w (items := (v :: ts).toArray) (more := ts) (H.isO F₅ X' N₅ (by k_mem)) rfl (by show u + 3 + 5 < 9900; omega) ⟨_, (N₅ _ (by k_mem : (t1, listOf (v :: ts).toArray c') ∈ _)).1, rfl, c', rfl⟩ hne (by simp) hw ?_
  intro h₄ tk₄ e hn
  (try dsimp only)
  have kd : KtsDicts [] h₀ := ktsDicts_nil
  refine leave_newE B' hn F₅ N₅ rfl rfl rfl ?_
  intro h₆ R₆ U₆
  (try dsimp only)
  exact hE _ _ _ _ FG' (RaisedN.sub R₆ fun q hq => .tail _ hq) U₆
end
end Mine
end
-- part M14
section
open PySem PySem.W PySem.Calls PyProof.Rows PySem.Spec
set_option maxRecDepth 100000
namespace Mine
local macro_rules | `(tactic| k_room) => `(tactic| (show _ < 1000; (try simp only [depth_mark, depth_under_make, depth_under_kw, depth_in1, depth_deeper, depth_caller]); (try dsimp only); omega))
local macro_rules | `(tactic| walk_at "none such") => `(tactic| skip)
local macro_rules | `(tactic| walk_at "getMethod type:set") => `(tactic| (k_here; refine' c_meth_type ?F ?X meta_set stub_set ?e ?h ?_; (case F => k_asm); (case X => k_asm); (case e => k_dflt k_is); (case h => k_handed)))
local macro_rules | `(tactic| k_mem) => `(tactic| (first | assumption | exact List.Mem.head _ | exact List.Mem.tail _ (by assumption) | exact List.Mem.tail _ (List.Mem.head _) | exact List.Mem.tail _ (List.Mem.tail _ (by assumption)) | exact List.Mem.tail _ (List.Mem.tail _ (List.Mem.head _)) | exact List.Mem.tail _ (List.Mem.tail _ (List.Mem.tail _ (by assumption))) | exact List.Mem.tail _ (List.Mem.tail _ (List.Mem.tail _ (List.Mem.head _))) | exact List.Mem.tail _ (List.Mem.tail _ (List.Mem.tail _ (List.Mem.tail _ (by assumption)))) | exact List.Mem.tail _ (List.Mem.tail _ (List.Mem.tail _ (List.Mem.tail _ (List.Mem.head _)))) | exact List.Mem.tail _ (List.Mem.tail _ (List.Mem.tail _ (List.Mem.tail _ (List.Mem.tail _ (by assumption))))) | exact List.Mem.tail _ (List.Mem.tail _ (List.Mem.tail _ (List.Mem.tail _ (List.Mem.tail _ (List.Mem.head _))))) | exact List.Mem.tail _ (List.Mem.tail _ (List.Mem.tail _ (List.Mem.tail _ (List.Mem.tail _ (List.Mem.tail _ (by assumption)))))) | exact List.Mem.tail _ (List.Mem.tail _ (List.Mem.tail _ (List.Mem.tail _ (List.Mem.tail _ (List.Mem.tail _ (List.Mem.head _)))))) | exact List.Mem.tail _ (List.Mem.tail _ (List.Mem.tail _ (List.Mem.tail _ (List.Mem.tail _ (List.Mem.tail _ (List.Mem.tail _ (by assumption))))))) | exact List.Mem.tail _ (List.Mem.tail _ (List.Mem.tail _ (List.Mem.tail _ (List.Mem.tail _ (List.Mem.tail _ (List.Mem.tail _ (List.Mem.head _))))))) | exact List.Mem.tail _ (List.Mem.tail _ (List.Mem.tail _ (List.Mem.tail _ (List.Mem.tail _ (List.Mem.tail _ (List.Mem.tail _ (List.Mem.tail _ (by assumption)))))))) | exact List.Mem.tail _ (List.Mem.tail _ (List.Mem.tail _ (List.Mem.tail _ (List.Mem.tail _ (List.Mem.tail _ (List.Mem.tail _ (List.Mem.tail _ (List.Mem.head _))))))))))
local macro_rules | `(tactic| walk_at "getMethod ref") => `(tactic| (k_here; k_dflt (refine' o_method ?H ?F ?X ?N ?m ?d ?e ?t ?_; (case F => k_asm); (case X => k_asm); (case N => k_asm); (case m => k_mem); (case H => assumption); (case d => k_mem); (case e => k_is); (case t => k_is))))
local macro_rules | `(tactic| walk_at "getAttr ref") => `(tactic| (k_here; (with_reducible show wpAny _ _ (getAttr (Value.ref _) (PySem.Str.ofString "_list") _) _ _ _); k_dflt (refine' o_list ?H ?F ?X ?N ?m ?d ?_; (case F => k_asm); (case X => k_asm); (case N => k_asm); (case m => k_mem); (case H => assumption); (case d => k_mem))))
local macro_rules | `(tactic| walk_at "call ref") => `(tactic| ((fail_if_success (rename NoTag => nt)); refine Tag.mk ?_))
local macro_rules | `(tactic| walk_at "compareOp NotEq ref ref") => `(tactic| refine Tag.mk ?_)
local macro_rules | `(tactic| walk_at "compareOp Eq ref ref") => `(tactic| refine Tag.mk ?_)
local macro_rules | `(tactic| walk_at "call type:list") => `(tactic| refine Tag.mk ?_)
local macro_rules | `(tactic| walk_at "call type:set") => `(tactic| refine Tag.mk ?_)
local macro_rules | `(tactic| walk_at "compareOp In int ref") => `(tactic| refine Tag.mk ?_)
local macro_rules | `(tactic| walk_at "compareOp NotIn int ref") => `(tactic| refine Tag.mk ?_)
local macro_rules | `(tactic| walk_at "CompSrc") => `(tactic| (k_here; k_dflt (refine LCg.CompSrc.range (by rfl) (by k_asm) (by k_asm) (by assumption) (by decide) (by first | exact rangeSize_nat _ _ | rfl) (by exact Nat.le_of_ble_eq_true rfl) ?_; intro g'; refine' kb_range _ (fun k' t' I' oI' C' oC' D' m' ys' h' tk' E' hC' hx' F' N' off' ne' => ?_) ?_)))
local macro_rules | `(tactic| walk_at "exec Try") => `(tactic| ((fail_if_success (rename NoTry => nt)); refine Tag.mk ?_))
local macro_rules | `(tactic| walk_at "exec If") => `(tactic| ((fail_if_success (rename NoIf => nt)); refine Tag.mk ?_))
local macro_rules | `(tactic| walk_at "binaryOp Add ref ref") => `(tactic| ((rename StopAdd => nt); refine Tag.mk ?_))
local macro_rules | `(tactic| walk_at "callWith ref") => `(tactic| ((rename StopCW => nt); refine Tag.mk ?_))
section
variable {prog : Program} {w : World} {E : Value → Shared → Prop} {s : Shared}
variable {A₀ : Around} {base h₀ : Heap} {outer : List Env} {env : Env} {L : Addr} {m mg mb : Str → Option Value} {mean : ExcName → Option Value} {news : List (Addr × Obj)} {d u : Nat} {gs : Option (List Code)}
set_option maxHeartbeats 8000000 in
theorem mDiff_w {sa dx la t1 : Addr} {so : Obj} {ts more : List Value} {v : Value} {ms : List Int} {c' : Nat} {ns : List Int} {Q : Value → Shared → Prop} (hd : d < 900) (hu : u < 9000)
    (B : Below A₀ base outer h₀) (F : Fr h₀ L s.heap m) (X : (Mine.hd.heap_39 w.params).In h₀) (N : News h₀ L s.heap news)
    (T : Top Mine.hd.view_39 (looseW Mine.hd.view_39 [Str.ofString "OrderedSet", Str.ofString "_law_wrongs"]) mean mg mb h₀)
    (hf : env.frame = some L) (hke : env.scope.kind = .function) (H : OSet so dx la ns) (hsa : (sa, so) ∈ news) (hdx : (dx, dictOf [] 0) ∈ news) (ht : (t1, listOf (ts ++ v :: more).toArray c') ∈ news) (hm : IntsAre ts ms) (hw : Wrong v) (hne : t1 ≠ sa)
    (hE : RaisedTo base env outer h₀ L m news E s) :
    wpAny (model prog w) ⟨none, d, some (env :: outer), gs, u⟩ (call (.ref 185) [.ref sa, .ref t1]) Q E s := by
  refine wpAny_call ?_
  refine restC (vs := [.ref t1]) B F X N T rfl hf hke (by k_is) (by k_is) (by k_room) (by exact rfl) (fun _ => rfl) (fun _ => kindsX (by rfl)) (by decide) ?_ rfl rfl rfl
  intro D g' L' h' tk cells l1 FG' F' N' Y B' X' T' l2
  replace N' := News.sub N' (news' := (D, _) :: news) (fun p hp => List.mem_append.mpr (.inr hp))
  clear Y
  k_steps
  refine starCallG ?_
  k_steps
  refine' getattr_type (K := Mine.hd.heap_39 w.params) (v := .builtin "set.difference") ?F ?X ?a ?b ?c ?d ?_
  (case F => exact F')
  (case X => exact X')
  (case a => exact meta_set)
  (case b => exact stub_set)
  (case c => k_is)
  (case d => decide +kernel)
  refine callWith_SB ?_
  k_steps
  · trivial
  rename News _ _ _ _ => N₅
  rename Fr _ _ _ _ => F₅
  obtain ⟨es, ep, t, hdat, G⟩ := H.data
  refine call_diff_w (vs := ts) (more := more) (items := (ts ++ v :: more).toArray) (H.isO F₅ X' N₅ (by k_mem)) hdat G rfl (by show u + 3 + 5 < 9900; omega) ⟨_, (N₅ _ (by k_mem : (t1, listOf (ts ++ v :: more).toArray c') ∈ _)).1, rfl, c', rfl⟩ (by simp) hm hw ?_
  intro h₄ tk₄ e hn
  (try dsimp only)
  have kd : KtsDicts [] h₀ := ktsDicts_nil
  refine leave_newE B' hn F₅ N₅ rfl rfl rfl ?_
  intro h₆ R₆ U₆
  (try dsimp only)
  exact hE _ _ _ _ FG' (RaisedN.sub R₆ fun q hq => .tail _ hq) U₆
end
end Mine
end
-- part M15
section
open PySem PySem.W PySem.Calls PyProof.Rows PySem.Spec
set_option maxRecDepth 100000
namespace Mine
local macro_rules | `(tactic| k_room) => `(tactic| (show _ < 1000; (try simp only [depth_mark, depth_under_make, depth_under_kw, depth_in1, depth_deeper, depth_caller]); (try dsimp only); omega))
local macro_rules | `(tactic| walk_at "getMethod type:set") => `(tactic| (k_here; refine' c_meth_type ?F ?X meta_set stub_set ?e ?h ?_; (case F => k_asm); (case X => k_asm); (case e => k_dflt k_is); (case h => k_handed)))
local macro_rules | `(tactic| k_mem) => `(tactic| (first | assumption | exact List.Mem.head _ | exact List.Mem.tail _ (by assumption) | exact List.Mem.tail _ (List.Mem.head _) | exact List.Mem.tail _ (List.Mem.tail _ (by assumption)) | exact List.Mem.tail _ (List.Mem.tail _ (List.Mem.head _)) | exact List.Mem.tail _ (List.Mem.tail _ (List.Mem.tail _ (by assumption))) | exact List.Mem.tail _ (List.Mem.tail _ (List.Mem.tail _ (List.Mem.head _))) | exact List.Mem.tail _ (List.Mem.tail _ (List.Mem.tail _ (List.Mem.tail _ (by assumption)))) | exact List.Mem.tail _ (List.Mem.tail _ (List.Mem.tail _ (List.Mem.tail _ (List.Mem.head _)))) | exact List.Mem.tail _ (List.Mem.tail _ (List.Mem.tail _ (List.Mem.tail _ (List.Mem.tail _ (by assumption))))) | exact List.Mem.tail _ (List.Mem.tail _ (List.Mem.tail _ (List.Mem.tail _ (List.Mem.tail _ (List.Mem.head _))))) | exact List.Mem.tail _ (List.Mem.tail _ (List.Mem.tail _ (List.Mem.tail _ (List.Mem.tail _ (List.Mem.tail _ (by assumption)))))) | exact List.Mem.tail _ (List.Mem.tail _ (List.Mem.tail _ (List.Mem.tail _ (List.Mem.tail _ (List.Mem.tail _ (List.Mem.head _)))))) | exact List.Mem.tail _ (List.Mem.tail _ (List.Mem.tail _ (List.Mem.tail _ (List.Mem.tail _ (List.Mem.tail _ (List.Mem.tail _ (by assumption))))))) | exact List.Mem.tail _ (List.Mem.tail _ (List.Mem.tail _ (List.Mem.tail _ (List.Mem.tail _ (List.Mem.tail _ (List.Mem.tail _ (List.Mem.head _))))))) | exact List.Mem.tail _ (List.Mem.tail _ (List.Mem.tail _ (List.Mem.tail _ (List.Mem.tail _ (List.Mem.tail _ (List.Mem.tail _ (List.Mem.tail _ (by assumption)))))))) | exact List.Mem.tail _ (List.Mem.tail _ (List.Mem.tail _ (List.Mem.tail _ (List.Mem.tail _ (List.Mem.tail _ (List.Mem.tail _ (List.Mem.tail _ (List.Mem.head _))))))))))
local macro_rules | `(tactic| walk_at "getMethod ref") => `(tactic| (k_here; k_dflt (refine' o_method ?H ?F ?X ?N ?m ?d ?e ?t ?_; (case F => k_asm); (case X => k_asm); (case N => k_asm); (case m => k_mem); (case H => assumption); (case d => k_mem); (case e => k_is); (case t => k_is))))
local macro_rules | `(tactic| walk_at "getAttr ref") => `(tactic| (k_here; (with_reducible show wpAny _ _ (getAttr (Value.ref _) (PySem.Str.ofString "_list") _) _ _ _); k_dflt (refine' o_list ?H ?F ?X ?N ?m ?d ?_; (case F => k_asm); (case X => k_asm); (case N => k_asm); (case m => k_mem); (case H => assumption); (case d => k_mem))))
local macro_rules | `(tactic| walk_at "call ref") => `(tactic| ((fail_if_success (rename NoTag => nt)); refine Tag.mk ?_))
local macro_rules | `(tactic| walk_at "compareOp NotEq ref ref") => `(tactic| refine Tag.mk ?_)
local macro_rules | `(tactic| walk_at "compareOp Eq ref ref") => `(tactic| refine Tag.mk ?_)
local macro_rules | `(tactic| walk_at "call type:list") => `(tactic| refine Tag.mk ?_)
local macro_rules | `(tactic| walk_at "call type:set") => `(tactic| refine Tag.mk ?_)
local macro_rules | `(tactic| walk_at "compareOp In int ref") => `(tactic| refine Tag.mk ?_)
local macro_rules | `(tactic| walk_at "compareOp NotIn int ref") => `(tactic| refine Tag.mk ?_)
local macro_rules | `(tactic| walk_at "CompSrc") => `(tactic| (k_here; k_dflt (refine LCg.CompSrc.range (by rfl) (by k_asm) (by k_asm) (by assumption) (by decide) (by first | exact rangeSize_nat _ _ | rfl) (by exact Nat.le_of_ble_eq_true rfl) ?_; intro g'; refine' kb_range _ (fun k' t' I' oI' C' oC' D' m' ys' h' tk' E' hC' hx' F' N' off' ne' => ?_) ?_)))
local macro_rules | `(tactic| walk_at "exec Try") => `(tactic| ((fail_if_success (rename NoTry => nt)); refine Tag.mk ?_))
local macro_rules | `(tactic| walk_at "exec If") => `(tactic| ((fail_if_success (rename NoIf => nt)); refine Tag.mk ?_))
local macro_rules | `(tactic| walk_at "binaryOp Add ref ref") => `(tactic| ((rename StopAdd => nt); refine Tag.mk ?_))
local macro_rules | `(tactic| walk_at "callWith ref") => `(tactic| ((rename StopCW => nt); refine Tag.mk ?_))
section
variable {prog : Program} {w : World} {E : Value → Shared → Prop} {s : Shared}
variable {A₀ : Around} {base h₀ : Heap} {outer : List Env} {env : Env} {L : Addr} {m mg mb : Str → Option Value} {mean : ExcName → Option Value} {news : List (Addr × Obj)} {d u : Nat} {gs : Option (List Code)}
set_option maxHeartbeats 8000000 in
theorem mInteru_w {sa dx la t1 : Addr} {so : Obj} {ts : List Value} {v : Value} {c' : Nat} {ns : List Int} {Q : Value → Shared → Prop} (hd : d < 900) (hu : u < 9000)
    (B : Below A₀ base outer h₀) (F : Fr h₀ L s.heap m) (X : (Mine.hd.heap_39 w.params).In h₀) (N : News h₀ L s.heap news)
    (T : Top Mine.hd.view_39 (looseW Mine.hd.view_39 [Str.ofString "OrderedSet", Str.ofString "_law_wrongs"]) mean mg mb h₀)
    (hf : env.frame = some L) (hke : env.scope.kind = .function) (H : OSet so dx la ns) (hsa : (sa, so) ∈ news) (hdx : (dx, dictOf [] 0) ∈ news) (ht : (t1, listOf (v :: ts).toArray c') ∈ news) (hw : Wrong v) (hne : t1 ≠ sa)
    (hE : RaisedTo base env outer h₀ L m news E s) :
    wpAny (model prog w) ⟨none, d, some (env :: outer), gs, u⟩ (call (.ref 197) [.ref sa, .ref t1]) Q E s := by
  refine wpAny_call ?_
  refine restC (vs := [.ref t1]) B F X N T rfl hf hke (by k_is) (by k_is) (by k_room) (by exact rfl) (fun _ => rfl) (fun _ => kindsX (by rfl)) (by decide) ?_ rfl rfl rfl
  intro D g' L' h' tk cells l1 FG' F' N' Y B' X' T' l2
  obtain ⟨o', hE', d1'⟩ := CellsAre.one Y
  subst hE'
  clear Y
  simp only [List.cons_append, List.nil_append] at N'
  (try dsimp only)
  k_steps
  refine starCallG ?_
  k_steps
  refine' getattr_type (K := Mine.hd.heap_39 w.params) (v := .builtin "set.intersection_update") ?F ?X ?a ?b ?c ?d ?_
  (case F => exact F')
  (case X => exact X')
  (case a => exact meta_set)
  (case b => exact stub_set)
  (case c => k_is)
  (case d => decide +kernel)
  refine callWith_SB ?_
  k_steps
  · trivial
  rename News _ _ _ _ => N₅
  rename Fr _ _ _ _ => F₅
  refine call_interu_w (items := (v :: ts).toArray) (more := ts) (H.isO F₅ X' N₅ (by k_mem)) rfl (by show u + 3 + 5 < 9900; omega) ⟨_, (N₅ _ (by k_mem : (t1, listOf (v :: ts).toArray c') ∈ _)).1, rfl, c', rfl⟩ hne (by simp) hw ?_
  intro h₄ tk₄ e hn
  (try dsimp only)
  have kd : KtsDicts [] h₀ := ktsDicts_nil
  refine leave_newE B' hn F₅ N₅ rfl rfl rfl ?_
  intro h₆ R₆ U₆
  (try dsimp only)
  exact hE _ _ _ _ FG' (RaisedN.sub R₆ fun q hq => .tail _ (.tail _ hq)) U₆
end
end Mine
end
-- part M16
section
open PySem PySem.W PySem.Calls PyProof.Rows PySem.Spec
set_option maxRecDepth 100000
namespace Mine
local macro_rules | `(tactic| k_room) => `(tactic| (show _ < 1000; (try simp only [depth_mark, depth_under_make, depth_under_kw, depth_in1, depth_deeper, depth_caller]); (try dsimp only); omega))
local macro_rules | `(tactic| walk_at "none such") => `(tactic| skip)
local macro_rules | `(tactic| walk_at "getMethod type:set") => `(tactic| (k_here; refine' c_meth_type ?F ?X meta_set stub_set ?e ?h ?_; (case F => k_asm); (case X => k_asm); (case e => k_dflt k_is); (case h => k_handed)))
local macro_rules | `(tactic| k_mem) => `(tactic| (first | assumption | exact List.Mem.head _ | exact List.Mem.tail _ (by assumption) | exact List.Mem.tail _ (List.Mem.head _) | exact List.Mem.tail _ (List.Mem.tail _ (by assumption)) | exact List.Mem.tail _ (List.Mem.tail _ (List.Mem.head _)) | exact List.Mem.tail _ (List.Mem.tail _ (List.Mem.tail _ (by assumption))) | exact List.Mem.tail _ (List.Mem.tail _ (List.Mem.tail _ (List.Mem.head _))) | exact List.Mem.tail _ (List.Mem.tail _ (List.Mem.tail _ (List.Mem.tail _ (by assumption)))) | exact List.Mem.tail _ (List.Mem.tail _ (List.Mem.tail _ (List.Mem.tail _ (List.Mem.head _)))) | exact List.Mem.tail _ (List.Mem.tail _ (List.Mem.tail _ (List.Mem.tail _ (List.Mem.tail _ (by assumption))))) | exact List.Mem.tail _ (List.Mem.tail _ (List.Mem.tail _ (List.Mem.tail _ (List.Mem.tail _ (List.Mem.head _))))) | exact List.Mem.tail _ (List.Mem.tail _ (List.Mem.tail _ (List.Mem.tail _ (List.Mem.tail _ (List.Mem.tail _ (by assumption)))))) | exact List.Mem.tail _ (List.Mem.tail _ (List.Mem.tail _ (List.Mem.tail _ (List.Mem.tail _ (List.Mem.tail _ (List.Mem.head _)))))) | exact List.Mem.tail _ (List.Mem.tail _ (List.Mem.tail _ (List.Mem.tail _ (List.Mem.tail _ (List.Mem.tail _ (List.Mem.tail _ (by assumption))))))) | exact List.Mem.tail _ (List.Mem.tail _ (List.Mem.tail _ (List.Mem.tail _ (List.Mem.tail _ (List.Mem.tail _ (List.Mem.tail _ (List.Mem.head _))))))) | exact List.Mem.tail _ (List.Mem.tail _ (List.Mem.tail _ (List.Mem.tail _ (List.Mem.tail _ (List.Mem.tail _ (List.Mem.tail _ (List.Mem.tail _ (by assumption)))))))) | exact List.Mem.tail _ (List.Mem.tail _ (List.Mem.tail _ (List.Mem.tail _ (List.Mem.tail _ (List.Mem.tail _ (List.Mem.tail _ (List.Mem.tail _ (List.Mem.head _))))))))))
local macro_rules | `(tactic| walk_at "getMethod ref") => `(tactic| (k_here; k_dflt (refine' o_method ?H ?F ?X ?N ?m ?d ?e ?t ?_; (case F => k_asm); (case X => k_asm); (case N => k_asm); (case m => k_mem); (case H => assumption); (case d => k_mem); (case e => k_is); (case t => k_is))))
local macro_rules | `(tactic| walk_at "getAttr ref") => `(tactic| (k_here; (with_reducible show wpAny _ _ (getAttr (Value.ref _) (PySem.Str.ofString "_list") _) _ _ _); k_dflt (refine' o_list ?H ?F ?X ?N ?m ?d ?_; (case F => k_asm); (case X => k_asm); (case N => k_asm); (case m => k_mem); (case H => assumption); (case d => k_mem))))
local macro_rules | `(tactic| walk_at "call ref") => `(tactic| ((fail_if_success (rename NoTag => nt)); refine Tag.mk ?_))
local macro_rules | `(tactic| walk_at "compareOp NotEq ref ref") => `(tactic| refine Tag.mk ?_)
local macro_rules | `(tactic| walk_at "compareOp Eq ref ref") => `(tactic| refine Tag.mk ?_)
local macro_rules | `(tactic| walk_at "call type:list") => `(tactic| refine Tag.mk ?_)
local macro_rules | `(tactic| walk_at "call type:set") => `(tactic| refine Tag.mk ?_)
local macro_rules | `(tactic| walk_at "compareOp In int ref") => `(tactic| refine Tag.mk ?_)
local macro_rules | `(tactic| walk_at "compareOp NotIn int ref") => `(tactic| refine Tag.mk ?_)
local macro_rules | `(tactic| walk_at "CompSrc") => `(tactic| (k_here; k_dflt (refine LCg.CompSrc.range (by rfl) (by k_asm) (by k_asm) (by assumption) (by decide) (by first | exact rangeSize_nat _ _ | rfl) (by exact Nat.le_of_ble_eq_true rfl) ?_; intro g'; refine' kb_range _ (fun k' t' I' oI' C' oC' D' m' ys' h' tk' E' hC' hx' F' N' off' ne' => ?_) ?_)))
local macro_rules | `(tactic| walk_at "exec Try") => `(tactic| ((fail_if_success (rename NoTry => nt)); refine Tag.mk ?_))
local macro_rules | `(tactic| walk_at "exec If") => `(tactic| ((fail_if_success (rename NoIf => nt)); refine Tag.mk ?_))
local macro_rules | `(tactic| walk_at "binaryOp Add ref ref") => `(tactic| ((rename StopAdd => nt); refine Tag.mk ?_))
local macro_rules | `(tactic| walk_at "callWith ref") => `(tactic| ((rename StopCW => nt); refine Tag.mk ?_))
section
variable {prog : Program} {w : World} {E : Value → Shared → Prop} {s : Shared}
variable {A₀ : Around} {base h₀ : Heap} {outer : List Env} {env : Env} {L : Addr} {m mg mb : Str → Option Value} {mean : ExcName → Option Value} {news : List (Addr × Obj)} {d u : Nat} {gs : Option (List Code)}
set_option maxHeartbeats 8000000 in
theorem mDiffu_w {sa dx la t1 : Addr} {so : Obj} {ts : List Value} {v : Value} {c' : Nat} {ns : List Int} {Q : Value → Shared → Prop} (hd : d < 900) (hu : u < 9000)
    (B : Below A₀ base outer h₀) (F : Fr h₀ L s.heap m) (X : (Mine.hd.heap_39 w.params).In h₀) (N : News h₀ L s.heap news)
    (T : Top Mine.hd.view_39 (looseW Mine.hd.view_39 [Str.ofString "OrderedSet", Str.ofString "_law_wrongs"]) mean mg mb h₀)
    (hf : env.frame = some L) (hke : env.scope.kind = .function) (H : OSet so dx la ns) (hsa : (sa, so) ∈ news) (hdx : (dx, dictOf [] 0) ∈ news) (ht : (t1, listOf (v :: ts).toArray c') ∈ news) (hw : Wrong v) (hne : t1 ≠ sa)
    (hE : RaisedTo base env outer h₀ L m news E s) :
    wpAny (model prog w) ⟨none, d, some (env :: outer), gs, u⟩ (call (.ref 221) [.ref sa, .ref t1]) Q E s := by
  refine wpAny_call ?_
  refine restC (vs := [.ref t1]) B F X N T rfl hf hke (by k_is) (by k_is) (by k_room) (by exact rfl) (fun _ => rfl) (fun _ => kindsX (by rfl)) (by decide) ?_ rfl rfl rfl
  intro D g' L' h' tk cells l1 FG' F' N' Y B' X' T' l2
  obtain ⟨o', hE', d1'⟩ := CellsAre.one Y
  subst hE'
  clear Y
  simp only [List.cons_append, List.nil_append] at N'
  (try dsimp only)
  k_steps
  refine starCallG ?_
  k_steps
  refine' getattr_type (K := Mine.hd.heap_39 w.params) (v := .builtin "set.difference_update") ?F ?X ?a ?b ?c ?d ?_
  (case F => exact F')
  (case X => exact X')
  (case a => exact meta_set)
  (case b => exact stub_set)
  (case c => k_is)
  (case d => decide +kernel)
  refine callWith_SB ?_
  k_steps
  · trivial
  rename News _ _ _ _ => N₅
  rename Fr _ _ _ _ => F₅
  obtain ⟨es, ep, t, hdat, G⟩ := H.data
  refine call_diffu_w (items := (v :: ts).toArray) (more := ts) (H.isO F₅ X' N₅ (by k_mem)) hdat G.tab rfl (by show u + 3 + 5 < 9900; omega) ⟨_, (N₅ _ (by k_mem : (t1, listOf (v :: ts).toArray c') ∈ _)).1, rfl, c', rfl⟩ hne (by simp) hw ?_
  intro h₄ tk₄ e hn
  (try dsimp only)
  have kd : KtsDicts [] h₀ := ktsDicts_nil
  refine leave_newE B' hn F₅ N₅ rfl rfl rfl ?_
  intro h₆ R₆ U₆
  (try dsimp only)
  exact hE _ _ _ _ FG' (RaisedN.sub R₆ fun q hq => .tail _ (.tail _ hq)) U₆
end
end Mine
end
-- part G7
section
open PySem PySem.W PySem.Calls PyProof.Rows PySem.Spec
namespace Mine
section
variable {prog : Program} {w : World} {A : Around} {E : Value → Shared → Prop} {s : Shared} {env : Env} {h₀ : Heap} {m : Str → Option Value}
theorem kind_test {x : Str} {px cpos kp : Pos} {k v : Int} {t : Tok} {kd : Nat} {whole : Sem Value} {Q : Bool → Shared → Prop} (F : Fr h₀ env.locals s.heap m) (hm : m x = some (.int v t)) (hx : env.kindOf x = some .local) (hk : env.scope.kind = .function) (hd : (x == ("__debug__" : Str)) = false)
    (h : Q (v == k) { s with toks := s.toks + 1 }) : wpAny (model prog w) A (PySem.isTrue (.Compare (.Name x px) [.Eq] [.Constant (.int k) kd kp] cpos) env whole) Q E s := by
  refine wpAny_isTrue_Compare1 (wpAny_Name (wpAny_loadName_local hk hx F.ns hm ?_) hd) (by rfl)
  refine wpAny_Constant_int ?_
  refine eq_int ?_
  exact wpAny_truthy_bool h
/-- one elif on an int local that is another int: skipped -/
theorem elif_no {x : Str} {px cpos kp pos : Pos} {k v : Int} {t : Tok} {kd : Nat} {body : List Stmt} {st : Stmt} {Q : Flow → Shared → Prop} (F : Fr h₀ env.locals s.heap m) (hm : m x = some (.int v t)) (hx : env.kindOf x = some .local) (hk : env.scope.kind = .function) (hd : (x == ("__debug__" : Str)) = false) (hv : (v == k) = false)
    (h : Tag (wpAny (model prog w) A (exec st env) Q E { s with toks := s.toks + 1 })) : wpAny (model prog w) A (exec (.If (.Compare (.Name x px) [.Eq] [.Constant (.int k) kd kp] cpos) body [st] pos) env) Q E s := by
  refine if_no (kind_test F hm hx hk hd ?_)
  exact ⟨hv, h⟩
/-- one elif on an int local that is this int: taken -/
theorem elif_yes {x : Str} {px cpos kp pos : Pos} {k v : Int} {t : Tok} {kd : Nat} {body orelse : List Stmt} {Q : Flow → Shared → Prop} (F : Fr h₀ env.locals s.heap m) (hm : m x = some (.int v t)) (hx : env.kindOf x = some .local) (hk : env.scope.kind = .function) (hd : (x == ("__debug__" : Str)) = false) (hv : (v == k) = true)
    (h : wpAny (model prog w) A (execs body env) Q E { s with toks := s.toks + 1 }) : wpAny (model prog w) A (exec (.If (.Compare (.Name x px) [.Eq] [.Constant (.int k) kd kp] cpos) body orelse pos) env) Q E s := by
  refine wpAny_If (kind_test F hm hx hk hd ?_)
  rw [hv, if_pos rfl]; exact h
end
end Mine
end
-- part M12
section
open PySem PySem.W PySem.Calls PyProof.Rows PySem.Spec
set_option maxRecDepth 100000
namespace Mine
local macro_rules | `(tactic| k_room) => `(tactic| (show _ < 1000; (try simp only [depth_mark, depth_under_make, depth_under_kw, depth_in1, depth_deeper, depth_caller]); (try dsimp only); omega))
local macro_rules | `(tactic| walk_at "none such") => `(tactic| skip)
local macro_rules | `(tactic| walk_at "getMethod type:set") => `(tactic| (k_here; refine' c_meth_type ?F ?X meta_set stub_set ?e ?h ?_; (case F => k_asm); (case X => k_asm); (case e => k_dflt k_is); (case h => k_handed)))
local macro_rules | `(tactic| k_mem) => `(tactic| (first | assumption | exact List.Mem.head _ | exact List.Mem.tail _ (by assumption) | exact List.Mem.tail _ (List.Mem.head _) | exact List.Mem.tail _ (List.Mem.tail _ (by assumption)) | exact List.Mem.tail _ (List.Mem.tail _ (List.Mem.head _)) | exact List.Mem.tail _ (List.Mem.tail _ (List.Mem.tail _ (by assumption))) | exact List.Mem.tail _ (List.Mem.tail _ (List.Mem.tail _ (List.Mem.head _))) | exact List.Mem.tail _ (List.Mem.tail _ (List.Mem.tail _ (List.Mem.tail _ (by assumption)))) | exact List.Mem.tail _ (List.Mem.tail _ (List.Mem.tail _ (List.Mem.tail _ (List.Mem.head _)))) | exact List.Mem.tail _ (List.Mem.tail _ (List.Mem.tail _ (List.Mem.tail _ (List.Mem.tail _ (by assumption))))) | exact List.Mem.tail _ (List.Mem.tail _ (List.Mem.tail _ (List.Mem.tail _ (List.Mem.tail _ (List.Mem.head _))))) | exact List.Mem.tail _ (List.Mem.tail _ (List.Mem.tail _ (List.Mem.tail _ (List.Mem.tail _ (List.Mem.tail _ (by assumption)))))) | exact List.Mem.tail _ (List.Mem.tail _ (List.Mem.tail _ (List.Mem.tail _ (List.Mem.tail _ (List.Mem.tail _ (List.Mem.head _)))))) | exact List.Mem.tail _ (List.Mem.tail _ (List.Mem.tail _ (List.Mem.tail _ (List.Mem.tail _ (List.Mem.tail _ (List.Mem.tail _ (by assumption))))))) | exact List.Mem.tail _ (List.Mem.tail _ (List.Mem.tail _ (List.Mem.tail _ (List.Mem.tail _ (List.Mem.tail _ (List.Mem.tail _ (List.Mem.head _))))))) | exact List.Mem.tail _ (List.Mem.tail _ (List.Mem.tail _ (List.Mem.tail _ (List.Mem.tail _ (List.Mem.tail _ (List.Mem.tail _ (List.Mem.tail _ (by assumption)))))))) | exact List.Mem.tail _ (List.Mem.tail _ (List.Mem.tail _ (List.Mem.tail _ (List.Mem.tail _ (List.Mem.tail _ (List.Mem.tail _ (List.Mem.tail _ (List.Mem.head _))))))))))
local macro_rules | `(tactic| walk_at "getMethod ref") => `(tactic| (k_here; k_dflt (refine' o_method ?H ?F ?X ?N ?m ?d ?e ?t ?_; (case F => k_asm); (case X => k_asm); (case N => k_asm); (case m => k_mem); (case H => assumption); (case d => k_mem); (case e => k_is); (case t => k_is))))
local macro_rules | `(tactic| walk_at "getAttr ref") => `(tactic| (k_here; (with_reducible show wpAny _ _ (getAttr (Value.ref _) (PySem.Str.ofString "_list") _) _ _ _); k_dflt (refine' o_list ?H ?F ?X ?N ?m ?d ?_; (case F => k_asm); (case X => k_asm); (case N => k_asm); (case m => k_mem); (case H => assumption); (case d => k_mem))))
local macro_rules | `(tactic| walk_at "call ref") => `(tactic| ((fail_if_success (rename NoTag => nt)); refine Tag.mk ?_))
local macro_rules | `(tactic| walk_at "compareOp NotEq ref ref") => `(tactic| refine Tag.mk ?_)
local macro_rules | `(tactic| walk_at "compareOp Eq ref ref") => `(tactic| refine Tag.mk ?_)
local macro_rules | `(tactic| walk_at "call type:list") => `(tactic| refine Tag.mk ?_)
local macro_rules | `(tactic| walk_at "call type:set") => `(tactic| refine Tag.mk ?_)
local macro_rules | `(tactic| walk_at "compareOp In int ref") => `(tactic| refine Tag.mk ?_)
local macro_rules | `(tactic| walk_at "compareOp NotIn int ref") => `(tactic| refine Tag.mk ?_)
local macro_rules | `(tactic| walk_at "CompSrc") => `(tactic| (k_here; k_dflt (refine LCg.CompSrc.range (by rfl) (by k_asm) (by k_asm) (by assumption) (by decide) (by first | exact rangeSize_nat _ _ | rfl) (by exact Nat.le_of_ble_eq_true rfl) ?_; intro g'; refine' kb_range _ (fun k' t' I' oI' C' oC' D' m' ys' h' tk' E' hC' hx' F' N' off' ne' => ?_) ?_)))
local macro_rules | `(tactic| walk_at "exec Try") => `(tactic| ((fail_if_success (rename NoTry => nt)); refine Tag.mk ?_))
local macro_rules | `(tactic| walk_at "exec If") => `(tactic| ((fail_if_success (rename NoIf => nt)); refine Tag.mk ?_))
local macro_rules | `(tactic| walk_at "binaryOp Add ref ref") => `(tactic| ((rename StopAdd => nt); refine Tag.mk ?_))
local macro_rules | `(tactic| walk_at "callWith ref") => `(tactic| ((rename StopCW => nt); refine Tag.mk ?_))
local macro_rules | `(tactic| walk_at "eval Call") => `(tactic| ((rename StopCW => nt); refine Tag.mk ?_))
section
variable {prog : Program} {w : World} {E : Value → Shared → Prop} {s : Shared}
variable {A₀ : Around} {base h₀ : Heap} {outer : List Env} {env : Env} {L : Addr} {m mg mb : Str → Option Value} {mean : ExcName → Option Value} {news : List (Addr × Obj)} {d u : Nat} {gs : Option (List Code)}
set_option maxHeartbeats 16000000 in
theorem refused_ok {sa dx la rl : Addr} {so : Obj} {v : Value} {vs rs : List Value} {c c' : Nat} {ns ms : List Int} {kind : Int} {tkk : Tok} {rest : List (Addr × Obj)} {Q : Value → Shared → Prop} (hd : d < 700) (hu : u < 7000)
    (B : Below A₀ base [] h₀) (F : Fr h₀ L s.heap m) (X : (Mine.hd.heap_39 w.params).In h₀) (XB : (Mine.hd.heap_39 w.params).In base) (N : News h₀ L s.heap ((sa, so) :: (la, listOf vs.toArray c) :: rest))
    (T : Top Mine.hd.view_39 (looseW Mine.hd.view_39 [Str.ofString "OrderedSet", Str.ofString "_law_wrongs"]) mean mg mb h₀)
    (TB : Top Mine.hd.view_39 (looseW Mine.hd.view_39 [Str.ofString "OrderedSet", Str.ofString "_law_wrongs"]) mean mg mb base)
    (hf : env.frame = some L) (hlo : env.locals = L) (hke : env.scope.kind = .function) (H : OSet so dx la ns) (hv : IntsAre vs ns) (hn : ns.Nodup) (hrn : ∀ k ∈ ns, 0 ≤ k ∧ k < 12) (hdx : (dx, dictOf [] 0) ∈ rest) (hrl : (rl, listOf rs.toArray c') ∈ rest) (hm : IntsAre rs ms) (hr : ∀ k ∈ ms, 0 ≤ k ∧ k < 12) (hms : ms.length ≤ 12)
    (hsl : sa ≠ la) (hra : ∀ p ∈ rest, p.1 ≠ sa ∧ p.1 ≠ la) (hw : Wrong v) (hk0 : 0 ≤ kind) (hk1 : kind < 14)
    (hQ : ∀ so' vs' c₂ h' tk, OSet so' dx la (if kind = 13 then ms.foldl addN ns else ns) → IntsAre vs' (if kind = 13 then ms.foldl addN ns else ns) → Fr h₀ L h' m → News h₀ L h' ((sa, so') :: (la, listOf vs'.toArray c₂) :: rest) → Q (.bool true) { s with heap := h', toks := tk }) :
    wpAny (model prog w) ⟨none, d, some [env], gs, u⟩ (call (.ref 253) [.ref sa, .int kind tkk, v, .ref rl]) Q E s := by
  obtain ⟨sc, lo, gl, ce, qu, fu, co, fr, bu⟩ := env
  obtain ⟨k1, k2, k3, k4, k5⟩ := sc
  dsimp only at hf hke hlo
  subst hf hke hlo
  refine wpAny_call ?_
  refine code_defR B F X N T rfl rfl rfl (by k_is) (by k_is) (by k_room) (BindsTo.of_eq rfl) (locs rfl) ?_ rfl rfl rfl rfl (by decide)
  intro g' L' h' FG' F' N' B' X' T' D'
  (try dsimp only)
  k_steps
  rename News _ _ _ _ => NN
  rename Fr _ _ _ _ => FF
  refine kmk_add_lit (zs := rs ++ [v]) FF NN (a := rl) (its := rs.toArray) (its2 := [v].toArray) ⟨_, (NN _ (.tail _ (.tail _ (.tail _ hrl)))).1, rfl, c', rfl⟩ ⟨_, (NN _ (.head _)).1, rfl, _, rfl⟩ (by simp) ?_ (by rw [sizeLine_eq]; simp; rw [hm.length]; omega)
  intro D h₁ F₁ N₁ l1
  k_steps
  have nt2 : NoTry := trivial
  refine Tag.un ?_
  have hks : kind = 0 ∨ kind = 1 ∨ kind = 2 ∨ kind = 3 ∨ kind = 4 ∨ kind = 5 ∨ kind = 6 ∨ kind = 7 ∨ kind = 8 ∨ kind = 9 ∨ kind = 10 ∨ kind = 11 ∨ kind = 12 ∨ kind = 13 := by omega
  rcases hks with rfl | rfl | rfl | rfl | rfl | rfl | rfl | rfl | rfl | rfl | rfl | rfl | rfl | rfl
  · k_steps
    rename Fr _ _ _ _ => FK
    (refine Tag.un ?_; refine elif_yes FK (by rfl) rfl rfl (by decide) (by decide) ?_)
    have ni : NoIf := trivial
    have nt : NoTag := trivial
    k_steps
    rename News _ _ _ _ => NN
    refine o_notinw H (by assumption) (by assumption) NN (by k_mem) hw rfl (by show u + 3 + 3 + 3 < 9900; omega) ?_
    intro h₂ tk₂ e hn
    (try dsimp only)
    k_steps
    rename News _ _ _ _ => NE
    rename Fr _ _ _ _ => FE
    exact hQ so vs c _ _ (by simpa using H) (by simpa using hv) FE (News.sub NE fun p hp => by simp only [List.mem_cons] at hp ⊢; grind)
  · k_steps
    rename Fr _ _ _ _ => FK
    (refine Tag.un ?_; refine elif_no FK (by rfl) rfl rfl (by decide) (by decide) ?_)
    (refine Tag.un ?_; refine elif_yes FK (by rfl) rfl rfl (by decide) (by decide) ?_)
    have ni : NoIf := trivial
    have nt : NoTag := trivial
    k_steps
    rename News _ _ _ _ => NN
    refine o_notinw H (by assumption) (by assumption) NN (by k_mem) hw rfl (by show u + 3 + 3 + 3 < 9900; omega) ?_
    intro h₂ tk₂ e hn
    (try dsimp only)
    k_steps
    rename News _ _ _ _ => NE
    rename Fr _ _ _ _ => FE
    exact hQ so vs c _ _ (by simpa using H) (by simpa using hv) FE (News.sub NE fun p hp => by simp only [List.mem_cons] at hp ⊢; grind)
  · k_steps
    rename Fr _ _ _ _ => FK
    (refine Tag.un ?_; refine elif_no FK (by rfl) rfl rfl (by decide) (by decide) ?_)
    (refine Tag.un ?_; refine elif_no FK (by rfl) rfl rfl (by decide) (by decide) ?_)
    (refine Tag.un ?_; refine elif_yes FK (by rfl) rfl rfl (by decide) (by decide) ?_)
    have ni : NoIf := trivial
    have nt : NoTag := trivial
    k_steps
    rename News _ _ _ _ => NN
    refine o_inw H (by assumption) (by assumption) NN (by k_mem) hw rfl (by show u + 3 + 3 + 3 < 9900; omega) ?_
    intro h₂ tk₂ e hn
    (try dsimp only)
    k_steps
    rename News _ _ _ _ => NE
    rename Fr _ _ _ _ => FE
    exact hQ so vs c _ _ (by simpa using H) (by simpa using hv) FE (News.sub NE fun p hp => by simp only [List.mem_cons] at hp ⊢; grind)
  · k_steps
    rename Fr _ _ _ _ => FK
    (refine Tag.un ?_; refine elif_no FK (by rfl) rfl rfl (by decide) (by decide) ?_)
    (refine Tag.un ?_; refine elif_no FK (by rfl) rfl rfl (by decide) (by decide) ?_)
    (refine Tag.un ?_; refine elif_no FK (by rfl) rfl rfl (by decide) (by decide) ?_)
    (refine Tag.un ?_; refine elif_yes FK (by rfl) rfl rfl (by decide) (by decide) ?_)
    have ni : NoIf := trivial
    have nt : NoTag := trivial
    k_steps
    rename News _ _ _ _ => NN
    rename Fr _ _ _ _ => FF
    rename Frag.In _ _ => XX
    obtain ⟨es, ep, t, hdat, G⟩ := H.data
    refine call_remove_w (H.isO FF XX NN (by k_mem)) hw rfl (by show u + 3 + 3 + 3 < 9900; omega) ?_
    intro h₂ tk₂ e hn
    (try dsimp only)
    k_steps
    rename News _ _ _ _ => NE
    rename Fr _ _ _ _ => FE
    exact hQ so vs c _ _ (by simpa using H) (by simpa using hv) FE (News.sub NE fun p hp => by simp only [List.mem_cons] at hp ⊢; grind)
  · k_steps
    rename Fr _ _ _ _ => FK
    (refine Tag.un ?_; refine elif_no FK (by rfl) rfl rfl (by decide) (by decide) ?_)
    (refine Tag.un ?_; refine elif_no FK (by rfl) rfl rfl (by decide) (by decide) ?_)
    (refine Tag.un ?_; refine elif_no FK (by rfl) rfl rfl (by decide) (by decide) ?_)
    (refine Tag.un ?_; refine elif_no FK (by rfl) rfl rfl (by decide) (by decide) ?_)
    (refine Tag.un ?_; refine elif_yes FK (by rfl) rfl rfl (by decide) (by decide) ?_)
    have ni : NoIf := trivial
    have nt : NoTag := trivial
    k_steps
    rename News _ _ _ _ => NN
    rename Fr _ _ _ _ => FF
    refine o_inw H FF X' NN (by k_mem) hw rfl (by show u + 3 + 3 < 9900; omega) ?_
    intro h₂ tk₂ e hn
    (try dsimp only)
    k_steps
    refine caught_new0 (T' := "TypeError") (g₀ := g') hn FF NN B' XB TB D' KtsTurn.refl (by k_is) PyProof.Rows.Boot.«TypeError» (by decide) PySem.F.isExc_TypeError PySem.F.notTuple_TypeError (by kts_sub) ?_
    intro h₃ g₃ T₃ F₃ N₃ K₃ X₃ P₃ D₃
    (try k_lift K₃)
    k_steps
    rename News _ _ _ _ => NE
    rename Fr _ _ _ _ => FE
    exact hQ so vs c _ _ (by simpa using H) (by simpa using hv) FE (News.sub NE fun p hp => by simp only [List.mem_cons] at hp ⊢; grind)
  · k_steps
    rename Fr _ _ _ _ => FK
    (refine Tag.un ?_; refine elif_no FK (by rfl) rfl rfl (by decide) (by decide) ?_)
    (refine Tag.un ?_; refine elif_no FK (by rfl) rfl rfl (by decide) (by decide) ?_)
    (refine Tag.un ?_; refine elif_no FK (by rfl) rfl rfl (by decide) (by decide) ?_)
    (refine Tag.un ?_; refine elif_no FK (by rfl) rfl rfl (by decide) (by decide) ?_)
    (refine Tag.un ?_; refine elif_no FK (by rfl) rfl rfl (by decide) (by decide) ?_)
    (refine Tag.un ?_; refine elif_yes FK (by rfl) rfl rfl (by decide) (by decide) ?_)
    have ni : NoIf := trivial
    k_steps
    refine Tag.un ?_
    rename News _ _ _ _ => NN
    rename Fr _ _ _ _ => FF
    refine union_w (ts := rs) (more := []) (vs := vs) (c := c) (news := (D, _) :: _) (by show d + 1 < 800; omega) (by show u + 3 < 8000; omega) B' FF X' NN T' rfl rfl H hv hn hrn (by k_mem) (by k_mem) (by k_mem) (.head _) hw hm hr ?_
    intro g₂ h₇ tk₇ e F₇ R₇ U₇
    (try dsimp only)
    k_steps
    rename News _ _ _ _ => NE
    rename Fr _ _ _ _ => FE
    exact hQ so vs c _ _ (by simpa using H) (by simpa using hv) FE (News.sub NE fun p hp => by simp only [List.mem_cons] at hp ⊢; grind)
  · k_steps
    rename Fr _ _ _ _ => FK
    (refine Tag.un ?_; refine elif_no FK (by rfl) rfl rfl (by decide) (by decide) ?_)
    (refine Tag.un ?_; refine elif_no FK (by rfl) rfl rfl (by decide) (by decide) ?_)
    (refine Tag.un ?_; refine elif_no FK (by rfl) rfl rfl (by decide) (by decide) ?_)
    (refine Tag.un ?_; refine elif_no FK (by rfl) rfl rfl (by decide) (by decide) ?_)
    (refine Tag.un ?_; refine elif_no FK (by rfl) rfl rfl (by decide) (by decide) ?_)
    (refine Tag.un ?_; refine elif_no FK (by rfl) rfl rfl (by decide) (by decide) ?_)
    (refine Tag.un ?_; refine elif_yes FK (by rfl) rfl rfl (by decide) (by decide) ?_)
    have ni : NoIf := trivial
    have nt : NoTag := trivial
    k_steps
    rename News _ _ _ _ => NN
    rename Fr _ _ _ _ => FF
    refine o_hasattr (l := D) (items := (rs ++ [v]).toArray) (c := 0) FF NN (by k_mem) ?_
    intro h₃ F₃ N₃
    k_steps
    refine Tag.un ?_
    rename News _ _ _ _ => N₅
    rename Fr _ _ _ _ => F₅
    rename Below _ _ _ _ => BB
    rename Frag.In _ _ => XX
    refine call_set_w (items := (rs ++ [v]).toArray) (vs := rs) (more := []) (XX.keeps F₅.keep) rfl (by show u + 3 + 3 + 5 < 9900; omega) ⟨_, (N₅ _ (by k_mem : (D, listOf (rs ++ [v]).toArray 0) ∈ _)).1, rfl, 0, rfl⟩ (by simp) hm hr hw ?_
    intro h₄ tk₄ e hn
    (try dsimp only)
    k_steps
    refine leave_newE BB hn F₅ N₅ rfl rfl rfl ?_
    intro h₆ R₆ U₆
    (try dsimp only)
    k_steps
    rename News _ _ _ _ => NE
    rename Fr _ _ _ _ => FE
    exact hQ so vs c _ _ (by simpa using H) (by simpa using hv) FE (News.sub NE fun p hp => by simp only [List.mem_cons] at hp ⊢; grind)
  · k_steps
    rename Fr _ _ _ _ => FK
    (refine Tag.un ?_; refine elif_no FK (by rfl) rfl rfl (by decide) (by decide) ?_)
    (refine Tag.un ?_; refine elif_no FK (by rfl) rfl rfl (by decide) (by decide) ?_)
    (refine Tag.un ?_; refine elif_no FK (by rfl) rfl rfl (by decide) (by decide) ?_)
    (refine Tag.un ?_; refine elif_no FK (by rfl) rfl rfl (by decide) (by decide) ?_)
    (refine Tag.un ?_; refine elif_no FK (by rfl) rfl rfl (by decide) (by decide) ?_)
    (refine Tag.un ?_; refine elif_no FK (by rfl) rfl rfl (by decide) (by decide) ?_)
    (refine Tag.un ?_; refine elif_no FK (by rfl) rfl rfl (by decide) (by decide) ?_)
    (refine Tag.un ?_; refine elif_yes FK (by rfl) rfl rfl (by decide) (by decide) ?_)
    have ni : NoIf := trivial
    k_steps
    have nt : NoTag := trivial
    refine Tag.un ?_
    k_steps
    rename News _ _ _ _ => NN
    rename Fr _ _ _ _ => FF
    refine o_hasattr (l := D) (items := (rs ++ [v]).toArray) (c := 0) FF NN (by k_mem) ?_
    intro h₃ F₃ N₃
    k_steps
    rename News _ _ _ _ => N₅
    rename Fr _ _ _ _ => F₅
    rename Below _ _ _ _ => BB
    rename Frag.In _ _ => XX
    have q1 := l1 (sa, so) (.tail _ (.head _))
    refine call_symu_w (items := (rs ++ [v]).toArray) (vs := rs) (more := []) (H.isO F₅ XX N₅ (by k_mem)) rfl (by show u + 3 + 3 + 5 < 9900; omega) ⟨_, (N₅ _ (by k_mem : (D, listOf (rs ++ [v]).toArray 0) ∈ _)).1, rfl, 0, rfl⟩ (Nat.ne_of_gt q1) (by simp) hm hr hw ?_
    intro h₄ tk₄ e hn
    (try dsimp only)
    k_steps
    refine leave_newE BB hn F₅ N₅ rfl rfl rfl ?_
    intro h₆ R₆ U₆
    (try dsimp only)
    k_steps
    rename News _ _ _ _ => NE
    rename Fr _ _ _ _ => FE
    exact hQ so vs c _ _ (by simpa using H) (by simpa using hv) FE (News.sub NE fun p hp => by simp only [List.mem_cons] at hp ⊢; grind)
  · k_steps
    rename Fr _ _ _ _ => FK
    (refine Tag.un ?_; refine elif_no FK (by rfl) rfl rfl (by decide) (by decide) ?_)
    (refine Tag.un ?_; refine elif_no FK (by rfl) rfl rfl (by decide) (by decide) ?_)
    (refine Tag.un ?_; refine elif_no FK (by rfl) rfl rfl (by decide) (by decide) ?_)
    (refine Tag.un ?_; refine elif_no FK (by rfl) rfl rfl (by decide) (by decide) ?_)
    (refine Tag.un ?_; refine elif_no FK (by rfl) rfl rfl (by decide) (by decide) ?_)
    (refine Tag.un ?_; refine elif_no FK (by rfl) rfl rfl (by decide) (by decide) ?_)
    (refine Tag.un ?_; refine elif_no FK (by rfl) rfl rfl (by decide) (by decide) ?_)
    (refine Tag.un ?_; refine elif_no FK (by rfl) rfl rfl (by decide) (by decide) ?_)
    (refine Tag.un ?_; refine elif_yes FK (by rfl) rfl rfl (by decide) (by decide) ?_)
    have ni : NoIf := trivial
    have sa1 : StopAdd := ⟨⟩
    k_steps
    refine Tag.un ?_
    rename News _ _ _ _ => NN
    rename Fr _ _ _ _ => FF
    refine kmk_add_lit (zs := v :: rs) FF NN (its := [v].toArray) (its2 := rs.toArray) ⟨_, (NN _ (.head _)).1, rfl, _, rfl⟩ ⟨_, (NN _ (by k_mem : (rl, listOf rs.toArray c') ∈ _)).1, rfl, c', rfl⟩ (by simp) ?_ (by rw [sizeLine_eq]; simp; rw [hm.length]; omega)
    intro D₂ h₂ F₂ N₂ l2
    rename StopAdd => sa2
    clear sa2
    k_steps
    refine Tag.un ?_
    rename News _ _ _ _ => N₅
    rename Fr _ _ _ _ => F₅
    have q1 := l2 (sa, so) (by k_mem)
    refine mInter_w (ts := rs) (v := v) (c' := 0) (by show d + 1 < 900; omega) (by show u + 3 < 9000; omega) B' F₅ X' N₅ T' rfl rfl H (by k_mem) (by k_mem) (by k_mem) hw (Nat.ne_of_gt q1) ?_
    intro g₂ h₇ tk₇ e F₇ R₇ U₇
    (try dsimp only)
    k_steps
    rename News _ _ _ _ => NE
    rename Fr _ _ _ _ => FE
    exact hQ so vs c _ _ (by simpa using H) (by simpa using hv) FE (News.sub NE fun p hp => by simp only [List.mem_cons] at hp ⊢; grind)
  · k_steps
    rename Fr _ _ _ _ => FK
    (refine Tag.un ?_; refine elif_no FK (by rfl) rfl rfl (by decide) (by decide) ?_)
    (refine Tag.un ?_; refine elif_no FK (by rfl) rfl rfl (by decide) (by decide) ?_)
    (refine Tag.un ?_; refine elif_no FK (by rfl) rfl rfl (by decide) (by decide) ?_)
    (refine Tag.un ?_; refine elif_no FK (by rfl) rfl rfl (by decide) (by decide) ?_)
    (refine Tag.un ?_; refine elif_no FK (by rfl) rfl rfl (by decide) (by decide) ?_)
    (refine Tag.un ?_; refine elif_no FK (by rfl) rfl rfl (by decide) (by decide) ?_)
    (refine Tag.un ?_; refine elif_no FK (by rfl) rfl rfl (by decide) (by decide) ?_)
    (refine Tag.un ?_; refine elif_no FK (by rfl) rfl rfl (by decide) (by decide) ?_)
    (refine Tag.un ?_; refine elif_no FK (by rfl) rfl rfl (by decide) (by decide) ?_)
    (refine Tag.un ?_; refine elif_yes FK (by rfl) rfl rfl (by decide) (by decide) ?_)
    have ni : NoIf := trivial
    have sa1 : StopAdd := ⟨⟩
    k_steps
    refine Tag.un ?_
    rename News _ _ _ _ => NN
    rename Fr _ _ _ _ => FF
    refine kmk_add_lit (zs := v :: rs) FF NN (its := [v].toArray) (its2 := rs.toArray) ⟨_, (NN _ (.head _)).1, rfl, _, rfl⟩ ⟨_, (NN _ (by k_mem : (rl, listOf rs.toArray c') ∈ _)).1, rfl, c', rfl⟩ (by simp) ?_ (by rw [sizeLine_eq]; simp; rw [hm.length]; omega)
    intro D₂ h₂ F₂ N₂ l2
    rename StopAdd => sa2
    clear sa2
    k_steps
    refine Tag.un ?_
    rename News _ _ _ _ => N₅
    rename Fr _ _ _ _ => F₅
    have q1 := l2 (sa, so) (by k_mem)
    refine mInteru_w (ts := rs) (v := v) (c' := 0) (by show d + 1 < 900; omega) (by show u + 3 < 9000; omega) B' F₅ X' N₅ T' rfl rfl H (by k_mem) (by k_mem) (by k_mem) hw (Nat.ne_of_gt q1) ?_
    intro g₂ h₇ tk₇ e F₇ R₇ U₇
    (try dsimp only)
    k_steps
    rename News _ _ _ _ => NE
    rename Fr _ _ _ _ => FE
    exact hQ so vs c _ _ (by simpa using H) (by simpa using hv) FE (News.sub NE fun p hp => by simp only [List.mem_cons] at hp ⊢; grind)
  · k_steps
    rename Fr _ _ _ _ => FK
    (refine Tag.un ?_; refine elif_no FK (by rfl) rfl rfl (by decide) (by decide) ?_)
    (refine Tag.un ?_; refine elif_no FK (by rfl) rfl rfl (by decide) (by decide) ?_)
    (refine Tag.un ?_; refine elif_no FK (by rfl) rfl rfl (by decide) (by decide) ?_)
    (refine Tag.un ?_; refine elif_no FK (by rfl) rfl rfl (by decide) (by decide) ?_)
    (refine Tag.un ?_; refine elif_no FK (by rfl) rfl rfl (by decide) (by decide) ?_)
    (refine Tag.un ?_; refine elif_no FK (by rfl) rfl rfl (by decide) (by decide) ?_)
    (refine Tag.un ?_; refine elif_no FK (by rfl) rfl rfl (by decide) (by decide) ?_)
    (refine Tag.un ?_; refine elif_no FK (by rfl) rfl rfl (by decide) (by decide) ?_)
    (refine Tag.un ?_; refine elif_no FK (by rfl) rfl rfl (by decide) (by decide) ?_)
    (refine Tag.un ?_; refine elif_no FK (by rfl) rfl rfl (by decide) (by decide) ?_)
    (refine Tag.un ?_; refine elif_yes FK (by rfl) rfl rfl (by decide) (by decide) ?_)
    have ni : NoIf := trivial
    k_steps
    refine Tag.un ?_
    rename News _ _ _ _ => N₅
    rename Fr _ _ _ _ => F₅
    have q1 := l1 (sa, so) (by k_mem)
    refine mDiff_w (ts := rs) (v := v) (more := []) (c' := 0) (by show d + 1 < 900; omega) (by show u + 3 < 9000; omega) B' F₅ X' N₅ T' rfl rfl H (by k_mem) (by k_mem) (by k_mem) hm hw (Nat.ne_of_gt q1) ?_
    intro g₂ h₇ tk₇ e F₇ R₇ U₇
    (try dsimp only)
    k_steps
    rename News _ _ _ _ => NE
    rename Fr _ _ _ _ => FE
    exact hQ so vs c _ _ (by simpa using H) (by simpa using hv) FE (News.sub NE fun p hp => by simp only [List.mem_cons] at hp ⊢; grind)
  · k_steps
    rename Fr _ _ _ _ => FK
    (refine Tag.un ?_; refine elif_no FK (by rfl) rfl rfl (by decide) (by decide) ?_)
    (refine Tag.un ?_; refine elif_no FK (by rfl) rfl rfl (by decide) (by decide) ?_)
    (refine Tag.un ?_; refine elif_no FK (by rfl) rfl rfl (by decide) (by decide) ?_)
    (refine Tag.un ?_; refine elif_no FK (by rfl) rfl rfl (by decide) (by decide) ?_)
    (refine Tag.un ?_; refine elif_no FK (by rfl) rfl rfl (by decide) (by decide) ?_)
    (refine Tag.un ?_; refine elif_no FK (by rfl) rfl rfl (by decide) (by decide) ?_)
    (refine Tag.un ?_; refine elif_no FK (by rfl) rfl rfl (by decide) (by decide) ?_)
    (refine Tag.un ?_; refine elif_no FK (by rfl) rfl rfl (by decide) (by decide) ?_)
    (refine Tag.un ?_; refine elif_no FK (by rfl) rfl rfl (by decide) (by decide) ?_)
    (refine Tag.un ?_; refine elif_no FK (by rfl) rfl rfl (by decide) (by decide) ?_)
    (refine Tag.un ?_; refine elif_no FK (by rfl) rfl rfl (by decide) (by decide) ?_)
    (refine Tag.un ?_; refine elif_yes FK (by rfl) rfl rfl (by decide) (by decide) ?_)
    have ni : NoIf := trivial
    have sa1 : StopAdd := ⟨⟩
    k_steps
    refine Tag.un ?_
    rename News _ _ _ _ => NN
    rename Fr _ _ _ _ => FF
    refine kmk_add_lit (zs := v :: rs) FF NN (its := [v].toArray) (its2 := rs.toArray) ⟨_, (NN _ (.head _)).1, rfl, _, rfl⟩ ⟨_, (NN _ (by k_mem : (rl, listOf rs.toArray c') ∈ _)).1, rfl, c', rfl⟩ (by simp) ?_ (by rw [sizeLine_eq]; simp; rw [hm.length]; omega)
    intro D₂ h₂ F₂ N₂ l2
    rename StopAdd => sa2
    clear sa2
    k_steps
    refine Tag.un ?_
    rename News _ _ _ _ => N₅
    rename Fr _ _ _ _ => F₅
    have q1 := l2 (sa, so) (by k_mem)
    refine mDiffu_w (ts := rs) (v := v) (c' := 0) (by show d + 1 < 900; omega) (by show u + 3 < 9000; omega) B' F₅ X' N₅ T' rfl rfl H (by k_mem) (by k_mem) (by k_mem) hw (Nat.ne_of_gt q1) ?_
    intro g₂ h₇ tk₇ e F₇ R₇ U₇
    (try dsimp only)
    k_steps
    rename News _ _ _ _ => NE
    rename Fr _ _ _ _ => FE
    exact hQ so vs c _ _ (by simpa using H) (by simpa using hv) FE (News.sub NE fun p hp => by simp only [List.mem_cons] at hp ⊢; grind)
  · k_steps
    rename Fr _ _ _ _ => FK
    (refine Tag.un ?_; refine elif_no FK (by rfl) rfl rfl (by decide) (by decide) ?_)
    (refine Tag.un ?_; refine elif_no FK (by rfl) rfl rfl (by decide) (by decide) ?_)
    (refine Tag.un ?_; refine elif_no FK (by rfl) rfl rfl (by decide) (by decide) ?_)
    (refine Tag.un ?_; refine elif_no FK (by rfl) rfl rfl (by decide) (by decide) ?_)
    (refine Tag.un ?_; refine elif_no FK (by rfl) rfl rfl (by decide) (by decide) ?_)
    (refine Tag.un ?_; refine elif_no FK (by rfl) rfl rfl (by decide) (by decide) ?_)
    (refine Tag.un ?_; refine elif_no FK (by rfl) rfl rfl (by decide) (by decide) ?_)
    (refine Tag.un ?_; refine elif_no FK (by rfl) rfl rfl (by decide) (by decide) ?_)
    (refine Tag.un ?_; refine elif_no FK (by rfl) rfl rfl (by decide) (by decide) ?_)
    (refine Tag.un ?_; refine elif_no FK (by rfl) rfl rfl (by decide) (by decide) ?_)
    (refine Tag.un ?_; refine elif_no FK (by rfl) rfl rfl (by decide) (by decide) ?_)
    (refine Tag.un ?_; refine elif_no FK (by rfl) rfl rfl (by decide) (by decide) ?_)
    (refine Tag.un ?_; refine elif_yes FK (by rfl) rfl rfl (by decide) (by decide) ?_)
    have ni : NoIf := trivial
    have sc1 : StopCW := ⟨⟩
    k_steps
    refine Tag.un ?_
    refine Call_ ?_
    k_steps
    refine Tag.un ?_
    rename StopCW => sc2
    clear sc2
    refine callWith_K (K := Mine.hd.heap_39 w.params) X' (by k_is) ?_
    k_steps
    refine Tag.un ?_
    rename News _ _ _ _ => NN
    rename Fr _ _ _ _ => FF
    refine class_w (vs := rs) (v := v) (more := []) (c := 0) (by show d + 1 < 800; omega) (by show u + 3 < 8000; omega) B' FF X' NN T' rfl rfl (by k_mem) hw hm (by rw [hm.length]; omega) ?_
    intro g₂ h₇ tk₇ e F₇ R₇ U₇
    (try dsimp only)
    k_steps
    rename News _ _ _ _ => NE
    rename Fr _ _ _ _ => FE
    exact hQ so vs c _ _ (by simpa using H) (by simpa using hv) FE (News.sub NE fun p hp => by simp only [List.mem_cons] at hp ⊢; grind)
  · k_steps
    rename Fr _ _ _ _ => FK
    (refine Tag.un ?_; refine elif_no FK (by rfl) rfl rfl (by decide) (by decide) ?_)
    (refine Tag.un ?_; refine elif_no FK (by rfl) rfl rfl (by decide) (by decide) ?_)
    (refine Tag.un ?_; refine elif_no FK (by rfl) rfl rfl (by decide) (by decide) ?_)
    (refine Tag.un ?_; refine elif_no FK (by rfl) rfl rfl (by decide) (by decide) ?_)
    (refine Tag.un ?_; refine elif_no FK (by rfl) rfl rfl (by decide) (by decide) ?_)
    (refine Tag.un ?_; refine elif_no FK (by rfl) rfl rfl (by decide) (by decide) ?_)
    (refine Tag.un ?_; refine elif_no FK (by rfl) rfl rfl (by decide) (by decide) ?_)
    (refine Tag.un ?_; refine elif_no FK (by rfl) rfl rfl (by decide) (by decide) ?_)
    (refine Tag.un ?_; refine elif_no FK (by rfl) rfl rfl (by decide) (by decide) ?_)
    (refine Tag.un ?_; refine elif_no FK (by rfl) rfl rfl (by decide) (by decide) ?_)
    (refine Tag.un ?_; refine elif_no FK (by rfl) rfl rfl (by decide) (by decide) ?_)
    (refine Tag.un ?_; refine elif_no FK (by rfl) rfl rfl (by decide) (by decide) ?_)
    (refine Tag.un ?_; refine elif_no FK (by rfl) rfl rfl (by decide) (by decide) ?_)
    refine Tag.un ?_
    have ni : NoIf := trivial
    k_steps
    rename News _ _ _ _ => NN
    rename Fr _ _ _ _ => FF
    refine wpAny_call (update_wC (c' := 0) (ts := rs) (v := v) (more := []) (vs := vs) (c := c) (rest := (D, listOf (rs ++ [v]).toArray 0) :: rest) (by show d + 1 < 900; omega) (by show u + 3 < 9000; omega) B' FF X' (News.sub NN ?_) T' rfl rfl H hv (.tail _ hdx) (.head _) hw hm hr hsl ?_ ?_)
    · intro p hp
      simp only [List.mem_cons] at hp ⊢
      grind
    · intro p hp
      have q1 := l1 (sa, so) (.tail _ (.head _))
      have q2 := l1 (la, _) (.tail _ (.tail _ (.head _)))
      rcases List.mem_cons.mp hp with rfl | hp
      · exact ⟨Nat.ne_of_gt q1, Nat.ne_of_gt q2⟩
      · exact hra p hp
    intro so' vs' c₂ H' hv' g₂ h₇ tk₇ e F₇ R₇ U₇
    (try dsimp only)
    k_steps
    rename News _ _ _ _ => NE
    rename Fr _ _ _ _ => FE
    exact hQ so' vs' c₂ _ _ (by simpa using H') (by simpa using hv') FE (News.sub NE fun p hp => by simp only [List.mem_cons] at hp ⊢; grind)
end
end Mine
end
-- part R0
section
open PySem PySem.W PySem.Calls PyProof.Rows PySem.Spec
set_option maxRecDepth 100000
namespace Mine
local macro_rules | `(tactic| k_room) => `(tactic| (show _ < 1000; (try simp only [depth_mark, depth_under_make, depth_under_kw, depth_in1, depth_deeper, depth_caller]); (try dsimp only); omega))
/-- the row that _law_row draws -/
def rowOf (y : Int) : List Int := (rangeKs 0 (y.fmod 4 - 0).toNat).map fun k' => (y + 3 * k').fmod 10
theorem rowOf_range {y k : Int} (h : k ∈ rowOf y) : 0 ≤ k ∧ k < 10 := by
  obtain ⟨i, _, rfl⟩ := List.mem_map.mp h
  exact ⟨Int.fmod_nonneg_of_pos _ (by decide), Int.fmod_lt_of_pos _ (by decide)⟩
theorem rowOf_len (y : Int) : (rowOf y).length ≤ 3 := by
  unfold rowOf
  rw [List.length_map, rangeKs_length]
  have h1 := Int.fmod_lt_of_pos y (b := 4) (by decide)
  omega
theorem rowOf_nodup (y : Int) : (rowOf y).Nodup := by
  unfold rowOf
  have h0 : 0 ≤ y.fmod 4 := Int.fmod_nonneg_of_pos y (by decide)
  have h1 := Int.fmod_lt_of_pos y (b := 4) (by decide)
  have h2 : (y.fmod 4 - 0).toNat = 0 ∨ (y.fmod 4 - 0).toNat = 1 ∨ (y.fmod 4 - 0).toNat = 2 ∨ (y.fmod 4 - 0).toNat = 3 := by omega
  simp only [Int.fmod_eq_emod_of_nonneg _ (show (0 : Int) ≤ 10 by decide)]
  rcases h2 with e | e | e | e <;> rw [e] <;> simp [rangeKs, List.range_succ] <;> omega
theorem off1_ne {D : Addr} : ∀ {l : List (Addr × Obj)}, LCg.Off1 D l → ∀ q ∈ l, q.1 ≠ D
  | [], _, _, h => nomatch h
  | p :: r, o, q, h => by
    rcases List.mem_cons.mp h with rfl | h
    · exact o.1
    · exact off1_ne o.2 q h
section
variable {prog : Program} {w : World} {E : Value → Shared → Prop} {s : Shared}
variable {A₀ : Around} {base h₀ : Heap} {outer : List Env} {env : Env} {L : Addr} {m mg mb : Str → Option Value} {mean : ExcName → Option Value} {news : List (Addr × Obj)} {d u : Nat} {gs : Option (List Code)}
set_option maxHeartbeats 8000000 in
theorem row_ok {y : Int} {ty : Tok} {Q : Value → Shared → Prop} (hd : d < 700) (hu : u < 7000)
    (B : Below A₀ base outer h₀) (F : Fr h₀ L s.heap m) (X : (Mine.hd.heap_39 w.params).In h₀) (N : News h₀ L s.heap news)
    (T : Top Mine.hd.view_39 (looseW Mine.hd.view_39 [Str.ofString "OrderedSet", Str.ofString "_law_wrongs"]) mean mg mb h₀)
    (hf : env.frame = some L) (hke : env.scope.kind = .function)
    (hQ : ∀ D c h' tk ys, IntsAre ys (rowOf y) → Fr h₀ L h' m → News h₀ L h' ((D, listOf ys.toArray c) :: news) → (∀ q ∈ news, q.1 ≠ D) → Q (.ref D) { s with heap := h', toks := tk }) :
    wpAny (model prog w) ⟨none, d, some (env :: outer), gs, u⟩ (call (.ref 246) [.int y ty]) Q E s := by
  obtain ⟨sc, lo, gl, ce, qu, fu, co, fr, bu⟩ := env
  obtain ⟨k1, k2, k3, k4, k5⟩ := sc
  dsimp only at hf hke
  subst hf hke
  refine wpAny_call ?_
  k_enter
  k_steps
  rename_i kF kN _ _
  rename _ ∧ LCg.Off1 _ _ => o1
  exact hQ _ _ _ _ _ (by assumption) kF (News.sub kN fun p hp => by rcases List.mem_cons.mp hp with rfl | hp; exact .head _; exact .tail _ (.tail _ hp)) (off1_ne o1.2)
end
end Mine
end
-- part L0
section
open PySem PySem.W PySem.Calls PyProof.Rows PySem.Spec
set_option maxRecDepth 100000
namespace Mine
structure NTag : Prop where
structure NIf : Prop where
structure SIf : Prop where
structure SFor : Prop where
section
variable {prog : Program} {w : World} {A : Around} {E : Value → Shared → Prop} {s : Shared} {env : Env} {h₀ : Heap} {x : Str} {body : List Stmt} {Q : Flow → Shared → Prop}
/-- a for over a list of ints of the ledger; what the turns keep may grow -/
theorem iter_rowG {l : Addr} {vs : List Value} {ns : List Int} {c : Nat} {m₀ : Str → Option Value} {news : List (Addr × Obj)} (J : Nat → (Str → Option Value) → List (Addr × Obj) → Prop)
    (hh : A.handled = none) (F : Fr h₀ env.locals s.heap m₀) (N : News h₀ env.locals s.heap ((l, listOf vs.toArray c) :: news)) (hi : IntsAre vs ns) (hln : ∀ p ∈ news, p.1 ≠ l) (hj : J 0 m₀ news)
    (turn : ∀ i n t m₁ news₁ h tk own, ns[i]? = some n → OwnOff own (news₁.map (·.1)) → J i m₁ news₁ → Fr h₀ env.locals h (fun y => if y = x then some (.int n t) else m₁ y) → News h₀ env.locals h (news₁ ++ own) →
      wpAny (model prog w) A (execs body env) (InvPostG h₀ env.locals (J (i + 1)) own { s with heap := h, toks := tk } Q) E { s with heap := h, toks := tk })
    (done : ∀ m₁ news₁ h tk, J ns.length m₁ news₁ → Fr h₀ env.locals h m₁ → News h₀ env.locals h news₁ → Q .next { s with heap := h, toks := tk }) :
    wpAny (model prog w) A (pyIter (.ref l)) (fun it s₂ => LoopAtV prog w A h₀ env x body Q E it s₂) E s := by
  have nl := N _ (.head _)
  have hls : s.heap.IsList l vs.toArray := ⟨_, nl.1, rfl, c, rfl⟩
  have hlt : l < s.heap.objs.size := Heap.lt_size nl.1
  have hne : l ≠ s.heap.objs.size := Nat.ne_of_lt hlt
  refine wpAny_pyIter_list hls ?_
  have W := Walks.list (prog := prog) (w := w) hh s.heap.objs.size l hne vs.toArray
  have hlen : vs.toArray.size = ns.length := by simp [hi.length]
  rw [hlen] at W
  let J' : Nat → (Str → Option Value) → List (Addr × Obj) → Prop := fun i m nx => (∀ p ∈ nx, p.1 ≠ l) ∧ J i m nx
  refine ⟨_, _, _, ns.length, _, _, m₀, news, J', rfl, W, ?_, ?_, ?_, ⟨⟨_, Heap.get?_push_size _ rfl, rfl, rfl⟩, hls.at fun o e => Heap.get?_push_of_some _ e⟩, F.push _, (fun p hp => ⟨Heap.get?_push_of_some _ (N p (.tail _ hp)).1, (N p (.tail _ hp)).2⟩), ⟨hln, hj⟩, ?_, ?_⟩
  · intro hm
    rcases List.mem_cons.mp hm with e | hm
    · exact absurd F.ns.lt (e ▸ Nat.lt_irrefl _)
    · exact nl.2.1 (List.mem_singleton.mp hm).symm
  · intro b hb
    rw [List.mem_singleton.mp hb]
    exact next_is_new F
  · intro p hp hI
    exact absurd (Heap.lt_size (N p (.tail _ hp)).1) ((List.mem_singleton.mp hI) ▸ Nat.lt_irrefl _)
  · rintro i v m₁ news₁ s₁ own ⟨hh', tk', rfl⟩ hin hP ⟨hl1, hJ⟩ hoff hown _ hfp hst F₁ N₁
    have hI0 : h₀.get? s.heap.objs.size = none := next_is_new F
    obtain ⟨⟨oI, hoI, _⟩, oL, hoL, _⟩ := id hst
    have hIown : (s.heap.objs.size, oI) ∈ own := hfp _ (List.mem_cons.mpr (.inl rfl)) hI0 _ hoI
    have hLown : (l, oL) ∈ own := hfp _ (List.mem_cons.mpr (.inr (.head _))) nl.2.2 _ hoL
    have hsep : OwnOff own (news₁.map (·.1)) := by
      intro p hp b hb e
      obtain ⟨q, hq, rfl⟩ := List.mem_map.mp hb
      rcases List.mem_cons.mp (hown p hp) with h1 | h1
      · exact hoff q hq (List.mem_singleton.mpr (e ▸ h1))
      · exact hl1 q hq (e.symm.trans (List.mem_singleton.mp h1))
    have hlt' : i < ns.length := hin
    obtain ⟨t, hx⟩ := hi.get i ns[i] (by simp [hlt'])
    have hv : v = .int ns[i] t := by
      have hP' : vs[i]? = some v := by simpa using hP
      rw [hx] at hP'; exact (Option.some.inj hP').symm
    subst hv
    have N₂ : News h₀ env.locals hh' (news₁ ++ own) := fun p hp => N₁ p ((List.mem_append.mp hp).elim (fun h => List.mem_append.mpr (.inr h)) fun h => List.mem_append.mpr (.inl h))
    refine wpAny_mono (turn i ns[i] t m₁ news₁ hh' tk' own (by simp [hlt']) hsep hJ F₁ N₂) (fun f s₂ p => ?_) fun _ _ e => e
    have fin : InvEndG h₀ env.locals (J (i + 1)) own { s with heap := hh', toks := tk' } s₂ → LoopStepU h₀ env.locals [s.heap.objs.size] own (J' (i + 1)) { s with heap := hh', toks := tk' } .next s₂ := by
      rintro ⟨h', tk, m', news', nx, e, F', N', hn, ho, ha, hm⟩
      refine ⟨rfl, h', tk, m', nx, e, F', fun p hp => N' p ((List.mem_append.mp hp).elim (ho p) (hn p)), fun p hp hq => ?_, fun p hp e => ?_, hm⟩
      · exact ha _ hIown p.1 (List.mem_map.mpr ⟨p, hp, rfl⟩) (List.mem_singleton.mp hq).symm
      · exact ha _ hLown p.1 (List.mem_map.mpr ⟨p, hp, rfl⟩) e.symm
    cases f with
    | ret v => exact .ret p
    | brk => exact .brk p
    | next => exact .next (fin p)
    | cont => exact .cont (fin p)
  · rintro h' tk m' news' F' N' _ ⟨_, hJ⟩
    exact done m' news' h' tk hJ F' N'
/-- an expression that gives an int and lays nothing: its ways meet -/
theorem int_meets {M : Model} {Q : Value → Shared → Prop} {t : Sem Value} (h : wpAny M A t (fun v s' => ∃ y u tk, v = .int y u ∧ s' = { s with toks := tk }) E s) (hQ : ∀ y u tk, Q (.int y u) { s with toks := tk }) : wpAny M A t Q E s :=
  wpAny_mono h (fun v s' ⟨y, u, tk, e1, e2⟩ => by subst e1; subst e2; exact hQ y u tk) fun _ _ e => e
end
section
theorem Nodup.filter_new {ms acc : List Int} (hm : ms.Nodup) : ms.foldl addN acc = acc ++ ms.filter (fun k => !(acc.contains k)) := by
  induction ms generalizing acc with
  | nil => simp
  | cons k r ih =>
    obtain ⟨hk, hr⟩ := List.nodup_cons.mp hm
    rw [List.foldl_cons, ih hr]
    unfold addN
    split
    · rename_i h
      rw [List.filter_cons]
      simp [h]
    · rename_i h
      rw [List.filter_cons]
      have hc : acc.contains k = false := by simpa using h
      simp only [hc, Bool.not_false, if_true]
      rw [List.append_assoc, List.singleton_append]
      congr 2
      refine List.filter_congr fun x hx => ?_
      have hxk : x ≠ k := fun e => hk (e ▸ hx)
      simp [hxk]
end
end Mine
end
-- part L1
section
open PySem PySem.W PySem.Calls PyProof.Rows PySem.Spec
set_option maxRecDepth 100000
namespace Mine
section
variable {prog : Program} {w : World} {A : Around} {E : Value → Shared → Prop} {s : Shared}
theorem k241 : (Mine.hd.heap_39 w.params).lookup 241 = some { cls := .type "tuple", data := .seq #[.ref 236, .ref 237, .ref 239, .ref 240] 0 } := by k_is
theorem wrong_item {value slice : PySem.Expr} {i : Int} {u : Tok} {Q : Value → Shared → Prop} (X : (Mine.hd.heap_39 w.params).In s.heap) (h0 : 0 ≤ i) (h4 : i < 4) (h : ∀ v, Wrong v → Q v s)
    (hs : subscripted slice false (.ref 241) (.int i u) = operate [.ref 241, .int i u] (getItem (.ref 241) (.int i u)) := by with_unfolding_all rfl) :
    wpAny (model prog w) A (subscriptTail value slice (.ref 241) (.int i u)) Q E s := by
  have ht : s.heap.IsTuple 241 #[.ref 236, .ref 237, .ref 239, .ref 240] := ⟨_, X 241 _ k241, rfl, 0, rfl⟩
  have hi : i = 0 ∨ i = 1 ∨ i = 2 ∨ i = 3 := by omega
  rcases hi with rfl | rfl | rfl | rfl
  · exact tail_any ht.typeIs slot_tuple_getitem.lookup (getItem_tuple ht (by decide) (by decide) (seqIndex_of (by decide) (by decide)) (x := .ref 236) rfl (h _ (.inl rfl))) hs
  · exact tail_any ht.typeIs slot_tuple_getitem.lookup (getItem_tuple ht (by decide) (by decide) (seqIndex_of (by decide) (by decide)) (x := .ref 237) rfl (h _ (.inr (.inl rfl)))) hs
  · exact tail_any ht.typeIs slot_tuple_getitem.lookup (getItem_tuple ht (by decide) (by decide) (seqIndex_of (by decide) (by decide)) (x := .ref 239) rfl (h _ (.inr (.inr (.inl rfl))))) hs
  · exact tail_any ht.typeIs slot_tuple_getitem.lookup (getItem_tuple ht (by decide) (by decide) (seqIndex_of (by decide) (by decide)) (x := .ref 240) rfl (h _ (.inr (.inr (.inr rfl))))) hs
end
end Mine
end
-- part L2
section
open PySem PySem.W PySem.Calls PyProof.Rows PySem.Spec
set_option maxRecDepth 100000
namespace Mine
/-- what the law's turns keep: the set, its row, the plain row, the cell -/
def Held (sa la dx C : Addr) (so : Obj) (vs : List Value) (c : Nat) (pl : Addr) (ps : List Value) (c' : Nat) (oC : Obj) : List (Addr × Obj) :=
  [(sa, so), (la, listOf vs.toArray c), (pl, listOf ps.toArray c'), (dx, dictOf [] 0), (C, oC)]
structure LFacts (sa la dx C : Addr) (so : Obj) (vs : List Value) (pl : Addr) (ps : List Value) (oC : Obj) (ns : List Int) : Prop where
  set : OSet so dx la ns
  row : IntsAre vs ns
  plain : IntsAre ps ns
  nodup : ns.Nodup
  small : ∀ k ∈ ns, 0 ≤ k ∧ k < 10
  cell : oC.data = .cell (some (.ref pl))
  d1 : sa ≠ la
  d2 : pl ≠ sa
  d3 : pl ≠ la
  d4 : pl ≠ C
  d5 : dx ≠ sa
  d6 : dx ≠ la
  d7 : dx ≠ C
  d8 : C ≠ sa
  d9 : C ≠ la
theorem held_perm {h₀ h : Heap} {L l sa la dx l2 pl C : Addr} {o0 so o2 oC : Obj} {ys ps : List Value} {c c' : Nat} (N : News h₀ L h ((l, o0) :: (sa, so) :: (la, listOf ys.toArray c) :: (dx, dictOf [] 0) :: (l2, o2) :: ([(pl, listOf ps.toArray c')] ++ [(C, oC)]))) : News h₀ L h ((l, o0) :: Held sa la dx C so ys c pl ps c' oC) :=
  News.sub N fun p hp => by
    simp only [Held, List.mem_cons, List.mem_append, List.not_mem_nil, or_false] at hp ⊢
    grind
def sameBut (m m₀ : Str → Option Value) : Prop := ∀ z, z ≠ Str.ofString "x" → z ≠ Str.ofString "kind" → z ≠ Str.ofString "w" → z ≠ Str.ofString "row" → z ≠ Str.ofString "grown" → z ≠ Str.ofString "told" → m z = m₀ z
def withMap (ux uk uw ur ug ut : Option Value) (m₀ : Str → Option Value) : Str → Option Value := fun z => if z = Str.ofString "told" then ut else if z = Str.ofString "grown" then ug else if z = Str.ofString "row" then ur else if z = Str.ofString "w" then uw else if z = Str.ofString "kind" then uk else if z = Str.ofString "x" then ux else m₀ z
theorem sameBut.map {m m₀ : Str → Option Value} (h : sameBut m m₀) : m = withMap (m (Str.ofString "x")) (m (Str.ofString "kind")) (m (Str.ofString "w")) (m (Str.ofString "row")) (m (Str.ofString "grown")) (m (Str.ofString "told")) m₀ := by
  funext z
  unfold withMap
  split
  · subst_vars; rfl
  split
  · subst_vars; rfl
  split
  · subst_vars; rfl
  split
  · subst_vars; rfl
  split
  · subst_vars; rfl
  split
  · subst_vars; rfl
  exact h z ‹_› ‹_› ‹_› ‹_› ‹_› ‹_›
def LInv (sa la dx C : Addr) (m₀ : Str → Option Value) (m : Str → Option Value) (nx : List (Addr × Obj)) : Prop :=
  ∃ so vs c pl ps c' oC ns, nx = Held sa la dx C so vs c pl ps c' oC ∧ LFacts sa la dx C so vs pl ps oC ns ∧ sameBut m m₀
section
variable {prog : Program} {w : World} {A : Around} {E : Value → Shared → Prop} {s : Shared} {env : Env} {h₀ : Heap} {body : List Stmt} {Q : Flow → Shared → Prop}
theorem iter_law {l : Addr} {xs : List Value} {xn : List Int} {cx : Nat} {m₀ : Str → Option Value} {sa la dx C : Addr} {so : Obj} {vs : List Value} {c : Nat} {pl : Addr} {ps : List Value} {c' : Nat} {oC : Obj} {ns : List Int}
    (hh : A.handled = none) (F : Fr h₀ env.locals s.heap m₀) (N : News h₀ env.locals s.heap ((l, listOf xs.toArray cx) :: Held sa la dx C so vs c pl ps c' oC)) (hi : IntsAre xs xn) (hln : ∀ p ∈ Held sa la dx C so vs c pl ps c' oC, p.1 ≠ l) (G : LFacts sa la dx C so vs pl ps oC ns)
    (turn : ∀ n t h tk own so vs c pl ps c' oC ns ux uk uw ur ug ut, OwnOff own [sa, la, pl, dx, C] → LFacts sa la dx C so vs pl ps oC ns → Fr h₀ env.locals h (fun y => if y = Str.ofString "x" then some (.int n t) else withMap ux uk uw ur ug ut m₀ y) → News h₀ env.locals h ((sa, so) :: (la, listOf vs.toArray c) :: (pl, listOf ps.toArray c') :: (dx, dictOf [] 0) :: (C, oC) :: own) →
      wpAny (model prog w) A (execs body env) (InvPostG h₀ env.locals (LInv sa la dx C m₀) own { s with heap := h, toks := tk } Q) E { s with heap := h, toks := tk })
    (done : ∀ h tk so vs c pl ps c' oC ns ux uk uw ur ug ut, LFacts sa la dx C so vs pl ps oC ns → Fr h₀ env.locals h (fun z => withMap ux uk uw ur ug ut m₀ z) → News h₀ env.locals h ((sa, so) :: (la, listOf vs.toArray c) :: (pl, listOf ps.toArray c') :: (dx, dictOf [] 0) :: [(C, oC)]) → Q .next { s with heap := h, toks := tk }) :
    wpAny (model prog w) A (pyIter (.ref l)) (fun it s₂ => LoopAtV prog w A h₀ env (Str.ofString "x") body Q E it s₂) E s := by
  refine iter_rowG (fun _ => LInv sa la dx C m₀) hh F N hi hln ⟨so, vs, c, pl, ps, c', oC, ns, rfl, G, fun _ _ _ _ _ _ _ => rfl⟩ ?_ ?_
  · rintro i n t m₁ _ h tk own - hoff ⟨so, vs, c, pl, ps, c', oC, ns, rfl, G, hm⟩ F₁ N₁
    rw [hm.map] at F₁
    exact turn n t h tk own so vs c pl ps c' oC ns _ _ _ _ _ _ hoff G F₁ N₁
  · rintro m₁ _ h tk ⟨so, vs, c, pl, ps, c', oC, ns, rfl, G, hm⟩ F₁ N₁
    rw [hm.map] at F₁
    exact done h tk so vs c pl ps c' oC ns _ _ _ _ _ _ G F₁ N₁
end
end Mine
end
-- part C2
section
open PySem PySem.W PySem.Calls PyProof.Rows PySem.Spec
set_option maxRecDepth 100000
namespace Mine
/-- what a turn of a comprehension with a test hands on -/
def TEl (news : List (Addr × Obj)) (g : Int → Bool) (k : Int) (b : Bool) (y : Value) (news' : List (Addr × Obj)) : Prop := news' = news ∧ g k = b ∧ (b = true → ∃ t, y = .int k t)
section
variable {prog : Program} {w : World} {A : Around} {h₀ : Heap} {L : Addr} {m : Str → Option Value} {env : Env} {ct elt : Expr} {x : Str} {scope : Scope} {cl : List (Str × Addr)} {s : Shared} {S : List (Addr × Obj) → Prop} {Fin : List Value → List (Addr × Obj) → Prop} {news : List (Addr × Obj)}
theorem any_contains (ns : List Int) (k : Int) : ns.any (· == k) = ns.contains k := by rw [Bool.eq_iff_iff]; simp
theorem kt_filter {vs : List Value} {ks : List Int} (hv : IntsAre vs ks) (g : Int → Bool)
    (turn : ∀ k t I oI C oC D m₂ ys h tk (E' : Value → Shared → Prop), LCg.NsObj oC m₂ → m₂ x = some (.int k t) → Fr h₀ L h m → News h₀ L h ((I, oI) :: (C, oC) :: (D, LCg.lst ys) :: news) → LCg.Off3 I C D news → ((@Ne Nat I C) ∧ (@Ne Nat I D) ∧ (@Ne Nat C D)) →
      wpAny (model prog w) A (isTrue ct (compEnvC scope cl C env) (eval ct (compEnvC scope cl C env))) (fun ok s' => if ok = true then
        wpAny (model prog w) A (eval elt (compEnvC scope cl C env)) (LCg.CompEnd h₀ L m { s with heap := h, toks := tk } I oI C oC D (LCg.lst ys) S (fun y news' => TEl news g k true y news')) E' s'
        else LCg.CompEnd h₀ L m { s with heap := h, toks := tk } I oI C oC D (LCg.lst ys) S (fun y news' => TEl news g k false y news') Value.none s') E' { s with heap := h, toks := tk })
    (fin : ∀ ys, IntsAre ys (ks.filter g) → Fin ys news) : LCt.CompRestT prog w A h₀ L m env ct elt x scope cl s S (fun i v => vs.toArray[i]? = some v) Fin vs.toArray.size 0 [] news := by
  have key : ∀ (j i : Nat) (ys : List Value), i + j = vs.length → IntsAre ys ((ks.take i).filter g) → LCt.CompRestT prog w A h₀ L m env ct elt x scope cl s S (fun i v => vs.toArray[i]? = some v) Fin j i ys news := by
    intro j
    induction j with
    | zero =>
      intro i ys hi hy
      have e : i = ks.length := by have := hv.length; omega
      subst e
      rw [List.take_length] at hy
      exact LCt.CompRestT.zero (fin ys hy)
    | succ j ih =>
      intro i ys hi hy
      refine LCt.CompRestT.succ ?_
      intro v I oI C oC D m₂ h tk E' hP hC hx F N off ne
      have hlen := hv.length
      have hk : ks[i]? = some (ks[i]'(by omega)) := by simp [show i < ks.length by omega]
      generalize ks[i]'(by omega) = k at hk
      obtain ⟨t, ht⟩ := hv.get i k hk
      have hvt : v = .int k t := by
        have hP' : vs[i]? = some v := by simpa using hP
        rw [ht] at hP'; exact (Option.some.inj hP').symm
      subst hvt
      refine wpAny_mono (turn k t I oI C oC D m₂ ys h tk E' hC hx F N off ne) (fun ok s₂ hq => ?_) fun _ _ e => e
      have ht1 : ks.take (i + 1) = ks.take i ++ [k] := by rw [List.take_add_one, hk]; rfl
      cases ok with
      | true =>
        simp only [if_true] at hq ⊢
        refine wpAny_mono hq (fun y s₃ hq => ?_) fun _ _ e => e
        obtain ⟨h', tk', nw, e, F', N', off', hS, hn, hg, hy'⟩ := hq
        obtain ⟨t', rfl⟩ := hy' rfl
        subst hn
        refine ⟨h', tk', nw, e, F', N', off', hS, ?_⟩
        refine ih (i + 1) _ (by omega) ?_
        rw [ht1, List.filter_append, List.filter_cons, if_pos hg]
        exact hy.append (.cons k t' .nil)
      | false =>
        simp only [Bool.false_eq_true, if_false] at hq ⊢
        obtain ⟨h', tk', nw, e, F', N', off', hS, hn, hg, hy'⟩ := hq
        subst hn
        refine ⟨h', tk', nw, e, F', N', off', hS, ?_⟩
        refine ih (i + 1) _ (by omega) ?_
        rw [ht1, List.filter_append, List.filter_cons, if_neg (by rw [hg]; decide), List.filter_nil, List.append_nil]
        exact hy
  have := key vs.length 0 [] (by omega) .nil
  simpa using this
end
end Mine
end
-- part C3
section
open PySem PySem.W PySem.Calls PyProof.Rows PySem.Spec
set_option maxRecDepth 100000
namespace Mine
def Mid (h₀ : Heap) (L : Addr) (J : (Str → Option Value) → List (Addr × Obj) → Prop) (own : List (Addr × Obj)) (s₁ : Shared) (f : Flow) (s' : Shared) : Prop := f = .next ∧ InvEndG h₀ L J own s₁ s'
/-- names the frame and the map of the law's loop -/
structure LawAt (h₀ : Heap) (L : Addr) (m₀ : Str → Option Value) : Prop where
theorem LawAt.of {h₀ hh : Heap} {L : Addr} {ux uk uw ur ug ut v : Option Value} {m₀ : Str → Option Value} (_F : Fr h₀ L hh (fun y => if y = Str.ofString "x" then v else withMap ux uk uw ur ug ut m₀ y)) : LawAt h₀ L m₀ := ⟨⟩
theorem turn_perm {h₀ h : Heap} {L sa la dx pl C rl gl x1 x2 : Addr} {o1 o2 so oC : Obj} {vs ps rs zs : List Value} {c c' cr cg : Nat} {own : List (Addr × Obj)} (N : News h₀ L h ((gl, listOf zs.toArray cg) :: (x1, o1) :: (x2, o2) :: (rl, listOf rs.toArray cr) :: (sa, so) :: (la, listOf vs.toArray c) :: (pl, listOf ps.toArray c') :: (dx, dictOf [] 0) :: (C, oC) :: own)) :
    News h₀ L h ((sa, so) :: (la, listOf vs.toArray c) :: (rl, listOf rs.toArray cr) :: (pl, listOf ps.toArray c') :: (dx, dictOf [] 0) :: (C, oC) :: (gl, listOf zs.toArray cg) :: own) :=
  News.sub N fun p hp => by
    simp only [List.mem_cons] at hp ⊢
    grind
theorem cell_first {h₀ h : Heap} {L : Addr} {e1 e2 e3 e4 e5 e6 e7 : Addr × Obj} {own : List (Addr × Obj)} (N : News h₀ L h (e1 :: e2 :: e3 :: e4 :: e5 :: e6 :: e7 :: own)) : News h₀ L h (e6 :: e1 :: e2 :: e3 :: e4 :: e5 :: e7 :: own) :=
  News.sub N fun p hp => by
    simp only [List.mem_cons] at hp ⊢
    grind
theorem foldAdd_small {ms acc : List Int} {b : Int} (h1 : ∀ k ∈ acc, 0 ≤ k ∧ k < b) (h2 : ∀ k ∈ ms, 0 ≤ k ∧ k < b) : ∀ k ∈ ms.foldl addN acc, 0 ≤ k ∧ k < b := fun k hk => (mem_foldAdd.mp hk).elim (h1 k) (h2 k)
section
variable {M : Model} {A : Around} {E : Value → Shared → Prop} {s : Shared}
/-- a statement behind which the law's turn stands as at its start -/
theorem law_mid {t : Sem Flow} {h₀ : Heap} {L sa la dx C : Addr} {m₀ : Str → Option Value} {own : List (Addr × Obj)} {R : Flow → Shared → Prop} (_K : LawAt h₀ L m₀) {adr : List Addr} (_hoff : OwnOff own adr) {so₀ : Obj} {vs₀ ps₀ : List Value} {pl₀ : Addr} {oC₀ : Obj} {ns₀ : List Int} (_G : LFacts sa la dx C so₀ vs₀ pl₀ ps₀ oC₀ ns₀)
    (h : wpAny M A t (Mid h₀ L (LInv sa la dx C m₀) own s) E s)
    (next : ∀ h' tk so vs c pl ps c' oC ns ux uk uw ur ug ut, OwnOff own [sa, la, pl, dx, C] → LFacts sa la dx C so vs pl ps oC ns → Fr h₀ L h' (fun z => withMap ux uk uw ur ug ut m₀ z) → News h₀ L h' ((sa, so) :: (la, listOf vs.toArray c) :: (pl, listOf ps.toArray c') :: (dx, dictOf [] 0) :: (C, oC) :: own) → R .next { s with heap := h', toks := tk }) : wpAny M A t R E s := by
  refine wpAny_mono h (fun f s' hm => ?_) fun _ _ e => e
  obtain ⟨rfl, h', tk, m', news', _, rfl, F', N', hn, ho, ha, so, vs, c, pl, ps, c', oC, ns, rfl, G, hm⟩ := hm
  rw [hm.map] at F'
  refine next h' tk so vs c pl ps c' oC ns _ _ _ _ _ _ ha G F' fun p hp => ?_
  rcases List.mem_cons.mp hp with rfl | hp
  · exact N' _ (hn _ (.head _))
  rcases List.mem_cons.mp hp with rfl | hp
  · exact N' _ (hn _ (.tail _ (.head _)))
  rcases List.mem_cons.mp hp with rfl | hp
  · exact N' _ (hn _ (.tail _ (.tail _ (.head _))))
  rcases List.mem_cons.mp hp with rfl | hp
  · exact N' _ (hn _ (.tail _ (.tail _ (.tail _ (.head _)))))
  rcases List.mem_cons.mp hp with rfl | hp
  · exact N' _ (hn _ (.tail _ (.tail _ (.tail _ (.tail _ (.head _))))))
  · exact N' _ (ho p hp)
theorem if_kind {test : Expr} {body orelse : List Stmt} {pos : Pos} {env : Env} {Q : Flow → Shared → Prop} {b : Bool}
    (h : wpAny M A (isTrue test env (eval test env)) (fun c s' => c = b ∧ (b = true → Tag (wpAny M A (execs body env) Q E s')) ∧ (b = false → Tag (wpAny M A (execs orelse env) Q E s'))) E s) : wpAny M A (exec (.If test body orelse pos) env) Q E s := by
  refine wpAny_If (wpAny_mono h (fun c s₁ hb => ?_) fun _ _ e => e)
  obtain ⟨rfl, h1, h2⟩ := hb
  cases c with
  | true => exact h1 rfl
  | false => exact h2 rfl
theorem InvEndG.law {h₀ h' : Heap} {L sa la dx C : Addr} {m₀ m' : Str → Option Value} {own news' : List (Addr × Obj)} {s₁ : Shared} {tk : Nat} {so : Obj} {vs : List Value} {c : Nat} {pl : Addr} {ps : List Value} {c' : Nat} {oC : Obj} {ns : List Int} (F : Fr h₀ L h' m') (N : News h₀ L h' news') (hm : sameBut m' m₀) (G : LFacts sa la dx C so vs pl ps oC ns)
    (ha : OwnOff own [sa, la, pl, dx, C]) (hn : ∀ p ∈ Held sa la dx C so vs c pl ps c' oC ++ own, p ∈ news') : InvEndG h₀ L (LInv sa la dx C m₀) own s₁ { s₁ with heap := h', toks := tk } :=
  InvEndG.intro (nx := Held sa la dx C so vs c pl ps c' oC) F N ⟨so, vs, c, pl, ps, c', oC, ns, rfl, G, hm⟩ ha (fun p hp => hn p (List.mem_append.mpr (.inl hp))) fun p hp => hn p (List.mem_append.mpr (.inr hp))
end
end Mine
end
-- the law
open PySem PySem.W PySem.Calls PyProof.Rows PySem.Spec
set_option maxRecDepth 100000
open Mine
local macro_rules | `(tactic| k_room) => `(tactic| (show _ < 1000; (try simp only [depth_mark, depth_under_make, depth_under_kw, depth_in1, depth_deeper, depth_caller]); (try dsimp only); omega))
local macro_rules | `(tactic| k_mem) => `(tactic| (first | assumption | exact List.Mem.head _ | exact List.Mem.tail _ (by assumption) | exact List.Mem.tail _ (List.Mem.head _) | exact List.Mem.tail _ (List.Mem.tail _ (by assumption)) | exact List.Mem.tail _ (List.Mem.tail _ (List.Mem.head _)) | exact List.Mem.tail _ (List.Mem.tail _ (List.Mem.tail _ (by assumption))) | exact List.Mem.tail _ (List.Mem.tail _ (List.Mem.tail _ (List.Mem.head _))) | exact List.Mem.tail _ (List.Mem.tail _ (List.Mem.tail _ (List.Mem.tail _ (by assumption)))) | exact List.Mem.tail _ (List.Mem.tail _ (List.Mem.tail _ (List.Mem.tail _ (List.Mem.head _)))) | exact List.Mem.tail _ (List.Mem.tail _ (List.Mem.tail _ (List.Mem.tail _ (List.Mem.tail _ (by assumption))))) | exact List.Mem.tail _ (List.Mem.tail _ (List.Mem.tail _ (List.Mem.tail _ (List.Mem.tail _ (List.Mem.head _))))) | exact List.Mem.tail _ (List.Mem.tail _ (List.Mem.tail _ (List.Mem.tail _ (List.Mem.tail _ (List.Mem.tail _ (by assumption)))))) | exact List.Mem.tail _ (List.Mem.tail _ (List.Mem.tail _ (List.Mem.tail _ (List.Mem.tail _ (List.Mem.tail _ (List.Mem.head _)))))) | exact List.Mem.tail _ (List.Mem.tail _ (List.Mem.tail _ (List.Mem.tail _ (List.Mem.tail _ (List.Mem.tail _ (List.Mem.tail _ (by assumption))))))) | exact List.Mem.tail _ (List.Mem.tail _ (List.Mem.tail _ (List.Mem.tail _ (List.Mem.tail _ (List.Mem.tail _ (List.Mem.tail _ (List.Mem.head _))))))) | exact List.Mem.tail _ (List.Mem.tail _ (List.Mem.tail _ (List.Mem.tail _ (List.Mem.tail _ (List.Mem.tail _ (List.Mem.tail _ (List.Mem.tail _ (by assumption)))))))) | exact List.Mem.tail _ (List.Mem.tail _ (List.Mem.tail _ (List.Mem.tail _ (List.Mem.tail _ (List.Mem.tail _ (List.Mem.tail _ (List.Mem.tail _ (List.Mem.head _))))))))))
local macro_rules | `(tactic| walk_at "getMethod ref") => `(tactic| (k_here; k_dflt (refine' o_method ?H ?F ?X ?N ?m ?d ?e ?t ?_; (case F => k_asm); (case X => k_asm); (case N => k_asm); (case m => k_mem); (case H => assumption); (case d => k_mem); (case e => k_is); (case t => k_is))))
local macro_rules | `(tactic| walk_at "call ref") => `(tactic| ((fail_if_success (rename NTag => nt)); refine Tag.mk ?_))
local macro_rules | `(tactic| walk_at "compareOp NotEq ref ref") => `(tactic| refine Tag.mk ?_)
local macro_rules | `(tactic| walk_at "compareOp Eq ref ref") => `(tactic| refine Tag.mk ?_)
local macro_rules | `(tactic| walk_at "call type:list") => `(tactic| refine Tag.mk ?_)
local macro_rules | `(tactic| walk_at "compareOp NotIn int ref") => `(tactic| refine Tag.mk ?_)
local macro_rules | `(tactic| walk_at "binaryOp Add ref ref") => `(tactic| refine Tag.mk ?_)
local macro_rules | `(tactic| walk_at "subscriptTail Name BinOp ref int") => `(tactic| refine Tag.mk ?_)
local macro_rules | `(tactic| walk_at "pyIter ref") => `(tactic| refine Tag.mk ?_)
local macro_rules | `(tactic| walk_at "eval IfExp") => `(tactic| ((fail_if_success (rename NIf => nt)); refine Tag.mk ?_))
local macro_rules | `(tactic| ktr_unf) => `(tactic| ((case qB => k_asm); (case qF => k_asm); (case qX => k_asm); (try (case qN => k_asm)); (case qT => k_asm); (case qe => exact rfl); (case qk => exact rfl); (case qa => exact Nat.le_of_ble_eq_true rfl); (case qb => exact Nat.le_of_ble_eq_true rfl)))
local macro_rules | `(tactic| walk_at "exec For Name Subscript cons nil") => `(tactic| (k_here; (rename Fr _ _ _ _ => lF'); (with_unfolding_all refine' For_invVF lF' ?k1 ?k2 ?_; (case k1 => exact rfl); (case k2 => exact rfl); k_whole)))
local macro_rules | `(tactic| walk_at "eval ListComp") => `(tactic| (k_here; lct_look; k_dflt (refine LCt.ListComp_T (F₀ := by k_asm) (by with_unfolding_all rfl) (by decide) (by rfl) (by decide) (by rfl) ?_)))
local macro_rules | `(tactic| walk_at "CompSrcT") => `(tactic| refine Tag.mk ?_)
local macro_rules | `(tactic| walk_at "exec If") => `(tactic| ((fail_if_success (rename SIf => nt)); refine Tag.mk ?_))
local macro_rules | `(tactic| tb_start) => `(tactic| (intro z h1 h2 h3 h4 h5 h6; simp only [h1, h2, h3, h4, h5, h6, if_false]))
local macro_rules | `(tactic| tb_rel) => `(tactic| (intro p hp; simp only [Held, List.mem_append, List.mem_cons, List.not_mem_nil, or_false, false_or] at hp ⊢; grind))
local macro_rules | `(tactic| ktr_rel) => `(tactic| ((case qB => k_asm); (case qF => k_asm); (case qX => k_asm); (case qN => k_asm); (case qT => k_asm); (case qe => exact rfl); (case qk => exact rfl); (case qa => exact Nat.le_of_ble_eq_true rfl)))
set_option maxHeartbeats 8000000 in
theorem PySem.Challenge.cw_aw6038_01_holds : PySem.Challenge.rw_aw6038_01.Holds := by
  refine Mine.hd ?_
  w_strict (k_go0; (all_goals try k_fold); k_steps
            refine Tag.un ?_
            have ni : NIf := ⟨⟩
            refine int_meets ?_ ?_
            · k_steps
            intro y u tk
            k_steps
            refine Tag.un ?_
            refine' row_ok ?qa ?qb ?qB ?qF ?qX ?qN ?qT ?qe ?qk ?_
            ktr_unf
            intro pl cp hr tkr ps hps Fr0 Nr0 lr0
            k_steps
            refine Tag.un ?_
            rename News _ _ _ _ => N1
            rename Fr _ _ _ _ => F1
            have hpl : ps.length ≤ 3 := by rw [hps.length]; exact rowOf_len y
            refine kup_listOf (zs := ps) F1 N1 (.head _) (by simp) ?_ (by rw [sizeLine_eq]; simp; omega)
            intro l2 c2 h2 F2 N2 ll2
            k_steps
            refine Tag.un ?_
            refine' class_ok ?qa ?qb ?qB ?qF ?qX ?qN ?qT ?qe ?qk (.head _) hps ?qs ?qr ?_
            case qs => omega
            case qr => exact fun k hk => ⟨(rowOf_range hk).1, Int.lt_trans (rowOf_range hk).2 (by decide)⟩
            ktr_unf
            intro sa dx la so ys cl h3 tk3 H3 hys3 F3 N3 lx1 lx2 lx3
            rw [foldAdd_nil (rowOf_nodup y)] at H3 hys3
            k_steps
            refine Tag.un ?_
            rename News _ _ _ _ => N4
            rename Fr _ _ _ _ => F4
            rename IntsAre _ (List.take _ _) => I4
            have q1 := lx1 _ (.tail _ (.head _))
            have q2 := lx1 _ (.tail _ (.tail _ (.head _)))
            have q3 := lr0 _ (.head _)
            have q4 := N4 _ (.head _)
            rename sa < _ ∧ _ => q5
            have N5 := held_perm N4
            refine iter_law rfl (by exact F4) (by exact N5) (by exact I4) ?_ (by exact ⟨H3, hys3, hps, rowOf_nodup y, fun k hk => rowOf_range hk, by assumption, Nat.ne_of_lt lx3, Nat.ne_of_lt (Nat.lt_trans q1 lx2), Nat.ne_of_lt (Nat.lt_trans q1 (Nat.lt_trans lx2 lx3)), Ne.symm q3, Nat.ne_of_lt lx2, Nat.ne_of_lt (Nat.lt_trans lx2 lx3), Ne.symm (Nat.ne_of_lt q2), Nat.ne_of_lt (Nat.lt_trans q2 lx2), Nat.ne_of_lt (Nat.lt_trans q2 (Nat.lt_trans lx2 lx3))⟩) ?_ ?_
            · intro p hp
              obtain ⟨z1, z2, z3, z4, z5⟩ := q5
              simp only [Held, List.mem_cons, List.not_mem_nil, or_false] at hp
              rcases hp with rfl | rfl | rfl | rfl | rfl
              · exact Nat.ne_of_lt z1
              · exact Nat.ne_of_lt z2
              · exact Nat.ne_of_lt (Nat.lt_trans q1 z3)
              · exact Nat.ne_of_lt z3
              · exact Nat.ne_of_lt (Nat.lt_trans q2 z3)
            · intro n t h tk own so vs c pl ps c' oC ns ux uk uw ur ug ut hoff G5 F5 N5
              have Fm := LawAt.of F5
              clear H3 hys3 hps lr0 lx1 q1 q2 q3 q4 q5 ll2 I4
              simp only [withMap] at F5
              have hcell := G5.cell
              k_steps
              refine Tag.un ?_
              rename Frag.In _ _ => X5
              refine wrong_item (X5.keeps F5.keep) ?_ ?_ ?_
              · exact Int.fmod_nonneg_of_pos _ (by decide)
              · exact Int.fmod_lt_of_pos _ (by decide)
              intro v hwr
              k_steps
              refine Tag.un ?_
              refine' row_ok ?qa ?qb ?qB ?qF ?qX ?qN ?qT ?qe ?qk ?_
              ktr_unf
              intro rl cr h6 tk6 rs hrs F6 N6 lr6
              k_steps
              refine Tag.un ?_
              rename News _ _ _ _ => N7
              rename Fr _ _ _ _ => F7
              have hrl : rs.length ≤ 3 := by rw [hrs.length]; exact rowOf_len _
              refine LCt.CompSrcT.ledger (by rfl) F7 N7 (.tail _ (.head _)) (by rw [sizeLine_eq]; simp; omega) ?_
              intro g'
              refine kt_filter hrs (fun k => !(ns.contains k)) ?_ ?_
              · intro k tk8 I8 oI8 C8 oC8 D8 m8 ys8 h8 tk8' E8 hC8 hx8 F8 N8 off8 ne8
                k_steps
                refine Tag.un ?_
                rename News _ _ _ _ => N9
                rename Fr _ _ _ _ => F9
                refine notin_list_ints ⟨_, (N9 _ (by k_mem : (pl, PySem.W.listOf ps.toArray c') ∈ _)).1, rfl, c', rfl⟩ G5.plain ?_
                rw [any_contains]
                cases hc : ns.contains k
                · k_steps
                  refine LCg.CompEnd.intro F9 N9 _ (fun p hp => hp) off8 (.inr ⟨_, .tail _ (.head _), rfl, _, rfl⟩) ⟨rfl, by simp only [hc]; rfl, fun _ => ⟨_, rfl⟩⟩
                · k_steps
                  refine LCg.CompEnd.intro F9 N9 _ (fun p hp => hp) off8 (.inr ⟨_, .tail _ (.head _), rfl, _, rfl⟩) ⟨rfl, by simp only [hc]; rfl, fun e => nomatch e⟩
              intro zs hzs
              k_steps
              refine Tag.un ?_
              rename News _ _ _ _ => N10
              rename Fr _ _ _ _ => F10
              have hgs : IntsAre (ps ++ zs) ((rowOf (n.fdiv 60)).foldl addN ns) := by
                rw [Nodup.filter_new (rowOf_nodup _)]; exact G5.plain.append hzs
              have hps5 : ps.length ≤ 12 := by rw [G5.plain.length]; exact G5.set.len
              have hzs5 : zs.length ≤ 3 := by rw [hzs.length]; exact Nat.le_trans (List.length_filter_le _ _) (rowOf_len _)
              refine kmk_add_lit (zs := ps ++ zs) F10 N10 (a := pl) (its := ps.toArray) (its2 := zs.toArray) ⟨_, (N10 _ (by k_mem : (pl, PySem.W.listOf ps.toArray c') ∈ _)).1, rfl, c', rfl⟩ ⟨_, (N10 _ (.head _)).1, rfl, _, rfl⟩ (by simp) ?_ (by rw [sizeLine_eq]; simp; omega)
              intro gl h11 F11 N11 l11
              k_steps
              refine Tag.un ?_
              refine law_mid Fm hoff G5 ?_ ?_
              · rename Fr _ _ _ _ => F12
                refine wpAny_If (kind_test F12 (by rfl) rfl rfl (by decide) ?_)
                by_cases hk14 : n.fmod 15 = 14
                · rw [if_pos (by rw [hk14]; rfl)]
                  have H5 := G5.set
                  k_steps
                  refine Tag.un ?_
                  rename News _ _ _ _ => N40
                  rename Fr _ _ _ _ => F40
                  refine kup_listOf (zs := rs) F40 N40 (b := rl) (its2 := rs.toArray) (n2 := cr) (by k_mem) (by simp) ?_ (by rw [sizeLine_eq]; simp; omega)
                  intro t1 ct1 h41 F41 N41 l41
                  k_steps
                  refine Tag.un ?_
                  refine' union_ok (vs := vs) (c := c) (ts := rs) (c' := ct1) ?qa ?qb ?qB ?qF ?qX ?qN ?qT ?qe ?qk G5.set G5.row G5.nodup (fun k hk => ⟨(G5.small k hk).1, Int.lt_trans (G5.small k hk).2 (by decide)⟩) ?qm1 ?qm2 ?qm3 ?qm4 hrs (fun k hk => ⟨(rowOf_range hk).1, Int.lt_trans (rowOf_range hk).2 (by decide)⟩) ?qQ0
                  ktr_unf
                  (case qm1 => k_mem)
                  (case qm2 => k_mem)
                  (case qm3 => k_mem)
                  (case qm4 => k_mem)
                  case' qQ0 => skip
                  intro ux42 dx42 lx42 so42 vs42 c42 h42 tk42 H42 hv42 F42 N42 l42 l43 l44
                  have hsu := l42 (sa, so) (by k_mem)
                  have hne42 : ux42 ≠ sa := Nat.ne_of_gt (Nat.lt_trans hsu (Nat.lt_trans l43 l44))
                  k_steps
                  have si : SIf := ⟨⟩
                  refine Tag.un ?_
                  k_steps
                  refine Tag.un ?_
                  refine' list_ok (vs := vs42) (c := c42) ?qa ?qB ?qF ?qX ?qN ?qT ?qe ?qk H42 ?qm1 ?qm2 ?qm3 hv42 ?qQ3
                  ktr_rel
                  (case qm1 => k_mem)
                  (case qm2 => k_mem)
                  (case qm3 => k_mem)
                  case' qQ3 => skip
                  intro D45 c45 h45 tk45 F45 N45 l45
                  k_steps
                  refine Tag.un ?_
                  refine ne_intsK ⟨_, (N45 _ (.head _)).1, rfl, c45, rfl⟩ hv42 ⟨_, (N45 _ (by k_mem : (gl, PySem.W.listOf (ps ++ zs).toArray 0) ∈ _)).1, rfl, 0, rfl⟩ hgs (by exact Nat.le_of_ble_eq_true rfl) ?_
                  rw [decide_eq_true rfl, Bool.not_true]
                  k_steps
                  refine kto_is (N45 _ (by k_mem : (ux42, so42) ∈ _)).1 (N45 _ (by k_mem : (sa, so) ∈ _)).1 hne42 (by rw [H42.cls]; exact fun z => nomatch z) ?_
                  k_steps
                  refine Tag.un ?_
                  refine' agrees_ok ?qa ?qb ?qB ?qF ?qX ?qN ?qT ?qe ?qk G5.set G5.row G5.nodup (fun k hk => ⟨(G5.small k hk).1, Int.lt_trans (G5.small k hk).2 (by decide)⟩) ?qm1 ?qm2 ?qm3 ?qm4 G5.plain ?qQ4
                  ktr_unf
                  (case qm1 => k_mem)
                  (case qm2 => k_mem)
                  (case qm3 => k_mem)
                  (case qm4 => k_mem)
                  case' qQ4 => skip
                  intro h46 tk46 F46 N46
                  k_steps
                  rename News _ _ _ _ => N47
                  rename Fr _ _ _ _ => F47
                  exact ⟨rfl, InvEndG.law (c := c) (c' := c') F47 N47 (by tb_start) G5 hoff (by tb_rel)⟩
                · rw [if_neg (by simpa using hk14)]
                  k_steps
                  have si : SIf := ⟨⟩
                  refine Tag.un ?_
                  k_steps
                  clear si
                  refine Tag.un ?_
                  rename News _ _ _ _ => N20
                  rename Fr _ _ _ _ => F20
                  have hl1 := l11 (sa, so) (by k_mem)
                  have hl2 := l11 (la, _) (by k_mem)
                  have hl5 := l11 (_, oC) (by k_mem)
                  have N21 := turn_perm N20
                  refine' refused_ok (A₀ := callerA) (rs := rs) (c' := cr) ?qa ?qb ?qB ?qF ?qX ?qX2 (by exact N21) ?qT ?qT2 ?qe ?ql ?qk G5.set G5.row G5.nodup (fun k hk => ⟨(G5.small k hk).1, Int.lt_trans (G5.small k hk).2 (by decide)⟩) (by k_mem) (.head _) hrs (fun k hk => ⟨(rowOf_range hk).1, Int.lt_trans (rowOf_range hk).2 (by decide)⟩) (Nat.le_trans (rowOf_len _) (by decide)) G5.d1 ?qra hwr (Int.fmod_nonneg_of_pos _ (by decide)) ?qk1 ?qQ1
                  (case qX2 => k_asm)
                  (case qT2 => k_asm)
                  (case ql => exact rfl)
                  ktr_unf
                  case qra =>
                    intro p hp
                    simp only [List.mem_cons] at hp
                    rcases hp with rfl | rfl | rfl | rfl | rfl | hp
                    · exact ⟨Ne.symm (lr6 (sa, so) (.head _)), Ne.symm (lr6 (la, _) (.tail _ (.head _)))⟩
                    · exact ⟨G5.d2, G5.d3⟩
                    · exact ⟨G5.d5, G5.d6⟩
                    · exact ⟨G5.d8, G5.d9⟩
                    · exact ⟨Nat.ne_of_gt hl1, Nat.ne_of_gt hl2⟩
                    · exact ⟨hoff p hp _ (.head _), hoff p hp _ (.tail _ (.head _))⟩
                  case qk1 =>
                    have := Int.fmod_lt_of_pos n (b := 15) (by decide)
                    omega
                  case' qQ1 => skip
                  intro so' vs' c₂ h22 tk22 H22 hv22 F22 N22
                  k_steps
                  refine Tag.un ?_
                  rename Fr _ _ _ _ => F23
                  refine wpAny_If (kind_test F23 (by rfl) rfl rfl (by decide) ?_)
                  by_cases hk13 : n.fmod 15 = 13
                  · rw [if_pos (by rw [hk13]; rfl)]
                    rw [if_pos hk13] at H22 hv22
                    k_steps
                    rename News _ _ _ _ => N24
                    rename Fr _ _ _ _ => F24
                    refine storeX_C F24 (cell_first N24) rfl (.head ?qne) hcell ?_
                    case qne =>
                      intro p hp
                      simp only [List.mem_cons] at hp
                      rcases hp with rfl | rfl | rfl | rfl | rfl | rfl | hp
                      · exact Ne.symm G5.d8
                      · exact Ne.symm G5.d9
                      · exact Ne.symm (lr6 _ (.tail _ (.tail _ (.tail _ (.tail _ (.head _))))))
                      · exact G5.d4
                      · exact G5.d7
                      · exact Nat.ne_of_gt hl5
                      · exact hoff p hp _ (.tail _ (.tail _ (.tail _ (.tail _ (.head _)))))
                    intro h25 oC' F25 N25 hd25
                    k_steps
                    rename News _ _ _ _ => N26
                    rename Fr _ _ _ _ => F26
                    refine ⟨rfl, InvEndG.law (c := c₂) (c' := 0) F26 N26 (by tb_start) ⟨H22, hv22, hgs, foldAdd_nodup _ _ G5.nodup, foldAdd_small G5.small (fun k hk => rowOf_range hk), hd25, G5.d1, Nat.ne_of_gt hl1, Nat.ne_of_gt hl2, Nat.ne_of_gt hl5, G5.d5, G5.d6, G5.d7, G5.d8, G5.d9⟩ ?_ (by tb_rel)⟩
                    intro p hp b hb
                    have ho := hoff p hp
                    have hg := l11 p (by simp only [List.mem_cons]; grind)
                    simp only [List.mem_cons, List.not_mem_nil, or_false] at hb ho
                    rcases hb with rfl | rfl | rfl | rfl | rfl
                    · exact ho _ (.inl rfl)
                    · exact ho _ (.inr (.inl rfl))
                    · exact Nat.ne_of_lt hg
                    · exact ho _ (.inr (.inr (.inr (.inl rfl))))
                    · exact ho _ (.inr (.inr (.inr (.inr rfl))))
                  · rw [if_neg (by simpa using hk13)]
                    rw [if_neg hk13] at H22 hv22
                    k_steps
                    rename News _ _ _ _ => N26
                    rename Fr _ _ _ _ => F26
                    exact ⟨rfl, InvEndG.law (c := c₂) (c' := c') F26 N26 (by tb_start) ⟨H22, hv22, G5.plain, G5.nodup, G5.small, hcell, G5.d1, G5.d2, G5.d3, G5.d4, G5.d5, G5.d6, G5.d7, G5.d8, G5.d9⟩ hoff (by tb_rel)⟩
              · intro h31 tk31 so vs c pl ps c' oC ns ux uk uw ur ug ut hoff G5 F5 N5
                simp only [withMap] at F5
                have hcell := G5.cell
                k_steps
                have si : SIf := ⟨⟩
                refine Tag.un ?_
                k_steps
                refine Tag.un ?_
                refine' agrees_ok ?qa ?qb ?qB ?qF ?qX ?qN ?qT ?qe ?qk G5.set G5.row G5.nodup (fun k hk => ⟨(G5.small k hk).1, Int.lt_trans (G5.small k hk).2 (by decide)⟩) ?qm1 ?qm2 ?qm3 ?qm4 G5.plain ?qQ2
                ktr_unf
                (case qm1 => k_mem)
                (case qm2 => k_mem)
                (case qm3 => k_mem)
                (case qm4 => k_mem)
                case' qQ2 => skip
                intro h32 tk32 F32 N32
                k_steps
                rename News _ _ _ _ => N34
                rename Fr _ _ _ _ => F34
                exact InvEndG.law (c := c) (c' := c') F34 N34 (by tb_start) G5 hoff (by tb_rel)
            · intro h51 tk51 so vs c pl ps c' oC ns ux uk uw ur ug ut G6 F51 N51
              clear H3 hys3 hps lr0 lx1 q1 q2 q3 q4 q5 ll2 I4
              simp only [withMap] at F51
              have hcell := G6.cell
              have H6 := G6.set
              k_steps
              refine Tag.un ?_
              have h11 : (11 : Int) ∉ ns := fun h => absurd (G6.small 11 h).2 (by decide)
              have hf11 : [(11 : Int)].foldl addN ns = ns ++ [11] := by
                show addN ns 11 = _
                unfold addN
                rw [if_neg h11]
              refine' union_ok (vs := vs) (c := c) (ts := [Value.int 11 tk51]) (ms := [11]) (c' := 0) ?qa ?qb ?qB ?qF ?qX ?qN ?qT ?qe ?qk G6.set G6.row G6.nodup (fun k hk => ⟨(G6.small k hk).1, Int.lt_trans (G6.small k hk).2 (by decide)⟩) ?qm1 ?qm2 ?qm3 ?qm4 (.cons 11 _ .nil) (fun k hk => by rw [List.mem_singleton.mp hk]; decide) ?qQ5
              ktr_unf
              (case qm1 => k_mem)
              (case qm2 => k_mem)
              (case qm3 => k_mem)
              (case qm4 => k_mem)
              case' qQ5 => skip
              intro u53 dx53 l53 so53 vs53 c53 h53 tk53 H53 hv53 F53 N53 l53a l53b l53c
              rw [hf11] at H53 hv53
              k_steps
              refine Tag.un ?_
              refine' list_ok (vs := vs53) (c := c53) ?qa ?qB ?qF ?qX ?qN ?qT ?qe ?qk H53 ?qm1 ?qm2 ?qm3 hv53 ?qQ6
              ktr_rel
              (case qm1 => k_mem)
              (case qm2 => k_mem)
              (case qm3 => k_mem)
              case' qQ6 => skip
              intro D54 c54 h54 tk54 F54 N54 l54
              k_steps
              refine Tag.un ?_
              rename News _ _ _ _ => N55
              rename Fr _ _ _ _ => F55
              have hps6 : ps.length ≤ 12 := by rw [G6.plain.length]; exact G6.set.len
              refine kmk_add_lit (zs := ps ++ [Value.int 11 tk54]) F55 N55 (a := pl) (its := ps.toArray) (its2 := [Value.int 11 tk54].toArray) ⟨_, (N55 _ (by k_mem : (pl, PySem.W.listOf ps.toArray c') ∈ _)).1, rfl, c', rfl⟩ ⟨_, (N55 _ (.head _)).1, rfl, _, rfl⟩ (by simp) ?_ (by rw [sizeLine_eq]; simp; omega)
              intro D56 h56 F56 N56 l56
              k_steps
              refine Tag.un ?_
              refine eq_intsK ⟨_, (N56 _ (by k_mem : (D54, PySem.W.listOf vs53.toArray c54) ∈ _)).1, rfl, c54, rfl⟩ hv53 ⟨_, (N56 _ (.head _)).1, rfl, 0, rfl⟩ (G6.plain.append (.cons 11 _ .nil)) (by exact Nat.le_of_ble_eq_true rfl) ?_
              rw [decide_eq_true rfl]
              k_steps
              refine Tag.un ?_
              refine' agrees_ok ?qa ?qb ?qB ?qF ?qX ?qN ?qT ?qe ?qk G6.set G6.row G6.nodup (fun k hk => ⟨(G6.small k hk).1, Int.lt_trans (G6.small k hk).2 (by decide)⟩) ?qm1 ?qm2 ?qm3 ?qm4 G6.plain ?qQ7
              ktr_unf
              (case qm1 => k_mem)
              (case qm2 => k_mem)
              (case qm3 => k_mem)
              (case qm4 => k_mem)
              case' qQ7 => skip
              intro h57 tk57 F57 N57
              k_steps)
