import PyProof.Rows.All
import Wide.All
import OpenK.AllK
import Wide.FinOn
import PySem.Challenge.RW_ww0011_01
section
open PySem PySem.W PyProof.Rows
set_option Elab.async false
namespace Mine
set_option maxRecDepth 100000 in
set_option maxHeartbeats 8000000 in
open_top hd for PySem.Challenge.rw_ww0011_01
end Mine
end
section
open PySem PySem.W PyProof.Rows
set_option Elab.async false
set_option maxRecDepth 100000
namespace Mine
/-! the menu of eight values: as they lie, as data -/
def mV : Fin 8 → Value := fun i => match i with
  | 0 => .str "a" 265 | 1 => .str "b" 266 | 2 => .int 1 267 | 3 => .int 2 268
  | 4 => .ref 73 | 5 => .str "" 271 | 6 => .int 0 272 | 7 => .none
def mD : Fin 8 → PyData := fun i => match i with
  | 0 => .str "a" | 1 => .str "b" | 2 => .int 1 | 3 => .int 2
  | 4 => .tuple [.int 1, .int 2] | 5 => .str "" | 6 => .int 0 | 7 => .none
def tupObj : Obj := { cls := .type "tuple", data := .seq #[.int 1 269, .int 2 270] }
def MenuIn (h : Heap) : Prop := h.get? 73 = some tupObj
theorem MenuIn.keeps {h h' : Heap} (x : MenuIn h) (k : ∀ b o, h.get? b = some o → h'.get? b = some o) : MenuIn h' := k _ _ x
theorem menu_reads {h : Heap} (x : MenuIn h) (i : Fin 8) : ∃ as, Reads h (mV i) (mD i) as := by
  match i with
  | 0 => exact ⟨_, .str _ _⟩
  | 1 => exact ⟨_, .str _ _⟩
  | 2 => exact ⟨_, .int _ _⟩
  | 3 => exact ⟨_, .int _ _⟩
  | 4 => exact ⟨_, .tuple x rfl rfl (.cons (.int _ _) (.cons (.int _ _) .nil))⟩
  | 5 => exact ⟨_, .str _ _⟩
  | 6 => exact ⟨_, .int _ _⟩
  | 7 => exact ⟨_, .none⟩
theorem menu_well {P : Params} {h : Heap} (x : MenuIn h) (i : Fin 8) : Well P h (mV i) (ofPy (mD i)) := by
  match i with
  | 0 => exact .str _ _
  | 1 => exact .str _ _
  | 2 => exact .int _ _
  | 3 => exact .int _ _
  | 4 => exact .tuple (vs := [.int 1 269, .int 2 270]) x (.cons (.int _ _) (.cons (.int _ _) .nil))
  | 5 => exact .str _ _
  | 6 => exact .int _ _
  | 7 => exact .none
theorem menu_lay : ∀ i : Fin 8, (mD i).canLay0 = true := by decide +kernel
theorem menu_depth : ∀ i : Fin 8, (mD i).depth ≤ 2 := by decide +kernel
theorem menu_depthW : ∀ i : Fin 8, (ofPy (mD i)).depth ≤ 2 := by decide +kernel
theorem menu_key : ∀ i : Fin 8, (ofPy (mD i)).isDKey = true := by decide +kernel
theorem menu_eqv : ∀ i j : Fin 8, PyData.eqv (mD i) (mD j) = decide (i = j) := by decide +kernel
def mH (w : World) (i : Fin 8) : Int := hashW w.params (ofPy (mD i))

section
variable {prog : Program} {w : World} {A : Around} {E : Value → Shared → Prop} {s : Shared}
theorem menu_eqBool {i j : Fin 8} {Q : Bool → Shared → Prop} (x : MenuIn s.heap) (hu : A.units + 4 < cLine) (h : Q (decide (i = j)) s) : wpAny (model prog w) A (eqBool (mV i) (mV j)) Q E s := by
  obtain ⟨as, ra⟩ := menu_reads x i
  obtain ⟨bs, rb⟩ := menu_reads x j
  refine SeqAt.eqBoolOverData prog w A E s _ _ _ _ as bs Q ra rb (menu_lay i) (menu_lay j) ?_ (by rw [menu_eqv]; exact h)
  have := menu_depth i
  have := Nat.min_le_left (mD i).depth (mD j).depth
  omega
theorem menu_hash {i : Fin 8} {Q : Int → Shared → Prop} (x : MenuIn s.heap) (hu : A.units + 4 < cLine) (h : ∀ tk, Q (mH w i) { s with toks := tk }) : wpAny (model prog w) A (pyHash (mV i)) Q E s :=
  pyHash_laid _ _ A s Q (menu_key i) (menu_well x i) (by have := menu_depthW i; omega) h
end
end Mine

end
section
open PySem PySem.W PyProof.Rows
set_option Elab.async false
set_option maxRecDepth 100000
namespace Mine
def ent (w : World) (p : Fin 8 × Value) : DictEntry := ⟨mH w p.1, mV p.1, p.2⟩
theorem quiet_val {n : Nat} {i : Fin 8} (h : i ≠ 4) : eqIsQuiet n (mV i) = pure true := by
  match i with
  | 0 => cases n <;> rfl
  | 1 => cases n <;> rfl
  | 2 => cases n <;> rfl
  | 3 => cases n <;> rfl
  | 4 => exact absurd rfl h
  | 5 => cases n <;> rfl
  | 6 => cases n <;> rfl
  | 7 => cases n <;> rfl
theorem mV_inj : ∀ i j : Fin 8, mV i = mV j → i = j := by decide +kernel
theorem mV_str : ∀ i j : Fin 8, ∀ x t, mV i = .str x t → (mV j).isStr x = decide (j = i) := by
  intro i j x t h
  match i with
  | 0 => cases h; revert j; decide +kernel
  | 1 => cases h; revert j; decide +kernel
  | 2 => cases h
  | 3 => cases h
  | 4 => cases h
  | 5 => cases h; revert j; decide +kernel
  | 6 => cases h
  | 7 => cases h
theorem isTup {h : Heap} (x : MenuIn h) : IsTupleKey (prog := p) (w := w) (intKind p w) h [1, 2] 73 :=
  ⟨_, _, _, x, rfl, rfl, .cons (intKind_is _ _ _ _) (.cons (intKind_is _ _ _ _) .nil)⟩

section
variable {prog : Program} {w : World} {A : Around} {E : Value → Shared → Prop} {s : Shared}
theorem menu_quiet {i : Fin 8} {Q : Bool → Shared → Prop} (x : MenuIn s.heap) (h : Q true s) : wpAny (model prog w) A (eqIsQuiet 8 (mV i)) Q E s := by
  by_cases e : i = 4
  · subst e
    exact wpAny_eqIsQuiet_tuple (knd := intKind prog w) (isTup x) h
  · rw [quiet_val e]; exact wpAny_pure h
theorem menu_tells {i : Fin 8} {stored : List Value} {Q : Bool → Shared → Prop} (x : MenuIn s.heap) (hst : ∀ v ∈ stored, ∃ j, v = mV j) (h : Q false s) :
    wpAny (model prog w) A (tableMayTell (mV i) stored) Q E s := by
  unfold tableMayTell
  split
  · exact wpAny_pure h
  · refine wpAny_bind (menu_quiet x ?_)
    simp only [Bool.not_true, Bool.false_eq_true, if_false]
    refine wpAny_bind ?_
    refine wpAny_forIn_list _ (fun rest r s' => s' = s ∧ r = (none, ()) ∧ ∀ v ∈ rest, ∃ j, v = mV j) _ ?_ ?_ _ _ ⟨rfl, rfl, hst⟩
    · rintro v rest r s' ⟨rfl, rfl, hr⟩
      obtain ⟨j, rfl⟩ := hr v List.mem_cons_self
      refine wpAny_bind (menu_quiet x ?_)
      simp only [Bool.not_true, Bool.false_eq_true, if_false]
      exact wpAny_pure ⟨rfl, rfl, fun v hv => hr v (List.mem_cons_of_mem _ hv)⟩
    · rintro r s' ⟨rfl, rfl, _⟩
      exact wpAny_pure h

theorem w_ite {α : Type} {c : Prop} [Decidable c] {a b : Sem α} {Q : α → Shared → Prop} (h1 : c → wpAny (model prog w) A a Q E s) (h2 : ¬ c → wpAny (model prog w) A b Q E s) : wpAny (model prog w) A (if c then a else b) Q E s := by
  by_cases h : c
  · rw [if_pos h]; exact h1 h
  · rw [if_neg h]; exact h2 h

structure DictIs (w : World) (h : Heap) (d : Addr) (xs : List (Fin 8 × Value)) (n : Nat) : Prop where
  at_ : h.get? d = some { cls := .type "dict", data := .dict (xs.map (ent w)).toArray n }
  nodup : (xs.map (·.1)).Nodup

theorem ent_at {w : World} {xs : List (Fin 8 × Value)} {j : Nat} {e : DictEntry} (h : ((xs.map (ent w)).toArray)[j]? = some e) : ∃ p, xs[j]? = some p ∧ e = ent w p := by
  rw [List.getElem?_toArray, List.getElem?_map] at h
  obtain ⟨p, hp, rfl⟩ := Option.map_eq_some_iff.mp h
  exact ⟨p, hp, rfl⟩
theorem at_ent {w : World} {xs : List (Fin 8 × Value)} {j : Nat} {p : Fin 8 × Value} (h : xs[j]? = some p) : ((xs.map (ent w)).toArray)[j]? = some (ent w p) := by
  rw [List.getElem?_toArray, List.getElem?_map, h]; rfl

theorem find_menu {d : Addr} {xs : List (Fin 8 × Value)} {n : Nat} {k : Fin 8} {Q : Option Nat → Shared → Prop} (D : DictIs w s.heap d xs n) (x : MenuIn s.heap) (hu : A.units + 4 < cLine)
    (hnone : (∀ (j : Nat) (p : Value), xs[j]? ≠ some (k, p)) → Q none s) (hsome : ∀ (j : Nat) (p : Value), xs[j]? = some (k, p) → Q (some j) s) : wpAny (model prog w) A (dictFind d (mV k) (mH w k)) Q E s := by
  have ho := D.at_
  have here : ∀ {j : Nat} {p : Value}, xs[j]? = some (k, p) → j ∈ placesWithHash (xs.map (ent w)).toArray.size (fun i => ((xs.map (ent w)).toArray)[i]?.map (·.hash)) (mH w k) := by
    intro j p hj
    unfold placesWithHash
    refine List.mem_filter.mpr ⟨List.mem_range.mpr ?_, ?_⟩
    · have := (List.getElem?_eq_some_iff.mp hj).1
      simpa using this
    · show ((((xs.map (ent w)).toArray)[j]?.map (·.hash)) == some (mH w k)) = true
      rw [at_ent hj]; simp [ent]
  have nd : (placesWithHash (xs.map (ent w)).toArray.size (fun i => ((xs.map (ent w)).toArray)[i]?.map (·.hash)) (mH w k)).Nodup := List.nodup_range.filter _
  have once : ∀ {i j : Nat} {p q : Value}, xs[i]? = some (k, p) → xs[j]? = some (k, q) → i = j := by
    intro i j p q hi hj
    have h1 : (xs.map (·.1))[i]? = some k := by rw [List.getElem?_map, hi]; rfl
    have h2 : (xs.map (·.1))[j]? = some k := by rw [List.getElem?_map, hj]; rfl
    exact (List.getElem?_inj (List.getElem?_eq_some_iff.mp h1).1 D.nodup).mp (h1.trans h2.symm)
  have off : ∀ {i j : Nat} {k' : Fin 8} {p q : Value} {rest : List Nat}, xs[i]? = some (k', q) → k' ≠ k → xs[j]? = some (k, p) → j ∈ i :: rest → j ∈ rest := by
    intro i j k' p q rest hi hne hj hm
    rcases List.mem_cons.mp hm with rfl | hm
    · rw [hi] at hj; cases hj; exact absurd rfl hne
    · exact hm
  have part : (∀ v ∈ (placesWithHash (xs.map (ent w)).toArray.size (fun i => ((xs.map (ent w)).toArray)[i]?.map (·.hash)) (mH w k)).filterMap (fun i => ((xs.map (ent w)).toArray)[i]?.map (·.key)), ∃ j, v = mV j) := by
    intro v hv
    obtain ⟨i, _, hi⟩ := List.mem_filterMap.mp hv
    obtain ⟨e, he, rfl⟩ := Option.map_eq_some_iff.mp hi
    obtain ⟨p, _, rfl⟩ := ent_at he
    exact ⟨p.1, rfl⟩
  generalize hpl : placesWithHash (xs.map (ent w)).toArray.size (fun i => ((xs.map (ent w)).toArray)[i]?.map (·.hash)) (mH w k) = places at here nd part
  have plain : wpAny (model prog w) A (dictWalkPlain d (mV k) (mH w k) (xs.map (ent w)).toArray places) Q E s := by
    refine wpAny_bind ?_
    refine wpAny_forIn_list _ (fun rest b s' => s' = s ∧ b = (none, ()) ∧ ∀ (j : Nat) (p : Value), xs[j]? = some (k, p) → j ∈ rest) _ ?_ ?_ _ _ ⟨rfl, rfl, fun j p hj => here hj⟩
    · rintro i rest b s' ⟨rfl, rfl, hr⟩
      dsimp only
      cases he : ((xs.map (ent w)).toArray)[i]? with
      | none =>
        refine wpAny_pure ⟨rfl, rfl, fun j p hj => ?_⟩
        rcases List.mem_cons.mp (hr j p hj) with rfl | h
        · rw [at_ent hj] at he; cases he
        · exact h
      | some e =>
        obtain ⟨⟨k', v'⟩, hi, rfl⟩ := ent_at he
        dsimp only
        by_cases hh : ((ent w (k', v')).hash == mH w k) = true
        · rw [if_pos hh]
          refine wpAny_bind (wpAny_dictEpoch ho rfl (wpAny_bind (menu_eqBool (i := k') (j := k) x hu (wpAny_bind (wpAny_dictEpoch ho rfl ?_)))))
          rw [if_neg (by simp)]
          by_cases hk : k' = k
          · subst hk
            rw [decide_eq_true rfl]
            exact wpAny_bind (wpAny_rule (wpAny_pure (wpAny_pure (hsome i v' hi))))
          · rw [decide_eq_false hk]
            exact wpAny_bind (wpAny_rule (wpAny_pure ⟨rfl, rfl, fun j p hj => off hi hk hj (hr j p hj)⟩))
        · rw [if_neg hh]
          refine wpAny_pure ⟨rfl, rfl, fun j p hj => ?_⟩
          refine off hi ?_ hj (hr j p hj)
          rintro rfl
          exact hh (by simp [ent])
    · rintro b s' ⟨rfl, rfl, hr⟩
      exact wpAny_pure (hnone fun j p hj => nomatch hr j p hj)
  have byv : ∀ v : Value, (v == mV k) = true → v = mV k := fun v h => eq_of_beq h
  unfold dictFind
  refine wpAny_holding (wpAny_bind (wpAny_dictEntries ho rfl ?_))
  dsimp only
  rw [hpl]
  have found : ∀ y u, mV k = .str y u → wpAny (model prog w) A (foundByValue d (mV k) (xs.map (ent w)).toArray y) Q E s := by
    intro y u hy
    unfold foundByValue
    cases hf : (xs.map (ent w)).toArray.findIdx? (·.key.isStr y) with
    | none =>
      refine wpAny_pure (hnone fun j p hj => ?_)
      have := Array.findIdx?_eq_none_iff.mp hf (ent w (k, p)) (by simpa using ⟨k, p, List.mem_of_getElem? hj, rfl⟩)
      rw [show (ent w (k, p)).key = mV k from rfl, mV_str k k y u hy] at this
      simp at this
    | some i =>
      obtain ⟨hlt, hi, _⟩ := Array.findIdx?_eq_some_iff_getElem.mp hf
      obtain ⟨⟨k', v'⟩, hx, he⟩ := ent_at (Array.getElem?_eq_getElem hlt)
      simp only [Array.getElem?_eq_getElem hlt]
      rw [he] at hi ⊢
      have hk : k' = k := by
        rw [show (ent w (k', v')).key = mV k' from rfl, mV_str k k' y u hy] at hi
        exact of_decide_eq_true hi
      subst hk
      refine wpAny_bind (wpAny_dictEpoch ho rfl (wpAny_bind (menu_eqBool (i := k') (j := k') x hu (wpAny_bind (wpAny_dictEpoch ho rfl ?_)))))
      rw [if_neg (by simp), decide_eq_true rfl]
      exact wpAny_bind (wpAny_rule (wpAny_pure (hsome i v' hx)))
  have noodd : ¬ ((xs.map (ent w)).toArray.any fun e => e.key == mV k && e.hash != mH w k) = true := by
    rw [← Array.any_toList, List.any_eq_true]
    rintro ⟨e, hin, hc⟩
    obtain ⟨p, _, rfl⟩ := List.mem_map.mp hin
    obtain ⟨c1, c2⟩ := Bool.and_eq_true_iff.mp hc
    have e : mV p.1 = mV k := eq_of_beq c1
    have e2 : (ent w p).hash = mH w k := congrArg (mH w) (mV_inj _ _ e)
    rw [e2, bne_self_eq_false] at c2
    cases c2
  have eqk : ∀ (k' : Fin 8) (R : Bool → Shared → Prop), R (decide (k' = k)) s → wpAny (model prog w) A (eqBool (mV k') (mV k)) R E s := fun k' R h => menu_eqBool x hu h
  have tells : ∀ R : Bool → Shared → Prop, R false s → wpAny (model prog w) A (tableMayTell (mV k) (places.filterMap (fun i => ((xs.map (ent w)).toArray)[i]?.map (·.key)))) R E s := fun R h => menu_tells x part h
  generalize hv : mV k = kv at plain found noodd eqk tells ⊢
  generalize hst : places.filterMap (fun i => ((xs.map (ent w)).toArray)[i]?.map (·.key)) = stored at tells ⊢
  cases kv
  case' str y u =>
    dsimp only
    by_cases hs : ((xs.map (ent w)).toArray.all fun e => isExactStrKey e.key) = true
    · rw [if_pos hs]; exact found y u rfl
    rw [if_neg hs]
  all_goals
    clear found
    try dsimp only
    refine w_ite (fun _ => plain) fun _ => ?_
    try dsimp only
    try rw [if_neg noodd]
    refine w_ite (fun _ => ?_) fun _ => ?_
    all_goals
      first | refine wpAny_bind (wpAny_pure ?_) | refine wpAny_bind (tells _ ?_)
      rw [if_neg (by simp)]
      refine wpAny_bind ?_
      refine wpAny_forIn_list _ (fun rest b s' => s' = s ∧ rest.Nodup ∧ ∃ hit, b = (none, hit) ∧ ((hit = none ∧ ∀ (j : Nat) (p : Value), xs[j]? = some (k, p) → j ∈ rest) ∨ ∃ (j : Nat) (p : Value), hit = some j ∧ xs[j]? = some (k, p) ∧ j ∉ rest)) _ ?_ ?_ _ _
        ⟨rfl, nd, none, rfl, .inl ⟨rfl, fun j p hj => here hj⟩⟩
      · rintro i rest b s' ⟨rfl, hnd, hit, rfl, hH⟩
        dsimp only
        have hir := List.nodup_cons.mp hnd
        cases he : ((xs.map (ent w)).toArray)[i]? with
        | none =>
          refine wpAny_pure ⟨rfl, hir.2, hit, rfl, ?_⟩
          rcases hH with ⟨h0, hr⟩ | ⟨j, p, h1, hj, hn⟩
          · refine .inl ⟨h0, fun j p hj => ?_⟩
            rcases List.mem_cons.mp (hr j p hj) with rfl | h
            · rw [at_ent hj] at he; cases he
            · exact h
          · exact .inr ⟨j, p, h1, hj, fun h => hn (List.mem_cons_of_mem _ h)⟩
        | some e =>
          obtain ⟨⟨k', v'⟩, hi, rfl⟩ := ent_at he
          dsimp only
          have stay : k' ≠ k → ((hit = none ∧ ∀ (j : Nat) (p : Value), xs[j]? = some (k, p) → j ∈ rest) ∨ ∃ (j : Nat) (p : Value), hit = some j ∧ xs[j]? = some (k, p) ∧ j ∉ rest) := fun hne => by
            rcases hH with ⟨h0, hr⟩ | ⟨j, p, h1, hj, hn⟩
            · exact .inl ⟨h0, fun j p hj => off hi hne hj (hr j p hj)⟩
            · exact .inr ⟨j, p, h1, hj, fun h => hn (List.mem_cons_of_mem _ h)⟩
          by_cases hh : ((ent w (k', v')).hash == mH w k) = true
          · rw [if_pos hh]
            refine wpAny_bind (wpAny_dictEpoch ho rfl (wpAny_bind (eqk k' _ (wpAny_bind (wpAny_dictEpoch ho rfl ?_)))))
            rw [if_neg (by simp)]
            by_cases hk : k' = k
            · subst hk
              rw [decide_eq_true rfl, if_pos rfl]
              rcases hH with ⟨rfl, _⟩ | ⟨j, p, _, hj, hn⟩
              · rw [if_neg (by simp)]
                refine wpAny_bind (wpAny_rule ?_)
                by_cases h2 : stored.length < 2
                · rw [if_pos h2]
                  exact wpAny_pure (wpAny_pure (hsome i v' hi))
                · rw [if_neg h2]
                  exact wpAny_pure ⟨rfl, hir.2, some i, rfl, .inr ⟨i, v', rfl, hi, hir.1⟩⟩
              · exact absurd (once hi hj ▸ List.mem_cons_self) hn
            · rw [decide_eq_false hk, if_neg (by simp)]
              refine wpAny_bind (wpAny_rule ?_)
              rw [if_neg (by simp)]
              exact wpAny_pure ⟨rfl, hir.2, hit, rfl, stay hk⟩
          · rw [if_neg hh]
            exact wpAny_pure ⟨rfl, hir.2, hit, rfl, stay (by rintro rfl; exact hh (by simp [ent]))⟩
      · rintro b s' ⟨rfl, _, hit, rfl, hH⟩
        rcases hH with ⟨rfl, hr⟩ | ⟨j, p, rfl, hj, _⟩
        · exact wpAny_pure (hnone fun j p hj => nomatch hr j p hj)
        · exact wpAny_pure (hsome j p hj)
end
end Mine
namespace Mine
theorem look_some {xs : List (Fin 8 × Value)} (hn : (xs.map (·.1)).Nodup) {k : Fin 8} {j : Nat} {p : Value} (h : xs[j]? = some (k, p)) : xs.lookup k = some p := by
  induction xs generalizing j with
  | nil => simp at h
  | cons a r ih =>
    obtain ⟨a1, a2⟩ := a
    rw [List.map_cons, List.nodup_cons] at hn
    cases j with
    | zero =>
      simp only [List.getElem?_cons_zero, Option.some.injEq, Prod.mk.injEq] at h
      obtain ⟨rfl, rfl⟩ := h
      simp [List.lookup_cons]
    | succ j =>
      simp only [List.getElem?_cons_succ] at h
      have hne : (k == a1) = false := by
        cases q : k == a1 with
        | false => rfl
        | true =>
          have e : k = a1 := eq_of_beq q
          exact absurd (List.mem_map.mpr ⟨(k, p), List.mem_of_getElem? h, e⟩) hn.1
      rw [List.lookup_cons, hne]
      exact ih hn.2 h
theorem look_none {xs : List (Fin 8 × Value)} {k : Fin 8} (h : ∀ (j : Nat) (p : Value), xs[j]? ≠ some (k, p)) : xs.lookup k = none := by
  induction xs with
  | nil => rfl
  | cons a r ih =>
    obtain ⟨a1, a2⟩ := a
    have hne : (k == a1) = false := by
      cases q : k == a1 with
      | false => rfl
      | true =>
        have e : k = a1 := eq_of_beq q
        subst e
        exact absurd rfl (h 0 a2)
    rw [List.lookup_cons, hne]
    exact ih fun j p hj => h (j + 1) p (by simpa using hj)
section
variable {prog : Program} {w : World} {A : Around} {E : Value → Shared → Prop} {s : Shared} {d : Addr} {xs : List (Fin 8 × Value)} {n : Nat} {k : Fin 8}
theorem MenuIn.toks {t : Nat} (x : MenuIn s.heap) : MenuIn ({ s with toks := t } : Shared).heap := x
theorem get_menu {Q : Option Value → Shared → Prop} (D : DictIs w s.heap d xs n) (x : MenuIn s.heap) (hu : A.units + 4 < cLine) (h : ∀ tk, Q (xs.lookup k) { s with toks := tk }) :
    wpAny (model prog w) A (dictGet d (mV k)) Q E s := by
  unfold dictGet
  refine wpAny_holding (wpAny_bind (menu_hash x hu fun tk => wpAny_bind (find_menu (s := { s with toks := tk }) D x hu (fun hno => ?_) fun j p hj => ?_)))
  · have := h tk
    rw [look_none hno] at this
    exact wpAny_pure this
  · have := h tk
    rw [look_some D.nodup hj] at this
    refine wpAny_bind (wpAny_dictEntries (s := { s with toks := tk }) D.at_ rfl ?_)
    rw [at_ent hj]
    exact wpAny_pure this
theorem DictIs.typeIs (D : DictIs w s.heap d xs n) : s.TypeIs (.ref d) "dict" := ⟨_, D.at_, rfl⟩
theorem contains_menu {Q : Bool → Shared → Prop} (D : DictIs w s.heap d xs n) (hd : (d == sysModules) = false) (x : MenuIn s.heap) (hu : A.units + 5 < cLine) (h : ∀ tk, Q (xs.lookup k).isSome { s with toks := tk }) :
    wpAny (model prog w) A (contains (.ref d) (mV k)) Q E s := by
  unfold contains
  refine wpAny_holding (wpAny_bind (wpAny_specialOf D.typeIs slot_dict_contains.lookup ?_))
  rw [if_neg (by rw [beq_builtin_none]; exact Bool.false_ne_true)]
  refine wpAny_bind (wpAny_callSpecialUnlessNone?_slot (name := Str.ofString "__contains__") D.typeIs slot_dict_contains
    (wpAny_call_entry slot_dict_contains D.typeIs entry_dict_contains ?_ (args_dict_contains _ _)))
  show wpAny _ _ (dictGet d (mV k) >>= _) _ _ s
  refine wpAny_bind (get_menu D x hu fun tk => ?_)
  have h := h tk
  cases hf : xs.lookup k with
  | some v =>
    rw [hf] at h
    show wpAny _ _ (ret (.bool true)) _ _ _
    exact wpAny_pure ⟨_, rfl, wpAny_truthy_bool h⟩
  | none =>
    rw [hf] at h
    show wpAny _ _ (Builtin.Dict.pendingKey? d (mV k) >>= _) _ _ _
    exact wpAny_bind (wpAny_pendingKey_other hd (wpAny_pure ⟨_, rfl, wpAny_truthy_bool h⟩))
theorem in_menu {Q : Value → Shared → Prop} (D : DictIs w s.heap d xs n) (hd : (d == sysModules) = false) (x : MenuIn s.heap) (hu : A.units + 5 < cLine) (h : ∀ tk, Q (.bool (xs.lookup k).isSome) { s with toks := tk }) :
    wpAny (model prog w) A (compareOp .In (mV k) (.ref d)) Q E s :=
  wpAny_bind (contains_menu D hd x hu fun tk => wpAny_pure (h tk))
theorem notIn_menu {Q : Value → Shared → Prop} (D : DictIs w s.heap d xs n) (hd : (d == sysModules) = false) (x : MenuIn s.heap) (hu : A.units + 5 < cLine) (h : ∀ tk, Q (.bool (!(xs.lookup k).isSome)) { s with toks := tk }) :
    wpAny (model prog w) A (compareOp .NotIn (mV k) (.ref d)) Q E s :=
  wpAny_bind (contains_menu D hd x hu fun tk => wpAny_pure (h tk))
theorem getItem_menu {v : Value} {Q : Value → Shared → Prop} (D : DictIs w s.heap d xs n) (x : MenuIn s.heap) (hu : A.units + 5 < cLine) (hv : xs.lookup k = some v) (h : ∀ tk, Q v { s with toks := tk }) :
    wpAny (model prog w) A (getItem (.ref d) (mV k)) Q E s := by
  unfold getItem
  refine wpAny_holding (wpAny_bind (wpAny_sequenceKey D.typeIs (by decide) ?_))
  refine wpAny_bind (wpAny_callSpecial?_slot (name := Str.ofString "__getitem__") D.typeIs slot_dict_getitem
    (wpAny_call_entry slot_dict_getitem D.typeIs entry_dict_getitem ?_ (args_dict_getitem _ _)))
  show wpAny _ _ (dictGet d (mV k) >>= _) _ _ s
  refine wpAny_bind (get_menu D x hu fun tk => ?_)
  rw [hv]
  exact wpAny_pure ⟨v, rfl, wpAny_pure (h tk)⟩
theorem set_menu {v : Value} {Q : Unit → Shared → Prop} (D : DictIs w s.heap d xs n) (x : MenuIn s.heap) (hu : A.units + 4 < cLine) (hno : xs.lookup k = none) (hz : xs.length ≤ 8)
    (h : ∀ tk, Q () { s with heap := s.heap.update d (Obj.mapDictKeys (·.push (ent w (k, v)))), toks := tk }) :
    wpAny (model prog w) A (dictSet d (mV k) v) Q E s := by
  unfold dictSet
  refine wpAny_holding (wpAny_bind (menu_hash x hu fun tk => ?_))
  unfold dictSetHashed
  refine wpAny_holding (wpAny_bind (find_menu (s := { s with toks := tk }) D x hu (fun _ => ?_) fun j p hj => ?_))
  · refine wpAny_bind (wpAny_rule (wpAny_updateDictKeys (s := { s with toks := tk }) D.at_ rfl (h tk) ?_))
    have : (xs.map (ent w)).toArray.size = xs.length := by simp
    rw [this, sizeLine_eq]; omega
  · rw [look_some D.nodup hj] at hno; cases hno
theorem setItem_menu {v : Value} {Q : Unit → Shared → Prop} (D : DictIs w s.heap d xs n) (x : MenuIn s.heap) (hu : A.units + 5 < cLine) (hno : xs.lookup k = none) (hz : xs.length ≤ 8)
    (h : ∀ tk, Q () { s with heap := s.heap.update d (Obj.mapDictKeys (·.push (ent w (k, v)))), toks := tk }) :
    wpAny (model prog w) A (setItem (.ref d) (mV k) v) Q E s := by
  unfold setItem
  refine wpAny_holding (wpAny_bind (wpAny_sequenceKey D.typeIs (by decide) ?_))
  refine wpAny_bind (wpAny_callSpecial?_slot (name := Str.ofString "__setitem__") D.typeIs slot_dict_setitem
    (wpAny_call_entry slot_dict_setitem D.typeIs entry_dict_setitem ?_ (args_dict_setitem _ _ _)))
  show wpAny _ _ (Builtin.Dict.notOrdered "__setitem__" ⟨[.ref d, mV k, v], []⟩ >>= _) _ _ s
  refine wpAny_bind (wpAny_notOrdered_dict D.typeIs ?_)
  show wpAny _ _ (dictSet d (mV k) v >>= _) _ _ s
  exact wpAny_bind (set_menu D x hu hno hz fun tk => wpAny_pure ⟨.none, rfl, wpAny_pure (h tk)⟩)
theorem push_menu {v : Value} : Obj.mapDictKeys (·.push (ent w (k, v))) (dictOf (xs.map (ent w)) n) = dictOf ((xs ++ [(k, v)]).map (ent w)) (n + 1) := by
  simp [Obj.mapDictKeys, dictOf]
end
end Mine

end
section
open PySem PySem.W PyProof.Rows PySem.Calls Builtin Builtin.ObjectAttr
set_option Elab.async false
set_option maxRecDepth 100000
namespace Mine
theorem inst_seq {h₀ h : Heap} {L x C dx : Addr} {news : List (Addr × Obj)} {od : Obj} {a : Array Value} {n : Nat} {sl : Array (Option Value)} (N : News h₀ L h news) (h1 : (x, (⟨.ref C, some dx, .seq a n, sl⟩ : Obj)) ∈ news) (h2 : (dx, od) ∈ news) :
    InstAt h x ⟨.ref C, some dx, .seq a n, sl⟩ C (some od) := ⟨(N _ h1).1, rfl, rfl, (N _ h2).1⟩
theorem refuse_list (self : Value) : refuseLoop self "__setattr__" [.type "list", .type "object"] = pure () := by kernel_rfl
theorem fmro (P : Params) : (clsIn (hd.heap_39 P) 68).any (fun cd => cd.mro == [.ref 68, .type "list", .type "object"]) = true := by kernel_rfl
theorem fset (P : Params) : findIn (hd.heap_39 P) (.ref 68) "__setattr__" = some (some (.builtin "object.__setattr__")) := by kernel_rfl
theorem ftake1 (P : Params) : takerIn (hd.heap_39 P) 68 "clean" = some none := by kernel_rfl
theorem ftake2 (P : Params) : takerIn (hd.heap_39 P) 68 "_dict" = some none := by kernel_rfl
theorem fhas (P : Params) : hasDictIn (hd.heap_39 P) 68 = true := by kernel_rfl
theorem fsub (P : Params) : mroIn (hd.heap_39 P) 68 (.type "list") = some true := by kernel_rfl
theorem fsubo (P : Params) : mroIn (hd.heap_39 P) 68 (.type "object") = some true := by kernel_rfl
theorem flen (P : Params) : findIn (hd.heap_39 P) (.ref 68) "__len__" = some (some (.builtin "list.__len__")) := by kernel_rfl
theorem fiter (P : Params) : findIn (hd.heap_39 P) (.ref 68) "__iter__" = some (some (.builtin "list.__iter__")) := by kernel_rfl
theorem fgetitem (P : Params) : findIn (hd.heap_39 P) (.ref 68) "__getitem__" = some (some (.builtin "list.__getitem__")) := by kernel_rfl
end Mine
namespace Mine
noncomputable abbrev KP (P : Params) : Frag := hd.heap_39 P
abbrev oneO (dx : Addr) (a : Array Value) (n : Nat) : Obj := ⟨.ref 68, some dx, .seq a n, #[]⟩
theorem looks_one {M : Model} {P : Params} {h : Heap} {x dx : Addr} {a : Array Value} {n : Nat} (X : (KP P).In h) (hx : h.get? x = some (oneO dx a n)) : Looks M h (isInstance (.ref x) (.type "list")) true :=
  ((Looks.ld hx).andThen .now).andThen (looks_mroIn X (fsub P))
theorem looks_oneT {M : Model} {h : Heap} {x dx : Addr} {a : Array Value} {n : Nat} (hx : h.get? x = some (oneO dx a n)) : Looks M h (typeOf (.ref x)) (.ref 68) :=
  (Looks.ld hx).andThen .now

section
variable {prog : Program} {w : World} {A : Around} {E : Value → Shared → Prop} {s : Shared} {P : Params} {x dx : Addr} {a : Array Value} {n : Nat}

theorem check_listm {M : Model} {i nm : String} {rest : List Value} {Q : Unit → Shared → Prop} (hk : builtinKind i = some .slot ∨ builtinKind i = some .method) (hs : splitId i = some ("list", nm))
    (X : (KP P).In s.heap) (hx : s.heap.get? x = some (oneO dx a n)) (ha : argsOk i ⟨.ref x :: rest, []⟩) (q : Q () s) : wpAny M A (checkBuiltinCall i ⟨.ref x :: rest, []⟩) Q E s := by
  rcases hk with hk | hk <;>
  · simp only [checkBuiltinCall, hk, hs]
    refine wpAny_bind ((looks_one X hx).here ?_)
    simp only [Bool.not_true, Bool.false_eq_true, if_false]
    cases hsig : Manifest.signature? i with
    | none => exact wpAny_pure q
    | some sig =>
      simp only [argsOk, hsig] at ha
      have h2 : Bind.checkArgs i sig ⟨.ref x :: rest, []⟩ = pure () := ha
      show wpAny M A (Bind.checkArgs i sig ⟨.ref x :: rest, []⟩) Q E s
      rw [h2]; exact wpAny_pure q
theorem call_listm {i nm : String} {b : Builtin} {rest : List Value} {Q : Value → Shared → Prop} (hk : builtinKind i = some .slot ∨ builtinKind i = some .method) (hs : splitId i = some ("list", nm)) (hp : plainId i = true)
    (he : entryFor table i = some b) (X : (KP P).In s.heap) (hx : s.heap.get? x = some (oneO dx a n)) (ha : argsOk i ⟨.ref x :: rest, []⟩)
    (hc : wpAny (model prog w) A.in1 (b ⟨.ref x :: rest, []⟩) (fun fin s' => ∃ v, fin = .done (.ret v) ∧ Q v s') E s) : wpAny (model prog w) A (call (.builtin i) (.ref x :: rest)) Q E s := by
  refine wpAny_call (codeAny_call_builtin hp he (check_listm hk hs X hx ha (wpAny_mono hc (fun fin s' h' => ?_) fun _ _ h' => h')))
  obtain ⟨v, rfl, hv⟩ := h'
  exact hv
theorem special_listm {name : Str} {i : String} {T : String} {args : List Value} {Q : Option Value → Shared → Prop} (X : (KP P).In s.heap) (hx : s.heap.get? x = some (oneO dx a n)) (hf : findIn (KP P) (.ref 68) name = some (some (.builtin i)))
    (S : Slot T name i) (h : wpAny (model prog w) A (call (.builtin i) (.ref x :: args)) (fun v => Q (some v)) E s) : wpAny (model prog w) A (callSpecial? (.ref x) name args) Q E s := by
  refine wpAny_bind (wpAny_bind ((looks_oneT hx).here ((looks_findIn X hf).here (wpAny_holding ?_))))
  rw [S.bind]
  exact wpAny_bind (wpAny_pure (wpAny_bind (wpAny_mono h (fun _ _ z => wpAny_pure z) fun _ _ z => z)))
theorem kind_of_slot_len : builtinKind "list.__len__" = some .slot := by decide +kernel
theorem kind_of_slot_iter : builtinKind "list.__iter__" = some .slot := by decide +kernel
theorem kind_of_getitem : builtinKind "list.__getitem__" = some .slot ∨ builtinKind "list.__getitem__" = some .method := by decide +kernel
theorem kind_of_append : builtinKind "list.append" = some .method := by decide +kernel
theorem split_len : splitId "list.__len__" = some ("list", "__len__") := by decide +kernel
theorem split_iter : splitId "list.__iter__" = some ("list", "__iter__") := by decide +kernel
theorem split_getitem : splitId "list.__getitem__" = some ("list", "__getitem__") := by decide +kernel
theorem split_append : splitId "list.append" = some ("list", "append") := by decide +kernel
theorem one_len {Q : Value → Shared → Prop} (X : (KP P).In s.heap) (hx : s.heap.get? x = some (oneO dx a n)) (hz : (a.size : Int) < 2 ^ 63) (h : ∀ tk t, Q (.int a.size t) { s with toks := tk }) : wpAny (model prog w) A (call (.builtin "len") [.ref x]) Q E s := by
  refine Calls.call_function_entry kind_len plain_len entry_len (args_len1 _) ?_
  unfold Builtin.«len»
  refine wpAny_bind (m := oneArg "len" _) (wpAny_pure ?_)
  refine wpAny_bind (special_listm X hx (flen P) slot_list_len (call_listm (.inl kind_of_slot_len) split_len slot_list_len.plain entry_list_len X hx (args_list_len _) ?_))
  show wpAny _ _ (seqSize x >>= fun k => retInt k) _ _ _
  refine wpAny_bind (m := seqSize x) ?_
  refine wpAny_bind (wpAny_loadPart hx (wpAny_pure ?_))
  refine wpAny_bind (wpAny_mkInt (wpAny_pure ⟨_, rfl, ?_⟩))
  refine wpAny_bind (wpAny_holding (wpAny_pure ?_))
  refine wpAny_bind (wpAny_letGo ?_)
  show wpAny _ _ (if (a.size : Int) < 0 then _ else _) _ _ _
  rw [if_neg (by omega)]
  show wpAny _ _ (if (a.size : Int) ≥ 2 ^ 63 then _ else _) _ _ _
  rw [if_neg (by omega)]
  exact wpAny_bind (wpAny_mkInt (wpAny_pure ⟨_, rfl, h _ _⟩))
theorem one_append {v : Value} {Q : Value → Shared → Prop} (X : (KP P).In s.heap) (hx : s.heap.get? x = some (oneO dx a n)) (hz : a.size ≤ sizeLine)
    (h : Q .none { s with heap := s.heap.update x (Obj.mapSeq (·.push v)) }) : wpAny (model prog w) A (call (.builtin "list.append") [.ref x, v]) Q E s := by
  refine call_listm (.inr kind_of_append) split_append slot_list_append.plain entry_list_append X hx (args_list_append _ _) ?_
  show wpAny _ _ (updateSeq x (·.push v) >>= fun _ => ret .none) _ _ _
  refine wpAny_bind ?_
  unfold updateSeq
  refine wpAny_bind (wpAny_load hx ?_)
  refine wpAny_bind (wpAny_update hx ?_)
  refine wpAny_lookBehind (o := Obj.mapSeq (·.push v) (oneO dx a n)) (Heap.get?_update_self _ hx rfl) ?_ (wpAny_pure ⟨_, rfl, h⟩)
  exact pastItsLine_seq (xs := a.push v) (n := if (a.push v).size == a.size then n else n + 1) (by rw [Array.size_push]; omega)
theorem noSeqOne {M : Model} {h : Heap} (X : (KP P).In h) : Looks M h (seqItemTypes.anyM fun n => isSubtype (.ref 68) (.type n)) false :=
  (looks_mroIn X (show mroIn (KP P) 68 (.type "collections.deque") = some false by kernel_rfl)).andThen .now
theorem one_key {name : Str} {i : Value} {Q : Value → Shared → Prop} (X : (KP P).In s.heap) (hx : s.heap.get? x = some (oneO dx a n)) (h : Q i s) : wpAny (model prog w) A (sequenceKey (.ref x) i name) Q E s := by
  unfold sequenceKey
  refine wpAny_bind ((looks_oneT hx).here (wpAny_bind ((noSeqOne X).here ?_)))
  exact wpAny_pure h
theorem one_getitem {k : Int} {u : Tok} {v : Value} {Q : Value → Shared → Prop} (X : (KP P).In s.heap) (hx : s.heap.get? x = some (oneO dx a n)) (hk : (k = 0 ∧ a[0]? = some v) ∨ (k = -1 ∧ 0 < a.size ∧ a[a.size - 1]? = some v))
    (h : Q v s) : wpAny (model prog w) A (getItem (.ref x) (.int k u)) Q E s := by
  unfold getItem
  refine wpAny_holding (wpAny_bind (one_key X hx ?_))
  refine wpAny_bind (special_listm X hx (fgetitem P) slot_list_getitem (call_listm kind_of_getitem split_getitem slot_list_getitem.plain entry_list_getitem X hx (args_list_getitem _ _) ?_))
  show wpAny _ _ (Builtin.List.listSubscript? (.int k u) >>= _) _ _ s
  rcases hk with ⟨rfl, hv⟩ | ⟨rfl, hz, hv⟩
  · refine wpAny_bind (wpAny_listSubscript_int (by decide) ?_)
    show wpAny _ _ ((seqItemAt x 0 >>= fun r => pure (r.map (0, ·))) >>= _) _ _ s
    refine wpAny_bind (wpAny_bind (wpAny_seqItemAt hx rfl (wpAny_pure ?_)))
    rw [hv]
    exact wpAny_pure ⟨v, rfl, wpAny_pure h⟩
  · refine wpAny_bind (wpAny_listSubscript_int (by decide) ?_)
    show wpAny _ _ ((Builtin.List.listItems (.ref x) >>= fun xs => pure ((seqIndex? (Int.negSucc 0) xs.size).bind fun i => xs[i]?.map (i, ·))) >>= _) _ _ s
    refine wpAny_bind (wpAny_bind ?_)
    show wpAny _ _ (seqItems? (.ref x) >>= _) _ _ s
    refine wpAny_bind (wpAny_seqItems hx rfl (wpAny_pure (wpAny_pure ?_)))
    have e : seqIndex? (Int.negSucc 0) a.size = some (a.size - 1) := by
      rw [show Int.negSucc 0 = (-1 : Int) from rfl, seqIndex_neg (by decide) (by omega)]
      congr 1; omega
    rw [e]
    simp only [Option.bind_some, hv, Option.map_some]
    exact wpAny_pure ⟨v, rfl, wpAny_pure h⟩
theorem one_tail {value slice : Expr} {i : Value} {Q : Value → Shared → Prop} (X : (KP P).In s.heap) (hx : s.heap.get? x = some (oneO dx a n)) (h : wpAny (model prog w) A (getItem (.ref x) i) Q E s)
    (hs : subscripted slice false (.ref x) i = operate [.ref x, i] (getItem (.ref x) i) := by with_unfolding_all rfl) : wpAny (model prog w) A (subscriptTail value slice (.ref x) i) Q E s := by
  unfold subscriptTail getitemInPython
  refine wpAny_bind (wpAny_bind (wpAny_bind ((looks_oneT hx).here ((looks_findIn X (fgetitem P)).here (wpAny_pure ?_)))))
  rw [hs]
  exact wpAny_bind (wpAny_operating (wpAny_mono h (fun r s₃ h₃ => wpAny_bind (wpAny_letTemporaryGo (wpAny_pure h₃))) fun _ _ x => x))
theorem bound_listm {name : Str} {i T : String} {refuse : Sem Value} {Q : Option Value → Shared → Prop} (X : (KP P).In s.heap) (hx : s.heap.get? x = some (oneO dx a n)) (hf : findIn (KP P) (.ref 68) name = some (some (.builtin i)))
    (S : Slot T name i) (hc : wpAny (model prog w) A (call (.builtin i) [.ref x]) (fun v => Q (some v)) E s) : wpAny (model prog w) A (callSpecialIfBoundUnlessNone? (.ref x) name refuse) Q E s := by
  simp only [callSpecialIfBoundUnlessNone?, bindSpecialIfBound?]
  refine wpAny_holding (wpAny_bind (wpAny_bind (wpAny_bind ((looks_oneT hx).here ((looks_findIn X hf).here ?_)))))
  simp only [S.bind]
  refine wpAny_bind (wpAny_askSetting (wpAny_ite ?_))
  have fin : wpAny (model prog w) A (if (Value.builtin i == Value.none) = true then (refuse >>= fun v => pure (some v)) else (call (.builtin i) [.ref x] >>= fun v => pure (some v))) Q E s := by
    rw [if_neg (by rw [builtin_beq_none]; exact Bool.false_ne_true)]
    exact wpAny_bind (wpAny_mono hc (fun v s' h' => wpAny_pure h') fun _ _ h' => h')
  split
  · exact wpAny_bind (wpAny_pure (wpAny_pure fin))
  · exact wpAny_tryCatch (wpAny_bind (wpAny_pure (wpAny_pure fin)))
theorem one_iter {Q : Value → Shared → Prop} (X : (KP P).In s.heap) (hx : s.heap.get? x = some (oneO dx a n))
    (hQ : Q (.ref s.heap.objs.size) { s with heap := s.heap.push { cls := .type "list_iterator", data := .fields #[.ref x, .int 0 0] } }) : wpAny (model prog w) A (pyIter (.ref x)) Q E s := by
  unfold pyIter
  refine wpAny_bind (wpAny_bind ((looks_oneT hx).here ((looks_findIn X (fiter P)).here ?_)))
  show wpAny _ A (callSpecialIfBoundUnlessNone? (.ref x) "__iter__" _ >>= _) Q E s
  refine wpAny_bind (bound_listm X hx (fiter P) slot_list_iter (call_listm (.inl kind_of_slot_iter) split_iter slot_list_iter.plain entry_list_iter X hx (args_list_iter _) ?_))
  show wpAny _ _ (do ret (← newFields "list_iterator" [.ref x, rawInt 0])) _ _ s
  refine wpAny_bind (wpAny_newObj_type (wpAny_pure ⟨_, rfl, ?_⟩))
  have hT : ({ s with heap := s.heap.push { cls := .type "list_iterator", data := .fields #[.ref x, .int 0 0] } } : Shared).TypeIs (.ref s.heap.objs.size) "list_iterator" := ⟨_, Heap.get?_push_size _ rfl, rfl⟩
  exact wpAny_bind (wpAny_specialOf hT slot_listiter_next.lookup (wpAny_pure hQ))
end
section
variable {prog : Program} {w : World} {A : Around} {E : Value → Shared → Prop} {s : Shared} {it l : Addr} {o : Obj} {a : Array Value} {n : Nat}
theorem next_item {i : Nat} {v : Value} {Q : Option Value → Shared → Prop} (hit : s.heap.IsListIter it l i) (hl : s.heap.get? l = some o) (hd : o.data = .seq a n) (hv : a[i]? = some v)
    (hQ : ∀ h', h'.IsListIter it l (i + 1) → Heap.SameBut it s.heap h' → Q (some v) { s with heap := h' }) : wpAny (model prog w) A (pyNext (.ref it)) Q E s := by
  obtain ⟨oi, ho, hc, hdi⟩ := id hit
  unfold pyNext
  refine wpAny_bind (wpAny_attempt (wpAny_callSpecial?_slot (name := Str.ofString "__next__") hit.typeIs slot_listiter_next
    (wpAny_call_entry slot_listiter_next hit.typeIs entry_listiter_next ?_ (args_listiter_next _))))
  show wpAny _ _ (field (.ref it) 0 >>= _) _ _ s
  refine wpAny_bind (wpAny_field ho hdi (x := .ref l) rfl ?_)
  rw [if_neg (show ¬ ((Value.ref l == Value.none) = true) from Bool.false_ne_true)]
  show wpAny _ _ (field (.ref it) 1 >>= _) _ _ s
  refine wpAny_bind (wpAny_field ho hdi (x := .int i 0) rfl ?_)
  show wpAny _ _ (seqItems? (.ref l) >>= _) _ _ s
  refine wpAny_bind (wpAny_seqItems hl hd ?_)
  simp only [Int.toNat_natCast, hv]
  refine wpAny_bind (wpAny_setField ho hdi (by simp) (wpAny_pure ⟨v, rfl, wpAny_pure (hQ _ ?_ (Heap.SameBut.update ..))⟩))
  exact ⟨_, Heap.get?_update_self _ ho (Obj.isFreed_of_fields (Obj.data_mapFields hdi _)), (Obj.cls_mapFields ..).trans hc, by
    rw [Obj.data_mapFields hdi]; simp [rawInt]⟩
theorem next_end {i : Nat} {Q : Option Value → Shared → Prop} (hh : A.handled = none) (hit : s.heap.IsListIter it l i) (hl : s.heap.get? l = some o) (hd : o.data = .seq a n) (hv : a[i]? = none)
    (hQ : ∀ h', Heap.ExtBut it s.heap h' → Q none { s with heap := h' }) : wpAny (model prog w) A (pyNext (.ref it)) Q E s := by
  obtain ⟨oi, ho, hc, hdi⟩ := id hit
  unfold pyNext
  refine wpAny_bind (wpAny_attempt (wpAny_callSpecial?_slot (name := Str.ofString "__next__") hit.typeIs slot_listiter_next
    (wpAny_call_entry slot_listiter_next hit.typeIs entry_listiter_next ?_ (args_listiter_next _))))
  show wpAny _ _ (field (.ref it) 0 >>= _) _ _ s
  refine wpAny_bind (wpAny_field ho hdi (x := .ref l) rfl ?_)
  rw [if_neg (show ¬ ((Value.ref l == Value.none) = true) from Bool.false_ne_true)]
  show wpAny _ _ (field (.ref it) 1 >>= _) _ _ s
  refine wpAny_bind (wpAny_field ho hdi (x := .int i 0) rfl ?_)
  show wpAny _ _ (seqItems? (.ref l) >>= _) _ _ s
  refine wpAny_bind (wpAny_seqItems hl hd ?_)
  simp only [Int.toNat_natCast, hv]
  refine wpAny_bind (wpAny_rule (wpAny_bind (wpAny_setField ho hdi (by simp) ?_)))
  refine wpAny_bind ?_
  simp only [newExc, newTuple]
  refine wpAny_bind (wpAny_newObj_type ?_ (by size_fits))
  refine wpAny_bind (m := firstArgMember _ _) (wpAny_of_eq (a := Value.none) (by first | rfl | (simp only [firstArgMember]; rfl)) ?_)
  refine wpAny_newObj_type ?_ (by size_fits)
  simp only [raiseNew]
  refine wpAny_bind (wpAny_handled ?_)
  rw [show A.in1.handled = none from hh]
  refine wpAny_bind (wpAny_pure (wpAny_throw ?_))
  refine wpAny_bind (wpAny_isInstance (T := "StopIteration") (b := true) ⟨_, Heap.get?_push_size _ rfl, rfl⟩ isSubtype_stop ?_)
  exact wpAny_pure (hQ _ (((Heap.SameBut.update ..).extBut.push _).push _))
theorem list_walks (hh : A.handled = none) (I l : Addr) (hne : l ≠ I) (o : Obj) (a : Array Value) (n : Nat) (hd : o.data = .seq a n) :
    Walks prog w A I [I, l] [I] a.size (fun i v => a[i]? = some v) (fun i h => h.IsListIter I l i ∧ h.get? l = some o) where
  sub := fun b hb => by simp at hb; simp [hb]
  frame := fun _ _ _ st hk => ⟨st.1.at fun o e => hk I (by simp) o e, hk l (by simp) _ st.2⟩
  item := fun i s Q E hi st hQ => by
    refine next_item st.1 st.2 hd (v := a[i]) (by simp [hi]) fun h' hit' hs' => ?_
    exact hQ _ h' s.toks (by simp [hi]) ⟨hit', (hs'.2 l hne).trans st.2⟩ fun b o hb e => hs'.extBut b o (fun h => hb (by simp [h])) e
  done := fun s Q E st hQ => next_end hh st.1 st.2 hd (by simp) fun h' he' => hQ h' s.toks fun b o hb e => he' b o (fun h => hb (by simp [h])) e
  self := fun _ _ _ _ st hQ => wpAny_pyIter_listiter st.1 hQ
end
end Mine

end
section
open PySem PySem.W PyProof.Rows PySem.Calls Builtin Builtin.ObjectAttr
set_option Elab.async false
set_option maxRecDepth 100000
set_option pp.deepTerms false
namespace Mine
theorem fcall (P : Params) : specialIn (KP P) (.ref 68) "__call__" = some (some (.builtin "type.__call__")) := by kernel_rfl
theorem ftyp (P : Params) : instIn (KP P) (.ref 68) (.type "type") = some true := by kernel_rfl
theorem fself (P : Params) : mroIn (KP P) 68 (.ref 68) = some true := by kernel_rfl
theorem finit (P : Params) : findIn (KP P) (.ref 68) "__init__" = some (some (.ref 30)) := by kernel_rfl
theorem finitT (P : Params) : typeIn (KP P) (.ref 30) = some (.type "function") := by kernel_rfl
def makesL (K : Frag) : Bool := match K.lookup 68 with
  | some ⟨_, _, .cls cd, sl⟩ => !cd.abstract && !cd.hasDel && cd.mro == [.ref 68, .type "list", .type "object"] && (sl.toList[4]?).join == some (.builtin "list.__new__")
  | _ => false
theorem fmakes (P : Params) : makesL (KP P) = true := by kernel_rfl
theorem fcls (P : Params) : ∃ oc od cd sl, (KP P).lookup 68 = some ⟨oc, od, .cls cd, sl⟩ ∧ cd.abstract = false ∧ cd.hasDel = false ∧ cd.mro = [.ref 68, .type "list", .type "object"] ∧ (sl.toList[4]?).join = some (.builtin "list.__new__") := by
  have e := fmakes P
  unfold makesL at e
  split at e
  · rename_i oc od cd sl ho
    simp only [Bool.and_eq_true, Bool.not_eq_true', beq_iff_eq] at e
    exact ⟨oc, od, cd, sl, ho, e.1.1.1, e.1.1.2, e.1.2, e.2⟩
  · cases e
theorem ln_kind : builtinKind "list.__new__" = some .builtinFn := by decide +kernel
theorem ln_split : splitId "list.__new__" = some ("list", "__new__") := by decide +kernel
theorem ln_args (c : Addr) (r : List Value) : argsOk "list.__new__" ⟨.ref c :: r, []⟩ := by unfold argsOk; kernel_rfl
theorem ln_canon : Manifest.canonical "list.__new__" = Manifest.canonical "list.__new__" := rfl

section
variable {prog : Program} {w : World} {A : Around} {R : Result → Shared → Prop} {h : Heap} {g : Array GenState} {d : Drawn} {t : Nat} {os : OsState} {P : Params}
theorem new_one {rest : List Value} (X : (KP P).In h) (hq : R (.ok (.ret (.ref (h.objs.size + 1)))) ⟨(h.push emptyDict).push (oneO h.objs.size #[] 0), g, d, t, os⟩) :
    codeAny (model prog w) A (.call (.builtin "list.__new__") ⟨.ref 68 :: rest, []⟩) R ⟨h, g, d, t, os⟩ := by
  obtain ⟨oc, od, cd, sl, hC, e1, e2, e3, e4⟩ := fcls P
  have ho := X _ _ hC
  have hm : Looks (model prog w) h (mroOf (.ref 68)) [.ref 68, .type "list", .type "object"] := by
    rw [← e3]
    exact (looks_clsIn X (show clsIn (KP P) 68 = some cd by unfold clsIn; rw [hC])).andThen .now
  have made : Looks (model prog w) h (Bind.madeBy (.ref 68)) (some "list.__new__") := by
    intro A Q E s k q
    unfold Bind.madeBy
    refine wpAny_bind (hm A _ E s k ?_)
    rw [List.forIn_cons]
    refine wpAny_bind (wpAny_bind (wpAny_bind (wpAny_bind (wpAny_loadPart (k _ _ ho) (wpAny_pure ?_)))))
    dsimp only
    rw [← Array.getElem?_toList, e4]
    exact wpAny_pure (wpAny_pure (wpAny_pure q))
  have base : Looks (model prog w) h (Bind.staticBase (.ref 68)) (.ref 68) := by
    intro A Q E s k q
    unfold Bind.staticBase
    refine wpAny_bind (hm A _ E s k ?_)
    rw [List.forIn_cons]
    exact wpAny_bind (wpAny_bind (wpAny_bind (made A _ E s k (wpAny_pure (wpAny_pure (wpAny_pure q))))))
  have sub : Looks (model prog w) h (isSubtype (.ref 68) (.type "list")) true := looks_mroIn X (fsub P)
  have args := ln_args 68 rest
  have body : codeAny (model prog w) A (.builtin "list.__new__" ⟨.ref 68 :: rest, []⟩) R ⟨h, g, d, t, os⟩ := by
    refine codeAny_builtin_stack F.entry_list_new rfl fun p st => ?_
    rw [Around.under_plainId F.plain_list_new _]
    have hown := owner_list_new
    have hC2 : ((h.push emptyDict).push (oneO h.objs.size #[] 0)).get? 68 = some { cls := oc, dict := od, data := Data.cls cd, slots := sl } := Heap.get?_push_of_some _ (Heap.get?_push_of_some _ ho)
    simp only [hown]
    repeat (first | simp only [bne_self_eq_false, Bool.false_eq_true, if_false, beq_self_eq_true, if_true, Bool.not_true] | lk)
    rw [e2, if_neg Bool.false_ne_true]
    refine wpAny_pure (wpAny_pure ?_)
    show R _ _
    rw [Heap.size_push]
    exact hq
  refine codeAny_call_builtin_code (Code.quiet_builtin _ (by decide +kernel)) ?_
  simp only [checkBuiltinCall, ln_kind, ln_split]
  cases hsig : Manifest.signature? "list.__new__" with
  | none =>
    repeat (first | simp only [bne_self_eq_false, Bool.false_eq_true, if_false, beq_self_eq_true, if_true, Bool.not_true] | lk)
    exact body
  | some sig =>
    simp only [argsOk, hsig] at args
    have h2 : Bind.checkArgs "list.__new__" sig ⟨.ref 68 :: rest, []⟩ = pure () := args
    simp only [h2]
    repeat (first | simp only [bne_self_eq_false, Bool.false_eq_true, if_false, beq_self_eq_true, if_true, Bool.not_true] | lk)
    exact body
theorem make_one {rest : List Value} (X : (KP P).In h)
    (hq : codeAny (model prog w) (A.under (.builtin "type.__call__" ⟨.ref 68 :: rest, []⟩)) (.call (.ref 30) ⟨.ref (h.objs.size + 1) :: rest, []⟩) (InitBack (h.objs.size + 1) R) ⟨(h.push emptyDict).push (oneO h.objs.size #[] 0), g, d, t, os⟩) :
    codeAny (model prog w) A (.call (.ref 68) ⟨rest, []⟩) R ⟨h, g, d, t, os⟩ := by
  obtain ⟨oc, od, cd, sl, hC, e1, e2, e3, e4⟩ := fcls P
  have ho := X _ _ hC
  have hm : Looks (model prog w) h (mroOf (.ref 68)) [.ref 68, .type "list", .type "object"] := by
    rw [← e3]
    exact (looks_clsIn X (show clsIn (KP P) 68 = some cd by unfold clsIn; rw [hC])).andThen .now
  have made : Looks (model prog w) h (Bind.madeBy (.ref 68)) (some "list.__new__") := by
    intro A Q E s k q
    unfold Bind.madeBy
    refine wpAny_bind (hm A _ E s k ?_)
    rw [List.forIn_cons]
    refine wpAny_bind (wpAny_bind (wpAny_bind (wpAny_bind (wpAny_loadPart (k _ _ ho) (wpAny_pure ?_)))))
    dsimp only
    rw [← Array.getElem?_toList, e4]
    exact wpAny_pure (wpAny_pure (wpAny_pure q))
  have call := looks_specialIn (M := model prog w) X (fcall P)
  have typ := looks_instIn (M := model prog w) X (ftyp P)
  have self := looks_mroIn (M := model prog w) X (fself P)
  have hi := looks_findIn (M := model prog w) X (finit P)
  have hb := fun s => bind_fn (M := model prog w) X s (finitT P)
  refine codeAny_of_tree ?_
  show wpAny _ _ (callAny (.ref 68) _) _ _ _
  refine nd_load ho ?_
  show wpAny _ _ (callAny.viaDunder (.ref 68) _) _ _ _
  unfold callAny.viaDunder
  refine wpAny_bind (call.at ?_)
  dsimp only
  rw [tc_bind]
  refine wpAny_bind (wpAny_pure (wpAny_bind (wpAny_pure ?_)))
  refine wpAny_pure (a := Fin.again (.call (.builtin "type.__call__") ⟨.ref 68 :: rest, []⟩)) (And.intro rfl ?_)
  refine codeAny_call_builtin_at (Code.quiet_builtin _ (by decide +kernel)) entry_typeCall (check_slot tc_kind tc_split typ (tc_args _ _ _) ?_)
  unfold Builtin.«type.__call__»
  repeat (first | simp only [Bool.false_eq_true, if_false] | with_reducible refine wpAny_call ?_ | lk)
  refine new_one X ?_
  have k : ∀ b o, h.get? b = some o → ((h.push emptyDict).push (oneO h.objs.size #[] 0)).get? b = some o := fun b o e => Heap.get?_push_of_some _ (Heap.get?_push_of_some _ e)
  have hx : ((h.push emptyDict).push (oneO h.objs.size #[] 0)).get? (h.objs.size + 1) = some (oneO h.objs.size #[] 0) := by heap_get
  have t1 : Looks (model prog w) ((h.push emptyDict).push (oneO h.objs.size #[] 0)) (typeOf (.ref (h.objs.size + 1))) (.ref 68) := (Looks.ld hx).andThen .now
  have s1 := self.keeps k
  have i1 := hi.keeps k
  have b1 := (hb (.ref (h.objs.size + 1))).keeps k
  unfold isInstance callSpecial? specialOf
  repeat (first | with_reducible refine wpAny_call ?_ | lk)
  refine codeAny_mono hq fun r s' z => ?_
  rcases r with e | (v | _ | _ | _) <;> first | exact z | exact z.elim | skip
  obtain ⟨rfl, z⟩ := z
  exact wpAny_pure (wpAny_pure z)
end
end Mine

end
section
open PySem PySem.W PyProof.Rows PySem.Calls Builtin Builtin.ObjectAttr
set_option Elab.async false
set_option maxRecDepth 100000
set_option pp.deepTerms false
namespace Mine
section
variable {prog : Program} {w : World} {A : Around} {E : Value → Shared → Prop} {s : Shared} {P : Params} {x dx : Addr} {a : Array Value} {n : Nat}
theorem hint_one {Q : Bool → Shared → Prop} (X : (KP P).In s.heap) (hx : s.heap.get? x = some (oneO dx a n)) (hz : (a.size : Int) < 2 ^ 63) (h : ∀ b tk, Q b { s with toks := tk }) : wpAny (model prog w) A (Builtin.List.listLengthHint (.ref x)) Q E s := by
  unfold Builtin.List.listLengthHint
  refine wpAny_bind (wpAny_bind ((looks_oneT hx).here ((looks_findIn X (flen P)).here ?_)))
  dsimp only
  rw [split_len]
  dsimp only
  refine wpAny_bind ((looks_one X hx).here ?_)
  rw [if_neg (by simp)]
  rw [if_pos (by decide +kernel)]
  refine wpAny_bind ((looks_oneT hx).here ?_)
  dsimp only
  refine wpAny_bind (one_len X hx hz fun tk t => ?_)
  exact wpAny_bind (wpAny_pure (wpAny_pure (h _ tk)))
theorem call_list_one {Q : Value → Shared → Prop} (hh : A.handled = none) (X : (KP P).In s.heap) (hx : s.heap.get? x = some (oneO dx a n)) (hz : a.size ≤ 100)
    (h : ∀ h' tk D c, s.heap.objs.size ≤ D → h'.get? D = some { cls := .type "list", data := .seq a c } → (∀ b o, s.heap.get? b = some o → h'.get? b = some o) → Q (.ref D) { s with heap := h', toks := tk }) :
    wpAny (model prog w) A (call (.type "list") [.ref x]) Q E s := by
  refine callType_codes (Q₁ := fun obj s₁ => obj = .ref s.heap.objs.size ∧ s₁ = { s with heap := s.heap.push { cls := .type "list", data := .seq #[] } }) F.called_list (F.typeCall_list_1 _) F.entry_list_init
    (code_list_new _ ⟨rfl, rfl⟩) fun obj s₁ h₁ => ?_
  obtain ⟨rfl, rfl⟩ := h₁
  have hS : (s.heap.push { cls := .type "list", data := .seq #[] }).get? s.heap.objs.size = some { cls := .type "list", data := .seq #[] } := Heap.get?_push_size _ rfl
  generalize hS0 : s.heap.objs.size = S at hS
  have keep0 : ∀ b o, s.heap.get? b = some o → (s.heap.push { cls := .type "list", data := .seq #[] }).get? b = some o := fun b o e => Heap.get?_push_of_some _ e
  have old : ∀ b o, s.heap.get? b = some o → b ≠ S := fun b o e => hS0 ▸ Nat.ne_of_lt (Heap.lt_size e)
  generalize s.heap.push { cls := .type "list", data := .seq #[] } = h1 at hS keep0
  refine ⟨⟨_, hS, rfl⟩, F.args_list_init_2 _ _, ?_⟩
  show wpAny _ _ (do let old ← Builtin.List.listItems (.ref S); Builtin.List.listUpdate (.ref S) (fun _ => #[]); letGo old.toList.reverse; Builtin.List.listExtendWith (.ref S) (.ref x) .none) _ _ _
  refine wpAny_bind ?_
  unfold Builtin.List.listItems
  refine wpAny_bind (wpAny_seqItems hS rfl (wpAny_pure ?_))
  show wpAny _ _ (updateSeq S (fun _ => #[]) >>= fun _ => letGo (#[] : Array Value).toList.reverse >>= fun _ => Builtin.List.listExtendWith (.ref S) (.ref x) .none) _ _ _
  refine wpAny_bind (wpAny_updateSeq hS rfl ?_)
  have hS₂ := Heap.get?_update_self (Obj.mapSeq (fun _ => (#[] : Array Value))) hS rfl
  have oth : ∀ b o, s.heap.get? b = some o → (h1.update S (Obj.mapSeq (fun _ => (#[] : Array Value)))).get? b = some o :=
    fun b o e => (Heap.get?_update_other _ _ (Ne.symm (old b o e))).trans (keep0 b o e)
  refine wpAny_bind (wpAny_letGo ?_)
  generalize h1.update S (Obj.mapSeq (fun _ => (#[] : Array Value))) = h2 at hS₂ oth
  have X2 : (KP P).In h2 := X.keeps oth
  have hx2 : h2.get? x = some (oneO dx a n) := oth _ _ hx
  unfold Builtin.List.listExtendWith
  refine wpAny_bind ((looks_oneT (h := h2) hx2).here ?_)
  have e1 : Builtin.List.listSameRef (.ref S) (.ref x) = false := by
    have := old _ _ hx
    simp [Builtin.List.listSameRef, Ne.symm this]
  have e2 : (Value.ref 68 == Value.type "list") = false := by decide
  have e3 : (Value.ref 68 == Value.type "tuple") = false := by decide
  simp only [e1, e2, e3, Bool.or_false, Bool.false_eq_true, if_false]
  refine wpAny_bind (one_iter (s := { s with heap := h2 }) X2 hx2 ?_)
  have hI : (h2.push { cls := .type "list_iterator", data := .fields #[.ref x, .int 0 0] }).IsListIter h2.objs.size x 0 := ⟨_, Heap.get?_push_size _ rfl, rfl, rfl⟩
  have keep3 : ∀ b o, h2.get? b = some o → (h2.push { cls := .type "list_iterator", data := .fields #[.ref x, .int 0 0] }).get? b = some o := fun b o e => Heap.get?_push_of_some _ e
  have hne : ∀ b o, h2.get? b = some o → b ≠ h2.objs.size := fun b o e => Nat.ne_of_lt (Heap.lt_size e)
  generalize h2.objs.size = I at hI hne ⊢
  generalize h2.push { cls := .type "list_iterator", data := .fields #[.ref x, .int 0 0] } = h3 at hI keep3 ⊢
  have hS3 := keep3 _ _ hS₂
  have hx3 := keep3 _ _ hx2
  have hSI := hne _ _ hS₂
  have hxI := hne _ _ hx2
  have hSx : S ≠ x := Ne.symm (old _ _ hx)
  refine wpAny_bind (wpAny_holding (hint_one (s := { s with heap := h3 }) (X2.keeps keep3) hx3 (by omega) fun room tk => ?_))
  have W : Walks prog w A.in1.in1 I [I, x] [I] a.size (fun i v => a[i]? = some v) (fun i h => h.IsListIter I x i ∧ h.get? x = some (oneO dx a n)) := list_walks (A := A.in1.in1) hh I x hxI (oneO dx a n) a n rfl
  have fin : ∀ (h4 : Heap) (acc : Array Value) (c tk : Nat), acc = #[] → h4.get? S = some { cls := .type "list", data := .seq acc c } → (∀ b o, b ≠ S → h3.get? b = some o → h4.get? b = some o) →
      codeAny (model prog w) A.in1 (.builtin "list.extend.loop" ⟨[.ref S, .ref I, .none], []⟩) (wants (fun r s₂ => r = Value.none ∧ Q (.ref S) s₂) E) { s with heap := h4, toks := tk } := by
    rintro h4 acc c tk rfl hS4 k4
    refine codeAny_extend_loopS (A := A.in1) W.toS (by rw [sizeLine_eq]; omega) S (by simp [hSI, hSx]) .none a.size 0 _ _ c rfl (Nat.zero_le _) ⟨?_, k4 _ _ (Ne.symm hSx) hx3⟩ hS4 (ItemsOf.nil _) fun s' acc' c' hm hS' hacc => ?_
    · obtain ⟨oi, e1, e2⟩ := hI
      exact ⟨oi, k4 _ _ (Ne.symm hSI) e1, e2⟩
    · have e : acc' = a := by
        apply Array.ext_getElem?
        intro i
        by_cases hi : i < acc'.size
        · exact (hacc.2 i acc'[i] (by simp [hi])) ▸ (by simp [hi])
        · rw [Array.getElem?_eq_none (by omega), Array.getElem?_eq_none (by have := hacc.1; omega)]
      subst e
      obtain ⟨sh, sg, sd, st, so⟩ := s'
      have e1 : sg = s.gens := hm.gens
      have e2 : sd = s.drawn := hm.drawn
      have e3 : so = s.os := hm.os
      subst e1 e2 e3
      refine ⟨rfl, h sh st S c' (by omega) hS' fun b o e => ?_⟩
      have hb := old _ _ e
      refine hm.heap b o ?_ (k4 b o hb (keep3 _ _ (oth _ _ e)))
      simp [hb, hne _ _ (oth _ _ e)]
  refine w_ite (fun _ => ?_) fun _ => ?_
  · refine wpAny_bind (wpAny_rule (wpAny_bind ?_))
    show wpAny _ _ (updateSeq S (·.push .none) >>= fun _ => updateSeq S (·.pop)) _ _ _
    refine wpAny_bind (wpAny_updateSeq hS3 rfl ?_)
    have hS4 := Heap.get?_update_self (Obj.mapSeq (·.push Value.none)) hS3 rfl
    refine wpAny_updateSeq (hz := by seq_fits) hS4 rfl ?_
    have hS5 := Heap.get?_update_self (Obj.mapSeq (·.pop)) hS4 rfl
    refine wpAny_pure ⟨plainId_quiet F.plain_extend_loop _, fin _ _ _ _ rfl hS5 fun b o hb e => ?_⟩
    exact (Heap.get?_update_other _ _ (Ne.symm hb)).trans ((Heap.get?_update_other _ _ (Ne.symm hb)).trans e)
  · exact wpAny_pure ⟨plainId_quiet F.plain_extend_loop _, fin _ _ _ _ rfl hS3 fun b o _ e => e⟩
end
end Mine

end
section
open PySem PySem.W PyProof.Rows PySem.Calls Builtin Builtin.ObjectAttr
set_option Elab.async false
set_option maxRecDepth 100000
set_option pp.deepTerms false
namespace Mine
section
variable {prog : Program} {w : World} {A : Around} {E : Value → Shared → Prop} {s : Shared} {P : Params} {x dx L : Addr} {ox : Obj} {od od' : Obj} {name : Str} {v : Value} {h₀ : Heap} {m : Str → Option Value} {news : List (Addr × Obj)} {es es' : List DictEntry} {n n' : Nat}
theorem osa_one {R : Result → Shared → Prop} {tk : Tok} {pre post : List (Addr × Obj)} (F : Fr h₀ L s.heap m) (N : News h₀ L s.heap (pre ++ (dx, od) :: post)) (X : (KP P).In s.heap)
    (I : InstAt s.heap x ox 68 (some od)) (hd : ox.dict = some dx) (ht : takerIn (KP P) 68 name = some none)
    (hl : (lookIn name od).isSome = true) (h1 : ∀ p ∈ pre, p.1 ≠ dx) (h2 : ∀ p ∈ post, p.1 ≠ dx)
    (e : Obj.putName name (PyData.keyHash w.params name) (.str name s.toks) v od = od') (e' : od'.data = .dict es.toArray n) (hz : es.length ≤ 1000)
    (h : ∀ h', Fr h₀ L h' m → News h₀ L h' (pre ++ (dx, od') :: post) → R (.ok (.ret .none)) { s with heap := h', toks := s.toks + 1 }) :
    codeAny (model prog w) A (.call (.builtin "object.__setattr__") ⟨[.ref x, .str name tk, v], []⟩) R s := by
  have SF := PySem.F.store_object
  obtain ⟨oc, odd, cd, sl, hC, c1, c2, c3, c4⟩ := fcls P
  have hc : clsIn (KP P) 68 = some cd := by unfold clsIn; rw [hC]
  have sub : Looks (model prog w) s.heap (isInstance (.ref x) (.type "object")) true := I.type.andThen (looks_mroIn X (fsubo P))
  refine codeAny_call_builtin SF.slot.plain SF.entry (@check_slot (model prog w) _ _ s "object.__setattr__" "object" "__setattr__" (.ref x) [.str name tk, v] [] _ SF.kind SF.split sub (SF.args (.ref x) (.str name tk) v) ?_)
  obtain ⟨attr, ha, hr⟩ := Option.bind_eq_some_iff.mp ht
  have hm : Looks (model prog w) s.heap (mroOf (.ref 68)) cd.mro := (looks_clsIn X hc).andThen .now
  have L3 : Looks (model prog w) s.heap (storeTaker? attr) none := by
    cases attr with
    | none => cases hr; exact .now
    | some a =>
      obtain ⟨b, hb, hbb⟩ := Option.map_eq_some_iff.mp hr
      refine (looks_takesIn X hb).andThen ?_
      cases b
      · exact .now
      · cases hbb
  rw [osa_eq, refuse_eq]
  refine wpAny_bind (wpAny_bind (I.type.here (wpAny_bind (hm.here ?_))))
  rw [c3, refuseLoop_ref, refuse_list]
  refine wpAny_pure (wpAny_bind (I.type.here (wpAny_bind ((looks_findIn X ha).here (wpAny_bind (L3.here ?_))))))
  dsimp only
  obtain ⟨U1, U2⟩ := news_upd (f := Obj.putName name (PyData.keyHash w.params name) (.str name s.toks) v) F N h1 h2 e (by obtain ⟨_, _, dd, _⟩ := od'; cases e'; rfl)
  have D := (N (dx, od) (by simp)).1
  have D' := (U2 (dx, od') (by simp)).1
  obtain ⟨hx, hcl, hn, -⟩ := I
  obtain ⟨oxc, odi, oda, osl⟩ := ox
  dsimp only at hcl hd
  subst hcl hd
  have hhd : cd.hasDict = true := by
    have := fhas P
    unfold hasDictIn at this
    rw [hc] at this
    exact this
  refine wpAny_bind (wpAny_pure (wpAny_bind (wpAny_bind (wpAny_loadPart hx (wpAny_bind ((looks_clsIn X hc).here ?_))))))
  rw [hhd]
  refine wpAny_pure (a := some dx) (wpAny_bind (wpAny_pure (wpAny_bind ?_)))
  unfold nsSet
  refine wpAny_bind (wpAny_bind (wpAny_askSetting (wpAny_pure (wpAny_bind (wpAny_mkText (wpAny_bind (wpAny_loadPart D ?_)))))))
  unfold lookIn at hl
  split at hl
  · rename_i es₀ n₀ q
    rw [q]
    dsimp only
    have c : (!es₀.any (·.key.isStr name) && es₀.any (·.refKey)) = false := by
      rw [← Array.any_toList, ← Array.any_toList]
      split at hl
      · rename_i en he
        rw [List.any_eq_true.mpr ⟨en, List.mem_of_find?_eq_some he, List.find?_some he⟩]; rfl
      · split at hl
        · cases hl
        · rename_i z; rw [Bool.not_eq_true] at z; rw [z, Bool.and_false]
    rw [aRefKeyMayBeTheName_at, c]
    refine wpAny_updatePart D ?_
    refine wpAny_bind (wpAny_lookBehind D' (by rw [e']; exact pastItsLine_dict (by rw [List.size_toArray, sizeLine_eq]; omega)) ?_)
    exact wpAny_pure (h _ U1 U2)
  · cases hl
theorem set_one {Q : Unit → Shared → Prop} (F : Fr h₀ L s.heap m) (X₀ : (KP P).In h₀) (N : News h₀ L s.heap news) (I : InstAt s.heap x ox 68 (some (dictOf es n))) (hd : ox.dict = some dx)
    (ht : takerIn (KP P) 68 name = some none) (hl : (getL name es).isSome = true)
    (e : (putL name (PyData.keyHash w.params name) (.str name (s.toks + 1)) v es, putN name es n) = (es', n')) (U : Upd dx (dictOf es n) (dictOf es' n') news news') (hz : es'.length ≤ 1000)
    (h : ∀ h', Fr h₀ L h' m → News h₀ L h' news' → Q () { s with heap := h', toks := s.toks + 2 }) :
    wpAny (model prog w) A (setAttr (.ref x) name v) Q E s := by
  obtain ⟨pre, post, rfl, rfl, a, b⟩ := U.split
  obtain ⟨e1, e2⟩ := Prod.mk.inj e
  exact set_plain (X₀.keeps F.keep) I (fset P) (osa_one (s := { s with toks := s.toks + 1 }) F N (X₀.keeps F.keep) I hd ht hl a b (by rw [putName_dict, e1, e2]) rfl hz fun h' F' N' => h h' F' N')
end
end Mine

end
section
open PySem PySem.W PyProof.Rows PySem.Calls Builtin Builtin.ObjectAttr
set_option Elab.async false
set_option maxRecDepth 100000
set_option pp.deepTerms false
namespace Mine
abbrev heldO (l : List (Fin 8)) (n : Nat) : Obj := listOf (l.map mV).toArray n
theorem menus_read {h : Heap} (x : MenuIn h) : ∀ l : List (Fin 8), ∃ as, ReadsAll h (l.map mV) (l.map mD) as
  | [] => ⟨_, .nil⟩
  | i :: r => by
    obtain ⟨as, ra⟩ := menu_reads x i
    obtain ⟨bs, rb⟩ := menus_read x r
    exact ⟨_, .cons ra rb⟩
theorem held_reads {h : Heap} {H n : Nat} {l : List (Fin 8)} (x : MenuIn h) (hH : h.get? H = some (heldO l n)) : ∃ as, Reads h (.ref H) (.list (l.map mD)) as := by
  obtain ⟨as, ra⟩ := menus_read x l
  exact ⟨_, reads_list_at hH rfl rfl ra⟩
theorem menus_lay : ∀ l : List (Fin 8), PyData.canLayAll0 (l.map mD) = true
  | [] => rfl
  | i :: r => by rw [List.map_cons]; show (PyData.canLay0 (mD i) && PyData.canLayAll0 (r.map mD)) = true; rw [menu_lay, menus_lay r]; rfl
theorem menus_depth : ∀ l : List (Fin 8), PyData.depthAll (l.map mD) ≤ 2
  | [] => by decide
  | i :: r => by
    rw [List.map_cons]
    show max (PyData.depth (mD i)) (PyData.depthAll (r.map mD)) ≤ 2
    have := menu_depth i
    have := menus_depth r
    omega
theorem held_shaped (l : List (Fin 8)) : SeqAt.shaped (.list (l.map mD)) = true := by
  show (PyData.canLayAll0 (l.map mD) && decide (PyData.depthAll (l.map mD) + 1 ≤ 64)) = true
  rw [menus_lay, decide_eq_true (by have := menus_depth l; omega)]; rfl
theorem menu_shaped (i : Fin 8) : SeqAt.shaped (mD i) = true := by
  show ((mD i).canLay0 && decide ((mD i).depth ≤ 64)) = true
  rw [menu_lay, decide_eq_true (by have := menu_depth i; omega)]; rfl
theorem menus_eqv : ∀ l k : List (Fin 8), PyData.eqvAll (l.map mD) (k.map mD) = decide (l = k)
  | [], [] => rfl
  | [], _ :: _ => rfl
  | _ :: _, [] => rfl
  | i :: r, j :: q => by
    rw [List.map_cons, List.map_cons]
    show (PyData.eqv (mD i) (mD j) && PyData.eqvAll (r.map mD) (q.map mD)) = _
    rw [menu_eqv, menus_eqv r q]
    by_cases h : i = j <;> by_cases h' : r = q <;> simp [h, h']
theorem menus_any (l : List (Fin 8)) (k : Fin 8) : ((l.map mD).any fun y => PyData.eqv y (mD k)) = decide (k ∈ l) := by
  rw [List.any_map]
  by_cases h : k ∈ l
  · rw [decide_eq_true h, List.any_eq_true]
    exact ⟨k, h, by show PyData.eqv (mD k) (mD k) = true; rw [menu_eqv]; simp⟩
  · rw [decide_eq_false h, List.any_eq_false]
    intro j hj
    show ¬ PyData.eqv (mD j) (mD k) = true
    rw [menu_eqv]
    intro e
    exact h (of_decide_eq_true e ▸ hj)
section
variable {prog : Program} {w : World} {A : Around} {E : Value → Shared → Prop} {s : Shared} {H : Addr} {l : List (Fin 8)} {n : Nat} {k : Fin 8}
theorem in_held {Q : Value → Shared → Prop} (x : MenuIn s.heap) (hH : s.heap.get? H = some (heldO l n)) (hu : A.units + 8 < cLine) (h : Q (.bool (decide (k ∈ l))) s) : wpAny (model prog w) A (compareOp .In (mV k) (.ref H)) Q E s := by
  obtain ⟨as, ra⟩ := held_reads x hH
  obtain ⟨bs, rb⟩ := menu_reads x k
  refine SeqAt.in_list_reads ra rb (menus_lay l) (menu_lay k) ?_ (by rw [menus_any]; exact h)
  have := menus_depth l
  have := Nat.min_le_left (PyData.depthAll (l.map mD)) (mD k).depth
  omega
theorem ne_held {H' n' : Nat} {l' : List (Fin 8)} {Q : Value → Shared → Prop} (x : MenuIn s.heap) (hH : s.heap.get? H = some (heldO l n)) (hH' : s.heap.get? H' = some (heldO l' n')) (hu : A.units + 64 < cLine) (h : Q (.bool (!decide (l = l'))) s) :
    wpAny (model prog w) A (compareOp .NotEq (.ref H) (.ref H')) Q E s := by
  obtain ⟨as, ra⟩ := held_reads x hH
  obtain ⟨bs, rb⟩ := held_reads x hH'
  refine ne_dataH ra rb (held_shaped l) (held_shaped l') hu ?_
  show Q (.bool (!PyData.eqvAll (l.map mD) (l'.map mD))) s
  rw [menus_eqv]; exact h
theorem ne_menu {j : Fin 8} {Q : Value → Shared → Prop} (x : MenuIn s.heap) (hu : A.units + 64 < cLine) (h : Q (.bool (!decide (k = j))) s) : wpAny (model prog w) A (compareOp .NotEq (mV k) (mV j)) Q E s := by
  obtain ⟨as, ra⟩ := menu_reads x k
  obtain ⟨bs, rb⟩ := menu_reads x j
  exact ne_dataH ra rb (menu_shaped k) (menu_shaped j) hu (by rw [menu_eqv]; exact h)
theorem index_held {Q : Value → Shared → Prop} (x : MenuIn s.heap) (hH : s.heap.get? H = some (heldO l n)) (hu : A.units + 8 < cLine) (hk : k ∈ l) (hz : l.length ≤ 100) (h : ∀ tk t, Q (.int (l.idxOf k : Nat) t) { s with toks := tk }) :
    wpAny (model prog w) A (call (.builtin "list.index") [.ref H, mV k]) Q E s := by
  have hlt := List.idxOf_lt_length_of_mem hk
  have e1 : (fun v => decide (v = mV k)) (mV k) = true := by simp
  refine call_meets F.slot_list_index ⟨_, hH, rfl⟩ F.entry_list_index (F.args_list_index_2 _ _)
    (SeqAt.list_indexAt H (l.map mV).toArray n none #[] (mV k) (fun v => decide (v = mV k)) (l.idxOf k) (by simpa using hlt) (by omega) (by simp [List.getElem_idxOf]) (fun m hm hlt => ?_)) ⟨hH, fun y hy => ?_, h _ _⟩
  · have hm' : m < l.length := by simpa using hm
    simp only [List.getElem_toArray, List.getElem_map]
    refine decide_eq_false fun e => ?_
    have e2 := mV_inj _ _ e
    have q : m < l.findIdx (· == k) := hlt
    have := List.not_of_lt_findIdx q
    simp [e2] at this
  · obtain ⟨j, hj, rfl⟩ : ∃ j ∈ l, mV j = y := by simpa using hy
    intro prog w E Q hq
    refine menu_eqBool x (by simp only [Around.in1_units]; omega) ?_
    rw [show decide (mV j = mV k) = decide (j = k) from by
      by_cases e : j = k
      · simp [e]
      · rw [decide_eq_false e]; exact decide_eq_false fun q => e (mV_inj _ _ q)] at hq
    exact hq
theorem add_held {H' n' : Nat} {l' : List (Fin 8)} {h₀ : Heap} {L : Addr} {m : Str → Option Value} {news : List (Addr × Obj)} {Q : Value → Shared → Prop} (F : Fr h₀ L s.heap m) (N : News h₀ L s.heap news) (hH : s.heap.get? H = some (heldO l n)) (hH' : s.heap.get? H' = some (heldO l' n'))
    (hz : l.length + l'.length ≤ 100) (h : ∀ D h', Fr h₀ L h' m → News h₀ L h' ((D, heldO (l ++ l') 0) :: news) → (∀ p ∈ news, p.1 < D) → Q (.ref D) { s with heap := h' }) : wpAny (model prog w) A (binaryOp .Add (.ref H) (.ref H')) Q E s := by
  refine add_arrays F N ⟨_, hH, rfl, _, rfl⟩ ⟨_, hH', rfl, _, rfl⟩ (fun h' F' N' => ?_) (by rw [sizeLine_eq]; simp; omega)
  refine h _ h' F' ?_ fun p hp => Heap.lt_size (N p hp).1
  have e : ((l.map mV).toArray.toList ++ (l'.map mV).toArray.toList).toArray = ((l ++ l').map mV).toArray := by simp
  rw [e] at N'
  exact N'
end
end Mine

end
section
open PySem PySem.W PyProof.Rows PySem.Calls
set_option Elab.async false
set_option maxRecDepth 100000
set_option pp.deepTerms false
namespace Mine
theorem menu_K {P : Params} {h : Heap} (X : (KP P).In h) : MenuIn h := X 73 _ (show (KP P).lookup 73 = some tupObj by kernel_rfl)
abbrev tabO (w : World) (xs : List (Fin 8 × Value)) (n : Nat) : Obj := dictOf (xs.map (ent w)) n
abbrev oneL (dx : Addr) (l : List (Fin 8)) (n : Nat) : Obj := oneO dx (l.map mV).toArray n
abbrev oneD (h1 h2 : Int) (t1 t2 : Tok) (b : Bool) (t : Addr) (n : Nat) : Obj := dictOf [⟨h1, .str "clean" t1, .bool b⟩, ⟨h2, .str "_dict" t2, .ref t⟩] n
section
variable {prog : Program} {w : World} {A : Around} {E : Value → Shared → Prop} {s : Shared} {P : Params} {x dx t L : Addr} {h₀ : Heap} {m : Str → Option Value} {news news' : List (Addr × Obj)} {xs : List (Fin 8 × Value)} {n : Nat} {k : Fin 8} {l : List (Fin 8)}
theorem dictIs_of (N : News h₀ L s.heap news) (hm : (t, tabO w xs n) ∈ news) (hnd : (xs.map (·.1)).Nodup) : DictIs w s.heap t xs n := ⟨(N _ hm).1, hnd⟩
theorem newDict_M {env : Env} {pos : Pos} {Q : Value → Shared → Prop} (F : Fr h₀ L s.heap m) (N : News h₀ L s.heap news) (hbig : h₀.NoLimit)
    (k : ∀ d h', Fr h₀ L h' m → News h₀ L h' ((d, dictOf [] 0) :: news) → (∀ p ∈ news, p.1 < d) → (d == sysModules) = false → Q (.ref d) { s with heap := h' }) : wpAny (model prog w) A (eval (.Dict [] [] pos) env) Q E s :=
  wpAny_Dict_empty (k _ _ (F.push _) (News.push F N _) (fun p hp => Heap.lt_size (N p hp).1) (F.notModules (modules_low hbig)))
theorem notIn_K {Q : Value → Shared → Prop} (F : Fr h₀ L s.heap m) (X₀ : (KP P).In h₀) (N : News h₀ L s.heap news) (hm : (t, tabO w xs n) ∈ news) (hnd : (xs.map (·.1)).Nodup) (ht : (t == sysModules) = false) (hu : A.units + 5 < cLine)
    (h : ∀ tk, Q (.bool (!(xs.lookup k).isSome)) { s with toks := tk }) : wpAny (model prog w) A (compareOp .NotIn (mV k) (.ref t)) Q E s :=
  notIn_menu (dictIs_of N hm hnd) ht (menu_K (X₀.keeps F.keep)) hu h
theorem isIn_K {Q : Value → Shared → Prop} (F : Fr h₀ L s.heap m) (X₀ : (KP P).In h₀) (N : News h₀ L s.heap news) (hm : (t, tabO w xs n) ∈ news) (hnd : (xs.map (·.1)).Nodup) (ht : (t == sysModules) = false) (hu : A.units + 5 < cLine)
    (h : ∀ tk, Q (.bool (xs.lookup k).isSome) { s with toks := tk }) : wpAny (model prog w) A (compareOp .In (mV k) (.ref t)) Q E s :=
  in_menu (dictIs_of N hm hnd) ht (menu_K (X₀.keeps F.keep)) hu h
theorem item_K {value slice : Expr} {v : Value} {Q : Value → Shared → Prop} (F : Fr h₀ L s.heap m) (X₀ : (KP P).In h₀) (N : News h₀ L s.heap news) (hm : (t, tabO w xs n) ∈ news) (hnd : (xs.map (·.1)).Nodup) (hu : A.units + 5 < cLine)
    (hv : xs.lookup k = some v) (h : ∀ tk, Q v { s with toks := tk })
    (hs : subscripted slice false (.ref t) (mV k) = operate [.ref t, mV k] (getItem (.ref t) (mV k)) := by with_unfolding_all rfl) : wpAny (model prog w) A (subscriptTail value slice (.ref t) (mV k)) Q E s :=
  have D := dictIs_of (w := w) N hm hnd
  tail_any D.typeIs slot_dict_getitem.lookup (getItem_menu D (menu_K (X₀.keeps F.keep)) hu hv h) hs
theorem store_K {v : Value} {Q : Unit → Shared → Prop} (F : Fr h₀ L s.heap m) (X₀ : (KP P).In h₀) (N : News h₀ L s.heap news) (hnd : (xs.map (·.1)).Nodup) (hu : A.units + 5 < cLine) (hno : xs.lookup k = none) (hz : xs.length ≤ 8)
    (U : Upd t (tabO w xs n) (tabO w (xs ++ [(k, v)]) (n + 1)) news news') (h : ∀ h' tk, Fr h₀ L h' m → News h₀ L h' news' → Q () { s with heap := h', toks := tk }) : wpAny (model prog w) A (setItem (.ref t) (mV k) v) Q E s := by
  obtain ⟨pre, post, rfl, rfl, a, b⟩ := U.split
  refine setItem_menu (dictIs_of (n := n) N (by simp) hnd) (menu_K (X₀.keeps F.keep)) hu hno hz fun tk => ?_
  obtain ⟨F', N'⟩ := news_upd (f := Obj.mapDictKeys (·.push (ent w (k, v)))) F N a b push_menu rfl
  exact h _ tk F' N'
theorem len_one_K {a : Array Value} {Q : Value → Shared → Prop} (F : Fr h₀ L s.heap m) (X₀ : (KP P).In h₀) (N : News h₀ L s.heap news) (hm : (x, oneO dx a n) ∈ news) (hz : (a.size : Int) < 2 ^ 63) (h : ∀ tk t, Q (.int a.size t) { s with toks := tk }) :
    wpAny (model prog w) A (call (.builtin "len") [.ref x]) Q E s := one_len (X₀.keeps F.keep) (N _ hm).1 hz h
theorem push_one {v : Value} {a : Array Value} : Obj.mapSeq (·.push v) (oneO dx a n) = oneO dx (a.push v) (n + 1) := by
  simp [Obj.mapSeq]
theorem append_one_K {v : Value} {a : Array Value} {Q : Value → Shared → Prop} (F : Fr h₀ L s.heap m) (X₀ : (KP P).In h₀) (N : News h₀ L s.heap news) (hz : a.size ≤ 100)
    (U : Upd x (oneO dx a n) (oneO dx (a.push v) (n + 1)) news news') (h : ∀ h', Fr h₀ L h' m → News h₀ L h' news' → Q .none { s with heap := h' }) : wpAny (model prog w) A (call (.builtin "list.append") [.ref x, v]) Q E s := by
  obtain ⟨pre, post, rfl, rfl, a1, b1⟩ := U.split
  refine one_append (X₀.keeps F.keep) (N (x, oneO dx a n) (by simp)).1 (by rw [sizeLine_eq]; omega) ?_
  obtain ⟨F', N'⟩ := news_upd (f := Obj.mapSeq (·.push v)) F N a1 b1 push_one rfl
  exact h _ F' N'
end
end Mine

end
section
open PySem PySem.W PyProof.Rows
set_option Elab.async false
set_option pp.deepTerms false
set_option pp.proofs false
set_option maxRecDepth 100000
set_option maxHeartbeats 8000000
namespace Mine
theorem nodup_le {α : Type} [BEq α] [LawfulBEq α] : ∀ (l m : List α), l.Nodup → (∀ a ∈ l, a ∈ m) → l.length ≤ m.length
  | [], _, _, _ => Nat.zero_le _
  | a :: r, m, hn, h => by
    obtain ⟨h1, h2⟩ := List.nodup_cons.mp hn
    have hm := h a (.head _)
    have := nodup_le r (m.erase a) h2 fun b hb => (List.mem_erase_of_ne (fun (e : b = a) => h1 (e ▸ hb))).mpr (h b (.tail _ hb))
    rw [List.length_erase_of_mem hm] at this
    have := List.length_pos_of_mem hm
    simp only [List.length_cons]; omega
structure OneTab (l : List (Fin 8)) (xs : List (Fin 8 × Value)) : Prop where
  keys : xs.map (·.1) = l
  num : ∀ (i : Nat) (k : Fin 8) (v : Value), xs[i]? = some (k, v) → ∃ u, v = Value.int ((i : Nat) : Int) u
  nd : l.Nodup
theorem OneTab.nodup {l xs} (K : OneTab l xs) : (xs.map (·.1)).Nodup := K.keys ▸ K.nd
theorem OneTab.len {l xs} (K : OneTab l xs) : xs.length = l.length := by rw [← K.keys, List.length_map]
theorem OneTab.le {l xs} (K : OneTab l xs) : l.length ≤ 8 := by
  have := nodup_le l (List.finRange 8) K.nd fun a _ => List.mem_finRange a
  simpa using this
theorem OneTab.le' {l xs} (K : OneTab l xs) : xs.length ≤ 8 := K.len ▸ K.le
theorem lookup_none {xs : List (Fin 8 × Value)} {k : Fin 8} (h : k ∉ xs.map (·.1)) : xs.lookup k = none := by
  induction xs with
  | nil => rfl
  | cons p r ih =>
    obtain ⟨j, v⟩ := p
    simp only [List.map_cons, List.mem_cons, not_or] at h
    rw [List.lookup_cons]
    rw [show (k == j) = false from by simpa using h.1]
    exact ih h.2
theorem lookup_at {k : Fin 8} : ∀ (xs : List (Fin 8 × Value)) (c : Nat), (∀ (i : Nat) (j : Fin 8) (v : Value), xs[i]? = some (j, v) → ∃ u, v = Value.int ((c + i : Nat) : Int) u) → k ∈ xs.map (·.1) → ∃ u, xs.lookup k = some (.int ((c + (xs.map (·.1)).idxOf k : Nat) : Int) u)
  | [], _, _, h => by cases h
  | (j, v) :: r, c, hn, h => by
    by_cases e : k = j
    · subst e
      obtain ⟨u, rfl⟩ := hn 0 k v rfl
      exact ⟨u, by simp [List.lookup_cons]⟩
    · have h' : k ∈ r.map (·.1) := by simpa [e] using h
      obtain ⟨u, hu⟩ := lookup_at r (c + 1) (fun i j v hv => by obtain ⟨u, q⟩ := hn (i + 1) j v (by simpa using hv); exact ⟨u, by rw [q]; congr 1; omega⟩) h'
      refine ⟨u, ?_⟩
      rw [List.lookup_cons, show (k == j) = false from by simpa using e, List.map_cons, List.idxOf_cons, show (j == k) = false from by simpa using fun q => e q.symm]
      have e2 : ∀ i : Nat, c + 1 + i = c + (i + 1) := fun i => by omega
      simp only [cond_false]
      rw [hu, e2]
theorem OneTab.some {l xs} {k : Fin 8} (K : OneTab l xs) (h : k ∈ l) : ∃ u, xs.lookup k = some (.int (l.idxOf k : Nat) u) := by
  obtain ⟨u, hu⟩ := lookup_at (k := k) xs 0 (fun i j v hv => by obtain ⟨u, q⟩ := K.num i j v hv; exact ⟨u, by simpa using q⟩) (by rw [K.keys]; exact h)
  rw [K.keys, Nat.zero_add] at hu
  exact ⟨u, hu⟩
theorem OneTab.none {l xs} {k : Fin 8} (K : OneTab l xs) (h : k ∉ l) : xs.lookup k = none := lookup_none (by rw [K.keys]; exact h)
theorem OneTab.isSome {l xs} {k : Fin 8} (K : OneTab l xs) : (xs.lookup k).isSome = decide (k ∈ l) := by
  by_cases h : k ∈ l
  · obtain ⟨u, e⟩ := K.some h; rw [e, decide_eq_true h]; rfl
  · rw [K.none h, decide_eq_false h]; rfl
theorem OneTab.push {l xs} {k : Fin 8} {u : Tok} (K : OneTab l xs) (h : k ∉ l) : OneTab (l ++ [k]) (xs ++ [(k, .int (l.length : Nat) u)]) where
  keys := by rw [List.map_append, K.keys]; rfl
  num i j v hv := by
    rw [List.getElem?_append] at hv
    split at hv
    · exact K.num i j v hv
    · rename_i hi
      have : i - xs.length = 0 := by
        refine Decidable.byContradiction fun hc => ?_
        rw [List.getElem?_eq_none (by simp; omega)] at hv
        cases hv
      rw [this] at hv
      cases hv
      exact ⟨u, by rw [← K.len]; congr 2; omega⟩
  nd := List.nodup_append.mpr ⟨K.nd, by simp, fun a ha b hb => by simp at hb; subst hb; exact fun e => h (e ▸ ha)⟩
theorem OneTab.nil : OneTab [] [] := ⟨rfl, fun i k v h => by simp at h, List.nodup_nil⟩
end Mine

end
section
open PySem PySem.W PyProof.Rows PySem.Calls Builtin Builtin.ObjectAttr
set_option Elab.async false
set_option maxRecDepth 100000
set_option pp.deepTerms false
namespace Mine
theorem canon_ga : (Manifest.canonical "list.__getattribute__" != "object.__getattribute__") = false := by decide +kernel
theorem fga (P : Params) : findIn (hd.heap_39 P) (.ref 68) "__getattribute__" = some (some (.builtin "list.__getattribute__")) := by kernel_rfl
theorem fgetattr (P : Params) : findIn (hd.heap_39 P) (.ref 68) "__getattr__" = some none := by kernel_rfl
theorem ga_kind : builtinKind "list.__getattribute__" = some .slot := by decide +kernel
theorem ga_split : splitId "list.__getattribute__" = some ("list", "__getattribute__") := by decide +kernel
section
variable {prog : Program} {w : World} {A : Around} {E : Value → Shared → Prop} {s : Shared} {P : Params} {x dx L : Addr} {od : Obj} {name : Str} {v : Value} {a : Array Value} {n : Nat} {expr : Bool}
theorem get_one {Q : Value → Shared → Prop} (X : (KP P).In s.heap) (hx : s.heap.get? x = some (oneO dx a n)) (hd' : s.heap.get? dx = some od)
    (hf : findObj (KP P) 68 (some od) name = some (.value v)) (hh : handedIn v = true) (h : Q v { s with toks := s.toks + 1 }) : wpAny (model prog w) A (getAttr (.ref x) name expr) Q E s := by
  have I : InstAt s.heap x (oneO dx a n) 68 (some od) := ⟨hx, rfl, rfl, hd'⟩
  obtain ⟨hp, g, d, t, os⟩ := s
  unfold getAttr getAttrBy
  refine wpAny_bind (wpAny_mkText (wpAny_holding (wpAny_bind ((looks_oneT hx).at (wpAny_bind ((looks_findIn X (fga P)).at ?_))))))
  dsimp only
  rw [if_neg (by decide)]
  unfold getAttrByItsOwn
  refine wpAny_bind ?_
  show wpAny _ _ (typeLookup (.ref 68) "__getattr__") _ _ _
  refine (looks_findIn X (fgetattr P)).at ?_
  dsimp only
  have f4 := F.slot_list_getattribute.bind (.ref x)
  refine wpAny_bind (wpAny_attempt (wpAny_holding ?_))
  unfold callGetattribute
  rw [show (expr && onTheHeap (.builtin "list.__getattribute__")) = false from by cases expr <;> rfl, if_neg Bool.false_ne_true]
  unfold boundAndCalled
  rw [f4]
  refine wpAny_bind (wpAny_pure ?_)
  dsimp only
  refine call_listm (.inl ga_kind) ga_split F.slot_list_getattribute.plain F.entry_list_ga X hx (F.args_list_getattribute_2 _ _) ?_
  unfold Builtin.«object.__getattribute__»
  refine wpAny_bind (m := slotArgs _ _ _) (wpAny_pure ?_)
  dsimp only
  refine wpAny_bind (m := attrName _) (wpAny_pure ?_)
  refine wpAny_bind ((looks_oneT hx).at (wpAny_bind ((looks_find X I hf).at ?_)))
  dsimp only
  refine wpAny_pure ⟨v, rfl, ?_⟩
  show wpAny _ _ (handedOut v) _ _ _
  rw [handedOut_of hh]; exact wpAny_pure h
theorem get_own1 {es : List DictEntry} {n' : Nat} {h₀ : Heap} {m : Str → Option Value} {news : List (Addr × Obj)} {attr : Option Value} {Q : Value → Shared → Prop} (F : Fr h₀ L s.heap m) (X₀ : (KP P).In h₀) (N : News h₀ L s.heap news) (hx : (x, oneO dx a n) ∈ news) (hdx : (dx, dictOf es n') ∈ news)
    (ha : findIn (hd.heap_39 P) (.ref 68) name = some attr) (hn : noGet (hd.heap_39 P) attr = true) (hl : getL name es = some (some v)) (hv : handedIn v = true) (h : Q v { s with toks := s.toks + 1 }) : wpAny (model prog w) A (getAttr (.ref x) name expr) Q E s :=
  get_one (X₀.keeps F.keep) (N _ hx).1 (N _ hdx).1 (findObj_own (fhas P) ha hn hl) hv h
theorem method_one {pl : Sem Bool} {es : List DictEntry} {n' : Nat} {h₀ : Heap} {m : Str → Option Value} {news : List (Addr × Obj)} {f : Addr} {Q : Value × List Value → Shared → Prop} (F : Fr h₀ L s.heap m) (X₀ : (KP P).In h₀) (N : News h₀ L s.heap news) (hx : (x, oneO dx a n) ∈ news) (hdx : (dx, dictOf es n') ∈ news)
    (hf : findIn (hd.heap_39 P) (.ref 68) name = some (some (.ref f))) (ht : isFn (hd.heap_39 P) (.ref f) = true) (hl : getL name es = some none) (h : Q (.ref f, [.ref x]) s) : wpAny (model prog w) A (getMethod (.ref x) name pl) Q E s := by
  have X := X₀.keeps F.keep
  have hx := (N _ hx).1
  have hd := (N _ hdx).1
  have hcan := canon_ga
  unfold getMethod specialOf
  refine wpAny_bind (wpAny_bind ((looks_oneT hx).here ((looks_findIn X (fga P)).here ?_)))
  dsimp only
  rw [hcan, if_neg (by decide)]
  refine wpAny_bind (wpAny_bind ((looks_oneT hx).here ((looks_findIn X (fgetattr P)).here ?_)))
  refine wpAny_bind (wpAny_bind ((looks_oneT hx).here ((looks_findIn X hf).here (wpAny_bind ((looks_typeIn X (beq_iff_eq.mp ht)).here ?_)))))
  rw [if_neg (by decide +kernel)]
  refine wpAny_bind (wpAny_loadPart hx ?_)
  refine wpAny_bind (wpAny_bind (wpAny_loadPart hd ?_))
  rw [nsLook_of (r := none) (by show lookIn name (dictOf es n') = some none; rw [lookIn_dict, hl])]
  exact wpAny_pure (wpAny_bind (wpAny_rule (wpAny_pure h)))
theorem notIn_T {t : Addr} {l : List (Fin 8)} {xs : List (Fin 8 × Value)} {k : Fin 8} {b : Bool} {h₀ : Heap} {m : Str → Option Value} {news : List (Addr × Obj)} {Q : Value → Shared → Prop} (K : OneTab l xs) (F : Fr h₀ L s.heap m) (X₀ : (KP P).In h₀) (N : News h₀ L s.heap news) (hm : (t, tabO w xs n) ∈ news) (ht : (t == sysModules) = false) (hu : A.units + 5 < cLine)
    (hk : decide (k ∈ l) = b) (h : ∀ tk, Q (.bool (!b)) { s with toks := tk }) : wpAny (model prog w) A (compareOp .NotIn (mV k) (.ref t)) Q E s :=
  notIn_K F X₀ N hm K.nodup ht hu fun tk => by rw [K.isSome, hk]; exact h tk
theorem isIn_T {t : Addr} {l : List (Fin 8)} {xs : List (Fin 8 × Value)} {k : Fin 8} {b : Bool} {h₀ : Heap} {m : Str → Option Value} {news : List (Addr × Obj)} {Q : Value → Shared → Prop} (K : OneTab l xs) (F : Fr h₀ L s.heap m) (X₀ : (KP P).In h₀) (N : News h₀ L s.heap news) (hm : (t, tabO w xs n) ∈ news) (ht : (t == sysModules) = false) (hu : A.units + 5 < cLine)
    (hk : decide (k ∈ l) = b) (h : ∀ tk, Q (.bool b) { s with toks := tk }) : wpAny (model prog w) A (compareOp .In (mV k) (.ref t)) Q E s :=
  isIn_K F X₀ N hm K.nodup ht hu fun tk => by rw [K.isSome, hk]; exact h tk
theorem append_T {l : List (Fin 8)} {k : Fin 8} {h₀ : Heap} {m : Str → Option Value} {news news' : List (Addr × Obj)} {Q : Value → Shared → Prop} (F : Fr h₀ L s.heap m) (X₀ : (KP P).In h₀) (N : News h₀ L s.heap news) (hz : l.length ≤ 100)
    (U : Upd x (oneL dx l n) (oneL dx (l ++ [k]) (n + 1)) news news') (h : ∀ h', Fr h₀ L h' m → News h₀ L h' news' → Q .none { s with heap := h' }) : wpAny (model prog w) A (call (.builtin "list.append") [.ref x, mV k]) Q E s :=
  have e : (l.map mV).toArray.push (mV k) = ((l ++ [k]).map mV).toArray := by simp
  append_one_K (x := x) (dx := dx) (n := n) (v := mV k) (news' := news') (a := (l.map mV).toArray) F X₀ N (by simpa using hz) (by rw [e]; exact U) h
theorem item_T {value slice : Expr} {t : Addr} {l : List (Fin 8)} {xs : List (Fin 8 × Value)} {k : Fin 8} {h₀ : Heap} {m : Str → Option Value} {news : List (Addr × Obj)} {Q : Value → Shared → Prop} (K : OneTab l xs) (F : Fr h₀ L s.heap m) (X₀ : (KP P).In h₀) (N : News h₀ L s.heap news) (hm : (t, tabO w xs n) ∈ news) (hu : A.units + 5 < cLine)
    (hk : k ∈ l) (h : ∀ tk u, Q (.int (l.idxOf k : Nat) u) { s with toks := tk })
    (hs : subscripted slice false (.ref t) (mV k) = operate [.ref t, mV k] (getItem (.ref t) (mV k)) := by with_unfolding_all rfl) : wpAny (model prog w) A (subscriptTail value slice (.ref t) (mV k)) Q E s := by
  obtain ⟨u, e⟩ := K.some hk
  exact item_K F X₀ N hm K.nodup hu e (fun tk => h tk u) hs
theorem deeper_frames {A : Around} {env e : Env} {outer : List Env} (h : A.frames = some (env :: outer)) : (A.deeper e).frames = some (e :: env :: outer) := by show A.frames.map _ = _; rw [h]; rfl
theorem deeper_units {A : Around} {e : Env} : (A.deeper e).units = A.units + 3 := rfl
def addk (k : Fin 8) (l : List (Fin 8)) : List (Fin 8) := if k ∈ l then l else l ++ [k]
theorem mem_addk {k : Fin 8} {l : List (Fin 8)} : k ∈ addk k l := by
  unfold addk
  split
  · assumption
  · simp
end
end Mine

end
section
open PySem PySem.W PyProof.Rows PySem.Calls
set_option Elab.async false
set_option maxRecDepth 100000
set_option pp.deepTerms false
namespace Mine
section
variable {prog : Program} {w : World} {A : Around} {E : Value → Shared → Prop} {s : Shared} {P : Params} {x dx : Addr} {a : Array Value} {n : Nat} {h₀ : Heap} {m : Str → Option Value} {news : List (Addr × Obj)} {env : Env} {y : Str} {body : List Stmt} {Q : Flow → Shared → Prop}
theorem iter_one_loop (hh : A.handled = none) (X₀ : (KP P).In h₀) (F : Fr h₀ env.locals s.heap m) (N : News h₀ env.locals s.heap news) (hm : (x, oneO dx a n) ∈ news) (hxL : env.locals ≠ x)
    (J : Nat → (Str → Option Value) → List (Addr × Obj) → Prop) (h0 : J 0 m news)
    (step : ∀ i v m₁ news₁ s₁ own, (∃ h tk, s₁ = { s with heap := h, toks := tk }) → a[i]? = some v → J i m₁ news₁ → (∀ p ∈ news₁, p.1 ≠ s.heap.objs.size) → (∀ p ∈ own, p.1 = s.heap.objs.size ∨ p.1 = x) →
      Fr h₀ env.locals s₁.heap (fun z => if z = y then some v else m₁ z) → News h₀ env.locals s₁.heap (own ++ news₁) →
      wpAny (model prog w) A (execs body env) (LoopStepV h₀ env.locals [s.heap.objs.size] own (J (i + 1)) s₁ (fun v s' => Q (.ret v) s') fun s' => Q .next s') E s₁)
    (done : ∀ h' tk m' news', Fr h₀ env.locals h' m' → News h₀ env.locals h' news' → J a.size m' news' → Q .next { s with heap := h', toks := tk }) :
    wpAny (model prog w) A (pyIter (.ref x)) (fun it s₂ => LoopAtV prog w A h₀ env y body Q E it s₂) E s := by
  refine one_iter (X₀.keeps F.keep) (N _ hm).1 ?_
  have hxs : x ≠ s.heap.objs.size := Nat.ne_of_lt (Heap.lt_size (N _ hm).1)
  have hls : env.locals ≠ s.heap.objs.size := Nat.ne_of_lt F.ns.lt
  have hnw : ∀ p ∈ news, p.1 ∉ [s.heap.objs.size] := fun p hp hb => Nat.ne_of_lt (Heap.lt_size (N p hp).1) (List.mem_singleton.mp hb)
  refine ⟨s.heap.objs.size, [s.heap.objs.size, x], [s.heap.objs.size], a.size, fun i v => a[i]? = some v, _, m, news, J, rfl, list_walks hh _ x hxs (oneO dx a n) a n rfl, ?_, ?_, hnw, ⟨⟨_, Heap.get?_push_size _ rfl, rfl, rfl⟩, ?_⟩, F.push _, ?_, h0, ?_, ?_⟩
  · simp [hxL, hls]
  · intro b hb
    rw [List.mem_singleton.mp hb]
    exact next_is_new F
  · exact Heap.get?_push_of_some _ (N _ hm).1
  · exact fun p hp => ⟨Heap.get?_push_of_some _ (N p hp).1, (N p hp).2⟩
  · rintro i v m₁ news₁ s₁ own hs hi hP hJ h1 h2 h3 h4 h5 F₁ N₁
    obtain ⟨hh', tk', rfl⟩ := hs
    exact step i v m₁ news₁ _ own ⟨_, _, rfl⟩ hP hJ (fun p hp q => h1 p hp (by simp [q])) (fun p hp => by have := h2 p hp; simpa using this) F₁ N₁
  · exact fun h' tk m' news' F' N' _ hJ => done h' tk m' news' F' N' hJ
end
section
variable {prog : Program} {w : World} {A : Around} {E : Value → Shared → Prop} {s : Shared} {P : Params} {x dx t d L : Addr} {a : Array Value} {n n' : Nat} {h₀ : Heap} {m : Str → Option Value} {news news' : List (Addr × Obj)} {h1 h2 : Int} {t1 t2 : Tok} {b c : Bool} {Q : Unit → Shared → Prop}
theorem set_clean (F : Fr h₀ L s.heap m) (X₀ : (KP P).In h₀) (N : News h₀ L s.heap news) (hx : (x, oneO dx a n) ∈ news) (hdx : (dx, oneD h1 h2 t1 t2 b t n') ∈ news) (U : Upd dx (oneD h1 h2 t1 t2 b t n') (oneD h1 h2 t1 t2 c t n') news news')
    (h : ∀ h', Fr h₀ L h' m → News h₀ L h' news' → Q () { s with heap := h', toks := s.toks + 2 }) : wpAny (model prog w) A (setAttr (.ref x) "clean" (.bool c)) Q E s :=
  set_one F X₀ N (inst_seq N hx hdx) rfl (ftake1 P) rfl rfl U (Nat.le_of_ble_eq_true rfl) h
theorem set_tabd (F : Fr h₀ L s.heap m) (X₀ : (KP P).In h₀) (N : News h₀ L s.heap news) (hx : (x, oneO dx a n) ∈ news) (hdx : (dx, oneD h1 h2 t1 t2 b t n') ∈ news) (U : Upd dx (oneD h1 h2 t1 t2 b t n') (oneD h1 h2 t1 t2 b d n') news news')
    (h : ∀ h', Fr h₀ L h' m → News h₀ L h' news' → Q () { s with heap := h', toks := s.toks + 2 }) : wpAny (model prog w) A (setAttr (.ref x) "_dict" (.ref d)) Q E s :=
  set_one F X₀ N (inst_seq N hx hdx) rfl (ftake2 P) rfl rfl U (Nat.le_of_ble_eq_true rfl) h
theorem newTab {env : Env} {pos : Pos} {p : Program} {loose : List Str} {mean : ExcName → Option Value} {mg mb : Str → Option Value} {Q : Value → Shared → Prop} (F : Fr h₀ L s.heap m) (N : News h₀ L s.heap news) (T : Top p loose mean mg mb h₀)
    (k : ∀ d h', Fr h₀ L h' m → News h₀ L h' ((d, tabO w [] 0) :: news) → (∀ p ∈ news, p.1 < d) → (d == sysModules) = false → Q (.ref d) { s with heap := h' }) : wpAny (model prog w) A (eval (.Dict [] [] pos) env) Q E s :=
  newDict_M F N T.nolimit k
end
theorem lt_ne {a b c : Addr × Obj} {r : List (Addr × Obj)} {d : Addr} (h : ∀ p ∈ a :: b :: c :: r, p.1 < d) : ∀ p ∈ r, p.1 ≠ d := fun p hp => Nat.ne_of_lt (h p (.tail _ (.tail _ (.tail _ hp))))
theorem lt1 {a : Addr × Obj} {r : List (Addr × Obj)} {d : Addr} (h : ∀ p ∈ a :: r, p.1 < d) : a.1 ≠ d ∧ ∀ p ∈ r, p.1 < d := ⟨Nat.ne_of_lt (h _ (.head _)), fun p hp => h p (.tail _ hp)⟩
theorem news_swap {h₀ h : Heap} {L : Addr} {own a r : List (Addr × Obj)} (N : News h₀ L h (own ++ (a ++ r))) : News h₀ L h (a ++ (r ++ own)) := fun p hp => N p (by
  simp only [List.mem_append] at hp ⊢
  rcases hp with h | h | h
  · exact .inr (.inl h)
  · exact .inr (.inr h)
  · exact .inl h)
theorem news_back {h₀ h : Heap} {L : Addr} {own a r : List (Addr × Obj)} (N : News h₀ L h (a ++ (r ++ own))) : News h₀ L h (own ++ (a ++ r)) := fun p hp => N p (by
  simp only [List.mem_append] at hp ⊢
  rcases hp with h | h | h
  · exact .inr (.inr h)
  · exact .inl h
  · exact .inr (.inl h))
theorem nodup_not_take {l : List (Fin 8)} {i : Nat} (hn : l.Nodup) (h : i < l.length) : l[i] ∉ l.take i := by
  intro hm
  have e : l = l.take i ++ l[i] :: l.drop (i + 1) := by rw [List.getElem_cons_drop, List.take_append_drop]
  rw [e] at hn
  exact (List.nodup_append.mp hn).2.2 _ hm _ (.head _) rfl
end Mine

end
section
open PySem PySem.W PyProof.Rows
set_option Elab.async false
set_option pp.deepTerms false
set_option pp.proofs false
set_option maxRecDepth 100000
set_option maxHeartbeats 8000000
set_option linter.unusedVariables false
namespace Mine

local macro_rules | `(tactic| k_inst) => `(tactic| (refine' inst_seq ?N ?h1 ?h2; (case N => k_asm); (case h1 => k_mem); (case h2 => k_mem)))
local macro_rules | `(tactic| k_room) => `(tactic| ((try simp only [depth_under_make, depth_under_kw, depth_in1, depth_deeper, depth_caller]); omega))
local macro_rules | `(tactic| k_units) => `(tactic| ((try simp only [PySem.Around.in1_units, Mine.deeper_units]); omega))
local macro_rules | `(tactic| k_all) => `(tactic| assumption)
local macro_rules | `(tactic| k_ne) => `(tactic| (first | assumption | exact Ne.symm (by assumption)))
local macro_rules | `(tactic| walk_at "getAttr ref") => `(tactic| (k_here; k_dflt (refine' get_own1 ?k1 ?k2 ?k3 ?k4 ?k5 ?k6 ?k7 ?k8 ?k9 ?_; (case k1 => k_asm); (case k2 => k_asm); (case k3 => k_asm); (case k4 => k_mem); (case k5 => k_mem); (case k6 => k_is); (case k7 => k_is); (case k8 => k_get); (case k9 => k_handed); k_whole)))
local macro_rules | `(tactic| walk_at "getMethod ref") => `(tactic| (k_here; k_dflt (refine' method_one ?k1 ?k2 ?k3 ?k4 ?k5 ?k6 ?k7 ?k8 ?_; (case k1 => k_asm); (case k2 => k_asm); (case k3 => k_asm); (case k4 => k_mem); (case k5 => k_mem); (case k6 => k_is); (case k7 => k_is); (case k8 => k_get); k_whole)))
local macro_rules | `(tactic| walk_at "compareOp NotIn") => `(tactic| (k_here; k_dflt (refine' notIn_T ?k0 ?k1 ?k2 ?k3 ?k4 ?k6 ?k7 ?k8 ?_; (case k8 => first | exact decide_eq_true (by assumption) | exact decide_eq_false (by assumption) | exact rfl); (case k1 => k_asm); (case k2 => k_asm); (case k3 => k_asm); (case k4 => k_mem); (case k0 => assumption); (case k6 => k_asm); (case k7 => k_units); k_whole); intro tk'; (try simp only [Bool.not_true, Bool.not_false])))
local macro_rules | `(tactic| walk_at "compareOp In") => `(tactic| (k_here; k_dflt (refine' isIn_T ?k0 ?k1 ?k2 ?k3 ?k4 ?k6 ?k7 ?k8 ?_; (case k8 => first | exact decide_eq_true (by assumption) | exact decide_eq_false (by assumption) | exact rfl); (case k1 => k_asm); (case k2 => k_asm); (case k3 => k_asm); (case k4 => k_mem); (case k0 => assumption); (case k6 => k_asm); (case k7 => k_units); k_whole); intro tk'; (try simp only [Bool.not_true, Bool.not_false])))
local macro_rules | `(tactic| walk_at "setItem ref int") => `(tactic| (k_here; k_dflt (refine' store_K ?k1 ?k2 ?k3 ?k4 ?k5 ?k6 ?k7 ?k8 ?_; (case k1 => k_asm); (case k2 => k_asm); (case k3 => k_asm); (case k8 => k_upd); (case k4 => exact OneTab.nodup (by assumption)); (case k5 => k_units); (case k6 => first | assumption | exact OneTab.none (by assumption) (by assumption)); (case k7 => exact OneTab.le' (by assumption)); k_whole); intro h' tk' F' N'; (try k_sweep)))
local macro_rules | `(tactic| walk_at "call builtin:len") => `(tactic| (k_here; k_dflt (refine' len_one_K ?k1 ?k2 ?k3 ?k4 ?k5 ?_; (case k1 => k_asm); (case k2 => k_asm); (case k3 => k_asm); (case k4 => k_mem); (case k5 => simp only [List.size_toArray, List.length_map]; have := OneTab.le (by assumption); omega); k_whole); intro tk' u'; (try simp only [List.size_toArray, List.length_map])))
local macro_rules | `(tactic| walk_at "call builtin:list.append") => `(tactic| (k_here; k_dflt (refine' append_T ?k1 ?k2 ?k3 ?k4 ?k5 ?_; (case k1 => k_asm); (case k2 => k_asm); (case k3 => k_asm); (case k5 => k_upd); (case k4 => have := OneTab.le (by assumption); omega); k_whole); intro h' F' N'; (try k_sweep)))
local macro_rules | `(tactic| walk_at "getMethod type:list") => `(tactic| (k_here; refine' method_type ?F ?X ?m (by decide +kernel) ?e ?h ?_; (case F => k_asm); (case X => k_asm); (case m => exact meta_list); (case e => k_dflt k_is); (case h => k_handed)))
local macro_rules | `(tactic| walk_at "subscriptTail") => `(tactic| (k_here; k_dflt (refine' item_T ?k0 ?k1 ?k2 ?k3 ?k4 ?k5 ?k6 ?_; (case k1 => k_asm); (case k2 => k_asm); (case k3 => k_asm); (case k4 => k_mem); (case k0 => assumption); (case k5 => k_units); (case k6 => first | assumption | exact mem_addk); k_whole); intro tk' u'))

theorem append_c {A₀ : Around} {base h₀ : Heap} {outer : List Env} {env : Env} {L : Addr} {m mg mb : Str → Option Value} {p : Program} {loose : List Str} {mean : ExcName → Option Value} {s : Shared} {w : World} {A : Around}
  {x dx t : Addr} {h1 h2 : Int} {t1 t2 : Tok} {b : Bool} {n1 n2 n3 : Nat} {l : List (Fin 8)} {xs : List (Fin 8 × Value)} {rest : List (Addr × Obj)} {k : Fin 8} {Q : Value → Shared → Prop} {E : Value → Shared → Prop}
  (B : Below A₀ base outer h₀) (F : Fr h₀ L s.heap m) (X₀ : (hd.heap_39 w.params).In h₀)
  (N : News h₀ L s.heap ((x, oneL dx l n1) :: (dx, oneD h1 h2 t1 t2 b t n2) :: (t, tabO w xs n3) :: rest))
  (K : OneTab l xs) (hne : (t == sysModules) = false) (d1 : x ≠ dx) (d2 : x ≠ t) (d3 : dx ≠ t) (r1 : ∀ p ∈ rest, p.1 ≠ x) (r2 : ∀ p ∈ rest, p.1 ≠ dx) (r3 : ∀ p ∈ rest, p.1 ≠ t)
  (T : Top p loose mean mg mb h₀) (hA : A.frames = some (env :: outer)) (hf : env.frame = some L) (hke : env.scope.kind = .function) (hh : A.handled = none) (hd : A.depth + 20 < recursionLimit) (hu : A.units + 200 < cLine)
  (h : ∀ h' tk xs' n1' n3', OneTab (addk k l) xs' → Fr h₀ L h' m → News h₀ L h' ((x, oneL dx (addk k l) n1') :: (dx, oneD h1 h2 t1 t2 b t n2) :: (t, tabO w xs' n3') :: rest) → Q .none { s with heap := h', toks := tk })
  : wpAny (model Challenge.rw_ww0011_01.row.prog w) A (call (.ref 58) [.ref x, mV k]) Q E s := by
  revert X₀
  k_fill
  intro X₀
  refine wpAny_call ?_
  refine code_def B F X₀ N T hA hf hke (by k_is) (by k_is) (by omega) (BindsTo.of_eq rfl) (locs rfl) ?_ rfl rfl rfl (by decide)
  intro g' L' h' FG' F' N' B' X' T'
  (try dsimp only)
  (try k_fold)
  by_cases hk : k ∈ l
  · unfold addk at h
    rw [if_pos hk] at h
    k_steps
    exact h _ _ _ _ _ K (by assumption) (by assumption)
  · unfold addk at h
    rw [if_neg hk] at h
    k_steps
    exact h _ _ _ _ _ (K.push hk) (by assumption) (by assumption)
local macro_rules | `(tactic| walk_at "call ref") => `(tactic| (k_here; k_dflt (refine' append_c ?k1 ?k2 ?k3 ?k4 ?k5 ?k6 ?k7 ?k8 ?k9 ?k10 ?k11 ?k12 ?k13 ?kA ?kB ?kC ?k14 ?k15 ?k16 ?_; (case k1 => k_asm); (case k2 => k_asm); (case k3 => k_asm); (case k4 => k_asm); (case k5 => k_asm); (case k6 => k_asm); (case k7 => k_asm); (case k8 => k_asm); (case k9 => k_asm); (case k10 => k_asm); (case k11 => k_asm); (case k12 => k_asm); (case k13 => k_asm); (case kA => first | exact rfl | exact deeper_frames (by assumption)); (case kB => exact rfl); (case kC => exact rfl); (case k14 => first | assumption | exact rfl); (case k15 => k_room); (case k16 => k_units); k_whole; intro h' tk' xs' n1' n3' K' F' N'; (try k_sweep))))
theorem add_c {A₀ : Around} {base h₀ : Heap} {outer : List Env} {env : Env} {L : Addr} {m mg mb : Str → Option Value} {p : Program} {loose : List Str} {mean : ExcName → Option Value} {s : Shared} {w : World} {A : Around}
  {x dx t : Addr} {h1 h2 : Int} {t1 t2 : Tok} {b : Bool} {n1 n2 n3 : Nat} {l : List (Fin 8)} {xs : List (Fin 8 × Value)} {rest : List (Addr × Obj)} {k : Fin 8} {Q : Value → Shared → Prop} {E : Value → Shared → Prop}
  (B : Below A₀ base outer h₀) (F : Fr h₀ L s.heap m) (X₀ : (hd.heap_39 w.params).In h₀)
  (N : News h₀ L s.heap ((x, oneL dx l n1) :: (dx, oneD h1 h2 t1 t2 b t n2) :: (t, tabO w xs n3) :: rest))
  (K : OneTab l xs) (hne : (t == sysModules) = false) (d1 : x ≠ dx) (d2 : x ≠ t) (d3 : dx ≠ t) (r1 : ∀ p ∈ rest, p.1 ≠ x) (r2 : ∀ p ∈ rest, p.1 ≠ dx) (r3 : ∀ p ∈ rest, p.1 ≠ t)
  (T : Top p loose mean mg mb h₀) (hA : A.frames = some (env :: outer)) (hf : env.frame = some L) (hke : env.scope.kind = .function) (hh : A.handled = none) (hd : A.depth + 40 < recursionLimit) (hu : A.units + 300 < cLine)
  (h : ∀ h' tk u xs' n1' n3', OneTab (addk k l) xs' → Fr h₀ L h' m → News h₀ L h' ((x, oneL dx (addk k l) n1') :: (dx, oneD h1 h2 t1 t2 b t n2) :: (t, tabO w xs' n3') :: rest) → Q (.int ((addk k l).idxOf k : Nat) u) { s with heap := h', toks := tk })
  : wpAny (model Challenge.rw_ww0011_01.row.prog w) A (call (.ref 65) [.ref x, mV k]) Q E s := by
  revert X₀
  k_fill
  intro X₀
  refine wpAny_call ?_
  refine code_def B F X₀ N T hA hf hke (by k_is) (by k_is) (by omega) (BindsTo.of_eq rfl) (locs rfl) ?_ rfl rfl rfl (by decide)
  intro g' L' h' FG' F' N' B' X' T'
  (try dsimp only)
  (try k_fold)
  k_steps
  exact h _ _ _ _ _ _ (by assumption) (by assumption) (by assumption)
end Mine

end
section
open PySem PySem.W PyProof.Rows
set_option Elab.async false
set_option pp.deepTerms false
set_option pp.proofs false
set_option maxRecDepth 100000
set_option maxHeartbeats 8000000
set_option linter.unusedVariables false
namespace Mine

local macro_rules | `(tactic| k_inst) => `(tactic| (refine' inst_seq ?N ?h1 ?h2; (case N => k_asm); (case h1 => k_mem); (case h2 => k_mem)))
local macro_rules | `(tactic| k_room) => `(tactic| ((try simp only [depth_under_make, depth_under_kw, depth_in1, depth_deeper, depth_caller]); omega))
local macro_rules | `(tactic| k_units) => `(tactic| ((try simp only [PySem.Around.in1_units, Mine.deeper_units]); omega))
local macro_rules | `(tactic| k_all) => `(tactic| assumption)
local macro_rules | `(tactic| k_ne) => `(tactic| (first | assumption | exact Ne.symm (by assumption)))
local macro_rules | `(tactic| walk_at "getAttr ref") => `(tactic| (k_here; k_dflt (refine' get_own1 ?k1 ?k2 ?k3 ?k4 ?k5 ?k6 ?k7 ?k8 ?k9 ?_; (case k1 => k_asm); (case k2 => k_asm); (case k3 => k_asm); (case k4 => k_mem); (case k5 => k_mem); (case k6 => k_is); (case k7 => k_is); (case k8 => k_get); (case k9 => k_handed); k_whole)))
local macro_rules | `(tactic| walk_at "getMethod ref") => `(tactic| (k_here; k_dflt (refine' method_one ?k1 ?k2 ?k3 ?k4 ?k5 ?k6 ?k7 ?k8 ?_; (case k1 => k_asm); (case k2 => k_asm); (case k3 => k_asm); (case k4 => k_mem); (case k5 => k_mem); (case k6 => k_is); (case k7 => k_is); (case k8 => k_get); k_whole)))
local macro_rules | `(tactic| walk_at "compareOp NotIn") => `(tactic| (k_here; k_dflt (refine' notIn_T ?k0 ?k1 ?k2 ?k3 ?k4 ?k6 ?k7 ?k8 ?_; (case k8 => first | exact decide_eq_true (by assumption) | exact decide_eq_false (by assumption) | exact rfl); (case k1 => k_asm); (case k2 => k_asm); (case k3 => k_asm); (case k4 => k_mem); (case k0 => assumption); (case k6 => k_asm); (case k7 => k_units); k_whole); intro tk'; (try simp only [Bool.not_true, Bool.not_false])))
local macro_rules | `(tactic| walk_at "compareOp In") => `(tactic| (k_here; k_dflt (refine' isIn_T ?k0 ?k1 ?k2 ?k3 ?k4 ?k6 ?k7 ?k8 ?_; (case k8 => first | exact decide_eq_true (by assumption) | exact decide_eq_false (by assumption) | exact rfl); (case k1 => k_asm); (case k2 => k_asm); (case k3 => k_asm); (case k4 => k_mem); (case k0 => assumption); (case k6 => k_asm); (case k7 => k_units); k_whole); intro tk'; (try simp only [Bool.not_true, Bool.not_false])))
local macro_rules | `(tactic| walk_at "setItem ref int") => `(tactic| (k_here; k_dflt (refine' store_K ?k1 ?k2 ?k3 ?k4 ?k5 ?k6 ?k7 ?k8 ?_; (case k1 => k_asm); (case k2 => k_asm); (case k3 => k_asm); (case k8 => k_upd); (case k4 => exact OneTab.nodup (by assumption)); (case k5 => k_units); (case k6 => first | assumption | exact OneTab.none (by assumption) (by assumption)); (case k7 => exact OneTab.le' (by assumption)); k_whole); intro h' tk' F' N'; (try k_sweep)))
local macro_rules | `(tactic| walk_at "call builtin:len") => `(tactic| (k_here; k_dflt (refine' len_one_K ?k1 ?k2 ?k3 ?k4 ?k5 ?_; (case k1 => k_asm); (case k2 => k_asm); (case k3 => k_asm); (case k4 => k_mem); (case k5 => simp only [List.size_toArray, List.length_map]; have := OneTab.le (by assumption); omega); k_whole); intro tk' u'; (try simp only [List.size_toArray, List.length_map])))
local macro_rules | `(tactic| walk_at "call builtin:list.append") => `(tactic| (k_here; k_dflt (refine' append_T ?k1 ?k2 ?k3 ?k4 ?k5 ?_; (case k1 => k_asm); (case k2 => k_asm); (case k3 => k_asm); (case k5 => k_upd); (case k4 => have := OneTab.le (by assumption); omega); k_whole); intro h' F' N'; (try k_sweep)))
local macro_rules | `(tactic| walk_at "getMethod type:list") => `(tactic| (k_here; refine' method_type ?F ?X ?m (by decide +kernel) ?e ?h ?_; (case F => k_asm); (case X => k_asm); (case m => exact meta_list); (case e => k_dflt k_is); (case h => k_handed)))
local macro_rules | `(tactic| walk_at "subscriptTail") => `(tactic| (k_here; k_dflt (refine' item_T ?k0 ?k1 ?k2 ?k3 ?k4 ?k5 ?k6 ?_; (case k1 => k_asm); (case k2 => k_asm); (case k3 => k_asm); (case k4 => k_mem); (case k0 => assumption); (case k5 => k_units); (case k6 => first | assumption | exact mem_addk); k_whole); intro tk' u'))

local macro_rules | `(tactic| walk_at "eval Dict nil nil") => `(tactic| (k_here; k_dflt (refine' newTab ?k1 ?k2 ?k3 ?_; (case k1 => k_asm); (case k2 => k_asm); (case k3 => k_asm); k_whole); intro d' h' F' N' l1 ne'; have q1 := lt1 l1; have q2 := lt1 q1.2; have q3 := lt1 q2.2; have q4 := lt_ne l1; replace q1 := q1.1; replace q2 := q2.1; replace q3 := q3.1; clear l1; dsimp only at q1 q2 q3; (try k_sweep)))
local macro_rules | `(tactic| walk_at "setAttr ref") => `(tactic| (k_here; k_dflt (refine' set_tabd ?k1 ?k2 ?k3 ?k4 ?k5 ?k6 ?_; (case k1 => k_asm); (case k2 => k_asm); (case k3 => k_asm); (case k4 => k_mem); (case k5 => k_mem); (case k6 => k_upd); k_whole; intro h' F' N'; (try k_sweep))))
local macro_rules | `(tactic| walk_at "setAttr ref") => `(tactic| (k_here; k_dflt (refine' set_clean ?k1 ?k2 ?k3 ?k4 ?k5 ?k6 ?_; (case k1 => k_asm); (case k2 => k_asm); (case k3 => k_asm); (case k4 => k_mem); (case k5 => k_mem); (case k6 => k_upd); k_whole; intro h' F' N'; (try k_sweep))))
local macro_rules | `(tactic| walk_at "eval Name") => `(tactic| (k_here; k_dflt (refine' ld ?k1 ?k2 ?_; (case k1 => k_asm); (case k2 => first | exact rfl | (repeat (first | exact if_pos rfl | assumption | refine (if_neg (by decide)).trans ?_))); k_whole)))
local macro_rules | `(tactic| walk_at "loadName") => `(tactic| (k_here; k_dflt (refine' ldn ?k1 ?k2 ?_; (case k1 => k_asm); (case k2 => first | exact rfl | (repeat (first | exact if_pos rfl | assumption | refine (if_neg (by decide)).trans ?_))); k_whole)))
theorem rebuild_c {A₀ : Around} {base h₀ : Heap} {outer : List Env} {env : Env} {L : Addr} {m mg mb : Str → Option Value} {p : Program} {loose : List Str} {mean : ExcName → Option Value} {s : Shared} {w : World} {A : Around}
  {x dx t : Addr} {h1 h2 : Int} {t1 t2 : Tok} {b : Bool} {n1 n2 n3 : Nat} {l : List (Fin 8)} {xs : List (Fin 8 × Value)} {rest : List (Addr × Obj)} {Q : Value → Shared → Prop} {E : Value → Shared → Prop}
  (B : Below A₀ base outer h₀) (F : Fr h₀ L s.heap m) (X₀ : (hd.heap_39 w.params).In h₀)
  (N : News h₀ L s.heap ((x, oneL dx l n1) :: (dx, oneD h1 h2 t1 t2 b t n2) :: (t, tabO w xs n3) :: rest))
  (K : OneTab l xs) (hne : (t == sysModules) = false) (d1 : x ≠ dx) (d2 : x ≠ t) (d3 : dx ≠ t) (r1 : ∀ p ∈ rest, p.1 ≠ x) (r2 : ∀ p ∈ rest, p.1 ≠ dx) (r3 : ∀ p ∈ rest, p.1 ≠ t)
  (T : Top p loose mean mg mb h₀) (hA : A.frames = some (env :: outer)) (hf : env.frame = some L) (hke : env.scope.kind = .function) (hh : A.handled = none) (hd : A.depth + 20 < recursionLimit) (hu : A.units + 200 < cLine)
  (h : ∀ h' tk t' xs' t1' t2' n2' n3', OneTab l xs' → (t' == sysModules) = false → x ≠ t' → dx ≠ t' → (∀ p ∈ rest, p.1 ≠ t') → Fr h₀ L h' m → News h₀ L h' ((x, oneL dx l n1) :: (dx, oneD h1 h2 t1' t2' true t' n2') :: (t', tabO w xs' n3') :: rest) → Q .none { s with heap := h', toks := tk })
  : wpAny (model Challenge.rw_ww0011_01.row.prog w) A (call (.ref 37) [.ref x]) Q E s := by
  revert X₀
  k_fill
  intro X₀
  refine wpAny_call ?_
  refine code_def B F X₀ N T hA hf hke (by k_is) (by k_is) (by omega) (BindsTo.of_eq rfl) (locs rfl) ?_ rfl rfl rfl (by decide)
  intro g' L' h' FG' F' N' B' X' T'
  (try dsimp only)
  (try k_fold)
  k_steps
  rename Fr _ _ _ _ => F2
  rename News _ _ _ _ => N2
  rename Addr => d
  refine For_invVF F2 (by rfl) (by rfl) ?_
  k_steps
  rename (d == sysModules) = false => hnd
  refine iter_one_loop (by first | assumption | exact hh) (by assumption) F2 N2 (List.Mem.tail _ (List.Mem.head _)) ?_
    (fun i m₁ news₁ => ∃ xs' n' u, OneTab (l.take i) xs' ∧ m₁ "self" = some (.ref x) ∧ m₁ "idx" = some (.int ((i : Nat) : Int) u) ∧ news₁ = (d, tabO w xs' n') :: (x, oneL dx l n1) :: (dx, oneD h1 h2 t1 t2 b d n2) :: (t, tabO w xs n3) :: rest) ?_ ?_ ?_
  · exact Ne.symm (N2 _ (List.Mem.tail _ (List.Mem.head _))).2.1
  · exact ⟨[], 0, _, OneTab.nil, rfl, rfl, rfl⟩
  · rintro i v m₁ news₁ s₁ own ⟨hp', tk', rfl⟩ hv ⟨xs', n', u, K', hm1, hm2, rfl⟩ hnew hown F4 N4
    have hlt : i < l.length := by
      refine Decidable.byContradiction fun hc => ?_
      rw [Array.getElem?_eq_none (by simp; omega)] at hv
      cases hv
    obtain rfl : mV l[i] = v := by simpa [hlt] using hv
    have hk := nodup_not_take K.nd hlt
    have hT : l.take (i + 1) = l.take i ++ [l[i]] := by rw [List.take_succ]; simp [hlt]
    rw [hT]
    have hlen : (l.take i).length = i := by simp; omega
    generalize l[i] = k at hk F4 ⊢
    have N5 : News g' L' hp' ([(d, tabO w xs' n'), (x, oneL dx l n1), (dx, oneD h1 h2 t1 t2 b d n2), (t, tabO w xs n3)] ++ (rest ++ own)) := news_swap N4
    have q7 : ∀ p ∈ rest ++ own, p.1 ≠ d := by
      intro p hp
      rcases List.mem_append.mp hp with hp | hp
      · rename ∀ p ∈ rest, p.1 ≠ d => q5
        exact q5 p hp
      · rcases hown p hp with e | e
        · exact fun q => hnew _ (List.Mem.head _) (q.symm.trans e)
        · rename x ≠ d => q6
          exact fun q => q6 (e.symm.trans q)
    obtain ⟨R, hR⟩ : ∃ R, R = rest ++ own := ⟨_, rfl⟩
    rw [← hR] at N5 q7
    simp only [List.cons_append, List.nil_append] at N5
    clear F N F2 N2 N4
    k_steps
    rename Fr _ _ _ _ => F9
    rename News _ _ _ _ => N9
    subst hR
    refine LoopStepU.intro (news₂ := [_, _, _, _] ++ rest) F9 (news_back (a := [_, _, _, _]) N9) ?_ ?_
    · intro p hp
      have hp' : p.1 = d ∨ p ∈ (d, tabO w xs' n') :: (x, oneL dx l n1) :: (dx, oneD h1 h2 t1 t2 b d n2) :: (t, tabO w xs n3) :: rest := by
        simp only [List.cons_append, List.nil_append, List.mem_cons] at hp ⊢
        rcases hp with rfl | hp
        · exact .inl rfl
        · exact .inr (.inr hp)
      rcases hp' with e | hp'
      · rw [e, List.mem_singleton]; exact hnew _ (List.Mem.head _)
      · rw [List.mem_singleton]; exact hnew p hp'
    · refine' ⟨_, _, _, ?a, ?b, ?c, rfl⟩
      case c => exact if_pos rfl
      case b => exact (if_neg (by decide)).trans ((if_neg (by decide)).trans hm1)
      case a =>
        have := OneTab.push (u := u) K' hk
        rw [hlen] at this
        exact this
  · intro h' tk' m' news' F4 N4 hJ
    obtain ⟨xs', n', u, K', hm1, hm2, rfl⟩ := hJ
    k_steps
    rename Fr _ _ _ _ => F9
    rename News _ _ _ _ => N9
    have e : l.take (l.map mV).toArray.size = l := by simp
    rw [e] at K'
    refine h _ _ d xs' t1 t2 n2 n' K' hnd (by assumption) (by assumption) (by assumption) F9 fun p hp => N9 p ?_
    rcases hp with _ | ⟨_, _ | ⟨_, _ | ⟨_, hp⟩⟩⟩
    · exact List.Mem.tail _ (List.Mem.head _)
    · exact List.Mem.tail _ (List.Mem.tail _ (List.Mem.head _))
    · exact List.Mem.head _
    · exact List.Mem.tail _ (List.Mem.tail _ (List.Mem.tail _ (List.Mem.tail _ hp)))
end Mine

end
section
open PySem PySem.W PyProof.Rows
set_option Elab.async false
set_option pp.deepTerms false
set_option pp.proofs false
set_option maxRecDepth 100000
set_option maxHeartbeats 8000000
set_option linter.unusedVariables false
namespace Mine

local macro_rules | `(tactic| k_inst) => `(tactic| (refine' inst_seq ?N ?h1 ?h2; (case N => k_asm); (case h1 => k_mem); (case h2 => k_mem)))
local macro_rules | `(tactic| k_room) => `(tactic| ((try simp only [depth_under_make, depth_under_kw, depth_in1, depth_deeper, depth_caller]); omega))
local macro_rules | `(tactic| k_units) => `(tactic| ((try simp only [PySem.Around.in1_units, Mine.deeper_units]); omega))
local macro_rules | `(tactic| k_all) => `(tactic| assumption)
local macro_rules | `(tactic| k_ne) => `(tactic| (first | assumption | exact Ne.symm (by assumption)))
local macro_rules | `(tactic| walk_at "getAttr ref") => `(tactic| (k_here; k_dflt (refine' get_own1 ?k1 ?k2 ?k3 ?k4 ?k5 ?k6 ?k7 ?k8 ?k9 ?_; (case k1 => k_asm); (case k2 => k_asm); (case k3 => k_asm); (case k4 => k_mem); (case k5 => k_mem); (case k6 => k_is); (case k7 => k_is); (case k8 => k_get); (case k9 => k_handed); k_whole)))
local macro_rules | `(tactic| walk_at "getMethod ref") => `(tactic| (k_here; k_dflt (refine' method_one ?k1 ?k2 ?k3 ?k4 ?k5 ?k6 ?k7 ?k8 ?_; (case k1 => k_asm); (case k2 => k_asm); (case k3 => k_asm); (case k4 => k_mem); (case k5 => k_mem); (case k6 => k_is); (case k7 => k_is); (case k8 => k_get); k_whole)))
local macro_rules | `(tactic| walk_at "compareOp NotIn") => `(tactic| (k_here; k_dflt (refine' notIn_T ?k0 ?k1 ?k2 ?k3 ?k4 ?k6 ?k7 ?k8 ?_; (case k8 => first | exact decide_eq_true (by assumption) | exact decide_eq_false (by assumption) | exact rfl); (case k1 => k_asm); (case k2 => k_asm); (case k3 => k_asm); (case k4 => k_mem); (case k0 => assumption); (case k6 => k_asm); (case k7 => k_units); k_whole); intro tk'; (try simp only [Bool.not_true, Bool.not_false])))
local macro_rules | `(tactic| walk_at "compareOp In") => `(tactic| (k_here; k_dflt (refine' isIn_T ?k0 ?k1 ?k2 ?k3 ?k4 ?k6 ?k7 ?k8 ?_; (case k8 => first | exact decide_eq_true (by assumption) | exact decide_eq_false (by assumption) | exact rfl); (case k1 => k_asm); (case k2 => k_asm); (case k3 => k_asm); (case k4 => k_mem); (case k0 => assumption); (case k6 => k_asm); (case k7 => k_units); k_whole); intro tk'; (try simp only [Bool.not_true, Bool.not_false])))
local macro_rules | `(tactic| walk_at "setItem ref int") => `(tactic| (k_here; k_dflt (refine' store_K ?k1 ?k2 ?k3 ?k4 ?k5 ?k6 ?k7 ?k8 ?_; (case k1 => k_asm); (case k2 => k_asm); (case k3 => k_asm); (case k8 => k_upd); (case k4 => exact OneTab.nodup (by assumption)); (case k5 => k_units); (case k6 => first | assumption | exact OneTab.none (by assumption) (by assumption)); (case k7 => exact OneTab.le' (by assumption)); k_whole); intro h' tk' F' N'; (try k_sweep)))
local macro_rules | `(tactic| walk_at "call builtin:len") => `(tactic| (k_here; k_dflt (refine' len_one_K ?k1 ?k2 ?k3 ?k4 ?k5 ?_; (case k1 => k_asm); (case k2 => k_asm); (case k3 => k_asm); (case k4 => k_mem); (case k5 => simp only [List.size_toArray, List.length_map]; have := OneTab.le (by assumption); omega); k_whole); intro tk' u'; (try simp only [List.size_toArray, List.length_map])))
local macro_rules | `(tactic| walk_at "call builtin:list.append") => `(tactic| (k_here; k_dflt (refine' append_T ?k1 ?k2 ?k3 ?k4 ?k5 ?_; (case k1 => k_asm); (case k2 => k_asm); (case k3 => k_asm); (case k5 => k_upd); (case k4 => have := OneTab.le (by assumption); omega); k_whole); intro h' F' N'; (try k_sweep)))
local macro_rules | `(tactic| walk_at "getMethod type:list") => `(tactic| (k_here; refine' method_type ?F ?X ?m (by decide +kernel) ?e ?h ?_; (case F => k_asm); (case X => k_asm); (case m => exact meta_list); (case e => k_dflt k_is); (case h => k_handed)))
local macro_rules | `(tactic| walk_at "subscriptTail") => `(tactic| (k_here; k_dflt (refine' item_T ?k0 ?k1 ?k2 ?k3 ?k4 ?k5 ?k6 ?_; (case k1 => k_asm); (case k2 => k_asm); (case k3 => k_asm); (case k4 => k_mem); (case k0 => assumption); (case k5 => k_units); (case k6 => first | assumption | exact mem_addk); k_whole); intro tk' u'))

local macro_rules | `(tactic| walk_at "call ref") => `(tactic| (k_here; k_dflt (refine' rebuild_c ?k1 ?k2 ?k3 ?k4 ?k5 ?k6 ?k7 ?k8 ?k9 ?k10 ?k11 ?k12 ?k13 ?kA ?kB ?kC ?k14 ?k15 ?k16 ?_; (case k1 => k_asm); (case k2 => k_asm); (case k3 => k_asm); (case k4 => k_asm); (case k5 => k_asm); (case k6 => k_asm); (case k7 => k_asm); (case k8 => k_asm); (case k9 => k_asm); (case k10 => k_asm); (case k11 => k_asm); (case k12 => k_asm); (case k13 => k_asm); (case kA => first | exact rfl | exact deeper_frames (by assumption) | exact deeper_frames (deeper_frames (by assumption))); (case kB => exact rfl); (case kC => exact rfl); (case k14 => first | assumption | exact rfl); (case k15 => k_room); (case k16 => k_units); k_whole; intro h' tk' t' xs' t1' t2' n2' n3' K' ne' e1 e2 e3 F' N'; (try k_sweep))))
theorem contains_c {A₀ : Around} {base h₀ : Heap} {outer : List Env} {env : Env} {L : Addr} {m mg mb : Str → Option Value} {p : Program} {loose : List Str} {mean : ExcName → Option Value} {s : Shared} {w : World} {A : Around}
  {x dx t : Addr} {h1 h2 : Int} {t1 t2 : Tok} {b : Bool} {n1 n2 n3 : Nat} {l : List (Fin 8)} {xs : List (Fin 8 × Value)} {rest : List (Addr × Obj)} {k : Fin 8} {Q : Value → Shared → Prop} {E : Value → Shared → Prop}
  (B : Below A₀ base outer h₀) (F : Fr h₀ L s.heap m) (X₀ : (hd.heap_39 w.params).In h₀)
  (N : News h₀ L s.heap ((x, oneL dx l n1) :: (dx, oneD h1 h2 t1 t2 b t n2) :: (t, tabO w xs n3) :: rest))
  (K : OneTab l xs) (hne : (t == sysModules) = false) (d1 : x ≠ dx) (d2 : x ≠ t) (d3 : dx ≠ t) (r1 : ∀ p ∈ rest, p.1 ≠ x) (r2 : ∀ p ∈ rest, p.1 ≠ dx) (r3 : ∀ p ∈ rest, p.1 ≠ t)
  (T : Top p loose mean mg mb h₀) (hA : A.frames = some (env :: outer)) (hf : env.frame = some L) (hke : env.scope.kind = .function) (hh : A.handled = none) (hd : A.depth + 40 < recursionLimit) (hu : A.units + 300 < cLine) {bb : Bool} (hkb : decide (k ∈ l) = bb)
  (h : ∀ h' tk t' xs' b' t1' t2' n2' n3', OneTab l xs' → (t' == sysModules) = false → x ≠ t' → dx ≠ t' → (∀ p ∈ rest, p.1 ≠ t') → Fr h₀ L h' m → News h₀ L h' ((x, oneL dx l n1) :: (dx, oneD h1 h2 t1' t2' b' t' n2') :: (t', tabO w xs' n3') :: rest) → Q (.bool bb) { s with heap := h', toks := tk })
  : wpAny (model Challenge.rw_ww0011_01.row.prog w) A (call (.ref 44) [.ref x, mV k]) Q E s := by
  revert X₀
  k_fill
  intro X₀
  refine wpAny_call ?_
  refine code_def B F X₀ N T hA hf hke (by k_is) (by k_is) (by omega) (BindsTo.of_eq rfl) (locs rfl) ?_ rfl rfl rfl (by decide)
  intro g' L' h' FG' F' N' B' X' T'
  (try dsimp only)
  (try k_fold)
  cases b
  · by_cases hk : k ∈ l
    · rw [decide_eq_true hk] at hkb; subst hkb
      k_steps
      exact h _ _ _ _ _ _ _ _ _ (by assumption) (by assumption) (by assumption) (by assumption) (by assumption) (by assumption) (by assumption)
    · rw [decide_eq_false hk] at hkb; subst hkb
      k_steps
      exact h _ _ _ _ _ _ _ _ _ (by assumption) (by assumption) (by assumption) (by assumption) (by assumption) (by assumption) (by assumption)
  · by_cases hk : k ∈ l
    · rw [decide_eq_true hk] at hkb; subst hkb
      k_steps
      exact h _ _ _ _ _ _ _ _ _ (by assumption) (by assumption) (by assumption) (by assumption) (by assumption) (by assumption) (by assumption)
    · rw [decide_eq_false hk] at hkb; subst hkb
      k_steps
      exact h _ _ _ _ _ _ _ _ _ (by assumption) (by assumption) (by assumption) (by assumption) (by assumption) (by assumption) (by assumption)
end Mine

end
section
open PySem PySem.W PyProof.Rows PySem.Calls PySem.Spec
set_option Elab.async false
set_option maxRecDepth 100000
set_option pp.deepTerms false
namespace Mine
section
variable {prog : Program} {w : World} {A₀ A : Around} {s : Shared} {base h₀ : Heap} {L : Addr} {m : Str → Option Value} {env : Env} {news : List (Addr × Obj)} {K : Frag} {p : Program} {loose : List Str} {mean : ExcName → Option Value} {mg mb : Str → Option Value}
    {R : Result → Shared → Prop} {name qual : Str} {params : Arguments} {body : List Stmt} {scope : Scope} {dV kV doc pm cdv ct oc : Value} {an od : Option Addr} {osl : Array (Option Value)} {f : Addr} {args : Args} {binds : List (Str × Value)}
/-- a def that tries, called from the law's own frame: the ledger's things are hidden from the ground, the caller's frame stands in it -/
theorem enter_try (B : Below A₀ base [] h₀) (F : Fr h₀ L s.heap m) (X₀ : K.In h₀) (N : News h₀ L s.heap news) (T : Top p loose mean mg mb h₀) (hA : A.frames = some [env]) (hf : env.frame = some L) (hke : env.scope.kind = .function)
    (ho : K.lookup f = some ⟨oc, od, .func (fnOf name qual params body scope dV kV doc pm an cdv ct), osl⟩) (hcd : codeIn K cdv qual = true) (hroom : A.depth < recursionLimit)
    (hbind : BindsTo s (fnOf name qual params body scope dV kV doc pm an cdv ct) args binds) (hloc : ∀ y ∈ binds, scope.names.lookup y.1 = some .local)
    (h : ∀ g L' h₁, Fr g L' h₁ (fun y => binds.reverse.lookup y) → News g L' h₁ news → Below A base [env] g → K.In g → Top p loose mean mg mb g → KtsDicts ([env].filterMap (·.frame)) g →
      wpAny (model prog w) (A.deeper (envOf qual scope L' f cdv)) (execs body (envOf qual scope L' f cdv))
        (fun fl s' => LeaveS0 ([env].filterMap (·.frame)) h₀ L m g R (match fl with | .ret v => v | _ => .none) s')
        (fun e s' => wpAny (model prog w) (A.deeper (envOf qual scope L' f cdv)) (leaving (envOf qual scope L' f cdv) e) (fun _ s'' => R (.error e) s'') (fun e' s'' => R (.error e') s'') s')
        { s with heap := h₁, toks := s.toks + binds.length })
    (hco : scope.isCoroutine = false) (hgen : scope.isGenerator = false) (hk : scope.kind = .function)
    (hcell : ∀ x ∈ scope.names, x.2 ≠ .cell) : codeAny (model prog w) A (.call (.ref f) args) R s := by
  have X := X₀.keeps F.keep
  obtain ⟨oL, es, ep, hL, hLd, hLk, hLf⟩ := F.ns
  have apart : ∀ b, (∃ o, h₀.get? b = some o) → b ∉ news.map (·.1) := by
    rintro b ⟨o, e⟩ hb
    obtain ⟨q, hq, rfl⟩ := List.mem_map.mp hb
    have := (N q hq).2.2
    rw [e] at this
    cases this
  have hLn : L ∉ news.map (·.1) := by
    intro hb
    obtain ⟨q, hq, e⟩ := List.mem_map.mp hb
    exact (N q hq).2.1 e
  have hLg : (hideAll s.heap (news.map (·.1))).get? L = some oL := hideAll_get _ hL hLn
  have hL0 : h₀.get? L = none := kts_self F
  have stay : h₀.StaysIn (hideAll s.heap (news.map (·.1))) := fun b o e => hideAll_get _ (F.keep b o e) (apart b ⟨o, e⟩)
  have one : [env].filterMap (·.frame) = [L] := by simp [hf]
  have BG : Below A base [env] (hideAll s.heap (news.map (·.1))) := by
    refine ⟨hA, fun b o e => stay b o (B.stays b o e), ⟨by rw [hke]; decide, ⟨L, oL, hf, ?_, hLg, fun vs q => by rw [hLd] at q; cases q⟩, trivial⟩⟩
    exact fresh_of_stays B.stays hL0
  refine codeAny_call_def (fd := fnOf name qual params body scope dV kV doc pm an cdv ct) (body := body) (binds := binds) hroom (X _ _ ho) rfl (T.nolimit.keeps F.keep) (codeRec_of X hcd) rfl hbind hcell hloc (fun h₁ hns hk₁ => ?_) hco hgen hk
  have step := h (hideAll s.heap (news.map fun q : Addr × Obj => q.1)) s.heap.objs.size h₁ ⟨hns, fun b o e => hk₁ b o (of_hideAll _ e), Nat.le_of_eq (hideAll_size _ _)⟩
    (fun q hq => ⟨hk₁ _ _ (N q hq).1, Nat.ne_of_lt (Heap.lt_size (N q hq).1), hideAll_none _ (List.mem_map.mpr ⟨q, hq, rfl⟩)⟩) BG (X₀.keeps stay) (T.keeps stay)
    (fun b hb => by rw [one, List.mem_singleton] at hb; subst hb; exact ⟨oL, es, ep, hLg, hLd⟩)
  refine wpAny_mono step (fun fl s' hl => ?_) fun _ _ y => y
  obtain ⟨g', L', m', news', T', F', N', k⟩ := hl
  rw [one] at T'
  obtain ⟨sl, hs⟩ := T'.frame L oL hLg (List.mem_singleton.mpr rfl)
  refine k ⟨⟨_, es, ep, F'.keep _ _ hs, hLd, hLk, hLf⟩, fun b o e => F'.keep b o (T'.other b o (stay b o e) fun q => ?_), F.above⟩ fun q hq => ⟨(N' q hq).1, fun e => ?_, ?_⟩
  · rw [List.mem_singleton.mp q] at e
    rw [hL0] at e
    cases e
  · have := (N' q hq).2.2
    rw [e, hs] at this
    cases this
  · cases e : h₀.get? q.1 with
    | none => rfl
    | some o =>
      have := (N' q hq).2.2
      rw [T'.other q.1 o (stay _ _ e) (fun z => by rw [List.mem_singleton.mp z, hL0] at e; cases e)] at this
      cases this
end
end Mine

end
section
open PySem PySem.W PyProof.Rows PySem.Calls
set_option Elab.async false
set_option maxRecDepth 100000
set_option pp.deepTerms false
namespace Mine
section
variable {prog : Program} {w : World} {A : Around} {E : Value → Shared → Prop} {s : Shared} {H : Addr} {l : List (Fin 8)} {n : Nat} {h₀ : Heap} {m : Str → Option Value} {news : List (Addr × Obj)} {env : Env} {xi xc : Str} {body : List Stmt} {Q : Flow → Shared → Prop}
theorem enum_loop (hh : A.handled = none) (F : Fr h₀ env.locals s.heap m) (N : News h₀ env.locals s.heap news) (hm : (H, heldO l n) ∈ news)
    (J : Nat → (Str → Option Value) → List (Addr × Obj) → Prop) (h0 : J 0 m news)
    (step : ∀ i k t m₁ news₁ s₁ own, (∃ h tk, s₁ = { s with heap := h, toks := tk }) → l[i]? = some k → J i m₁ news₁ → news₁.map (·.1) = news.map (·.1) → (∀ p ∈ own, p.1 = H ∨ ∀ q ∈ news, q.1 ≠ p.1) →
      Fr h₀ env.locals s₁.heap (fun y => if y = xc then some (mV k) else if y = xi then some (.int (i : Nat) t) else m₁ y) → News h₀ env.locals s₁.heap (own ++ news₁) →
      wpAny (model prog w) A (execs body env) (LoopStep3 h₀ env.locals own news₁ (J (i + 1)) s₁ (fun v s' => Q (.ret v) s') fun s' => Q .next s') E s₁)
    (done : ∀ h' tk m' news', Fr h₀ env.locals h' m' → News h₀ env.locals h' news' → news'.map (·.1) = news.map (·.1) → J l.length m' news' → Q .next { s with heap := h', toks := tk }) :
    wpAny (model prog w) A (call (.type "enumerate") [.ref H]) (fun xv s₁ => wpAny (model prog w) A (pyIter xv) (fun it s₂ => PairAt3 prog w A h₀ env xi xc body Q E it s₂) E s₁) E s := by
  have hH := N _ hm
  have hls : s.heap.IsList H (l.map mV).toArray := ⟨_, hH.1, rfl, _, rfl⟩
  have hlt : H < s.heap.objs.size := Heap.lt_size hH.1
  have hLs : env.locals < s.heap.objs.size := F.ns.lt
  have fresh : ∀ b, s.heap.objs.size ≤ b → h₀.get? b = none := fun b hb => Heap.get?_none_of_le (Nat.le_trans F.above (Nat.le_of_lt (Nat.lt_of_lt_of_le hLs hb)))
  have off : ∀ q ∈ news, q.1 < s.heap.objs.size := fun q hq => Heap.lt_size (N q hq).1
  refine call_enumerate_list hls fun h' he hit hsz hk => ?_
  refine wpAny_pyIter_enum he ?_
  have W := WalksT.enumerate (prog := prog) (w := w) hh (s.heap.objs.size + 1) s.heap.objs.size H (Nat.succ_ne_self _) (Nat.ne_of_lt (Nat.lt_succ_of_lt hlt)) (Nat.ne_of_lt hlt) (l.map mV).toArray
  have hsize : (l.map mV).toArray.size = l.length := by simp
  refine ⟨s.heap.objs.size + 1, _, _, _, _, _, _, fun i v0 v1 => ∃ t k, l[i]? = some k ∧ v0 = .int (i : Nat) t ∧ v1 = mV k, m, news, J, rfl, W, ?_, ?_, ?_, ?_, ⟨⟨_, he⟩, hit, hls.at fun o e => hk H o e⟩, ⟨F.ns.keeps hk, fun b o e => hk b o (F.keep b o e), F.above⟩, fun p hp => ⟨hk _ _ (N p hp).1, (N p hp).2⟩, h0, ?_, ?_⟩
  · rintro i vals ⟨t, x, hx, rfl⟩
    refine ⟨_, _, rfl, t, ?_⟩
    cases q : l[i]? with
    | none => simp [q] at hx
    | some k => exact ⟨k, rfl, rfl, by simpa [q] using hx.symm⟩
  · intro hm'
    simp only [List.mem_cons, List.not_mem_nil, or_false] at hm'
    rcases hm' with e | e | e
    · exact Nat.ne_of_lt (Nat.lt_succ_of_lt hLs) e
    · exact Nat.ne_of_lt hLs e
    · exact hH.2.1 e.symm
  · intro b hb
    simp only [List.mem_cons, List.not_mem_nil, or_false] at hb
    rcases hb with e | e
    · exact fresh b (Nat.le_trans (Nat.le_succ _) (Nat.le_of_eq e.symm))
    · exact fresh b (Nat.le_of_eq e.symm)
  · intro p hp hb
    have := off p hp
    simp only [List.mem_cons, List.not_mem_nil, or_false] at hb
    rcases hb with e | e
    · exact Nat.ne_of_lt (Nat.lt_succ_of_lt this) e
    · exact Nat.ne_of_lt this e
  · rintro i v0 v1 m₁ news₁ s₁ own ⟨h₁, tk₁, rfl⟩ hi ⟨t, k, hk', rfl, rfl⟩ hJ hmap hown F₁ N₁
    refine step i k t m₁ news₁ _ own ⟨_, _, rfl⟩ hk' hJ hmap (fun p hp => ?_) F₁ N₁
    have := hown p hp
    simp only [List.mem_cons, List.not_mem_nil, or_false] at this
    rcases this with e | e | e
    · exact .inr fun q hq z => Nat.ne_of_lt (Nat.lt_succ_of_lt (off q hq)) (z.trans e)
    · exact .inr fun q hq z => Nat.ne_of_lt (off q hq) (z.trans e)
    · exact .inl e
  · intro h₁ tk₁ m' news' F₁ N₁ hmap hJ
    rw [hsize] at hJ
    exact done h₁ tk₁ m' news' F₁ N₁ hmap hJ
end
section
variable {prog : Program} {w : World} {A : Around} {E : Value → Shared → Prop} {s : Shared} {P : Params} {x dx t d L : Addr} {a : Array Value} {n n' : Nat} {h₀ : Heap} {m : Str → Option Value} {news news' : List (Addr × Obj)} {h1 h2 : Int} {t1 t2 : Tok} {b c : Bool} {Q : Unit → Shared → Prop}
theorem set_new1 (F : Fr h₀ L s.heap m) (X₀ : (KP P).In h₀) (N : News h₀ L s.heap news) (hx : (x, oneO dx a n) ∈ news) (hdx : (dx, dictOf [] 0) ∈ news) (U : Upd dx (dictOf [] 0) (dictOf [⟨PyData.keyHash w.params "clean", .str "clean" (s.toks + 1), .bool c⟩] 1) news news')
    (h : ∀ h', Fr h₀ L h' m → News h₀ L h' news' → Q () { s with heap := h', toks := s.toks + 2 }) : wpAny (model prog w) A (setAttr (.ref x) "clean" (.bool c)) Q E s :=
  set_one F X₀ N (inst_seq N hx hdx) rfl (ftake1 P) rfl rfl U (Nat.le_of_ble_eq_true rfl) h
theorem set_new2 (F : Fr h₀ L s.heap m) (X₀ : (KP P).In h₀) (N : News h₀ L s.heap news) (hx : (x, oneO dx a n) ∈ news) (hdx : (dx, dictOf [⟨h1, .str "clean" t1, .bool b⟩] n') ∈ news)
    (U : Upd dx (dictOf [⟨h1, .str "clean" t1, .bool b⟩] n') (oneD h1 (PyData.keyHash w.params "_dict") t1 (s.toks + 1) b d (n' + 1)) news news')
    (h : ∀ h', Fr h₀ L h' m → News h₀ L h' news' → Q () { s with heap := h', toks := s.toks + 2 }) : wpAny (model prog w) A (setAttr (.ref x) "_dict" (.ref d)) Q E s :=
  set_one F X₀ N (inst_seq N hx hdx) rfl (ftake2 P) rfl rfl U (Nat.le_of_ble_eq_true rfl) h
end
theorem lt_all {r : List (Addr × Obj)} {d : Addr} (h : ∀ p ∈ r, p.1 < d) : ∀ p ∈ r, p.1 ≠ d := fun p hp => Nat.ne_of_lt (h p hp)
theorem news_rot {h₀ h : Heap} {L : Addr} {a b c : Addr × Obj} {r : List (Addr × Obj)} (N : News h₀ L h (a :: b :: c :: r)) : News h₀ L h (b :: c :: a :: r) := fun p hp => N p (by
  simp only [List.mem_cons] at hp ⊢
  rcases hp with h | h | h | h
  · exact .inr (.inl h)
  · exact .inr (.inr (.inl h))
  · exact .inl h
  · exact .inr (.inr (.inr h)))
end Mine

end
section
open PySem PySem.W PyProof.Rows
set_option Elab.async false
set_option pp.deepTerms false
set_option pp.proofs false
set_option maxRecDepth 100000
set_option maxHeartbeats 8000000
set_option linter.unusedVariables false
namespace Mine

local macro_rules | `(tactic| k_inst) => `(tactic| (refine' inst_seq ?N ?h1 ?h2; (case N => k_asm); (case h1 => k_mem); (case h2 => k_mem)))
local macro_rules | `(tactic| k_room) => `(tactic| ((try simp only [depth_under_make, depth_under_kw, depth_in1, depth_deeper, depth_caller]); omega))
local macro_rules | `(tactic| k_units) => `(tactic| ((try simp only [PySem.Around.in1_units, Mine.deeper_units]); omega))
local macro_rules | `(tactic| k_all) => `(tactic| assumption)
local macro_rules | `(tactic| k_ne) => `(tactic| (first | assumption | exact Ne.symm (by assumption)))
local macro_rules | `(tactic| walk_at "getAttr ref") => `(tactic| (k_here; k_dflt (refine' get_own1 ?k1 ?k2 ?k3 ?k4 ?k5 ?k6 ?k7 ?k8 ?k9 ?_; (case k1 => k_asm); (case k2 => k_asm); (case k3 => k_asm); (case k4 => k_mem); (case k5 => k_mem); (case k6 => k_is); (case k7 => k_is); (case k8 => k_get); (case k9 => k_handed); k_whole)))
local macro_rules | `(tactic| walk_at "getMethod ref") => `(tactic| (k_here; k_dflt (refine' method_one ?k1 ?k2 ?k3 ?k4 ?k5 ?k6 ?k7 ?k8 ?_; (case k1 => k_asm); (case k2 => k_asm); (case k3 => k_asm); (case k4 => k_mem); (case k5 => k_mem); (case k6 => k_is); (case k7 => k_is); (case k8 => k_get); k_whole)))
local macro_rules | `(tactic| walk_at "compareOp NotIn") => `(tactic| (k_here; k_dflt (refine' notIn_T ?k0 ?k1 ?k2 ?k3 ?k4 ?k6 ?k7 ?k8 ?_; (case k8 => first | exact decide_eq_true (by assumption) | exact decide_eq_false (by assumption) | exact rfl); (case k1 => k_asm); (case k2 => k_asm); (case k3 => k_asm); (case k4 => k_mem); (case k0 => assumption); (case k6 => k_asm); (case k7 => k_units); k_whole); intro tk'; (try simp only [Bool.not_true, Bool.not_false])))
local macro_rules | `(tactic| walk_at "compareOp In") => `(tactic| (k_here; k_dflt (refine' isIn_T ?k0 ?k1 ?k2 ?k3 ?k4 ?k6 ?k7 ?k8 ?_; (case k8 => first | exact decide_eq_true (by assumption) | exact decide_eq_false (by assumption) | exact rfl); (case k1 => k_asm); (case k2 => k_asm); (case k3 => k_asm); (case k4 => k_mem); (case k0 => assumption); (case k6 => k_asm); (case k7 => k_units); k_whole); intro tk'; (try simp only [Bool.not_true, Bool.not_false])))
local macro_rules | `(tactic| walk_at "setItem ref int") => `(tactic| (k_here; k_dflt (refine' store_K ?k1 ?k2 ?k3 ?k4 ?k5 ?k6 ?k7 ?k8 ?_; (case k1 => k_asm); (case k2 => k_asm); (case k3 => k_asm); (case k8 => k_upd); (case k4 => exact OneTab.nodup (by assumption)); (case k5 => k_units); (case k6 => first | assumption | exact OneTab.none (by assumption) (by assumption)); (case k7 => exact OneTab.le' (by assumption)); k_whole); intro h' tk' F' N'; (try k_sweep)))
local macro_rules | `(tactic| walk_at "call builtin:len") => `(tactic| (k_here; k_dflt (refine' len_one_K ?k1 ?k2 ?k3 ?k4 ?k5 ?_; (case k1 => k_asm); (case k2 => k_asm); (case k3 => k_asm); (case k4 => k_mem); (case k5 => simp only [List.size_toArray, List.length_map]; have := OneTab.le (by assumption); omega); k_whole); intro tk' u'; (try simp only [List.size_toArray, List.length_map])))
local macro_rules | `(tactic| walk_at "call builtin:list.append") => `(tactic| (k_here; k_dflt (refine' append_T ?k1 ?k2 ?k3 ?k4 ?k5 ?_; (case k1 => k_asm); (case k2 => k_asm); (case k3 => k_asm); (case k5 => k_upd); (case k4 => have := OneTab.le (by assumption); omega); k_whole); intro h' F' N'; (try k_sweep)))
local macro_rules | `(tactic| walk_at "getMethod type:list") => `(tactic| (k_here; refine' method_type ?F ?X ?m (by decide +kernel) ?e ?h ?_; (case F => k_asm); (case X => k_asm); (case m => exact meta_list); (case e => k_dflt k_is); (case h => k_handed)))
local macro_rules | `(tactic| walk_at "subscriptTail") => `(tactic| (k_here; k_dflt (refine' item_T ?k0 ?k1 ?k2 ?k3 ?k4 ?k5 ?k6 ?_; (case k1 => k_asm); (case k2 => k_asm); (case k3 => k_asm); (case k4 => k_mem); (case k0 => assumption); (case k5 => k_units); (case k6 => first | assumption | exact mem_addk); k_whole); intro tk' u'))

set_option hygiene false in
local macro_rules | `(tactic| walk_at "eval Dict nil nil") => `(tactic| (k_here; k_dflt (refine' newTab ?k1 ?k2 ?k3 ?_; (case k1 => k_asm); (case k2 => k_asm); (case k3 => k_asm); k_whole); intro dTab hTab FTab NTab l1 neTab; have q1 := lt1 l1; have q2 := lt1 q1.2; have q4 := lt_all q2.2; replace q1 := q1.1; replace q2 := q2.1; clear l1; dsimp only at q1 q2; (try k_sweep)))
local macro_rules | `(tactic| walk_at "setAttr ref") => `(tactic| (k_here; k_dflt (refine' set_new2 ?k1 ?k2 ?k3 ?k4 ?k5 ?k6 ?_; (case k1 => k_asm); (case k2 => k_asm); (case k3 => k_asm); (case k4 => k_mem); (case k5 => k_mem); (case k6 => k_upd); k_whole; intro h' F' N'; (try k_sweep))))
local macro_rules | `(tactic| walk_at "setAttr ref") => `(tactic| (k_here; k_dflt (refine' set_new1 ?k1 ?k2 ?k3 ?k4 ?k5 ?k6 ?_; (case k1 => k_asm); (case k2 => k_asm); (case k3 => k_asm); (case k4 => k_mem); (case k5 => k_mem); (case k6 => k_upd); k_whole; intro h' F' N'; (try k_sweep))))
local macro_rules | `(tactic| walk_at "setAttr ref") => `(tactic| (k_here; k_dflt (refine' set_clean ?k1 ?k2 ?k3 ?k4 ?k5 ?k6 ?_; (case k1 => k_asm); (case k2 => k_asm); (case k3 => k_asm); (case k4 => k_mem); (case k5 => k_mem); (case k6 => k_upd); k_whole; intro h' F' N'; (try k_sweep))))
theorem init0_c {A₀ : Around} {base h₀ : Heap} {outer : List Env} {env : Env} {L : Addr} {m mg mb : Str → Option Value} {p : Program} {loose : List Str} {mean : ExcName → Option Value} {s : Shared} {w : World} {A : Around}
  {x dx H : Addr} {n : Nat} {l : List (Fin 8)} {rest : List (Addr × Obj)} {R : Result → Shared → Prop}
  (B : Below A₀ base outer h₀) (F : Fr h₀ L s.heap m) (X₀ : (hd.heap_39 w.params).In h₀)
  (N : News h₀ L s.heap ((x, oneO dx #[] 0) :: (dx, dictOf [] 0) :: rest))
  (d1 : x ≠ dx) (r1 : ∀ p ∈ rest, p.1 ≠ x) (r2 : ∀ p ∈ rest, p.1 ≠ dx)
  (T : Top p loose mean mg mb h₀) (hA : A.frames = some (env :: outer)) (hf : env.frame = some L) (hke : env.scope.kind = .function) (hh : A.handled = none) (hd : A.depth + 20 < recursionLimit) (hu : A.units + 200 < cLine)
  (h : ∀ h' tk t h1 h2 t1 t2 b n1 n2 n3, (t == sysModules) = false → x ≠ t → dx ≠ t → (∀ p ∈ rest, p.1 ≠ t) → Fr h₀ L h' m → News h₀ L h' ((x, oneL dx [] n1) :: (dx, oneD h1 h2 t1 t2 b t n2) :: (t, tabO w [] n3) :: rest) → R (.ok (.ret .none)) { s with heap := h', toks := tk })
  : codeAny (model Challenge.rw_ww0011_01.row.prog w) A (.call (.ref 30) ⟨[.ref x], []⟩) R s := by
  revert X₀
  k_fill
  intro X₀
  refine code_def B F X₀ N T hA hf hke (by k_is) (by k_is) (by omega) (binds_K (X₀.keeps F.keep) rfl (by k_is) rfl rfl rfl) (locs rfl) ?_ rfl rfl rfl (by decide)
  intro g' L' h' FG' F' N' B' X' T'
  (try dsimp only)
  (try k_fold)
  k_steps
  rename Fr _ _ _ _ => F9
  rename News _ _ _ _ => N9
  exact h _ _ _ _ _ _ _ _ 0 _ _ (by assumption) (by assumption) (by assumption) (by assumption) F9 (news_rot N9)
local macro_rules | `(tactic| walk_at "eval Name") => `(tactic| (k_here; k_dflt (refine' ld ?k1 ?k2 ?_; (case k1 => k_asm); (case k2 => first | exact rfl | (repeat (first | exact if_pos rfl | assumption | refine (if_neg (by decide)).trans ?_))); k_whole)))
theorem init_c {A₀ : Around} {base h₀ : Heap} {outer : List Env} {env : Env} {L : Addr} {m mg mb : Str → Option Value} {p : Program} {loose : List Str} {mean : ExcName → Option Value} {s : Shared} {w : World} {A : Around}
  {x dx H : Addr} {n : Nat} {l : List (Fin 8)} {rest : List (Addr × Obj)} {R : Result → Shared → Prop}
  (B : Below A₀ base outer h₀) (F : Fr h₀ L s.heap m) (X₀ : (hd.heap_39 w.params).In h₀)
  (N : News h₀ L s.heap ((x, oneO dx #[] 0) :: (dx, dictOf [] 0) :: rest))
  (d1 : x ≠ dx) (r1 : ∀ p ∈ rest, p.1 ≠ x) (r2 : ∀ p ∈ rest, p.1 ≠ dx)
  (T : Top p loose mean mg mb h₀) (hA : A.frames = some (env :: outer)) (hf : env.frame = some L) (hke : env.scope.kind = .function) (hh : A.handled = none) (hd : A.depth + 20 < recursionLimit) (hu : A.units + 200 < cLine) (hH : (H, heldO l n) ∈ rest) (nd : l.Nodup)
  (h : ∀ h' tk t xs h1 h2 t1 t2 b n1 n2 n3, OneTab l xs → (t == sysModules) = false → x ≠ t → dx ≠ t → (∀ p ∈ rest, p.1 ≠ t) → Fr h₀ L h' m → News h₀ L h' ((x, oneL dx l n1) :: (dx, oneD h1 h2 t1 t2 b t n2) :: (t, tabO w xs n3) :: rest) → R (.ok (.ret .none)) { s with heap := h', toks := tk })
  : codeAny (model Challenge.rw_ww0011_01.row.prog w) A (.call (.ref 30) ⟨[.ref x, .ref H], []⟩) R s := by
  revert X₀
  k_fill
  intro X₀
  refine code_def B F X₀ N T hA hf hke (by k_is) (by k_is) (by omega) (binds_K (X₀.keeps F.keep) rfl (by k_is) rfl rfl rfl) (locs rfl) ?_ rfl rfl rfl (by decide)
  intro g' L' h' FG' F' N' B' X' T'
  (try dsimp only)
  (try k_fold)
  k_steps
  rename Fr _ _ _ _ => F2
  rename News _ _ _ _ => N2
  rename Heap => hp0
  obtain ⟨d, hd0⟩ : ∃ d, d = dTab := ⟨_, rfl⟩
  rw [← hd0] at N2 q1 q2 q4 neTab
  clear hd0
  obtain ⟨h1, h2, t1, t2, n2, N3⟩ : ∃ h1 h2 t1 t2 n2, News g' L' hp0 ((d, tabO w [] 0) :: (x, oneL dx [] 0) :: (dx, oneD h1 h2 t1 t2 false d n2) :: rest) := ⟨_, _, _, _, _, N2⟩
  clear N2
  refine For_pair3 g' (by first | assumption | exact hh) (by rfl) (by rfl) (by rfl) ?_ (by intro _; rfl)
  k_steps
  refine enum_loop (l := l) (n := n) (by first | assumption | exact hh) F2 N3 (List.Mem.tail _ (List.Mem.tail _ (List.Mem.tail _ hH)))
    (fun i m₁ news₁ => ∃ xs' n' n'', OneTab (l.take i) xs' ∧ m₁ "self" = some (.ref x) ∧ news₁ = (d, tabO w xs' n') :: (x, oneL dx (l.take i) n'') :: (dx, oneD h1 h2 t1 t2 false d n2) :: rest) ?_ ?_ ?_
  · exact ⟨[], 0, 0, OneTab.nil, rfl, rfl⟩
  · rintro i k t m₁ news₁ s₁ own ⟨hp', tk', rfl⟩ hv ⟨xs', n', n'', K', hm1, rfl⟩ hmap hown F4 N4
    obtain ⟨hlt, hkk⟩ := List.getElem?_eq_some_iff.mp hv
    have hk := nodup_not_take nd hlt
    have hT : l.take (i + 1) = l.take i ++ [l[i]] := by rw [List.take_add_one]; simp [hlt]
    rw [hT]
    rw [hkk] at hk ⊢
    have hlen : (l.take i).length = i := by simp; omega
    have N5 : News g' L' hp' ([(d, tabO w xs' n'), (x, oneL dx (l.take i) n''), (dx, oneD h1 h2 t1 t2 false d n2)] ++ (rest ++ own)) := news_swap N4
    have q7 : ∀ p ∈ rest ++ own, p.1 ≠ d := by
      intro p hp
      rcases List.mem_append.mp hp with hp | hp
      · exact q4 p hp
      · rcases hown p hp with e | e
        · exact fun z => q4 _ hH (e.symm.trans z)
        · exact fun z => e _ (List.Mem.head _) z.symm
    have q8 : ∀ p ∈ rest ++ own, p.1 ≠ x := by
      intro p hp
      rcases List.mem_append.mp hp with hp | hp
      · exact r1 p hp
      · rcases hown p hp with e | e
        · exact fun z => r1 _ hH (e.symm.trans z)
        · exact fun z => e _ (List.Mem.tail _ (List.Mem.head _)) z.symm
    obtain ⟨R', hR⟩ : ∃ R', R' = rest ++ own := ⟨_, rfl⟩
    rw [← hR] at N5 q7 q8
    simp only [List.cons_append, List.nil_append] at N5
    clear F N F2 N3 N4
    k_steps
    rename Fr _ _ _ _ => F9
    rename News _ _ _ _ => N9
    subst hR
    refine LoopStep2.intro (news₂ := [_, _, _] ++ rest) F9 (news_back (a := [_, _, _]) N9) rfl ?_
    refine' ⟨_, _, _, ?a, ?b, rfl⟩
    case b => exact (if_neg (by decide)).trans ((if_neg (by decide)).trans hm1)
    case a =>
      have := OneTab.push (u := t) K' hk
      rw [hlen] at this
      exact this
  · intro h' tk' m' news' F4 N4 hmap hJ
    obtain ⟨xs', n', n'', K', hm1, rfl⟩ := hJ
    rw [List.take_length] at K' N4
    k_steps
    rename Fr _ _ _ _ => F9
    rename News _ _ _ _ => N9
    exact h _ _ _ _ _ _ _ _ _ _ _ _ K' neTab q1 q2 q4 F9 (news_rot N9)
end Mine

end
section
open PySem PySem.W PyProof.Rows
set_option Elab.async false
set_option pp.deepTerms false
set_option pp.proofs false
set_option maxRecDepth 100000
set_option maxHeartbeats 8000000
set_option linter.unusedVariables false
namespace Mine

local macro_rules | `(tactic| k_inst) => `(tactic| (refine' inst_seq ?N ?h1 ?h2; (case N => k_asm); (case h1 => k_mem); (case h2 => k_mem)))
local macro_rules | `(tactic| k_room) => `(tactic| ((try simp only [depth_under_make, depth_under_kw, depth_in1, depth_deeper, depth_caller]); omega))
local macro_rules | `(tactic| k_units) => `(tactic| ((try simp only [PySem.Around.in1_units, Mine.deeper_units]); omega))
local macro_rules | `(tactic| k_all) => `(tactic| assumption)
local macro_rules | `(tactic| k_ne) => `(tactic| (first | assumption | exact Ne.symm (by assumption)))
local macro_rules | `(tactic| walk_at "getAttr ref") => `(tactic| (k_here; k_dflt (refine' get_own1 ?k1 ?k2 ?k3 ?k4 ?k5 ?k6 ?k7 ?k8 ?k9 ?_; (case k1 => k_asm); (case k2 => k_asm); (case k3 => k_asm); (case k4 => k_mem); (case k5 => k_mem); (case k6 => k_is); (case k7 => k_is); (case k8 => k_get); (case k9 => k_handed); k_whole)))
local macro_rules | `(tactic| walk_at "getMethod ref") => `(tactic| (k_here; k_dflt (refine' method_one ?k1 ?k2 ?k3 ?k4 ?k5 ?k6 ?k7 ?k8 ?_; (case k1 => k_asm); (case k2 => k_asm); (case k3 => k_asm); (case k4 => k_mem); (case k5 => k_mem); (case k6 => k_is); (case k7 => k_is); (case k8 => k_get); k_whole)))
local macro_rules | `(tactic| walk_at "compareOp NotIn") => `(tactic| (k_here; k_dflt (refine' notIn_T ?k0 ?k1 ?k2 ?k3 ?k4 ?k6 ?k7 ?k8 ?_; (case k8 => first | exact decide_eq_true (by assumption) | exact decide_eq_false (by assumption) | exact rfl); (case k1 => k_asm); (case k2 => k_asm); (case k3 => k_asm); (case k4 => k_mem); (case k0 => assumption); (case k6 => k_asm); (case k7 => k_units); k_whole); intro tk'; (try simp only [Bool.not_true, Bool.not_false])))
local macro_rules | `(tactic| walk_at "compareOp In") => `(tactic| (k_here; k_dflt (refine' isIn_T ?k0 ?k1 ?k2 ?k3 ?k4 ?k6 ?k7 ?k8 ?_; (case k8 => first | exact decide_eq_true (by assumption) | exact decide_eq_false (by assumption) | exact rfl); (case k1 => k_asm); (case k2 => k_asm); (case k3 => k_asm); (case k4 => k_mem); (case k0 => assumption); (case k6 => k_asm); (case k7 => k_units); k_whole); intro tk'; (try simp only [Bool.not_true, Bool.not_false])))
local macro_rules | `(tactic| walk_at "setItem ref int") => `(tactic| (k_here; k_dflt (refine' store_K ?k1 ?k2 ?k3 ?k4 ?k5 ?k6 ?k7 ?k8 ?_; (case k1 => k_asm); (case k2 => k_asm); (case k3 => k_asm); (case k8 => k_upd); (case k4 => exact OneTab.nodup (by assumption)); (case k5 => k_units); (case k6 => first | assumption | exact OneTab.none (by assumption) (by assumption)); (case k7 => exact OneTab.le' (by assumption)); k_whole); intro h' tk' F' N'; (try k_sweep)))
local macro_rules | `(tactic| walk_at "call builtin:len") => `(tactic| (k_here; k_dflt (refine' len_one_K ?k1 ?k2 ?k3 ?k4 ?k5 ?_; (case k1 => k_asm); (case k2 => k_asm); (case k3 => k_asm); (case k4 => k_mem); (case k5 => simp only [List.size_toArray, List.length_map]; have := OneTab.le (by assumption); omega); k_whole); intro tk' u'; (try simp only [List.size_toArray, List.length_map])))
local macro_rules | `(tactic| walk_at "call builtin:list.append") => `(tactic| (k_here; k_dflt (refine' append_T ?k1 ?k2 ?k3 ?k4 ?k5 ?_; (case k1 => k_asm); (case k2 => k_asm); (case k3 => k_asm); (case k5 => k_upd); (case k4 => have := OneTab.le (by assumption); omega); k_whole); intro h' F' N'; (try k_sweep)))
local macro_rules | `(tactic| walk_at "getMethod type:list") => `(tactic| (k_here; refine' method_type ?F ?X ?m (by decide +kernel) ?e ?h ?_; (case F => k_asm); (case X => k_asm); (case m => exact meta_list); (case e => k_dflt k_is); (case h => k_handed)))
local macro_rules | `(tactic| walk_at "subscriptTail") => `(tactic| (k_here; k_dflt (refine' item_T ?k0 ?k1 ?k2 ?k3 ?k4 ?k5 ?k6 ?_; (case k1 => k_asm); (case k2 => k_asm); (case k3 => k_asm); (case k4 => k_mem); (case k0 => assumption); (case k5 => k_units); (case k6 => first | assumption | exact mem_addk); k_whole); intro tk' u'))

local macro_rules | `(tactic| k_enter) => `(tactic| (refine' code_def ?k1 ?k2 ?k3 ?k4 ?k5 ?kA ?kF ?kK ?k6 ?k7 ?k8 ?k9 ?kB ?_ ?c2 ?c3 ?c4 ?c5; (case k1 => k_asm); (case kA => first | exact rfl | exact deeper_frames (by assumption) | exact deeper_frames (deeper_frames (by assumption))); (case kF => exact rfl); (case kK => exact rfl); (case k2 => k_asm); (case k3 => k_asm); (case k4 => k_asm); (case k5 => k_asm); (case k6 => k_is); (case k7 => k_is); (case k8 => k_room); (case k9 => exact BindsTo.of_eq rfl); (case c5 => decide); (case kB => exact locs rfl); (case c2 => exact rfl); (case c3 => exact rfl); (case c4 => exact rfl); k_whole; intro g' L' h' FG' F' N' B' X' T'; (try dsimp only); (try k_fold)))
local macro_rules | `(tactic| walk_at "call ref") => `(tactic| (k_here; k_dflt (refine' contains_c ?k1 ?k2 ?k3 ?k4 ?k5 ?k6 ?k7 ?k8 ?k9 ?k10 ?k11 ?k12 ?k13 ?kA ?kB ?kC ?k14 ?k15 ?k16 ?kb ?_; (case k1 => k_asm); (case k2 => k_asm); (case k3 => k_asm); (case k4 => k_asm); (case k5 => k_asm); (case k6 => k_asm); (case k7 => k_asm); (case k8 => k_asm); (case k9 => k_asm); (case k10 => k_asm); (case k11 => k_asm); (case k12 => k_asm); (case k13 => k_asm); (case kA => first | exact rfl | exact deeper_frames (by assumption) | exact deeper_frames (deeper_frames (by assumption))); (case kB => exact rfl); (case kC => exact rfl); (case k14 => first | assumption | exact rfl); (case k15 => k_room); (case k16 => k_units); (case kb => first | exact decide_eq_true (by assumption) | exact decide_eq_false (by assumption) | exact rfl); k_whole; intro h' tk' t' xs' b' t1' t2' n2' n3' K' ne' e1 e2 e3 F' N'; (try k_sweep))))
local macro_rules | `(tactic| walk_at "exec Raise some none") => `(tactic| (k_here; (with_reducible rename Fr _ _ _ _ => kF); k_dflt (refine' Raise_classB ?hh excClass_ValueError ?hself ?hx ?_; (case hh => first | assumption | exact rfl); (case hself => (rw [isSubtype_type]; kernel_rfl)); (case hx => (refine' name_B kF ?k1 ?k2 ?k3 ?k4 ?k5 ?_; (case k1 => k_asm); (case k2 => k_asm); (case k3 => k_is); (case k4 => boot_by_name); (case k5 => decide); exact ⟨rfl, rfl⟩)); intro h' e' ne')))
theorem place_c {A₀ : Around} {h₀ : Heap} {env : Env} {L : Addr} {m mg mb : Str → Option Value} {p : Program} {loose : List Str} {mean : ExcName → Option Value} {s : Shared} {w : World} {A : Around}
  {x dx t : Addr} {h1 h2 : Int} {t1 t2 : Tok} {b : Bool} {n1 n2 n3 : Nat} {l : List (Fin 8)} {xs : List (Fin 8 × Value)} {rest : List (Addr × Obj)} {k : Fin 8} {Q : Value → Shared → Prop} {E : Value → Shared → Prop}
  (B : Below A₀ h₀ [] h₀) (F : Fr h₀ L s.heap m) (X₀ : (hd.heap_39 w.params).In h₀)
  (N : News h₀ L s.heap ((x, oneL dx l n1) :: (dx, oneD h1 h2 t1 t2 b t n2) :: (t, tabO w xs n3) :: rest))
  (K : OneTab l xs) (hne : (t == sysModules) = false) (d1 : x ≠ dx) (d2 : x ≠ t) (d3 : dx ≠ t) (r1 : ∀ p ∈ rest, p.1 ≠ x) (r2 : ∀ p ∈ rest, p.1 ≠ dx) (r3 : ∀ p ∈ rest, p.1 ≠ t)
  (T : Top p loose mean mg mb h₀) (hA : A.frames = some [env]) (hf : env.frame = some L) (hke : env.scope.kind = .function) (hh : A.handled = none) (hd : A.depth + 60 < recursionLimit) (hu : A.units + 400 < cLine)
  (h : ∀ h' tk t' xs' b' t1' t2' n2' n3', OneTab l xs' → (t' == sysModules) = false → x ≠ t' → dx ≠ t' → (∀ p ∈ rest, p.1 ≠ t') → Fr h₀ L h' m → News h₀ L h' ((x, oneL dx l n1) :: (dx, oneD h1 h2 t1' t2' b' t' n2') :: (t', tabO w xs' n3') :: rest) →
    ∀ v, (k ∈ l → ∃ u, v = .int (l.idxOf k : Nat) u) → (k ∉ l → ∃ u, v = .str "refused" u) → Q v { s with heap := h', toks := tk })
  : wpAny (model Challenge.rw_ww0011_01.row.prog w) A (call (.ref 88) [.ref x, mV k]) Q E s := by
  revert X₀
  k_fill
  intro X₀
  refine wpAny_call ?_
  refine enter_try B F X₀ N T hA hf hke (by k_is) (by k_is) (by omega) (BindsTo.of_eq rfl) (locs rfl) ?_ rfl rfl rfl (by decide)
  intro g' L' h' F' N' B' X' T' D'
  (try dsimp only)
  (try k_fold)
  by_cases hk : k ∈ l
  · k_steps
    exact h _ _ _ _ _ _ _ _ _ (by assumption) (by assumption) (by assumption) (by assumption) (by assumption) (by assumption) (by assumption) _ (fun _ => ⟨_, rfl⟩) (fun z => absurd hk z)
  · k_steps
    exact h _ _ _ _ _ _ _ _ _ (by assumption) (by assumption) (by assumption) (by assumption) (by assumption) (by assumption) (by assumption) _ (fun z => absurd z hk) (fun _ => ⟨_, rfl⟩)
end Mine

end
section
open PySem PySem.W PyProof.Rows
set_option Elab.async false
set_option pp.deepTerms false
set_option pp.proofs false
set_option maxRecDepth 100000
set_option maxHeartbeats 8000000
set_option linter.unusedVariables false
namespace Mine
theorem make_push {h₀ : Heap} {L : Addr} {s : Shared} {m : Str → Option Value} {rest : List (Addr × Obj)} (F : Fr h₀ L s.heap m) (N : News h₀ L s.heap rest) :
    Fr h₀ L ((s.heap.push emptyDict).push (oneO s.heap.objs.size #[] 0)) m ∧ News h₀ L ((s.heap.push emptyDict).push (oneO s.heap.objs.size #[] 0)) ((s.heap.objs.size + 1, oneO s.heap.objs.size #[] 0) :: (s.heap.objs.size, dictOf [] 0) :: rest) ∧
    (∀ p ∈ rest, p.1 ≠ s.heap.objs.size + 1) ∧ (∀ p ∈ rest, p.1 ≠ s.heap.objs.size) := by
  have off : ∀ p ∈ rest, p.1 < s.heap.objs.size := fun p hp => Heap.lt_size (N p hp).1
  refine ⟨(F.push _).push _, ?_, fun p hp => Nat.ne_of_lt (Nat.lt_succ_of_lt (off p hp)), fun p hp => Nat.ne_of_lt (off p hp)⟩
  have N1 := News.push F N (dictOf [] 0)
  have N2 := News.push (F.push (dictOf [] 0)) N1 (oneO s.heap.objs.size #[] 0)
  rw [Heap.size_push] at N2
  exact N2
theorem make_c {A₀ : Around} {base h₀ : Heap} {outer : List Env} {env : Env} {L : Addr} {m mg mb : Str → Option Value} {p : Program} {loose : List Str} {mean : ExcName → Option Value} {s : Shared} {w : World} {A : Around}
  {H : Addr} {n : Nat} {l : List (Fin 8)} {rest : List (Addr × Obj)} {Q : Value → Shared → Prop} {E : Value → Shared → Prop}
  (B : Below A₀ base outer h₀) (F : Fr h₀ L s.heap m) (X₀ : (hd.heap_39 w.params).In h₀) (N : News h₀ L s.heap rest)
  (T : Top p loose mean mg mb h₀) (hA : A.frames = some (env :: outer)) (hf : env.frame = some L) (hke : env.scope.kind = .function) (hh : A.handled = none)
  (hd : A.depth + 30 < recursionLimit) (hu : A.units + 300 < cLine) (hH : (H, heldO l n) ∈ rest) (nd : l.Nodup)
  (h : ∀ x dx t h' tk xs h1 h2 t1 t2 b n1 n2 n3, OneTab l xs → (t == sysModules) = false → x ≠ dx → x ≠ t → dx ≠ t → (∀ p ∈ rest, p.1 ≠ x) → (∀ p ∈ rest, p.1 ≠ dx) → (∀ p ∈ rest, p.1 ≠ t) → Fr h₀ L h' m →
    News h₀ L h' ((x, oneL dx l n1) :: (dx, oneD h1 h2 t1 t2 b t n2) :: (t, tabO w xs n3) :: rest) → Q (.ref x) { s with heap := h', toks := tk })
  : wpAny (model Challenge.rw_ww0011_01.row.prog w) A (call (.ref 68) [.ref H]) Q E s := by
  refine wpAny_call ?_
  refine make_one (X₀.keeps F.keep) ?_
  obtain ⟨F', N', o1, o2⟩ := make_push F N
  refine init_c (A := A.under _) (s := { s with heap := (s.heap.push emptyDict).push (oneO s.heap.objs.size #[] 0) }) B F' X₀ N' (Nat.succ_ne_self _) o1 o2 T hA hf hke hh ?_ ?_ hH nd fun h' tk t xs h1 h2 t1 t2 b n1 n2 n3 K ne e1 e2 e3 F2 N2 => ?_
  · show A.depth + 1 + 20 < recursionLimit; omega
  · show (A.under (.builtin "type.__call__" ⟨_, []⟩)).units + 200 < cLine; rw [units_under_make]; omega
  · exact ⟨rfl, h _ _ _ _ _ _ _ _ _ _ _ _ _ _ K ne (Nat.succ_ne_self _) e1 e2 o1 o2 e3 F2 N2⟩
theorem make0_c {A₀ : Around} {base h₀ : Heap} {outer : List Env} {env : Env} {L : Addr} {m mg mb : Str → Option Value} {p : Program} {loose : List Str} {mean : ExcName → Option Value} {s : Shared} {w : World} {A : Around}
  {rest : List (Addr × Obj)} {Q : Value → Shared → Prop} {E : Value → Shared → Prop}
  (B : Below A₀ base outer h₀) (F : Fr h₀ L s.heap m) (X₀ : (hd.heap_39 w.params).In h₀) (N : News h₀ L s.heap rest)
  (T : Top p loose mean mg mb h₀) (hA : A.frames = some (env :: outer)) (hf : env.frame = some L) (hke : env.scope.kind = .function) (hh : A.handled = none)
  (hd : A.depth + 30 < recursionLimit) (hu : A.units + 300 < cLine)
  (h : ∀ x dx t h' tk xs h1 h2 t1 t2 b n1 n2 n3, OneTab [] xs → (t == sysModules) = false → x ≠ dx → x ≠ t → dx ≠ t → (∀ p ∈ rest, p.1 ≠ x) → (∀ p ∈ rest, p.1 ≠ dx) → (∀ p ∈ rest, p.1 ≠ t) → Fr h₀ L h' m →
    News h₀ L h' ((x, oneL dx [] n1) :: (dx, oneD h1 h2 t1 t2 b t n2) :: (t, tabO w xs n3) :: rest) → Q (.ref x) { s with heap := h', toks := tk })
  : wpAny (model Challenge.rw_ww0011_01.row.prog w) A (call (.ref 68) []) Q E s := by
  refine wpAny_call ?_
  refine make_one (X₀.keeps F.keep) ?_
  obtain ⟨F', N', o1, o2⟩ := make_push F N
  refine init0_c (H := 0) (n := 0) (l := []) (A := A.under _) (s := { s with heap := (s.heap.push emptyDict).push (oneO s.heap.objs.size #[] 0) }) B F' X₀ N' (Nat.succ_ne_self _) o1 o2 T hA hf hke hh ?_ ?_ fun h' tk t h1 h2 t1 t2 b n1 n2 n3 ne e1 e2 e3 F2 N2 => ?_
  · show A.depth + 1 + 20 < recursionLimit; omega
  · show (A.under (.builtin "type.__call__" ⟨_, []⟩)).units + 200 < cLine; rw [units_under_make]; omega
  · exact ⟨rfl, h _ _ _ _ _ _ _ _ _ _ _ _ _ _ OneTab.nil ne (Nat.succ_ne_self _) e1 e2 o1 o2 e3 F2 N2⟩
end Mine

end
section
open PySem PySem.W PyProof.Rows
set_option Elab.async false
set_option pp.deepTerms false
set_option pp.proofs false
set_option maxRecDepth 100000
set_option maxHeartbeats 8000000
set_option linter.unusedVariables false
namespace Mine
local macro_rules | `(tactic| k_room) => `(tactic| ((try simp only [depth_under_make, depth_under_kw, depth_in1, depth_deeper, depth_caller]); omega))
local macro_rules | `(tactic| k_units) => `(tactic| ((try simp only [PySem.Around.in1_units, Mine.deeper_units]); omega))
local macro_rules | `(tactic| k_all) => `(tactic| assumption)
local macro_rules | `(tactic| k_ne) => `(tactic| (first | assumption | exact Ne.symm (by assumption)))
abbrev stateO (B : Addr) (i z : Int) (u1 u2 : Tok) (n : Nat) : Obj := listOf #[.ref B, .int i u1, .int z u2] n
section
variable {prog : Program} {w : World} {A : Around} {E : Value → Shared → Prop} {s : Shared} {L Bk : Addr} {nb : Nat} {vs : List Value} {ns : List Int} {h₀ : Heap} {news : List (Addr × Obj)}
theorem book_len {Q : Value → Shared → Prop} (N : News h₀ L s.heap news) (hB : (Bk, listOf vs.toArray nb) ∈ news) (hl : vs.length ≤ 40) (h : ∀ tk u, Q (.int (vs.length : Nat) u) { s with toks := tk }) : wpAny (model prog w) A (call (.builtin "len") [.ref Bk]) Q E s :=
  len_list (items := vs.toArray) ⟨_, (N _ hB).1, rfl, _, rfl⟩ (by simp; omega) (by have := h (s.toks + 1 + 1) (s.toks + 1); simpa using this)
theorem book_item {value slice : Expr} {i : Int} {u : Tok} {Q : Value → Shared → Prop} (N : News h₀ L s.heap news) (hB : (Bk, listOf vs.toArray nb) ∈ news) (hI : IntsAre vs ns) (hl : vs.length ≤ 40) (h0 : 0 ≤ i) (h1 : i < (vs.length : Nat)) (h : ∀ t, Q (.int (ns.getD i.toNat 0) t) s)
    (hs : subscripted slice false (.ref Bk) (.int i u) = operate [.ref Bk, .int i u] (getItem (.ref Bk) (.int i u)) := by with_unfolding_all rfl) (hg : ∀ r, letTemporaryGo value (.ref Bk) r = pure () := by intro _; with_unfolding_all rfl) :
    wpAny (model prog w) A (subscriptTail value slice (.ref Bk) (.int i u)) Q E s :=
  item_list_ints ⟨_, (N _ hB).1, rfl, _, rfl⟩ hI h0 (by rw [← hI.length]; exact h1) (by omega) h hs hg
end
local macro_rules | `(tactic| walk_at "call builtin:len") => `(tactic| (k_here; k_dflt (refine' book_len ?k1 ?k2 ?k3 ?_; (case k1 => k_asm); (case k2 => exact List.Mem.tail _ (by assumption)); (case k3 => assumption); k_whole); intro tk' u'))
local macro_rules | `(tactic| walk_at "subscriptTail") => `(tactic| (k_here; k_dflt (refine' book_item ?k1 ?k2 ?k3 ?k4 ?k5 ?k6 ?_; (case k1 => k_asm); (case k2 => exact List.Mem.tail _ (by assumption)); (case k3 => assumption); (case k4 => assumption); (case k5 => assumption); (case k6 => first | assumption | omega); k_whole); intro u'))
theorem next_c {A₀ : Around} {base h₀ : Heap} {outer : List Env} {env : Env} {L : Addr} {m mg mb : Str → Option Value} {p : Program} {loose : List Str} {mean : ExcName → Option Value} {s : Shared} {w : World} {A : Around}
  {S Bk : Addr} {i z many : Int} {u1 u2 um : Tok} {n nb : Nat} {vs : List Value} {ns : List Int} {rest : List (Addr × Obj)} {Q : Value → Shared → Prop} {E : Value → Shared → Prop}
  (B : Below A₀ base outer h₀) (F : Fr h₀ L s.heap m) (X₀ : (hd.heap_39 w.params).In h₀) (N : News h₀ L s.heap ((S, stateO Bk i z u1 u2 n) :: rest)) (hB : (Bk, listOf vs.toArray nb) ∈ rest) (hI : IntsAre vs ns) (hlen' : ns.length ≤ 40) (hi : 0 ≤ i) (hz : 0 < many)
  (r1 : ∀ p ∈ rest, p.1 ≠ S)
  (T : Top p loose mean mg mb h₀) (hA : A.frames = some (env :: outer)) (hf : env.frame = some L) (hke : env.scope.kind = .function) (hh : A.handled = none)
  (hd : A.depth + 30 < recursionLimit) (hu : A.units + 300 < cLine)
  (h : ∀ h' tk i' z' u1' u2' n' r u, 0 ≤ i' → 0 ≤ r → r < many → Fr h₀ L h' m → News h₀ L h' ((S, stateO Bk i' z' u1' u2' n') :: rest) → Q (.int r u) { s with heap := h', toks := tk })
  : wpAny (model Challenge.rw_ww0011_01.row.prog w) A (call (.ref 81) [.ref S, .int many um]) Q E s := by
  have hlen : vs.length ≤ 40 := by rw [hI.length]; exact hlen'
  revert X₀
  k_fill
  intro X₀
  refine wpAny_call ?_
  refine code_def B F X₀ N T hA hf hke (by k_is) (by k_is) (by omega) (BindsTo.of_eq rfl) (locs rfl) ?_ rfl rfl rfl (by decide)
  intro g' L' h' FG' F' N' B' X' T'
  (try dsimp only)
  (try k_fold)
  k_steps
  all_goals refine h _ _ _ _ _ _ _ _ _ ?_ ?_ ?_ (by assumption) (by assumption)
  all_goals first | exact Int.fmod_nonneg_of_pos _ hz | exact Int.fmod_lt_of_pos _ hz | omega
end Mine

end
section
open PySem PySem.W PyProof.Rows PySem.Calls
set_option Elab.async false
set_option maxRecDepth 100000
set_option pp.deepTerms false
namespace Mine
section
variable {prog : Program} {w : World} {A : Around} {h₀ : Heap} {L : Addr} {m : Str → Option Value} {env : Env} {elt : Expr} {x : Str} {scope : Scope} {cl : List (Str × Addr)} {s : Shared} {S : List (Addr × Obj) → Prop} {P : Nat → Value → Prop} {Fin : List Value → List (Addr × Obj) → Prop} {news : List (Addr × Obj)}
theorem comp_inv {n : Nat} (Inv : Nat → List Value → List (Addr × Obj) → Prop)
    (turn : ∀ i v ys news₁ I oI C oC D m₂ h tk (E' : Value → Shared → Prop), i < n → P i v → Inv i ys news₁ → LCg.NsObj oC m₂ → m₂ x = some v → Fr h₀ L h m → News h₀ L h ((I, oI) :: (C, oC) :: (D, LCg.lst ys) :: news₁) → LCg.Off3 I C D news₁ → ((@Ne Nat I C) ∧ (@Ne Nat I D) ∧ (@Ne Nat C D)) →
      wpAny (model prog w) A (eval elt (compEnvC scope cl C env)) (LCg.CompEnd h₀ L m { s with heap := h, toks := tk } I oI C oC D (LCg.lst ys) S (fun y news' => Inv (i + 1) (ys ++ [y]) news')) E' { s with heap := h, toks := tk })
    (h0 : Inv 0 [] news) (fin : ∀ ys news', Inv n ys news' → Fin ys news') : LCg.CompRest prog w A h₀ L m env elt x scope cl s S P Fin n 0 [] news := by
  have key : ∀ (j i : Nat) (ys : List Value) (news₁ : List (Addr × Obj)), i + j = n → Inv i ys news₁ → LCg.CompRest prog w A h₀ L m env elt x scope cl s S P Fin j i ys news₁ := by
    intro j
    induction j with
    | zero =>
      intro i ys news₁ hi hI
      obtain rfl : i = n := by omega
      exact LCg.CompRest.zero (fin ys news₁ hI)
    | succ j ih =>
      intro i ys news₁ hi hI
      refine LCg.CompRest.succ ?_
      intro v I oI C oC D m₂ h tk E' hv hC hx F N off ne
      refine wpAny_mono (turn i v ys news₁ I oI C oC D m₂ h tk E' (by omega) hv hI hC hx F N off ne) (fun y s₂ hq => ?_) fun _ _ e => e
      obtain ⟨h', tk', nw, e, F', N', off', hS, hn⟩ := hq
      exact ⟨h', tk', nw, e, F', N', off', hS, ih (i + 1) _ nw (by omega) hn⟩
  exact key n 0 [] news (by omega) h0
end
section
variable {prog : Program} {w : World} {A : Around} {E : Value → Shared → Prop} {s : Shared} {P : Params}
theorem menu_at (P : Params) : (hd.heap_39 P).lookup 74 = some ⟨.type "list", none, .seq #[mV 0, mV 1, mV 2, mV 3, mV 4, mV 5, mV 6, mV 7] 0, #[]⟩ := by kernel_rfl
theorem menu_list {h : Heap} (X : (hd.heap_39 P).In h) : h.IsList 74 #[mV 0, mV 1, mV 2, mV 3, mV 4, mV 5, mV 6, mV 7] := ⟨_, X _ _ (menu_at P), rfl, _, rfl⟩
theorem menu_tail {value slice : Expr} {h₀ : Heap} {L : Addr} {m : Str → Option Value} {z : Int} {u : Tok} {Q : Value → Shared → Prop} (F : Fr h₀ L s.heap m) (X₀ : (hd.heap_39 P).In h₀) (h0 : 0 ≤ z) (h1 : z < 8) (h : ∀ k : Fin 8, (k.val : Int) = z → Q (mV k) s)
    (hs : subscripted slice false (.ref 74) (.int z u) = operate [.ref 74, .int z u] (getItem (.ref 74) (.int z u)) := by with_unfolding_all rfl) (hg : ∀ r, letTemporaryGo value (.ref 74) r = pure () := by intro _; with_unfolding_all rfl) :
    wpAny (model prog w) A (subscriptTail value slice (.ref 74) (.int z u)) Q E s := by
  obtain ⟨k, rfl⟩ : ∃ k : Nat, z = (k : Int) := ⟨z.toNat, (Int.toNat_of_nonneg h0).symm⟩
  have hk : k < 8 := by omega
  refine item_list (menu_list (X₀.keeps F.keep)) h0 (by omega) (x := mV ⟨k, hk⟩) ?_ (h ⟨k, hk⟩ rfl) hs hg
  rw [Int.toNat_natCast]
  match k, hk with
  | 0, _ => rfl
  | 1, _ => rfl
  | 2, _ => rfl
  | 3, _ => rfl
  | 4, _ => rfl
  | 5, _ => rfl
  | 6, _ => rfl
  | 7, _ => rfl
end
section
variable {prog : Program} {w : World} {A : Around} {E : Value → Shared → Prop} {s : Shared} {r : Addr} {a b : Int} {n : Nat} {h₀ : Heap} {m : Str → Option Value} {news : List (Addr × Obj)} {env : Env} {y : Str} {body : List Stmt} {Q : Flow → Shared → Prop} {t u v : Tok}
theorem range_loop (hh : A.handled = none) (hr : IsRange s.heap r a b 1 t u v) (hsmall : Builtin.Range.small a b 1 = true) (hn : Builtin.Range.rangeSize a b 1 = (n : Int)) (F : Fr h₀ env.locals s.heap m) (N : News h₀ env.locals s.heap news)
    (J : Nat → (Str → Option Value) → List (Addr × Obj) → Prop) (h0 : J 0 m news)
    (step : ∀ i v m₁ news₁ s₁ own, (∃ h tk, s₁ = { s with heap := h, toks := tk }) → i < n → J i m₁ news₁ → (∀ p ∈ news₁, p.1 ≠ s.heap.objs.size) → (∀ p ∈ own, p.1 = s.heap.objs.size) → (∃ oI, (s.heap.objs.size, oI) ∈ own) →
      Fr h₀ env.locals s₁.heap (fun z => if z = y then some v else m₁ z) → News h₀ env.locals s₁.heap (own ++ news₁) →
      wpAny (model prog w) A (execs body env) (LoopStepV h₀ env.locals [s.heap.objs.size] own (J (i + 1)) s₁ (fun v s' => Q (.ret v) s') fun s' => Q .next s') E s₁)
    (done : ∀ h' tk m' news', Fr h₀ env.locals h' m' → News h₀ env.locals h' news' → J n m' news' → Q .next { s with heap := h', toks := tk }) :
    wpAny (model prog w) A (pyIter (.ref r)) (fun it s₂ => LoopAtV prog w A h₀ env y body Q E it s₂) E s := by
  refine wpAny_pyIter_range hr hsmall ?_
  have hls : env.locals ≠ s.heap.objs.size := Nat.ne_of_lt F.ns.lt
  have W := Walks.range (prog := prog) (w := w) hh s.heap.objs.size a 1 n
  refine ⟨s.heap.objs.size, [s.heap.objs.size], [s.heap.objs.size], n, _, _, m, news, J, rfl, W, ?_, ?_, ?_, ?_, F.push _, fun p hp => ⟨Heap.get?_push_of_some _ (N p hp).1, (N p hp).2⟩, h0, ?_, ?_⟩
  · simp [hls]
  · intro b hb
    rw [List.mem_singleton.mp hb]
    exact next_is_new F
  · exact fun p hp hb => Nat.ne_of_lt (Heap.lt_size (N p hp).1) (List.mem_singleton.mp hb)
  · show IsRangeIter _ _ _ _ _
    rw [hn]
    simpa using Heap.get?_push_size _ rfl
  · rintro i v m₁ news₁ s₁ own hs hi hP hJ h1 h2 h3 h4 h5 F₁ N₁
    obtain ⟨hh', tk', rfl⟩ := hs
    exact step i v m₁ news₁ _ own ⟨_, _, rfl⟩ hi hJ (fun p hp q => h1 p hp (by simp [q])) (fun p hp => by have := h2 p hp; simpa using this) ⟨_, h4 _ (List.Mem.head _) (next_is_new F) _ h5⟩ F₁ N₁
  · exact fun h' tk m' news' F' N' _ hJ => done h' tk m' news' F' N' hJ
end
end Mine

end
section
open PySem PySem.W PyProof.Rows PySem.Calls
set_option Elab.async false
set_option maxRecDepth 100000
set_option pp.deepTerms false
namespace Mine
structure Off4 (x dx t S : Addr) (r : List (Addr × Obj)) : Prop where
  ns : (t == sysModules) = false
  xd : x ≠ dx
  xt : x ≠ t
  dt : dx ≠ t
  xS : x ≠ S
  dS : dx ≠ S
  tS : t ≠ S
  rx : ∀ p ∈ r, p.1 ≠ x
  rd : ∀ p ∈ r, p.1 ≠ dx
  rt : ∀ p ∈ r, p.1 ≠ t
  rS : ∀ p ∈ r, p.1 ≠ S
theorem off_cons {a : Addr} {o : Obj} {d : Addr} {r : List (Addr × Obj)} (h : d ≠ a) (hr : ∀ p ∈ r, p.1 ≠ d) : ∀ p ∈ (a, o) :: r, p.1 ≠ d := List.forall_mem_cons.mpr ⟨Ne.symm h, hr⟩
theorem Off4.cons {x dx t S D : Addr} {oD : Obj} {r : List (Addr × Obj)} (O : Off4 x dx t S r) (h1 : x ≠ D) (h2 : dx ≠ D) (h3 : t ≠ D) (h4 : S ≠ D) : Off4 x dx t S ((D, oD) :: r) :=
  ⟨O.ns, O.xd, O.xt, O.dt, O.xS, O.dS, O.tS, off_cons h1 O.rx, off_cons h2 O.rd, off_cons h3 O.rt, off_cons h4 O.rS⟩
theorem add_L {A₀ : Around} {h₀ : Heap} {env : Env} {L : Addr} {m mg mb : Str → Option Value} {p : Program} {loose : List Str} {mean : ExcName → Option Value} {s : Shared} {w : World} {A : Around}
  {x dx t S Bk : Addr} {h1 h2 i z : Int} {t1 t2 u1 u2 : Tok} {b : Bool} {n1 n2 n3 nS : Nat} {l : List (Fin 8)} {xs : List (Fin 8 × Value)} {r : List (Addr × Obj)} {k : Fin 8} {Q : Value → Shared → Prop} {E : Value → Shared → Prop}
  (B : Below A₀ h₀ [] h₀) (F : Fr h₀ L s.heap m) (X₀ : (hd.heap_39 w.params).In h₀)
  (N : News h₀ L s.heap ((x, oneL dx l n1) :: (dx, oneD h1 h2 t1 t2 b t n2) :: (t, tabO w xs n3) :: (S, stateO Bk i z u1 u2 nS) :: r))
  (K : OneTab l xs) (O : Off4 x dx t S r)
  (T : Top p loose mean mg mb h₀) (hA : A.frames = some [env]) (hf : env.frame = some L) (hke : env.scope.kind = .function) (hh : A.handled = none) (hd : A.depth + 80 < recursionLimit) (hu : A.units + 600 < cLine)
  (h : ∀ h' tk u xs' n1' n3', OneTab (addk k l) xs' → Fr h₀ L h' m → News h₀ L h' ((x, oneL dx (addk k l) n1') :: (dx, oneD h1 h2 t1 t2 b t n2) :: (t, tabO w xs' n3') :: (S, stateO Bk i z u1 u2 nS) :: r) → Q (.int ((addk k l).idxOf k : Nat) u) { s with heap := h', toks := tk })
  : wpAny (model Challenge.rw_ww0011_01.row.prog w) A (call (.ref 65) [.ref x, mV k]) Q E s :=
  add_c B F X₀ N K O.ns O.xd O.xt O.dt (off_cons O.xS O.rx) (off_cons O.dS O.rd) (off_cons O.tS O.rt) T hA hf hke hh (by omega) (by omega) h
theorem append_L {A₀ : Around} {h₀ : Heap} {env : Env} {L : Addr} {m mg mb : Str → Option Value} {p : Program} {loose : List Str} {mean : ExcName → Option Value} {s : Shared} {w : World} {A : Around}
  {x dx t S Bk : Addr} {h1 h2 i z : Int} {t1 t2 u1 u2 : Tok} {b : Bool} {n1 n2 n3 nS : Nat} {l : List (Fin 8)} {xs : List (Fin 8 × Value)} {r : List (Addr × Obj)} {k : Fin 8} {Q : Value → Shared → Prop} {E : Value → Shared → Prop}
  (B : Below A₀ h₀ [] h₀) (F : Fr h₀ L s.heap m) (X₀ : (hd.heap_39 w.params).In h₀)
  (N : News h₀ L s.heap ((x, oneL dx l n1) :: (dx, oneD h1 h2 t1 t2 b t n2) :: (t, tabO w xs n3) :: (S, stateO Bk i z u1 u2 nS) :: r))
  (K : OneTab l xs) (O : Off4 x dx t S r)
  (T : Top p loose mean mg mb h₀) (hA : A.frames = some [env]) (hf : env.frame = some L) (hke : env.scope.kind = .function) (hh : A.handled = none) (hd : A.depth + 80 < recursionLimit) (hu : A.units + 600 < cLine)
  (h : ∀ h' tk xs' n1' n3', OneTab (addk k l) xs' → Fr h₀ L h' m → News h₀ L h' ((x, oneL dx (addk k l) n1') :: (dx, oneD h1 h2 t1 t2 b t n2) :: (t, tabO w xs' n3') :: (S, stateO Bk i z u1 u2 nS) :: r) → Q .none { s with heap := h', toks := tk })
  : wpAny (model Challenge.rw_ww0011_01.row.prog w) A (call (.ref 58) [.ref x, mV k]) Q E s :=
  append_c B F X₀ N K O.ns O.xd O.xt O.dt (off_cons O.xS O.rx) (off_cons O.dS O.rd) (off_cons O.tS O.rt) T hA hf hke hh (by omega) (by omega) h
theorem Off4.turn {x dx t t' S : Addr} {o : Obj} {r : List (Addr × Obj)} (O : Off4 x dx t S r) (ns : (t' == sysModules) = false) (e1 : x ≠ t') (e2 : dx ≠ t') (e3 : ∀ p ∈ (S, o) :: r, p.1 ≠ t') : Off4 x dx t' S r :=
  ⟨ns, O.xd, e1, e2, O.xS, O.dS, Ne.symm (e3 _ (.head _)), O.rx, O.rd, fun p hp => e3 p (.tail _ hp), O.rS⟩
theorem contains_L {A₀ : Around} {h₀ : Heap} {env : Env} {L : Addr} {m mg mb : Str → Option Value} {p : Program} {loose : List Str} {mean : ExcName → Option Value} {s : Shared} {w : World} {A : Around}
  {x dx t S Bk : Addr} {h1 h2 i z : Int} {t1 t2 u1 u2 : Tok} {b : Bool} {n1 n2 n3 nS : Nat} {l : List (Fin 8)} {xs : List (Fin 8 × Value)} {r : List (Addr × Obj)} {k : Fin 8} {Q : Value → Shared → Prop} {E : Value → Shared → Prop}
  (B : Below A₀ h₀ [] h₀) (F : Fr h₀ L s.heap m) (X₀ : (hd.heap_39 w.params).In h₀)
  (N : News h₀ L s.heap ((x, oneL dx l n1) :: (dx, oneD h1 h2 t1 t2 b t n2) :: (t, tabO w xs n3) :: (S, stateO Bk i z u1 u2 nS) :: r))
  (K : OneTab l xs) (O : Off4 x dx t S r)
  (T : Top p loose mean mg mb h₀) (hA : A.frames = some [env]) (hf : env.frame = some L) (hke : env.scope.kind = .function) (hh : A.handled = none) (hd : A.depth + 80 < recursionLimit) (hu : A.units + 600 < cLine)
  (h : ∀ h' tk t' xs' b' t1' t2' n2' n3', OneTab l xs' → Off4 x dx t' S r → Fr h₀ L h' m → News h₀ L h' ((x, oneL dx l n1) :: (dx, oneD h1 h2 t1' t2' b' t' n2') :: (t', tabO w xs' n3') :: (S, stateO Bk i z u1 u2 nS) :: r) → Q (.bool (decide (k ∈ l))) { s with heap := h', toks := tk })
  : wpAny (model Challenge.rw_ww0011_01.row.prog w) A (call (.ref 44) [.ref x, mV k]) Q E s :=
  contains_c B F X₀ N K O.ns O.xd O.xt O.dt (off_cons O.xS O.rx) (off_cons O.dS O.rd) (off_cons O.tS O.rt) T hA hf hke hh (by omega) (by omega) rfl
    fun h' tk t' xs' b' t1' t2' n2' n3' K' ns e1 e2 e3 F' N' => h h' tk t' xs' b' t1' t2' n2' n3' K' (O.turn ns e1 e2 e3) F' N'
theorem place_L {A₀ : Around} {h₀ : Heap} {env : Env} {L : Addr} {m mg mb : Str → Option Value} {p : Program} {loose : List Str} {mean : ExcName → Option Value} {s : Shared} {w : World} {A : Around}
  {x dx t S Bk : Addr} {h1 h2 i z : Int} {t1 t2 u1 u2 : Tok} {b : Bool} {n1 n2 n3 nS : Nat} {l : List (Fin 8)} {xs : List (Fin 8 × Value)} {r : List (Addr × Obj)} {k : Fin 8} {Q : Value → Shared → Prop} {E : Value → Shared → Prop}
  (B : Below A₀ h₀ [] h₀) (F : Fr h₀ L s.heap m) (X₀ : (hd.heap_39 w.params).In h₀)
  (N : News h₀ L s.heap ((x, oneL dx l n1) :: (dx, oneD h1 h2 t1 t2 b t n2) :: (t, tabO w xs n3) :: (S, stateO Bk i z u1 u2 nS) :: r))
  (K : OneTab l xs) (O : Off4 x dx t S r)
  (T : Top p loose mean mg mb h₀) (hA : A.frames = some [env]) (hf : env.frame = some L) (hke : env.scope.kind = .function) (hh : A.handled = none) (hd : A.depth + 80 < recursionLimit) (hu : A.units + 600 < cLine)
  (h : ∀ h' tk t' xs' b' t1' t2' n2' n3', OneTab l xs' → Off4 x dx t' S r → Fr h₀ L h' m → News h₀ L h' ((x, oneL dx l n1) :: (dx, oneD h1 h2 t1' t2' b' t' n2') :: (t', tabO w xs' n3') :: (S, stateO Bk i z u1 u2 nS) :: r) →
    ∀ v, (k ∈ l → ∃ u, v = .int (l.idxOf k : Nat) u) → (k ∉ l → ∃ u, v = .str "refused" u) → Q v { s with heap := h', toks := tk })
  : wpAny (model Challenge.rw_ww0011_01.row.prog w) A (call (.ref 88) [.ref x, mV k]) Q E s :=
  place_c B F X₀ N K O.ns O.xd O.xt O.dt (off_cons O.xS O.rx) (off_cons O.dS O.rd) (off_cons O.tS O.rt) T hA hf hke hh (by omega) (by omega)
    fun h' tk t' xs' b' t1' t2' n2' n3' K' ns e1 e2 e3 F' N' v q1 q2 => h h' tk t' xs' b' t1' t2' n2' n3' K' (O.turn ns e1 e2 e3) F' N' v q1 q2
theorem news_S {h₀ h : Heap} {L : Addr} {a b c d : Addr × Obj} {r : List (Addr × Obj)} (N : News h₀ L h (a :: b :: c :: d :: r)) : News h₀ L h (d :: a :: b :: c :: r) := fun p hp => N p (by
  simp only [List.mem_cons] at hp ⊢
  rcases hp with h | h | h | h | h
  · exact .inr (.inr (.inr (.inl h)))
  · exact .inl h
  · exact .inr (.inl h)
  · exact .inr (.inr (.inl h))
  · exact .inr (.inr (.inr (.inr h))))
theorem news_S' {h₀ h : Heap} {L : Addr} {a b c d : Addr × Obj} {r : List (Addr × Obj)} (N : News h₀ L h (d :: a :: b :: c :: r)) : News h₀ L h (a :: b :: c :: d :: r) := fun p hp => N p (by
  simp only [List.mem_cons] at hp ⊢
  rcases hp with h | h | h | h | h
  · exact .inr (.inl h)
  · exact .inr (.inr (.inl h))
  · exact .inr (.inr (.inr (.inl h)))
  · exact .inl h
  · exact .inr (.inr (.inr (.inr h))))
theorem next_L {A₀ : Around} {h₀ : Heap} {env : Env} {L : Addr} {m mg mb : Str → Option Value} {p : Program} {loose : List Str} {mean : ExcName → Option Value} {s : Shared} {w : World} {A : Around}
  {x dx t S Bk : Addr} {h1 h2 i z : Int} {t1 t2 u1 u2 : Tok} {b : Bool} {n1 n2 n3 nS : Nat} {l : List (Fin 8)} {xs : List (Fin 8 × Value)} {r : List (Addr × Obj)} {Q : Value → Shared → Prop} {E : Value → Shared → Prop}
  (B : Below A₀ h₀ [] h₀) (F : Fr h₀ L s.heap m) (X₀ : (hd.heap_39 w.params).In h₀)
  (N : News h₀ L s.heap ((x, oneL dx l n1) :: (dx, oneD h1 h2 t1 t2 b t n2) :: (t, tabO w xs n3) :: (S, stateO Bk i z u1 u2 nS) :: r))
  (O : Off4 x dx t S r)
  (T : Top p loose mean mg mb h₀) (hA : A.frames = some [env]) (hf : env.frame = some L) (hke : env.scope.kind = .function) (hh : A.handled = none) (hd : A.depth + 80 < recursionLimit) (hu : A.units + 600 < cLine) {many : Int} {um : Tok} {nb : Nat} {vs : List Value} {ns : List Int} (hB : (Bk, listOf vs.toArray nb) ∈ r) (hI : IntsAre vs ns) (hlen' : ns.length ≤ 40) (hi : 0 ≤ i) (hz : 0 < many)
  (h : ∀ h' tk i' z' u1' u2' n' q u, 0 ≤ i' → 0 ≤ q → q < many → Fr h₀ L h' m → News h₀ L h' ((x, oneL dx l n1) :: (dx, oneD h1 h2 t1 t2 b t n2) :: (t, tabO w xs n3) :: (S, stateO Bk i' z' u1' u2' n') :: r) → Q (.int q u) { s with heap := h', toks := tk })
  : wpAny (model Challenge.rw_ww0011_01.row.prog w) A (call (.ref 81) [.ref S, .int many um]) Q E s :=
  next_c B F X₀ (news_S N) (List.Mem.tail _ (List.Mem.tail _ (List.Mem.tail _ hB))) hI hlen' hi hz (off_cons (Ne.symm O.xS) (off_cons (Ne.symm O.dS) (off_cons (Ne.symm O.tS) O.rS))) T hA hf hke hh (by omega) (by omega)
    fun h' tk i' z' u1' u2' n' q u a1 a2 a3 F' N' => h h' tk i' z' u1' u2' n' q u a1 a2 a3 F' (news_S' N')
end Mine

end
section
open PySem PySem.W PyProof.Rows PySem.Calls
set_option Elab.async false
set_option maxRecDepth 100000
set_option pp.deepTerms false
namespace Mine
section
variable {prog : Program} {w : World} {A : Around} {E : Value → Shared → Prop} {s : Shared} {P : Params} {H D V x dx t S : Addr} {l : List (Fin 8)} {k : Fin 8} {n n' nH nV n1 : Nat} {h₀ : Heap} {L : Addr} {m : Str → Option Value} {news : List (Addr × Obj)} {Q : Value → Shared → Prop}
theorem in_yes (F : Fr h₀ L s.heap m) (X₀ : (hd.heap_39 P).In h₀) (N : News h₀ L s.heap news) (hm : (H, heldO l nH) ∈ news) (hu : A.units + 8 < cLine) (hk : k ∈ l) (h : Q (.bool true) s) : wpAny (model prog w) A (compareOp .In (mV k) (.ref H)) Q E s :=
  in_held (menu_K (X₀.keeps F.keep)) (N _ hm).1 hu (by rw [decide_eq_true hk]; exact h)
theorem in_no (F : Fr h₀ L s.heap m) (X₀ : (hd.heap_39 P).In h₀) (N : News h₀ L s.heap news) (hm : (H, heldO l nH) ∈ news) (hu : A.units + 8 < cLine) (hk : k ∉ l) (h : Q (.bool false) s) : wpAny (model prog w) A (compareOp .In (mV k) (.ref H)) Q E s :=
  in_held (menu_K (X₀.keeps F.keep)) (N _ hm).1 hu (by rw [decide_eq_false hk]; exact h)
theorem in_split (F : Fr h₀ L s.heap m) (X₀ : (hd.heap_39 P).In h₀) (N : News h₀ L s.heap news) (hm : (H, heldO l nH) ∈ news) (hu : A.units + 8 < cLine) (h1 : k ∈ l → Q (.bool true) s) (h2 : k ∉ l → Q (.bool false) s) : wpAny (model prog w) A (compareOp .In (mV k) (.ref H)) Q E s := by
  by_cases hk : k ∈ l
  · exact in_yes F X₀ N hm hu hk (h1 hk)
  · exact in_no F X₀ N hm hu hk (h2 hk)
theorem ne_same (F : Fr h₀ L s.heap m) (X₀ : (hd.heap_39 P).In h₀) (N : News h₀ L s.heap news) (hD : (D, heldO l n) ∈ news) (hH : (H, heldO l nH) ∈ news) (hu : A.units + 64 < cLine) (h : Q (.bool false) s) : wpAny (model prog w) A (compareOp .NotEq (.ref D) (.ref H)) Q E s :=
  ne_held (menu_K (X₀.keeps F.keep)) (N _ hD).1 (N _ hH).1 hu (by simpa using h)
theorem ne_nil (F : Fr h₀ L s.heap m) (X₀ : (hd.heap_39 P).In h₀) (N : News h₀ L s.heap news) (hH : (H, heldO l n) ∈ news) (hD : (D, heldO [] nH) ∈ news) (hu : A.units + 64 < cLine) (h1 : l = [] → Q (.bool false) s) (h2 : l ≠ [] → Q (.bool true) s) : wpAny (model prog w) A (compareOp .NotEq (.ref H) (.ref D)) Q E s := by
  refine ne_held (menu_K (X₀.keeps F.keep)) (N _ hH).1 (N _ hD).1 hu ?_
  by_cases hl : l = []
  · rw [decide_eq_true hl]; exact h1 hl
  · rw [decide_eq_false hl]; exact h2 hl
theorem ne_menu_same (F : Fr h₀ L s.heap m) (X₀ : (hd.heap_39 P).In h₀) (hu : A.units + 64 < cLine) (h : Q (.bool false) s) : wpAny (model prog w) A (compareOp .NotEq (mV k) (mV k)) Q E s :=
  ne_menu (menu_K (X₀.keeps F.keep)) hu (by simpa using h)
theorem ne_int_same {a : Int} {u u' : Tok} (h : Q (.bool false) s) : wpAny (model prog w) A (compareOp .NotEq (.int a u) (.int a u')) Q E s := PyProof.Rows.ne_int (by simpa using h)
theorem len_held (N : News h₀ L s.heap news) (hm : (H, heldO l nH) ∈ news) (hz : l.length ≤ 100) (h : ∀ tk u, Q (.int (l.length : Nat) u) { s with toks := tk }) : wpAny (model prog w) A (call (.builtin "len") [.ref H]) Q E s :=
  len_list (items := (l.map mV).toArray) ⟨_, (N _ hm).1, rfl, _, rfl⟩ (by simp; omega) (by have := h (s.toks + 1 + 1) (s.toks + 1); simpa using this)
theorem len_oneL (F : Fr h₀ L s.heap m) (X₀ : (hd.heap_39 P).In h₀) (N : News h₀ L s.heap news) (hm : (x, oneL dx l n) ∈ news) (hz : l.length ≤ 100) (h : ∀ tk u, Q (.int (l.length : Nat) u) { s with toks := tk }) : wpAny (model prog w) A (call (.builtin "len") [.ref x]) Q E s :=
  len_one_K F X₀ N hm (by simp; omega) fun tk u => by have := h tk u; simpa using this
theorem idx_held (F : Fr h₀ L s.heap m) (X₀ : (hd.heap_39 P).In h₀) (N : News h₀ L s.heap news) (hm : (H, heldO l nH) ∈ news) (hu : A.units + 8 < cLine) (hk : k ∈ l) (hz : l.length ≤ 100) (h : ∀ tk u, Q (.int (l.idxOf k : Nat) u) { s with toks := tk }) :
    wpAny (model prog w) A (call (.builtin "list.index") [.ref H, mV k]) Q E s := index_held (menu_K (X₀.keeps F.keep)) (N _ hm).1 hu hk hz h
theorem last_get (hl : l ≠ []) : (l.map mV).toArray[(l.map mV).toArray.size - 1]? = some (mV (l.getLast hl)) := by
  have h1 : 0 < l.length := List.length_pos_iff.mpr hl
  have h2 : l.length - 1 < l.length := by omega
  simp [List.getLast_eq_getElem, h2]
theorem head_get (hl : l ≠ []) : (l.map mV).toArray[0]? = some (mV (l.head hl)) := by
  cases l with
  | nil => exact absurd rfl hl
  | cons a r => rfl
theorem one_last {value slice : Expr} {u : Tok} (F : Fr h₀ L s.heap m) (X₀ : (hd.heap_39 P).In h₀) (N : News h₀ L s.heap news) (hm : (x, oneL dx l n) ∈ news) (hl : l ≠ []) (h : Q (mV (l.getLast hl)) s)
    (hs : subscripted slice false (.ref x) (.int (-1) u) = operate [.ref x, .int (-1) u] (getItem (.ref x) (.int (-1) u)) := by with_unfolding_all rfl) : wpAny (model prog w) A (subscriptTail value slice (.ref x) (.int (-1) u)) Q E s :=
  one_tail (X₀.keeps F.keep) (N _ hm).1 (one_getitem (X₀.keeps F.keep) (N _ hm).1 (.inr ⟨rfl, by simp [List.length_pos_iff.mpr hl], last_get hl⟩) h) hs
theorem one_first {value slice : Expr} {u : Tok} (F : Fr h₀ L s.heap m) (X₀ : (hd.heap_39 P).In h₀) (N : News h₀ L s.heap news) (hm : (x, oneL dx l n) ∈ news) (hl : l ≠ []) (h : Q (mV (l.head hl)) s)
    (hs : subscripted slice false (.ref x) (.int 0 u) = operate [.ref x, .int 0 u] (getItem (.ref x) (.int 0 u)) := by with_unfolding_all rfl) : wpAny (model prog w) A (subscriptTail value slice (.ref x) (.int 0 u)) Q E s :=
  one_tail (X₀.keeps F.keep) (N _ hm).1 (one_getitem (X₀.keeps F.keep) (N _ hm).1 (.inl ⟨rfl, head_get hl⟩) h) hs
theorem held_last {value slice : Expr} {u : Tok} (N : News h₀ L s.heap news) (hm : (H, heldO l n) ∈ news) (hl : l ≠ []) (hz : l.length ≤ 100) (h : Q (mV (l.getLast hl)) s)
    (hs : subscripted slice false (.ref H) (.int (-1) u) = operate [.ref H, .int (-1) u] (getItem (.ref H) (.int (-1) u)) := by with_unfolding_all rfl) (hg : ∀ r, letTemporaryGo value (.ref H) r = pure () := by intro _; with_unfolding_all rfl) : wpAny (model prog w) A (subscriptTail value slice (.ref H) (.int (-1) u)) Q E s := by
  have hp := List.length_pos_iff.mpr hl
  have e : ((-1 : Int) + ((l.map mV).toArray.size : Nat)).toNat = (l.map mV).toArray.size - 1 := by simp; omega
  have hL : s.heap.IsList H (l.map mV).toArray := ⟨_, (N _ hm).1, rfl, _, rfl⟩
  exact subscriptTail_builtin hL.typeIs slot_list_getitem.lookup (wpAny_getItem_list_neg hL (by decide) (by simp; omega) (by decide) (by rw [e]; exact last_get hl) h) hs hg
theorem held_first {value slice : Expr} {u : Tok} (N : News h₀ L s.heap news) (hm : (H, heldO l n) ∈ news) (hl : l ≠ []) (h : Q (mV (l.head hl)) s)
    (hs : subscripted slice false (.ref H) (.int 0 u) = operate [.ref H, .int 0 u] (getItem (.ref H) (.int 0 u)) := by with_unfolding_all rfl) (hg : ∀ r, letTemporaryGo value (.ref H) r = pure () := by intro _; with_unfolding_all rfl) : wpAny (model prog w) A (subscriptTail value slice (.ref H) (.int 0 u)) Q E s :=
  item_list (items := (l.map mV).toArray) ⟨_, (N _ hm).1, rfl, _, rfl⟩ (by decide) (by decide) (head_get hl) h hs hg
theorem list_L (F : Fr h₀ L s.heap m) (X₀ : (hd.heap_39 P).In h₀) (N : News h₀ L s.heap news) (hm : (x, oneL dx l n) ∈ news) (hz : l.length ≤ 100) (hh : A.handled = none)
    (h : ∀ h' tk D n', Fr h₀ L h' m → News h₀ L h' ((D, heldO l n') :: news) → (∀ p ∈ news, p.1 < D) → Q (.ref D) { s with heap := h', toks := tk }) : wpAny (model prog w) A (call (.type "list") [.ref x]) Q E s := by
  refine call_list_one hh (X₀.keeps F.keep) (N _ hm).1 (by simpa using hz) fun h' tk D c hD hget hkeep => ?_
  have hLs : L < s.heap.objs.size := F.ns.lt
  refine h h' tk D c ⟨F.ns.keeps hkeep, fun b o e => hkeep b o (F.keep b o e), F.above⟩ ?_ fun p hp => Nat.lt_of_lt_of_le (Heap.lt_size (N p hp).1) hD
  intro p hp
  rcases List.mem_cons.mp hp with rfl | hp
  · exact ⟨hget, Nat.ne_of_gt (Nat.lt_of_lt_of_le hLs hD), Heap.get?_none_of_le (Nat.le_trans F.above (Nat.le_trans (Nat.le_of_lt hLs) hD))⟩
  · exact ⟨hkeep _ _ (N p hp).1, (N p hp).2⟩
theorem plus_L {ox od ot oS : Obj} {r : List (Addr × Obj)} (F : Fr h₀ L s.heap m) (N : News h₀ L s.heap news) (hH : (H, heldO l nH) ∈ news) (hV : (V, heldO [k] nV) ∈ news) (N0 : News h₀ L s.heap ((x, ox) :: (dx, od) :: (t, ot) :: (S, oS) :: r)) (O : Off4 x dx t S r) (hz : l.length ≤ 90)
    (h : ∀ D h', Fr h₀ L h' m → News h₀ L h' ((x, ox) :: (dx, od) :: (t, ot) :: (S, oS) :: (D, heldO (l ++ [k]) 0) :: r) → Off4 x dx t S ((D, heldO (l ++ [k]) 0) :: r) → (∀ p ∈ r, p.1 ≠ D) → Q (.ref D) { s with heap := h' }) : wpAny (model prog w) A (binaryOp .Add (.ref H) (.ref V)) Q E s := by
  refine add_held F N0 (N _ hH).1 (N _ hV).1 (by simp; omega) fun D h' F' N' lo => ?_
  refine h D h' F' (fun p hp => N' p ?_) (O.cons (Nat.ne_of_lt (lo _ (.head _))) (Nat.ne_of_lt (lo _ (.tail _ (.head _)))) (Nat.ne_of_lt (lo _ (.tail _ (.tail _ (.head _))))) (Nat.ne_of_lt (lo _ (.tail _ (.tail _ (.tail _ (.head _))))))) fun p hp => Nat.ne_of_lt (lo p (.tail _ (.tail _ (.tail _ (.tail _ hp)))))
  simp only [List.mem_cons] at hp ⊢
  rcases hp with h | h | h | h | h | h
  · exact .inr (.inl h)
  · exact .inr (.inr (.inl h))
  · exact .inr (.inr (.inr (.inl h)))
  · exact .inr (.inr (.inr (.inr (.inl h))))
  · exact .inl h
  · exact .inr (.inr (.inr (.inr (.inr h))))
theorem drop1 {h₀ h : Heap} {L : Addr} {a : Addr × Obj} {r : List (Addr × Obj)} (N : News h₀ L h (a :: r)) : News h₀ L h r := fun p hp => N p (.tail _ hp)
end
section
variable {prog : Program} {w : World} {A : Around} {h₀ : Heap} {L : Addr} {m : Str → Option Value} {env : Env} {elt : Expr} {x : Str} {scope : Scope} {cl : List (Str × Addr)} {s : Shared} {S : List (Addr × Obj) → Prop} {P : Nat → Value → Prop} {Fn : List Value → List (Addr × Obj) → Prop} {news : List (Addr × Obj)}
def MenuEnd (news : List (Addr × Obj)) (z : Int) (y : Value) (news' : List (Addr × Obj)) : Prop := news' = news ∧ ∃ k : Fin 8, y = mV k ∧ (k.val : Int) = z
theorem comp_menu {n : Nat} (g : Nat → Int)
    (turn : ∀ i t ys I oI C oC D m₂ h tk (E' : Value → Shared → Prop), i < n → LCg.NsObj oC m₂ → m₂ x = some (.int (i : Nat) t) → Fr h₀ L h m → News h₀ L h ((I, oI) :: (C, oC) :: (D, LCg.lst ys) :: news) → LCg.Off3 I C D news → ((@Ne Nat I C) ∧ (@Ne Nat I D) ∧ (@Ne Nat C D)) →
      wpAny (model prog w) A (eval elt (compEnvC scope cl C env)) (LCg.CompEnd h₀ L m { s with heap := h, toks := tk } I oI C oC D (LCg.lst ys) S (fun y news' => MenuEnd news (g i) y news')) E' { s with heap := h, toks := tk })
    (fin : ∀ l : List (Fin 8), l.length = n → (∀ j (hj : j < l.length), (l[j].val : Int) = g j) → Fn (l.map mV) news) : LCg.CompRest prog w A h₀ L m env elt x scope cl s S (fun i v => ∃ t, v = .int (0 + (i : Int)) t) Fn n 0 [] news := by
  refine comp_inv (fun i ys news₁ => news₁ = news ∧ ∃ l : List (Fin 8), ys = l.map mV ∧ l.length = i ∧ ∀ j (hj : j < l.length), (l[j].val : Int) = g j) ?_ ⟨rfl, [], rfl, rfl, fun j hj => nomatch hj⟩ ?_
  · rintro i v ys news₁ I oI C oC D m₂ h tk E' hi ⟨t, rfl⟩ ⟨rfl, l, rfl, hl, hg⟩ hC hx F N off ne
    rw [Int.zero_add] at hx
    refine wpAny_mono (turn i t _ I oI C oC D m₂ h tk E' hi hC hx F N off ne) (fun y s₂ hq => ?_) fun _ _ e => e
    obtain ⟨h', tk', nw, e, F', N', off', hS, hn, k, rfl, hk⟩ := hq
    refine ⟨h', tk', nw, e, F', N', off', hS, hn, l ++ [k], by simp, by simp [hl], fun j hj => ?_⟩
    rw [List.getElem_append]
    split
    · exact hg j _
    · rename_i hj'
      simp only [List.length_append, List.length_singleton] at hj
      have : j = i := by omega
      subst this
      simpa using hk
  · rintro ys news' ⟨rfl, l, rfl, hl, hg⟩
    exact fin l hl hg
end
theorem stride_nodup {l : List (Fin 8)} {f : Int} (h5 : l.length < 5) (hg : ∀ j (hj : j < l.length), (l[j].val : Int) = (f + 3 * (j : Int)).fmod 8) : l.Nodup := by
  rw [List.nodup_iff_pairwise_ne, List.pairwise_iff_getElem]
  intro i j hi hj hij e
  have e1 := hg i hi
  have e2 := hg j hj
  rw [e] at e1
  rw [e1] at e2
  rw [Int.fmod_eq_emod_of_nonneg _ (by decide), Int.fmod_eq_emod_of_nonneg _ (by decide)] at e2
  omega
end Mine

end
section
open PySem PySem.W PyProof.Rows PySem.Calls
set_option Elab.async false
set_option maxRecDepth 100000
namespace Mine
/-! the law's own def, read off the given row -/
def lawFn : Option (List Stmt × Scope) := match PySem.Challenge.pw_ww0011_01.main.body.getLast? with
  | some (.FunctionDef (body := b) (scope := sc) ..) => some (b, sc)
  | _ => none
def lawBody : List Stmt := (lawFn.map (·.1)).getD []
def lawScope : Scope := (lawFn.map (·.2)).getD { kind := .module, names := [], isGenerator := false, isCoroutine := false, more := [] }
def turnOf : Option Stmt → List Stmt
  | some (Stmt.For _ _ b _ _) => b
  | _ => []
def turnBody : List Stmt := turnOf (lawBody[4]?)
def lawTail : List Stmt := lawBody.drop 4
def checkBody : List Stmt := turnBody.drop 3
end Mine

end
section
open PySem PySem.W PyProof.Rows PySem.Calls
set_option Elab.async false
set_option maxRecDepth 100000
set_option pp.deepTerms false
namespace Mine
theorem addk_yes {k : Fin 8} {l : List (Fin 8)} (h : k ∈ l) : addk k l = l := if_pos h
theorem addk_no {k : Fin 8} {l : List (Fin 8)} (h : k ∉ l) : addk k l = l ++ [k] := if_neg h
theorem add_y {A₀ : Around} {h₀ : Heap} {env : Env} {L : Addr} {m mg mb : Str → Option Value} {p : Program} {loose : List Str} {mean : ExcName → Option Value} {s : Shared} {w : World} {A : Around}
  {x dx t S Bk : Addr} {h1 h2 i z : Int} {t1 t2 u1 u2 : Tok} {b : Bool} {n1 n2 n3 nS : Nat} {l : List (Fin 8)} {xs : List (Fin 8 × Value)} {r : List (Addr × Obj)} {k : Fin 8} {Q : Value → Shared → Prop} {E : Value → Shared → Prop}
  (B : Below A₀ h₀ [] h₀) (F : Fr h₀ L s.heap m) (X₀ : (hd.heap_39 w.params).In h₀)
  (N : News h₀ L s.heap ((x, oneL dx l n1) :: (dx, oneD h1 h2 t1 t2 b t n2) :: (t, tabO w xs n3) :: (S, stateO Bk i z u1 u2 nS) :: r))
  (K : OneTab l xs) (O : Off4 x dx t S r)
  (T : Top p loose mean mg mb h₀) (hA : A.frames = some [env]) (hf : env.frame = some L) (hke : env.scope.kind = .function) (hh : A.handled = none) (hd : A.depth + 80 < recursionLimit) (hu : A.units + 600 < cLine) (hk : k ∈ l)
  (h : ∀ h' tk u xs' n1' n3', OneTab l xs' → Fr h₀ L h' m → News h₀ L h' ((x, oneL dx l n1') :: (dx, oneD h1 h2 t1 t2 b t n2) :: (t, tabO w xs' n3') :: (S, stateO Bk i z u1 u2 nS) :: r) → Q (.int (l.idxOf k : Nat) u) { s with heap := h', toks := tk })
  : wpAny (model Challenge.rw_ww0011_01.row.prog w) A (call (.ref 65) [.ref x, mV k]) Q E s := add_L B F X₀ N K O T hA hf hke hh hd hu (by rw [addk_yes hk]; exact h)
theorem add_n {A₀ : Around} {h₀ : Heap} {env : Env} {L : Addr} {m mg mb : Str → Option Value} {p : Program} {loose : List Str} {mean : ExcName → Option Value} {s : Shared} {w : World} {A : Around}
  {x dx t S Bk : Addr} {h1 h2 i z : Int} {t1 t2 u1 u2 : Tok} {b : Bool} {n1 n2 n3 nS : Nat} {l : List (Fin 8)} {xs : List (Fin 8 × Value)} {r : List (Addr × Obj)} {k : Fin 8} {Q : Value → Shared → Prop} {E : Value → Shared → Prop}
  (B : Below A₀ h₀ [] h₀) (F : Fr h₀ L s.heap m) (X₀ : (hd.heap_39 w.params).In h₀)
  (N : News h₀ L s.heap ((x, oneL dx l n1) :: (dx, oneD h1 h2 t1 t2 b t n2) :: (t, tabO w xs n3) :: (S, stateO Bk i z u1 u2 nS) :: r))
  (K : OneTab l xs) (O : Off4 x dx t S r)
  (T : Top p loose mean mg mb h₀) (hA : A.frames = some [env]) (hf : env.frame = some L) (hke : env.scope.kind = .function) (hh : A.handled = none) (hd : A.depth + 80 < recursionLimit) (hu : A.units + 600 < cLine) (hk : k ∉ l)
  (h : ∀ h' tk u xs' n1' n3', OneTab (l ++ [k]) xs' → Fr h₀ L h' m → News h₀ L h' ((x, oneL dx (l ++ [k]) n1') :: (dx, oneD h1 h2 t1 t2 b t n2) :: (t, tabO w xs' n3') :: (S, stateO Bk i z u1 u2 nS) :: r) → Q (.int ((l ++ [k]).idxOf k : Nat) u) { s with heap := h', toks := tk })
  : wpAny (model Challenge.rw_ww0011_01.row.prog w) A (call (.ref 65) [.ref x, mV k]) Q E s := add_L B F X₀ N K O T hA hf hke hh hd hu (by rw [addk_no hk]; exact h)
theorem append_y {A₀ : Around} {h₀ : Heap} {env : Env} {L : Addr} {m mg mb : Str → Option Value} {p : Program} {loose : List Str} {mean : ExcName → Option Value} {s : Shared} {w : World} {A : Around}
  {x dx t S Bk : Addr} {h1 h2 i z : Int} {t1 t2 u1 u2 : Tok} {b : Bool} {n1 n2 n3 nS : Nat} {l : List (Fin 8)} {xs : List (Fin 8 × Value)} {r : List (Addr × Obj)} {k : Fin 8} {Q : Value → Shared → Prop} {E : Value → Shared → Prop}
  (B : Below A₀ h₀ [] h₀) (F : Fr h₀ L s.heap m) (X₀ : (hd.heap_39 w.params).In h₀)
  (N : News h₀ L s.heap ((x, oneL dx l n1) :: (dx, oneD h1 h2 t1 t2 b t n2) :: (t, tabO w xs n3) :: (S, stateO Bk i z u1 u2 nS) :: r))
  (K : OneTab l xs) (O : Off4 x dx t S r)
  (T : Top p loose mean mg mb h₀) (hA : A.frames = some [env]) (hf : env.frame = some L) (hke : env.scope.kind = .function) (hh : A.handled = none) (hd : A.depth + 80 < recursionLimit) (hu : A.units + 600 < cLine) (hk : k ∈ l)
  (h : ∀ h' tk xs' n1' n3', OneTab l xs' → Fr h₀ L h' m → News h₀ L h' ((x, oneL dx l n1') :: (dx, oneD h1 h2 t1 t2 b t n2) :: (t, tabO w xs' n3') :: (S, stateO Bk i z u1 u2 nS) :: r) → Q .none { s with heap := h', toks := tk })
  : wpAny (model Challenge.rw_ww0011_01.row.prog w) A (call (.ref 58) [.ref x, mV k]) Q E s := append_L B F X₀ N K O T hA hf hke hh hd hu (by rw [addk_yes hk]; exact h)
theorem append_n {A₀ : Around} {h₀ : Heap} {env : Env} {L : Addr} {m mg mb : Str → Option Value} {p : Program} {loose : List Str} {mean : ExcName → Option Value} {s : Shared} {w : World} {A : Around}
  {x dx t S Bk : Addr} {h1 h2 i z : Int} {t1 t2 u1 u2 : Tok} {b : Bool} {n1 n2 n3 nS : Nat} {l : List (Fin 8)} {xs : List (Fin 8 × Value)} {r : List (Addr × Obj)} {k : Fin 8} {Q : Value → Shared → Prop} {E : Value → Shared → Prop}
  (B : Below A₀ h₀ [] h₀) (F : Fr h₀ L s.heap m) (X₀ : (hd.heap_39 w.params).In h₀)
  (N : News h₀ L s.heap ((x, oneL dx l n1) :: (dx, oneD h1 h2 t1 t2 b t n2) :: (t, tabO w xs n3) :: (S, stateO Bk i z u1 u2 nS) :: r))
  (K : OneTab l xs) (O : Off4 x dx t S r)
  (T : Top p loose mean mg mb h₀) (hA : A.frames = some [env]) (hf : env.frame = some L) (hke : env.scope.kind = .function) (hh : A.handled = none) (hd : A.depth + 80 < recursionLimit) (hu : A.units + 600 < cLine) (hk : k ∉ l)
  (h : ∀ h' tk xs' n1' n3', OneTab (l ++ [k]) xs' → Fr h₀ L h' m → News h₀ L h' ((x, oneL dx (l ++ [k]) n1') :: (dx, oneD h1 h2 t1 t2 b t n2) :: (t, tabO w xs' n3') :: (S, stateO Bk i z u1 u2 nS) :: r) → Q .none { s with heap := h', toks := tk })
  : wpAny (model Challenge.rw_ww0011_01.row.prog w) A (call (.ref 58) [.ref x, mV k]) Q E s := append_L B F X₀ N K O T hA hf hke hh hd hu (by rw [addk_no hk]; exact h)
theorem contains_b {A₀ : Around} {h₀ : Heap} {env : Env} {L : Addr} {m mg mb : Str → Option Value} {p : Program} {loose : List Str} {mean : ExcName → Option Value} {s : Shared} {w : World} {A : Around}
  {x dx t S Bk : Addr} {h1 h2 i z : Int} {t1 t2 u1 u2 : Tok} {b : Bool} {n1 n2 n3 nS : Nat} {l : List (Fin 8)} {xs : List (Fin 8 × Value)} {r : List (Addr × Obj)} {k : Fin 8} {Q : Value → Shared → Prop} {E : Value → Shared → Prop}
  (B : Below A₀ h₀ [] h₀) (F : Fr h₀ L s.heap m) (X₀ : (hd.heap_39 w.params).In h₀)
  (N : News h₀ L s.heap ((x, oneL dx l n1) :: (dx, oneD h1 h2 t1 t2 b t n2) :: (t, tabO w xs n3) :: (S, stateO Bk i z u1 u2 nS) :: r))
  (K : OneTab l xs) (O : Off4 x dx t S r)
  (T : Top p loose mean mg mb h₀) (hA : A.frames = some [env]) (hf : env.frame = some L) (hke : env.scope.kind = .function) (hh : A.handled = none) (hd : A.depth + 80 < recursionLimit) (hu : A.units + 600 < cLine) {bb : Bool} (hk : decide (k ∈ l) = bb)
  (h : ∀ h' tk t' xs' b' t1' t2' n2' n3', OneTab l xs' → Off4 x dx t' S r → Fr h₀ L h' m → News h₀ L h' ((x, oneL dx l n1) :: (dx, oneD h1 h2 t1' t2' b' t' n2') :: (t', tabO w xs' n3') :: (S, stateO Bk i z u1 u2 nS) :: r) → Q (.bool bb) { s with heap := h', toks := tk })
  : wpAny (model Challenge.rw_ww0011_01.row.prog w) A (call (.ref 44) [.ref x, mV k]) Q E s := contains_L B F X₀ N K O T hA hf hke hh hd hu (by rw [hk]; exact h)
theorem place_y {A₀ : Around} {h₀ : Heap} {env : Env} {L : Addr} {m mg mb : Str → Option Value} {p : Program} {loose : List Str} {mean : ExcName → Option Value} {s : Shared} {w : World} {A : Around}
  {x dx t S Bk : Addr} {h1 h2 i z : Int} {t1 t2 u1 u2 : Tok} {b : Bool} {n1 n2 n3 nS : Nat} {l : List (Fin 8)} {xs : List (Fin 8 × Value)} {r : List (Addr × Obj)} {k : Fin 8} {Q : Value → Shared → Prop} {E : Value → Shared → Prop}
  (B : Below A₀ h₀ [] h₀) (F : Fr h₀ L s.heap m) (X₀ : (hd.heap_39 w.params).In h₀)
  (N : News h₀ L s.heap ((x, oneL dx l n1) :: (dx, oneD h1 h2 t1 t2 b t n2) :: (t, tabO w xs n3) :: (S, stateO Bk i z u1 u2 nS) :: r))
  (K : OneTab l xs) (O : Off4 x dx t S r)
  (T : Top p loose mean mg mb h₀) (hA : A.frames = some [env]) (hf : env.frame = some L) (hke : env.scope.kind = .function) (hh : A.handled = none) (hd : A.depth + 80 < recursionLimit) (hu : A.units + 600 < cLine) (hk : k ∈ l)
  (h : ∀ h' tk t' xs' b' t1' t2' n2' n3' u, OneTab l xs' → Off4 x dx t' S r → Fr h₀ L h' m → News h₀ L h' ((x, oneL dx l n1) :: (dx, oneD h1 h2 t1' t2' b' t' n2') :: (t', tabO w xs' n3') :: (S, stateO Bk i z u1 u2 nS) :: r) → Q (.int (l.idxOf k : Nat) u) { s with heap := h', toks := tk })
  : wpAny (model Challenge.rw_ww0011_01.row.prog w) A (call (.ref 88) [.ref x, mV k]) Q E s := place_L B F X₀ N K O T hA hf hke hh hd hu fun h' tk t' xs' b' t1' t2' n2' n3' K' O' F' N' v q1 _ => by
    obtain ⟨u, rfl⟩ := q1 hk
    exact h h' tk t' xs' b' t1' t2' n2' n3' u K' O' F' N'
theorem place_n {A₀ : Around} {h₀ : Heap} {env : Env} {L : Addr} {m mg mb : Str → Option Value} {p : Program} {loose : List Str} {mean : ExcName → Option Value} {s : Shared} {w : World} {A : Around}
  {x dx t S Bk : Addr} {h1 h2 i z : Int} {t1 t2 u1 u2 : Tok} {b : Bool} {n1 n2 n3 nS : Nat} {l : List (Fin 8)} {xs : List (Fin 8 × Value)} {r : List (Addr × Obj)} {k : Fin 8} {Q : Value → Shared → Prop} {E : Value → Shared → Prop}
  (B : Below A₀ h₀ [] h₀) (F : Fr h₀ L s.heap m) (X₀ : (hd.heap_39 w.params).In h₀)
  (N : News h₀ L s.heap ((x, oneL dx l n1) :: (dx, oneD h1 h2 t1 t2 b t n2) :: (t, tabO w xs n3) :: (S, stateO Bk i z u1 u2 nS) :: r))
  (K : OneTab l xs) (O : Off4 x dx t S r)
  (T : Top p loose mean mg mb h₀) (hA : A.frames = some [env]) (hf : env.frame = some L) (hke : env.scope.kind = .function) (hh : A.handled = none) (hd : A.depth + 80 < recursionLimit) (hu : A.units + 600 < cLine) (hk : k ∉ l)
  (h : ∀ h' tk t' xs' b' t1' t2' n2' n3' u, OneTab l xs' → Off4 x dx t' S r → Fr h₀ L h' m → News h₀ L h' ((x, oneL dx l n1) :: (dx, oneD h1 h2 t1' t2' b' t' n2') :: (t', tabO w xs' n3') :: (S, stateO Bk i z u1 u2 nS) :: r) → Q (.str "refused" u) { s with heap := h', toks := tk })
  : wpAny (model Challenge.rw_ww0011_01.row.prog w) A (call (.ref 88) [.ref x, mV k]) Q E s := place_L B F X₀ N K O T hA hf hke hh hd hu fun h' tk t' xs' b' t1' t2' n2' n3' K' O' F' N' v _ q2 => by
    obtain ⟨u, rfl⟩ := q2 hk
    exact h h' tk t' xs' b' t1' t2' n2' n3' u K' O' F' N'
end Mine

end
section
open PySem PySem.W PyProof.Rows
set_option Elab.async false
set_option pp.deepTerms false
set_option pp.proofs false
set_option maxRecDepth 100000
set_option maxHeartbeats 8000000
set_option linter.unusedVariables false
namespace Mine
local macro_rules | `(tactic| k_mem) => `(tactic| first | assumption | exact List.Mem.head _ | exact List.Mem.tail _ (by assumption) | exact List.Mem.tail _ (List.Mem.head _) | exact List.Mem.tail _ (List.Mem.tail _ (by assumption)))
local macro_rules | `(tactic| walk_at "eval Name") => `(tactic| (k_here; k_dflt (first
  | (refine' nameX_L ?F ?v ?_ ?a ?b; (case F => k_asm); (case a => rfl); (case b => rfl); (case v => first | rfl | assumption); k_whole)
  | (refine' nameX_C ?N ?c ?m ?d ?_ ?a ?b; (case a => rfl); (case b => rfl); (case N => k_asm); (case c => rfl); (case m => k_mem); (case d => k_asm); k_whole))))
local macro_rules | `(tactic| walk_at "call type:list") => `(tactic| (k_here; k_dflt (refine' list_L ?k1 ?k2 ?k3 ?k4 ?k5 ?k6 ?_; (case k1 => k_asm); (case k2 => k_asm); (case k3 => k_asm); (case k4 => k_mem); (case k5 => k_asm); (case k6 => exact rfl); k_whole); intro h' tk' D' n' F' N' lo'; (try k_sweep)))
local macro_rules | `(tactic| walk_at "compareOp NotEq ref ref") => `(tactic| (k_here; k_dflt (first
  | (refine' ne_same ?k1 ?k2 ?k3 ?k4 ?k5 ?k6 ?_; (case k1 => k_asm); (case k2 => k_asm); (case k3 => k_asm); (case k4 => k_mem); (case k5 => k_mem); (case k6 => exact Nat.le_of_ble_eq_true rfl); k_whole)
  | (refine' ne_nil ?k1 ?k2 ?k3 ?k4 ?k5 ?k6 (fun hl' => ?_) (fun hl' => ?_); (case k1 => k_asm); (case k2 => k_asm); (case k3 => k_asm); (case k4 => k_mem); (case k5 => k_mem); (case k6 => exact Nat.le_of_ble_eq_true rfl); k_whole))))
local macro_rules | `(tactic| walk_at "compareOp NotEq int int") => `(tactic| (refine' ne_int_same ?_; k_whole))
local macro_rules | `(tactic| walk_at "compareOp NotEq") => `(tactic| (k_here; k_dflt (refine' ne_menu_same ?k1 ?k2 ?k3 ?_; (case k1 => k_asm); (case k2 => k_asm); (case k3 => exact Nat.le_of_ble_eq_true rfl); k_whole)))
local macro_rules | `(tactic| walk_at "call builtin:len") => `(tactic| (k_here; k_dflt (first
  | (refine' len_oneL ?k1 ?k2 ?k3 ?k4 ?k5 ?_; (case k1 => k_asm); (case k2 => k_asm); (case k3 => k_asm); (case k4 => k_mem); (case k5 => assumption); k_whole)
  | (refine' len_held ?k1 ?k2 ?k3 ?_; (case k1 => k_asm); (case k2 => k_mem); (case k3 => assumption); k_whole)); intro tk' u'))
local macro_rules | `(tactic| walk_at "subscriptTail Name UnaryOp ref int") => `(tactic| (k_here; k_dflt (first
  | (refine' one_last ?k1 ?k2 ?k3 ?k4 ?k5 ?_; (case k1 => k_asm); (case k2 => k_asm); (case k3 => k_asm); (case k4 => k_mem); (case k5 => assumption); k_whole)
  | (refine' held_last ?k1 ?k2 ?k3 ?k4 ?_; (case k1 => k_asm); (case k2 => k_mem); (case k3 => assumption); (case k4 => assumption); k_whole))))
local macro_rules | `(tactic| walk_at "subscriptTail Name Constant ref int") => `(tactic| (k_here; k_dflt (first
  | (refine' one_first ?k1 ?k2 ?k3 ?k4 ?k5 ?_; (case k1 => k_asm); (case k2 => k_asm); (case k3 => k_asm); (case k4 => k_mem); (case k5 => assumption); k_whole)
  | (refine' held_first ?k1 ?k2 ?k3 ?_; (case k1 => k_asm); (case k2 => k_mem); (case k3 => assumption); k_whole))))
theorem law_checks {h₀ : Heap} {L a : Addr} {m mg mb : Str → Option Value} {p : Program} {loose : List Str} {mean : ExcName → Option Value} {s : Shared} {w : World} {x dx H : Addr} {n1 nH : Nat} {l : List (Fin 8)} {news : List (Addr × Obj)} {oc : Obj} {cd : Value}
  {Q : Flow → Shared → Prop} {E : Value → Shared → Prop} {body : List Stmt} {scope : Scope} (hb : checkBody = body) (hsc : lawScope = scope)
  (F : Fr h₀ L s.heap m) (X₀ : (hd.heap_39 w.params).In h₀) (N : News h₀ L s.heap news) (T : Top p loose mean mg mb h₀) (hx : (x, oneL dx l n1) ∈ news) (hH : (H, heldO l nH) ∈ news) (hc : (L + 1 + 1, oc) ∈ news) (hoc : oc.data = .cell (some (.ref x))) (hmh : m "held" = some (.ref H)) (hz : l.length ≤ 100)
  (hQ : ∀ h' tk, Fr h₀ L h' m → News h₀ L h' news → Q .next { s with heap := h', toks := tk }) :
  wpAny (model Challenge.rw_ww0011_01.row.prog w) (callerA.deeper (envOfC "law" scope L a cd)) (execs body (envOfC "law" scope L a cd)) Q E s := by
  conv at hb => lhs; whnf
  conv at hsc => lhs; whnf
  subst hb hsc
  revert X₀
  k_fill
  intro X₀
  k_steps
  all_goals first | exact hQ _ _ (by assumption) (drop1 (drop1 (by assumption))) | exact hQ _ _ (by assumption) (drop1 (by assumption))
end Mine

end
section
open PySem PySem.W PyProof.Rows
set_option Elab.async false
set_option pp.deepTerms false
set_option pp.proofs false
set_option maxRecDepth 100000
set_option maxHeartbeats 8000000
set_option linter.unusedVariables false
namespace Mine
local macro_rules | `(tactic| k_room) => `(tactic| (simp only [depth_under_make, depth_under_kw, depth_in1, depth_deeper, depth_caller]; decide))
local macro_rules | `(tactic| k_inst) => `(tactic| (refine' inst_seq ?N ?h1 ?h2; (case N => k_asm); (case h1 => k_mem); (case h2 => k_mem)))
local macro_rules | `(tactic| walk_at "call ref") => `(tactic| (k_here; k_dflt (refine' add_y ?k1 ?k2 ?k3 ?k4 ?k5 ?k6 ?k7 ?kA ?kB ?kC ?k8 ?k9 ?k10 ?kh ?_; (case k1 => k_asm); (case k2 => k_asm); (case k3 => k_asm); (case k4 => first | k_asm | exact drop1 (by k_asm) | exact drop1 (drop1 (by k_asm)) | exact drop1 (drop1 (drop1 (by k_asm)))); (case k5 => assumption); (case k6 => assumption); (case k7 => k_asm); (case kA => exact rfl); (case kB => exact rfl); (case kC => exact rfl); (case k8 => exact rfl); (case k9 => k_room); (case k10 => exact Nat.le_of_ble_eq_true rfl); (case kh => assumption); k_whole; intro h' tk' u' xs' n1' n3' K' F' N'; (try k_sweep))))
local macro_rules | `(tactic| walk_at "call ref") => `(tactic| (k_here; k_dflt (refine' add_n ?k1 ?k2 ?k3 ?k4 ?k5 ?k6 ?k7 ?kA ?kB ?kC ?k8 ?k9 ?k10 ?kh ?_; (case k1 => k_asm); (case k2 => k_asm); (case k3 => k_asm); (case k4 => first | k_asm | exact drop1 (by k_asm) | exact drop1 (drop1 (by k_asm)) | exact drop1 (drop1 (drop1 (by k_asm)))); (case k5 => assumption); (case k6 => assumption); (case k7 => k_asm); (case kA => exact rfl); (case kB => exact rfl); (case kC => exact rfl); (case k8 => exact rfl); (case k9 => k_room); (case k10 => exact Nat.le_of_ble_eq_true rfl); (case kh => assumption); k_whole; intro h' tk' u' xs' n1' n3' K' F' N'; (try k_sweep))))
local macro_rules | `(tactic| walk_at "call ref") => `(tactic| (k_here; k_dflt (refine' append_y ?k1 ?k2 ?k3 ?k4 ?k5 ?k6 ?k7 ?kA ?kB ?kC ?k8 ?k9 ?k10 ?kh ?_; (case k1 => k_asm); (case k2 => k_asm); (case k3 => k_asm); (case k4 => first | k_asm | exact drop1 (by k_asm) | exact drop1 (drop1 (by k_asm)) | exact drop1 (drop1 (drop1 (by k_asm)))); (case k5 => assumption); (case k6 => assumption); (case k7 => k_asm); (case kA => exact rfl); (case kB => exact rfl); (case kC => exact rfl); (case k8 => exact rfl); (case k9 => k_room); (case k10 => exact Nat.le_of_ble_eq_true rfl); (case kh => assumption); k_whole; intro h' tk' xs' n1' n3' K' F' N'; (try k_sweep))))
local macro_rules | `(tactic| walk_at "call ref") => `(tactic| (k_here; k_dflt (refine' append_n ?k1 ?k2 ?k3 ?k4 ?k5 ?k6 ?k7 ?kA ?kB ?kC ?k8 ?k9 ?k10 ?kh ?_; (case k1 => k_asm); (case k2 => k_asm); (case k3 => k_asm); (case k4 => first | k_asm | exact drop1 (by k_asm) | exact drop1 (drop1 (by k_asm)) | exact drop1 (drop1 (drop1 (by k_asm)))); (case k5 => assumption); (case k6 => assumption); (case k7 => k_asm); (case kA => exact rfl); (case kB => exact rfl); (case kC => exact rfl); (case k8 => exact rfl); (case k9 => k_room); (case k10 => exact Nat.le_of_ble_eq_true rfl); (case kh => assumption); k_whole; intro h' tk' xs' n1' n3' K' F' N'; (try k_sweep))))
local macro_rules | `(tactic| walk_at "call ref") => `(tactic| (k_here; k_dflt (refine' place_y ?k1 ?k2 ?k3 ?k4 ?k5 ?k6 ?k7 ?kA ?kB ?kC ?k8 ?k9 ?k10 ?kh ?_; (case k1 => k_asm); (case k2 => k_asm); (case k3 => k_asm); (case k4 => first | k_asm | exact drop1 (by k_asm) | exact drop1 (drop1 (by k_asm)) | exact drop1 (drop1 (drop1 (by k_asm)))); (case k5 => assumption); (case k6 => assumption); (case k7 => k_asm); (case kA => exact rfl); (case kB => exact rfl); (case kC => exact rfl); (case k8 => exact rfl); (case k9 => k_room); (case k10 => exact Nat.le_of_ble_eq_true rfl); (case kh => assumption); k_whole; intro h' tk' t' xs' b' t1' t2' n2' n3' u' K' O' F' N'; (try k_sweep))))
local macro_rules | `(tactic| walk_at "call ref") => `(tactic| (k_here; k_dflt (refine' place_n ?k1 ?k2 ?k3 ?k4 ?k5 ?k6 ?k7 ?kA ?kB ?kC ?k8 ?k9 ?k10 ?kh ?_; (case k1 => k_asm); (case k2 => k_asm); (case k3 => k_asm); (case k4 => first | k_asm | exact drop1 (by k_asm) | exact drop1 (drop1 (by k_asm)) | exact drop1 (drop1 (drop1 (by k_asm)))); (case k5 => assumption); (case k6 => assumption); (case k7 => k_asm); (case kA => exact rfl); (case kB => exact rfl); (case kC => exact rfl); (case k8 => exact rfl); (case k9 => k_room); (case k10 => exact Nat.le_of_ble_eq_true rfl); (case kh => assumption); k_whole; intro h' tk' t' xs' b' t1' t2' n2' n3' u' K' O' F' N'; (try k_sweep))))
local macro_rules | `(tactic| walk_at "call ref") => `(tactic| (k_here; k_dflt (refine' contains_b ?k1 ?k2 ?k3 ?k4 ?k5 ?k6 ?k7 ?kA ?kB ?kC ?k8 ?k9 ?k10 ?kh ?_; (case k1 => k_asm); (case k2 => k_asm); (case k3 => k_asm); (case k4 => first | k_asm | exact drop1 (by k_asm) | exact drop1 (drop1 (by k_asm)) | exact drop1 (drop1 (drop1 (by k_asm)))); (case k5 => assumption); (case k6 => assumption); (case k7 => k_asm); (case kA => exact rfl); (case kB => exact rfl); (case kC => exact rfl); (case k8 => exact rfl); (case k9 => k_room); (case k10 => exact Nat.le_of_ble_eq_true rfl); (case kh => first | exact decide_eq_true (by assumption) | exact decide_eq_false (by assumption)); k_whole; intro h' tk' t' xs' b' t1' t2' n2' n3' K' O' F' N'; (try k_sweep))))
local macro_rules | `(tactic| walk_at "call ref") => `(tactic| (k_here; k_dflt (refine' next_L ?k1 ?k2 ?k3 ?k4 ?k6 ?k7 ?kA ?kB ?kC ?k8 ?k9 ?k10 ?n1 ?n2 ?n3 ?n4 ?n5 ?_; (case k1 => k_asm); (case k2 => k_asm); (case k3 => k_asm); (case k4 => first | k_asm | exact drop1 (by k_asm)); (case k6 => assumption); (case k7 => k_asm); (case kA => exact rfl); (case kB => exact rfl); (case kC => exact rfl); (case k8 => exact rfl); (case k9 => k_room); (case k10 => exact Nat.le_of_ble_eq_true rfl); (case n1 => assumption); (case n2 => assumption); (case n3 => assumption); (case n4 => assumption); (case n5 => decide); k_whole; intro h' tk' i' z' u1' u2' n' q' u' hi' hq0' hq1' F' N'; (try k_sweep))))
local macro_rules | `(tactic| walk_at "eval Name") => `(tactic| (k_here; k_dflt (first
  | (refine' nameX_L ?F ?v ?_ ?a ?b; (case F => k_asm); (case a => rfl); (case b => rfl); (case v => first | rfl | (repeat (first | exact if_pos rfl | assumption | refine (if_neg (by decide)).trans ?_))); k_whole)
  | (refine' nameX_C ?N ?c ?m ?d ?_ ?a ?b; (case a => rfl); (case b => rfl); (case N => k_asm); (case c => rfl); (case m => (first | assumption | exact List.Mem.head _ | exact List.Mem.tail _ (by assumption) | exact List.Mem.tail _ (List.Mem.head _) | exact List.Mem.tail _ (List.Mem.tail _ (by assumption)) | exact List.Mem.tail _ (List.Mem.tail _ (List.Mem.tail _ (List.Mem.tail _ (by assumption)))) | exact List.Mem.tail _ (List.Mem.tail _ (List.Mem.tail _ (List.Mem.tail _ (List.Mem.head _)))) | exact List.Mem.tail _ (List.Mem.tail _ (List.Mem.tail _ (List.Mem.tail _ (List.Mem.tail _ (by assumption))))) | exact List.Mem.tail _ (List.Mem.tail _ (List.Mem.tail _ (List.Mem.tail _ (List.Mem.tail _ (List.Mem.tail _ (by assumption)))))) | k_mem)); (case d => k_asm); k_whole))))
local macro_rules | `(tactic| walk_at "getMethod ref") => `(tactic| (k_here; k_dflt (refine' method_one ?k1 ?k2 ?k3 ?k4 ?k5 ?k6 ?k7 ?k8 ?_; (case k1 => k_asm); (case k2 => k_asm); (case k3 => k_asm); (case k4 => k_mem); (case k5 => k_mem); (case k6 => k_is); (case k7 => k_is); (case k8 => k_get); k_whole)))
local macro_rules | `(tactic| walk_at "getMethod ref") => `(tactic| (k_here; (with_reducible show wpAny _ _ (getMethod (Value.ref _) (PySem.Str.ofString "index") _) _ _ _); k_dflt (refine' kf_method ?N ?m PySem.F.slot_list_index PySem.F.type_list_index ?_; (case N => k_asm); (case m => (first | assumption | exact List.Mem.head _ | exact List.Mem.tail _ (by assumption) | exact List.Mem.tail _ (List.Mem.head _) | exact List.Mem.tail _ (List.Mem.tail _ (by assumption)) | exact List.Mem.tail _ (List.Mem.tail _ (List.Mem.tail _ (List.Mem.tail _ (by assumption)))) | exact List.Mem.tail _ (List.Mem.tail _ (List.Mem.tail _ (List.Mem.tail _ (List.Mem.head _)))) | exact List.Mem.tail _ (List.Mem.tail _ (List.Mem.tail _ (List.Mem.tail _ (List.Mem.tail _ (by assumption))))) | exact List.Mem.tail _ (List.Mem.tail _ (List.Mem.tail _ (List.Mem.tail _ (List.Mem.tail _ (List.Mem.tail _ (by assumption)))))) | k_mem)); k_whole)))
local macro_rules | `(tactic| walk_at "subscriptTail Name Call ref int") => `(tactic| (k_here; k_dflt (refine' menu_tail ?mF ?mX ?ma ?mb ?_; (case mF => k_asm); (case mX => k_asm); (case ma => assumption); (case mb => assumption); k_whole); intro kM hkM))
local macro_rules | `(tactic| walk_at "compareOp In") => `(tactic| (k_here; k_dflt (first
  | (refine' in_yes ?k1 ?k2 ?k3 ?k4 ?k5 ?k6 ?_; (case k1 => k_asm); (case k2 => k_asm); (case k3 => k_asm); (case k4 => (first | assumption | exact List.Mem.head _ | exact List.Mem.tail _ (by assumption) | exact List.Mem.tail _ (List.Mem.head _) | exact List.Mem.tail _ (List.Mem.tail _ (by assumption)) | exact List.Mem.tail _ (List.Mem.tail _ (List.Mem.tail _ (List.Mem.tail _ (by assumption)))) | exact List.Mem.tail _ (List.Mem.tail _ (List.Mem.tail _ (List.Mem.tail _ (List.Mem.head _)))) | exact List.Mem.tail _ (List.Mem.tail _ (List.Mem.tail _ (List.Mem.tail _ (List.Mem.tail _ (by assumption))))) | exact List.Mem.tail _ (List.Mem.tail _ (List.Mem.tail _ (List.Mem.tail _ (List.Mem.tail _ (List.Mem.tail _ (by assumption)))))) | k_mem)); (case k5 => exact Nat.le_of_ble_eq_true rfl); (case k6 => assumption); k_whole)
  | (refine' in_no ?k1 ?k2 ?k3 ?k4 ?k5 ?k6 ?_; (case k1 => k_asm); (case k2 => k_asm); (case k3 => k_asm); (case k4 => (first | assumption | exact List.Mem.head _ | exact List.Mem.tail _ (by assumption) | exact List.Mem.tail _ (List.Mem.head _) | exact List.Mem.tail _ (List.Mem.tail _ (by assumption)) | exact List.Mem.tail _ (List.Mem.tail _ (List.Mem.tail _ (List.Mem.tail _ (by assumption)))) | exact List.Mem.tail _ (List.Mem.tail _ (List.Mem.tail _ (List.Mem.tail _ (List.Mem.head _)))) | exact List.Mem.tail _ (List.Mem.tail _ (List.Mem.tail _ (List.Mem.tail _ (List.Mem.tail _ (by assumption))))) | exact List.Mem.tail _ (List.Mem.tail _ (List.Mem.tail _ (List.Mem.tail _ (List.Mem.tail _ (List.Mem.tail _ (by assumption)))))) | k_mem)); (case k5 => exact Nat.le_of_ble_eq_true rfl); (case k6 => assumption); k_whole)
  | (refine' in_split ?k1 ?k2 ?k3 ?k4 ?k5 (fun hk' => ?_) (fun hk' => ?_); (case k1 => k_asm); (case k2 => k_asm); (case k3 => k_asm); (case k4 => (first | assumption | exact List.Mem.head _ | exact List.Mem.tail _ (by assumption) | exact List.Mem.tail _ (List.Mem.head _) | exact List.Mem.tail _ (List.Mem.tail _ (by assumption)) | exact List.Mem.tail _ (List.Mem.tail _ (List.Mem.tail _ (List.Mem.tail _ (by assumption)))) | exact List.Mem.tail _ (List.Mem.tail _ (List.Mem.tail _ (List.Mem.tail _ (List.Mem.head _)))) | exact List.Mem.tail _ (List.Mem.tail _ (List.Mem.tail _ (List.Mem.tail _ (List.Mem.tail _ (by assumption))))) | exact List.Mem.tail _ (List.Mem.tail _ (List.Mem.tail _ (List.Mem.tail _ (List.Mem.tail _ (List.Mem.tail _ (by assumption)))))) | k_mem)); (case k5 => exact Nat.le_of_ble_eq_true rfl); k_whole))))
local macro_rules | `(tactic| walk_at "binaryOp Add") => `(tactic| (k_here; k_dflt (refine' plus_L ?k1 ?k2 ?k3 ?k4 ?k5 ?k6 ?k7 ?_; (case k1 => k_asm); (case k2 => k_asm); (case k3 => (first | assumption | exact List.Mem.head _ | exact List.Mem.tail _ (by assumption) | exact List.Mem.tail _ (List.Mem.head _) | exact List.Mem.tail _ (List.Mem.tail _ (by assumption)) | exact List.Mem.tail _ (List.Mem.tail _ (List.Mem.tail _ (List.Mem.tail _ (by assumption)))) | exact List.Mem.tail _ (List.Mem.tail _ (List.Mem.tail _ (List.Mem.tail _ (List.Mem.head _)))) | exact List.Mem.tail _ (List.Mem.tail _ (List.Mem.tail _ (List.Mem.tail _ (List.Mem.tail _ (by assumption))))) | exact List.Mem.tail _ (List.Mem.tail _ (List.Mem.tail _ (List.Mem.tail _ (List.Mem.tail _ (List.Mem.tail _ (by assumption)))))) | k_mem)); (case k4 => (first | assumption | exact List.Mem.head _ | exact List.Mem.tail _ (by assumption) | exact List.Mem.tail _ (List.Mem.head _) | exact List.Mem.tail _ (List.Mem.tail _ (by assumption)) | exact List.Mem.tail _ (List.Mem.tail _ (List.Mem.tail _ (List.Mem.tail _ (by assumption)))) | exact List.Mem.tail _ (List.Mem.tail _ (List.Mem.tail _ (List.Mem.tail _ (List.Mem.head _)))) | exact List.Mem.tail _ (List.Mem.tail _ (List.Mem.tail _ (List.Mem.tail _ (List.Mem.tail _ (by assumption))))) | exact List.Mem.tail _ (List.Mem.tail _ (List.Mem.tail _ (List.Mem.tail _ (List.Mem.tail _ (List.Mem.tail _ (by assumption)))))) | k_mem)); (case k6 => assumption); (case k5 => first | exact drop1 (by k_asm) | exact drop1 (drop1 (by k_asm)));  (case k7 => have := OneTab.le (by assumption); omega); k_whole); intro D' h' F' N' O' fr'; (try k_sweep)))
local macro_rules | `(tactic| walk_at "call builtin:list.index") => `(tactic| (k_here; k_dflt (refine' idx_held ?k1 ?k2 ?k3 ?k4 ?k5 ?k6 ?k7 ?_; (case k1 => k_asm); (case k2 => k_asm); (case k3 => k_asm); (case k4 => (first | assumption | exact List.Mem.head _ | exact List.Mem.tail _ (by assumption) | exact List.Mem.tail _ (List.Mem.head _) | exact List.Mem.tail _ (List.Mem.tail _ (by assumption)) | exact List.Mem.tail _ (List.Mem.tail _ (List.Mem.tail _ (List.Mem.tail _ (by assumption)))) | exact List.Mem.tail _ (List.Mem.tail _ (List.Mem.tail _ (List.Mem.tail _ (List.Mem.head _)))) | exact List.Mem.tail _ (List.Mem.tail _ (List.Mem.tail _ (List.Mem.tail _ (List.Mem.tail _ (by assumption))))) | exact List.Mem.tail _ (List.Mem.tail _ (List.Mem.tail _ (List.Mem.tail _ (List.Mem.tail _ (List.Mem.tail _ (by assumption)))))) | k_mem)); (case k5 => exact Nat.le_of_ble_eq_true rfl); (case k6 => first | assumption | exact List.mem_append_right _ (List.Mem.head _)); (case k7 => have := OneTab.le (by assumption); omega); k_whole); intro tk' u'))
local macro_rules | `(tactic| walk_at "compareOp NotEq int int") => `(tactic| (refine' ne_int_same ?_; k_whole))
local macro_rules | `(tactic| walk_at "execs cons If") => `(tactic| (k_here; k_dflt (refine' law_checks ?k1 ?k2 ?k3 ?k4 ?k5 ?k6 ?k7 ?k8 ?k9 ?k10 ?k11 ?k12 ?_; (case k1 => exact rfl); (case k2 => exact rfl); (case k3 => k_asm); (case k4 => k_asm); (case k5 => first | k_asm); (case k6 => k_asm); (case k7 => (first | assumption | exact List.Mem.head _ | exact List.Mem.tail _ (by assumption) | exact List.Mem.tail _ (List.Mem.head _) | exact List.Mem.tail _ (List.Mem.tail _ (by assumption)) | exact List.Mem.tail _ (List.Mem.tail _ (List.Mem.tail _ (List.Mem.tail _ (by assumption)))) | exact List.Mem.tail _ (List.Mem.tail _ (List.Mem.tail _ (List.Mem.tail _ (List.Mem.head _)))) | exact List.Mem.tail _ (List.Mem.tail _ (List.Mem.tail _ (List.Mem.tail _ (List.Mem.tail _ (by assumption))))) | exact List.Mem.tail _ (List.Mem.tail _ (List.Mem.tail _ (List.Mem.tail _ (List.Mem.tail _ (List.Mem.tail _ (by assumption)))))) | k_mem)); (case k8 => (first | assumption | exact List.Mem.head _ | exact List.Mem.tail _ (by assumption) | exact List.Mem.tail _ (List.Mem.head _) | exact List.Mem.tail _ (List.Mem.tail _ (by assumption)) | exact List.Mem.tail _ (List.Mem.tail _ (List.Mem.tail _ (List.Mem.tail _ (by assumption)))) | exact List.Mem.tail _ (List.Mem.tail _ (List.Mem.tail _ (List.Mem.tail _ (List.Mem.head _)))) | exact List.Mem.tail _ (List.Mem.tail _ (List.Mem.tail _ (List.Mem.tail _ (List.Mem.tail _ (by assumption))))) | exact List.Mem.tail _ (List.Mem.tail _ (List.Mem.tail _ (List.Mem.tail _ (List.Mem.tail _ (List.Mem.tail _ (by assumption)))))) | k_mem)); (case k9 => (first | assumption | exact List.Mem.head _ | exact List.Mem.tail _ (by assumption) | exact List.Mem.tail _ (List.Mem.head _) | exact List.Mem.tail _ (List.Mem.tail _ (by assumption)) | exact List.Mem.tail _ (List.Mem.tail _ (List.Mem.tail _ (List.Mem.tail _ (by assumption)))) | exact List.Mem.tail _ (List.Mem.tail _ (List.Mem.tail _ (List.Mem.tail _ (List.Mem.head _)))) | exact List.Mem.tail _ (List.Mem.tail _ (List.Mem.tail _ (List.Mem.tail _ (List.Mem.tail _ (by assumption))))) | exact List.Mem.tail _ (List.Mem.tail _ (List.Mem.tail _ (List.Mem.tail _ (List.Mem.tail _ (List.Mem.tail _ (by assumption)))))) | k_mem)); (case k10 => assumption); (case k11 => first | rfl | (repeat (first | exact if_pos rfl | assumption | refine (if_neg (by decide)).trans ?_))); (case k12 => have := OneTab.le (by assumption); omega); k_whole); intro h' tk' F' N'; (try k_sweep)))
theorem law_turn {h₀ : Heap} {L a : Addr} {m mg mb : Str → Option Value} {p : Program} {loose : List Str} {mean : ExcName → Option Value} {s : Shared} {w : World}
  {x dx t S Bk H : Addr} {h1 h2 i z : Int} {t1 t2 u1 u2 : Tok} {b : Bool} {n1 n2 n3 nS nH nb : Nat} {l : List (Fin 8)} {xs : List (Fin 8 × Value)} {r : List (Addr × Obj)} {vs : List Value} {ns : List Int} {oc : Obj} {cd : Value}
  {Q : Flow → Shared → Prop} {E : Value → Shared → Prop} {body : List Stmt} {scope : Scope} (hb : turnBody = body) (hsc : lawScope = scope)
  (B : Below callerA h₀ [] h₀) (F : Fr h₀ L s.heap m) (X₀ : (hd.heap_39 w.params).In h₀)
  (N : News h₀ L s.heap ((x, oneL dx l n1) :: (dx, oneD h1 h2 t1 t2 b t n2) :: (t, tabO w xs n3) :: (S, stateO Bk i z u1 u2 nS) :: r)) (K : OneTab l xs) (O : Off4 x dx t S r) (T : Top p loose mean mg mb h₀)
  (hH : (H, heldO l nH) ∈ r) (hB : (Bk, listOf vs.toArray nb) ∈ r) (hc : (L + 1 + 1, oc) ∈ r) (hoc : oc.data = .cell (some (.ref x))) (hI : IntsAre vs ns) (hlen : ns.length ≤ 40) (hi : 0 ≤ i) (hms : m "state" = some (.ref S)) (hmh : m "held" = some (.ref H))
  (hQ : ∀ h' tk m' l' xs' t' H' h1' h2' i' z' t1' t2' u1' u2' b' n1' n2' n3' nS' r', Fr h₀ L h' m' → News h₀ L h' ((x, oneL dx l' n1') :: (dx, oneD h1' h2' t1' t2' b' t' n2') :: (t', tabO w xs' n3') :: (S, stateO Bk i' z' u1' u2' nS') :: r') → OneTab l' xs' → Off4 x dx t' S r' →
    (r' = r ∨ ∃ D o, r' = (D, o) :: r ∧ ∀ p ∈ r, p.1 ≠ D) → (∃ nH', (H', heldO l' nH') = (H, heldO l nH) ∨ r' = (H', heldO l' nH') :: r) → 0 ≤ i' → m' "state" = some (.ref S) → m' "held" = some (.ref H') → Q .next { s with heap := h', toks := tk }) :
  wpAny (model Challenge.rw_ww0011_01.row.prog w) (callerA.deeper (envOfC "law" scope L a cd)) (execs body (envOfC "law" scope L a cd)) Q E s := by
  conv at hb => lhs; whnf
  conv at hsc => lhs; whnf
  subst hb hsc
  revert X₀
  k_fill
  intro X₀
  k_steps
  all_goals (refine' hQ _ _ _ _ _ _ _ _ _ _ _ _ _ _ _ _ _ _ _ _ _ ?gF ?gN ?gK ?gO ?gR ?gH ?gi ?gs ?gh; (case gF => assumption); (case gN => assumption); (case gh => (repeat (first | exact if_pos rfl | assumption | refine (if_neg (by decide)).trans ?_))); (case gs => (repeat (first | exact if_pos rfl | assumption | refine (if_neg (by decide)).trans ?_))); (case gH => first | exact ⟨_, Or.inl rfl⟩ | exact ⟨_, Or.inr rfl⟩); (case gK => assumption); (case gO => assumption); (case gi => assumption); (case gR => first | exact Or.inl rfl | exact Or.inr ⟨_, _, rfl, by assumption⟩))
end Mine

end
section
open PySem PySem.W PyProof.Rows
set_option Elab.async false
set_option pp.deepTerms false
set_option pp.proofs false
set_option maxRecDepth 100000
set_option maxHeartbeats 8000000
set_option linter.unusedVariables false
namespace Mine
def Stop (p : Prop) : Prop := p
theorem stop_in {p : Prop} (h : p) : Stop p := h
theorem stop_of {p : Prop} (h : Stop p) : p := h
theorem Off4.sub {x dx t S : Addr} {r r' : List (Addr × Obj)} (O : Off4 x dx t S r) (h : ∀ p ∈ r', p ∈ r) : Off4 x dx t S r' :=
  ⟨O.ns, O.xd, O.xt, O.dt, O.xS, O.dS, O.tS, fun p hp => O.rx p (h p hp), fun p hp => O.rd p (h p hp), fun p hp => O.rt p (h p hp), fun p hp => O.rS p (h p hp)⟩
theorem Off4.app {x dx t S I : Addr} {r own : List (Addr × Obj)} (O : Off4 x dx t S r) (ho : ∀ p ∈ own, p.1 = I) (h1 : x ≠ I) (h2 : dx ≠ I) (h3 : t ≠ I) (h4 : S ≠ I) : Off4 x dx t S (r ++ own) := by
  have g : ∀ d, (∀ p ∈ r, p.1 ≠ d) → d ≠ I → ∀ p ∈ r ++ own, p.1 ≠ d := fun d hd hI p hp => by
    rcases List.mem_append.mp hp with hp | hp
    · exact hd p hp
    · exact fun e => hI (e.symm.trans (ho p hp))
  exact ⟨O.ns, O.xd, O.xt, O.dt, O.xS, O.dS, O.tS, g x O.rx h1, g dx O.rd h2, g t O.rt h3, g S O.rS h4⟩
theorem comp_leaf {w : World} {h₀ h' : Heap} {L x dx t S I C D Bk : Addr} {m : Str → Option Value} {s₁ : Shared} {oI oC oD : Obj} {S' : List (Addr × Obj) → Prop} {rest : Value → List (Addr × Obj) → Prop} {y : Value} {tk : Nat} {l : List (Fin 8)} {xs : List (Fin 8 × Value)}
    {h1 h2 i z : Int} {t1 t2 u1 u2 : Tok} {b : Bool} {n1 n2 n3 nS : Nat} {r1 : List (Addr × Obj)} (F : Fr h₀ L h' m)
    (N : News h₀ L h' ((x, oneL dx l n1) :: (dx, oneD h1 h2 t1 t2 b t n2) :: (t, tabO w xs n3) :: (S, stateO Bk i z u1 u2 nS) :: (I, oI) :: (C, oC) :: (D, oD) :: r1)) (O : Off4 x dx t S ((I, oI) :: (C, oC) :: (D, oD) :: r1)) (off : LCg.Off3 I C D r1)
    (a1 : x ≠ I ∧ x ≠ C ∧ x ≠ D) (a2 : dx ≠ I ∧ dx ≠ C ∧ dx ≠ D) (a4 : S ≠ I ∧ S ≠ C ∧ S ≠ D)
    (hS : S' ((x, oneL dx l n1) :: (dx, oneD h1 h2 t1 t2 b t n2) :: (t, tabO w xs n3) :: (S, stateO Bk i z u1 u2 nS) :: r1)) (hr : rest y ((x, oneL dx l n1) :: (dx, oneD h1 h2 t1 t2 b t n2) :: (t, tabO w xs n3) :: (S, stateO Bk i z u1 u2 nS) :: r1)) :
    LCg.CompEnd h₀ L m s₁ I oI C oC D oD S' rest y { s₁ with heap := h', toks := tk } := by
  have b1 := O.rt _ (List.Mem.head _)
  have b2 := O.rt _ (List.Mem.tail _ (List.Mem.head _))
  have b3 := O.rt _ (List.Mem.tail _ (List.Mem.tail _ (List.Mem.head _)))
  refine LCg.CompEnd.intro F N ((x, oneL dx l n1) :: (dx, oneD h1 h2 t1 t2 b t n2) :: (t, tabO w xs n3) :: (S, stateO Bk i z u1 u2 nS) :: r1) (fun p hp => ?_) ⟨a1, a2, ⟨Ne.symm b1, Ne.symm b2, Ne.symm b3⟩, a4, off⟩ hS hr
  simp only [List.mem_cons] at hp ⊢
  rcases hp with h | h | h | h | h | h | h | h <;> simp [h]
def LoopJ (w : World) (x dx S Bk L : Addr) (vs : List Value) (nb : Nat) (oc : Obj) (m₁ : Str → Option Value) (news₁ : List (Addr × Obj)) : Prop :=
  ∃ l xs t H nH h1 h2 i z t1 t2 u1 u2 b n1 n2 n3 nS r1, news₁ = (x, oneL dx l n1) :: (dx, oneD h1 h2 t1 t2 b t n2) :: (t, tabO w xs n3) :: (S, stateO Bk i z u1 u2 nS) :: r1 ∧ OneTab l xs ∧ Off4 x dx t S r1 ∧ (H, heldO l nH) ∈ r1 ∧ (Bk, listOf vs.toArray nb) ∈ r1 ∧ (L + 1 + 1, oc) ∈ r1 ∧
    (0 : Int) ≤ i ∧ m₁ "state" = some (.ref S) ∧ m₁ "held" = some (.ref H)
local macro_rules | `(tactic| k_room) => `(tactic| (simp only [depth_under_make, depth_under_kw, depth_in1, depth_deeper, depth_caller]; decide))
local macro_rules | `(tactic| k_inst) => `(tactic| (refine' inst_seq ?N ?h1 ?h2; (case N => k_asm); (case h1 => k_mem); (case h2 => k_mem)))
local macro_rules | `(tactic| walk_at "call ref") => `(tactic| (k_here; k_dflt (refine' add_y ?k1 ?k2 ?k3 ?k4 ?k5 ?k6 ?k7 ?kA ?kB ?kC ?k8 ?k9 ?k10 ?kh ?_; (case k1 => k_asm); (case k2 => k_asm); (case k3 => k_asm); (case k4 => first | k_asm | exact drop1 (by k_asm) | exact drop1 (drop1 (by k_asm)) | exact drop1 (drop1 (drop1 (by k_asm)))); (case k5 => assumption); (case k6 => assumption); (case k7 => k_asm); (case kA => exact rfl); (case kB => exact rfl); (case kC => exact rfl); (case k8 => exact rfl); (case k9 => k_room); (case k10 => exact Nat.le_of_ble_eq_true rfl); (case kh => assumption); k_whole; intro h' tk' u' xs' n1' n3' K' F' N'; (try k_sweep))))
local macro_rules | `(tactic| walk_at "call ref") => `(tactic| (k_here; k_dflt (refine' add_n ?k1 ?k2 ?k3 ?k4 ?k5 ?k6 ?k7 ?kA ?kB ?kC ?k8 ?k9 ?k10 ?kh ?_; (case k1 => k_asm); (case k2 => k_asm); (case k3 => k_asm); (case k4 => first | k_asm | exact drop1 (by k_asm) | exact drop1 (drop1 (by k_asm)) | exact drop1 (drop1 (drop1 (by k_asm)))); (case k5 => assumption); (case k6 => assumption); (case k7 => k_asm); (case kA => exact rfl); (case kB => exact rfl); (case kC => exact rfl); (case k8 => exact rfl); (case k9 => k_room); (case k10 => exact Nat.le_of_ble_eq_true rfl); (case kh => assumption); k_whole; intro h' tk' u' xs' n1' n3' K' F' N'; (try k_sweep))))
local macro_rules | `(tactic| walk_at "call ref") => `(tactic| (k_here; k_dflt (refine' append_y ?k1 ?k2 ?k3 ?k4 ?k5 ?k6 ?k7 ?kA ?kB ?kC ?k8 ?k9 ?k10 ?kh ?_; (case k1 => k_asm); (case k2 => k_asm); (case k3 => k_asm); (case k4 => first | k_asm | exact drop1 (by k_asm) | exact drop1 (drop1 (by k_asm)) | exact drop1 (drop1 (drop1 (by k_asm)))); (case k5 => assumption); (case k6 => assumption); (case k7 => k_asm); (case kA => exact rfl); (case kB => exact rfl); (case kC => exact rfl); (case k8 => exact rfl); (case k9 => k_room); (case k10 => exact Nat.le_of_ble_eq_true rfl); (case kh => assumption); k_whole; intro h' tk' xs' n1' n3' K' F' N'; (try k_sweep))))
local macro_rules | `(tactic| walk_at "call ref") => `(tactic| (k_here; k_dflt (refine' append_n ?k1 ?k2 ?k3 ?k4 ?k5 ?k6 ?k7 ?kA ?kB ?kC ?k8 ?k9 ?k10 ?kh ?_; (case k1 => k_asm); (case k2 => k_asm); (case k3 => k_asm); (case k4 => first | k_asm | exact drop1 (by k_asm) | exact drop1 (drop1 (by k_asm)) | exact drop1 (drop1 (drop1 (by k_asm)))); (case k5 => assumption); (case k6 => assumption); (case k7 => k_asm); (case kA => exact rfl); (case kB => exact rfl); (case kC => exact rfl); (case k8 => exact rfl); (case k9 => k_room); (case k10 => exact Nat.le_of_ble_eq_true rfl); (case kh => assumption); k_whole; intro h' tk' xs' n1' n3' K' F' N'; (try k_sweep))))
local macro_rules | `(tactic| walk_at "call ref") => `(tactic| (k_here; k_dflt (refine' place_y ?k1 ?k2 ?k3 ?k4 ?k5 ?k6 ?k7 ?kA ?kB ?kC ?k8 ?k9 ?k10 ?kh ?_; (case k1 => k_asm); (case k2 => k_asm); (case k3 => k_asm); (case k4 => first | k_asm | exact drop1 (by k_asm) | exact drop1 (drop1 (by k_asm)) | exact drop1 (drop1 (drop1 (by k_asm)))); (case k5 => assumption); (case k6 => assumption); (case k7 => k_asm); (case kA => exact rfl); (case kB => exact rfl); (case kC => exact rfl); (case k8 => exact rfl); (case k9 => k_room); (case k10 => exact Nat.le_of_ble_eq_true rfl); (case kh => assumption); k_whole; intro h' tk' t' xs' b' t1' t2' n2' n3' u' K' O' F' N'; (try k_sweep))))
local macro_rules | `(tactic| walk_at "call ref") => `(tactic| (k_here; k_dflt (refine' place_n ?k1 ?k2 ?k3 ?k4 ?k5 ?k6 ?k7 ?kA ?kB ?kC ?k8 ?k9 ?k10 ?kh ?_; (case k1 => k_asm); (case k2 => k_asm); (case k3 => k_asm); (case k4 => first | k_asm | exact drop1 (by k_asm) | exact drop1 (drop1 (by k_asm)) | exact drop1 (drop1 (drop1 (by k_asm)))); (case k5 => assumption); (case k6 => assumption); (case k7 => k_asm); (case kA => exact rfl); (case kB => exact rfl); (case kC => exact rfl); (case k8 => exact rfl); (case k9 => k_room); (case k10 => exact Nat.le_of_ble_eq_true rfl); (case kh => assumption); k_whole; intro h' tk' t' xs' b' t1' t2' n2' n3' u' K' O' F' N'; (try k_sweep))))
local macro_rules | `(tactic| walk_at "call ref") => `(tactic| (k_here; k_dflt (refine' contains_b ?k1 ?k2 ?k3 ?k4 ?k5 ?k6 ?k7 ?kA ?kB ?kC ?k8 ?k9 ?k10 ?kh ?_; (case k1 => k_asm); (case k2 => k_asm); (case k3 => k_asm); (case k4 => first | k_asm | exact drop1 (by k_asm) | exact drop1 (drop1 (by k_asm)) | exact drop1 (drop1 (drop1 (by k_asm)))); (case k5 => assumption); (case k6 => assumption); (case k7 => k_asm); (case kA => exact rfl); (case kB => exact rfl); (case kC => exact rfl); (case k8 => exact rfl); (case k9 => k_room); (case k10 => exact Nat.le_of_ble_eq_true rfl); (case kh => first | exact decide_eq_true (by assumption) | exact decide_eq_false (by assumption)); k_whole; intro h' tk' t' xs' b' t1' t2' n2' n3' K' O' F' N'; (try k_sweep))))
local macro_rules | `(tactic| walk_at "call ref") => `(tactic| (k_here; k_dflt (refine' next_L ?k1 ?k2 ?k3 ?k4 ?k6 ?k7 ?kA ?kB ?kC ?k8 ?k9 ?k10 ?n1 ?n2 ?n3 ?n4 ?n5 ?_; (case k1 => k_asm); (case k2 => k_asm); (case k3 => k_asm); (case k4 => first | k_asm | exact drop1 (by k_asm)); (case k6 => assumption); (case k7 => k_asm); (case kA => exact rfl); (case kB => exact rfl); (case kC => exact rfl); (case k8 => exact rfl); (case k9 => k_room); (case k10 => exact Nat.le_of_ble_eq_true rfl); (case n1 => assumption); (case n2 => assumption); (case n3 => assumption); (case n4 => assumption); (case n5 => decide); k_whole; intro h' tk' i' z' u1' u2' n' q' u' hi' hq0' hq1' F' N'; (try k_sweep))))
local macro_rules | `(tactic| walk_at "eval Name") => `(tactic| (k_here; (with_reducible show wpAny _ _ (eval (Expr.Name _ _) (envOfC _ _ _ _ _)) _ _ _); k_dflt (first
  | (refine' nameX_L ?F ?v ?_ ?a ?b; (case F => k_asm); (case a => rfl); (case b => rfl); (case v => first | rfl | (repeat (first | exact if_pos rfl | assumption | refine (if_neg (by decide)).trans ?_))); k_whole)
  | (refine' nameX_C ?N ?c ?m ?d ?_ ?a ?b; (case a => rfl); (case b => rfl); (case N => k_asm); (case c => rfl); (case m => (first | assumption | exact List.Mem.head _ | exact List.Mem.tail _ (by assumption) | exact List.Mem.tail _ (List.Mem.head _) | exact List.Mem.tail _ (List.Mem.tail _ (by assumption)) | exact List.Mem.tail _ (List.Mem.tail _ (List.Mem.tail _ (List.Mem.tail _ (by assumption)))) | exact List.Mem.tail _ (List.Mem.tail _ (List.Mem.tail _ (List.Mem.tail _ (List.Mem.head _)))) | exact List.Mem.tail _ (List.Mem.tail _ (List.Mem.tail _ (List.Mem.tail _ (List.Mem.tail _ (by assumption))))) | exact List.Mem.tail _ (List.Mem.tail _ (List.Mem.tail _ (List.Mem.tail _ (List.Mem.tail _ (List.Mem.tail _ (by assumption)))))) | k_mem)); (case d => k_asm); k_whole))))
local macro_rules | `(tactic| walk_at "getMethod ref") => `(tactic| (k_here; k_dflt (refine' method_one ?k1 ?k2 ?k3 ?k4 ?k5 ?k6 ?k7 ?k8 ?_; (case k1 => k_asm); (case k2 => k_asm); (case k3 => k_asm); (case k4 => k_mem); (case k5 => k_mem); (case k6 => k_is); (case k7 => k_is); (case k8 => k_get); k_whole)))
local macro_rules | `(tactic| walk_at "getMethod ref") => `(tactic| (k_here; (with_reducible show wpAny _ _ (getMethod (Value.ref _) (PySem.Str.ofString "index") _) _ _ _); k_dflt (refine' kf_method ?N ?m PySem.F.slot_list_index PySem.F.type_list_index ?_; (case N => k_asm); (case m => (first | assumption | exact List.Mem.head _ | exact List.Mem.tail _ (by assumption) | exact List.Mem.tail _ (List.Mem.head _) | exact List.Mem.tail _ (List.Mem.tail _ (by assumption)) | exact List.Mem.tail _ (List.Mem.tail _ (List.Mem.tail _ (List.Mem.tail _ (by assumption)))) | exact List.Mem.tail _ (List.Mem.tail _ (List.Mem.tail _ (List.Mem.tail _ (List.Mem.head _)))) | exact List.Mem.tail _ (List.Mem.tail _ (List.Mem.tail _ (List.Mem.tail _ (List.Mem.tail _ (by assumption))))) | exact List.Mem.tail _ (List.Mem.tail _ (List.Mem.tail _ (List.Mem.tail _ (List.Mem.tail _ (List.Mem.tail _ (by assumption)))))) | k_mem)); k_whole)))
local macro_rules | `(tactic| walk_at "subscriptTail Name Call ref int") => `(tactic| (k_here; k_dflt (refine' menu_tail ?mF ?mX ?ma ?mb ?_; (case mF => k_asm); (case mX => k_asm); (case ma => assumption); (case mb => assumption); k_whole); intro kM hkM))
local macro_rules | `(tactic| walk_at "compareOp In") => `(tactic| (k_here; k_dflt (first
  | (refine' in_yes ?k1 ?k2 ?k3 ?k4 ?k5 ?k6 ?_; (case k1 => k_asm); (case k2 => k_asm); (case k3 => k_asm); (case k4 => (first | assumption | exact List.Mem.head _ | exact List.Mem.tail _ (by assumption) | exact List.Mem.tail _ (List.Mem.head _) | exact List.Mem.tail _ (List.Mem.tail _ (by assumption)) | exact List.Mem.tail _ (List.Mem.tail _ (List.Mem.tail _ (List.Mem.tail _ (by assumption)))) | exact List.Mem.tail _ (List.Mem.tail _ (List.Mem.tail _ (List.Mem.tail _ (List.Mem.head _)))) | exact List.Mem.tail _ (List.Mem.tail _ (List.Mem.tail _ (List.Mem.tail _ (List.Mem.tail _ (by assumption))))) | exact List.Mem.tail _ (List.Mem.tail _ (List.Mem.tail _ (List.Mem.tail _ (List.Mem.tail _ (List.Mem.tail _ (by assumption)))))) | k_mem)); (case k5 => exact Nat.le_of_ble_eq_true rfl); (case k6 => assumption); k_whole)
  | (refine' in_no ?k1 ?k2 ?k3 ?k4 ?k5 ?k6 ?_; (case k1 => k_asm); (case k2 => k_asm); (case k3 => k_asm); (case k4 => (first | assumption | exact List.Mem.head _ | exact List.Mem.tail _ (by assumption) | exact List.Mem.tail _ (List.Mem.head _) | exact List.Mem.tail _ (List.Mem.tail _ (by assumption)) | exact List.Mem.tail _ (List.Mem.tail _ (List.Mem.tail _ (List.Mem.tail _ (by assumption)))) | exact List.Mem.tail _ (List.Mem.tail _ (List.Mem.tail _ (List.Mem.tail _ (List.Mem.head _)))) | exact List.Mem.tail _ (List.Mem.tail _ (List.Mem.tail _ (List.Mem.tail _ (List.Mem.tail _ (by assumption))))) | exact List.Mem.tail _ (List.Mem.tail _ (List.Mem.tail _ (List.Mem.tail _ (List.Mem.tail _ (List.Mem.tail _ (by assumption)))))) | k_mem)); (case k5 => exact Nat.le_of_ble_eq_true rfl); (case k6 => assumption); k_whole)
  | (refine' in_split ?k1 ?k2 ?k3 ?k4 ?k5 (fun hk' => ?_) (fun hk' => ?_); (case k1 => k_asm); (case k2 => k_asm); (case k3 => k_asm); (case k4 => (first | assumption | exact List.Mem.head _ | exact List.Mem.tail _ (by assumption) | exact List.Mem.tail _ (List.Mem.head _) | exact List.Mem.tail _ (List.Mem.tail _ (by assumption)) | exact List.Mem.tail _ (List.Mem.tail _ (List.Mem.tail _ (List.Mem.tail _ (by assumption)))) | exact List.Mem.tail _ (List.Mem.tail _ (List.Mem.tail _ (List.Mem.tail _ (List.Mem.head _)))) | exact List.Mem.tail _ (List.Mem.tail _ (List.Mem.tail _ (List.Mem.tail _ (List.Mem.tail _ (by assumption))))) | exact List.Mem.tail _ (List.Mem.tail _ (List.Mem.tail _ (List.Mem.tail _ (List.Mem.tail _ (List.Mem.tail _ (by assumption)))))) | k_mem)); (case k5 => exact Nat.le_of_ble_eq_true rfl); k_whole))))
local macro_rules | `(tactic| walk_at "binaryOp Add") => `(tactic| (k_here; k_dflt (refine' plus_L ?k1 ?k2 ?k3 ?k4 ?k5 ?k6 ?k7 ?_; (case k1 => k_asm); (case k2 => k_asm); (case k3 => (first | assumption | exact List.Mem.head _ | exact List.Mem.tail _ (by assumption) | exact List.Mem.tail _ (List.Mem.head _) | exact List.Mem.tail _ (List.Mem.tail _ (by assumption)) | exact List.Mem.tail _ (List.Mem.tail _ (List.Mem.tail _ (List.Mem.tail _ (by assumption)))) | exact List.Mem.tail _ (List.Mem.tail _ (List.Mem.tail _ (List.Mem.tail _ (List.Mem.head _)))) | exact List.Mem.tail _ (List.Mem.tail _ (List.Mem.tail _ (List.Mem.tail _ (List.Mem.tail _ (by assumption))))) | exact List.Mem.tail _ (List.Mem.tail _ (List.Mem.tail _ (List.Mem.tail _ (List.Mem.tail _ (List.Mem.tail _ (by assumption)))))) | k_mem)); (case k4 => (first | assumption | exact List.Mem.head _ | exact List.Mem.tail _ (by assumption) | exact List.Mem.tail _ (List.Mem.head _) | exact List.Mem.tail _ (List.Mem.tail _ (by assumption)) | exact List.Mem.tail _ (List.Mem.tail _ (List.Mem.tail _ (List.Mem.tail _ (by assumption)))) | exact List.Mem.tail _ (List.Mem.tail _ (List.Mem.tail _ (List.Mem.tail _ (List.Mem.head _)))) | exact List.Mem.tail _ (List.Mem.tail _ (List.Mem.tail _ (List.Mem.tail _ (List.Mem.tail _ (by assumption))))) | exact List.Mem.tail _ (List.Mem.tail _ (List.Mem.tail _ (List.Mem.tail _ (List.Mem.tail _ (List.Mem.tail _ (by assumption)))))) | k_mem)); (case k6 => assumption); (case k5 => first | exact drop1 (by k_asm) | exact drop1 (drop1 (by k_asm)));  (case k7 => have := OneTab.le (by assumption); omega); k_whole); intro D' h' F' N' O' fr'; (try k_sweep)))
local macro_rules | `(tactic| walk_at "call builtin:list.index") => `(tactic| (k_here; k_dflt (refine' idx_held ?k1 ?k2 ?k3 ?k4 ?k5 ?k6 ?k7 ?_; (case k1 => k_asm); (case k2 => k_asm); (case k3 => k_asm); (case k4 => (first | assumption | exact List.Mem.head _ | exact List.Mem.tail _ (by assumption) | exact List.Mem.tail _ (List.Mem.head _) | exact List.Mem.tail _ (List.Mem.tail _ (by assumption)) | exact List.Mem.tail _ (List.Mem.tail _ (List.Mem.tail _ (List.Mem.tail _ (by assumption)))) | exact List.Mem.tail _ (List.Mem.tail _ (List.Mem.tail _ (List.Mem.tail _ (List.Mem.head _)))) | exact List.Mem.tail _ (List.Mem.tail _ (List.Mem.tail _ (List.Mem.tail _ (List.Mem.tail _ (by assumption))))) | exact List.Mem.tail _ (List.Mem.tail _ (List.Mem.tail _ (List.Mem.tail _ (List.Mem.tail _ (List.Mem.tail _ (by assumption)))))) | k_mem)); (case k5 => exact Nat.le_of_ble_eq_true rfl); (case k6 => first | assumption | exact List.mem_append_right _ (List.Mem.head _)); (case k7 => have := OneTab.le (by assumption); omega); k_whole); intro tk' u'))
local macro_rules | `(tactic| walk_at "compareOp NotEq int int") => `(tactic| (refine' ne_int_same ?_; k_whole))

local macro_rules | `(tactic| walk_at "eval Name") => `(tactic| (k_here; (with_reducible show wpAny _ _ (eval (Expr.Name (PySem.Str.ofString "one") _) (compEnvC _ _ _ _)) _ _ _); k_dflt (refine' lcf_cell ?N ?c ?m ?d ?_ ?a ?b; (case a => rfl); (case b => rfl); (case N => k_asm); (case c => rfl); (case m => exact List.Mem.tail _ (List.Mem.tail _ (List.Mem.tail _ (List.Mem.tail _ (List.Mem.tail _ (List.Mem.tail _ (List.Mem.tail _ (by assumption)))))))); (case d => k_asm); k_whole)))
local macro_rules | `(tactic| walk_at "call builtin:len") => `(tactic| (k_here; k_dflt (refine' len_held ?k1 ?k2 ?k3 ?_; (case k1 => k_asm); (case k2 => first | exact List.Mem.tail _ (List.Mem.tail _ (List.Mem.tail _ (List.Mem.tail _ (List.Mem.tail _ (by assumption))))) | exact List.Mem.tail _ (List.Mem.tail _ (List.Mem.tail _ (List.Mem.tail _ (List.Mem.tail _ (List.Mem.tail _ (by assumption))))))); (case k3 => have := OneTab.le (by assumption); omega); k_whole); intro tk' u'))
local macro_rules | `(tactic| walk_at "call type:list") => `(tactic| (k_here; k_dflt (refine' kll_range ?k0 ?k1 ?k2 ?k3 ?k4 ?k5 ?k6 ?_; (case k0 => exact rfl); (case k1 => k_asm); (case k2 => k_asm); (case k3 => assumption); (case k4 => exact small_one (by decide) (by decide) (by omega) (by have := OneTab.le (by assumption); omega)); (case k5 => exact rangeSize_nat _ _); (case k6 => have := OneTab.le (by assumption); omega); k_whole); intro D9 us9 c9 h9 tk9 F9 N9 lo9 I9))
local macro_rules | `(tactic| walk_at "compareOp Eq ref ref") => `(tactic| (refine stop_of ?_))
local macro_rules | `(tactic| walk_at "exec For") => `(tactic| (refine stop_of ?_))
local macro_rules | `(tactic| walk_at "exec For Name Call cons nil") => `(tactic| (refine stop_of ?_))
local macro_rules | `(tactic| walk_at "pyIter ref") => `(tactic| (refine stop_of ?_))
local macro_rules | `(tactic| walk_at "CompSrc") => `(tactic| (refine stop_of ?_))
theorem law_tail {h₀ : Heap} {L a : Addr} {m mg mb : Str → Option Value} {p : Program} {loose : List Str} {mean : ExcName → Option Value} {s : Shared} {w : World}
  {x dx t S Bk H : Addr} {h1 h2 i z : Int} {t1 t2 u1 u2 : Tok} {b : Bool} {n1 n2 n3 nS nH nb : Nat} {l : List (Fin 8)} {xs : List (Fin 8 × Value)} {r : List (Addr × Obj)} {vs : List Value} {ns : List Int} {oc : Obj} {cd : Value}
  {Q : Flow → Shared → Prop} {E : Value → Shared → Prop} {body : List Stmt} {scope : Scope} (hb : lawTail = body) (hsc : lawScope = scope)
  (B : Below callerA h₀ [] h₀) (F : Fr h₀ L s.heap m) (X₀ : (hd.heap_39 w.params).In h₀)
  (N : News h₀ L s.heap ((x, oneL dx l n1) :: (dx, oneD h1 h2 t1 t2 b t n2) :: (t, tabO w xs n3) :: (S, stateO Bk i z u1 u2 nS) :: r)) (K : OneTab l xs) (O : Off4 x dx t S r) (T : Top p loose mean mg mb h₀)
  (hH : (H, heldO l nH) ∈ r) (hB : (Bk, listOf vs.toArray nb) ∈ r) (hc : (L + 1 + 1, oc) ∈ r) (hoc : oc.data = .cell (some (.ref x))) (hI : IntsAre vs ns) (hlen : ns.length ≤ 40) (hi : 0 ≤ i) (hms : m "state" = some (.ref S)) (hmh : m "held" = some (.ref H))
  (hE : PassesOwn (model Challenge.rw_ww0011_01.row.prog w) (callerA.deeper (envOfC "law" scope L a cd)) (envOfC "law" scope L a cd) E)
  (hQ : ∀ h' tk m', Fr h₀ L h' m' → Q (.ret (.bool true)) { s with heap := h', toks := tk }) :
  wpAny (model Challenge.rw_ww0011_01.row.prog w) (callerA.deeper (envOfC "law" scope L a cd)) (execs body (envOfC "law" scope L a cd)) Q E s := by
  conv at hb => lhs; whnf
  conv at hsc => lhs; whnf
  subst hb hsc
  revert X₀
  k_fill
  intro X₀
  k_steps
  refine stop_in ?_
  refine For_invVF F (by rfl) (by rfl) ?_ (by intro _; rfl) hE
  k_steps
  refine stop_in ?_
  rename Fr _ _ _ _ => F2
  rename News _ _ _ _ => N2
  rename IsRange _ _ _ _ _ _ _ _ => R2
  refine range_loop (by exact rfl) R2 (small_one (by decide) (by decide) (by omega) (by omega)) (rangeSize_nat _ _) F2 N2 (fun _ m₁ news₁ => LoopJ w x dx S Bk L vs nb oc m₁ news₁) ?_ ?_ ?_
  · exact ⟨_, _, _, _, _, _, _, _, _, _, _, _, _, _, _, _, _, _, _, rfl, K, O, hH, hB, hc, by assumption, hms, hmh⟩
  · rintro iN v m₁ news₁ s₁ own ⟨hp', tk', rfl⟩ hiN ⟨l, xs, t, H, nH, h1, h2, i, z, t1, t2, u1, u2, b, n1, n2, n3, nS, r1, rfl, K, O, hH, hB, hc, hi, hms, hmh⟩ hnew hown ⟨oI, hoI⟩ F4 N4
    have e1 := hnew _ (List.Mem.head _)
    have e2 := hnew _ (List.Mem.tail _ (List.Mem.head _))
    have e3 := hnew _ (List.Mem.tail _ (List.Mem.tail _ (List.Mem.head _)))
    have e4 := hnew _ (List.Mem.tail _ (List.Mem.tail _ (List.Mem.tail _ (List.Mem.head _))))
    have e5 : ∀ p ∈ r1, p.1 ≠ _ := fun p hp => hnew p (List.Mem.tail _ (List.Mem.tail _ (List.Mem.tail _ (List.Mem.tail _ hp))))
    have N5 : News h₀ L hp' ((x, oneL dx l n1) :: (dx, oneD h1 h2 t1 t2 b t n2) :: (t, tabO w xs n3) :: (S, stateO Bk i z u1 u2 nS) :: (r1 ++ own)) := news_swap (a := [_, _, _, _]) (r := r1) N4
    refine law_turn (r := r1 ++ own) rfl rfl B F4 X₀ N5 K (O.app hown e1 e2 e3 e4) T (List.mem_append_left _ hH) (List.mem_append_left _ hB) (List.mem_append_left _ hc) hoc (by assumption) hlen hi ((if_neg (by decide)).trans hms) ((if_neg (by decide)).trans hmh) ?_
    intro h' tk m' l' xs' t' H' h1' h2' i' z' t1' t2' u1' u2' b' n1' n2' n3' nS' r' F5 N6 K5 O5 hr H5 i5 s5 h5
    obtain ⟨nH', H5⟩ := H5
    rcases hr with rfl | ⟨D, o, rfl, fr⟩
    · have e6 := O5.rt _ (List.mem_append_right _ hoI)
      have hH' : (H', heldO l' nH') ∈ r1 := by
        rcases H5 with e | e
        · rw [e]; exact hH
        · exact absurd (congrArg List.length e) (by simp)
      refine LoopStepV.next (LoopStepU.intro (news₂ := [_, _, _, _] ++ r1) F5 (news_back (a := [_, _, _, _]) (r := r1) N6) ?_ ?_)
      · intro p hp
        rw [List.mem_singleton]
        rcases hp with _ | ⟨_, _ | ⟨_, _ | ⟨_, _ | ⟨_, hp⟩⟩⟩⟩
        · exact e1
        · exact e2
        · exact fun z => e6 ((hown _ hoI).trans z.symm)
        · exact e4
        · exact e5 p hp
      · exact ⟨_, _, _, _, _, _, _, _, _, _, _, _, _, _, _, _, _, _, _, rfl, K5, O5.sub fun p hp => List.mem_append_left _ hp, hH', hB, hc, i5, s5, h5⟩
    · have e6 := O5.rt _ (List.Mem.tail _ (List.mem_append_right _ hoI))
      have e7 := fr _ (List.mem_append_right _ hoI)
      have hH' : (H', heldO l' nH') ∈ (D, o) :: r1 := by
        rcases H5 with e | e
        · rw [e]; exact List.Mem.tail _ hH
        · rw [← (List.cons.inj e).1]; exact List.Mem.head _
      refine LoopStepV.next (LoopStepU.intro (news₂ := [_, _, _, _, (D, o)] ++ r1) F5 (news_back (a := [_, _, _, _, (D, o)]) (r := r1) N6) ?_ ?_)
      · intro p hp
        rw [List.mem_singleton]
        rcases hp with _ | ⟨_, _ | ⟨_, _ | ⟨_, _ | ⟨_, _ | ⟨_, hp⟩⟩⟩⟩⟩
        · exact e1
        · exact e2
        · exact fun z => e6 ((hown _ hoI).trans z.symm)
        · exact e4
        · exact fun z => e7 ((hown _ hoI).trans z.symm)
        · exact e5 p hp
      · refine ⟨_, _, _, _, _, _, _, _, _, _, _, _, _, _, _, _, _, _, _, rfl, K5, O5.sub fun p hp => ?_, hH', List.Mem.tail _ hB, List.Mem.tail _ hc, i5, s5, h5⟩
        rcases hp with _ | ⟨_, hp⟩
        · exact List.Mem.head _
        · exact List.Mem.tail _ (List.mem_append_left _ hp)
  · intro h' tk' m' news' F6 N6 hJ
    obtain ⟨l, xs, t, H, nH, h1, h2, i, z, t1, t2, u1, u2, b, n1, n2, n3, nS, r1, rfl, K, O, hH, hB, hc, hi, hms, hmh⟩ := hJ
    clear F2 N2 R2
    k_steps
    refine stop_in ?_
    rename Fr _ _ _ _ => F7
    rename News _ _ _ _ => N7
    refine LCg.CompSrc.ledger (by rfl) F7 N7 (List.Mem.tail _ (List.Mem.tail _ (List.Mem.tail _ (List.Mem.tail _ hH)))) (by have := K.le; rw [PySem.sizeLine_eq]; simp; omega) ?_
    intro gK
    have hsz : (l.map mV).toArray.size = l.length := by simp
    refine comp_inv (fun j ys news₁ => IntsAre ys ((List.range j).map fun q : Nat => (q : Int)) ∧ ∃ xs t h1 h2 t1 t2 b n1 n2 n3, news₁ = (x, oneL dx l n1) :: (dx, oneD h1 h2 t1 t2 b t n2) :: (t, tabO w xs n3) :: (S, stateO Bk i z u1 u2 nS) :: r1 ∧ OneTab l xs ∧ Off4 x dx t S r1) ?_ ⟨.nil, _, _, _, _, _, _, _, _, _, _, rfl, K, O⟩ ?_
    · rintro j v ys news₁ I oI C oC D m₂ hh1 tkk E' hj hP ⟨hys, xs, t, h1, h2, t1, t2, b, n1, n2, n3, rfl, K, O⟩ hC hx F8 N8 off ne
      rw [hsz] at hj
      obtain rfl : mV l[j] = v := by simpa [hj] using hP
      have hk : l[j] ∈ l := List.getElem_mem hj
      have hidx : l.idxOf l[j] = j := K.nd.idxOf_getElem j hj
      have offm := off.mem
      have a1 := offm _ (List.Mem.head _)
      have a2 := offm _ (List.Mem.tail _ (List.Mem.head _))
      have a3 := offm _ (List.Mem.tail _ (List.Mem.tail _ (List.Mem.head _)))
      have a4 := offm _ (List.Mem.tail _ (List.Mem.tail _ (List.Mem.tail _ (List.Mem.head _))))
      have O2 : Off4 x dx t S ((I, oI) :: (C, oC) :: (D, LCg.lst ys) :: r1) := ((O.cons a1.2.2 a2.2.2 a3.2.2 a4.2.2).cons a1.2.1 a2.2.1 a3.2.1 a4.2.1).cons a1.1 a2.1 a3.1 a4.1
      have N9 : News h₀ L hh1 ((x, oneL dx l n1) :: (dx, oneD h1 h2 t1 t2 b t n2) :: (t, tabO w xs n3) :: (S, stateO Bk i z u1 u2 nS) :: (I, oI) :: (C, oC) :: (D, LCg.lst ys) :: r1) := fun p hp => N8 p (by
        simp only [List.mem_cons] at hp ⊢
        rcases hp with h | h | h | h | h | h | h | h <;> simp [h])
      clear F7 N7 N8 O
      k_steps
      rename Fr _ _ _ _ => F9
      rename News _ _ _ _ => N10
      rename Off4 _ _ _ _ _ => O9
      refine comp_leaf F9 N10 O9 off.2.2.2.2 a1 a2 a4 (.inr ⟨_, List.Mem.tail _ (List.Mem.tail _ (List.Mem.tail _ (List.Mem.tail _ hH))), rfl, _, rfl⟩) ?_
      refine ⟨?_, _, _, _, _, _, _, _, _, _, _, rfl, by assumption, O9.sub fun p hp => List.Mem.tail _ (List.Mem.tail _ (List.Mem.tail _ hp))⟩
      rw [List.range_succ, List.map_append, hidx]
      exact IntsAre.append hys (.cons _ _ .nil)
    · rintro ys news' ⟨hys, xs, t, h1, h2, t1, t2, b, n1, n2, n3, rfl, K, O⟩
      have hle := K.le
      k_steps
      refine stop_in ?_
      rename Fr _ _ _ _ => F9
      rename News _ _ _ _ => N9
      rename IntsAre _ (rangeKs _ _) => I9
      refine eq_intsK ⟨_, (N9 _ (List.Mem.tail _ (List.Mem.head _))).1, rfl, _, rfl⟩ (by assumption) ⟨_, (N9 _ (List.Mem.head _)).1, rfl, _, rfl⟩ I9 (Nat.le_of_ble_eq_true rfl) ?_
      rw [decide_eq_true (by simp [rangeKs])]
      k_steps
      exact hQ _ _ _ F9
end Mine

end
section
open PySem PySem.W PyProof.Rows
set_option Elab.async false
set_option pp.deepTerms false
set_option pp.proofs false
set_option maxRecDepth 100000
set_option maxHeartbeats 8000000
set_option linter.unusedVariables false
namespace Mine
theorem pull2 {h₀ h : Heap} {L : Addr} {a b c : Addr × Obj} {r : List (Addr × Obj)} (N : News h₀ L h (a :: b :: c :: r)) : News h₀ L h (c :: a :: b :: r) := fun p hp => N p (by
  simp only [List.mem_cons] at hp ⊢
  rcases hp with h | h | h | h <;> simp [h])
theorem canon1 {h₀ h : Heap} {L : Addr} {a b c d e f : Addr × Obj} {r : List (Addr × Obj)} (N : News h₀ L h (a :: b :: c :: d :: e :: f :: r)) : News h₀ L h (a :: b :: c :: f :: d :: e :: r) := fun p hp => N p (by
  simp only [List.mem_cons] at hp ⊢
  rcases hp with h | h | h | h | h | h | h <;> simp [h])
theorem offP {x dx t S aH aT aB a1 a0 : Addr} {o1 o2 o3 o4 o5 o5' o6 : Obj} {rest : List (Addr × Obj)} (hr : ∀ p ∈ [(aH, o1), (aT, o2), (S, o3), (aB, o4), (a1, o5), (a0, o6)], p ∈ rest) (ns : (t == sysModules) = false) (xd : x ≠ dx) (xt : x ≠ t) (dt : dx ≠ t) (ox : ∀ p ∈ rest, p.1 ≠ x) (od : ∀ p ∈ rest, p.1 ≠ dx) (ot : ∀ p ∈ rest, p.1 ≠ t)
    (h1 : aH ≠ S) (h2 : aT ≠ S) (h3 : aB ≠ S) (h4 : a1 ≠ S) (h5 : a0 ≠ S) : Off4 x dx t S [(aH, o1), (aT, o2), (aB, o4), (a1, o5'), (a0, o6)] := by
  have g : ∀ d, (∀ p ∈ rest, p.1 ≠ d) → d ≠ S ∧ ∀ p ∈ [(aH, o1), (aT, o2), (aB, o4), (a1, o5'), (a0, o6)], p.1 ≠ d := fun d hd => by
    have q := fun p hp => hd p (hr p hp)
    refine ⟨Ne.symm (q (S, o3) (by simp)), ?_⟩
    have q1 := q (aH, o1) (by simp)
    have q2 := q (aT, o2) (by simp)
    have q3 := q (aB, o4) (by simp)
    have q4 := q (a1, o5) (by simp)
    have q5 := q (a0, o6) (by simp)
    intro p hp
    simp only [List.mem_cons, List.not_mem_nil, or_false] at hp
    rcases hp with rfl | rfl | rfl | rfl | rfl <;> assumption
  refine ⟨ns, xd, xt, dt, (g x ox).1, (g dx od).1, (g t ot).1, (g x ox).2, (g dx od).2, (g t ot).2, ?_⟩
  intro p hp
  simp only [List.mem_cons, List.not_mem_nil, or_false] at hp
  rcases hp with rfl | rfl | rfl | rfl | rfl <;> assumption
local macro_rules | `(tactic| k_room) => `(tactic| (simp only [depth_under_make, depth_under_kw, depth_in1, depth_deeper, depth_caller]; decide))
set_option hygiene false in
local macro_rules | `(tactic| walk_at "call ref") => `(tactic| (k_here; k_dflt (refine' next_c ?k1 ?k2 ?k3 ?k4 ?k5 ?k6 ?k7 ?k8 ?k9 ?k10 ?k11 ?kA ?kB ?kC ?k12 ?k13 ?k14 ?_; (case k1 => k_asm); (case k2 => k_asm); (case k3 => k_asm); (case k4 => first | k_asm | exact pull2 (by k_asm)); (case k5 => k_mem); (case k6 => assumption); (case k7 => first | assumption | (simp only [List.length_take]; omega)); (case k8 => first | assumption | decide); (case k9 => decide); (case k10 => k_all); (case k11 => k_asm); (case kA => exact rfl); (case kB => exact rfl); (case kC => exact rfl); (case k12 => exact rfl); (case k13 => k_room); (case k14 => exact Nat.le_of_ble_eq_true rfl); k_whole); (first | ((fail_if_success (have := qA)); intro hA tkA iA zA u1A u2A nA qA uqA hiA qA0 qA1 FA NA) | ((fail_if_success (have := qB)); intro hB tkB iB zB u1B u2B nB qB uqB hiB qB0 qB1 FB NB) | intro hC tkC iC zC u1C u2C nC qC uqC hiC qC0 qC1 FC NC); (try k_sweep)))
set_option hygiene false in
local macro_rules | `(tactic| walk_at "subscriptTail") => `(tactic| (k_here; k_dflt (refine' menu_tail ?mF ?mX ?ma ?mb ?_; (case mF => k_asm); (case mX => k_asm); (case ma => first | assumption | exact Int.fmod_nonneg_of_pos _ (by decide)); (case mb => first | assumption | exact Int.fmod_lt_of_pos _ (by decide)); k_whole); intro kM hkM))
local macro_rules | `(tactic| walk_at "CompSrc") => `(tactic| (refine stop_of ?_))
local macro_rules | `(tactic| walk_at "execs cons For") => `(tactic| (refine stop_of ?_))
local macro_rules | `(tactic| k_ne) => `(tactic| (first | assumption | exact Ne.symm (by assumption)))
set_option hygiene false in
local macro_rules | `(tactic| walk_at "call ref") => `(tactic| (k_here; k_dflt (refine' make_c ?k1 ?k2 ?k3 ?k4 ?k5 ?kA ?kB ?kC ?k6 ?k7 ?k8 ?k9 ?k10 ?_; (case k1 => k_asm); (case k2 => k_asm); (case k3 => k_asm); (case k4 => k_asm); (case k5 => k_asm); (case kA => exact rfl); (case kB => exact rfl); (case kC => exact rfl); (case k6 => exact rfl); (case k7 => k_room); (case k8 => exact Nat.le_of_ble_eq_true rfl); (case k9 => k_mem); (case k10 => assumption); k_whole); (intro xM dxM tM hM tkM xsM h1M h2M t1M t2M bM n1M n2M n3M KM nsM xdM xtM dtM oxM odM otM FM NM); (k_dflt (have c1 := oxM _ (List.Mem.tail _ (List.Mem.tail _ (List.Mem.tail _ (List.Mem.tail _ (List.Mem.head _))))); have c2 := odM _ (List.Mem.tail _ (List.Mem.tail _ (List.Mem.tail _ (List.Mem.tail _ (List.Mem.head _))))); have c3 := otM _ (List.Mem.tail _ (List.Mem.tail _ (List.Mem.tail _ (List.Mem.tail _ (List.Mem.head _)))))); (dsimp only at c1 c2 c3); (try k_sweep))))
set_option hygiene false in
local macro_rules | `(tactic| walk_at "call ref") => `(tactic| (k_here; k_dflt (refine' make0_c ?k1 ?k2 ?k3 ?k4 ?k5 ?kA ?kB ?kC ?k6 ?k7 ?k8 ?_; (case k1 => k_asm); (case k2 => k_asm); (case k3 => k_asm); (case k4 => k_asm); (case k5 => k_asm); (case kA => exact rfl); (case kB => exact rfl); (case kC => exact rfl); (case k6 => exact rfl); (case k7 => k_room); (case k8 => exact Nat.le_of_ble_eq_true rfl); k_whole); (intro xM dxM tM hM tkM xsM h1M h2M t1M t2M bM n1M n2M n3M KM nsM xdM xtM dtM oxM odM otM FM NM); (k_dflt (have c1 := oxM _ (List.Mem.tail _ (List.Mem.tail _ (List.Mem.tail _ (List.Mem.tail _ (List.Mem.head _))))); have c2 := odM _ (List.Mem.tail _ (List.Mem.tail _ (List.Mem.tail _ (List.Mem.tail _ (List.Mem.head _))))); have c3 := otM _ (List.Mem.tail _ (List.Mem.tail _ (List.Mem.tail _ (List.Mem.tail _ (List.Mem.head _)))))); (dsimp only at c1 c2 c3); (try k_sweep))))
theorem law_w : PySem.Challenge.rw_ww0011_01.Holds := by
  refine Mine.hd ?_
  k_go0
  all_goals try k_fold
  k_steps
  refine stop_in ?_
  rename Fr _ _ _ _ => F2
  rename News _ _ _ _ => N2
  rename IsRange _ _ _ _ _ _ _ _ => R2
  obtain ⟨nn, hnn⟩ : ∃ nn : Nat, qB = nn := ⟨qB.toNat, by omega⟩
  subst hnn
  have hn5 : nn < 5 := by omega
  refine LCg.CompSrc.range (n := nn) (by rfl) F2 N2 R2 (small_one (by decide) (by decide) (by omega) (by omega)) ((rangeSize_nat _ _).trans (by omega)) (by rw [PySem.sizeLine_eq]; omega) ?_
  intro gK
  refine comp_menu (fun j => (qA + 3 * (j : Int)).fmod 8) ?_ ?_
  · intro iK tK ysK IK oIK CK oCK DK mK hK tkK EK hiK hCK hxK FK NK offK neK
    clear F2 N2 R2
    k_steps
    refine LCg.CompEnd.intro FK NK _ (fun _ hp => hp) offK True.intro ⟨rfl, kM, rfl, hkM⟩
  intro held0 hlen0 hg0
  have hnd0 := stride_nodup (by omega) hg0
  clear F2 N2 R2
  k_steps
  all_goals refine stop_in ?_
  all_goals rename Fr _ _ _ _ => F9
  all_goals rename News _ _ _ _ => N9
  · refine law_tail rfl rfl (by assumption) F9 (by assumption) (canon1 N9) KM (offP (rest := _) (fun p hp => hp) nsM xdM xtM dtM oxM odM otM (by refine neN ?_; (try dsimp only); omega) (by refine neN ?_; (try dsimp only); omega) (by refine neN ?_; (try dsimp only); omega) (by refine neN ?_; (try dsimp only); omega) (by refine neN ?_; (try dsimp only); omega) ) (by assumption) (List.Mem.head _) (List.Mem.tail _ (List.Mem.tail _ (List.Mem.head _))) (List.Mem.tail _ (List.Mem.tail _ (List.Mem.tail _ (List.Mem.head _)))) (by assumption) (by assumption) (by rw [List.length_take]; exact Nat.min_le_left _ _) (by assumption) rfl rfl (by passes_own) ?_
    intro h' tk m' F'
    k_steps
  · refine law_tail rfl rfl (by assumption) F9 (by assumption) N9 KM (offP (rest := _) (List.forall_mem_cons.mpr ⟨List.Mem.tail _ (List.Mem.head _), List.forall_mem_cons.mpr ⟨List.Mem.tail _ (List.Mem.tail _ (List.Mem.head _)), List.forall_mem_cons.mpr ⟨List.Mem.head _, List.forall_mem_cons.mpr ⟨List.Mem.tail _ (List.Mem.tail _ (List.Mem.tail _ (List.Mem.head _))), List.forall_mem_cons.mpr ⟨List.Mem.tail _ (List.Mem.tail _ (List.Mem.tail _ (List.Mem.tail _ (List.Mem.head _)))), List.forall_mem_cons.mpr ⟨List.Mem.tail _ (List.Mem.tail _ (List.Mem.tail _ (List.Mem.tail _ (List.Mem.tail _ (List.Mem.head _))))), List.forall_mem_nil _⟩⟩⟩⟩⟩⟩) nsM xdM xtM dtM oxM odM otM (by refine neN ?_; (try dsimp only); omega) (by refine neN ?_; (try dsimp only); omega) (by refine neN ?_; (try dsimp only); omega) (by refine neN ?_; (try dsimp only); omega) (by refine neN ?_; (try dsimp only); omega) ) (by assumption) (List.Mem.head _) (List.Mem.tail _ (List.Mem.tail _ (List.Mem.head _))) (List.Mem.tail _ (List.Mem.tail _ (List.Mem.tail _ (List.Mem.head _)))) (by assumption) (by assumption) (by rw [List.length_take]; exact Nat.min_le_left _ _) (by assumption) rfl rfl (by passes_own) ?_
    intro h' tk m' F'
    k_steps
  · obtain rfl : held0 = [] := List.length_eq_zero_iff.mp (by omega)
    refine law_tail rfl rfl (by assumption) F9 (by assumption) N9 KM (offP (rest := _) (List.forall_mem_cons.mpr ⟨List.Mem.tail _ (List.Mem.head _), List.forall_mem_cons.mpr ⟨List.Mem.tail _ (List.Mem.tail _ (List.Mem.head _)), List.forall_mem_cons.mpr ⟨List.Mem.head _, List.forall_mem_cons.mpr ⟨List.Mem.tail _ (List.Mem.tail _ (List.Mem.tail _ (List.Mem.head _))), List.forall_mem_cons.mpr ⟨List.Mem.tail _ (List.Mem.tail _ (List.Mem.tail _ (List.Mem.tail _ (List.Mem.head _)))), List.forall_mem_cons.mpr ⟨List.Mem.tail _ (List.Mem.tail _ (List.Mem.tail _ (List.Mem.tail _ (List.Mem.tail _ (List.Mem.head _))))), List.forall_mem_nil _⟩⟩⟩⟩⟩⟩) nsM xdM xtM dtM oxM odM otM (by refine neN ?_; (try dsimp only); omega) (by refine neN ?_; (try dsimp only); omega) (by refine neN ?_; (try dsimp only); omega) (by refine neN ?_; (try dsimp only); omega) (by refine neN ?_; (try dsimp only); omega) ) (by assumption) (List.Mem.head _) (List.Mem.tail _ (List.Mem.tail _ (List.Mem.head _))) (List.Mem.tail _ (List.Mem.tail _ (List.Mem.tail _ (List.Mem.head _)))) (by assumption) (by assumption) (by rw [List.length_take]; exact Nat.min_le_left _ _) (by assumption) rfl rfl (by passes_own) ?_
    intro h' tk m' F'
    k_steps
end Mine

end
theorem PySem.Challenge.cw_ww0011_01_holds : PySem.Challenge.rw_ww0011_01.Holds := by
  exact Mine.law_w
