import PyProof.Rows.All
import Wide.All
import OpenK.AllK
import Wide.FinOn
import KE.KIsBytes
import KE.BytesMake
import KE.KxBytes
import KE.KDictIter
import Wide.Txt2
import KE.KBytesWalk
import KE.KTypeName
import KE.KxPercent
import OpenK.KNot
import PyProof.StrWalks
import PyProof.DictWalks
import PySem.Challenge.RW_dm0221_10
set_option Elab.async false
set_option linter.all false
set_option genInjectivity false
set_option genSizeOf false
set_option bootstrap.genMatcherCode false
section
open PySem PySem.W PyProof.Rows
namespace Mine
set_option linter.unusedVariables false
/- a set's table: its places rise -/
noncomputable def Rise (xs : Array Nat) : Prop := xs.toList.Pairwise (· < ·)
theorem Rise.lt {xs : Array Nat} (r : Rise xs) {i k : Nat} (hi : i < k) (hk : k < xs.size) : xs[i]'(by omega) < xs[k] := by
  have := List.pairwise_iff_getElem.mp r i k (by simpa using (by omega : i < xs.size)) (by simpa using hk) hi
  simpa using this
structure BelowIs (xs : Array Nat) (j r : Nat) : Prop where
  le : r ≤ xs.size
  lo : ∀ i (h : i < xs.size), i < r → xs[i] < j
  hi : ∀ i (h : i < xs.size), r ≤ i → j ≤ xs[i]
theorem below_go {xs : Array Nat} (r : Rise xs) {j : Nat} : ∀ (fuel lo hi : Nat), hi - lo ≤ fuel → lo ≤ hi → hi ≤ xs.size → (∀ i (h : i < xs.size), i < lo → xs[i] < j) → (∀ i (h : i < xs.size), hi ≤ i → j ≤ xs[i]) → BelowIs xs j (SetTable.below.go xs j fuel lo hi)
  | 0, lo, hi, h1, h2, h3, h4, h5 => by
    have : lo = hi := by omega
    subst this
    exact ⟨h3, h4, h5⟩
  | fuel + 1, lo, hi, h1, h2, h3, h4, h5 => by
    rw [SetTable.below.go]
    by_cases h : lo < hi
    · rw [if_pos h]
      have hm : (lo + hi) / 2 < hi := by omega
      have hm2 : lo ≤ (lo + hi) / 2 := by omega
      have hms : (lo + hi) / 2 < xs.size := by omega
      have hg : xs.getD ((lo + hi) / 2) j = xs[(lo + hi) / 2] := by simp [Array.getD, hms]
      dsimp only
      rw [hg]
      by_cases hj : xs[(lo + hi) / 2] < j
      · rw [if_pos hj]
        refine below_go r fuel _ _ (by omega) (by omega) h3 (fun i hi' hl => ?_) h5
        rcases Nat.lt_or_ge i ((lo + hi) / 2) with z | z
        · exact Nat.lt_trans (r.lt z hms) hj
        · have : i = (lo + hi) / 2 := by omega
          subst this; exact hj
      · rw [if_neg hj]
        refine below_go r fuel _ _ (by omega) hm2 (by omega) h4 (fun i hi' hl => ?_)
        rcases Nat.lt_or_ge ((lo + hi) / 2) i with z | z
        · have := r.lt z hi'; omega
        · have : i = (lo + hi) / 2 := by omega
          subst this; omega
    · rw [if_neg h]
      have : lo = hi := by omega
      subst this
      exact ⟨h3, h4, h5⟩
theorem below_is {xs : Array Nat} (r : Rise xs) (j : Nat) : BelowIs xs j (SetTable.below xs j) :=
  below_go r _ _ _ (Nat.le_refl _) (Nat.zero_le _) (Nat.le_refl _) (fun _ _ h => absurd h (Nat.not_lt_zero _)) fun i h h' => by omega
theorem below_zero {xs : Array Nat} (r : Rise xs) : SetTable.below xs 0 = 0 := by
  have b := below_is r 0
  rcases Nat.eq_zero_or_pos (SetTable.below xs 0) with h | h
  · exact h
  · have := b.lo 0 (by have := b.le; omega) h; omega
theorem below_next {xs : Array Nat} (r : Rise xs) {i : Nat} (h : i < xs.size) : SetTable.below xs (xs[i] + 1) = i + 1 := by
  have b := below_is r (xs[i] + 1)
  rcases Nat.lt_trichotomy (SetTable.below xs (xs[i] + 1)) (i + 1) with z | z | z
  · have := b.hi i h (by omega); omega
  · exact z
  · have h2 : i + 1 < xs.size := by have := b.le; omega
    have := b.lo (i + 1) h2 z
    have := r.lt (show i < i + 1 by omega) h2
    omega
/-- a place that the table does not hold -/
theorem not_mem_of_below {xs : Array Nat} (r : Rise xs) {j : Nat} (h : xs[SetTable.below xs j]? ≠ some j) : j ∉ xs.toList := fun hm => by
  obtain ⟨k, hk, e⟩ := List.getElem_of_mem hm
  have hk' : k < xs.size := by simpa using hk
  have e' : xs[k] = j := by simpa using e
  have b := below_is r j
  have h1 : SetTable.below xs j ≤ k := Nat.le_of_not_lt fun z => by have := b.lo k hk' z; omega
  rcases Nat.lt_or_ge (SetTable.below xs j) k with z | z
  · have := b.hi _ (Nat.lt_trans z hk') (Nat.le_refl _)
    have := r.lt z hk'; omega
  · have : SetTable.below xs j = k := Nat.le_antisymm h1 z
    exact h (by rw [this, Array.getElem?_eq_getElem hk', e'])
theorem insertAt_list {α : Type} (xs : Array α) (p : Nat) (x : α) : (SetTable.insertAt xs p x).toList = xs.toList.take p ++ x :: xs.toList.drop p := by
  simp [SetTable.insertAt, List.take_of_length_le]
theorem rise_insert {xs : Array Nat} (r : Rise xs) {j : Nat} (h : xs[SetTable.below xs j]? ≠ some j) : Rise (SetTable.insertAt xs (SetTable.below xs j) j) := by
  have hn := not_mem_of_below r h
  have b := below_is r j
  unfold Rise
  rw [insertAt_list, List.pairwise_append, List.pairwise_cons]
  refine ⟨r.sublist (List.take_sublist _ _), ⟨fun y hy => ?_, r.sublist (List.drop_sublist _ _)⟩, fun y hy z hz => ?_⟩
  · obtain ⟨i, hi, e⟩ := List.getElem_of_mem hy
    rw [List.getElem_drop] at e
    have hi' : SetTable.below xs j + i < xs.size := by simp at hi; omega
    have := b.hi _ hi' (Nat.le_add_right _ _)
    have e' : xs[SetTable.below xs j + i] = y := by simpa using e
    rcases Nat.lt_or_ge j y with z | z
    · exact z
    · have : y = j := by omega
      exact absurd (this ▸ List.mem_of_mem_drop hy) hn
  · obtain ⟨i, hi, e⟩ := List.getElem_of_mem hy
    have hi2 : i < SetTable.below xs j ∧ i < xs.size := by
      rw [List.length_take] at hi; have : i < xs.toList.length := by omega
      exact ⟨by omega, by simpa using this⟩
    have e' : xs[i]'hi2.2 = y := by rw [List.getElem_take] at e; simpa using e
    have hlt := b.lo i hi2.2 hi2.1
    rcases List.mem_cons.mp hz with rfl | hz
    · omega
    · obtain ⟨k, hk, e2⟩ := List.getElem_of_mem hz
      rw [List.getElem_drop] at e2
      have hk' : SetTable.below xs j + k < xs.size := by simp at hk; omega
      have := b.hi _ hk' (Nat.le_add_right _ _)
      have e2' : xs[SetTable.below xs j + k] = z := by simpa using e2
      omega
theorem rise_range (n : Nat) : Rise (Array.range n) := by
  unfold Rise
  rw [Array.toList_range]
  exact List.pairwise_lt_range
theorem rise_empty : Rise #[] := List.Pairwise.nil
/- the slots that a search meets -/
noncomputable def NotLive (t : SetTable) (j : Nat) : Prop := t.place[SetTable.below t.place j]? ≠ some j
theorem slot_empty {t : SetTable} {j : Nat} (h : t.slot j = .empty ∨ t.slot j = .dummy) : NotLive t j := fun e => by
  unfold SetTable.slot at h
  dsimp only at h
  rw [e] at h
  simp at h
theorem advance_dummy (t : SetTable) (p : SetTable.Probe) : (t.advance p).dummy = p.dummy := by
  unfold SetTable.advance
  split <;> rfl
theorem probe_go {t : SetTable} {f : Nat → Int} {h : Int} : ∀ (fuel : Nat) (p : SetTable.Probe) (j : Nat) (d : Option Nat), (∀ k, p.dummy = some k → t.slot k = .dummy) → SetTable.probe.go t f h fuel p = some (.empty j d) → t.slot j = .empty ∧ ∀ k, d = some k → t.slot k = .dummy
  | 0, p, j, d, _, e => by simp [SetTable.probe.go] at e
  | fuel + 1, p, j, d, hp, e => by
    rw [SetTable.probe.go] at e
    split at e
    · rename_i hs
      simp only [Option.some.injEq, SetTable.Met.empty.injEq] at e
      obtain ⟨rfl, rfl⟩ := e
      exact ⟨hs, hp⟩
    · rename_i hs
      exact probe_go fuel _ j d (fun k hk => by rw [advance_dummy] at hk; simp only [Option.some.injEq] at hk; subst hk; exact hs) e
    · split at e
      · simp at e
      · exact probe_go fuel _ j d (fun k hk => hp k (by rw [advance_dummy] at hk; exact hk)) e
theorem freeSlot_notLive {t : SetTable} {h : Int} {j : Nat} {b : Bool} (e : t.freeSlot h = some (j, b)) : NotLive t j := by
  unfold SetTable.freeSlot at e
  split at e
  · rename_i j' d hm
    simp only [Option.some.injEq, Prod.mk.injEq] at e
    obtain ⟨e1, _⟩ := e
    obtain ⟨h1, h2⟩ := probe_go _ _ _ _ (fun k hk => by simp [SetTable.probeStart] at hk) hm
    cases d with
    | none => exact slot_empty (.inl (e1 ▸ h1))
    | some k => exact slot_empty (.inr (e1 ▸ h2 k rfl))
  · cases e
/-- what is kept of a table -/
structure Tab (ld : Bool) (t : SetTable) : Prop where
  rise : Rise t.place
  led : t.led = ld
theorem Tab.fresh (a b : Nat) (ld : Bool) : Tab ld (.fresh a b ld) := ⟨rise_empty, rfl⟩
theorem Tab.standIn {ld : Bool} {t : SetTable} (h : t.led = ld) (n : Nat) : Tab ld (t.standIn n) := ⟨rise_range n, h⟩
theorem Tab.orStandIn {ld : Bool} {t : SetTable} (h : Tab ld t) (n : Nat) : Tab ld (t.orStandIn n) := by
  unfold SetTable.orStandIn
  split
  · exact h
  · exact Tab.standIn h.led n
theorem Tab.put {ld : Bool} {t : SetTable} (h : Tab ld t) {j : Nat} (n : NotLive t j) : Tab ld (t.put j).1 := ⟨rise_insert h.rise n, h.led⟩
theorem Tab.layNew {ld : Bool} {t : SetTable} (h : Tab ld t) (es : Array (Int × Value)) (hx : Int) (x : Value) : Tab ld (layNew t es hx x).2.1 := by
  unfold PySem.layNew
  split
  · rename_i slot wd e
    exact (h.put (freeSlot_notLive e)).orStandIn _
  · exact Tab.standIn h.led _
theorem Tab.laid {ld pl : Bool} {mask fi mv : Nat} {hs : Array Int} {r : SetTable × Array Nat} (e : SetTable.laid mask fi mv ld pl hs = some r) : Tab ld r.1 := by
  unfold SetTable.laid at e
  simp only [Option.bind_eq_bind, Option.pure_def, Option.bind_eq_some_iff, Option.some.injEq] at e
  obtain ⟨owner, _, e⟩ := e
  subst e
  refine ⟨?_, rfl⟩
  unfold Rise
  simp only [List.map_filterMap, Option.map_map]
  have : ((List.range (mask + 1)).filterMap fun j => Option.map (Prod.fst ∘ fun x => (j, x)) (owner.getD j none)) = (List.range (mask + 1)).filter fun j => (owner.getD j none).isSome := by
    induction (List.range (mask + 1)) with
    | nil => rfl
    | cons a l ih =>
      rw [List.filterMap_cons, List.filter_cons]
      cases owner.getD a none with
      | none => exact ih
      | some k => exact congrArg (a :: ·) ih
  rw [this]
  exact List.Pairwise.filter _ List.pairwise_lt_range
theorem Tab.relayAll {ld : Bool} {t : SetTable} (h : Tab ld t) (es : Array (Int × Value)) (n : Nat) : Tab ld (relayAll t es n).2.1 := by
  unfold PySem.relayAll
  split
  · rename_i t' order e
    unfold SetTable.relaid at e
    rw [h.led] at e
    dsimp only
    split
    · exact Tab.laid e
    · exact Tab.standIn h.led _
  · exact Tab.standIn h.led _
end Mine
end
section
open PySem PySem.W PyProof.Rows
namespace Mine
set_option linter.unusedVariables false
/- rising rows of ints -/
noncomputable def insI (x : Int) : List Int → List Int
  | [] => [x]
  | y :: ys => if x < y then x :: y :: ys else if x = y then y :: ys else y :: insI x ys
theorem mem_insI {x j : Int} : ∀ {l : List Int}, j ∈ insI x l ↔ j = x ∨ j ∈ l
  | [] => by simp [insI]
  | y :: ys => by
    rw [insI]
    split
    · simp
    · split
      · rename_i h; subst h; simp
      · rw [List.mem_cons, mem_insI, List.mem_cons]
        constructor
        · rintro (h | h | h)
          · exact .inr (.inl h)
          · exact .inl h
          · exact .inr (.inr h)
        · rintro (h | h | h)
          · exact .inr (.inl h)
          · exact .inl h
          · exact .inr (.inr h)
theorem insI_sorted {x : Int} : ∀ {l : List Int}, l.Pairwise (· < ·) → (insI x l).Pairwise (· < ·)
  | [], _ => by simp [insI]
  | y :: ys, h => by
    obtain ⟨h1, h2⟩ := List.pairwise_cons.mp h
    rw [insI]
    split
    · rename_i hx
      refine List.pairwise_cons.mpr ⟨fun z hz => ?_, h⟩
      rcases List.mem_cons.mp hz with rfl | hz
      · exact hx
      · exact Int.lt_trans hx (h1 z hz)
    · split
      · exact h
      · rename_i h3 h4
        refine List.pairwise_cons.mpr ⟨fun z hz => ?_, insI_sorted h2⟩
        rcases mem_insI.mp hz with rfl | hz
        · omega
        · exact h1 z hz
theorem insI_old {x : Int} : ∀ {l : List Int}, l.Pairwise (· < ·) → x ∈ l → insI x l = l
  | [], _, h => by simp at h
  | y :: ys, h, hx => by
    obtain ⟨h1, h2⟩ := List.pairwise_cons.mp h
    rw [insI]
    rcases List.mem_cons.mp hx with rfl | hx
    · rw [if_neg (Int.lt_irrefl _), if_pos rfl]
    · have := h1 x hx
      rw [if_neg (by omega), if_neg (by omega), insI_old h2 hx]
theorem insI_new {x : Int} : ∀ {l : List Int}, x ∉ l → (insI x l).length = l.length + 1
  | [], _ => rfl
  | y :: ys, h => by
    simp only [List.mem_cons, not_or] at h
    rw [insI]
    split
    · rfl
    · rw [if_neg h.1, List.length_cons, insI_new h.2, List.length_cons]
/-- the rising row of what a row holds -/
noncomputable def distI (l : List Int) : List Int := l.foldl (fun a x => insI x a) []
theorem distI_snoc (l : List Int) (x : Int) : distI (l ++ [x]) = insI x (distI l) := by
  unfold distI; rw [List.foldl_append]; rfl
theorem distI_sorted (l : List Int) : (distI l).Pairwise (· < ·) := by
  have : ∀ (l a : List Int), a.Pairwise (· < ·) → (l.foldl (fun a x => insI x a) a).Pairwise (· < ·) := by
    intro l
    induction l with
    | nil => exact fun a h => h
    | cons x l ih => exact fun a h => ih _ (insI_sorted h)
  exact this l [] .nil
theorem mem_foldl_insI {j : Int} : ∀ (l a : List Int), j ∈ l.foldl (fun a x => insI x a) a ↔ j ∈ a ∨ j ∈ l
  | [], a => by simp
  | x :: l, a => by
    rw [List.foldl_cons, mem_foldl_insI l, mem_insI, List.mem_cons]
    constructor
    · rintro ((h | h) | h)
      · exact .inr (.inl h)
      · exact .inl h
      · exact .inr (.inr h)
    · rintro (h | h | h)
      · exact .inl (.inr h)
      · exact .inl (.inl h)
      · exact .inr h
theorem mem_distI {j : Int} {l : List Int} : j ∈ distI l ↔ j ∈ l := by
  unfold distI; rw [mem_foldl_insI]; simp
theorem insI_length_le {x : Int} : ∀ {l : List Int}, (insI x l).length ≤ l.length + 1
  | [] => by simp [insI]
  | y :: ys => by
    rw [insI]
    split
    · simp
    · split
      · simp
      · have := @insI_length_le x ys
        simp; omega
theorem distI_length_le (l : List Int) : (distI l).length ≤ l.length := by
  have : ∀ (l a : List Int), (l.foldl (fun a x => insI x a) a).length ≤ a.length + l.length := by
    intro l
    induction l with
    | nil => exact fun a => Nat.le_refl _
    | cons x l ih =>
      intro a
      have h1 := ih (insI x a)
      have h2 := @insI_length_le x a
      rw [List.foldl_cons, List.length_cons]; omega
  have := this l []
  simpa [distI] using this
/-- a set's row of ints -/
noncomputable def SetEs (ld : Bool) (es : Array (Int × Value)) (t : SetTable) (xs : List Int) : Prop :=
  xs.Pairwise (· < ·) ∧ (∀ e ∈ es.toList, ∃ i tk, e = (hashInt i, Value.int i tk)) ∧ es.size = xs.length ∧ (∀ i, i ∈ xs ↔ ∃ tk, (hashInt i, Value.int i tk) ∈ es.toList) ∧ es.size < scanBound ∧ t.fits es.size = true ∧ Tab ld t
theorem SetEs.add {ld : Bool} {es es' : Array (Int × Value)} {t t' : SetTable} {xs : List Int} {i : Int} {tk : Tok} (S : SetEs ld es t xs) (hn : i ∉ xs) (p : es'.toList.Perm (es.toList ++ [(hashInt i, .int i tk)])) (hb : es.size + 1 < scanBound) (hf : t'.fits es'.size = true) (hT : Tab ld t') : SetEs ld es' t' (insI i xs) := by
  obtain ⟨h1, h2, h3, h4, h5, _, _⟩ := S
  have hs : es'.size = es.size + 1 := by rw [← Array.length_toList, p.length_eq, List.length_append, Array.length_toList]; rfl
  refine ⟨insI_sorted h1, fun e he => ?_, by rw [hs, insI_new hn, h3], fun j => ?_, by rw [hs]; exact hb, hf, hT⟩
  · rcases List.mem_append.mp (p.mem_iff.mp he) with he | he
    · exact h2 e he
    · exact ⟨i, tk, List.mem_singleton.mp he⟩
  · rw [mem_insI, h4 j]
    constructor
    · rintro (rfl | ⟨tk', h⟩)
      · exact ⟨tk, p.mem_iff.mpr (List.mem_append_right _ (List.mem_singleton.mpr rfl))⟩
      · exact ⟨tk', p.mem_iff.mpr (List.mem_append_left _ h)⟩
    · rintro ⟨tk', h⟩
      rcases List.mem_append.mp (p.mem_iff.mp h) with h | h
      · exact .inr ⟨tk', h⟩
      · have := List.mem_singleton.mp h
        simp only [Prod.mk.injEq, Value.int.injEq] at this
        exact .inl this.2.1
theorem SetEs.empty (a b : Nat) (ld : Bool) : SetEs ld #[] (.fresh a b ld) [] := ⟨.nil, fun e he => by simp at he, rfl, fun i => by simp, by decide, rfl, Tab.fresh a b ld⟩
section
variable {prog : Program} {w : World} {A : Around} {E : Value → Shared → Prop} {s : Shared}
theorem SetEs.elems {ld : Bool} {es : Array (Int × Value)} {t : SetTable} {xs : List Int} (S : SetEs ld es t xs) : ElemsOf (PySem.intKind prog w) es.toList := fun e he => by
  obtain ⟨i, tk, rfl⟩ := S.2.1 e he
  exact ⟨⟨i, by simp [PySem.intKind, Value.isInt], rfl⟩, rfl⟩
theorem SetEs.look {ld : Bool} {es : Array (Int × Value)} {t : SetTable} {xs : List Int} (S : SetEs ld es t xs) (i : Int) : (∃ e ∈ es.toList, Value.isInt i e.2 = true) ↔ i ∈ xs := by
  rw [S.2.2.2.1 i]
  constructor
  · rintro ⟨e, he, hi⟩
    obtain ⟨j, tk, rfl⟩ := S.2.1 e he
    obtain ⟨tk', hv⟩ := Value.isInt_shape hi
    cases hv
    exact ⟨tk, he⟩
  · rintro ⟨tk, he⟩
    exact ⟨_, he, by simp [Value.isInt]⟩
end
end Mine
end
section
open PySem PySem.W PyProof.Rows PySem.Calls
namespace Mine
set_option linter.unusedVariables false
set_option maxRecDepth 100000
theorem entry_set_iter : entryFor table "set.__iter__" = some Builtin.«frozenset.__iter__» :=
  entryFor_alias (id' := "frozenset.__iter__") (by rw [fastTable_eq_tree]; kernel_rfl) rfl (by decide +kernel) (by rw [fastTable_eq_tree]; kernel_rfl)
theorem slot_seti_next : Slot "set_iterator" "__next__" "set_iterator.__next__" :=
  .of (owner := "set_iterator") (n := "__next__") (by rw [typeLookup_type, builtinLookup_eq_fast]; kernel_rfl) (by decide +kernel) (by decide +kernel) (by decide +kernel)
    (by first | exact .inl (by decide +kernel) | exact .inr (by decide +kernel)) (by rw [isSubtype_type]; kernel_rfl)
theorem entry_seti_next : entryFor table "set_iterator.__next__" = some Builtin.«set_iterator.__next__» := entryFor_of_tree (by kernel_rfl)
theorem args_seti_next (a : Value) : argsOk "set_iterator.__next__" ⟨[a], []⟩ := by
  unfold argsOk; kernel_rfl
theorem slot_seti_iter : Slot "set_iterator" "__iter__" "set_iterator.__iter__" :=
  .of (owner := "set_iterator") (n := "__iter__") (by rw [typeLookup_type, builtinLookup_eq_fast]; kernel_rfl) (by decide +kernel) (by decide +kernel) (by decide +kernel)
    (by first | exact .inl (by decide +kernel) | exact .inr (by decide +kernel)) (by rw [isSubtype_type]; kernel_rfl)
theorem entry_seti_iter : entryFor table "set_iterator.__iter__" = some Builtin.«dict_keyiterator.__iter__» :=
  entryFor_alias (id' := "dict_keyiterator.__iter__") (by rw [fastTable_eq_tree]; kernel_rfl) (by first | rfl | decide +kernel) (by decide +kernel) (by rw [fastTable_eq_tree]; kernel_rfl)
theorem args_seti_iter (a : Value) : argsOk "set_iterator.__iter__" ⟨[a], []⟩ := by
  unfold argsOk; kernel_rfl
theorem pick_go {α : Type} (f : Nat → Nat) : ∀ (n k : Nat) (left : List α) (out : Array α), left.length = n → (pickOrder.go f n k left out).size = out.size + n
  | 0, k, left, out, h => rfl
  | n + 1, k, left, out, h => by
    rw [pickOrder.go]
    have hl : f k % left.length < left.length := Nat.mod_lt _ (by omega)
    rw [List.getElem?_eq_getElem hl]
    dsimp only
    rw [pick_go f n (k + 1) _ _ (by rw [List.length_eraseIdx_of_lt hl]; omega), Array.size_push]
    omega
theorem pick_size {α : Type} (f : Nat → Nat) (xs : Array α) : (pickOrder f xs).size = xs.size := by
  unfold pickOrder
  rw [pick_go f xs.size 0 xs.toList #[] (by simp)]
  simp
/-- a set that may be gone over: b tells that its places count -/
structure SetIt (b : Bool) (es : Array (Int × Value)) (t : SetTable) : Prop where
  fits : t.fits es.size = true
  rise : Rise t.place
  plain : t.plain = true
  led : t.led = b
theorem SetIt.place {b : Bool} {es : Array (Int × Value)} {t : SetTable} (S : SetIt b es t) : t.place.size = es.size := by
  have := S.fits
  simp only [SetTable.fits, Bool.and_eq_true, beq_iff_eq] at this
  exact this.1
noncomputable def SetAt (h : Heap) (a : Addr) (es : Array (Int × Value)) (ep : Nat) (t : SetTable) : Prop := ∃ o, h.get? a = some o ∧ o.cls = .type "set" ∧ o.data = .set es ep t
noncomputable def SetItAt (h : Heap) (I a : Addr) (i slot n ep : Nat) : Prop := ∃ o, h.get? I = some o ∧ o.cls = .type "set_iterator" ∧ o.data = .fields #[.int slot 0, .int i 0, .ref a, .int n 0, .int ep 0]
section
variable {prog : Program} {w : World} {A : Around} {E : Value → Shared → Prop} {s : Shared} {a I : Addr} {o : Obj} {es : Array (Int × Value)} {ep i slot : Nat} {t : SetTable}
theorem setByText {Q : Bool → Shared → Prop} (h : Q (w.params.followText "set-order") s) : wpAny (model prog w) A setsByText Q E s := by
  unfold setsByText
  exact wpAny_bind (wpAny_askSetting (wpAny_pure h))
theorem set_pyIter (hS : SetAt s.heap a es ep t) (S : SetIt (!w.params.followText "set-order") es t) {Q : Value → Shared → Prop}
    (hQ : Q (.ref s.heap.objs.size) { s with heap := s.heap.push { cls := .type "set_iterator", data := .fields #[.int 0 0, .int 0 0, .ref a, .int es.size 0, .int ep 0] } }) :
    wpAny (model prog w) A (pyIter (.ref a)) Q E s := by
  obtain ⟨o, ho, hc, hd⟩ := hS
  have hT : s.TypeIs (.ref a) "set" := ⟨o, ho, hc⟩
  refine wpAny_pyIter_slot hT F.slot_set_iter (wpAny_call_entry F.slot_set_iter hT entry_set_iter ?_ (F.args_set_iter_1 _))
  unfold Builtin.«frozenset.__iter__» Builtin.Frozenset.slot0 slotArgs
  simp only [List.isEmpty_nil, Bool.not_true, Bool.false_eq_true, ↓reduceIte, bind_assoc, List.length_nil, bne_self_eq_false]
  unfold Builtin.Frozenset.addrOf Builtin.Frozenset.sizeOf
  refine wpAny_bind (wpAny_pure ?_)
  try dsimp only
  refine wpAny_bind (wpAny_pure ?_)
  refine wpAny_bind (wpAny_bind (wpAny_setEntries_of ho hd S.fits (wpAny_pure ?_)))
  unfold setDrawn
  refine wpAny_bind (wpAny_bind (wpAny_setState_of ho hd S.fits ?_))
  dsimp only
  refine wpAny_bind (setByText (wpAny_pure ?_))
  have hdr : (!w.params.followText "set-order" && (!t.plain && decide (es.size > 1))) = false := by rw [S.plain]; simp
  show wpAny _ _ (if (!w.params.followText "set-order" && (!t.plain && decide (es.size > 1))) = true then _ else _) _ _ _
  rw [hdr]
  simp only [Bool.false_eq_true, if_false]
  refine wpAny_bind (wpAny_pure ?_)
  refine wpAny_bind (wpAny_setEpoch_of ho hd S.fits ?_)
  exact wpAny_bind (wpAny_newObj_type (wpAny_pure ⟨_, rfl, "set_iterator", _, ⟨_, Heap.get?_push_size _ rfl, rfl⟩, slot_seti_next.lookup, hQ⟩))
theorem set_iterSelf (hI : SetItAt s.heap I a i slot es.size ep) {Q : Value → Shared → Prop} (h : Q (.ref I) s) : wpAny (model prog w) A (pyIter (.ref I)) Q E s := by
  obtain ⟨o, ho, hc, hd⟩ := hI
  have hT : s.TypeIs (.ref I) "set_iterator" := ⟨o, ho, hc⟩
  refine wpAny_pyIter_slot hT slot_seti_iter (wpAny_call_entry slot_seti_iter hT entry_seti_iter ?_ (args_seti_iter _))
  show wpAny _ _ (ret (.ref I)) _ _ s
  exact wpAny_pure ⟨_, rfl, "set_iterator", _, hT, slot_seti_next.lookup, h⟩
/-- where the iterator stands -/
noncomputable def StandsAt (w : World) (t : SetTable) (slot i : Nat) : Prop := w.params.followText "set-order" = true ∨ SetTable.below t.place slot = i
theorem setNext_ok (hoa : s.heap.get? a = some o) (hda : o.data = .set es ep t) (S : SetIt (!w.params.followText "set-order") es t) (hst : StandsAt w t slot i) {Q : Option (Value × Nat) → Shared → Prop}
    (h1 : i < es.size → ∀ x slot', StandsAt w t slot' (i + 1) → Q (some (x, slot')) s) (h2 : es.size ≤ i → Q none s) : wpAny (model prog w) A (setNext a slot i ep) Q E s := by
  unfold setNext
  refine wpAny_bind (wpAny_setState_of hoa hda S.fits ?_)
  dsimp only
  refine wpAny_bind (setByText ?_)
  cases hb : w.params.followText "set-order" with
  | true =>
    have e1 : (ep != ep) = false := by simp
    simp only [if_true, e1, Bool.false_eq_true, if_false]
    unfold setWalk
    refine wpAny_bind (wpAny_bind (wpAny_setState_of hoa hda S.fits ?_))
    dsimp only
    refine wpAny_bind (setByText ?_)
    rw [hb]
    simp only [if_true]
    refine wpAny_bind (wpAny_askSetting (wpAny_pure (wpAny_pure ?_)))
    show Q (((pickOrder (w.params.setOrder a ep) es)[i]?).map fun e => (e.2, slot)) s
    by_cases hi : i < es.size
    · have hp : i < (pickOrder (w.params.setOrder a ep) es).size := by rw [pick_size]; exact hi
      rw [Array.getElem?_eq_getElem hp]
      exact h1 hi _ _ (.inl hb)
    · rw [Array.getElem?_eq_none (by rw [pick_size]; omega)]
      exact h2 (by omega)
  | false =>
    simp only [Bool.false_eq_true, if_false]
    have hst : SetTable.below t.place slot = i := hst.resolve_left (by rw [hb]; simp)
    have hdr : ¬ ((!t.plain && decide (es.size > 1)) = true) := by rw [S.plain]; simp
    have hld : ¬ ((!t.led && !es.isEmpty) = true) := by rw [S.led, hb]; simp
    show wpAny _ _ (if (!t.plain && decide (es.size > 1)) = true then _ else _) _ _ _
    rw [if_neg hdr]
    refine wpAny_bind (m := if (!t.led && !es.isEmpty) = true then unsupported _ else pure ()) ?_
    rw [if_neg hld]
    refine wpAny_pure (wpAny_pure ?_)
    rw [hst]
    by_cases hi : i < es.size
    · have hp : i < t.place.size := by rw [S.place]; exact hi
      rw [Array.getElem?_eq_getElem hi, Array.getElem?_eq_getElem hp]
      exact h1 hi _ _ (.inr (below_next S.rise hp))
    · rw [Array.getElem?_eq_none (by omega)]
      exact h2 (by omega)
theorem set_pyNext_item (hI : SetItAt s.heap I a i slot es.size ep) (hS : SetAt s.heap a es ep t) (S : SetIt (!w.params.followText "set-order") es t) (hst : StandsAt w t slot i) (hi : i < es.size) {Q : Option Value → Shared → Prop}
    (hQ : ∀ x slot' h', SetItAt h' I a (i + 1) slot' es.size ep → StandsAt w t slot' (i + 1) → Heap.SameBut I s.heap h' → Q (some x) { s with heap := h' }) :
    wpAny (model prog w) A (pyNext (.ref I)) Q E s := by
  obtain ⟨o, ho, hc, hd⟩ := hI
  obtain ⟨oa, hoa, hca, hda⟩ := hS
  have hT : s.TypeIs (.ref I) "set_iterator" := ⟨o, ho, hc⟩
  unfold pyNext
  refine wpAny_bind (wpAny_attempt (wpAny_callSpecial?_slot (name := Str.ofString "__next__") hT slot_seti_next
    (wpAny_call_entry slot_seti_next hT entry_seti_next ?_ (args_seti_next _))))
  unfold Builtin.«set_iterator.__next__» slotArgs
  simp only [List.isEmpty_nil, Bool.not_true, Bool.false_eq_true, ↓reduceIte, List.length_nil, bne_self_eq_false]
  refine wpAny_bind (wpAny_pure ?_)
  refine wpAny_bind (wpAny_fieldsOf ho hd ?_)
  dsimp only
  refine wpAny_bind (wpAny_setEntries_of hoa hda S.fits ?_)
  have e1 : (((es.size : Nat) : Int) != ((es.size : Nat) : Int)) = false := by simp
  rw [e1]
  simp only [Bool.false_eq_true, if_false, Int.toNat_natCast]
  refine wpAny_bind (setNext_ok hoa hda S hst (fun _ x slot' hs' => ?_) fun h => by omega)
  dsimp only
  refine wpAny_bind (wpAny_setField ho hd (by simp) ?_)
  have ho1 : (s.heap.update I (Obj.mapFields (·.setIfInBounds 0 (rawInt (slot' : Nat))))).get? I = some (Obj.mapFields (·.setIfInBounds 0 (rawInt (slot' : Nat))) o) := Heap.get?_update_self _ ho (Obj.isFreed_of_fields (Obj.data_mapFields hd _))
  have hd1 : (Obj.mapFields (·.setIfInBounds 0 (rawInt (slot' : Nat))) o).data = .fields #[.int slot' 0, .int i 0, .ref a, .int es.size 0, .int ep 0] := by rw [Obj.data_mapFields hd]; simp [rawInt]
  refine wpAny_bind (wpAny_setField (s := { s with heap := s.heap.update I (Obj.mapFields (·.setIfInBounds 0 (rawInt (slot' : Nat)))) }) ho1 hd1 (by simp) ?_)
  have ho2 := Heap.get?_update_self (Obj.mapFields (·.setIfInBounds 1 (rawInt ((i : Int) + 1)))) ho1 (Obj.isFreed_of_fields (Obj.data_mapFields hd1 _))
  have hd2 : (Obj.mapFields (·.setIfInBounds 1 (rawInt ((i : Int) + 1))) (Obj.mapFields (·.setIfInBounds 0 (rawInt (slot' : Nat))) o)).data = .fields #[.int slot' 0, .int ((i + 1 : Nat) : Int) 0, .ref a, .int es.size 0, .int ep 0] := by rw [Obj.data_mapFields hd1]; simp [rawInt]
  exact wpAny_pure ⟨_, rfl, wpAny_pure (hQ x slot' _ ⟨_, ho2, ((Obj.cls_mapFields ..).trans (Obj.cls_mapFields ..)).trans hc, hd2⟩ hs' ((Heap.SameBut.update ..).trans (Heap.SameBut.update ..)))⟩
theorem set_pyNext_end (hh : A.handled = none) (hI : SetItAt s.heap I a es.size slot es.size ep) (hS : SetAt s.heap a es ep t) (S : SetIt (!w.params.followText "set-order") es t) (hst : StandsAt w t slot es.size) {Q : Option Value → Shared → Prop}
    (hQ : ∀ h', Heap.ExtBut I s.heap h' → Q none { s with heap := h' }) : wpAny (model prog w) A (pyNext (.ref I)) Q E s := by
  obtain ⟨o, ho, hc, hd⟩ := hI
  obtain ⟨oa, hoa, hca, hda⟩ := hS
  have hT : s.TypeIs (.ref I) "set_iterator" := ⟨o, ho, hc⟩
  unfold pyNext
  refine wpAny_bind (wpAny_attempt (wpAny_callSpecial?_slot (name := Str.ofString "__next__") hT slot_seti_next
    (wpAny_call_entry slot_seti_next hT entry_seti_next ?_ (args_seti_next _))))
  unfold Builtin.«set_iterator.__next__» slotArgs
  simp only [List.isEmpty_nil, Bool.not_true, Bool.false_eq_true, ↓reduceIte, List.length_nil, bne_self_eq_false]
  refine wpAny_bind (wpAny_pure ?_)
  refine wpAny_bind (wpAny_fieldsOf ho hd ?_)
  dsimp only
  refine wpAny_bind (wpAny_setEntries_of hoa hda S.fits ?_)
  have e1 : (((es.size : Nat) : Int) != ((es.size : Nat) : Int)) = false := by simp
  rw [e1]
  simp only [Bool.false_eq_true, if_false, Int.toNat_natCast]
  refine wpAny_bind (setNext_ok hoa hda S hst (fun h => absurd h (Nat.lt_irrefl _)) fun _ => ?_)
  dsimp only
  refine wpAny_bind (wpAny_setField ho hd (by simp) ?_)
  show wpAny _ _ (newExc (.type "StopIteration") [] >>= _) _ _ _
  refine wpAny_bind ?_
  simp only [newExc, newTuple]
  refine wpAny_bind (wpAny_newObj_type ?_ (by size_fits))
  refine wpAny_bind (m := firstArgMember _ _) (wpAny_of_eq (a := Value.none) (by first | rfl | (simp only [firstArgMember]; rfl)) ?_)
  refine wpAny_newObj_type ?_ (by size_fits)
  simp only [raiseNew]
  refine wpAny_bind (wpAny_handled ?_)
  rw [show A.in1.handled = none from hh]
  refine wpAny_bind (wpAny_pure (wpAny_throw ?_))
  refine wpAny_bind (wpAny_isInstance (T := "StopIteration") (b := true) ⟨_, Heap.get?_push_size _ rfl, rfl⟩ isSubtype_stop ?_)
  exact wpAny_pure (hQ _ (((Heap.SameBut.update ..).extBut.push _).push _))
/-- its length -/
theorem set_len (hS : SetAt s.heap a es ep t) (hf : t.fits es.size = true) (hfit : (es.size : Int) < 2 ^ 63) {Q : Value → Shared → Prop} (h : Q (.int es.size (s.toks + 1)) { s with toks := s.toks + 1 + 1 }) : wpAny (model prog w) A (call (.builtin "len") [.ref a]) Q E s := by
  obtain ⟨o, ho, hc, hd⟩ := hS
  have hT : s.TypeIs (.ref a) "set" := ⟨o, ho, hc⟩
  refine Calls.call_function_entry kind_len plain_len entry_len (args_len1 _) ?_
  unfold Builtin.«len»
  refine wpAny_bind (m := oneArg "len" _) (wpAny_pure ?_)
  refine wpAny_bind (m := callSpecial? (.ref a) (Str.ofString "__len__")) (wpAny_callSpecial?_slot (name := Str.ofString "__len__") hT F.slot_set_len
    (wpAny_call_entry F.slot_set_len hT entry_set_len ?_ (F.args_set_len_1 _)))
  unfold Builtin.«frozenset.__len__» Builtin.Frozenset.slot0 slotArgs
  simp only [List.isEmpty_nil, Bool.not_true, Bool.false_eq_true, ↓reduceIte, bind_assoc, List.length_nil, bne_self_eq_false]
  unfold Builtin.Frozenset.addrOf Builtin.Frozenset.sizeOf
  refine wpAny_bind (wpAny_pure ?_)
  try dsimp only
  refine wpAny_bind (wpAny_pure ?_)
  refine wpAny_bind (wpAny_bind (wpAny_setEntries_of ho hd hf (wpAny_pure ?_)))
  show wpAny _ _ (retInt _) _ _ _
  unfold retInt
  refine wpAny_bind (wpAny_mkInt (wpAny_pure ⟨_, rfl, ?_⟩))
  refine wpAny_bind (wpAny_holding (wpAny_pure ?_))
  refine wpAny_bind (wpAny_letGo ?_)
  show wpAny _ _ (if ((es.size : Nat) : Int) < 0 then _ else _) _ _ _
  rw [if_neg (by omega)]
  show wpAny _ _ (if ((es.size : Nat) : Int) ≥ 2 ^ 63 then _ else _) _ _ _
  rw [if_neg (by omega)]
  exact wpAny_bind (wpAny_mkInt (wpAny_pure ⟨_, rfl, h⟩))
end
end Mine
end
section
open PySem PySem.W PyProof.Rows
namespace Mine
set_option linter.unusedVariables false
set_option maxRecDepth 100000
/- small sets: ints from 0 to 4, put in one after the other -/
/-- the table of such a set -/
noncomputable def Tof (ld : Bool) (xs : List Int) : SetTable := { mask := if xs.length ≤ 4 then 7 else 31, place := (xs.map Int.toNat).toArray, dummies := #[], finger := 0, led := ld, moves := if xs.length ≤ 4 then 0 else 1, plain := true }
noncomputable def T7 (ld : Bool) (xs : List Int) : SetTable := { mask := 7, place := (xs.map Int.toNat).toArray, dummies := #[], finger := 0, led := ld, moves := 0, plain := true }
noncomputable def subs : List (List Int) := [[], [0], [1], [0, 1], [2], [0, 2], [1, 2], [0, 1, 2], [3], [0, 3], [1, 3], [0, 1, 3], [2, 3], [0, 2, 3], [1, 2, 3], [0, 1, 2, 3], [4], [0, 4], [1, 4], [0, 1, 4], [2, 4], [0, 2, 4], [1, 2, 4], [0, 1, 2, 4], [3, 4], [0, 3, 4], [1, 3, 4], [0, 1, 3, 4], [2, 3, 4], [0, 2, 3, 4], [1, 2, 3, 4], [0, 1, 2, 3, 4]]
noncomputable def fives : List Int := [0, 1, 2, 3, 4]
noncomputable def stepOk (ld : Bool) (xs : List Int) (i : Int) : Bool := xs.contains i || ((Tof ld xs).freeSlot (hashInt i) == some (i.toNat, false) && ((Tof ld xs).put i.toNat).1 == T7 ld (insI i xs) && decide (SetTable.below (Tof ld xs).place i.toNat ≤ xs.length) &&
  xs.take (SetTable.below (Tof ld xs).place i.toNat) ++ i :: xs.drop (SetTable.below (Tof ld xs).place i.toNat) == insI i xs && (T7 ld (insI i xs)).fits (insI i xs).length && subs.contains (insI i xs) && ((insI i xs).length == 5) == (T7 ld (insI i xs)).tooFull)
theorem steps_ok : ∀ ld : Bool, ∀ xs ∈ subs, ∀ i ∈ fives, stepOk ld xs i = true := by decide +kernel
theorem relaid_ok : ∀ ld : Bool, (T7 ld fives).relaid #[hashInt 0, hashInt 1, hashInt 2, hashInt 3, hashInt 4] (SetTable.grown 5) = some (Tof ld fives, #[0, 1, 2, 3, 4]) := by decide +kernel
theorem subs_ok : ∀ ld : Bool, ∀ xs ∈ subs, xs.length ≤ 5 ∧ (Tof ld xs).fits xs.length = true ∧ (xs.map Int.toNat).Pairwise (· < ·) ∧ (∀ i ∈ xs, i ∈ fives) ∧ xs.Pairwise (· < ·) ∧ (xs.length ≤ 4 ∨ xs = fives) := by decide +kernel
noncomputable def keyOf (e : Int × Value) : Option (Int × Int) := match e.2 with | .int i _ => some (i, e.1) | _ => none
structure SmS (ld : Bool) (es : Array (Int × Value)) (t : SetTable) (xs : List Int) : Prop where
  sub : xs ∈ subs
  tab : t = Tof ld xs
  keys : es.toList.map keyOf = xs.map fun i => some (i, hashInt i)
theorem SmS.size {ld : Bool} {es : Array (Int × Value)} {t : SetTable} {xs : List Int} (S : SmS ld es t xs) : es.size = xs.length := by
  have := congrArg List.length S.keys
  simpa using this
theorem SmS.setIt {ld : Bool} {es : Array (Int × Value)} {t : SetTable} {xs : List Int} (S : SmS ld es t xs) : SetIt ld es t := by
  obtain ⟨_, h2, h3, _⟩ := subs_ok ld xs S.sub
  rw [S.tab]
  exact ⟨by rw [S.size]; exact h2, by unfold Rise Tof; simpa using h3, rfl, rfl⟩
theorem key_shape {e : Int × Value} {i h : Int} (k : keyOf e = some (i, h)) : ∃ tk, e = (h, .int i tk) := by
  obtain ⟨e1, e2⟩ := e
  cases e2 <;> simp [keyOf] at k
  rename_i j tk
  obtain ⟨rfl, rfl⟩ := k
  exact ⟨tk, rfl⟩
theorem SmS.shape {ld : Bool} {es : Array (Int × Value)} {t : SetTable} {xs : List Int} (S : SmS ld es t xs) {e : Int × Value} (he : e ∈ es.toList) : ∃ i tk, i ∈ xs ∧ e = (hashInt i, .int i tk) := by
  have : keyOf e ∈ es.toList.map keyOf := List.mem_map_of_mem he
  rw [S.keys] at this
  obtain ⟨i, hi, k⟩ := List.mem_map.mp this
  obtain ⟨tk, e'⟩ := key_shape k.symm
  exact ⟨i, tk, hi, e'⟩
theorem SmS.has {ld : Bool} {es : Array (Int × Value)} {t : SetTable} {xs : List Int} (S : SmS ld es t xs) (i : Int) : (∃ e ∈ es.toList, Value.isInt i e.2 = true) ↔ i ∈ xs := by
  constructor
  · rintro ⟨e, he, hi⟩
    obtain ⟨j, tk, hj, rfl⟩ := S.shape he
    obtain ⟨tk', hv⟩ := Value.isInt_shape hi
    cases hv
    exact hj
  · intro hi
    have : some (i, hashInt i) ∈ es.toList.map keyOf := by rw [S.keys]; exact List.mem_map_of_mem (f := fun i => some (i, hashInt i)) hi
    obtain ⟨e, he, k⟩ := List.mem_map.mp this
    obtain ⟨tk, rfl⟩ := key_shape k
    exact ⟨_, he, by simp [Value.isInt]⟩
theorem SmS.empty (ld : Bool) : SmS ld #[] (.fresh 0 0 ld) [] := ⟨by decide, rfl, rfl⟩
theorem filter_five {es : Array (Int × Value)} (h : es.size = 5) : (#[0, 1, 2, 3, 4] : Array Nat).filterMap (es[·]?) = es := by
  apply Array.ext'
  obtain ⟨l⟩ := es
  match l, h with
  | [a, b, c, d, e], _ => rfl
section
variable {prog : Program} {w : World} {A : Around} {E : Value → Shared → Prop} {s : Shared}
theorem SmS.elems {ld : Bool} {es : Array (Int × Value)} {t : SetTable} {xs : List Int} (S : SmS ld es t xs) : ElemsOf (PySem.intKind prog w) es.toList := fun e he => by
  obtain ⟨i, tk, _, rfl⟩ := S.shape he
  exact ⟨⟨i, by simp [PySem.intKind, Value.isInt], rfl⟩, rfl⟩
/-- a small int is put into a small set -/
theorem smAdd {a : Addr} {o : Obj} {es : Array (Int × Value)} {ep : Nat} {t : SetTable} {ld : Bool} {xs : List Int} {i : Int} {tk : Tok} {Q : Bool → Shared → Prop} (ho : s.heap.get? a = some o) (hd : o.data = .set es ep t) (S : SmS ld es t xs) (hi5 : i ∈ fives)
    (h : ∀ h' es' ep' t' b, SmS ld es' t' (insI i xs) → h'.get? a = some { o with data := .set es' ep' t' } → Heap.SameBut a s.heap h' → Q b { s with heap := h' }) :
    wpAny (model prog w) A (setAddHashed a (.int i tk) (hashInt i)) Q E s := by
  obtain ⟨hl5, hfit, hris, hmem5, hpw, hsh⟩ := subs_ok ld xs S.sub
  have hf : t.fits es.size = true := by rw [S.tab, S.size]; exact hfit
  have hb : es.size < scanBound := by rw [S.size, show scanBound = 4096 from rfl]; omega
  have hkey : (PySem.intKind prog w).is i (.int i tk) = true := by simp [PySem.intKind, Value.isInt]
  have hel : ElemsOf (PySem.intKind prog w) es.toList := S.elems
  unfold setAddHashed setAddHashedIn
  refine wpAny_holding (wpAny_bind (wpAny_setState_of ho hd hf ?_))
  dsimp only
  rw [byScan_of (knd := PySem.intKind prog w) (by rfl) hb hel]
  simp only [↓reduceIte]
  unfold setAddByScan
  refine wpAny_bind ?_
  refine wpAny_bind (wpAny_rule ?_)
  refine wpAny_bind (wpAny_setScan_of (knd := PySem.intKind prog w) (k := i) hkey ho hd hf hel ?_)
  cases hr : List.findIdx? (fun e => (PySem.intKind prog w).is i e.2) es.toList with
  | some j =>
    dsimp only
    obtain ⟨hj, hpj, _⟩ := List.findIdx?_eq_some_iff_getElem.mp hr
    have hm : i ∈ xs := (S.has i).mp ⟨es.toList[j], List.getElem_mem hj, hpj⟩
    refine wpAny_pure (wpAny_pure ?_)
    exact h s.heap es ep t _ (by rw [insI_old hpw hm]; exact S) (by rw [ho, ← hd]) (Heap.SameBut.refl a s.heap)
  | none =>
    dsimp only
    have hm : i ∉ xs := fun hm => by
      obtain ⟨e, he, hp⟩ := (S.has i).mpr hm
      have := List.findIdx?_eq_none_iff.mp hr e he
      have h2 : (PySem.intKind prog w).is i e.2 = true := hp
      rw [h2] at this; cases this
    have st := steps_ok ld xs S.sub i hi5
    unfold stepOk at st
    have hc : xs.contains i = false := by simpa using hm
    rw [hc, Bool.false_or] at st
    simp only [Bool.and_eq_true, beq_iff_eq, decide_eq_true_eq] at st
    obtain ⟨⟨⟨⟨⟨⟨q1, q2⟩, q3⟩, q4⟩, q5⟩, q6⟩, q7⟩ := st
    have q6 : insI i xs ∈ subs := by simpa using q6
    have hlen : (insI i xs).length = xs.length + 1 := insI_new hm
    rw [← S.tab] at q1 q2 q3 q4
    generalize hp : SetTable.below t.place i.toNat = p at q3 q4
    have hput : t.put i.toNat = (T7 ld (insI i xs), p) := Prod.ext q2 hp
    have hes : (SetTable.insertAt es p (hashInt i, .int i tk)).size = (insI i xs).length := by
      rw [← Array.length_toList, insertAt_list, hlen, ← S.size]
      simp
      have : p ≤ es.size := by rw [S.size]; exact q3
      omega
    have hlay : layNew t es (hashInt i) (.int i tk) = (SetTable.insertAt es p (hashInt i, .int i tk), T7 ld (insI i xs), false, false) := by
      unfold layNew
      rw [q1]
      dsimp only
      rw [hput]
      dsimp only
      have hff : (T7 ld (insI i xs)).fits (SetTable.insertAt es p (hashInt i, .int i tk)).size = true := by rw [hes]; exact q5
      unfold SetTable.orStandIn
      rw [hff]; rfl
    have hkeys : (SetTable.insertAt es p (hashInt i, .int i tk)).toList.map keyOf = (insI i xs).map fun i => some (i, hashInt i) := by
      rw [insertAt_list, List.map_append, List.map_cons, List.map_take, List.map_drop, S.keys, ← q4, List.map_append, List.map_cons, List.map_take, List.map_drop]; rfl
    rw [hlay]
    have hz1 : (SetTable.insertAt es p (hashInt i, .int i tk)).size ≤ sizeLine := by rw [hes, hlen, sizeLine_eq]; omega
    refine wpAny_bind (m := pure ()) (wpAny_pure ?_)
    show wpAny _ _ (hashByValue 8 (.int i tk) >>= _) _ _ _
    rw [hashByValue_scannable 8 (by rfl)]
    refine wpAny_bind (wpAny_pure ?_)
    simp only [show plainKind (Value.int i tk) = true from rfl, if_true]
    refine wpAny_bind (wpAny_storeSet_of ho hd ?_ hz1)
    have hg : (s.heap.update a (Obj.putSet (SetTable.insertAt es p (hashInt i, .int i tk)) (T7 ld (insI i xs)))).get? a = some { o with data := .set (SetTable.insertAt es p (hashInt i, .int i tk)) (ep + 1) (T7 ld (insI i xs)) } := by
      have := Heap.get?_update_self (Obj.putSet (SetTable.insertAt es p (hashInt i, .int i tk)) (T7 ld (insI i xs))) ho (by rw [putSet_of _ _ hd]; rfl)
      rw [putSet_of _ _ hd] at this; exact this
    have hsb := Heap.SameBut.update s.heap a (Obj.putSet (SetTable.insertAt es p (hashInt i, .int i tk)) (T7 ld (insI i xs)))
    show wpAny _ _ (if (!false && (T7 ld (insI i xs)).tooFull) = true then _ else _) _ _ _
    rw [Bool.not_false, Bool.true_and, ← q7]
    by_cases h5 : (insI i xs).length = 5
    · have hfv : insI i xs = fives := by
        rcases (subs_ok ld _ q6).2.2.2.2.2 with z | z
        · omega
        · exact z
      rw [if_pos (by simpa using h5)]
      have hes5 : (SetTable.insertAt es p (hashInt i, .int i tk)).size = 5 := hes.trans h5
      have hh : (SetTable.insertAt es p (hashInt i, .int i tk)).map (·.1) = #[hashInt 0, hashInt 1, hashInt 2, hashInt 3, hashInt 4] := by
        apply Array.ext'
        rw [Array.toList_map]
        have e2 := congrArg (List.map fun (k : Option (Int × Int)) => (k.map (·.2)).getD 0) hkeys
        rw [List.map_map, List.map_map, hfv] at e2
        have e3 : (SetTable.insertAt es p (hashInt i, .int i tk)).toList.map ((fun (k : Option (Int × Int)) => (k.map (·.2)).getD 0) ∘ keyOf) = (SetTable.insertAt es p (hashInt i, .int i tk)).toList.map (·.1) := by
          refine List.map_congr_left fun e he => ?_
          have : keyOf e ∈ (SetTable.insertAt es p (hashInt i, .int i tk)).toList.map keyOf := List.mem_map_of_mem he
          rw [hkeys] at this
          obtain ⟨j, _, k⟩ := List.mem_map.mp this
          obtain ⟨tk', rfl⟩ := key_shape k.symm
          rfl
        rw [e3] at e2
        exact e2
      have hre : relayAll (T7 ld (insI i xs)) (SetTable.insertAt es p (hashInt i, .int i tk)) (SetTable.grown (SetTable.insertAt es p (hashInt i, .int i tk)).size) = (SetTable.insertAt es p (hashInt i, .int i tk), Tof ld fives, false) := by
        unfold relayAll
        rw [hh, hes5, hfv, relaid_ok ld]
        dsimp only
        rw [filter_five hes5, if_pos]
        have c1 : coversAll #[0, 1, 2, 3, 4] 5 = true := by decide +kernel
        have c2 : (Tof ld fives).fits 5 = true := by cases ld <;> decide +kernel
        rw [c1, hes5, c2]; rfl
      rw [hre]
      refine wpAny_bind (m := pure ()) (wpAny_pure ?_)
      show wpAny _ _ (storeSet a (SetTable.insertAt es p (hashInt i, .int i tk)) (Tof ld fives) >>= _) _ _ _
      refine wpAny_bind (wpAny_storeSet_of (s := { s with heap := s.heap.update a (Obj.putSet (SetTable.insertAt es p (hashInt i, .int i tk)) (T7 ld (insI i xs))) }) hg rfl ?_ hz1)
      have hg2 := Heap.get?_update_self (Obj.putSet (SetTable.insertAt es p (hashInt i, .int i tk)) (Tof ld fives)) hg (by rw [putSet_of _ _ rfl]; rfl)
      rw [putSet_of _ _ rfl] at hg2
      refine wpAny_pure (wpAny_pure ?_)
      exact h _ _ _ _ _ ⟨q6, by rw [hfv], hkeys⟩ hg2 (hsb.trans (Heap.SameBut.update _ a _))
    · rw [if_neg (by simpa using h5)]
      refine wpAny_pure (wpAny_pure ?_)
      refine h _ _ _ _ _ ⟨q6, ?_, hkeys⟩ hg hsb
      have hle : (insI i xs).length ≤ 4 := by have := (subs_ok ld _ q6).1; omega
      unfold Tof T7
      rw [if_pos hle, if_pos hle]
/-- the method add -/
theorem call_smAdd {a : Addr} {o : Obj} {es : Array (Int × Value)} {ep : Nat} {t : SetTable} {ld : Bool} {xs : List Int} {i : Int} {tk : Tok} {Q : Value → Shared → Prop} (ho : s.heap.get? a = some o) (hc : o.cls = .type "set") (hd : o.data = .set es ep t) (S : SmS ld es t xs) (hi5 : i ∈ fives)
    (h : ∀ h' es' ep' t', SmS ld es' t' (insI i xs) → h'.get? a = some { o with data := .set es' ep' t' } → Heap.SameBut a s.heap h' → Q .none { s with heap := h', toks := s.toks + 1 }) :
    wpAny (model prog w) A (call (.builtin "set.add") [.ref a, .int i tk]) Q E s := by
  have hT : s.TypeIs (.ref a) "set" := ⟨o, ho, hc⟩
  refine wpAny_call_entry F.slot_set_add hT F.entry_set_add ?_ (F.args_set_add_2 _ _)
  unfold Builtin.«set.add» Builtin.Frozenset.oneOther
  simp only [List.isEmpty_nil, bind_assoc]
  unfold Builtin.Frozenset.addrOf setAdd
  refine wpAny_bind (wpAny_pure ?_)
  try dsimp only
  refine wpAny_bind (wpAny_pure ?_)
  try dsimp only
  refine wpAny_bind ?_
  refine wpAny_holding ?_
  refine wpAny_bind ((PySem.intKind prog w).pyHash (k := i) (by simp [PySem.intKind, Value.isInt]) ?_)
  refine smAdd (s := { s with toks := s.toks + 1 }) ho hd S hi5 fun h' es' ep' t' b S' hg hsb => ?_
  show wpAny _ _ (ret Value.none) _ _ _
  exact wpAny_pure ⟨_, rfl, h h' es' ep' t' S' hg hsb⟩
end
end Mine
end
section
open PySem PySem.W PyProof.Rows PySem.Calls
namespace Mine
set_option linter.unusedVariables false
set_option maxRecDepth 100000
/- a dict that is gone over, its keys unknown -/
noncomputable def DictA (h : Heap) (d : Addr) (es : Array DictEntry) (ep : Nat) : Prop := ∃ o, h.get? d = some o ∧ o.cls = .type "dict" ∧ o.data = .dict es ep
section
variable {prog : Program} {w : World} {A : Around} {E : Value → Shared → Prop} {s : Shared} {d I : Addr} {es : Array DictEntry} {ep i : Nat}
theorem dict_pyIter (hd : (d == sysModules) = false) (hm : DictA s.heap d es ep) {Q : Value → Shared → Prop}
    (hQ : Q (.ref s.heap.objs.size) { s with heap := s.heap.push { cls := .type "dict_keyiterator", data := .fields #[.ref d, .int 0 0, .int es.size 0, .int ep 0] } }) :
    wpAny (model prog w) A (pyIter (.ref d)) Q E s := by
  obtain ⟨o, ho, hc, hdat⟩ := hm
  have hT : s.TypeIs (.ref d) "dict" := ⟨o, ho, hc⟩
  refine wpAny_pyIter_slot hT F.slot_dict_iter (wpAny_call_entry F.slot_dict_iter hT F.entry_dict_iter ?_ (F.args_dict_iter_1 _))
  unfold Builtin.«dict.__iter__»
  refine wpAny_bind ?_
  unfold Builtin.Dict.dictSlotNone
  refine wpAny_bind (wpAny_notOrdered_dict hT ?_)
  show wpAny _ _ (pure (Value.ref d)) _ _ s
  refine wpAny_pure ?_
  show wpAny _ _ (Builtin.Dict.showsAll d >>= _) _ _ s
  unfold Builtin.Dict.showsAll
  rw [if_neg (by rw [hd]; exact Bool.false_ne_true)]
  refine wpAny_bind (wpAny_pure ?_)
  refine wpAny_bind (wpAny_dictEntries ho hdat ?_)
  refine wpAny_bind (wpAny_dictEpoch ho hdat ?_)
  exact wpAny_bind (wpAny_newObj_type (wpAny_pure ⟨_, rfl, "dict_keyiterator", _, ⟨_, Heap.get?_push_size _ rfl, rfl⟩, F.slot_dict_keyiterator_next.lookup, hQ⟩))
theorem dict_pyNext_item (hit : s.heap.IsKeyIter I d i es.size ep) (hm : DictA s.heap d es ep) (hlt : i < es.size) {Q : Option Value → Shared → Prop}
    (hQ : ∀ key h', h'.IsKeyIter I d (i + 1) es.size ep → Heap.SameBut I s.heap h' → Q (some key) { s with heap := h' }) :
    wpAny (model prog w) A (pyNext (.ref I)) Q E s := by
  obtain ⟨o, ho, hc, hd⟩ := id hit
  obtain ⟨od, hod, hcd, hdd⟩ := hm
  unfold pyNext
  refine wpAny_bind (wpAny_attempt (wpAny_callSpecial?_slot (name := Str.ofString "__next__") hit.typeIs F.slot_dict_keyiterator_next
    (wpAny_call_entry F.slot_dict_keyiterator_next hit.typeIs F.entry_dict_keyiterator_next ?_ (F.args_dict_keyiterator_next_1 _))))
  refine wpAny_bind (wpAny_pure ?_)
  refine wpAny_bind ?_
  refine wpAny_bind ?_
  first | refine wpAny_bind (wpAny_typeNameOfWhole_keyiter hit.typeIs (wpAny_pure ?_)) | refine wpAny_bind (wpAny_typeNameOf_keyiter hit.typeIs (wpAny_pure ?_))
  refine wpAny_bind (wpAny_fieldsOf ho hd ?_)
  have hown : Builtin.Dict_items.ownsTuple "dict_keyiterator" = false := by decide
  simp only [hown, Bool.false_eq_true, if_false]
  show wpAny _ _ (if (Value.ref d == Value.none) = true then _ else _) _ _ s
  rw [if_neg (show ¬ ((Value.ref d == Value.none) = true) from Bool.false_ne_true)]
  refine wpAny_bind (wpAny_pure ?_)
  refine wpAny_bind (wpAny_dictEntries hod hdd ?_)
  rw [if_neg (by simp)]
  refine wpAny_bind (wpAny_pure ?_)
  refine wpAny_bind (wpAny_dictEpoch hod hdd ?_)
  rw [if_neg (by simp)]
  refine wpAny_pure ?_
  simp only [show ¬ ((i : Int) < 0) from by omega, if_false, Int.toNat_natCast, Array.getElem?_eq_getElem hlt]
  refine wpAny_bind ?_
  first | refine wpAny_bind (wpAny_typeNameOfWhole_keyiter hit.typeIs (wpAny_pure ?_)) | refine wpAny_bind (wpAny_typeNameOf_keyiter hit.typeIs (wpAny_pure ?_))
  refine wpAny_bind (wpAny_isOneOf_keyiter hit.typeIs ?_)
  show wpAny _ _ (setField (.ref I) 1 (rawInt ((i : Int) + 1)) >>= _) _ _ s
  refine wpAny_bind (wpAny_setField ho hd (by simp) ?_)
  have hit' : (s.heap.update I (Obj.mapFields (·.setIfInBounds 1 (rawInt ((i : Int) + 1))))).IsKeyIter I d (i + 1) es.size ep :=
    ⟨_, Heap.get?_update_self _ ho (Obj.isFreed_of_fields (Obj.data_mapFields hd _)), (Obj.cls_mapFields ..).trans hc, by rw [Obj.data_mapFields hd]; simp [rawInt]⟩
  refine wpAny_bind (wpAny_holding ?_)
  refine wpAny_bind (wpAny_isOneOf_keyiter (s := { s with heap := s.heap.update I (Obj.mapFields (·.setIfInBounds 1 (rawInt ((i : Int) + 1)))) }) hit'.typeIs ?_)
  show wpAny _ _ (pure es[i].key) _ _ _
  exact wpAny_pure (wpAny_pure ⟨_, rfl, wpAny_pure (hQ _ _ hit' (Heap.SameBut.update ..))⟩)
theorem dict_pyNext_end (hh : A.handled = none) (hit : s.heap.IsKeyIter I d es.size es.size ep) (hm : DictA s.heap d es ep) {Q : Option Value → Shared → Prop}
    (hQ : ∀ h', Heap.ExtBut I s.heap h' → Q none { s with heap := h' }) : wpAny (model prog w) A (pyNext (.ref I)) Q E s := by
  obtain ⟨o, ho, hc, hd⟩ := id hit
  obtain ⟨od, hod, hcd, hdd⟩ := hm
  unfold pyNext
  refine wpAny_bind (wpAny_attempt (wpAny_callSpecial?_slot (name := Str.ofString "__next__") hit.typeIs F.slot_dict_keyiterator_next
    (wpAny_call_entry F.slot_dict_keyiterator_next hit.typeIs F.entry_dict_keyiterator_next ?_ (F.args_dict_keyiterator_next_1 _))))
  refine wpAny_bind (wpAny_pure ?_)
  refine wpAny_bind ?_
  refine wpAny_bind ?_
  first | refine wpAny_bind (wpAny_typeNameOfWhole_keyiter hit.typeIs (wpAny_pure ?_)) | refine wpAny_bind (wpAny_typeNameOf_keyiter hit.typeIs (wpAny_pure ?_))
  refine wpAny_bind (wpAny_fieldsOf ho hd ?_)
  have hown : Builtin.Dict_items.ownsTuple "dict_keyiterator" = false := by decide
  simp only [hown, Bool.false_eq_true, if_false]
  show wpAny _ _ (if (Value.ref d == Value.none) = true then _ else _) _ _ s
  rw [if_neg (show ¬ ((Value.ref d == Value.none) = true) from Bool.false_ne_true)]
  refine wpAny_bind (wpAny_pure ?_)
  refine wpAny_bind (wpAny_dictEntries hod hdd ?_)
  rw [if_neg (by simp)]
  refine wpAny_bind (wpAny_pure ?_)
  refine wpAny_bind (wpAny_dictEpoch hod hdd ?_)
  rw [if_neg (by simp)]
  refine wpAny_pure ?_
  simp only [show ¬ (((es.size : Nat) : Int) < 0) from by omega, if_false, Int.toNat_natCast, Array.getElem?_eq_none (Nat.le_refl es.size)]
  refine wpAny_bind ?_
  first | refine wpAny_bind (wpAny_typeNameOfWhole_keyiter hit.typeIs (wpAny_pure ?_)) | refine wpAny_bind (wpAny_typeNameOf_keyiter hit.typeIs (wpAny_pure ?_))
  show wpAny _ _ (setField (.ref I) 0 .none >>= _) _ _ s
  refine wpAny_bind (wpAny_setField ho hd (by simp) ?_)
  show wpAny _ _ (newExc (.type "StopIteration") [] >>= _) _ _ _
  refine wpAny_bind ?_
  simp only [newExc, newTuple]
  refine wpAny_bind (wpAny_newObj_type ?_ (by size_fits))
  refine wpAny_bind (m := firstArgMember _ _) (wpAny_of_eq (a := Value.none) (by first | rfl | (simp only [firstArgMember]; rfl)) ?_)
  refine wpAny_newObj_type ?_ (by size_fits)
  simp only [raiseNew]
  refine wpAny_bind (wpAny_handled ?_)
  rw [show A.in1.handled = none from hh]
  refine wpAny_bind (wpAny_pure (wpAny_throw ?_))
  refine wpAny_bind (wpAny_isInstance (T := "StopIteration") (b := true) ⟨_, Heap.get?_push_size _ rfl, rfl⟩ isSubtype_stop ?_)
  exact wpAny_pure (hQ _ (((Heap.SameBut.update ..).extBut.push _).push _))
theorem dict_len (hd : (d == sysModules) = false) (hm : DictA s.heap d es ep) (hfit : (es.size : Int) < 2 ^ 63) {Q : Value → Shared → Prop} (h : Q (.int es.size (s.toks + 1)) { s with toks := s.toks + 1 + 1 }) :
    wpAny (model prog w) A (call (.builtin "len") [.ref d]) Q E s := by
  obtain ⟨o, ho, hc, hdat⟩ := hm
  have hT : s.TypeIs (.ref d) "dict" := ⟨o, ho, hc⟩
  refine Calls.call_function_entry kind_len plain_len entry_len (args_len1 _) ?_
  unfold Builtin.«len»
  refine wpAny_bind (m := oneArg "len" _) (wpAny_pure ?_)
  refine wpAny_bind (m := callSpecial? (.ref d) (Str.ofString "__len__")) (wpAny_callSpecial?_slot (name := Str.ofString "__len__") hT F.slot_dict_len
    (wpAny_call_entry F.slot_dict_len hT F.entry_dict_len ?_ (F.args_dict_len_1 _)))
  unfold Builtin.«dict.__len__» Builtin.Dict.dictSlotNone
  refine wpAny_bind (wpAny_bind (wpAny_notOrdered_dict hT ?_))
  show wpAny _ _ (pure (Value.ref d)) _ _ s
  refine wpAny_pure ?_
  show wpAny _ _ (dictSize d >>= _) _ _ s
  unfold dictSize
  refine wpAny_bind (wpAny_bind (wpAny_dictEntries ho hdat (wpAny_pure ?_)))
  show wpAny _ _ (Builtin.Dict.pendingCount d >>= _) _ _ s
  refine wpAny_bind (wpAny_pendingCount_other hd ?_)
  rw [show ((es.size : Nat) : Int) + ((0 : Nat) : Int) = ((es.size : Nat) : Int) by omega]
  unfold retInt
  refine wpAny_bind (wpAny_mkInt (wpAny_pure ⟨_, rfl, ?_⟩))
  refine wpAny_bind (wpAny_holding (wpAny_pure ?_))
  refine wpAny_bind (wpAny_letGo ?_)
  show wpAny _ _ (if ((es.size : Nat) : Int) < 0 then _ else _) _ _ _
  rw [if_neg (by omega)]
  show wpAny _ _ (if ((es.size : Nat) : Int) ≥ 2 ^ 63 then _ else _) _ _ _
  rw [if_neg (by omega)]
  exact wpAny_bind (wpAny_mkInt (wpAny_pure ⟨_, rfl, h⟩))
/- a dict of int keys is filled -/
noncomputable def DictI (prog : Program) (w : World) (h : Heap) (d : Addr) (ns : List Int) : Prop := ∃ kvs : List (Int × Value), h.DictOf (PySem.intKind prog w) d kvs ∧ (∀ k, k ∈ kvs.map (·.1) ↔ k ∈ ns) ∧ kvs.length = (distI ns).length
theorem stored_keys (kvs : List (Int × Value)) (k : Int) (v : Value) : ((stored kvs k v).map (·.1)) = if k ∈ kvs.map (·.1) then kvs.map (·.1) else kvs.map (·.1) ++ [k] := by
  unfold stored
  by_cases h : k ∈ kvs.map (·.1)
  · have h2 : kvs.any (fun kv => decide (kv.1 = k)) = true := by
      obtain ⟨kv, hkv, e⟩ := List.mem_map.mp h
      exact List.any_eq_true.mpr ⟨kv, hkv, by simpa using e⟩
    rw [if_pos h2, if_pos h, List.map_map]
    refine List.map_congr_left fun kv _ => ?_
    show (if kv.1 = k then (kv.1, v) else kv).1 = kv.1
    split <;> rfl
  · have h2 : ¬ kvs.any (fun kv => decide (kv.1 = k)) = true := fun z => by
      obtain ⟨kv, hkv, e⟩ := List.any_eq_true.mp z
      exact h (List.mem_map.mpr ⟨kv, hkv, by simpa using e⟩)
    rw [if_neg h2, if_neg h, List.map_append]; rfl
theorem dictI_put {ns : List Int} {i : Int} {tk : Tok} {v : Value} {Q : Unit → Shared → Prop} (hm : DictI prog w s.heap d ns) (hz : ns.length ≤ 1048576)
    (hQ : ∀ h', DictI prog w h' d (ns ++ [i]) → Heap.SameBut d s.heap h' → Q () { s with heap := h', toks := s.toks + 1 }) : wpAny (model prog w) A (dictSet d (.int i tk) v) Q E s := by
  obtain ⟨kvs, h1, h2, h3⟩ := hm
  have hk : kvs.length ≤ sizeLine := by rw [h3, sizeLine_eq]; have := distI_length_le ns; omega
  refine wpAny_dictSet_pairs (hsz := hk) (k := i) (by simp [PySem.intKind, Value.isInt]) h1 fun h' x sb => hQ h' ⟨_, x, fun k => ?_, ?_⟩ sb
  · rw [stored_keys, List.mem_append, List.mem_singleton]
    split
    · rename_i hi
      rw [h2]
      exact ⟨.inl, fun z => z.elim id fun z => z ▸ (h2 i).mp hi⟩
    · rw [List.mem_append, List.mem_singleton, h2]
  · have e := congrArg List.length (stored_keys kvs i v)
    rw [List.length_map] at e
    rw [e, distI_snoc]
    split
    · rename_i hi
      rw [List.length_map, h3, insI_old (distI_sorted ns) (mem_distI.mpr ((h2 i).mp hi))]
    · rename_i hi
      rw [List.length_append, List.length_map, h3, insI_new (fun z => hi ((h2 i).mpr (mem_distI.mp z)))]; rfl
theorem DictI.at {h h' : Heap} {ns : List Int} (x : DictI prog w h d ns) (k : ∀ o, h.get? d = some o → h'.get? d = some o) : DictI prog w h' d ns :=
  let ⟨kvs, ⟨o, es, ep, ho, r⟩, q⟩ := x; ⟨kvs, ⟨o, es, ep, k o ho, r⟩, q⟩
theorem DictI.dictA {h : Heap} {ns : List Int} (x : DictI prog w h d ns) : ∃ o es ep, h.get? d = some o ∧ o.cls = .type "dict" ∧ o.dict = none ∧ o.data = .dict es ep ∧ es.size = (distI ns).length :=
  let ⟨kvs, ⟨o, es, ep, ho, ⟨c1, c2, c3⟩, hd, hk, hp, hn⟩, q1, q2⟩ := x; ⟨o, es, ep, ho, c1, c2, hd, by rw [← q2, ← hp.length]; simp⟩
end
end Mine
end
section
open PySem PySem.W PyProof.Rows
namespace Mine

/-- kinds of iterators -/
inductive IK where
  | list | tuple | range
deriving DecidableEq, Inhabited

/-- plain values -/
inductive AV where
  | none
  | bool (b : Bool)
  | int (i : Int)
  | float (x : UInt64)
  | str (s : Str)
  | bytes (b : Array UInt8)
  | type (n : String)
  | range (a b s : Int)
  | tup (xs : List AV)
  | lst (xs : List AV)
  | set (fz : Bool) (xs : List Int)
  | ptr (n : Nat)
  | itr (k : IK) (xs : List AV)
  | fn (id : String)
  | dict (n : Nat)
  | sm (ld : Bool) (n : Nat)
  | any
deriving Inhabited

/-- what can turn -/
inductive MO where
  | lst (xs : List AV)
  | itr (k : IK) (xs : List AV)
  | set (xs : List Int)
deriving Inhabited

/-- what is seen -/
structure Vw where
  r : Addr → Value → Data → Prop
  m : Nat → Option Addr
structure Vw.Le (R R' : Vw) : Prop where
  r : ∀ a c d, R.r a c d → R'.r a c d
  m : ∀ n a, R.m n = some a → R'.m n = some a
theorem Vw.Le.refl (R : Vw) : R.Le R := ⟨fun _ _ _ h => h, fun _ _ h => h⟩
theorem Vw.Le.trans {R R' R'' : Vw} (a : R.Le R') (b : R'.Le R'') : R.Le R'' := ⟨fun _ _ _ h => b.r _ _ _ (a.r _ _ _ h), fun _ _ h => b.m _ _ (a.m _ _ h)⟩

noncomputable def setName (fz : Bool) : String := if fz = true then "frozenset" else "set"
/-- a set's row of ints, nothing said of its table -/
noncomputable def SetEz (es : Array (Int × Value)) (t : SetTable) (xs : List Int) : Prop :=
  xs.Pairwise (· < ·) ∧ (∀ e ∈ es.toList, ∃ i tk, e = (hashInt i, Value.int i tk)) ∧ (es.toList.map fun e => e.2).length = xs.length ∧ (∀ i, i ∈ xs ↔ ∃ tk, (hashInt i, Value.int i tk) ∈ es.toList) ∧ es.size < scanBound ∧ t.fits es.size = true

mutual
noncomputable def Rep (R : Vw) : Value → AV → Prop
  | v, .none => v = .none
  | v, .bool b => v = .bool b
  | v, .int i => ∃ t, v = .int i t
  | v, .float x => ∃ t, v = .float x t
  | v, .str s => ∃ t, v = .str s t
  | v, .bytes b => ∃ t, v = .bytes b t
  | v, .type n => v = .type n
  | v, .fn n => v = .builtin n
  | _, .any => True
  | v, .dict n => ∃ a es ep, v = .ref a ∧ R.r a (.type "dict") (.dict es ep) ∧ es.size = n ∧ (a == sysModules) = false
  | v, .sm ld n => ∃ a es ep t, v = .ref a ∧ R.r a (.type "set") (.set es ep t) ∧ es.size = n ∧ SetIt ld es t
  | v, .ptr n => ∃ a, R.m n = some a ∧ v = .ref a
  | _, .itr _ _ => False
  | v, .range a b s => ∃ r ta tb ts, v = .ref r ∧ R.r r (.type "range") (.fields #[.int a ta, .int b tb, .int s ts])
  | v, .set fz xs => ∃ a es ep t, v = .ref a ∧ R.r a (.type (setName fz)) (.set es ep t) ∧ SetEz es t xs
  | v, .tup xs => xs.length ≤ 1048576 ∧ ∃ a vs n, v = .ref a ∧ R.r a (.type "tuple") (.seq (List.toArray vs) n) ∧ RepL R vs xs
  | v, .lst xs => xs.length ≤ 1048576 ∧ ∃ a vs n, v = .ref a ∧ R.r a (.type "list") (.seq (List.toArray vs) n) ∧ RepL R vs xs
noncomputable def RepL (R : Vw) : List Value → List AV → Prop
  | [], [] => True
  | v :: vs, x :: xs => Rep R v x ∧ RepL R vs xs
  | [], _ :: _ => False
  | _ :: _, [] => False
end

mutual
theorem Rep.mono {R R' : Vw} (h : R.Le R') : ∀ {x : AV} {v : Value}, Rep R v x → Rep R' v x
  | .none, _, r => by simpa [Rep] using r
  | .bool _, _, r => by simpa [Rep] using r
  | .int _, _, r => by simpa [Rep] using r
  | .float _, _, r => by simpa [Rep] using r
  | .str _, _, r => by simpa [Rep] using r
  | .bytes _, _, r => by simpa [Rep] using r
  | .type _, _, r => by simpa [Rep] using r
  | .fn _, _, r => by simpa [Rep] using r
  | .any, _, _ => by simp [Rep]
  | .dict _, _, r => by
    simp only [Rep] at r ⊢
    obtain ⟨a, es, ep, e, k, q⟩ := r
    exact ⟨a, es, ep, e, h.r _ _ _ k, q⟩
  | .sm _ _, _, r => by
    simp only [Rep] at r ⊢
    obtain ⟨a, es, ep, t, e, k, q⟩ := r
    exact ⟨a, es, ep, t, e, h.r _ _ _ k, q⟩
  | .itr _ _, _, r => by simp [Rep] at r
  | .ptr _, _, r => by
    simp only [Rep] at r ⊢
    obtain ⟨a, e, q⟩ := r
    exact ⟨a, h.m _ _ e, q⟩
  | .range _ _ _, _, r => by
    simp only [Rep] at r ⊢
    obtain ⟨r, ta, tb, ts, e, k⟩ := r
    exact ⟨r, ta, tb, ts, e, h.r _ _ _ k⟩
  | .set _ _, _, r => by
    simp only [Rep] at r ⊢
    obtain ⟨a, es, ep, t, e, k, q⟩ := r
    exact ⟨a, es, ep, t, e, h.r _ _ _ k, q⟩
  | .tup xs, _, r => by
    simp only [Rep] at r ⊢
    obtain ⟨z, a, vs, n, e, k, l⟩ := r
    exact ⟨z, a, vs, n, e, h.r _ _ _ k, RepL.mono h l⟩
  | .lst xs, _, r => by
    simp only [Rep] at r ⊢
    obtain ⟨z, a, vs, n, e, k, l⟩ := r
    exact ⟨z, a, vs, n, e, h.r _ _ _ k, RepL.mono h l⟩
theorem RepL.mono {R R' : Vw} (h : R.Le R') : ∀ {xs : List AV} {vs : List Value}, RepL R vs xs → RepL R' vs xs
  | [], [], _ => by simp [RepL]
  | [], _ :: _, r => by simp [RepL] at r
  | _ :: _, [], r => by simp [RepL] at r
  | x :: xs, v :: vs, r => by
    simp only [RepL] at r ⊢
    exact ⟨Rep.mono h r.1, RepL.mono h r.2⟩
end

theorem RepL.length {R : Vw} : ∀ {xs : List AV} {vs : List Value}, RepL R vs xs → vs.length = xs.length
  | [], [], _ => rfl
  | [], _ :: _, r => by simp [RepL] at r
  | _ :: _, [], r => by simp [RepL] at r
  | x :: xs, v :: vs, r => by
    simp only [RepL] at r
    simp [RepL.length r.2]
theorem RepL.get {R : Vw} : ∀ {xs : List AV} {vs : List Value} {i : Nat} {x : AV}, RepL R vs xs → xs[i]? = some x → ∃ v, vs[i]? = some v ∧ Rep R v x
  | [], _, _, _, _, h => by simp at h
  | _ :: _, [], _, _, r, _ => by simp [RepL] at r
  | x :: xs, v :: vs, i, y, r, h => by
    simp only [RepL] at r
    cases i with
    | zero => simp at h; subst h; exact ⟨v, by simp, r.1⟩
    | succ i => simp at h ⊢; exact RepL.get r.2 h
theorem RepL.append {R : Vw} : ∀ {xs ys : List AV} {vs ws : List Value}, RepL R vs xs → RepL R ws ys → RepL R (vs ++ ws) (xs ++ ys)
  | [], _, [], _, _, r => by simpa using r
  | [], _, _ :: _, _, r, _ => by simp [RepL] at r
  | _ :: _, _, [], _, r, _ => by simp [RepL] at r
  | x :: xs, ys, v :: vs, ws, r, q => by
    simp only [RepL, List.cons_append] at r ⊢
    exact ⟨r.1, RepL.append r.2 q⟩
theorem RepL.drop {R : Vw} : ∀ {xs : List AV} {vs : List Value} (n : Nat), RepL R vs xs → RepL R (vs.drop n) (xs.drop n)
  | _, _, 0, r => by simpa using r
  | [], [], _ + 1, _ => by simp [RepL]
  | [], _ :: _, _, r => by simp [RepL] at r
  | _ :: _, [], _, r => by simp [RepL] at r
  | x :: xs, v :: vs, n + 1, r => by
    simp only [RepL] at r
    simpa using RepL.drop n r.2
theorem RepL.set {R : Vw} {x : AV} {v : Value} (q : Rep R v x) : ∀ {xs : List AV} {vs : List Value} (n : Nat), RepL R vs xs → RepL R (vs.set n v) (xs.set n x)
  | [], [], _, _ => by simp [RepL]
  | [], _ :: _, _, r => by simp [RepL] at r
  | _ :: _, [], _, r => by simp [RepL] at r
  | y :: xs, w :: vs, 0, r => by
    simp only [RepL] at r
    simp only [List.set_cons_zero, RepL]
    exact ⟨q, r.2⟩
  | y :: xs, w :: vs, n + 1, r => by
    simp only [RepL] at r
    simp only [List.set_cons_succ, RepL]
    exact ⟨r.1, RepL.set q n r.2⟩

/-- what is hidden, and the things that can turn, by number -/
structure Hd where
  p : Addr → Prop
  m : Nat → Option Addr
  o : Nat → Option Addr
noncomputable def Hd.add (H : Hd) (q : Addr → Prop) : Hd := ⟨fun b => H.p b ∨ q b, H.m, H.o⟩

noncomputable def okC (c : Value) : Prop := c = .type "list" ∨ c = .type "tuple" ∨ c = .type "range" ∨ c = .type "set" ∨ c = .type "frozenset" ∨ c = .type "dict"
noncomputable def vis (h : Heap) (H : Hd) : Vw := ⟨fun a c d => ¬ H.p a ∧ ∃ o, h.get? a = some o ∧ o.cls = c ∧ o.data = d ∧ o.dict = none ∧ okC c ∧ ((∃ fs, d = .fields fs) → o.slots = #[]), H.m⟩
/-- a list's object -/
noncomputable def IsL (h : Heap) (a : Addr) (vs : List Value) : Prop := ∃ o n, h.get? a = some o ∧ o.cls = .type "list" ∧ o.data = .seq (List.toArray vs) n ∧ o.dict = none
theorem IsL.isList {h : Heap} {a : Addr} {vs : List Value} (x : IsL h a vs) : h.IsList a (List.toArray vs) := let ⟨o, n, e, c, d, _⟩ := x; ⟨o, e, c, n, d⟩
theorem IsL.at {h h' : Heap} {a : Addr} {vs : List Value} (x : IsL h a vs) (k : ∀ o, h.get? a = some o → ∃ sl, h'.get? a = some { o with slots := sl }) : IsL h' a vs := let ⟨o, n, e, c, d, f⟩ := x; let ⟨_, q⟩ := k o e; ⟨_, n, q, c, d, f⟩
theorem IsL.at' {h h' : Heap} {a : Addr} {vs : List Value} (x : IsL h a vs) (k : ∀ o, h.get? a = some o → h'.get? a = some o) : IsL h' a vs := let ⟨o, n, e, c, d, f⟩ := x; ⟨o, n, k o e, c, d, f⟩
noncomputable def IK.cls : IK → String
  | .list => "list_iterator" | .tuple => "tuple_iterator" | .range => "range_iterator"
/-- an iterator's object, with what it goes over -/
noncomputable def IsI (h : Heap) (R : Vw) (a : Addr) (k : IK) (xs : List AV) : Prop := ∃ o, h.get? a = some o ∧ o.cls = .type k.cls ∧ match k with
  | .list => (xs = [] ∧ ∃ t, o.data = .fields #[.none, .int t 0]) ∨ ∃ l vs n i, o.data = .fields #[.ref l, .int (i : Nat) 0] ∧ R.r l (.type "list") (.seq (List.toArray vs) n) ∧ vs.length ≤ 1048576 ∧ RepL R (vs.drop i) xs
  | .tuple => (xs = [] ∧ ∃ t, o.data = .fields #[.none, .int t 0]) ∨ ∃ l vs n i, o.data = .fields #[.ref l, .int (i : Nat) 0] ∧ R.r l (.type "tuple") (.seq (List.toArray vs) n) ∧ vs.length ≤ 1048576 ∧ RepL R (vs.drop i) xs
  | .range => ∃ cur left st, IsRangeIter h a cur left st ∧ 0 ≤ left ∧ left ≤ 1048576 ∧ xs = (List.range left.toNat).map fun (i : Nat) => AV.int (cur + i * st)
noncomputable def IsS (h : Heap) (a : Addr) (fz : Bool) (xs : List Int) : Prop := ∃ o es ep t, h.get? a = some o ∧ o.cls = .type (setName fz) ∧ o.dict = none ∧ o.data = .set es ep t ∧ SetEz es t xs
noncomputable def RepM (h : Heap) (R : Vw) (a : Addr) : MO → Prop
  | .lst xs => xs.length ≤ 1048576 ∧ ∃ vs, IsL h a vs ∧ RepL R vs xs
  | .itr k xs => IsI h R a k xs
  | .set xs => IsS h a false xs

/-- kept, frames up to their slots -/
noncomputable def Kh (F : Addr → Prop) (h h' : Heap) : Prop := ∀ b o, h.get? b = some o → ((¬ F b ∨ ∃ fs, o.data = .fields fs) → h'.get? b = some o) ∧ ∃ sl, h'.get? b = some { o with slots := sl }
/-- kept, but for what is written -/
noncomputable def Kv (F W : Addr → Prop) (h h' : Heap) : Prop := ∀ b o, ¬ W b → h.get? b = some o → ((¬ F b ∨ ∃ fs, o.data = .fields fs) → h'.get? b = some o) ∧ ∃ sl, h'.get? b = some { o with slots := sl }

theorem Kh.of_keeps {F : Addr → Prop} {h h' : Heap} (k : ∀ b o, h.get? b = some o → h'.get? b = some o) : Kh F h h' := fun b o e => ⟨fun _ => k b o e, o.slots, k b o e⟩
theorem Kh.refl (F : Addr → Prop) (h : Heap) : Kh F h h := Kh.of_keeps fun _ _ e => e
theorem Kh.trans {F : Addr → Prop} {h₁ h₂ h₃ : Heap} (x : Kh F h₁ h₂) (y : Kh F h₂ h₃) : Kh F h₁ h₃ := fun b o e =>
  ⟨fun n => (y b o ((x b o e).1 n)).1 n, by obtain ⟨sl, e₂⟩ := (x b o e).2; obtain ⟨sl', e₃⟩ := (y b _ e₂).2; exact ⟨sl', e₃⟩⟩
theorem Kh.size {F : Addr → Prop} {h h' : Heap} (x : Kh F h h') {b : Addr} {o : Obj} (e : h.get? b = some o) : b < h'.objs.size := let ⟨_, q⟩ := (x b o e).2; Heap.lt_size q
theorem Kh.ns {F : Addr → Prop} {h h' : Heap} (x : Kh F h h') {a : Addr} {m : Str → Option Value} (n : h.Ns a m) : h'.Ns a m := by
  obtain ⟨o, es, ep, e, d, r⟩ := n
  obtain ⟨sl, q⟩ := (x a o e).2
  exact ⟨_, es, ep, q, d, r⟩
theorem Kh.cell {F : Addr → Prop} {h h' : Heap} (x : Kh F h h') {a : Addr} {v : Option Value} (n : h.IsCell a v) : h'.IsCell a v := by
  obtain ⟨o, e, d⟩ := n
  obtain ⟨sl, q⟩ := (x a o e).2
  exact ⟨_, q, d⟩
theorem Kh.isL {F : Addr → Prop} {h h' : Heap} (x : Kh F h h') {a : Addr} {v : List Value} (n : IsL h a v) : IsL h' a v := n.at fun o e => (x a o e).2
theorem Kv.refl (F W : Addr → Prop) (h : Heap) : Kv F W h h := fun _ o _ e => ⟨fun _ => e, o.slots, e⟩
theorem Kv.trans {F W : Addr → Prop} {h₁ h₂ h₃ : Heap} (x : Kv F W h₁ h₂) (y : Kv F W h₂ h₃) : Kv F W h₁ h₃ := fun b o w e =>
  ⟨fun n => (y b o w ((x b o w e).1 n)).1 n, by obtain ⟨sl, e₂⟩ := (x b o w e).2; obtain ⟨sl', e₃⟩ := (y b _ w e₂).2; exact ⟨sl', e₃⟩⟩
theorem Kh.kv {F W : Addr → Prop} {h h' : Heap} (k : Kh F h h') : Kv F W h h' := fun b o _ e => k b o e
theorem Kv.kh {F W : Addr → Prop} {h h' : Heap} (k : Kv F W h h') (n : ∀ b o, h.get? b = some o → ¬ W b) : Kh F h h' := fun b o e => k b o (n b o e) e
theorem Kv.mono {F W W' : Addr → Prop} {h h' : Heap} (k : Kv F W h h') (w : ∀ b, W b → W' b) : Kv F W' h h' := fun b o n e => k b o (fun q => n (w b q)) e
theorem Kv.vis {F W : Addr → Prop} {H : Hd} {h h' : Heap} (x : Kv F W h h') (w : ∀ b, W b → H.p b) : (vis h H).Le (Mine.vis h' H) := ⟨by
  rintro a c d ⟨n, o, e, r1, r2, r3, r4, r5⟩
  by_cases hd : ∃ fs, d = .fields fs
  · exact ⟨n, o, (x a o (fun k => n (w a k)) e).1 (.inr (by rw [r2]; exact hd)), r1, r2, r3, r4, r5⟩
  · obtain ⟨sl, q⟩ := (x a o (fun k => n (w a k)) e).2
    exact ⟨n, _, q, r1, r2, r3, r4, fun z => absurd z hd⟩, fun _ _ e => e⟩
theorem Kv.of_sameBut {F W : Addr → Prop} {h h' : Heap} {a : Addr} (x : Heap.SameBut a h h') (w : W a) : Kv F W h h' := fun b o n e => by
  have : h'.get? b = some o := (x.2 b (fun q => n (q ▸ w))).trans e
  exact ⟨fun _ => this, o.slots, this⟩
theorem Kv.of_but {F W : Addr → Prop} {h h' : Heap} {a : Addr} (x : ∀ b o, b ≠ a → h.get? b = some o → h'.get? b = some o) (w : W a) : Kv F W h h' := fun b o n e => by
  have := x b o (fun q => n (q ▸ w)) e
  exact ⟨fun _ => this, o.slots, this⟩
theorem Kh.vis {F : Addr → Prop} {H : Hd} {h h' : Heap} (x : Kh F h h') : (vis h H).Le (Mine.vis h' H) := (x.kv (W := fun _ => False)).vis fun _ z => z.elim
theorem vis_hide {H H' : Hd} {h : Heap} (k : ∀ b, H.p b → H'.p b) (m : ∀ n a, H'.m n = some a → H.m n = some a) : (vis h H').Le (vis h H) := ⟨fun _ _ _ x => ⟨fun q => x.1 (k _ q), x.2⟩, m⟩

/-- iterators, sets and lists stay -/
theorem IsI.kv {F W : Addr → Prop} {h h' : Heap} {R R' : Vw} {a : Addr} {k : IK} {xs : List AV} (x : IsI h R a k xs) (kv : Kv F W h h') (hw : ¬ W a) (le : R.Le R') : IsI h' R' a k xs := by
  obtain ⟨o, e, c, r⟩ := x
  have fl : (∃ fs, o.data = .fields fs) → h'.get? a = some o := fun z => (kv a o hw e).1 (.inr z)
  cases k with
  | list =>
    rcases r with ⟨rfl, t, d⟩ | ⟨l, vs, n, i, d, v, z, q⟩
    · exact ⟨o, fl ⟨_, d⟩, c, .inl ⟨rfl, t, d⟩⟩
    · exact ⟨o, fl ⟨_, d⟩, c, .inr ⟨l, vs, n, i, d, le.r _ _ _ v, z, RepL.mono le q⟩⟩
  | tuple =>
    rcases r with ⟨rfl, t, d⟩ | ⟨l, vs, n, i, d, v, z, q⟩
    · exact ⟨o, fl ⟨_, d⟩, c, .inl ⟨rfl, t, d⟩⟩
    · exact ⟨o, fl ⟨_, d⟩, c, .inr ⟨l, vs, n, i, d, le.r _ _ _ v, z, RepL.mono le q⟩⟩
  | range =>
    obtain ⟨cur, left, st, it, z1, z2, q⟩ := r
    have e2 : h.get? a = _ := it
    rw [e] at e2
    cases e2
    exact ⟨_, fl ⟨_, rfl⟩, c, cur, left, st, fl ⟨_, rfl⟩, z1, z2, q⟩
theorem IsS.kv {F W : Addr → Prop} {h h' : Heap} {a : Addr} {fz : Bool} {xs : List Int} (x : IsS h a fz xs) (kv : Kv F W h h') (hw : ¬ W a) : IsS h' a fz xs := by
  obtain ⟨o, es, ep, t, e, c, dn, d, r⟩ := x
  obtain ⟨sl, q⟩ := (kv a o hw e).2
  exact ⟨_, es, ep, t, q, c, dn, d, r⟩
theorem RepM.kv {F W : Addr → Prop} {h h' : Heap} {R R' : Vw} {a : Addr} (kv : Kv F W h h') (hw : ¬ W a) (le : R.Le R') : ∀ {mo : MO}, RepM h R a mo → RepM h' R' a mo
  | .lst _, ⟨z, vs, l, r⟩ => ⟨z, vs, l.at fun o e => (kv a o hw e).2, RepL.mono le r⟩
  | .itr _ _, r => IsI.kv r kv hw le
  | .set _, r => IsS.kv r kv hw
/-- what can turn is no frame's part -/
theorem RepM.data {h : Heap} {R : Vw} {a : Addr} : ∀ {mo : MO}, RepM h R a mo → ∃ o, h.get? a = some o ∧ (∀ es ep, o.data ≠ .dict es ep) ∧ (∀ v, o.data ≠ .cell v) ∧ (∀ f, o.data ≠ .func f)
  | .lst _, ⟨_, _, ⟨o, n, e, _, d, _⟩, _⟩ => ⟨o, e, fun _ _ z => by (rw [d] at z; cases z), fun _ z => by (rw [d] at z; cases z), fun _ z => by (rw [d] at z; cases z)⟩
  | .set _, ⟨o, es, ep, t, e, _, _, d, _⟩ => ⟨o, e, fun _ _ z => by (rw [d] at z; cases z), fun _ z => by (rw [d] at z; cases z), fun _ z => by (rw [d] at z; cases z)⟩
  | .itr k _, r => by
    obtain ⟨o, e, _, r⟩ := r
    have : ∃ fs, o.data = .fields fs := by
      cases k with
      | list => rcases r with ⟨_, t, d⟩ | ⟨l, vs, n, i, d, _⟩ <;> exact ⟨_, d⟩
      | tuple => rcases r with ⟨_, t, d⟩ | ⟨l, vs, n, i, d, _⟩ <;> exact ⟨_, d⟩
      | range =>
        obtain ⟨cur, left, st, it, _⟩ := r
        have e2 : h.get? a = _ := it
        rw [e] at e2; cases e2
        exact ⟨_, rfl⟩
    obtain ⟨fs, d⟩ := this
    exact ⟨o, e, fun _ _ z => by (rw [d] at z; cases z), fun _ z => by (rw [d] at z; cases z), fun _ z => by (rw [d] at z; cases z)⟩

/-- what the law's run stands upon -/
structure Cx where
  prog : Program
  w : World
  h0 : Heap
  mg : Str → Option Value
  mb : Str → Option Value
  g : h0.Ns mainGlobals mg
  b : h0.Ns builtinsNs mb
  builtins : ∀ x : Str, x ≠ "__name__" → mb x = bootBuiltins x
  nolimit : h0.NoLimit

abbrev Cx.M (c : Cx) : Model := model c.prog c.w

/-- the frames' own addresses -/
noncomputable def FrA (A : Around) (b : Addr) : Prop := ∃ l, A.frames = some l ∧ b ∈ l.filterMap (·.frame)

/-- one state after another, nothing turned -/
noncomputable def Kp (A : Around) (s s' : Shared) : Prop := ∃ h' tk, s' = { s with heap := h', toks := tk } ∧ Kh (FrA A) s.heap h'
theorem Kp.refl (A : Around) (s : Shared) : Kp A s s := ⟨s.heap, s.toks, rfl, Kh.refl _ _⟩
theorem Kp.trans {A : Around} {s₁ s₂ s₃ : Shared} (x : Kp A s₁ s₂) (y : Kp A s₂ s₃) : Kp A s₁ s₃ := by
  obtain ⟨h, t, rfl, k⟩ := x
  obtain ⟨h', t', rfl, k'⟩ := y
  exact ⟨h', t', rfl, k.trans k'⟩
theorem Kp.kh {A : Around} {s s' : Shared} (x : Kp A s s') : Kh (FrA A) s.heap s'.heap := by
  obtain ⟨h, t, rfl, k⟩ := x
  exact k
theorem Kp.of {A : Around} {s : Shared} {h' : Heap} {tk : Nat} (k : ∀ b o, s.heap.get? b = some o → h'.get? b = some o) : Kp A s { s with heap := h', toks := tk } := ⟨h', tk, rfl, Kh.of_keeps k⟩
theorem Kp.toks {A : Around} {s : Shared} {tk : Nat} : Kp A s { s with toks := tk } := ⟨s.heap, tk, rfl, Kh.refl _ _⟩
/-- how a frame began: its heap, what was hidden, what of it may be written -/
structure FE where
  h : Heap
  H : Hd
  w : Addr → Prop

/-- a slot: a value, or a list that the frame alone holds -/
inductive Ent where
  | val (v : AV)
  | own (xs : List AV)
deriving Inhabited
noncomputable def RepE (h : Heap) (H : Hd) (i : Nat) (v : Value) : Ent → Prop
  | .val av => Rep (vis h H) v av
  | .own xs => xs.length ≤ 1048576 ∧ ∃ a vs, v = .ref a ∧ H.o i = some a ∧ IsL h a vs ∧ RepL (vis h H) vs xs
theorem RepE.mono {h h' : Heap} {H H' : Hd} {i : Nat} {v : Value} (le : (vis h H).Le (vis h' H')) (ho : ∀ a, H.o i = some a → H'.o i = some a) (hl : ∀ a vs, H.o i = some a → IsL h a vs → IsL h' a vs) : ∀ {t : Ent}, RepE h H i v t → RepE h' H' i v t
  | .val _, r => Rep.mono le r
  | .own _, ⟨z, a, vs, e, o, l, r⟩ => ⟨z, a, vs, e, ho a o, hl a vs o l, RepL.mono le r⟩

/-- a frame's state: slots, what can turn, from where on it may be written, how many there were -/
structure Fs where
  ρ : List (Option Ent)
  σ : List (Option MO)
  lo : Nat
  n0 : Nat

noncomputable def NV (h : Heap) (env : Env) (x : Str) (v : Value) : Prop :=
  (env.kindOf x = some .local ∧ ∃ m, h.Ns env.locals m ∧ m x = some v) ∨ (env.kindOf x = some .cell ∧ ∃ cc, env.cells.lookup x = some cc ∧ h.IsCell cc (some v))

theorem Ns_uniq {h : Heap} {a : Addr} {m m' : Str → Option Value} (x : h.Ns a m) (y : h.Ns a m') : m = m' := by
  obtain ⟨o, es, ep, e, d, _, r⟩ := x
  obtain ⟨o', es', ep', e', d', _, r'⟩ := y
  rw [e] at e'; cases e'
  rw [d] at d'; cases d'
  funext n
  rw [← r n, ← r' n]
theorem NV.kh {F : Addr → Prop} {h h' : Heap} {env : Env} {x : Str} {v : Value} (k : Kh F h h') (a : NV h env x v) : NV h' env x v := by
  rcases a with ⟨kk, m, n, e⟩ | ⟨kk, cc, n, e⟩
  · exact .inl ⟨kk, m, k.ns n, e⟩
  · exact .inr ⟨kk, cc, n, k.cell e⟩

/-- the things that can turn stand in the heap -/
structure Sto (σ : List (Option MO)) (H : Hd) (h : Heap) : Prop where
  at' : ∀ n mo, σ[n]? = some (some mo) → ∃ a, H.m n = some a ∧ RepM h (vis h H) a mo
  inj : ∀ n n' a, H.m n = some a → H.m n' = some a → n = n'
  lt : ∀ n a, H.m n = some a → n < σ.length
  hid : ∀ n a mo, σ[n]? = some (some mo) → H.m n = some a → H.p a
  al : ∀ n a, H.m n = some a → ∃ o, h.get? a = some o
  tot : ∀ n a, H.m n = some a → ∃ mo, σ[n]? = some (some mo)
theorem Sto.kh {F : Addr → Prop} {σ : List (Option MO)} {H : Hd} {h h' : Heap} (S : Sto σ H h) (k : Kh F h h') : Sto σ H h' :=
  ⟨fun n mo e => let ⟨a, q, r⟩ := S.at' n mo e; ⟨a, q, r.kv (k.kv (W := fun _ => False)) id k.vis⟩, S.inj, S.lt, S.hid, fun n a e => let ⟨_, q⟩ := S.al n a e; let ⟨_, q'⟩ := (k a _ q).2; ⟨_, q'⟩, S.tot⟩

/-- a frame -/
structure Fm (c : Cx) (F : Addr → Prop) (names : List Str) (env : Env) (st : Fs) (fe : FE) (H : Hd) (h : Heap) : Prop where
  keep : Kv F fe.w fe.h h
  wsub : ∀ b, fe.w b → fe.H.p b
  base : c.h0.StaysIn fe.h
  baseF : ∀ b, F b → c.h0.get? b = none
  basew : ∀ b, fe.w b → c.h0.get? b = none
  hle : ∀ b, fe.H.p b → H.p b
  mle : ∀ n a, fe.H.m n = some a → H.m n = some a
  mold : ∀ n a, n < st.n0 → H.m n = some a → fe.H.m n = some a
  mnew : ∀ n a, st.n0 ≤ n → H.m n = some a → fe.h.get? a = none
  mw : ∀ n a mo, n < st.n0 → st.lo ≤ n → st.σ[n]? = some (some mo) → H.m n = some a → fe.w a
  hlt : ∀ b, H.p b → ∃ o, h.get? b = some o
  felt : ∀ b, fe.H.p b → ∃ o, fe.h.get? b = some o
  wlt : ∀ b, fe.w b → ∃ o, fe.h.get? b = some o
  kind : env.scope.kind = .function
  glob : env.globals = mainGlobals
  bi : env.builtins = builtinsNs
  code : ∃ cd o vs, env.code = .ref cd ∧ c.h0.get? cd = some o ∧ o.data = .fields vs
  ns : ∃ m, h.Ns env.locals m
  hl : H.p env.locals
  lnew : fe.h.get? env.locals = none
  hc : ∀ x cc, env.kindOf x = some .cell → env.cells.lookup x = some cc → H.p cc ∧ fe.h.get? cc = none
  cl : ∀ x, env.kindOf x = some .cell → ∃ cc v, env.cells.lookup x = some cc ∧ h.IsCell cc v
  capart : ∀ x y cc, env.cells.lookup x = some cc → env.cells.lookup y = some cc → x = y
  vals : ∀ (i : Nat) x t, names[i]? = some x → st.ρ[i]? = some (some t) → ∃ v, NV h env x v ∧ RepE h H i v t
  own : ∀ i a, H.o i = some a → H.p a ∧ fe.h.get? a = none ∧ (∀ n, H.m n ≠ some a) ∧ ∃ vs, IsL h a vs
  oinj : ∀ i j a, H.o i = some a → H.o j = some a → i = j
  sto : Sto st.σ H h
  mh0 : ∀ n a, H.m n = some a → c.h0.get? a = none
  n0le : st.n0 ≤ st.σ.length

theorem Kv.nw {F W : Addr → Prop} {h h' : Heap} (k : Kv F W h h') (n : ∀ b, W b → ∃ o, h'.get? b = some o) {b : Addr} {o : Obj} (e : h.get? b = some o) : ∃ o', h'.get? b = some o' := by
  by_cases w : W b
  · exact n b w
  · obtain ⟨sl, q⟩ := (k b o w e).2; exact ⟨_, q⟩
theorem none_back {F : Addr → Prop} {h h' : Heap} (k : Kh F h h') {b : Addr} (e : h'.get? b = none) : h.get? b = none := by
  cases q : h.get? b with
  | none => rfl
  | some o => obtain ⟨sl, r⟩ := (k b o q).2; rw [e] at r; cases r

theorem Fm.step {c : Cx} {F : Addr → Prop} {names : List Str} {env : Env} {st : Fs} {fe : FE} {H : Hd} {h h' : Heap} (X : Fm c F names env st fe H h) (k : Kh F h h') : Fm c F names env st fe H h' where
  keep := X.keep.trans k.kv
  wsub := X.wsub
  base := X.base
  baseF := X.baseF
  basew := X.basew
  hle := X.hle
  mle := X.mle
  mold := X.mold
  mnew := X.mnew
  mw := X.mw
  hlt := fun b q => let ⟨o, e⟩ := X.hlt b q; let ⟨sl, e'⟩ := (k b o e).2; ⟨_, e'⟩
  felt := X.felt
  wlt := X.wlt
  kind := X.kind
  glob := X.glob
  bi := X.bi
  code := X.code
  ns := let ⟨m, n⟩ := X.ns; ⟨m, k.ns n⟩
  hl := X.hl
  lnew := X.lnew
  hc := X.hc
  cl := fun x q => let ⟨cc, v, e, n⟩ := X.cl x q; ⟨cc, v, e, k.cell n⟩
  capart := X.capart
  vals := fun i x t a b => let ⟨v, n, r⟩ := X.vals i x t a b; ⟨v, n.kh k, r.mono k.vis (fun _ e => e) fun a vs _ l => k.isL l⟩
  own := fun i a e => let ⟨p, q, r, vs, l⟩ := X.own i a e; ⟨p, q, r, vs, k.isL l⟩
  oinj := X.oinj
  sto := X.sto.kh k
  mh0 := X.mh0
  n0le := X.n0le
end Mine
end
section
open PySem PySem.W PyProof.Rows
namespace Mine

/-- the exceptions that are served -/
inductive EX where
  | zde | ofe | te | ve | ae
deriving DecidableEq, Inhabited
noncomputable def EX.name : EX → String
  | zde => "ZeroDivisionError" | ofe => "OverflowError" | te => "TypeError" | ve => "ValueError" | ae => "AttributeError"

inductive Res where
  | ok (v : AV)
  | exc (cls : EX)
  | stuck
deriving Inhabited

structure Rm (c : Cx) (q : Bool) (k : Nat) (A : Around) (h : Heap) : Prop where
  depth : A.depth + k < recursionLimit
  units : A.units + 8 * k < cLine
  hand : q = true → A.handled = none
  frames : ∃ l, A.frames = some l ∧ h.FunFrames c.h0 l

/-- frames' tables stay tables -/
noncomputable def Nf (h h' : Heap) : Prop := ∀ b o, h.get? b = some o → (∀ vs, o.data ≠ .fields vs) → ∃ o', h'.get? b = some o' ∧ ∀ vs, o'.data ≠ .fields vs
theorem Kh.nf {F : Addr → Prop} {h h' : Heap} (k : Kh F h h') : Nf h h' := fun b o e n => by
  obtain ⟨sl, q⟩ := (k b o e).2
  exact ⟨_, q, n⟩
theorem Nf.trans {h₁ h₂ h₃ : Heap} (x : Nf h₁ h₂) (y : Nf h₂ h₃) : Nf h₁ h₃ := fun b o e n => let ⟨o', e', n'⟩ := x b o e n; y b o' e' n'
theorem Nf.frames {h h' base : Heap} (k : Nf h h') : ∀ {l : List Env}, h.FunFrames base l → h'.FunFrames base l
  | [], _ => trivial
  | _ :: _, ⟨hk, ⟨L, o, hf, hn, ho, hd⟩, hr⟩ => by
    obtain ⟨o', e', n'⟩ := k L o ho hd
    exact ⟨hk, ⟨L, o', hf, hn, e', n'⟩, Nf.frames k hr⟩
theorem Rm.nf {c : Cx} {q : Bool} {k : Nat} {A : Around} {h h' : Heap} (X : Rm c q k A h) (n : Nf h h') : Rm c q k A h' :=
  ⟨X.depth, X.units, X.hand, let ⟨l, a, b⟩ := X.frames; ⟨l, a, n.frames b⟩⟩
theorem Rm.kp {c : Cx} {q : Bool} {k : Nat} {A : Around} {s s' : Shared} (X : Rm c q k A s.heap) (n : Kp A s s') : Rm c q k A s'.heap := X.nf n.kh.nf
theorem Fm.kp {c : Cx} {A : Around} {names : List Str} {env : Env} {st : Fs} {fe : FE} {H : Hd} {s s' : Shared} (X : Fm c (FrA A) names env st fe H s.heap) (k : Kp A s s') : Fm c (FrA A) names env st fe H s'.heap := X.step k.kh

/-- an exception that has come up from s to s' -/
noncomputable def Xp (A : Around) (s s' : Shared) (x : Value) (cls : EX) : Prop :=
  ∃ e a0, x = .ref e ∧ Kp A s s' ∧ s.heap.get? e = none ∧
    ((∃ ob vs, s'.heap.get? e = some ob ∧ ob.cls = .type cls.name ∧ ob.data = .fields vs ∧ vs[0]? = some a0 ∧ vs[1]? = some .none) ∨ s'.heap.TracedW s.heap e (.type cls.name) a0)

theorem Xp.trans {A : Around} {s₁ s₂ s₃ : Shared} {x : Value} {cls : EX} (k : Kp A s₁ s₂) (X : Xp A s₂ s₃ x cls) : Xp A s₁ s₃ x cls := by
  obtain ⟨e, a0, rfl, k', n, r⟩ := X
  refine ⟨e, a0, rfl, k.trans k', none_back k.kh n, r.imp id fun t => ?_⟩
  obtain ⟨oe, vs, T, oT, ts, he, hc, hd, h1, hT, r⟩ := t
  exact ⟨oe, vs, T, oT, ts, he, hc, hd, h1, none_back k.kh hT, r⟩

noncomputable def Post (q : Bool) (A : Around) (H : Hd) (r : Res) (s : Shared) (Q : Value → Shared → Prop) (E : Value → Shared → Prop) : Prop :=
  match r with
  | .ok av => ∀ v s', Kp A s s' → Rep (vis s'.heap H) v av → Q v s'
  | .exc cls => q = true ∧ ∀ x s', Xp A s s' x cls → E x s'
  | .stuck => False

theorem Post.kp {q : Bool} {A : Around} {H : Hd} {r : Res} {s s' : Shared} {Q E : Value → Shared → Prop} (P : Post q A H r s Q E) (k : Kp A s s') : Post q A H r s' Q E := by
  cases r with
  | ok av => exact fun v s'' k' R => P v s'' (k.trans k') R
  | exc cls => exact ⟨P.1, fun x s'' X => P.2 x s'' (X.trans k)⟩
  | stuck => exact P

/-- hidden things live -/
noncomputable def Live (H : Hd) (h : Heap) : Prop := ∀ b, H.p b → ∃ o, h.get? b = some o
theorem Live.kp {A : Around} {H : Hd} {s s' : Shared} (L : Live H s.heap) (k : Kp A s s') : Live H s'.heap := fun b q => by
  obtain ⟨o, e⟩ := L b q
  obtain ⟨sl, r⟩ := (k.kh b o e).2
  exact ⟨_, r⟩
theorem Live.fresh {H : Hd} {h : Heap} (L : Live H h) : ¬ H.p h.objs.size := fun q => by
  obtain ⟨o, e⟩ := L _ q
  exact absurd (Heap.lt_size e) (Nat.lt_irrefl _)
theorem Rep.kp {A : Around} {H : Hd} {s s' : Shared} {v : Value} {x : AV} (r : Rep (vis s.heap H) v x) (k : Kp A s s') : Rep (vis s'.heap H) v x := Rep.mono k.kh.vis r
theorem RepL.kp {A : Around} {H : Hd} {s s' : Shared} {v : List Value} {x : List AV} (r : RepL (vis s.heap H) v x) (k : Kp A s s') : RepL (vis s'.heap H) v x := RepL.mono k.kh.vis r

/-- a tree that comes to r -/
noncomputable def Tr (c : Cx) (q : Bool) (A : Around) (H : Hd) (t : Sem Value) (r : Res) (s : Shared) : Prop := ∀ Q E, Post q A H r s Q E → wpAny c.M A t Q E s
/-- a test that comes to b -/
noncomputable def TrB (c : Cx) (A : Around) (t : Sem Bool) (b : Bool) (s : Shared) : Prop := ∀ Q E, (∀ s', Kp A s s' → Q b s') → wpAny c.M A t Q E s

/-- the thing itself may be hidden -/
noncomputable def RepO (h : Heap) (H : Hd) (v : Value) : AV → Prop
  | .lst xs => xs.length ≤ 1048576 ∧ ∃ a vs, v = .ref a ∧ IsL h a vs ∧ RepL (vis h H) vs xs
  | .itr k xs => ∃ a, v = .ref a ∧ IsI h (vis h H) a k xs
  | .set fz xs => ∃ a, v = .ref a ∧ IsS h a fz xs
  | x => Rep (vis h H) v x
theorem RepO.of {h : Heap} {H : Hd} {v : Value} : ∀ {x : AV}, Rep (vis h H) v x → RepO h H v x
  | .lst xs, r => by
    simp only [Rep] at r
    obtain ⟨z, a, vs, n, e, ⟨_, o, q, k, d, f, _⟩, l⟩ := r
    exact ⟨z, a, vs, e, ⟨o, n, q, k, d, f⟩, l⟩
  | .set fz xs, r => by
    simp only [Rep] at r
    obtain ⟨a, es, ep, t, e, ⟨_, o, q, k, d, f, _⟩, l⟩ := r
    exact ⟨a, e, o, es, ep, t, q, k, f, d, l⟩
  | .itr _ _, r => by simp [Rep] at r
  | .none, r | .bool _, r | .int _, r | .float _, r | .str _, r | .bytes _, r | .type _, r | .range _ _ _, r | .tup _, r | .ptr _, r | .fn _, r | .dict _, r | .sm _ _, r | .any, r => r
theorem RepO.kp {A : Around} {H : Hd} {s s' : Shared} {v : Value} (k : Kp A s s') : ∀ {x : AV}, RepO s.heap H v x → RepO s'.heap H v x
  | .lst _, ⟨z, a, vs, e, l, r⟩ => ⟨z, a, vs, e, k.kh.isL l, r.kp k⟩
  | .itr _ _, ⟨a, e, l⟩ => ⟨a, e, l.kv (k.kh.kv (W := fun _ => False)) id k.kh.vis⟩
  | .set _ _, ⟨a, e, l⟩ => ⟨a, e, l.kv (k.kh.kv (W := fun _ => False)) id⟩
  | .none, r | .bool _, r | .int _, r | .float _, r | .str _, r | .bytes _, r | .type _, r | .range _ _ _, r | .tup _, r | .ptr _, r | .fn _, r | .dict _, r | .sm _ _, r | .any, r => Rep.kp (x := _) r k

/-- what stands behind a number -/
noncomputable def deref (σ : List (Option MO)) : AV → AV
  | .ptr n => match σ[n]? with
    | some (some (.lst xs)) => .lst xs
    | some (some (.itr k xs)) => .itr k xs
    | some (some (.set xs)) => .set false xs
    | _ => .ptr n
  | x => x
theorem RepO.deref {h : Heap} {H : Hd} {σ : List (Option MO)} {v : Value} {x : AV} (S : Sto σ H h) (r : Rep (vis h H) v x) : RepO h H v (deref σ x) := by
  cases x with
  | ptr n =>
    simp only [Rep] at r
    obtain ⟨a, e, rfl⟩ := id r
    have ed : Mine.deref σ (.ptr n) = match σ[n]? with
      | some (some (.lst xs)) => .lst xs
      | some (some (.itr k xs)) => .itr k xs
      | some (some (.set xs)) => .set false xs
      | _ => .ptr n := rfl
    rw [ed]
    split
    · rename_i xs hs
      obtain ⟨b, q, z, vs, l, rr⟩ := S.at' _ _ hs
      have q' : H.m n = some a := e
      rw [q] at q'; cases q'
      exact ⟨z, _, vs, rfl, l, rr⟩
    · rename_i k xs hs
      obtain ⟨b, q, l⟩ := S.at' _ _ hs
      have q' : H.m n = some a := e
      rw [q] at q'; cases q'
      exact ⟨_, rfl, l⟩
    · rename_i xs hs
      obtain ⟨b, q, l⟩ := S.at' _ _ hs
      have q' : H.m n = some a := e
      rw [q] at q'; cases q'
      exact ⟨_, rfl, l⟩
    · exact RepO.of (x := .ptr n) (by simp only [Rep]; exact r)
  | _ => exact RepO.of r
noncomputable def Res.deref (σ : List (Option MO)) : Res → Res
  | .ok v => .ok (Mine.deref σ v)
  | r => r

/-- as Tr, the list may be hidden -/
noncomputable def PostO (A : Around) (H : Hd) (av : AV) (s : Shared) (Q : Value → Shared → Prop) : Prop := ∀ v s', Kp A s s' → RepO s'.heap H v av → Q v s'
noncomputable def TrO (c : Cx) (q : Bool) (A : Around) (H : Hd) (t : Sem Value) (r : Res) (s : Shared) : Prop := ∀ Q E, (match r with
  | .ok av => PostO A H av s Q
  | .exc cls => Post q A H (.exc cls) s Q E
  | .stuck => False) → wpAny c.M A t Q E s

theorem Tr.stuck {c : Cx} {q : Bool} {A : Around} {H : Hd} {t : Sem Value} {s : Shared} : Tr c q A H t .stuck s := fun _ _ P => P.elim
theorem Tr.deref {c : Cx} {q : Bool} {A : Around} {H : Hd} {t : Sem Value} {r : Res} {s : Shared} {σ : List (Option MO)} (S : Sto σ H s.heap) (X : Tr c q A H t r s) : TrO c q A H t (r.deref σ) s := fun Q E P => by
  cases r with
  | ok av => exact X Q E fun v s' k r => P v s' k (.deref (S.kh k.kh) r)
  | exc cls => exact X Q E P
  | stuck => exact P.elim

theorem NV.load {M : Model} {A : Around} {E : Value → Shared → Prop} {s : Shared} {env : Env} {x : Str} {v : Value} {Q : Value → Shared → Prop} (hk : env.scope.kind = .function) (n : NV s.heap env x v) (h : Q v s) : wpAny M A (loadName env x) Q E s := by
  rcases n with ⟨k, m, n, e⟩ | ⟨k, cc, n, e⟩
  · exact wpAny_loadName_local hk k n e h
  · exact wpAny_loadName_cell hk k n e h

section
variable {c : Cx} {q : Bool} {k : Nat} {A : Around} {s : Shared} {H : Hd}

theorem tr_const_int {env : Env} {i : Int} {kk pos} : Tr c q A H (eval (.Constant (.int i) kk pos) env) (.ok (.int i)) s := fun _ _ P => wpAny_Constant_int (P _ _ Kp.toks ⟨_, rfl⟩)
theorem tr_const_bool {env : Env} {b : Bool} {kk pos} : Tr c q A H (eval (.Constant (.bool b) kk pos) env) (.ok (.bool b)) s := fun _ _ P => wpAny_Constant_bool (P _ _ (Kp.refl _ _) rfl)
theorem tr_const_none {env : Env} {kk pos} : Tr c q A H (eval (.Constant .none kk pos) env) (.ok .none) s := fun _ _ P => wpAny_Constant_none (P _ _ (Kp.refl _ _) rfl)
theorem tr_const_str {env : Env} {x : Str} {kk pos} : Tr c q A H (eval (.Constant (.str x) kk pos) env) (.ok (.str x)) s := fun _ _ P => wpAny_Constant_str (P _ _ Kp.toks ⟨_, rfl⟩)

theorem Tr.bindK {t : Sem Value} {av : AV} {Q E : Value → Shared → Prop} (X : Tr c q A H t (.ok av) s) (h : ∀ v s', Kp A s s' → Rep (vis s'.heap H) v av → Q v s') : wpAny c.M A t Q E s := X Q E h

end
theorem rep_fresh_list {H : Hd} {s : Shared} {vs : List Value} {xs : List AV} (hL : Live H s.heap) (hz : xs.length ≤ 1048576) (r : RepL (vis s.heap H) vs xs) :
    Rep (vis (s.heap.push { cls := .type "list", data := .seq vs.toArray }) H) (.ref s.heap.objs.size) (.lst xs) := by
  simp only [Rep]
  exact ⟨hz, _, vs, _, rfl, ⟨hL.fresh, _, Heap.get?_push_size _ rfl, rfl, rfl, rfl, .inl rfl, fun _ => rfl⟩, RepL.mono (Kh.of_keeps (F := fun _ => False) fun b o e => Heap.get?_push_of_some _ e).vis r⟩
theorem rep_fresh_tup {H : Hd} {s : Shared} {vs : List Value} {xs : List AV} (hL : Live H s.heap) (hz : xs.length ≤ 1048576) (r : RepL (vis s.heap H) vs xs) :
    Rep (vis (s.heap.push { cls := .type "tuple", data := .seq vs.toArray }) H) (.ref s.heap.objs.size) (.tup xs) := by
  simp only [Rep]
  exact ⟨hz, _, vs, _, rfl, ⟨hL.fresh, _, Heap.get?_push_size _ rfl, rfl, rfl, rfl, .inr (.inl rfl), fun _ => rfl⟩, RepL.mono (Kh.of_keeps (F := fun _ => False) fun b o e => Heap.get?_push_of_some _ e).vis r⟩
theorem Kp.push {A : Around} {s : Shared} (o : Obj) : Kp A s { s with heap := s.heap.push o } := ⟨_, _, rfl, Kh.of_keeps fun _ _ e => Heap.get?_push_of_some _ e⟩
theorem line_ok {n : Nat} (h : n ≤ 1048576) : n ≤ sizeLine := by rw [show sizeLine = 16777216 from by decide]; omega
section
variable {c : Cx} {q : Bool} {A : Around} {s : Shared} {H : Hd}
theorem is_of {op : CmpOp} {va vb : Value} {b : Bool} (h : ∀ {E : Value → Shared → Prop} (Q' : Bool → Shared → Prop), Q' b s → wpAny c.M A (isSame va vb) Q' E s) (hop : op = .Is ∨ op = .IsNot) : Tr c q A H (compareOp op va vb) (.ok (.bool (if op = .Is then b else !b))) s := fun Q E P => by
  rcases hop with rfl | rfl
  · exact wpAny_bind (h _ (wpAny_pure (P _ _ (Kp.refl _ _) rfl)))
  · exact wpAny_bind (h _ (wpAny_pure (P _ _ (Kp.refl _ _) rfl)))
end
/-- cheap looks at a name -/
theorem not_lifetime {id : String} (h : ("lifetime.".toList.isPrefixOf id.toList) = false) : id.startsWith "lifetime." = false := by
  rw [String.startsWith_string_eq_false_iff]
  intro hp
  rw [← List.isPrefixOf_iff_prefix] at hp
  rw [hp] at h; cases h
theorem plain_of {id : String} (h1 : ("lifetime.".toList.isPrefixOf id.toList) = false) (h2 : heavyIds.contains id = false) (h3 : guardIds.contains id = false) : plainId id = true := by
  unfold plainId; rw [not_lifetime h1, h2, h3]; rfl
end Mine
end
section
open PySem PySem.W PyProof.Rows
namespace Mine
set_option maxRecDepth 100000

section
variable {c : Cx} {q : Bool} {k : Nat} {A : Around} {s : Shared} {H : Hd} {Q : Value → Shared → Prop} {E : Value → Shared → Prop}
theorem post_int {i : Int} (P : Post q A H (.ok (.int i)) s Q E) : (Made.int i).post Q s := P _ _ Kp.toks ⟨_, rfl⟩
theorem post_float {i : UInt64} (P : Post q A H (.ok (.float i)) s Q E) : (Made.float i).post Q s := P _ _ Kp.toks ⟨_, rfl⟩
theorem post_bool {b : Bool} (P : Post q A H (.ok (.bool b)) s Q E) : Q (.bool b) s := P _ _ (Kp.refl _ _) rfl
theorem post_raise {cls : EX} (hm : Rm c q k A s.heap) (P : Post q A H (.exc cls) s Q E) {Q' : Value → Shared → Prop} : raisesNew cls.name A (wants Q' E) s := by
  refine ⟨hm.hand P.1, fun h' tk e n => ?_⟩
  obtain ⟨ob, t, h1, h2, h3⟩ := n.there
  exact P.2 _ _ ⟨e, t, rfl, Kp.of n.keeps, n.new, .inl ⟨ob, _, h1, h2, h3, rfl, rfl⟩⟩
end

noncomputable def mulOk (a b : Int) : Bool := !(decide (Builtin.Int.intBits a > shortFactorBits) && decide (Builtin.Int.intBits b > shortFactorBits) && Builtin.Int.intTooBig (Builtin.Int.intBits a + Builtin.Int.intBits b))
theorem mulOk_iff {a b : Int} : mulOk a b = true ↔ IntMulOk a b := by
  unfold mulOk IntMulOk
  cases (decide (Builtin.Int.intBits a > shortFactorBits) && decide (Builtin.Int.intBits b > shortFactorBits) && Builtin.Int.intTooBig (Builtin.Int.intBits a + Builtin.Int.intBits b)) <;> simp

noncomputable def frac (a b : Int) : UInt64 := Float64.ofFrac (decide (a < 0) != decide (b < 0)) a.natAbs b.natAbs

noncomputable def intBin (op : Operator) (a b : Int) : Res := match op with
  | .Add => .ok (.int (a + b))
  | .Sub => .ok (.int (a - b))
  | .Mult => if mulOk a b = true then .ok (.int (a * b)) else .stuck
  | .FloorDiv => if (b == 0) = true then .exc .zde else if Builtin.divisionGoesByPylong a b = true then .stuck else .ok (.int (a.fdiv b))
  | .Mod => if (b == 0) = true then .exc .zde else .ok (.int (a.fmod b))
  | .Div => if (b == 0) = true then .exc .zde else if Float64.isInf (frac a b) = true then .exc .ofe else .ok (.float (frac a b))
  | .Pow => if b ≥ 0 then (if (b == 0) = true then .ok (.int 1) else if (a == 0 || a == 1) = true then .ok (.int a) else if (a == -1) = true then .ok (.int (if (b % 2 == 0) = true then 1 else -1))
      else if Builtin.Int.intTooBig (((Builtin.Int.intBits a : Nat) : Int) * b) = true then .stuck else .ok (.int (a ^ b.toNat))) else .stuck
  | _ => .stuck
section
variable {c : Cx} {q : Bool} {k : Nat} {A : Around} {s : Shared} {H : Hd}

theorem intBin_ok {op : Operator} {a b : Int} {t u : Tok} (hm : Rm c q k A s.heap) : Tr c q A H (binaryOp op (.int a t) (.int b u)) (intBin op a b) s := by
  intro Q E P
  cases op <;> simp only [intBin] at P <;> try exact P.elim
  · exact AutoIntOps.add_0 (post_int P)
  · exact AutoIntOps.sub_0 (post_int P)
  · split at P
    · rename_i h; exact AutoIntOps.mul_0 (post_int P) (mulOk_iff.mp h)
    · exact P.elim
  · refine AutoIntOpsIf.truediv ?_
    by_cases h : (b == 0) = true
    · rw [if_pos h] at P ⊢; exact post_raise hm P
    · rw [if_neg h] at P ⊢
      by_cases h2 : Float64.isInf (frac a b) = true
      · rw [if_pos h2] at P; rw [if_pos (by exact h2)]; exact post_raise hm P
      · rw [if_neg h2] at P; rw [if_neg (by exact h2)]; exact post_float P
  · refine AutoIntOpsIf.mod ?_
    split at P
    · rename_i h; rw [if_pos h]; exact post_raise hm P
    · rename_i h; rw [if_neg h]; exact post_int P
  · refine AutoIntOpsIf.pow ?_
    split at P
    · rename_i h; rw [if_pos h]
      split at P
      · rename_i h; rw [if_pos h]; exact post_int P
      · rename_i h; rw [if_neg h]
        split at P
        · rename_i h; rw [if_pos h]; exact post_int P
        · rename_i h; rw [if_neg h]
          split at P
          · rename_i h; rw [if_pos h]; exact post_int P
          · rename_i h; rw [if_neg h]
            split at P
            · exact P.elim
            · rename_i h; rw [if_neg h]; exact post_int P
    · exact P.elim
  · refine AutoIntOpsIf.floordiv ?_
    split at P
    · rename_i h; rw [if_pos h]; exact post_raise hm P
    · rename_i h; rw [if_neg h]
      split at P
      · exact P.elim
      · rename_i h; rw [if_neg h]; exact post_int P

end

/- in place: Div alone -/
section
variable {c : Cx} {q : Bool} {k : Nat} {A : Around} {s : Shared} {H : Hd}
end

/- comparing -/
noncomputable def intCmp (op : CmpOp) (a b : Int) : Option Bool := match op with
  | .Eq => some (a == b)
  | .NotEq => some (a != b)
  | .Lt => some (decide (a < b))
  | .LtE => some (decide (a ≤ b))
  | .Gt => some (decide (a > b))
  | .GtE => some (decide (a ≥ b))
  | _ => none
section
variable {c : Cx} {q : Bool} {k : Nat} {A : Around} {s : Shared} {H : Hd}
theorem intCmp_ok {op : CmpOp} {a b : Int} {t u : Tok} {r : Bool} (h : intCmp op a b = some r) : Tr c q A H (compareOp op (.int a t) (.int b u)) (.ok (.bool r)) s := by
  intro Q E P
  cases op <;> simp only [intCmp, Option.some.injEq, reduceCtorEq] at h <;> subst h
  · exact PySem.P.eq_int (post_bool P)
  · exact PySem.P.ne_int (post_bool P)
  · exact PySem.P.lt_int (post_bool P)
  · exact PySem.P.le_int (post_bool P)
  · exact PySem.P.gt_int (post_bool P)
  · exact PySem.P.ge_int (post_bool P)
noncomputable def plainCmp (op : CmpOp) (e : Bool) : Option Bool := match op with
  | .Is => some e
  | .IsNot => some (!e)
  | _ => none
theorem plainCmp_ok {op : CmpOp} {a b : Value} {r : Bool} (hp : plainIs a b = true) (h : plainCmp op (a == b) = some r) : Tr c q A H (compareOp op a b) (.ok (.bool r)) s := by
  intro Q E P
  cases op <;> simp only [plainCmp, Option.some.injEq, reduceCtorEq] at h <;> subst h
  · exact wpAny_is_plain hp (post_bool P)
  · exact wpAny_isNot_plain hp (post_bool P)
end
end Mine
end
section
open PySem PySem.W PyProof.Rows
namespace Mine
set_option maxRecDepth 100000

section
variable {M : Model} {A : Around} {E : Value → Shared → Prop} {s : Shared} {a b : Value} {T U nm idl idr : String}
end
section
variable {prog : Program} {w : World} {A : Around} {E : Value → Shared → Prop} {s : Shared}
end
theorem IsS.typeIs {s : Shared} {a : Addr} {xs : List Int} (x : IsS s.heap a false xs) : s.TypeIs (.ref a) "set" := let ⟨o, es, ep, t, e, c, _, _, _⟩ := x; ⟨o, e, c⟩

section
variable {c : Cx} {q : Bool} {k : Nat} {A : Around} {s : Shared} {H : Hd}
/- a set and an int -/
/- an int and a bool -/
end
end Mine
end
section
open PySem PySem.W PyProof.Rows
namespace Mine
set_option maxRecDepth 100000

noncomputable def asPart : AV → Option (Option Int)
  | .none => some none
  | .int i => some (some i)
  | _ => none
theorem asPart_ok {R : Vw} {v : Value} {x : AV} {p : Option Int} (h : asPart x = some p) (r : Rep R v x) : IsPart v p := by
  cases x <;> simp only [asPart, reduceCtorEq, Option.some.injEq] at h
  · subst h; simp only [Rep] at r; subst r; exact .none
  · subst h; simp only [Rep] at r; obtain ⟨t, rfl⟩ := r; exact .int _ _

noncomputable def pickL (xs : List AV) (lo hi st : Option Int) : List AV :=
  (sliceRange (sliceBounds lo hi st xs.length).1 (sliceBounds lo hi st xs.length).2.1 (sliceBounds lo hi st xs.length).2.2).filterMap (xs[·]?)

theorem RepL.pick {R : Vw} {vs : List Value} {xs : List AV} (r : RepL R vs xs) : ∀ is : List Nat, RepL R (is.filterMap (vs[·]?)) (is.filterMap (xs[·]?))
  | [] => by simp [RepL]
  | i :: is => by
    cases hx : xs[i]? with
    | none =>
      have hv : vs[i]? = none := by rw [List.getElem?_eq_none_iff] at hx ⊢; rw [r.length]; exact hx
      simp only [List.filterMap_cons, hx, hv]
      exact RepL.pick r is
    | some x =>
      obtain ⟨v, hv, q⟩ := r.get hx
      simp only [List.filterMap_cons, hx, hv, RepL]
      exact ⟨q, RepL.pick r is⟩

theorem IsL.typeIs {s : Shared} {a : Addr} {vs : List Value} (x : IsL s.heap a vs) : s.TypeIs (.ref a) "list" := x.isList.typeIs

noncomputable def ints? : List AV → Option (List Int)
  | [] => some []
  | .int i :: r => (ints? r).map (i :: ·)
  | _ :: _ => none

section
variable {c : Cx} {q : Bool} {k : Nat} {A : Around} {s : Shared} {H : Hd}
/-- two lists behind each other -/
theorem lists_add {l b : Addr} {vs ws : List Value} {xs ys : List AV} (hL : Live H s.heap) (hl : IsL s.heap l vs) (hb : IsL s.heap b ws) (hx : RepL (vis s.heap H) vs xs) (hy : RepL (vis s.heap H) ws ys) (hz : xs.length + ys.length ≤ 1048576) :
    Tr c q A H (binaryOp .Add (.ref l) (.ref b)) (.ok (.lst (xs ++ ys))) s := by
  intro Q E P
  obtain ⟨⟨cls, dd, data, sl⟩, n, ho, hc, hd, _⟩ := id hl
  obtain ⟨⟨cls2, dd2, data2, sl2⟩, n2, ho2, hc2, hd2, _⟩ := id hb
  simp only at hc hd hc2 hd2
  subst hc hd hc2 hd2
  have e : vs.toArray ++ ws.toArray = (vs ++ ws).toArray := by simp
  refine concat_meets ⟨_, ho, rfl⟩ ⟨_, ho2, rfl⟩ noFill_list_add seq_list_add PySem.F.slot_list_add PySem.F.entry_list_add (PySem.F.args_list_add_2 _ _) (list_addW l b vs.toArray ws.toArray n n2 dd dd2 sl sl2 (by simp [hx.length, hy.length]; exact line_ok hz)) ⟨ho, ho2, ?_⟩
  rw [e]
  exact P _ _ (Kp.push _) (rep_fresh_list hL (by simpa using hz) (hx.append hy))

noncomputable def idxL (xs : List AV) (i : Int) : Res :=
  if 0 ≤ i then (match xs[i.toNat]? with | some x => .ok x | none => .stuck) else if -(xs.length : Int) ≤ i then (match xs[(i + xs.length).toNat]? with | some x => .ok x | none => .stuck) else .stuck
theorem idxL_ok {l : Addr} {vs : List Value} {xs : List AV} {i : Int} {t : Tok} (hl : IsL s.heap l vs) (hz : xs.length ≤ 1048576) (r : RepL (vis s.heap H) vs xs) : Tr c q A H (getItem (.ref l) (.int i t)) (idxL xs i) s := by
  intro Q E P
  unfold idxL at P
  by_cases h0 : 0 ≤ i
  · rw [if_pos h0] at P
    cases hx : xs[i.toNat]? with
    | none => rw [hx] at P; exact P.elim
    | some x =>
      rw [hx] at P
      obtain ⟨v, hv, rv⟩ := r.get hx
      have : i.toNat < xs.length := by obtain ⟨h, _⟩ := List.getElem?_eq_some_iff.mp hx; exact h
      exact wpAny_getItem_list hl.isList h0 (by omega) (x := v) (by simpa using hv) (P _ _ (Kp.refl _ _) rv)
  · rw [if_neg h0] at P
    by_cases h1 : -(xs.length : Int) ≤ i
    · rw [if_pos h1] at P
      cases hx : xs[(i + xs.length).toNat]? with
      | none => rw [hx] at P; exact P.elim
      | some x =>
        rw [hx] at P
        obtain ⟨v, hv, rv⟩ := r.get hx
        exact wpAny_getItem_list_neg hl.isList (by omega) (by simpa [r.length] using h1) (by omega) (x := v) (by simpa [r.length] using hv) (P _ _ (Kp.refl _ _) rv)
    · rw [if_neg h1] at P; exact P.elim

noncomputable def sliceL (xs : List AV) (a b z : AV) : Res := match asPart a, asPart b, asPart z with
  | some lo, some hi, some st => if st = some 0 then .stuck else .ok (.lst (pickL xs lo hi st))
  | _, _, _ => .stuck
theorem sliceL_ok {l r : Addr} {vs : List Value} {xs : List AV} {x y z : AV} {ux uy uz : Value} (hL : Live H s.heap) (hl : IsL s.heap l vs) (hz : xs.length ≤ 1048576) (rr : RepL (vis s.heap H) vs xs) (h1 : Rep (vis s.heap H) ux x) (h2 : Rep (vis s.heap H) uy y) (h3 : Rep (vis s.heap H) uz z)
    (hr : s.heap.get? r = some { cls := .type "slice", data := .fields #[ux, uy, uz] }) : Tr c q A H (getItem (.ref l) (.ref r)) (sliceL xs x y z) s := by
  intro Q E P
  unfold sliceL at P
  cases e1 : asPart x with
  | none => rw [e1] at P; exact P.elim
  | some lo =>
    cases e2 : asPart y with
    | none => rw [e1, e2] at P; exact P.elim
    | some hi =>
      cases e3 : asPart z with
      | none => rw [e1, e2, e3] at P; exact P.elim
      | some st =>
        rw [e1, e2, e3] at P
        simp only at P
        by_cases h0 : st = some 0
        · rw [if_pos h0] at P; exact P.elim
        · rw [if_neg h0] at P
          refine wpAny_getItem_list_slice hl.isList ⟨_, hr, rfl, rfl⟩ (asPart_ok e1 h1) (asPart_ok e2 h2) (asPart_ok e3 h3) h0 ?_ (by simp [rr.length]; exact line_ok hz)
          have e : slicePick vs.toArray lo hi st = ((sliceRange (sliceBounds lo hi st xs.length).1 (sliceBounds lo hi st xs.length).2.1 (sliceBounds lo hi st xs.length).2.2).filterMap (vs[·]?)).toArray := by
            unfold slicePick; simp [rr.length]
          have hsz := slicePick_size_le vs.toArray lo hi st
          rw [e]
          rw [e] at hsz
          have rp := rr.pick (sliceRange (sliceBounds lo hi st xs.length).1 (sliceBounds lo hi st xs.length).2.1 (sliceBounds lo hi st xs.length).2.2)
          refine P _ _ (Kp.push _) (rep_fresh_list hL ?_ rp)
          have := rp.length
          simp only [List.size_toArray, rr.length] at hsz
          show (List.filterMap _ _).length ≤ _
          rw [← this]; omega
end
end Mine
end
section
open PySem PySem.W PyProof.Rows
namespace Mine
open SeqAt
set_option maxRecDepth 100000

theorem no_some {α : Type} {P : Prop} {x : α} (h : (Option.none : Option α) = some x) : P := nomatch h
theorem no_true {P : Prop} (h : false = true) : P := nomatch h
noncomputable def AV.lst? : AV → Option (List AV) | .lst x => some x | _ => Option.none
noncomputable def AV.tup? : AV → Option (List AV) | .tup x => some x | _ => Option.none
noncomputable def AV.str? : AV → Option Str | .str x => some x | _ => Option.none
noncomputable def AV.bytes? : AV → Option (Array UInt8) | .bytes x => some x | _ => Option.none
noncomputable def AV.int? : AV → Option Int | .int x => some x | _ => Option.none
noncomputable def AV.type? : AV → Option String | .type x => some x | _ => Option.none
noncomputable def AV.none? : AV → Bool | .none => true | _ => false
theorem lst?_eq {a : AV} {x} : (h : a.lst? = some x) → a = .lst x := match a with | .lst _ => fun h => congrArg AV.lst (Option.some.inj h) | .none | .bool _ | .int _ | .float _ | .str _ | .bytes _ | .type _ | .range _ _ _ | .tup _ | .set _ _ | .ptr _ | .itr _ _ | .fn _ | .dict _ | .sm _ _ | .any => no_some
theorem tup?_eq {a : AV} {x} : (h : a.tup? = some x) → a = .tup x := match a with | .tup _ => fun h => congrArg AV.tup (Option.some.inj h) | .none | .bool _ | .int _ | .float _ | .str _ | .bytes _ | .type _ | .range _ _ _ | .lst _ | .set _ _ | .ptr _ | .itr _ _ | .fn _ | .dict _ | .sm _ _ | .any => no_some
theorem str?_eq {a : AV} {x} : (h : a.str? = some x) → a = .str x := match a with | .str _ => fun h => congrArg AV.str (Option.some.inj h) | .none | .bool _ | .int _ | .float _ | .bytes _ | .type _ | .range _ _ _ | .tup _ | .lst _ | .set _ _ | .ptr _ | .itr _ _ | .fn _ | .dict _ | .sm _ _ | .any => no_some
theorem bytes?_eq {a : AV} {x} : (h : a.bytes? = some x) → a = .bytes x := match a with | .bytes _ => fun h => congrArg AV.bytes (Option.some.inj h) | .none | .bool _ | .int _ | .float _ | .str _ | .type _ | .range _ _ _ | .tup _ | .lst _ | .set _ _ | .ptr _ | .itr _ _ | .fn _ | .dict _ | .sm _ _ | .any => no_some
theorem int?_eq {a : AV} {x} : (h : a.int? = some x) → a = .int x := match a with | .int _ => fun h => congrArg AV.int (Option.some.inj h) | .none | .bool _ | .float _ | .str _ | .bytes _ | .type _ | .range _ _ _ | .tup _ | .lst _ | .set _ _ | .ptr _ | .itr _ _ | .fn _ | .dict _ | .sm _ _ | .any => no_some
theorem type?_eq {a : AV} {x} : (h : a.type? = some x) → a = .type x := match a with | .type _ => fun h => congrArg AV.type (Option.some.inj h) | .none | .bool _ | .int _ | .float _ | .str _ | .bytes _ | .range _ _ _ | .tup _ | .lst _ | .set _ _ | .ptr _ | .itr _ _ | .fn _ | .dict _ | .sm _ _ | .any => no_some
theorem none?_eq {a : AV} : (h : a.none? = true) → a = .none := match a with | .none => fun _ => rfl | .bool _ | .int _ | .float _ | .str _ | .bytes _ | .type _ | .range _ _ _ | .tup _ | .lst _ | .set _ _ | .ptr _ | .itr _ _ | .fn _ | .dict _ | .sm _ _ | .any => no_true
noncomputable def two {α β : Type} (f : AV → Option α) (a b : AV) (g : α → α → β) (e : β) : β := match f a with
  | some x => (match f b with
    | some y => g x y
    | none => e)
  | none => e
theorem two_cases {α β : Type} {f : AV → Option α} {a b : AV} {g : α → α → β} {e : β} {P : β → Prop} (h1 : ∀ x y, f a = some x → f b = some y → P (g x y)) (h2 : P e) : P (two f a b g e) := by
  unfold two
  cases ha : f a with
  | none => exact h2
  | some x => cases hb : f b with
    | none => exact h2
    | some y => exact h1 x y ha hb
noncomputable def AV.bool? : AV → Option Bool | .bool x => some x | _ => Option.none
theorem bool?_eq {a : AV} {x} : (h : a.bool? = some x) → a = .bool x := match a with | .bool _ => fun h => congrArg AV.bool (Option.some.inj h) | .none | .int _ | .float _ | .str _ | .bytes _ | .type _ | .range _ _ _ | .tup _ | .lst _ | .set _ _ | .ptr _ | .itr _ _ | .fn _ | .dict _ | .sm _ _ | .any => no_some
/- equality -/
noncomputable def eqO (x y : AV) : Option Bool := two AV.str? x y (fun a b => some (a == b)) (two AV.bytes? x y (fun a b => some (a.toList == b.toList)) none)
noncomputable def eqS (x y : AV) : Option Bool := two AV.int? x y (fun a b => some (a == b)) (two AV.bool? x y (fun a b => some (a == b)) (if (x.none? && y.none?) = true then some true else eqO x y))
noncomputable def allZ (f : AV → AV → Option Bool) : List AV → List AV → Option Bool
  | x :: xs, y :: ys => match f x y with
    | some a => (allZ f xs ys).map (a && ·)
    | none => none
  | _, _ => some true
noncomputable def eqL (f : AV → AV → Option Bool) (xs ys : List AV) : Option Bool := if xs.length = ys.length then allZ f xs ys else some false
noncomputable def eqT (f : AV → AV → Option Bool) (xs ys : List AV) : Option Bool := (allZ f xs ys).map (· && xs.length == ys.length)
/-- items: classes by their names -/
noncomputable def itm (f : AV → AV → Option Bool) (x y : AV) : Option Bool := two AV.type? x y (fun a b => if a = b then some true else none) (f x y)
noncomputable def eqN : Nat → AV → AV → Option Bool
  | 0, x, y => eqS x y
  | n + 1, x, y => two AV.lst? x y (eqL (itm (eqN n))) (two AV.tup? x y (eqT (itm (eqN n))) (eqS x y))
structure EqB (A : Around) (s : Shared) (va vb : Value) (b : Bool) : Prop where
  rc : RcAt A s va vb b
  ne : RcNeAt A s va vb (!b)
  eq : EqAt A s va vb b
theorem EqAt.bytes_bytes {A : Around} {s : Shared} (a : Array UInt8) (t : Tok) (b : Array UInt8) (u : Tok) : EqAt A s (.bytes a t) (.bytes b u) (a.toList == b.toList) := fun prog w E Q h => by
  unfold eqBool
  refine wpAny_holding ?_
  refine wpAny_ite_split (fun hab => ?_) (fun _ => ?_)
  · have e : a = b := by have := eq_of_beq hab; injection this
    subst e
    exact wpAny_bind (wpAny_rule (wpAny_pure (by simpa using h)))
  · exact wpAny_bind ((eq_bytes (wpAny_truthy_bool h) : wpAny _ _ (compareOp .Eq _ _) _ _ _))
theorem EqAt.none_none {A : Around} {s : Shared} : EqAt A s .none .none true := EqAt.same _
theorem eqO_ok {A : Around} {s : Shared} {H : Hd} {x y : AV} {va vb : Value} {b : Bool} (h : eqO x y = some b) (ra : RepO s.heap H va x) (rb : RepO s.heap H vb y) : EqB A s va vb b := by
  revert h
  refine two_cases (P := fun r => r = some b → EqB A s va vb b) (fun a c ea ec h => ?_) (two_cases (P := fun r => r = some b → EqB A s va vb b) (fun a c ea ec h => ?_) nofun)
  · rw [str?_eq ea] at ra; rw [str?_eq ec] at rb
    obtain ⟨t, rfl⟩ := ra; obtain ⟨u, rfl⟩ := rb
    cases h; exact ⟨RcAt.str_str _ _ _ _, RcNeAt.str_str _ _ _ _, EqAt.str_str _ _ _ _⟩
  · rw [bytes?_eq ea] at ra; rw [bytes?_eq ec] at rb
    obtain ⟨t, rfl⟩ := ra; obtain ⟨u, rfl⟩ := rb
    cases h
    exact ⟨fun prog w E Q h => (eq_bytes h : wpAny _ _ (compareOp .Eq _ _) _ _ _), fun prog w E Q h => (ne_bytes h : wpAny _ _ (compareOp .NotEq _ _) _ _ _), EqAt.bytes_bytes _ _ _ _⟩
theorem eqS_ok {A : Around} {s : Shared} {H : Hd} {x y : AV} {va vb : Value} {b : Bool} (h : eqS x y = some b) (ra : RepO s.heap H va x) (rb : RepO s.heap H vb y) : EqB A s va vb b := by
  revert h
  refine two_cases (P := fun r => r = some b → EqB A s va vb b) (fun a c ea ec h => ?_) (two_cases (P := fun r => r = some b → EqB A s va vb b) (fun a c ea ec h => ?_) fun h => ?_)
  · rw [int?_eq ea] at ra; rw [int?_eq ec] at rb
    obtain ⟨t, rfl⟩ := ra; obtain ⟨u, rfl⟩ := rb
    cases h; exact ⟨RcAt.int_int _ _ _ _, RcNeAt.int_int _ _ _ _, EqAt.int_int _ _ _ _⟩
  · rw [bool?_eq ea] at ra; rw [bool?_eq ec] at rb
    cases ra; cases rb
    cases h; exact ⟨RcAt.bool_bool _ _, RcNeAt.bool_bool _ _, EqAt.bool_bool _ _⟩
  · split at h
    · rename_i hn
      have hn := Bool.and_eq_true_iff.mp hn
      rw [none?_eq hn.1] at ra; rw [none?_eq hn.2] at rb
      cases ra; cases rb
      cases h; exact ⟨RcAt.none_none, RcNeAt.none_none, EqAt.none_none⟩
    · exact eqO_ok h ra rb
theorem allZ_some {f : AV → AV → Option Bool} : ∀ {xs ys : List AV} {b : Bool}, allZ f xs ys = some b → ∃ e : Nat → Bool, (∀ (j : Nat) x y, xs[j]? = some x → ys[j]? = some y → f x y = some (e j)) ∧ b = (List.range (min xs.length ys.length)).all e
  | [], ys, b, h => by
    simp only [allZ, Option.some.injEq] at h
    exact ⟨fun _ => true, fun j x y hx => by simp at hx, by simp [← h]⟩
  | x :: xs, [], b, h => by
    simp only [allZ, Option.some.injEq] at h
    exact ⟨fun _ => true, fun j x y _ hy => by simp at hy, by simp [← h]⟩
  | x :: xs, y :: ys, b, h => by
    simp only [allZ] at h
    split at h
    · rename_i a ha
      simp only [Option.map_eq_some_iff] at h
      obtain ⟨c, hc, rfl⟩ := h
      obtain ⟨e, he, hb⟩ := allZ_some hc
      refine ⟨fun j => match j with | 0 => a | j + 1 => e j, fun j x' y' hx hy => ?_, ?_⟩
      · cases j with
        | zero => simp at hx hy; subst hx; subst hy; exact ha
        | succ j => simp at hx hy; exact he j x' y' hx hy
      · rw [hb, List.length_cons, List.length_cons, Nat.succ_min_succ, List.range_succ_eq_map, List.all_cons, List.all_map]; rfl
    · cases h
theorem vis_fun {h : Heap} {H : Hd} {a : Addr} {c c' : Value} {d d' : Data} (x : (vis h H).r a c d) (y : (vis h H).r a c' d') : c = c' ∧ d = d' := by
  obtain ⟨_, o, e, rfl, rfl, _⟩ := x
  obtain ⟨_, o', e', rfl, rfl, _⟩ := y
  rw [e] at e'; cases e'
  exact ⟨rfl, rfl⟩
theorem eqO_same {h : Heap} {H : Hd} {x y : AV} {v : Value} {b : Bool} (e : eqO x y = some b) (ra : Rep (vis h H) v x) (rb : Rep (vis h H) v y) : b = true := by
  revert e
  refine two_cases (P := fun r => r = some b → b = true) (fun a c ea ec e => ?_) (two_cases (P := fun r => r = some b → b = true) (fun a c ea ec e => ?_) nofun)
  · rw [str?_eq ea] at ra; rw [str?_eq ec] at rb
    obtain ⟨t, rfl⟩ := ra; obtain ⟨u, e2⟩ := rb; cases e2; cases e; exact beq_self_eq_true _
  · rw [bytes?_eq ea] at ra; rw [bytes?_eq ec] at rb
    obtain ⟨t, rfl⟩ := ra; obtain ⟨u, e2⟩ := rb; cases e2; cases e; exact beq_self_eq_true _
theorem eqS_same {h : Heap} {H : Hd} {x y : AV} {v : Value} {b : Bool} (e : eqS x y = some b) (ra : Rep (vis h H) v x) (rb : Rep (vis h H) v y) : b = true := by
  revert e
  refine two_cases (P := fun r => r = some b → b = true) (fun a c ea ec e => ?_) (two_cases (P := fun r => r = some b → b = true) (fun a c ea ec e => ?_) fun e => ?_)
  · rw [int?_eq ea] at ra; rw [int?_eq ec] at rb
    obtain ⟨t, rfl⟩ := ra; obtain ⟨u, e2⟩ := rb; cases e2; cases e; exact beq_self_eq_true _
  · rw [bool?_eq ea] at ra; rw [bool?_eq ec] at rb
    cases ra; cases rb; cases e; exact beq_self_eq_true _
  · split at e
    · cases e; rfl
    · exact eqO_same e ra rb
theorem allZ_same {h : Heap} {H : Hd} {f : AV → AV → Option Bool} (hf : ∀ x y v b, f x y = some b → Rep (vis h H) v x → Rep (vis h H) v y → b = true) : ∀ {xs ys : List AV} {vs : List Value} {b : Bool}, allZ f xs ys = some b → RepL (vis h H) vs xs → RepL (vis h H) vs ys → b = true
  | [], _, _, b, e, _, _ => by simp only [allZ, Option.some.injEq] at e; exact e.symm
  | _ :: _, [], _, b, e, _, _ => by simp only [allZ, Option.some.injEq] at e; exact e.symm
  | x :: xs, y :: ys, [], b, e, r, _ => by simp [RepL] at r
  | x :: xs, y :: ys, v :: vs, b, e, r, r' => by
    simp only [RepL] at r r'
    simp only [allZ] at e
    split at e
    · rename_i a ha
      simp only [Option.map_eq_some_iff] at e
      obtain ⟨c, hc, rfl⟩ := e
      rw [hf x y v a ha r.1 r'.1, allZ_same hf hc r.2 r'.2]; rfl
    · cases e
theorem eqL_same {h : Heap} {H : Hd} {f : AV → AV → Option Bool} (hf : ∀ x y v b, f x y = some b → Rep (vis h H) v x → Rep (vis h H) v y → b = true) {xs ys : List AV} {v : Value} {b : Bool} (e : eqL f xs ys = some b) (ra : Rep (vis h H) v (.lst xs)) (rb : Rep (vis h H) v (.lst ys)) : b = true := by
  simp only [Rep] at ra rb
  obtain ⟨_, a, vs, k, rfl, r1, l1⟩ := ra
  obtain ⟨_, a', vs', k', ea, r2, l2⟩ := rb
  cases ea
  have := (vis_fun r1 r2).2
  simp only [Data.seq.injEq] at this
  have hv : vs = vs' := congrArg Array.toList this.1
  subst hv
  rw [eqL, if_pos (l1.length.symm.trans l2.length)] at e
  exact allZ_same hf e l1 l2
theorem eqT_same {h : Heap} {H : Hd} {f : AV → AV → Option Bool} (hf : ∀ x y v b, f x y = some b → Rep (vis h H) v x → Rep (vis h H) v y → b = true) {xs ys : List AV} {v : Value} {b : Bool} (e : eqT f xs ys = some b) (ra : Rep (vis h H) v (.tup xs)) (rb : Rep (vis h H) v (.tup ys)) : b = true := by
  simp only [Rep] at ra rb
  obtain ⟨_, a, vs, k, rfl, r1, l1⟩ := ra
  obtain ⟨_, a', vs', k', ea, r2, l2⟩ := rb
  cases ea
  have := (vis_fun r1 r2).2
  simp only [Data.seq.injEq] at this
  have hv : vs = vs' := congrArg Array.toList this.1
  subst hv
  obtain ⟨c, hc, rfl⟩ := Option.map_eq_some_iff.mp e
  rw [allZ_same hf hc l1 l2, l1.length.symm.trans l2.length, Bool.true_and]; exact beq_self_eq_true _
theorem itm_same {h : Heap} {H : Hd} {f : AV → AV → Option Bool} (hf : ∀ x y v b, f x y = some b → Rep (vis h H) v x → Rep (vis h H) v y → b = true) : ∀ x y v b, itm f x y = some b → Rep (vis h H) v x → Rep (vis h H) v y → b = true := fun x y v b e ra rb => by
  revert e
  refine two_cases (P := fun r => r = some b → b = true) (fun a c _ _ e => ?_) fun e => hf x y v b e ra rb
  split at e
  · cases e; rfl
  · cases e
theorem eqN_same {h : Heap} {H : Hd} : ∀ (n : Nat) (x y : AV) (v : Value) (b : Bool), eqN n x y = some b → Rep (vis h H) v x → Rep (vis h H) v y → b = true
  | 0, x, y, v, b, e, ra, rb => eqS_same e ra rb
  | n + 1, x, y, v, b, e, ra, rb => by
    revert e
    refine two_cases (P := fun r => r = some b → b = true) (fun a c ea ec e => ?_) (two_cases (P := fun r => r = some b → b = true) (fun a c ea ec e => ?_) fun e => eqS_same e ra rb)
    · rw [lst?_eq ea] at ra; rw [lst?_eq ec] at rb
      exact eqL_same (itm_same (eqN_same n)) e ra rb
    · rw [tup?_eq ea] at ra; rw [tup?_eq ec] at rb
      exact eqT_same (itm_same (eqN_same n)) e ra rb
/-- what is known of the items of two rows -/
noncomputable def EqF (A : Around) (s : Shared) (H : Hd) (f : AV → AV → Option Bool) : Prop := ∀ x y va vb b, f x y = some b → Rep (vis s.heap H) va x → Rep (vis s.heap H) vb y → EqAt A s va vb b
theorem eq_items {A : Around} {s : Shared} {H : Hd} {f : AV → AV → Option Bool} (hf : EqF A s H f) {xs ys : List AV} {vs ws : List Value} (rl : RepL (vis s.heap H) vs xs) (rl' : RepL (vis s.heap H) ws ys) {e : Nat → Bool} (he : ∀ (j : Nat) x y, xs[j]? = some x → ys[j]? = some y → f x y = some (e j)) :
    ∀ j (h1 : j < vs.toArray.size) (h2 : j < ws.toArray.size), EqAt A s vs.toArray[j] ws.toArray[j] (e j) := fun j h1 h2 => by
  have h1' : j < vs.length := h1
  have h2' : j < ws.length := h2
  have e1 : xs[j]? = some (xs[j]'(by rw [← rl.length]; exact h1')) := List.getElem?_eq_getElem _
  have e2 : ys[j]? = some (ys[j]'(by rw [← rl'.length]; exact h2')) := List.getElem?_eq_getElem _
  obtain ⟨v, hv, rv⟩ := rl.get e1
  obtain ⟨v', hv', rv'⟩ := rl'.get e2
  rw [List.getElem?_eq_getElem h1'] at hv
  rw [List.getElem?_eq_getElem h2'] at hv'
  cases hv; cases hv'
  exact hf _ _ _ _ _ (he j _ _ e1 e2) rv rv'
abbrev EqR (A : Around) (s : Shared) (H : Hd) (x y : AV) (va vb : Value) (b : Bool) : Prop := RcAt A s va vb b ∧ RcNeAt A s va vb (!b) ∧ (Rep (vis s.heap H) va x → Rep (vis s.heap H) vb y → EqAt A s va vb b)
theorem eq_refs {A : Around} {s : Shared} {H : Hd} {x y : AV} {l l' : Addr} {b : Bool} (same : ∀ v, Rep (vis s.heap H) v x → Rep (vis s.heap H) v y → b = true) (g1 : RcAt A s (.ref l) (.ref l') b) (g2 : RcNeAt A s (.ref l) (.ref l') (!b)) : EqR A s H x y (.ref l) (.ref l') b := by
  refine ⟨g1, g2, fun r r' => ?_⟩
  by_cases hll : l = l'
  · subst hll
    rw [same _ r r']
    exact EqAt.same _
  · exact EqAt.of_refs hll g1
theorem eqL_ok {A : Around} {s : Shared} {H : Hd} {f : AV → AV → Option Bool} (hu : A.units < cLine) (hf : EqF A.in1 s H f) (hs : ∀ x y v b, f x y = some b → Rep (vis s.heap H) v x → Rep (vis s.heap H) v y → b = true) {xs ys : List AV} {va vb : Value} {b : Bool} (h : eqL f xs ys = some b) (ra : RepO s.heap H va (.lst xs)) (rb : RepO s.heap H vb (.lst ys)) : EqR A s H (.lst xs) (.lst ys) va vb b := by
  have same : ∀ v, Rep (vis s.heap H) v (.lst xs) → Rep (vis s.heap H) v (.lst ys) → b = true := fun v r r' => eqL_same hs h r r'
  obtain ⟨_, l, vs, rfl, hl, rl⟩ := ra
  obtain ⟨_, l', ws, rfl, hl', rl'⟩ := rb
  have n1 := rl.length
  have n2 := rl'.length
  unfold eqL at h
  split at h
  · rename_i hlen
    have hsz : vs.toArray.size = ws.toArray.size := (n1.trans hlen).trans n2.symm
    obtain ⟨e, he, rfl⟩ := allZ_some h
    have hm : min xs.length ys.length = vs.toArray.size := by rw [← hlen, Nat.min_self]; exact n1.symm
    rw [hm] at same ⊢
    have hE := eq_items hf rl rl' he
    exact eq_refs same (RcAt.lists hl.isList hl'.isList hsz hu hE) (RcNeAt.lists hl.isList hl'.isList hsz hu hE)
  · rename_i hlen
    cases h
    have hsz : (vs.toArray.size != ws.toArray.size) = true := bne_iff_ne.mpr fun z => hlen ((n1.symm.trans z).trans n2)
    exact eq_refs same (RcAt.lists_lengths hl.isList hl'.isList hsz hu) (RcNeAt.lists_lengths hl.isList hl'.isList hsz hu)
theorem eqT_ok {A : Around} {s : Shared} {H : Hd} {f : AV → AV → Option Bool} (hu : A.units < cLine) (hf : EqF A.in1 s H f) (hs : ∀ x y v b, f x y = some b → Rep (vis s.heap H) v x → Rep (vis s.heap H) v y → b = true) {xs ys : List AV} {va vb : Value} {b : Bool} (h : eqT f xs ys = some b) (ra : RepO s.heap H va (.tup xs)) (rb : RepO s.heap H vb (.tup ys)) : EqR A s H (.tup xs) (.tup ys) va vb b := by
  have same : ∀ v, Rep (vis s.heap H) v (.tup xs) → Rep (vis s.heap H) v (.tup ys) → b = true := fun v r r' => eqT_same hs h r r'
  have ra : Rep (vis s.heap H) va (.tup xs) := ra
  have rb : Rep (vis s.heap H) vb (.tup ys) := rb
  simp only [Rep] at ra rb
  obtain ⟨_, l, vs, k, rfl, ⟨_, o, e1, e2, e3, _⟩, rl⟩ := ra
  obtain ⟨_, l', ws, k', rfl, ⟨_, o', e1', e2', e3', _⟩, rl'⟩ := rb
  have hl : s.heap.IsTuple l vs.toArray := ⟨o, e1, e2, k, e3⟩
  have hl' : s.heap.IsTuple l' ws.toArray := ⟨o', e1', e2', k', e3'⟩
  obtain ⟨c, hc, rfl⟩ := Option.map_eq_some_iff.mp h
  obtain ⟨e, he, rfl⟩ := allZ_some hc
  have m1 : xs.length = vs.toArray.size := rl.length.symm
  have m2 : ys.length = ws.toArray.size := rl'.length.symm
  rw [m1, m2] at same ⊢
  have hE := eq_items hf rl rl' he
  exact eq_refs same (RcAt.tuples hl hl' hu hE) (RcNeAt.tuples hl hl' hu hE)
theorem itm_ok {A : Around} {s : Shared} {H : Hd} {f : AV → AV → Option Bool} (hf : EqF A s H f) : EqF A s H (itm f) := fun x y va vb b e ra rb => by
  revert e
  refine two_cases (P := fun r => r = some b → EqAt A s va vb b) (fun a c ea ec e => ?_) fun e => hf x y va vb b e ra rb
  rw [type?_eq ea] at ra; rw [type?_eq ec] at rb
  cases ra; cases rb
  split at e
  · rename_i h; cases e; subst h; exact EqAt.same _
  · cases e
theorem eqN_ok {s : Shared} {H : Hd} : ∀ (n : Nat) {A : Around} {x y : AV} {va vb : Value} {b : Bool}, A.units + n < cLine → eqN n x y = some b → RepO s.heap H va x → RepO s.heap H vb y → EqR A s H x y va vb b
  | 0, A, x, y, va, vb, b, _, h, ra, rb => let ⟨h1, h2, h3⟩ := eqS_ok (A := A) h ra rb; ⟨h1, h2, fun _ _ => h3⟩
  | n + 1, A, x, y, va, vb, b, hu, h, ra, rb => by
    have hf : EqF A.in1 s H (itm (eqN n)) := itm_ok fun x y va vb b e r r' => (eqN_ok n (A := A.in1) (by show A.units + 1 + n < cLine; omega) e (.of r) (.of r')).2.2 r r'
    have hu1 : A.units < cLine := by omega
    revert h
    refine two_cases (P := fun r => r = some b → EqR A s H x y va vb b) (fun a c ea ec h => ?_) (two_cases (P := fun r => r = some b → EqR A s H x y va vb b) (fun a c ea ec h => ?_) fun h => ?_)
    · have ea := lst?_eq ea; have ec := lst?_eq ec
      subst ea; subst ec
      exact eqL_ok hu1 hf (itm_same (eqN_same n)) h ra rb
    · have ea := tup?_eq ea; have ec := tup?_eq ec
      subst ea; subst ec
      exact eqT_ok hu1 hf (itm_same (eqN_same n)) h ra rb
    · obtain ⟨h1, h2, h3⟩ := eqS_ok (A := A) h ra rb
      exact ⟨h1, h2, fun _ _ => h3⟩
noncomputable def eqCmp (op : CmpOp) (x y : AV) : Option Bool := match op with
  | .Eq => eqN 3 x y
  | .NotEq => (eqN 3 x y).map (!·)
  | _ => none
theorem eqCmp_ok {c : Cx} {q : Bool} {k : Nat} {A : Around} {s : Shared} {H : Hd} {op : CmpOp} {x y : AV} {va vb : Value} {r : Bool} (hm : Rm c q (k + 1) A s.heap) (h : eqCmp op x y = some r) (ra : RepO s.heap H va x) (rb : RepO s.heap H vb y) : Tr c q A H (compareOp op va vb) (.ok (.bool r)) s := by
  have hu : A.units + 3 < cLine := by have := hm.units; omega
  cases op <;> simp only [eqCmp, reduceCtorEq] at h
  · exact fun Q E P => (eqN_ok 3 hu h ra rb).1 _ _ _ _ (P _ _ (Kp.refl _ _) rfl)
  · simp only [Option.map_eq_some_iff] at h
    obtain ⟨b, h, rfl⟩ := h
    exact fun Q E P => (eqN_ok 3 hu h ra rb).2.1 _ _ _ _ (P _ _ (Kp.refl _ _) rfl)

/- order -/
theorem ints_len : ∀ {vs : List Value} {ns : List Int}, IntsAre vs ns → vs.length = ns.length
  | _, _, .nil => rfl
  | _, _, .cons _ _ r => by simp [ints_len r]
end Mine
end
section
open PySem PySem.W PyProof.Rows
namespace Mine
open SeqAt
set_option maxRecDepth 100000
end Mine
end
section
open PySem PySem.W PyProof.Rows
namespace Mine
set_option maxRecDepth 100000
theorem lk_str_gi : typeLookup (.type "str") "__getitem__" = pure (some (.builtin "str.__getitem__")) := by rw [typeLookup_type, builtinLookup_eq_fast]; kernel_rfl
section
variable {prog : Program} {w : World} {A : Around} {hp : Heap} {g : Array GenState} {d : Drawn} {tk : Nat} {os : OsState} {l : Addr} {vs : Array Value} {n : Nat} {sl : Array (Option Value)}
end
end Mine
end
section
open PySem PySem.W PyProof.Rows
namespace Mine
set_option maxRecDepth 100000
section
variable {c : Cx} {q : Bool} {k : Nat} {A : Around} {s : Shared} {H : Hd}
theorem rep_tup_is {v : Value} {xs : List AV} (r : Rep (vis s.heap H) v (.tup xs)) : ∃ l vs n sl, v = .ref l ∧ s.heap.get? l = some { cls := .type "tuple", dict := none, data := .seq (List.toArray vs) n, slots := sl } ∧ RepL (vis s.heap H) vs xs ∧ xs.length ≤ 1048576 := by
  simp only [Rep] at r
  obtain ⟨hz, l, vs, n, rfl, ⟨_, ⟨oc, od, odt, os⟩, e, hc, hd, hdi, _⟩, rl⟩ := r
  simp only at hc hd hdi
  subst hc hd hdi
  exact ⟨l, vs, n, os, rfl, e, rl, hz⟩
theorem tups_add {va vb : Value} {xs ys : List AV} (hL : Live H s.heap) (ra : Rep (vis s.heap H) va (.tup xs)) (rb : Rep (vis s.heap H) vb (.tup ys)) (hz : xs.length + ys.length ≤ 1048576) :
    Tr c q A H (binaryOp .Add va vb) (.ok (.tup (xs ++ ys))) s := by
  intro Q E P
  obtain ⟨l, vs, n, sl, rfl, ho, hx, _⟩ := rep_tup_is ra
  obtain ⟨b, ws, n2, sl2, rfl, ho2, hy, _⟩ := rep_tup_is rb
  cases vs with
  | nil =>
    have e : xs = [] := List.eq_nil_of_length_eq_zero (by rw [← hx.length]; rfl)
    subst e
    refine concat_meets ⟨_, ho, rfl⟩ ⟨_, ho2, rfl⟩ noFill_tuple_add seq_tuple_add PySem.F.slot_tuple_add PySem.F.entry_tuple_add (PySem.F.args_tuple_add_2 _ _) (tuple_addW0 l b _ _ n n2 _ _ sl sl2 rfl) ⟨ho, ho2, ?_⟩
    exact P _ _ (Kp.refl _ _) rb
  | cons v vs =>
    cases ws with
    | nil =>
      have e : ys = [] := List.eq_nil_of_length_eq_zero (by rw [← hy.length]; rfl)
      subst e
      rw [List.append_nil] at P
      refine concat_meets ⟨_, ho, rfl⟩ ⟨_, ho2, rfl⟩ noFill_tuple_add seq_tuple_add PySem.F.slot_tuple_add PySem.F.entry_tuple_add (PySem.F.args_tuple_add_2 _ _) (tuple_addW1 l b _ _ n n2 _ _ sl sl2 (by simp) rfl) ⟨ho, ho2, ?_⟩
      exact P _ _ (Kp.refl _ _) ra
    | cons w ws =>
      refine concat_meets ⟨_, ho, rfl⟩ ⟨_, ho2, rfl⟩ noFill_tuple_add seq_tuple_add PySem.F.slot_tuple_add PySem.F.entry_tuple_add (PySem.F.args_tuple_add_2 _ _) (tuple_addW2 l b _ _ n n2 _ _ sl sl2 (by simp) (by simp) (by
        have h1 := hx.length
        have h2 := hy.length
        simp only [List.size_toArray]
        exact line_ok (by omega))) ⟨ho, ho2, ?_⟩
      have e : (v :: vs).toArray ++ (w :: ws).toArray = ((v :: vs) ++ (w :: ws)).toArray := by simp
      rw [e]
      exact P _ _ (Kp.push _) (rep_fresh_tup hL (by simpa using hz) (hx.append hy))
theorem strs_add {x y : Str} {t u : Tok} (hz : x.length + y.length ≤ 1048576) : Tr c q A H (binaryOp .Add (.str x t) (.str y u)) (.ok (.str (x ++ y))) s := fun Q E P =>
  PyProof.Rows.add_str (fun t' tk => P _ _ Kp.toks ⟨_, rfl⟩) (line_ok hz)
theorem bytes_add {x y : Array UInt8} {t u : Tok} (hz : x.size + y.size ≤ 1048576) : Tr c q A H (binaryOp .Add (.bytes x t) (.bytes y u)) (.ok (.bytes (x ++ y))) s := fun Q E P =>
  KBy.add_bytes (by omega) fun t' tk => P _ _ Kp.toks ⟨_, rfl⟩
theorem tup_of_list {l : Addr} {vs : List Value} {xs : List AV} (hL : Live H s.heap) (hl : IsL s.heap l vs) (hz : xs.length ≤ 1048576) (rl : RepL (vis s.heap H) vs xs) : Tr c q A H (PySem.call (.type "tuple") [.ref l]) (.ok (.tup xs)) s := fun Q E P => by
  refine call_tuple_list hl.isList (fun h' hk => ?_) (by rw [List.size_toArray, rl.length]; exact line_ok hz)
  have k1 : Kp A s { s with heap := h' } := Kp.of hk
  exact P _ _ (k1.trans (Kp.push _)) (rep_fresh_tup (s := { s with heap := h' }) (hL.kp k1) hz (rl.kp k1))
theorem bytes_of_list {l : Addr} {vs : List Value} {ns : List Int} (hm : Rm c true k A s.heap) (hl : IsL s.heap l vs) (hi : IntsAre vs ns) (hr : ∀ n ∈ ns, 0 ≤ n ∧ n < 256) (hz : ns.length ≤ 1048576) : Tr c true A H (PySem.call (.type "bytes") [.ref l]) (.ok (.bytes (byteArr ns))) s := fun Q E P =>
  call_bytes_ints hl.isList hi hr (by rw [ints_len hi]; exact line_ok hz) (hm.hand rfl) fun h' t k' hk => P _ _ (Kp.of hk) ⟨_, rfl⟩
noncomputable def strs? : List AV → Option (List Str)
  | [] => some []
  | .str x :: r => (strs? r).map (x :: ·)
  | _ :: _ => none
theorem strs_are {R : Vw} : ∀ {xs : List AV} {vs : List Value} {ns : List Str}, strs? xs = some ns → RepL R vs xs → StrsAre vs ns
  | [], [], ns, h, _ => by simp only [strs?, Option.some.injEq] at h; subst h; exact .nil
  | [], _ :: _, _, _, r => by simp [RepL] at r
  | _ :: _, [], _, _, r => by simp [RepL] at r
  | x :: xs, v :: vs, ns, h, r => by
    simp only [RepL] at r
    cases x <;> simp only [strs?, reduceCtorEq] at h
    rename_i i
    simp only [Option.map_eq_some_iff] at h
    obtain ⟨ms, h1, rfl⟩ := h
    obtain ⟨t, e⟩ := r.1
    subst e
    exact .cons i t (strs_are h1 r.2)
theorem join_ok {l : Addr} {vs : List Value} {ys : List Str} {x : Str} {t : Tok} (hl : IsL s.heap l vs) (hi : StrsAre vs ys) (hx : x.length ≤ 16) (hw : (ys.map (·.length)).sum + ys.length ≤ 1048576) : Tr c q A H (PySem.call (.builtin "str.join") [.str x t, .ref l]) (.ok (.str (Txt.join x ys))) s := fun Q E P =>
  join_listW hl.isList (by simpa using hi) hx hw fun t' k' => P _ _ Kp.toks ⟨_, rfl⟩
noncomputable def idxS (x : Str) (i : Int) : Res := if 0 ≤ i then (if i < 1048576 then (match x.cps[i.toNat]? with | some n => .ok (.str ⟨#[n]⟩) | none => .stuck) else .stuck) else .stuck
theorem idxS_ok {x : Str} {i : Int} {t u : Tok} : Tr c q A H (getItem (.str x t) (.int i u)) (idxS x i) s := fun Q E P => by
  unfold idxS at P
  by_cases h0 : 0 ≤ i
  case neg => rw [if_neg h0] at P; exact P.elim
  rw [if_pos h0] at P
  by_cases h1 : i < 1048576
  case neg => rw [if_neg h1] at P; exact P.elim
  rw [if_pos h1] at P
  cases e : x.cps[i.toNat]? with
  | none => rw [e] at P; exact P.elim
  | some n =>
    rw [e] at P
    have hlt : i.toNat < x.cps.size := by
      rcases Nat.lt_or_ge i.toNat x.cps.size with h | h
      · exact h
      · rw [Array.getElem?_eq_none h] at e; cases e
    refine PyProof.Rows.getItem_str (c := n) ?_ ?_ (P _ _ Kp.toks ⟨_, rfl⟩)
    · have a1 : ¬ i < -(2 ^ 63 : Int) := by omega
      have a2 : ¬ i ≥ (2 ^ 63 : Int) := by omega
      simp only [a1, a2, decide_false, Bool.or_self]
    · have hl : i < (x.length : Int) := by show i < (x.cps.size : Int); omega
      have hn : ¬ i < 0 := by omega
      have : seqIndex? i x.length = some i.toNat := by simp [seqIndex?, hn, h0, hl]
      rw [this]; exact e
theorem truthL_ok {l : Addr} {vs : List Value} {xs : List AV} (hl : IsL s.heap l vs) (hz : xs.length ≤ 1048576) (rl : RepL (vis s.heap H) vs xs) : TrB c A (truthy (.ref l)) (!xs.isEmpty) s := fun Q E P => by
  refine wpAny_truthy_list hl.isList (by rw [List.size_toArray, rl.length]; omega) ?_
  have e : (!vs.toArray.isEmpty) = !xs.isEmpty := by
    have := rl.length
    cases vs with
    | nil => cases xs with
      | nil => rfl
      | cons _ _ => simp at this
    | cons _ _ => cases xs with
      | nil => simp at this
      | cons _ _ => simp
  rw [e]
  exact P _ Kp.toks
end
end Mine
end
section
open PySem PySem.W PyProof.Rows
namespace Mine

/-- built-ins by name -/
inductive BI where
  | len | range | tuple | type | isinstance | chr | bytes | int | bool
deriving DecidableEq, Inhabited
noncomputable def BI.name : BI → String
  | len => "len" | range => "range" | tuple => "tuple" | type => "type" | isinstance => "isinstance" | chr => "chr" | bytes => "bytes"
  | int => "int" | bool => "bool"
/-- methods by name -/
inductive MI where
  | index | count | join | other
deriving DecidableEq, Inhabited
noncomputable def MI.name : MI → String
  | index => "index" | count => "count" | join => "join" | other => "other"

abbrev Store := List (Option MO)
/-- an operand: a value, or the list that a slot holds alone -/
inductive OV where
  | av (x : AV)
  | own (i : Nat)
deriving Inhabited
/-- what an expression comes to, with the things that can turn behind it -/
inductive ER where
  | ok (v : OV) (σ : Store)
  | exc (x : EX) (σ : Store)
  | stuck
deriving Inhabited

/-- methods that turn their thing -/
inductive EMI where
  | append | pop
deriving DecidableEq, Inhabited
noncomputable def EMI.name : EMI → String
  | .append => "append" | .pop => "pop"
/-- methods of a list that a slot holds alone -/
inductive OMI where
  | append | insert | remove
deriving DecidableEq, Inhabited
noncomputable def OMI.name : OMI → String
  | .append => "append" | .insert => "insert" | .remove => "remove"
/-- attributes of a class -/
inductive TA where
  | name_ | lengthHint
deriving DecidableEq, Inhabited
noncomputable def TA.name : TA → String
  | .lengthHint => "__length_hint__" | .name_ => "__name__"
mutual
inductive PE where
  | const (v : AV)
  | name (i : Nat)
  | glob (b : BI)
  | bin (op : Operator) (l r : PE)
  | un (op : UnaryOp) (x : PE)
  | cmp (op : CmpOp) (l r : PE)
  | bop (op : BoolOp) (xs : PEs)
  | ife (t a b : PE)
  | list (xs : PEs)
  | tup (xs : PEs)
  | sub (o i : PE)
  | slice (o a b s : PE)
  | call (f : Nat) (xs : PEs)
  | bcall (f : BI) (xs : PEs)
  | meth (o : PE) (m : MI) (xs : PEs)
  | comp (caps : List Nat) (elt src : PE) (cond : PEs)
  | setc (caps : List Nat) (elt src : PE)
  | dictc (caps : List Nat) (key val src : PE)
  | attr (x : PE) (n : TA)
  | vcall (i : Nat) (xs : PEs)
  | notimpl (x : PE)
inductive PEs where
  | nil
  | cons (e : PE) (es : PEs)
end

noncomputable def RepOL (h : Heap) (H : Hd) : List Value → List AV → Prop
  | [], [] => True
  | v :: vs, x :: xs => RepO h H v x ∧ RepOL h H vs xs
  | _, _ => False
theorem RepOL.kp {A : Around} {H : Hd} {s s' : Shared} (k : Kp A s s') : ∀ {vs : List Value} {xs : List AV}, RepOL s.heap H vs xs → RepOL s'.heap H vs xs
  | [], [], _ => trivial
  | [], _ :: _, r => r.elim
  | _ :: _, [], r => r.elim
  | _ :: _, _ :: _, r => ⟨r.1.kp k, RepOL.kp k r.2⟩

/-- what an iterator over a value hands out -/
structure Itr (c : Cx) (A : Around) (I : Addr) (fp : Addr → Prop) (P : Nat → Value → Prop) (n : Nat) (St : Nat → Heap → Prop) : Prop where
  fld : ∀ i h, St i h → ∃ o fs, h.get? I = some o ∧ o.data = .fields fs ∧ ¬ okC o.cls
  nt : ∀ i h, St i h → ∃ o n, h.get? I = some o ∧ o.cls = .type n ∧ ["enumerate", "zip", "dict_itemiterator", "dict_reverseitemiterator", "odict_iterator", "itertools.zip_longest", "itertools.pairwise"].contains n = false
  frame : ∀ i h h', St i h → (∀ b o, fp b → h.get? b = some o → ((∃ fs, o.data = .fields fs) → h'.get? b = some o) ∧ ∃ sl, h'.get? b = some { o with slots := sl }) → St i h'
  item : ∀ i (s : Shared) (Q : Option Value → Shared → Prop) (E : Value → Shared → Prop), i < n → St i s.heap →
    (∀ v h' tk, P i v → St (i + 1) h' → (∀ b o, b ≠ I → s.heap.get? b = some o → h'.get? b = some o) → (∃ o, h'.get? I = some o) → Q (some v) { s with heap := h', toks := tk }) → wpAny c.M A (pyNext (.ref I)) Q E s
  done : ∀ (s : Shared) (Q : Option Value → Shared → Prop) (E : Value → Shared → Prop), St n s.heap →
    (∀ h' tk, (∀ b o, b ≠ I → s.heap.get? b = some o → h'.get? b = some o) → Q none { s with heap := h', toks := tk }) → wpAny c.M A (pyNext (.ref I)) Q E s
  self : ∀ i (s : Shared) (Q : Value → Shared → Prop) (E : Value → Shared → Prop), St i s.heap → Q (.ref I) s → wpAny c.M A (pyIter (.ref I)) Q E s

/-- the words that are served -/
structure OpsF where
  ld : Bool
  bin : Operator → AV → AV → Res
  inpl : Operator → AV → AV → Res
  un : UnaryOp → AV → Res
  cmp : CmpOp → AV → AV → Option Bool
  truth : AV → Option Bool
  idx : AV → AV → Res
  slice : AV → AV → AV → AV → Res
  bcall : BI → List AV → Res
  mty : MI → AV → Option String
  meth : MI → AV → List AV → Res
  items : AV → Option (List AV)
  is_ : AV → AV → Option Bool
  attr : TA → AV → Res
  fcall : String → List AV → Res
  ometh : OMI → List AV → List AV → Option (List AV)
/-- where may be written -/
noncomputable def Wr (σ : Store) (H : Hd) (lo : Nat) (b : Addr) : Prop := ∃ n mo, lo ≤ n ∧ σ[n]? = some (some mo) ∧ H.m n = some b
/-- a step that turns what may be turned, and makes anew -/
structure Ss (A : Around) (lo : Nat) (σ : Store) (H : Hd) (s : Shared) (σ' : Store) (H' : Hd) (s' : Shared) : Prop where
  rest : ∃ h' tk, s' = { s with heap := h', toks := tk }
  kv : Kv (FrA A) (Wr σ H lo) s.heap s'.heap
  lv : ∀ b o, s.heap.get? b = some o → ∃ o', s'.heap.get? b = some o'
  nf : Nf s.heap s'.heap
  hp : ∀ b, H.p b → H'.p b
  hid : ∀ b, H'.p b → H.p b ∨ s.heap.get? b = none
  mx : ∀ n a, H.m n = some a → H'.m n = some a
  mn : ∀ n a, H'.m n = some a → H.m n = some a ∨ (σ.length ≤ n ∧ s.heap.get? a = none)
  o : H'.o = H.o
  sto : Sto σ' H' s'.heap
  live : Live H' s'.heap
  len : σ.length ≤ σ'.length
  rv : ∀ (n : Nat) mo, n < σ.length → σ'[n]? = some (some mo) → ∃ mo', σ[n]? = some (some mo')
  hm0 : ∀ n a, H.m n = some a → n < σ.length

theorem Ss.of_kp {A : Around} {lo : Nat} {σ : Store} {H : Hd} {s s' : Shared} (k : Kp A s s') (S : Sto σ H s.heap) (L : Live H s.heap) : Ss A lo σ H s σ H s' where
  rest := let ⟨h, t, e, _⟩ := k; ⟨h, t, e⟩
  kv := k.kh.kv
  lv := fun b o e => let ⟨_, q⟩ := (k.kh b o e).2; ⟨_, q⟩
  nf := k.kh.nf
  hp := fun _ z => z
  hid := fun _ z => .inl z
  mx := fun _ _ z => z
  mn := fun _ _ z => .inl z
  o := rfl
  sto := S.kh k.kh
  live := L.kp k
  len := Nat.le_refl _
  rv := fun n mo _ e => ⟨mo, e⟩
  hm0 := S.lt
theorem Ss.vis {A : Around} {lo : Nat} {σ σ' : Store} {H H' : Hd} {s s' : Shared} (x : Ss A lo σ H s σ' H' s') (S : Sto σ H s.heap) : (vis s.heap H).Le (Mine.vis s'.heap H') := ⟨by
  rintro a c d ⟨n, o, e, r⟩
  have hw : ∀ b, Wr σ H lo b → H.p b := fun b ⟨m, mo, _, e1, e2⟩ => S.hid m b mo e1 e2
  obtain ⟨_, o', e', r'⟩ := (x.kv.vis (H := H) hw).r a c d ⟨n, o, e, r⟩
  refine ⟨fun z => ?_, o', e', r'⟩
  rcases x.hid a z with z | z
  · exact n z
  · (rw [e] at z; cases z), x.mx⟩
theorem Ss.trans {A : Around} {lo : Nat} {σ σ₁ σ₂ : Store} {H H₁ H₂ : Hd} {s s₁ s₂ : Shared} (x : Ss A lo σ H s σ₁ H₁ s₁) (y : Ss A lo σ₁ H₁ s₁ σ₂ H₂ s₂) : Ss A lo σ H s σ₂ H₂ s₂ := by
  have dead : ∀ b, s₁.heap.get? b = none → s.heap.get? b = none := fun b z => by
    cases q : s.heap.get? b with
    | none => rfl
    | some o => obtain ⟨o', e'⟩ := x.lv b o q; rw [z] at e'; cases e'
  exact {
    rest := by
      obtain ⟨h, t, rfl⟩ := x.rest
      obtain ⟨h', t', rfl⟩ := y.rest
      exact ⟨h', t', rfl⟩
    kv := fun b o n e => by
      have n1 : ¬ Wr σ₁ H₁ lo b := fun ⟨m, mo, l1, e1, e2⟩ => by
        rcases x.mn m b e2 with e2 | ⟨_, e2⟩
        · have hm := x.sto.lt m b (x.mx m b e2)
          rcases Nat.lt_or_ge m σ.length with hl | hl
          · obtain ⟨mo', e3⟩ := x.rv m mo hl e1
            exact n ⟨m, mo', l1, e3, e2⟩
          · exact n (by
              rcases Classical.em (∃ mo', σ[m]? = some (some mo')) with ⟨mo', e3⟩ | e3
              · exact ⟨m, mo', l1, e3, e2⟩
              · exact absurd e2 (fun e2 => by
                  have := x.hm0 m b e2; omega))
        · rw [e] at e2; cases e2
      obtain ⟨p1, sl, p2⟩ := x.kv b o n e
      obtain ⟨q1, sl', q2⟩ := y.kv b _ n1 p2
      exact ⟨fun f => (y.kv b o n1 (p1 f)).1 f, sl', q2⟩
    lv := fun b o e => let ⟨o', e'⟩ := x.lv b o e; y.lv b o' e'
    nf := x.nf.trans y.nf
    hp := fun b z => y.hp b (x.hp b z)
    hid := fun b z => by
      rcases y.hid b z with z | z
      · exact x.hid b z
      · exact .inr (dead b z)
    mx := fun n a z => y.mx n a (x.mx n a z)
    mn := fun n a z => by
      rcases y.mn n a z with z | ⟨z1, z2⟩
      · exact x.mn n a z
      · exact .inr ⟨Nat.le_trans x.len z1, dead a z2⟩
    o := y.o.trans x.o
    sto := y.sto
    live := y.live
    len := Nat.le_trans x.len y.len
    hm0 := x.hm0
    rv := fun n mo hl e => by
      obtain ⟨mo', e'⟩ := y.rv n mo (Nat.lt_of_lt_of_le hl x.len) e
      exact x.rv n mo' hl e' }

/-- an operand's value -/
noncomputable def RepW (H : Hd) (R : Vw) (w : Value) : OV → Prop
  | .av x => Rep R w x
  | .own i => ∃ a, H.o i = some a ∧ w = .ref a
noncomputable def RepWL (H : Hd) (R : Vw) : List Value → List OV → Prop
  | [], [] => True
  | v :: vs, x :: xs => RepW H R v x ∧ RepWL H R vs xs
  | _, _ => False
theorem RepW.ss {A : Around} {lo : Nat} {σ σ' : Store} {H H' : Hd} {s s' : Shared} (x : Ss A lo σ H s σ' H' s') (S : Sto σ H s.heap) {w : Value} : ∀ {v : OV}, RepW H (vis s.heap H) w v → RepW H' (vis s'.heap H') w v
  | .av _, r => Rep.mono (x.vis S) r
  | .own i, ⟨a, e, q⟩ => ⟨a, by rw [x.o]; exact e, q⟩
theorem RepWL.ss {A : Around} {lo : Nat} {σ σ' : Store} {H H' : Hd} {s s' : Shared} (x : Ss A lo σ H s σ' H' s') (S : Sto σ H s.heap) : ∀ {ws : List Value} {vs : List OV}, RepWL H (vis s.heap H) ws vs → RepWL H' (vis s'.heap H') ws vs
  | [], [], _ => trivial
  | [], _ :: _, r => r.elim
  | _ :: _, [], r => r.elim
  | _ :: _, _ :: _, r => ⟨RepW.ss x S r.1, RepWL.ss x S r.2⟩

noncomputable def PostE (q : Bool) (A : Around) (lo : Nat) (σ : Store) (H : Hd) (r : ER) (s : Shared) (Q E : Value → Shared → Prop) : Prop := match r with
  | .ok v σ' => ∀ w H' s', Ss A lo σ H s σ' H' s' → RepW H' (vis s'.heap H') w v → Q w s'
  | .exc x σ' => q = true ∧ ∀ e H' sr s', Ss A lo σ H s σ' H' sr → Xp A sr s' e x → E e s'
  | .stuck => False
theorem PostE.ss {q : Bool} {A : Around} {lo : Nat} {σ σ₁ : Store} {H H₁ : Hd} {r : ER} {s s₁ : Shared} {Q E : Value → Shared → Prop} (P : PostE q A lo σ H r s Q E) (x : Ss A lo σ H s σ₁ H₁ s₁) : PostE q A lo σ₁ H₁ r s₁ Q E := by
  cases r with
  | ok v σ' => exact fun w H' s' y r => P w H' s' (x.trans y) r
  | exc z σ' => exact ⟨P.1, fun e H' sr s' y X => P.2 e H' sr s' (x.trans y) X⟩
  | stuck => exact P
/-- a tree comes to r -/
noncomputable def Ev (c : Cx) (q : Bool) (A : Around) (lo : Nat) (σ : Store) (H : Hd) (t : Sem Value) (r : ER) (s : Shared) : Prop := ∀ Q E, PostE q A lo σ H r s Q E → wpAny c.M A t Q E s
noncomputable def EvB (c : Cx) (A : Around) (lo : Nat) (σ : Store) (H : Hd) (t : Sem Bool) (r : Option (Bool × Store)) (s : Shared) : Prop := ∀ b σ', r = some (b, σ') → ∀ Q E, (∀ H' s', Ss A lo σ H s σ' H' s' → Q b s') → wpAny c.M A t Q E s
noncomputable def EvL (c : Cx) (A : Around) (lo : Nat) (σ : Store) (H : Hd) (t : Sem (List Value)) (r : Option (List OV × Store)) (s : Shared) : Prop := ∀ xs σ', r = some (xs, σ') → ∀ Q E, (∀ vs H' s', Ss A lo σ H s σ' H' s' → RepWL H' (vis s'.heap H') vs xs → Q vs s') → wpAny c.M A t Q E s
theorem Ev.stuck {c : Cx} {q : Bool} {A : Around} {lo : Nat} {σ : Store} {H : Hd} {t : Sem Value} {s : Shared} : Ev c q A lo σ H t .stuck s := fun _ _ P => P.elim
noncomputable def ofRes : Res → Store → ER
  | .ok v, σ => .ok (.av v) σ
  | .exc x, σ => .exc x σ
  | .stuck, _ => .stuck
theorem Ev.of_tr {c : Cx} {q : Bool} {A : Around} {lo : Nat} {σ : Store} {H : Hd} {t : Sem Value} {r : Res} {s : Shared} (S : Sto σ H s.heap) (L : Live H s.heap) (X : Tr c q A H t r s) : Ev c q A lo σ H t (ofRes r σ) s := fun Q E P => by
  cases r with
  | ok v => exact X Q E fun w s' k r => P w H s' (.of_kp k S L) r
  | exc x => exact X Q E ⟨P.1, fun e s' Y => P.2 e H s s' (.of_kp (Kp.refl _ _) S L) Y⟩
  | stuck => exact P.elim
/-- nothing that was there is turned -/
theorem Ss.kp {A : Around} {lo : Nat} {σ σ' : Store} {H H' : Hd} {s s' : Shared} (x : Ss A lo σ H s σ' H' s') (hl : σ.length ≤ lo) : Kp A s s' := by
  obtain ⟨h', tk, e⟩ := x.rest
  refine ⟨h', tk, e, ?_⟩
  have := x.kv
  rw [e] at this
  refine this.kh fun b o _ ⟨n, mo, l1, l2, _⟩ => ?_
  rw [List.getElem?_eq_none (by omega)] at l2; cases l2
theorem Ev.pure {c : Cx} {q : Bool} {A : Around} {lo : Nat} {σ σ' : Store} {H : Hd} {t : Sem Value} {y : AV} {s : Shared} (X : Ev c q A lo σ H t (.ok (.av y) σ') s) (hl : σ.length ≤ lo) (hs : σ'.length = σ.length) : Tr c q A H t (.ok y) s := fun Q E P => X Q E fun w H' s' x r => by
  refine P w s' (x.kp hl) (Rep.mono (vis_hide x.hp fun n a e => ?_) r)
  rcases x.mn n a e with e | ⟨e1, _⟩
  · exact e
  · have := x.sto.lt n a e; omega
theorem EvB.pure {c : Cx} {A : Around} {lo : Nat} {σ σ' : Store} {H : Hd} {t : Sem Bool} {b : Bool} {s : Shared} (X : EvB c A lo σ H t (some (b, σ')) s) (hl : σ.length ≤ lo) : TrB c A t b s := fun Q E P => X b σ' rfl Q E fun H' s' x => P s' (x.kp hl)

structure OpsOk (c : Cx) (O : OpsF) : Prop where
  ld : O.ld = !c.w.params.followText "set-order"
  bin : ∀ {q k A} {s : Shared} {H op a b va vb}, Rm c q (k + 1) A s.heap → Live H s.heap → RepO s.heap H va a → RepO s.heap H vb b → Tr c q A H (binaryOp op va vb) (O.bin op a b) s
  inpl : ∀ {q k A} {s : Shared} {H op a b va vb}, Rm c q (k + 1) A s.heap → Live H s.heap → RepO s.heap H va a → RepO s.heap H vb b → Tr c q A H (inplaceOp op va vb) (O.inpl op a b) s
  un : ∀ {q k A} {s : Shared} {H op a va}, Rm c q (k + 1) A s.heap → Live H s.heap → RepO s.heap H va a → Tr c q A H (unaryOp op va) (O.un op a) s
  cmp : ∀ {q k A} {s : Shared} {H op a b va vb r}, Rm c q (k + 1) A s.heap → Live H s.heap → RepO s.heap H va a → RepO s.heap H vb b → O.cmp op a b = some r → Tr c q A H (compareOp op va vb) (.ok (.bool r)) s
  truth : ∀ {q k A} {s : Shared} {H a va r}, Rm c q (k + 1) A s.heap → Live H s.heap → RepO s.heap H va a → O.truth a = some r → TrB c A (truthy va) r s
  idx : ∀ {q k A} {s : Shared} {H a b va vb}, Rm c q (k + 1) A s.heap → Live H s.heap → RepO s.heap H va a → RepO s.heap H vb b → Tr c q A H (getItem va vb) (O.idx a b) s
  idxT : ∀ {s : Shared} {H a va b}, RepO s.heap H va a → O.idx a b ≠ .stuck → ∃ T id, s.TypeIs va T ∧ typeLookup (.type T) "__getitem__" = pure (some (.builtin id))
  slice : ∀ {q k A} {s : Shared} {H a x y z va r ux uy uz}, Rm c q (k + 1) A s.heap → Live H s.heap → RepO s.heap H va a → Rep (vis s.heap H) ux x → Rep (vis s.heap H) uy y → Rep (vis s.heap H) uz z →
    s.heap.get? r = some { cls := .type "slice", data := .fields #[ux, uy, uz] } → Tr c q A H (getItem va (.ref r)) (O.slice a x y z) s
  sliceT : ∀ {s : Shared} {H a va x y z}, RepO s.heap H va a → O.slice a x y z ≠ .stuck → ∃ T id, s.TypeIs va T ∧ typeLookup (.type T) "__getitem__" = pure (some (.builtin id))
  bcall : ∀ {q k A} {s : Shared} {H f v xs vs}, q = true → Rm c q (k + 1) A s.heap → c.h0.StaysIn s.heap → Live H s.heap → RepOL s.heap H vs xs → bootBuiltins (f.name : Str) = some v → Tr c q A H (PySem.call v vs) (O.bcall f xs) s
  itemsR : ∀ {a xs}, O.items a = some xs → (∀ n, a ≠ .ptr n) ∧ (∀ k ys, a ≠ .itr k ys) ∧ a ≠ .any
  methT : ∀ {s : Shared} {H m a va T}, RepO s.heap H va a → O.mty m a = some T → PlainAttrs T ∧ Slot T m.name (T ++ "." ++ m.name) ∧ typeOf (.builtin (T ++ "." ++ m.name)) = pure (.type "method_descriptor") ∧ s.TypeIs va T ∧ ∀ b, va = .ref b → ∃ ob, s.heap.get? b = some ob ∧ ob.dict = none
  meth : ∀ {q k A} {s : Shared} {H m a va xs vs T}, q = true → Rm c q (k + 1) A s.heap → Live H s.heap → RepO s.heap H va a → RepOL s.heap H vs xs → O.mty m a = some T → Tr c q A H (PySem.call (.builtin (T ++ "." ++ m.name)) (va :: vs)) (O.meth m a xs) s
  ometh : ∀ {q k A} {s : Shared} {H m D vs xs ws args xs'}, q = true → Rm c q (k + 1) A s.heap → Live H s.heap → IsL s.heap D vs → xs.length ≤ 1048576 → RepL (vis s.heap H) vs xs → RepL (vis s.heap H) ws args → O.ometh m xs args = some xs' → ∀ (Q E : Value → Shared → Prop),
    (∀ h' vs' tk, IsL h' D vs' → xs'.length ≤ 1048576 → RepL (vis s.heap H) vs' xs' → Heap.SameBut D s.heap h' → Q .none { s with heap := h', toks := tk }) → wpAny c.M A (PySem.call (.builtin ("list." ++ m.name)) (.ref D :: ws)) Q E s
  attr : ∀ {q k A} {s : Shared} {H n a va}, q = true → Rm c q (k + 1) A s.heap → Live H s.heap → RepO s.heap H va a → Tr c q A H (getAttr va (n.name : Str) true) (O.attr n a) s
  fcall : ∀ {q k A} {s : Shared} {H id xs vs}, q = true → Rm c q (k + 1) A s.heap → Live H s.heap → RepOL s.heap H vs xs → Tr c q A H (PySem.call (.builtin id) vs) (O.fcall id xs) s
  is_ : ∀ {q k A} {s : Shared} {H op a b va vb r σ}, Rm c q (k + 1) A s.heap → Sto σ H s.heap → Rep (vis s.heap H) va a → Rep (vis s.heap H) vb b → O.is_ a b = some r → (op = .Is ∨ op = .IsNot) → Tr c q A H (compareOp op va vb) (.ok (.bool (if op = .Is then r else !r))) s
  items : ∀ {q k A} {s : Shared} {H a va xs}, Rm c q (k + 1) A s.heap → q = true → Live H s.heap → RepO s.heap H va a → O.items a = some xs → ∀ Q E,
    (∀ I fp P St h' tk, (∀ b o, s.heap.get? b = some o → h'.get? b = some o) → s.heap.get? I = none → fp I → (∀ b, fp b → ∃ o, h'.get? b = some o) → (∀ b, fp b → b = I ∨ va = .ref b) → xs.length ≤ 1048576 → Itr c A I fp P xs.length St → St 0 h' →
      (∀ (i : Nat) v x, P i v → xs[i]? = some x → Rep (vis s.heap H) v x) → Q (.ref I) { s with heap := h', toks := tk }) → wpAny c.M A (pyIter va) Q E s



noncomputable def FnObj (c : Cx) (f : Str) : Prop := ∃ a o fd, c.mg f = some (.ref a) ∧ c.h0.get? a = some o ∧ o.data = .func fd
/-- a def's contract -/
noncomputable def Calls (c : Cx) (k : Nat) (f : Str) (σ : Store) (lo : Nat) (args : List AV) (r : ER) : Prop :=
  ∀ A s H vs a, Rm c true k A s.heap → c.h0.StaysIn s.heap → Live H s.heap → Sto σ H s.heap → (∀ n a, H.m n = some a → c.h0.get? a = none) → RepL (vis s.heap H) vs args → c.mg f = some (.ref a) → Ev c true A lo σ H (call (.ref a) vs) r s
/-- the defs that may be called -/
abbrev Cal := Store → Nat → Nat → List AV → ER
structure CallsOk (c : Cx) (k : Nat) (call : Cal) (fname : Nat → Str) : Prop where
  ok : ∀ σ lo f args, call σ lo f args ≠ .stuck → Calls c k (fname f) σ lo args (call σ lo f args) ∧ FnObj c (fname f)

structure PR where
  v : ER
  t : Option (Bool × Store)

noncomputable def derefS (ρ : List (Option Ent)) (σ : Store) : OV → AV
  | .own i => match ρ[i]? with
    | some (some (.own xs)) => .lst xs
    | _ => .any
  | .av x => deref σ x
noncomputable def ER.bind : ER → (OV → Store → ER) → ER
  | .ok v σ, f => f v σ
  | .exc x σ, _ => .exc x σ
  | .stuck, _ => .stuck
noncomputable def ER.bindA : ER → (AV → Store → ER) → ER
  | .ok (.av v) σ, f => f v σ
  | .ok (.own _) _, _ => .stuck
  | .exc x σ, _ => .exc x σ
  | .stuck, _ => .stuck
noncomputable def ofB : Option Bool → Store → ER
  | some b, σ => .ok (.av (.bool b)) σ
  | none, _ => .stuck
noncomputable def ER.truth (tr : AV → Option Bool) (ρ : List (Option Ent)) : ER → Option (Bool × Store)
  | .ok v σ => (tr (derefS ρ σ v)).map fun b => (b, σ)
  | _ => none
noncomputable def PR.of (tr : AV → Option Bool) (ρ : List (Option Ent)) (r : ER) : PR := ⟨r, r.truth tr ρ⟩
noncomputable def plains : List OV → Option (List AV)
  | [] => some []
  | .av x :: r => (plains r).map (x :: ·)
  | .own _ :: _ => none
noncomputable def onL (x : Option (List OV × Store)) (f : List OV → Store → ER) : ER := match x with
  | some (l, σ) => f l σ
  | none => .stuck
noncomputable def onP (x : Option (List OV × Store)) (f : List AV → Store → ER) : ER := onL x fun l σ => match plains l with
  | some l => f l σ
  | none => .stuck
noncomputable def mapF (f : AV → Option (Option AV)) : List AV → Option (List AV)
  | [] => some []
  | x :: r => match f x with
    | some (some y) => (mapF f r).map (y :: ·)
    | some none => mapF f r
    | none => none
noncomputable def mask (caps : List Nat) (ρ : List (Option Ent)) : List (Option Ent) := ρ.mapIdx fun i e => if caps.contains i then e else none
noncomputable def elemF (n : Nat) : ER → Option AV
  | .ok (.av v) σ => if σ.length = n then some v else none
  | _ => none
noncomputable def compF (n : Nat) (t : Option (Bool × Store)) (e : ER) : Option (Option AV) := match t with
  | some (true, _) => (elemF n e).map some
  | some (false, _) => some none
  | none => none

/-- small ints alone -/
noncomputable def smallF : Option (Option AV) → Option (Option AV)
  | some (some (.int i)) => if 0 ≤ i ∧ i < 5 then some (some (.int i)) else none
  | _ => none
/-- an int key with any value -/
noncomputable def pairF : Option (Option AV) → Option (Option AV) → Option (Option AV)
  | some (some (.int i)), some (some _) => some (some (.int i))
  | _, _ => none
noncomputable def intsOf (ys : List AV) : List Int := ys.filterMap fun y => match y with | .int i => some i | _ => none
/-- the state within a comprehension -/
noncomputable def Fs.inner (st : Fs) (caps : List Nat) (x : AV) : Fs := ⟨mask caps st.ρ ++ [some (.val x)], st.σ, st.σ.length, st.n0⟩
abbrev Fs.at (st : Fs) (σ : Store) : Fs := { st with σ := σ }
noncomputable def slotV (st : Fs) (i : Nat) : ER := match st.ρ[i]? with
  | some (some (.val v)) => .ok (.av v) st.σ
  | some (some (.own _)) => .ok (.own i) st.σ
  | _ => .stuck
noncomputable def onItems (x : Option (List AV)) (f : List AV → ER) : ER := match x with
  | some l => f l
  | none => .stuck
section
variable (O : OpsF) (cal : Cal) (q : Bool)
mutual
noncomputable def pe (st : Fs) : PE → PR
  | .const v => .of O.truth st.ρ (.ok (.av v) st.σ)
  | .name i => .of O.truth st.ρ (slotV st i)
  | .glob b => .of O.truth st.ρ (.ok (.av (.type b.name)) st.σ)
  | .bin op l r => .of O.truth st.ρ ((pe st l).v.bind fun a σ₁ => (pe (st.at σ₁) r).v.bind fun b σ₂ => ofRes (O.bin op (derefS st.ρ σ₂ a) (derefS st.ρ σ₂ b)) σ₂)
  | .un op x => ⟨(pe st x).v.bind fun a σ₁ => ofRes (O.un op (derefS st.ρ σ₁ a)) σ₁, match op with | .Not => (pe st x).t.map fun p => (!p.1, p.2) | _ => ((pe st x).v.bind fun a σ₁ => ofRes (O.un op (derefS st.ρ σ₁ a)) σ₁).truth O.truth st.ρ⟩
  | .cmp op l r => .of O.truth st.ρ (match op with
    | .Is => (pe st l).v.bindA fun a σ₁ => (pe (st.at σ₁) r).v.bindA fun b σ₂ => ofB (O.is_ a b) σ₂
    | .IsNot => (pe st l).v.bindA fun a σ₁ => (pe (st.at σ₁) r).v.bindA fun b σ₂ => ofB ((O.is_ a b).map (!·)) σ₂
    | op => (pe st l).v.bind fun a σ₁ => (pe (st.at σ₁) r).v.bind fun b σ₂ => ofB (O.cmp op (derefS st.ρ σ₂ a) (derefS st.ρ σ₂ b)) σ₂)
  | .bop op xs => ⟨pbop st op xs, pall st op xs⟩
  | .ife t a b => match (pe st t).t with
    | some (true, σ₁) => pe (st.at σ₁) a
    | some (false, σ₁) => pe (st.at σ₁) b
    | none => ⟨.stuck, none⟩
  | .list xs => .of O.truth st.ρ (onP (pes st xs) fun l σ₁ => if l.length ≤ 100 then .ok (.av (.lst l)) σ₁ else .stuck)
  | .tup xs => .of O.truth st.ρ (onP (pes st xs) fun l σ₁ => if l.length ≤ 100 then .ok (.av (.tup l)) σ₁ else .stuck)
  | .sub o i => .of O.truth st.ρ ((pe st o).v.bind fun a σ₁ => (pe (st.at σ₁) i).v.bind fun b σ₂ => ofRes (O.idx (derefS st.ρ σ₂ a) (derefS st.ρ σ₂ b)) σ₂)
  | .slice o a b s => .of O.truth st.ρ ((pe st o).v.bind fun v σ₁ => (pe (st.at σ₁) a).v.bindA fun x σ₂ => (pe (st.at σ₂) b).v.bindA fun y σ₃ => (pe (st.at σ₃) s).v.bindA fun z σ₄ => ofRes (O.slice (derefS st.ρ σ₄ v) x y z) σ₄)
  | .call f xs => .of O.truth st.ρ (match q with | true => onP (pes st xs) fun l σ₁ => cal σ₁ st.lo f l | false => .stuck)
  | .bcall f xs => .of O.truth st.ρ (match q with | true => onL (pes st xs) fun l σ₁ => ofRes (O.bcall f (l.map (derefS st.ρ σ₁))) σ₁ | false => .stuck)
  | .meth o m xs => .of O.truth st.ρ (match q with
    | true => (pe st o).v.bind fun a σ₁ => onL (pes (st.at σ₁) xs) fun l σ₂ => (match O.mty m (derefS st.ρ σ₁ a), O.mty m (derefS st.ρ σ₂ a) with
      | some T, some T' => if T = T' then ofRes (O.meth m (derefS st.ρ σ₂ a) (l.map (derefS st.ρ σ₂))) σ₂ else .stuck
      | _, _ => .stuck)
    | false => .stuck)
  | .comp caps elt src conds => .of O.truth st.ρ (match q with
    | true => (pe st src).v.bind fun a σ₁ => onItems (O.items (derefS st.ρ σ₁ a)) fun l =>
      onItems (mapF (fun x => compF σ₁.length (pall ((st.at σ₁).inner caps x) .And conds) (pe ((st.at σ₁).inner caps x) elt).v) l) fun ys => .ok (.av (.lst ys)) σ₁
    | false => .stuck)
  | .setc caps elt src => .of O.truth st.ρ (match q with
    | true => (pe st src).v.bind fun a σ₁ => onItems (O.items (derefS st.ρ σ₁ a)) fun l =>
      onItems (mapF (fun x => smallF (compF σ₁.length (some (true, σ₁)) (pe ((st.at σ₁).inner caps x) elt).v)) l) fun ys => .ok (.av (.sm O.ld (distI (intsOf ys)).length)) σ₁
    | false => .stuck)
  | .dictc caps key val src => .of O.truth st.ρ (match q with
    | true => (pe st src).v.bind fun a σ₁ => onItems (O.items (derefS st.ρ σ₁ a)) fun l =>
      onItems (mapF (fun x => pairF (compF σ₁.length (some (true, σ₁)) (pe ((st.at σ₁).inner caps x) key).v) (compF σ₁.length (some (true, σ₁)) (pe ((st.at σ₁).inner caps x) val).v)) l) fun ys => .ok (.av (.dict (distI (intsOf ys)).length)) σ₁
    | false => .stuck)
  | .attr x n => .of O.truth st.ρ (match q with | true => (pe st x).v.bind fun a σ₁ => ofRes (O.attr n (derefS st.ρ σ₁ a)) σ₁ | false => .stuck)
  | .vcall i xs => .of O.truth st.ρ (match q, slotV st i with
    | true, .ok (.av (.fn id)) _ => onL (pes st xs) fun l σ₁ => ofRes (O.fcall id (l.map (derefS st.ρ σ₁))) σ₁
    | _, _ => .stuck)
  | .notimpl x => .of O.truth st.ρ ((pe st x).v.bindA fun a σ₁ => match a with | .int _ => .ok (.av (.bool false)) σ₁ | _ => .stuck)
noncomputable def pes (st : Fs) : PEs → Option (List OV × Store)
  | .nil => some ([], st.σ)
  | .cons e es => match (pe st e).v with
    | .ok v σ₁ => (match pes (st.at σ₁) es with
      | some (l, σ₂) => some (v :: l, σ₂)
      | none => none)
    | _ => none
noncomputable def pall (st : Fs) (op : BoolOp) : PEs → Option (Bool × Store)
  | .nil => some (op == .And, st.σ)
  | .cons e es => match op, (pe st e).t with
    | .And, some (false, σ₁) => some (false, σ₁)
    | .Or, some (true, σ₁) => some (true, σ₁)
    | .And, some (true, σ₁) => pall (st.at σ₁) .And es
    | .Or, some (false, σ₁) => pall (st.at σ₁) .Or es
    | _, none => none
noncomputable def pbop (st : Fs) (op : BoolOp) : PEs → ER
  | .nil => .stuck
  | .cons e .nil => (pe st e).v
  | .cons e (.cons e' es) => (pe st e).v.bind fun v σ₁ => match op, O.truth (derefS st.ρ σ₁ v) with
    | .And, some false => .ok v σ₁
    | .Or, some true => .ok v σ₁
    | .And, some true => pbop (st.at σ₁) .And (.cons e' es)
    | .Or, some false => pbop (st.at σ₁) .Or (.cons e' es)
    | _, none => .stuck
end
end
/- equations -/
section
variable {O : OpsF} {cal : Cal} {q : Bool} {st : Fs}
theorem qe_const {v} : pe O cal q st (.const v) = .of O.truth st.ρ (.ok (.av v) st.σ) := rfl
theorem qe_name {i} : pe O cal q st (.name i) = .of O.truth st.ρ (slotV st i) := rfl
theorem qe_glob {b} : pe O cal q st (.glob b) = .of O.truth st.ρ (.ok (.av (.type b.name)) st.σ) := rfl
theorem qe_bin {op l r} : pe O cal q st (.bin op l r) = .of O.truth st.ρ ((pe O cal q st l).v.bind fun a σ₁ => (pe O cal q (st.at σ₁) r).v.bind fun b σ₂ => ofRes (O.bin op (derefS st.ρ σ₂ a) (derefS st.ρ σ₂ b)) σ₂) := rfl
theorem qe_un {op x} : pe O cal q st (.un op x) = ⟨(pe O cal q st x).v.bind fun a σ₁ => ofRes (O.un op (derefS st.ρ σ₁ a)) σ₁, match op with | .Not => (pe O cal q st x).t.map fun p => (!p.1, p.2) | _ => ((pe O cal q st x).v.bind fun a σ₁ => ofRes (O.un op (derefS st.ρ σ₁ a)) σ₁).truth O.truth st.ρ⟩ := rfl
theorem qe_cmp {op l r} : pe O cal q st (.cmp op l r) = .of O.truth st.ρ (match op with
    | .Is => (pe O cal q st l).v.bindA fun a σ₁ => (pe O cal q (st.at σ₁) r).v.bindA fun b σ₂ => ofB (O.is_ a b) σ₂
    | .IsNot => (pe O cal q st l).v.bindA fun a σ₁ => (pe O cal q (st.at σ₁) r).v.bindA fun b σ₂ => ofB ((O.is_ a b).map (!·)) σ₂
    | op => (pe O cal q st l).v.bind fun a σ₁ => (pe O cal q (st.at σ₁) r).v.bind fun b σ₂ => ofB (O.cmp op (derefS st.ρ σ₂ a) (derefS st.ρ σ₂ b)) σ₂) := rfl
theorem qe_bop {op xs} : pe O cal q st (.bop op xs) = ⟨pbop O cal q st op xs, pall O cal q st op xs⟩ := rfl
theorem qe_ife {t a b} : pe O cal q st (.ife t a b) = match (pe O cal q st t).t with
    | some (true, σ₁) => pe O cal q (st.at σ₁) a
    | some (false, σ₁) => pe O cal q (st.at σ₁) b
    | none => ⟨.stuck, none⟩ := rfl
theorem qe_list {xs} : pe O cal q st (.list xs) = .of O.truth st.ρ (onP (pes O cal q st xs) fun l σ₁ => if l.length ≤ 100 then .ok (.av (.lst l)) σ₁ else .stuck) := rfl
theorem qe_tup {xs} : pe O cal q st (.tup xs) = .of O.truth st.ρ (onP (pes O cal q st xs) fun l σ₁ => if l.length ≤ 100 then .ok (.av (.tup l)) σ₁ else .stuck) := rfl
theorem qe_sub {o i} : pe O cal q st (.sub o i) = .of O.truth st.ρ ((pe O cal q st o).v.bind fun a σ₁ => (pe O cal q (st.at σ₁) i).v.bind fun b σ₂ => ofRes (O.idx (derefS st.ρ σ₂ a) (derefS st.ρ σ₂ b)) σ₂) := rfl
theorem qe_slice {o a b s} : pe O cal q st (.slice o a b s) = .of O.truth st.ρ ((pe O cal q st o).v.bind fun v σ₁ => (pe O cal q (st.at σ₁) a).v.bindA fun x σ₂ => (pe O cal q (st.at σ₂) b).v.bindA fun y σ₃ => (pe O cal q (st.at σ₃) s).v.bindA fun z σ₄ => ofRes (O.slice (derefS st.ρ σ₄ v) x y z) σ₄) := rfl
theorem qe_call {f xs} : pe O cal q st (.call f xs) = .of O.truth st.ρ (match q with | true => onP (pes O cal q st xs) fun l σ₁ => cal σ₁ st.lo f l | false => .stuck) := rfl
theorem qe_bcall {f xs} : pe O cal q st (.bcall f xs) = .of O.truth st.ρ (match q with | true => onL (pes O cal q st xs) fun l σ₁ => ofRes (O.bcall f (l.map (derefS st.ρ σ₁))) σ₁ | false => .stuck) := rfl
theorem qe_meth {o m xs} : pe O cal q st (.meth o m xs) = .of O.truth st.ρ (match q with
    | true => (pe O cal q st o).v.bind fun a σ₁ => onL (pes O cal q (st.at σ₁) xs) fun l σ₂ => (match O.mty m (derefS st.ρ σ₁ a), O.mty m (derefS st.ρ σ₂ a) with
      | some T, some T' => if T = T' then ofRes (O.meth m (derefS st.ρ σ₂ a) (l.map (derefS st.ρ σ₂))) σ₂ else .stuck
      | _, _ => .stuck)
    | false => .stuck) := rfl
theorem qe_comp {caps elt src conds} : pe O cal q st (.comp caps elt src conds) = .of O.truth st.ρ (match q with
    | true => (pe O cal q st src).v.bind fun a σ₁ => onItems (O.items (derefS st.ρ σ₁ a)) fun l =>
      onItems (mapF (fun x => compF σ₁.length (pall O cal q ((st.at σ₁).inner caps x) .And conds) (pe O cal q ((st.at σ₁).inner caps x) elt).v) l) fun ys => .ok (.av (.lst ys)) σ₁
    | false => .stuck) := rfl
theorem qe_setc {caps elt src} : pe O cal q st (.setc caps elt src) = .of O.truth st.ρ (match q with
    | true => (pe O cal q st src).v.bind fun a σ₁ => onItems (O.items (derefS st.ρ σ₁ a)) fun l =>
      onItems (mapF (fun x => smallF (compF σ₁.length (some (true, σ₁)) (pe O cal q ((st.at σ₁).inner caps x) elt).v)) l) fun ys => .ok (.av (.sm O.ld (distI (intsOf ys)).length)) σ₁
    | false => .stuck) := rfl
theorem qe_dictc {caps key val src} : pe O cal q st (.dictc caps key val src) = .of O.truth st.ρ (match q with
    | true => (pe O cal q st src).v.bind fun a σ₁ => onItems (O.items (derefS st.ρ σ₁ a)) fun l =>
      onItems (mapF (fun x => pairF (compF σ₁.length (some (true, σ₁)) (pe O cal q ((st.at σ₁).inner caps x) key).v) (compF σ₁.length (some (true, σ₁)) (pe O cal q ((st.at σ₁).inner caps x) val).v)) l) fun ys => .ok (.av (.dict (distI (intsOf ys)).length)) σ₁
    | false => .stuck) := rfl
theorem qe_attr {x n} : pe O cal q st (.attr x n) = .of O.truth st.ρ (match q with | true => (pe O cal q st x).v.bind fun a σ₁ => ofRes (O.attr n (derefS st.ρ σ₁ a)) σ₁ | false => .stuck) := rfl
theorem qe_vcall {i xs} : pe O cal q st (.vcall i xs) = .of O.truth st.ρ (match q, slotV st i with
    | true, .ok (.av (.fn id)) _ => onL (pes O cal q st xs) fun l σ₁ => ofRes (O.fcall id (l.map (derefS st.ρ σ₁))) σ₁
    | _, _ => .stuck) := rfl
theorem qe_notimpl {x} : pe O cal q st (.notimpl x) = .of O.truth st.ρ ((pe O cal q st x).v.bindA fun a σ₁ => match a with | .int _ => .ok (.av (.bool false)) σ₁ | _ => .stuck) := rfl
theorem qes_nil : pes O cal q st .nil = some ([], st.σ) := rfl
theorem qes_cons {e es} : pes O cal q st (.cons e es) = match (pe O cal q st e).v with
    | .ok v σ₁ => (match pes O cal q (st.at σ₁) es with
      | some (l, σ₂) => some (v :: l, σ₂)
      | none => none)
    | _ => none := rfl
end
/- equations end -/
end Mine
end
section
open PySem PySem.W PyProof.Rows
namespace Mine

theorem closure_ok {env : Env} : ∀ (names : List (Str × NameKind)) (acc : List (Str × Addr)), (∀ y, (y, NameKind.free) ∈ names → (env.cells.lookup y).isSome = true) →
    ∃ cl, (forIn names acc fun (p : Str × NameKind) (cs : List (Str × Addr)) => (if (p.2 == NameKind.free) = true then do let a ← cellOf env p.1; pure (ForInStep.yield ((p.1, a) :: cs)) else pure (ForInStep.yield cs) : Sem (ForInStep (List (Str × Addr))))) = pure cl ∧
      (∀ y cc, cl.lookup y = some cc → env.cells.lookup y = some cc ∨ acc.lookup y = some cc) ∧ (∀ y, (y, NameKind.free) ∈ names ∨ (∃ cc, acc.lookup y = some cc ∧ env.cells.lookup y = some cc) → cl.lookup y = env.cells.lookup y)
  | [], acc, _ => ⟨acc, by rw [List.forIn_nil], fun _ _ e => .inr e, fun y h => by
      rcases h with h | ⟨cc, a, b⟩
      · cases h
      · rw [a, b]⟩
  | (n, kd) :: r, acc, h => by
    rw [List.forIn_cons]
    by_cases hk : (kd == NameKind.free) = true
    · have hkf : kd = .free := by simpa using hk
      subst hkf
      obtain ⟨a, ha⟩ := Option.isSome_iff_exists.mp (h n (List.mem_cons_self ..))
      obtain ⟨cl, e, p1, p2⟩ := closure_ok r ((n, a) :: acc) fun y hy => h y (List.mem_cons_of_mem _ hy)
      refine ⟨cl, ?_, fun y cc q => ?_, fun y hy => ?_⟩
      · simp only [beq_self_eq_true, if_true]
        have : cellOf env n = pure a := by unfold cellOf; rw [ha]
        rw [this]
        simpa using e
      · rcases p1 y cc q with q | q
        · exact .inl q
        · rw [List.lookup_cons] at q
          cases hb : y == n with
          | true => rw [hb] at q; cases q; rw [beq_iff_eq.mp hb]; exact .inl ha
          | false => rw [hb] at q; exact .inr q
      · refine p2 y ?_
        by_cases hyn : y = n
        · subst hyn; exact .inr ⟨a, by simp, ha⟩
        · rcases hy with hy | ⟨cc, q1, q2⟩
          · rcases List.mem_cons.mp hy with e' | hy
            · cases e'; exact absurd rfl hyn
            · exact .inl hy
          · refine .inr ⟨cc, ?_, q2⟩
            rw [List.lookup_cons]
            have : (y == n) = false := by simpa using hyn
            rw [this]; exact q1
    · obtain ⟨cl, e, p1, p2⟩ := closure_ok r acc fun y hy => h y (List.mem_cons_of_mem _ hy)
      refine ⟨cl, ?_, p1, fun y hy => p2 y ?_⟩
      · rw [if_neg hk]; simpa using e
      · rcases hy with hy | hy
        · rcases List.mem_cons.mp hy with e' | hy
          · cases e'; exact absurd rfl hk
          · exact .inl hy
        · exact .inr hy
theorem closureFor_ok {env : Env} {scope : Scope} (h : ∀ y, (y, NameKind.free) ∈ scope.names → (env.cells.lookup y).isSome = true) :
    ∃ cl, closureFor scope env = pure cl ∧ (∀ y cc, cl.lookup y = some cc → env.cells.lookup y = some cc) ∧ (∀ y, (y, NameKind.free) ∈ scope.names → cl.lookup y = env.cells.lookup y) := by
  obtain ⟨cl, e, p1, p2⟩ := closure_ok scope.names [] h
  refine ⟨cl, ?_, fun y cc q => (p1 y cc q).elim id fun q => by simp at q, fun y hy => p2 y (.inl hy)⟩
  unfold closureFor
  simp only [bind_pure_comp] at e ⊢
  first
    | (rw [← e]; done)
    | (simpa using e)

/-- the tests of a comprehension -/
abbrev testsOf (ifs : List Expr) (env : Env) : Sem Bool := forIn ifs true fun c r => if r = true then do let ok ← isTrue c env (eval c env); pure (ForInStep.yield ok) else pure (ForInStep.yield r)

end Mine
end
section
open PySem PySem.W PyProof.Rows
namespace Mine

theorem lookup_relabel_free {env : Env} (hk : env.scope.kind = .function) : ∀ {names : List (Str × NameKind)} {x : Str}, names.lookup x = some .free → env.kindOf x = some .cell →
    (names.map fun (n, k) => if (k == NameKind.free && env.scope.kind == .function && env.kindOf n == some .cell) then (n, NameKind.cell) else (n, k)).lookup x = some .cell
  | [], _, h, _ => by simp at h
  | (n, k) :: r, x, h, hc => by
    have ih := @lookup_relabel_free env hk r x
    show List.lookup x ((if (k == NameKind.free && env.scope.kind == .function && env.kindOf n == some .cell) = true then (n, NameKind.cell) else (n, k)) :: _) = _
    cases hx : x == n with
    | true =>
      simp only [List.lookup_cons, hx] at h
      cases h
      have e : x = n := beq_iff_eq.mp hx
      subst e
      have : (NameKind.free == NameKind.free && env.scope.kind == .function && env.kindOf x == some .cell) = true := by rw [hk, hc]; decide
      rw [if_pos this]
      simp [List.lookup_cons]
    | false =>
      simp only [List.lookup_cons, hx] at h
      by_cases hcc : (k == NameKind.free && env.scope.kind == .function && env.kindOf n == some .cell) = true
      · rw [if_pos hcc]; simp only [List.lookup_cons, hx]; exact ih h hc
      · rw [if_neg hcc]; simp only [List.lookup_cons, hx]; exact ih h hc
theorem lookup_relabel_cell {env : Env} : ∀ {names : List (Str × NameKind)} {x : Str}, (∀ y ∈ names, y.2 ≠ .cell) →
    (names.map fun (n, k) => if (k == NameKind.free && env.scope.kind == .function && env.kindOf n == some .cell) then (n, NameKind.cell) else (n, k)).lookup x = some .cell → (x, NameKind.free) ∈ names ∧ env.kindOf x = some .cell
  | [], _, _, h => by simp at h
  | (n, k) :: r, x, hno, h => by
    have ih := @lookup_relabel_cell env r x fun y hy => hno y (List.mem_cons_of_mem _ hy)
    have h : List.lookup x ((if (k == NameKind.free && env.scope.kind == .function && env.kindOf n == some .cell) = true then (n, NameKind.cell) else (n, k)) :: (r.map fun (n, k) => if (k == NameKind.free && env.scope.kind == .function && env.kindOf n == some .cell) then (n, NameKind.cell) else (n, k))) = some .cell := h
    cases hx : x == n with
    | true =>
      have e : x = n := beq_iff_eq.mp hx
      subst e
      by_cases hcc : (k == NameKind.free && env.scope.kind == .function && env.kindOf x == some .cell) = true
      · simp only [Bool.and_eq_true, beq_iff_eq] at hcc
        obtain ⟨⟨h1, _⟩, h3⟩ := hcc
        subst h1
        exact ⟨List.mem_cons_self .., h3⟩
      · rw [if_neg hcc] at h
        simp only [List.lookup_cons, hx] at h
        cases h
        exact absurd rfl (hno (x, NameKind.cell) (List.mem_cons_self ..))
    | false =>
      have : List.lookup x (r.map fun (n, k) => if (k == NameKind.free && env.scope.kind == .function && env.kindOf n == some .cell) then (n, NameKind.cell) else (n, k)) = some .cell := by
        by_cases hcc : (k == NameKind.free && env.scope.kind == .function && env.kindOf n == some .cell) = true
        · rw [if_pos hcc] at h; simpa only [List.lookup_cons, hx] using h
        · rw [if_neg hcc] at h; simpa only [List.lookup_cons, hx] using h
      exact ⟨List.mem_cons_of_mem _ (ih this).1, (ih this).2⟩

theorem vis_new {Fr : Addr → Prop} {H H₃ : Hd} {h h₂ : Heap} (k : Kh Fr h h₂) (hN : ∀ b, H₃.p b → H.p b ∨ h.get? b = none) (hM : ∀ n a, H.m n = some a → H₃.m n = some a) : (vis h H).Le (vis h₂ H₃) := ⟨by
  rintro a c d ⟨n, o, e, r⟩
  obtain ⟨_, o', e', r'⟩ := (k.vis (H := H)).r a c d ⟨n, o, e, r⟩
  refine ⟨fun z => ?_, o', e', r'⟩
  rcases hN a z with z | z
  · exact n z
  · (rw [e] at z; cases z), hM⟩
theorem Sto.new {Fr : Addr → Prop} {σ : Store} {H H₃ : Hd} {h h₂ : Heap} (S : Sto σ H h) (k : Kh Fr h h₂) (hH : ∀ b, H.p b → H₃.p b) (hN : ∀ b, H₃.p b → H.p b ∨ h.get? b = none) (hM : H₃.m = H.m) : Sto σ H₃ h₂ where
  at' := fun n mo e => let ⟨a, q, r⟩ := S.at' n mo e; ⟨a, by rw [hM]; exact q, r.kv (k.kv (W := fun _ => False)) id (vis_new k hN fun n a e => by rw [hM]; exact e)⟩
  inj := fun n n' a e e' => S.inj n n' a (by rw [← hM]; exact e) (by rw [← hM]; exact e')
  lt := fun n a e => S.lt n a (by rw [← hM]; exact e)
  hid := fun n a mo q e => hH a (S.hid n a mo q (by rw [← hM]; exact e))
  al := fun n a e => let ⟨_, q⟩ := S.al n a (by rw [← hM]; exact e); let ⟨_, q'⟩ := (k a _ q).2; ⟨_, q'⟩
  tot := fun n a e => S.tot n a (by rw [← hM]; exact e)

theorem mask_get {caps : List Nat} {ρ : List (Option Ent)} {i : Nat} {t : Ent} (h : (mask caps ρ)[i]? = some (some t)) : i ∈ caps ∧ ρ[i]? = some (some t) := by
  unfold mask at h
  rw [List.getElem?_mapIdx] at h
  cases q : ρ[i]? with
  | none => rw [q] at h; simp at h
  | some e =>
    rw [q] at h
    simp only [Option.map_some, Option.some.injEq] at h
    split at h
    · rename_i hc
      exact ⟨by simpa using hc, by rw [h]⟩
    · cases h
theorem mask_length {caps : List Nat} {ρ : List (Option Ent)} : (mask caps ρ).length = ρ.length := by simp [mask]

structure CompOk (names : List Str) (env : Env) (scope : Scope) (x : Str) (caps : List Nat) : Prop where
  cell : ∀ y ∈ scope.names, y.2 ≠ .cell
  kind : scope.kind = .function
  loc : ∀ y ∈ scope.names, y.2 = .local → scope.names.lookup y.1 = some .local
  var : scope.names.lookup x = some .local
  free : ∀ y, (y, NameKind.free) ∈ scope.names → env.kindOf y = some .cell
  cap : ∀ i ∈ caps, ∀ y, names[i]? = some y → scope.names.lookup y = some .free

theorem comp_fm {c : Cx} {Fr : Addr → Prop} {names : List Str} {env cenv : Env} {st : Fs} {fe : FE} {H H₃ : Hd} {h h₂ : Heap} {scope : Scope} {x : Str} {caps : List Nat} {m : Str → Option Value} {v : Value} {item : AV}
    (F : Fm c Fr names env st fe H h) (hlen : st.ρ.length = names.length) (K : CompOk names env scope x caps) (k : Kh Fr h h₂) (hH : ∀ b, H.p b → H₃.p b) (hN : ∀ b, H₃.p b → H.p b ∨ h.get? b = none) (hM : H₃.m = H.m) (hO : H₃.o = H.o) (hL : Live H₃ h₂)
    (hC : h₂.Ns cenv.locals m) (hCH : H₃.p cenv.locals) (hCn : h.get? cenv.locals = none) (hmx : m x = some v) (hr : Rep (vis h₂ H₃) v item) (hsc : cenv.scope = relabel scope env) (hg : cenv.globals = env.globals) (hb : cenv.builtins = env.builtins) (hcd : cenv.code = env.code)
    (hcl1 : ∀ y cc, cenv.cells.lookup y = some cc → env.cells.lookup y = some cc) (hcl2 : ∀ y, (y, NameKind.free) ∈ scope.names → cenv.cells.lookup y = env.cells.lookup y) :
    Fm c Fr (names ++ [x]) cenv (st.inner caps item) fe H₃ h₂ := by
  have kx : cenv.kindOf x = some .local := by
    show cenv.scope.names.lookup x = some .local
    rw [hsc]; exact lookup_relabel_local K.var
  have kc : ∀ y, scope.names.lookup y = some .free → cenv.kindOf y = some .cell := fun y hy => by
    show cenv.scope.names.lookup y = some .cell
    rw [hsc]; exact lookup_relabel_free F.kind hy (K.free y (mem_of_lookup hy))
  have get : ∀ (i : Nat) y t, (names ++ [x])[i]? = some y → (mask caps st.ρ ++ [some (Ent.val item)])[i]? = some (some t) → (i = names.length ∧ y = x ∧ t = .val item) ∨ (i < names.length ∧ names[i]? = some y ∧ i ∈ caps ∧ st.ρ[i]? = some (some t)) := by
    intro i y t h1 h2
    by_cases hi : i < names.length
    · rw [List.getElem?_append_left hi] at h1
      rw [List.getElem?_append_left (by rw [mask_length, hlen]; exact hi)] at h2
      exact .inr ⟨hi, h1, mask_get h2⟩
    · have hge : names.length ≤ i := Nat.le_of_not_lt hi
      rw [List.getElem?_append_right hge] at h1
      rw [List.getElem?_append_right (by rw [mask_length, hlen]; exact hge), mask_length, hlen] at h2
      cases hz : i - names.length with
      | zero => rw [hz] at h1 h2; simp at h1 h2; exact .inl ⟨by omega, h1.symm, h2.symm⟩
      | succ n => rw [hz] at h1; simp at h1
  have kn : ∀ {b}, h₂.get? b = none → fe.h.get? b = none → True := fun _ _ => trivial
  exact {
    keep := F.keep.trans k.kv
    wsub := F.wsub
    base := F.base
    baseF := F.baseF
    basew := F.basew
    hle := fun b q => hH b (F.hle b q)
    mle := fun n a e => by rw [hM]; exact F.mle n a e
    mold := fun n a l e => F.mold n a l (by rw [← hM]; exact e)
    mnew := fun n a l e => F.mnew n a l (by rw [← hM]; exact e)
    mw := fun n a mo l l' q e => absurd (Nat.lt_of_lt_of_le l F.n0le) (Nat.not_lt.mpr l')
    hlt := hL
    felt := F.felt
    wlt := F.wlt
    kind := by rw [hsc]; exact K.kind
    glob := hg.trans F.glob
    bi := hb.trans F.bi
    code := by rw [hcd]; exact F.code
    ns := ⟨m, hC⟩
    hl := hCH
    lnew := by
      cases e : fe.h.get? cenv.locals with
      | none => rfl
      | some o =>
        exfalso
        by_cases hw : fe.w cenv.locals
        · obtain ⟨o', e'⟩ := F.hlt _ (F.hle _ (F.wsub _ hw))
          rw [hCn] at e'; cases e'
        · obtain ⟨sl, e'⟩ := (F.keep _ o hw e).2
          rw [hCn] at e'; cases e'
    hc := fun y cc qk q => by
      have qk : cenv.scope.names.lookup y = some .cell := qk
      rw [hsc] at qk
      obtain ⟨_, q2⟩ := lookup_relabel_cell K.cell qk
      obtain ⟨a, b⟩ := F.hc y cc q2 (hcl1 y cc q)
      exact ⟨hH _ a, b⟩
    cl := fun y q => by
      have q : cenv.scope.names.lookup y = some .cell := q
      rw [hsc] at q
      obtain ⟨q1, q2⟩ := lookup_relabel_cell K.cell q
      obtain ⟨cc, w, e, n⟩ := F.cl y q2
      exact ⟨cc, w, (hcl2 y q1).trans e, k.cell n⟩
    capart := fun y z cc a b => F.capart y z cc (hcl1 y cc a) (hcl1 z cc b)
    vals := fun i y t h1 h2 => by
      rcases get i y t h1 h2 with ⟨_, rfl, rfl⟩ | ⟨_, n1, n2, n3⟩
      · exact ⟨v, .inl ⟨kx, m, hC, hmx⟩, hr⟩
      · obtain ⟨w, nv, r⟩ := F.vals i y t n1 n3
        have hfr := K.cap i n2 y n1
        have hcell := K.free y (mem_of_lookup hfr)
        rcases nv with ⟨q, _⟩ | ⟨q, cc, e, n⟩
        · rw [hcell] at q; cases q
        · exact ⟨w, .inr ⟨kc y hfr, cc, (hcl2 y (mem_of_lookup hfr)).trans e, k.cell n⟩, r.mono (vis_new k hN fun n a e => by rw [hM]; exact e) (fun a e => by rw [hO]; exact e) fun a vs _ l => k.isL l⟩
    own := fun i a e => by
      rw [hO] at e
      obtain ⟨p, q, r, vs, l⟩ := F.own i a e
      exact ⟨hH a p, q, fun n => by rw [hM]; exact r n, vs, k.isL l⟩
    oinj := fun i j a => by rw [hO]; exact F.oinj i j a
    sto := F.sto.new k hH hN hM
    mh0 := fun n a e => F.mh0 n a (by rw [← hM]; exact e)
    n0le := F.n0le }

theorem mapF_snoc {f : AV → Option (Option AV)} : ∀ {l : List AV} {ys : List AV} {x : AV}, mapF f l = some ys → mapF f (l ++ [x]) = match f x with | some (some y) => some (ys ++ [y]) | some none => some ys | none => none
  | [], ys, x, h => by
    simp only [mapF, Option.some.injEq] at h
    subst h
    simp only [List.nil_append, mapF]
    cases f x with
    | none => rfl
    | some r => cases r <;> rfl
  | z :: l, ys, x, h => by
    simp only [mapF, List.cons_append] at h ⊢
    cases hz : f z with
    | none => rw [hz] at h; cases h
    | some r =>
      rw [hz] at h
      cases r with
      | none => exact mapF_snoc h
      | some y =>
        simp only [Option.map_eq_some_iff] at h
        obtain ⟨ys', h1, rfl⟩ := h
        simp only [mapF_snoc h1]
        cases f x with
        | none => rfl
        | some r => cases r <;> rfl
theorem mapF_take {f : AV → Option (Option AV)} : ∀ {l : List AV} {ys : List AV} (j : Nat), mapF f l = some ys → ∃ zs, mapF f (l.take j) = some zs
  | _, _, 0, _ => ⟨[], by simp [mapF]⟩
  | [], _, _ + 1, _ => ⟨[], by simp [mapF]⟩
  | z :: l, ys, j + 1, h => by
    simp only [mapF, List.take_succ_cons] at h ⊢
    cases hz : f z with
    | none => rw [hz] at h; cases h
    | some r =>
      rw [hz] at h
      cases r with
      | none => exact mapF_take j h
      | some y =>
        simp only [Option.map_eq_some_iff] at h
        obtain ⟨ys', h1, _⟩ := h
        obtain ⟨zs, e⟩ := mapF_take j h1
        exact ⟨y :: zs, by simp [e]⟩
theorem mapF_length {f : AV → Option (Option AV)} : ∀ {l ys : List AV}, mapF f l = some ys → ys.length ≤ l.length
  | [], ys, h => by simp only [mapF, Option.some.injEq] at h; subst h; simp
  | z :: l, ys, h => by
    simp only [mapF] at h
    cases hz : f z with
    | none => rw [hz] at h; cases h
    | some r =>
      rw [hz] at h
      cases r with
      | none => have := mapF_length h; simp; omega
      | some y =>
        simp only [Option.map_eq_some_iff] at h
        obtain ⟨ys', h1, rfl⟩ := h
        have := mapF_length h1
        simp; omega
theorem mapF_step {f : AV → Option (Option AV)} {l ys : List AV} {j : Nat} {x : AV} {zs : List AV} (h : mapF f l = some ys) (hx : l[j]? = some x) (hz : mapF f (l.take j) = some zs) :
    (∃ y, f x = some (some y) ∧ mapF f (l.take (j + 1)) = some (zs ++ [y])) ∨ (f x = some none ∧ mapF f (l.take (j + 1)) = some zs) := by
  have e : l.take (j + 1) = l.take j ++ [x] := by rw [List.take_add_one, hx]; rfl
  obtain ⟨ws, hw⟩ := mapF_take (j + 1) h
  rw [e, mapF_snoc hz] at hw
  rw [e, mapF_snoc hz]
  cases hf : f x with
  | none => rw [hf] at hw; cases hw
  | some r =>
    cases r with
    | none => exact .inr ⟨rfl, rfl⟩
    | some y => exact .inl ⟨y, rfl, rfl⟩
end Mine
end
section
open PySem PySem.W PyProof.Rows
namespace Mine

theorem Fm.base' {c : Cx} {A : Around} {ns : List Str} {env : Env} {st : Fs} {fe : FE} {H : Hd} {h : Heap} (F : Fm c (FrA A) ns env st fe H h) : c.h0.StaysIn h := fun b o e => ((F.keep b o (fun f => by rw [F.basew b f] at e; cases e) (F.base b o e)).1 (.inl fun f => by rw [F.baseF b f] at e; cases e))
/-- what a turn of a comprehension does with an item -/
noncomputable def TurnOk (c : Cx) (q : Bool) (k : Nat) (A : Around) (names : List Str) (env : Env) (st : Fs) (fe : FE) (scope : Scope) (x : Str) (caps : List Nat) (elt : Expr) (ifs : List Expr) (f : AV → Option (Option AV)) : Prop :=
  ∀ item (s₃ : Shared) H₃ cenv, cenv.scope = relabel scope env → Rm c q k A s₃.heap → Fm c (FrA A) (names ++ [x]) cenv (st.inner caps item) fe H₃ s₃.heap →
    (∀ y, f item = some (some y) → TrB c A (testsOf ifs cenv) true s₃ ∧ ∀ s₄, Kp A s₃ s₄ → Tr c q A H₃ (eval elt cenv) (.ok y) s₄) ∧ (f item = some none → TrB c A (testsOf ifs cenv) false s₃)

theorem Kh.trans' {F W : Addr → Prop} {h₁ h₂ h₃ : Heap} (x : Kh F h₁ h₂) (y : Kv F W h₂ h₃) (n : ∀ b o, h₁.get? b = some o → ¬ W b) : Kh F h₁ h₃ := fun b o e =>
  ⟨fun z => (y b o (n b o e) ((x b o e).1 z)).1 z, by obtain ⟨sl, e₂⟩ := (x b o e).2; obtain ⟨sl', e₃⟩ := (y b _ (n b o e) e₂).2; exact ⟨sl', e₃⟩⟩

theorem list_appendL {prog : Program} {w : World} {A : Around} {E : Value → Shared → Prop} {s : Shared} {l : Addr} {items : List Value} {x : Value} {Q : Value → Shared → Prop} (hsz : (List.toArray items).size ≤ sizeLine) (hl : IsL s.heap l items)
    (hQ : ∀ h', IsL h' l (items ++ [x]) → Heap.SameBut l s.heap h' → Q .none { s with heap := h' }) :
    wpAny (model prog w) A (call (.builtin "list.append") [.ref l, x]) Q E s := by
  obtain ⟨o, n, ho, hc, hd, hn⟩ := id hl
  obtain ⟨n', hd'⟩ := Obj.data_mapSeq hd (·.push x)
  refine wpAny_call_entry slot_list_append hl.isList.typeIs entry_list_append ?_ (args_list_append _ _)
  show wpAny _ _ (updateSeq l (·.push x) >>= fun _ => ret .none) _ _ s
  refine wpAny_bind ?_
  refine wpAny_updateSeq ho hd (wpAny_pure ⟨.none, rfl, hQ _ ?_ (Heap.SameBut.update ..)⟩)
  refine ⟨_, n', Heap.get?_update_self _ ho (Obj.isFreed_of_seq hd'), (Obj.cls_mapSeq ..).trans hc, by rw [hd']; simp, ?_⟩
  obtain ⟨oc, od, odt, os⟩ := o
  simp only at hd hn ⊢
  subst hd
  exact hn

/-- what a turn puts to the heap of things -/
noncomputable def BodyOk (c : Cx) (A : Around) (H : Hd) (body : Addr → Sem Unit) (Inv : Heap → Hd → Addr → List AV → Prop) (y : AV) (s : Shared) : Prop :=
  ∀ (D : Addr) (zs : List AV) (Q : Unit → Shared → Prop) (E : Value → Shared → Prop), Inv s.heap H D zs → zs.length ≤ 1048576 → H.p D → ¬ FrA A D →
    (∀ s₅ h₆, Kp A s s₅ → Heap.SameBut D s₅.heap h₆ → Inv h₆ H D (zs ++ [y]) → Q () { s₅ with heap := h₆ }) → wpAny c.M A (body D) Q E s
noncomputable def TurnB (c : Cx) (q : Bool) (k : Nat) (A : Around) (names : List Str) (env : Env) (st : Fs) (fe : FE) (scope : Scope) (x : Str) (caps : List Nat) (ifs : List Expr) (body : Env → Addr → Sem Unit) (Inv : Heap → Hd → Addr → List AV → Prop) (f : AV → Option (Option AV)) : Prop :=
  ∀ item (s₃ : Shared) H₃ cenv, cenv.scope = relabel scope env → Rm c q k A s₃.heap → Fm c (FrA A) (names ++ [x]) cenv (st.inner caps item) fe H₃ s₃.heap →
    (∀ y, f item = some (some y) → TrB c A (testsOf ifs cenv) true s₃ ∧ ∀ s₄, Kp A s₃ s₄ → BodyOk c A H₃ (body cenv) Inv y s₄) ∧ (f item = some none → TrB c A (testsOf ifs cenv) false s₃)
/-- a comprehension's heap of things: how it is made, how a turn goes -/
structure AccOk (c : Cx) (A : Around) (ce target : Expr) (ifs : List Expr) (mk : Sem Value) (body : Env → Addr → Sem Unit) (Inv : Heap → Hd → Addr → List AV → Prop) : Prop where
  make : ∀ (s : Shared) (Q E : Value → Shared → Prop), c.h0.StaysIn s.heap → (∀ o : Obj, o.isFreed = false → (∀ h H, h.get? s.heap.objs.size = some o → Inv h H s.heap.objs.size []) → Q (.ref s.heap.objs.size) { s with heap := s.heap.push o }) → wpAny c.M A mk Q E s
  keep : ∀ h h' H D zs, Inv h H D zs → (∀ o, h.get? D = some o → h'.get? D = some o) → (vis h H).Le (vis h' H) → Inv h' H D zs
  live : ∀ h H D zs, Inv h H D zs → ∃ o, h.get? D = some o
  loop : ∀ (it : Value) (D : Addr) (env : Env) (R : Result → Shared → Prop) (s : Shared) (I : Nat → Shared → Prop), (∀ n s, I n s → wpAny c.M A (pyNext it) (fun r s₁ => match r with
      | none => R (.ok .next) s₁
      | some v => wpAny c.M A (assign target env v) (fun _ s₂ => wpAny c.M A (testsOf ifs env) (fun ok s₃ =>
          if ok = true then wpAny c.M A (body env D) (fun _ s₅ => ∃ m, m < n ∧ I m s₅) (notedBy c.M A env fun e s' => R (.error e) s') s₃
          else ∃ m, m < n ∧ I m s₃) (notedBy c.M A env fun e s' => R (.error e) s') s₂) (notedBy c.M A env fun e s' => R (.error e) s') s₁) (notedBy c.M A env fun e s' => R (.error e) s') s) →
    ∀ n, I n s → codeAny c.M A (.compLoop ce 0 it (.ref D) env) R s
  start : ∀ (it acc : Value) (env : Env) (R : Result → Shared → Prop) (s : Shared), codeAny c.M A (.compLoop ce 0 it acc env) R s →
    wpAny c.M A (pyIter it) (fun it' s' => codeAny c.M A (.compLoop ce 0 it' acc env) R s') (notedBy c.M A env fun x s' => R (.error x) s') s → codeAny c.M A (.compStart ce 0 it acc env) R s

theorem comp_gen {c : Cx} {q : Bool} {k : Nat} {A : Around} {s₁ s₂ : Shared} {H : Hd} {fe : FE} {names : List Str} {env : Env} {st : Fs} {ce : Expr} {x : Str} {px : Pos} {ifs : List Expr} {mk : Sem Value} {body : Env → Addr → Sem Unit} {Inv : Heap → Hd → Addr → List AV → Prop} {scope : Scope} {caps : List Nat}
    {cl : List (Str × Addr)} {I : Addr} {fp : Addr → Prop} {P : Nat → Value → Prop} {St : Nat → Heap → Prop} {l ys : List AV} {f : AV → Option (Option AV)} {E : Value → Shared → Prop} {RR : Value → Addr → Result → Shared → Prop}
    (hm : Rm c q k A s₁.heap) (F : Fm c (FrA A) names env st fe H s₁.heap) (hlen : st.ρ.length = names.length) (K : CompOk names env scope x caps)
    (hcl1 : ∀ y cc, cl.lookup y = some cc → env.cells.lookup y = some cc) (hcl2 : ∀ y, (y, NameKind.free) ∈ scope.names → cl.lookup y = env.cells.lookup y)
    (hs : ∃ h' tk, s₂ = { s₁ with heap := h', toks := tk }) (hk : ∀ b o, s₁.heap.get? b = some o → s₂.heap.get? b = some o) (hI : s₁.heap.get? I = none) (hIl : ∀ b, fp b → ∃ o, s₂.heap.get? b = some o) (hfI : fp I)
    (W : Itr c A I fp P l.length St) (hst : St 0 s₂.heap) (hsz : l.length ≤ 1048576) (hP : ∀ (i : Nat) v y, P i v → l[i]? = some y → Rep (vis s₁.heap H) v y)
    (hf : mapF f l = some ys) (K0 : AccOk c A ce (.Name x px) ifs mk body Inv) (T : TurnB c q k A names env st fe scope x caps ifs body Inv f)
    (hR : ∀ D C h' tk m', s₂.heap.get? D = none → s₂.heap.get? C = none → D ≠ C → h'.Ns C m' → Inv h' (H.add fun b => b = C ∨ b = D ∨ b = I) D ys → Kv (FrA A) (fun b => b = I) s₂.heap h' →
      RR (.ref D) C (.ok .next) { s₂ with heap := h', toks := tk }) :
    wpAny c.M A mk (fun acc s₃ => wpAny c.M A (newFunctionEnv scope env.globals cl [] env.qual none .none (some env)) (fun cenv s₄ =>
      codeAny c.M A (.compStart ce 0 (.ref I) acc { cenv with scope := relabel scope env }) (RR acc cenv.locals) s₄) E s₃) E s₂ := by
  refine K0.make _ _ _ (fun b o e => hk b o (F.base' b o e)) fun o0 hfr hinv0 => (wpAny_newFunctionEnv K.cell (by intro y hy; simp at hy) (fun h₁ hns₁ hsb₁ => ?_) K.kind)
  dsimp only at hns₁ hsb₁ ⊢
  generalize hD : s₂.heap.objs.size = D at hinv0 ⊢
  generalize hH2 : s₂.heap.push o0 = H2 at hns₁ hsb₁ ⊢
  generalize hC : H2.objs.size = C at hns₁ hsb₁ ⊢
  have hCD : C = D + 1 := by rw [← hC, ← hH2, Heap.size_push, hD]
  have hDC : D ≠ C := by omega
  have hDn : s₂.heap.get? D = none := Heap.get?_none_of_le (by omega)
  have hCn : s₂.heap.get? C = none := Heap.get?_none_of_le (by omega)
  have hnF : ¬ FrA A D := by
    rintro ⟨l, hl, hb⟩
    obtain ⟨l', hl', ff⟩ := hm.frames
    rw [hl] at hl'; cases hl'
    obtain ⟨_, o, e, _⟩ := ff.mem hb
    have := hk _ _ e
    rw [hDn] at this; cases this
  have hDn₁ : s₁.heap.get? D = none := by
    cases e : s₁.heap.get? D with
    | none => rfl
    | some o => have := hk _ _ e; rw [hDn] at this; cases this
  have hCn₁ : s₁.heap.get? C = none := by
    cases e : s₁.heap.get? C with
    | none => rfl
    | some o => have := hk _ _ e; rw [hCn] at this; cases this
  have old : ∀ b o, s₂.heap.get? b = some o → h₁.get? b = some o := fun b o e => by
    have e1 : H2.get? b = some o := by rw [← hH2]; exact Heap.get?_push_of_some _ e
    refine hsb₁.extBut b o (fun q => ?_) (Heap.get?_push_of_some _ e1)
    rw [q, hCn] at e; cases e
  have hacc : h₁.get? D = some o0 := by
    have e1 : H2.get? D = some o0 := by rw [← hH2, ← hD]; exact Heap.get?_push_size _ hfr
    exact hsb₁.extBut _ _ hDC (Heap.get?_push_of_some _ e1)
  obtain ⟨hI0, tkI, rfl⟩ := hs
  dsimp only at *
  obtain ⟨oI, hoI⟩ := hIl I hfI
  have hIC : I ≠ C := fun q => by rw [q, hCn] at hoI; cases hoI
  have hID : I ≠ D := fun q => by rw [q, hDn] at hoI; cases hoI
  have fpC : ∀ b, fp b → b ≠ C ∧ b ≠ D := fun b hb => by
    obtain ⟨o, ho⟩ := hIl b hb
    exact ⟨fun q => by (rw [q, hCn] at ho; cases ho), fun q => by (rw [q, hDn] at ho; cases ho)⟩
  generalize hH3 : (H.add fun b => b = C ∨ b = D ∨ b = I) = H₃
  have hM3 : H₃.m = H.m := by rw [← hH3]; rfl
  have hO3 : H₃.o = H.o := by rw [← hH3]; rfl
  have hHH : ∀ b, H.p b → H₃.p b := fun b z => by rw [← hH3]; exact .inl z
  have hW3 : ∀ b, (b = C ∨ b = D ∨ b = I) → H₃.p b := fun b z => by rw [← hH3]; exact .inr z
  have hHN : ∀ b, H₃.p b → H.p b ∨ s₁.heap.get? b = none := fun b z => by
    rw [← hH3] at z
    rcases z with z | z | z | z
    · exact .inl z
    · exact .inr (z ▸ hCn₁)
    · exact .inr (z ▸ hDn₁)
    · exact .inr (z ▸ hI)
  have hkH1 : Kh (FrA A) s₁.heap h₁ := Kh.of_keeps fun b o e => old b o (hk b o e)
  have hst₁ : St 0 h₁ := W.frame _ _ _ hst fun b o _ e => ⟨fun _ => old b o e, o.slots, old b o e⟩
  have loop : ∀ s₃ : Shared, s₃ = { s₁ with heap := h₁, toks := tkI + ([] : List (Str × Value)).length } →
      codeAny c.M A (.compLoop ce 0 (.ref I) (.ref D) (compEnvC scope cl C env)) (RR (.ref D) C) s₃ := by
    rintro s₃ rfl
    refine K0.loop _ _ _ _ _ (fun n s' => ∃ h' tk m' j zs, s' = { s₁ with heap := h', toks := tk } ∧ St j h' ∧ j ≤ l.length ∧ n = l.length + 1 - j ∧ Inv h' H₃ D zs ∧ mapF f (l.take j) = some zs ∧
      h'.Ns C m' ∧ Kv (FrA A) (fun b => b = C ∨ b = D ∨ b = I) h₁ h' ∧ (∃ o, h'.get? I = some o)) ?_ (l.length + 1)
      ⟨h₁, _, _, 0, [], rfl, hst₁, Nat.zero_le _, rfl, hinv0 _ _ hacc, by simp [mapF], hns₁, Kv.refl _ _ _, oI, old _ _ hoI⟩
    rintro n s' ⟨h', tk, m', j, zs, rfl, hst', hj, rfl, hD', hzs, hC', hkv, hoI'⟩
    by_cases hlt : j < l.length
    · obtain ⟨item, hit⟩ : ∃ y, l[j]? = some y := ⟨l[j], by simp [hlt]⟩
      refine W.item j _ _ _ hlt hst' fun v h₂ tk₂ hPv hst₂ hk₂ hI₂ => ?_
      dsimp only
      obtain ⟨oI₂, hoI₂⟩ := hI₂
      have kv₂ : Kv (FrA A) (fun b => b = C ∨ b = D ∨ b = I) h' h₂ := Kv.of_but hk₂ (.inr (.inr rfl))
      obtain ⟨oC, esC, epC, hoC, rC⟩ := hC'
      have hC₂ : h₂.Ns C m' := ⟨oC, esC, epC, hk₂ C oC (Ne.symm hIC) hoC, rC⟩
      have hD₂ : Inv h₂ H₃ D zs := K0.keep _ _ _ _ _ hD' (fun o e => hk₂ D o (Ne.symm hID) e) (kv₂.vis hW3)
      refine wpAny_assign_Name (wpAny_storeName_local (env := compEnvC scope cl C env) (lookup_relabel_local K.var) hC₂ (fun h₃ hn₃ hs₃ => ?_) (by simp [compEnvC, relabel, K.kind]))
      have kv₃ : Kv (FrA A) (fun b => b = C ∨ b = D ∨ b = I) h₂ h₃ := Kv.of_sameBut hs₃ (.inl rfl)
      have kv13 := (hkv.trans kv₂).trans kv₃
      have kh₃ : Kh (FrA A) s₁.heap h₃ := hkH1.trans' kv13 fun b o e => by
        rintro (z | z | z)
        · rw [z, hCn₁] at e; cases e
        · rw [z, hDn₁] at e; cases e
        · rw [z, hI] at e; cases e
      have hD₃ : Inv h₃ H₃ D zs := K0.keep _ _ _ _ _ hD₂ (fun o e => hs₃.extBut D o hDC e) (kv₃.vis hW3)
      have hst₃ : St (j + 1) h₃ := W.frame _ _ _ hst₂ fun b o hb e => ⟨fun _ => hs₃.extBut b o (fpC b hb).1 e, o.slots, hs₃.extBut b o (fpC b hb).1 e⟩
      have hoI₃ : h₃.get? I = some oI₂ := hs₃.extBut I oI₂ hIC hoI₂
      have live₃ : Live H₃ h₃ := fun b z => by
        rw [← hH3] at z
        rcases z with z | rfl | rfl | rfl
        · obtain ⟨o, e⟩ := F.hlt b z
          obtain ⟨sl, e'⟩ := (kh₃ b o e).2
          exact ⟨_, e'⟩
        · obtain ⟨o, _, _, e, _⟩ := hn₃; exact ⟨o, e⟩
        · exact K0.live _ _ _ _ hD₃
        · exact ⟨_, hoI₃⟩
      have F₃ : Fm c (FrA A) (names ++ [x]) (compEnvC scope cl C env) (st.inner caps item) fe H₃ h₃ :=
        comp_fm F hlen K kh₃ hHH hHN hM3 hO3 live₃ hn₃ (hW3 C (.inl rfl)) hCn₁ (by simp) (Rep.mono (vis_new kh₃ hHN fun n a e => by rw [hM3]; exact e) (hP j v item hPv hit)) rfl rfl rfl rfl hcl1 hcl2
      have hm₃ : Rm c q k A h₃ := hm.nf kh₃.nf
      have TT := T item { s₁ with heap := h₃, toks := tk₂ + 1 } H₃ (compEnvC scope cl C env) rfl hm₃ F₃
      rcases mapF_step hf hit hzs with ⟨y, hy, hzs'⟩ | ⟨hy, hzs'⟩
      · obtain ⟨t1, t2⟩ := TT.1 y hy
        refine t1 _ _ fun s₄ k₄ => ?_
        simp only [if_true]
        have hvl : zs.length ≤ 1048576 := by
          have e2 := mapF_length hzs
          have e3 : (l.take j).length ≤ l.length := by rw [List.length_take]; omega
          omega
        obtain ⟨h₄, tk₄, e₄, kh₄⟩ := id k₄
        subst e₄
        have hD₄ : Inv h₄ H₃ D zs := K0.keep _ _ _ _ _ hD₃ (fun o e => (kh₄ D o e).1 (.inl hnF)) kh₄.vis
        refine t2 _ k₄ D zs _ _ hD₄ hvl (hW3 D (.inr (.inl rfl))) hnF fun s₅ h₆ k₅ hs₆ hl₆ => ?_
        have k35 := k₄.trans k₅
        obtain ⟨h₅, tk₅, e₅, kh₅⟩ := k35
        subst e₅
        have kv56 : Kv (FrA A) (fun b => b = C ∨ b = D ∨ b = I) h₅ h₆ := Kv.of_sameBut hs₆ (.inr (.inl rfl))
        refine ⟨l.length + 1 - (j + 1), by omega, h₆, tk₅, (fun z => if z = x then some v else m' z), j + 1, zs ++ [y], rfl, ?_, hlt, rfl, hl₆, hzs', ?_, ((kv13.trans kh₅.kv).trans kv56), ?_⟩
        · refine W.frame _ _ _ hst₃ fun b o hb e => ⟨fun hf => hs₆.extBut b _ (fpC b hb).2 ((kh₅ b o e).1 (.inr hf)), ?_⟩
          obtain ⟨sl, e'⟩ := (kh₅ b o e).2
          exact ⟨sl, hs₆.extBut b _ (fpC b hb).2 e'⟩
        · exact (kh₅.ns hn₃).sameBut hs₆ (Ne.symm hDC)
        · obtain ⟨sl, e'⟩ := (kh₅ I _ hoI₃).2
          exact ⟨_, hs₆.extBut I _ hID e'⟩
      · refine TT.2 hy _ _ fun s₄ k₄ => ?_
        simp only [Bool.false_eq_true, if_false]
        obtain ⟨h₄, tk₄, rfl, kh₄⟩ := k₄
        refine ⟨l.length + 1 - (j + 1), by omega, h₄, tk₄, (fun z => if z = x then some v else m' z), j + 1, zs, rfl, ?_, hlt, rfl, K0.keep _ _ _ _ _ hD₃ (fun o e => (kh₄ D o e).1 (.inl hnF)) kh₄.vis, hzs', kh₄.ns hn₃, kv13.trans kh₄.kv, ?_⟩
        · exact W.frame _ _ _ hst₃ fun b o hb e => ⟨fun hf => (kh₄ b o e).1 (.inr hf), (kh₄ b o e).2⟩
        · obtain ⟨sl, e'⟩ := (kh₄ I _ hoI₃).2
          exact ⟨_, e'⟩
    · have hjl : j = l.length := by omega
      subst hjl
      refine W.done _ _ _ hst' fun h₂ tk₂ hk₂ => ?_
      have kv₂ : Kv (FrA A) (fun b => b = C ∨ b = D ∨ b = I) h' h₂ := Kv.of_but hk₂ (.inr (.inr rfl))
      rw [List.take_length, hf] at hzs
      cases hzs
      obtain ⟨oC, esC, epC, hoC, rC⟩ := hC'
      refine hR D C h₂ tk₂ m' hDn hCn hDC ⟨oC, esC, epC, hk₂ C oC (Ne.symm hIC) hoC, rC⟩ ?_ ?_
      · rw [hH3]; exact K0.keep _ _ _ _ _ hD' (fun o e => hk₂ D o (Ne.symm hID) e) (kv₂.vis hW3)
      · intro b o nb e
        have e1 := old b o e
        have nC : ¬ (b = C ∨ b = D ∨ b = I) := by
          rintro (z | z | z)
          · rw [z, hCn] at e; cases e
          · rw [z, hDn] at e; cases e
          · exact nb z
        exact (hkv.trans kv₂) b o nC e1
  exact K0.start _ _ _ _ _ (loop _ rfl) (W.self 0 _ _ _ hst₁ (loop _ rfl))

/-- the list's heap of things -/
noncomputable def InvL (h : Heap) (H : Hd) (D : Addr) (zs : List AV) : Prop := ∃ vs, IsL h D vs ∧ RepL (vis h H) vs zs
theorem acc_list {c : Cx} {A : Around} {elt iter : Expr} {x : Str} {px : Pos} {ifs : List Expr} {scope : Scope} {pos : Pos} :
    AccOk c A (.ListComp elt [⟨.Name x px, iter, ifs, 0⟩] scope pos) (.Name x px) ifs (newList []) (fun env D => do let _ ← call (.builtin "list.append") [.ref D, ← eval elt env]) InvL where
  make := fun s Q E _ h => wpAny_newObj_type (h _ rfl fun h H e => ⟨[], ⟨_, _, e, rfl, rfl, rfl⟩, trivial⟩)
  keep := fun h h' H D zs ⟨vs, a, b⟩ e v => ⟨vs, a.at' e, RepL.mono v b⟩
  live := fun h H D zs ⟨vs, ⟨o, _, e, _⟩, _⟩ => ⟨o, e⟩
  loop := fun it D env R s I turn n h => by
    refine codeAny_loop rfl I (fun n s hI => ?_) n h
    show wpAny _ A ((compTurn (.ListComp elt [⟨.Name x px, iter, ifs, 0⟩] scope pos) 0 it (.ref D) env).onRaise (fun x => do noteFrame x env; theTreesLotGoes x)) _ _ s
    refine wpAny_noted ?_
    rw [compTurn_list]
    refine wpAny_bind (wpAny_standAt (wpAny_bind (wpAny_mono (turn n s hI) (fun r s₁ h₁ => ?_) fun _ _ h' => h')))
    cases r with
    | none => exact wpAny_pure h₁
    | some v =>
      refine wpAny_bind (wpAny_of_eq (rfl : letOwnedTupleGo (.Name x px) it v = pure ()) ?_)
      refine wpAny_bind (wpAny_mono h₁ (fun _ s₂ h₂ => wpAny_bind (wpAny_mono h₂ (fun ok s₃ h₃ => ?_) fun _ _ h' => h')) fun _ _ h' => h')
      cases ok with
      | false => exact wpAny_pure ⟨rfl, h₃⟩
      | true => exact wpAny_bind (wpAny_mono h₃ (fun _ s₅ h₅ => wpAny_pure ⟨rfl, h₅⟩) fun _ _ h' => h')
  start := fun it acc env R s h0 h => codeAny_compStart_list h0 h
theorem turn_list {c : Cx} {q : Bool} {k : Nat} {A : Around} {names : List Str} {env : Env} {st : Fs} {fe : FE} {scope : Scope} {x : Str} {caps : List Nat} {elt : Expr} {ifs : List Expr} {f : AV → Option (Option AV)}
    (T : TurnOk c q k A names env st fe scope x caps elt ifs f) : TurnB c q k A names env st fe scope x caps ifs (fun env D => do let _ ← call (.builtin "list.append") [.ref D, ← eval elt env]) InvL f := fun item s₃ H₃ cenv e hm F => by
  obtain ⟨t1, t2⟩ := T item s₃ H₃ cenv e hm F
  refine ⟨fun y hy => ⟨(t1 y hy).1, fun s₄ k₄ D zs Q E ⟨vs, hl, hr⟩ hz hp hn K => ?_⟩, t2⟩
  refine wpAny_bind ((t1 y hy).2 s₄ k₄ _ _ fun yv s₅ k₅ ry => ?_)
  obtain ⟨h₅, tk₅, rfl, kh₅⟩ := id k₅
  have hz' : (List.toArray vs).size ≤ sizeLine := by
    have := hr.length
    rw [List.size_toArray, show sizeLine = 16777216 from by decide]
    omega
  refine wpAny_bind (list_appendL hz' (kh₅.isL hl) fun h₆ hl₆ hs₆ => wpAny_pure ?_)
  have kvis : (vis h₅ H₃).Le (vis h₆ H₃) := (Kv.of_sameBut (F := FrA A) (W := fun b => b = D) hs₆ rfl).vis fun b z => z ▸ hp
  exact K _ h₆ k₅ hs₆ ⟨vs ++ [yv], hl₆, RepL.append (RepL.mono (kh₅.vis.trans kvis) hr) (by simp only [RepL]; exact ⟨Rep.mono kvis ry, trivial⟩)⟩
theorem comp_core {c : Cx} {q : Bool} {k : Nat} {A : Around} {s₁ s₂ : Shared} {H : Hd} {fe : FE} {names : List Str} {env : Env} {st : Fs} {elt iter : Expr} {x : Str} {px pos : Pos} {ifs : List Expr} {scope : Scope} {caps : List Nat}
    {cl : List (Str × Addr)} {I : Addr} {fp : Addr → Prop} {P : Nat → Value → Prop} {St : Nat → Heap → Prop} {l ys : List AV} {f : AV → Option (Option AV)} {E : Value → Shared → Prop} {RR : Value → Addr → Result → Shared → Prop}
    (hm : Rm c q k A s₁.heap) (F : Fm c (FrA A) names env st fe H s₁.heap) (hlen : st.ρ.length = names.length) (K : CompOk names env scope x caps)
    (hcl1 : ∀ y cc, cl.lookup y = some cc → env.cells.lookup y = some cc) (hcl2 : ∀ y, (y, NameKind.free) ∈ scope.names → cl.lookup y = env.cells.lookup y)
    (hs : ∃ h' tk, s₂ = { s₁ with heap := h', toks := tk }) (hk : ∀ b o, s₁.heap.get? b = some o → s₂.heap.get? b = some o) (hI : s₁.heap.get? I = none) (hIl : ∀ b, fp b → ∃ o, s₂.heap.get? b = some o) (hfI : fp I)
    (W : Itr c A I fp P l.length St) (hst : St 0 s₂.heap) (hsz : l.length ≤ 1048576) (hP : ∀ (i : Nat) v y, P i v → l[i]? = some y → Rep (vis s₁.heap H) v y)
    (hf : mapF f l = some ys) (T : TurnOk c q k A names env st fe scope x caps elt ifs f)
    (hR : ∀ D C h' tk m' vs, s₂.heap.get? D = none → s₂.heap.get? C = none → D ≠ C → h'.Ns C m' → IsL h' D vs → RepL (vis h' (H.add fun b => b = C ∨ b = D ∨ b = I)) vs ys → Kv (FrA A) (fun b => b = I) s₂.heap h' →
      RR (.ref D) C (.ok .next) { s₂ with heap := h', toks := tk }) :
    wpAny c.M A (newList []) (fun acc s₃ => wpAny c.M A (newFunctionEnv scope env.globals cl [] env.qual none .none (some env)) (fun cenv s₄ =>
      codeAny c.M A (.compStart (.ListComp elt [⟨.Name x px, iter, ifs, 0⟩] scope pos) 0 (.ref I) acc { cenv with scope := relabel scope env }) (RR acc cenv.locals) s₄) E s₃) E s₂ :=
  comp_gen hm F hlen K hcl1 hcl2 hs hk hI hIl hfI W hst hsz hP hf acc_list (turn_list T) fun D C h' tk m' a b d e ⟨vs, hl, hr⟩ kv => hR D C h' tk m' vs a b d e hl hr kv
end Mine
end
section
open PySem PySem.W PyProof.Rows
namespace Mine

noncomputable def encC : AV → Const → Bool
  | .int i, .int j => i == j
  | .bool a, .bool b => a == b
  | .none, .none => true
  | .str s, .str t => s == t
  | _, _ => false

noncomputable def BI.isTy : BI → Bool
  | .range | .tuple | .type | .bytes | .int | .bool => true
  | _ => false
theorem BI.boot_ty : ∀ {b : BI}, b.isTy = true → bootBuiltins (Str.ofString b.name) = some (.type b.name)
  | .range, _ => PyProof.Rows.Boot.«range»
  | .tuple, _ => PyProof.Rows.Boot.«tuple»
  | .type, _ => PyProof.Rows.Boot.«type»
  | .bytes, _ => PyProof.Rows.Boot.«bytes»
  | .int, _ => PyProof.Rows.Boot.«int»
  | .bool, _ => PyProof.Rows.Boot.«bool»
noncomputable def BI.val (b : BI) : Value := if b.isTy then .type b.name else .builtin b.name
theorem BI.boot : ∀ (b : BI), bootBuiltins (Str.ofString b.name) = some b.val
  | .range => PyProof.Rows.Boot.«range»
  | .tuple => PyProof.Rows.Boot.«tuple»
  | .type => PyProof.Rows.Boot.«type»
  | .bytes => PyProof.Rows.Boot.«bytes»
  | .int => PyProof.Rows.Boot.«int»
  | .bool => PyProof.Rows.Boot.«bool»
  | .len => PyProof.Rows.Boot.«len»
  | .isinstance => PyProof.Rows.Boot.«isinstance»
  | .chr => PyProof.Rows.Boot.«chr»

noncomputable def isGlob (ks : List (Str × NameKind)) (x : Str) : Bool := ks.lookup x == some NameKind.globalImplicit && !(x == ("__debug__" : Str)) && !(x == ("__name__" : Str))

noncomputable def relab (ks : List (Str × NameKind)) (names : List (Str × NameKind)) : List (Str × NameKind) :=
  names.map fun p => if (p.2 == NameKind.free && ks.lookup p.1 == some NameKind.cell) then (p.1, NameKind.cell) else (p.1, p.2)

noncomputable def compOkB (ks : List (Str × NameKind)) (ns : List Str) (scope : Scope) (x : Str) (caps : List Nat) : Bool :=
  scope.names.all (fun y => !(y.2 == .cell)) && scope.kind == .function && scope.names.all (fun y => !(y.2 == .local) || scope.names.lookup y.1 == some .local) && scope.names.lookup x == some .local &&
  scope.names.all (fun y => !(y.2 == .free) || ks.lookup y.1 == some .cell) && caps.all (fun i => match ns[i]? with | some y => scope.names.lookup y == some .free | none => true)

/-- what is looked at of an expression -/
structure EH where
  cst : Const → Bool := fun _ => false
  name : Str → Bool := fun _ => false
  bin : Expr → Operator → Expr → Bool := fun _ _ _ => false
  un : UnaryOp → Expr → Bool := fun _ _ => false
  cmp : Expr → List CmpOp → List Expr → Bool := fun _ _ _ => false
  bop : BoolOp → List Expr → Bool := fun _ _ => false
  ife : Expr → Expr → Expr → Bool := fun _ _ _ => false
  list : List Expr → Bool := fun _ => false
  tup : List Expr → Nat → Pos → Bool := fun _ _ _ => false
  sub : Expr → Expr → Bool := fun _ _ => false
  slice : Option Expr → Option Expr → Option Expr → Bool := fun _ _ _ => false
  call : Expr → List Expr → List Keyword → Pos → Bool := fun _ _ _ _ => false
  attr : Expr → Str → Pos → Bool := fun _ _ _ => false
  comp : Expr → List Comprehension → Scope → Bool := fun _ _ _ => false
  set : List Expr → Nat → Bool := fun _ _ => false
  scomp : Expr → List Comprehension → Scope → Bool := fun _ _ _ => false
  dcomp : Expr → Expr → List Comprehension → Scope → Bool := fun _ _ _ _ => false
noncomputable def onE (h : EH) : Expr → Bool
  | .Constant c _ _ => h.cst c
  | .Name x _ => h.name x
  | .BinOp l o r _ => h.bin l o r
  | .UnaryOp o x _ => h.un o x
  | .Compare l o r _ => h.cmp l o r
  | .BoolOp o l _ => h.bop o l
  | .IfExp t a b _ => h.ife t a b
  | .List l _ => h.list l
  | .Tuple l k p => h.tup l k p
  | .Subscript o i _ => h.sub o i
  | .Slice a b c _ => h.slice a b c
  | .Call f a k p => h.call f a k p
  | .Attribute o n p => h.attr o n p
  | .ListComp e g s _ => h.comp e g s
  | .Set l k _ => h.set l k
  | .SetComp e g s _ => h.scomp e g s
  | .DictComp k v g s _ => h.dcomp k v g s
  | _ => false
noncomputable def one? {α : Type} (l : List α) (f : α → Bool) : Bool := match l with
  | [x] => f x
  | _ => false
noncomputable def two? {α : Type} (l : List α) (f : α → α → Bool) : Bool := match l with
  | [x, y] => f x y
  | _ => false
noncomputable def nil? {α : Type} (l : List α) (b : Bool) : Bool := match l with
  | [] => b
  | _ => false
theorem one?_eq {α : Type} {l : List α} {f : α → Bool} (h : one? l f = true) : ∃ x, l = [x] ∧ f x = true := by
  rcases l with _ | ⟨x, _ | ⟨y, r⟩⟩
  · cases h
  · exact ⟨x, rfl, h⟩
  · cases h
theorem two?_eq {α : Type} {l : List α} {f : α → α → Bool} (h : two? l f = true) : ∃ x y, l = [x, y] ∧ f x y = true := by
  rcases l with _ | ⟨x, _ | ⟨y, _ | ⟨z, r⟩⟩⟩
  · cases h
  · cases h
  · exact ⟨x, y, rfl, h⟩
  · cases h
theorem nil?_eq {α : Type} {l : List α} {b : Bool} (h : nil? l b = true) : l = [] ∧ b = true := by
  cases l with
  | nil => exact ⟨rfl, h⟩
  | cons _ _ => cases h
section
variable {ex : Expr}
theorem onE_elim {h : EH} {P : Expr → Prop} {ex : Expr} (he : onE h ex = true) (h0 : ∀ c k p, h.cst c = true → P (.Constant c k p)) (h1 : ∀ x p, h.name x = true → P (.Name x p)) (h2 : ∀ l o r p, h.bin l o r = true → P (.BinOp l o r p)) (h3 : ∀ o x p, h.un o x = true → P (.UnaryOp o x p)) (h4 : ∀ l o r p, h.cmp l o r = true → P (.Compare l o r p)) (h5 : ∀ o l p, h.bop o l = true → P (.BoolOp o l p)) (h6 : ∀ t a b p, h.ife t a b = true → P (.IfExp t a b p)) (h7 : ∀ l p, h.list l = true → P (.List l p)) (h8 : ∀ l k p, h.tup l k p = true → P (.Tuple l k p)) (h9 : ∀ o i p, h.sub o i = true → P (.Subscript o i p)) (h10 : ∀ a b c p, h.slice a b c = true → P (.Slice a b c p)) (h11 : ∀ g a k p, h.call g a k p = true → P (.Call g a k p)) (h12 : ∀ o n p, h.attr o n p = true → P (.Attribute o n p)) (h13 : ∀ e g s p, h.comp e g s = true → P (.ListComp e g s p)) (h14 : ∀ l k p, h.set l k = true → P (.Set l k p)) (h15 : ∀ e g s p, h.scomp e g s = true → P (.SetComp e g s p)) (h16 : ∀ k v g s p, h.dcomp k v g s = true → P (.DictComp k v g s p)) : P ex := by
  cases ex with
  | Constant c k p => exact h0 c k p he
  | Name x p => exact h1 x p he
  | BinOp l o r p => exact h2 l o r p he
  | UnaryOp o x p => exact h3 o x p he
  | Compare l o r p => exact h4 l o r p he
  | BoolOp o l p => exact h5 o l p he
  | IfExp t a b p => exact h6 t a b p he
  | List l p => exact h7 l p he
  | Tuple l k p => exact h8 l k p he
  | Subscript o i p => exact h9 o i p he
  | Slice a b c p => exact h10 a b c p he
  | Call g a k p => exact h11 g a k p he
  | Attribute o n p => exact h12 o n p he
  | ListComp e g s p => exact h13 e g s p he
  | Set l k p => exact h14 l k p he
  | SetComp e g s p => exact h15 e g s p he
  | DictComp k v g s p => exact h16 k v g s p he
  | _ => exact (Bool.false_ne_true he).elim
theorem onE_cst {f} (h : onE { cst := f } ex = true) : ∃ c k p, ex = .Constant c k p ∧ f c = true :=
  onE_elim (P := fun ex => ∃ c k p, ex = .Constant c k p ∧ f c = true) h (fun c k p z => ⟨c, k, p, rfl, z⟩) (fun _ _ z => (Bool.false_ne_true z).elim) (fun _ _ _ _ z => (Bool.false_ne_true z).elim) (fun _ _ _ z => (Bool.false_ne_true z).elim) (fun _ _ _ _ z => (Bool.false_ne_true z).elim) (fun _ _ _ z => (Bool.false_ne_true z).elim) (fun _ _ _ _ z => (Bool.false_ne_true z).elim) (fun _ _ z => (Bool.false_ne_true z).elim) (fun _ _ _ z => (Bool.false_ne_true z).elim) (fun _ _ _ z => (Bool.false_ne_true z).elim) (fun _ _ _ _ z => (Bool.false_ne_true z).elim) (fun _ _ _ _ z => (Bool.false_ne_true z).elim) (fun _ _ _ z => (Bool.false_ne_true z).elim) (fun _ _ _ _ z => (Bool.false_ne_true z).elim) (fun _ _ _ z => (Bool.false_ne_true z).elim) (fun _ _ _ _ z => (Bool.false_ne_true z).elim) (fun _ _ _ _ _ z => (Bool.false_ne_true z).elim)
theorem onE_name {f} (h : onE { name := f } ex = true) : ∃ x p, ex = .Name x p ∧ f x = true :=
  onE_elim (P := fun ex => ∃ x p, ex = .Name x p ∧ f x = true) h (fun _ _ _ z => (Bool.false_ne_true z).elim) (fun x p z => ⟨x, p, rfl, z⟩) (fun _ _ _ _ z => (Bool.false_ne_true z).elim) (fun _ _ _ z => (Bool.false_ne_true z).elim) (fun _ _ _ _ z => (Bool.false_ne_true z).elim) (fun _ _ _ z => (Bool.false_ne_true z).elim) (fun _ _ _ _ z => (Bool.false_ne_true z).elim) (fun _ _ z => (Bool.false_ne_true z).elim) (fun _ _ _ z => (Bool.false_ne_true z).elim) (fun _ _ _ z => (Bool.false_ne_true z).elim) (fun _ _ _ _ z => (Bool.false_ne_true z).elim) (fun _ _ _ _ z => (Bool.false_ne_true z).elim) (fun _ _ _ z => (Bool.false_ne_true z).elim) (fun _ _ _ _ z => (Bool.false_ne_true z).elim) (fun _ _ _ z => (Bool.false_ne_true z).elim) (fun _ _ _ _ z => (Bool.false_ne_true z).elim) (fun _ _ _ _ _ z => (Bool.false_ne_true z).elim)
theorem onE_bin {f} (h : onE { bin := f } ex = true) : ∃ l o r p, ex = .BinOp l o r p ∧ f l o r = true :=
  onE_elim (P := fun ex => ∃ l o r p, ex = .BinOp l o r p ∧ f l o r = true) h (fun _ _ _ z => (Bool.false_ne_true z).elim) (fun _ _ z => (Bool.false_ne_true z).elim) (fun l o r p z => ⟨l, o, r, p, rfl, z⟩) (fun _ _ _ z => (Bool.false_ne_true z).elim) (fun _ _ _ _ z => (Bool.false_ne_true z).elim) (fun _ _ _ z => (Bool.false_ne_true z).elim) (fun _ _ _ _ z => (Bool.false_ne_true z).elim) (fun _ _ z => (Bool.false_ne_true z).elim) (fun _ _ _ z => (Bool.false_ne_true z).elim) (fun _ _ _ z => (Bool.false_ne_true z).elim) (fun _ _ _ _ z => (Bool.false_ne_true z).elim) (fun _ _ _ _ z => (Bool.false_ne_true z).elim) (fun _ _ _ z => (Bool.false_ne_true z).elim) (fun _ _ _ _ z => (Bool.false_ne_true z).elim) (fun _ _ _ z => (Bool.false_ne_true z).elim) (fun _ _ _ _ z => (Bool.false_ne_true z).elim) (fun _ _ _ _ _ z => (Bool.false_ne_true z).elim)
theorem onE_un {f} (h : onE { un := f } ex = true) : ∃ o x p, ex = .UnaryOp o x p ∧ f o x = true :=
  onE_elim (P := fun ex => ∃ o x p, ex = .UnaryOp o x p ∧ f o x = true) h (fun _ _ _ z => (Bool.false_ne_true z).elim) (fun _ _ z => (Bool.false_ne_true z).elim) (fun _ _ _ _ z => (Bool.false_ne_true z).elim) (fun o x p z => ⟨o, x, p, rfl, z⟩) (fun _ _ _ _ z => (Bool.false_ne_true z).elim) (fun _ _ _ z => (Bool.false_ne_true z).elim) (fun _ _ _ _ z => (Bool.false_ne_true z).elim) (fun _ _ z => (Bool.false_ne_true z).elim) (fun _ _ _ z => (Bool.false_ne_true z).elim) (fun _ _ _ z => (Bool.false_ne_true z).elim) (fun _ _ _ _ z => (Bool.false_ne_true z).elim) (fun _ _ _ _ z => (Bool.false_ne_true z).elim) (fun _ _ _ z => (Bool.false_ne_true z).elim) (fun _ _ _ _ z => (Bool.false_ne_true z).elim) (fun _ _ _ z => (Bool.false_ne_true z).elim) (fun _ _ _ _ z => (Bool.false_ne_true z).elim) (fun _ _ _ _ _ z => (Bool.false_ne_true z).elim)
theorem onE_cmp {f} (h : onE { cmp := f } ex = true) : ∃ l o r p, ex = .Compare l o r p ∧ f l o r = true :=
  onE_elim (P := fun ex => ∃ l o r p, ex = .Compare l o r p ∧ f l o r = true) h (fun _ _ _ z => (Bool.false_ne_true z).elim) (fun _ _ z => (Bool.false_ne_true z).elim) (fun _ _ _ _ z => (Bool.false_ne_true z).elim) (fun _ _ _ z => (Bool.false_ne_true z).elim) (fun l o r p z => ⟨l, o, r, p, rfl, z⟩) (fun _ _ _ z => (Bool.false_ne_true z).elim) (fun _ _ _ _ z => (Bool.false_ne_true z).elim) (fun _ _ z => (Bool.false_ne_true z).elim) (fun _ _ _ z => (Bool.false_ne_true z).elim) (fun _ _ _ z => (Bool.false_ne_true z).elim) (fun _ _ _ _ z => (Bool.false_ne_true z).elim) (fun _ _ _ _ z => (Bool.false_ne_true z).elim) (fun _ _ _ z => (Bool.false_ne_true z).elim) (fun _ _ _ _ z => (Bool.false_ne_true z).elim) (fun _ _ _ z => (Bool.false_ne_true z).elim) (fun _ _ _ _ z => (Bool.false_ne_true z).elim) (fun _ _ _ _ _ z => (Bool.false_ne_true z).elim)
theorem onE_bop {f} (h : onE { bop := f } ex = true) : ∃ o l p, ex = .BoolOp o l p ∧ f o l = true :=
  onE_elim (P := fun ex => ∃ o l p, ex = .BoolOp o l p ∧ f o l = true) h (fun _ _ _ z => (Bool.false_ne_true z).elim) (fun _ _ z => (Bool.false_ne_true z).elim) (fun _ _ _ _ z => (Bool.false_ne_true z).elim) (fun _ _ _ z => (Bool.false_ne_true z).elim) (fun _ _ _ _ z => (Bool.false_ne_true z).elim) (fun o l p z => ⟨o, l, p, rfl, z⟩) (fun _ _ _ _ z => (Bool.false_ne_true z).elim) (fun _ _ z => (Bool.false_ne_true z).elim) (fun _ _ _ z => (Bool.false_ne_true z).elim) (fun _ _ _ z => (Bool.false_ne_true z).elim) (fun _ _ _ _ z => (Bool.false_ne_true z).elim) (fun _ _ _ _ z => (Bool.false_ne_true z).elim) (fun _ _ _ z => (Bool.false_ne_true z).elim) (fun _ _ _ _ z => (Bool.false_ne_true z).elim) (fun _ _ _ z => (Bool.false_ne_true z).elim) (fun _ _ _ _ z => (Bool.false_ne_true z).elim) (fun _ _ _ _ _ z => (Bool.false_ne_true z).elim)
theorem onE_ife {f} (h : onE { ife := f } ex = true) : ∃ t a b p, ex = .IfExp t a b p ∧ f t a b = true :=
  onE_elim (P := fun ex => ∃ t a b p, ex = .IfExp t a b p ∧ f t a b = true) h (fun _ _ _ z => (Bool.false_ne_true z).elim) (fun _ _ z => (Bool.false_ne_true z).elim) (fun _ _ _ _ z => (Bool.false_ne_true z).elim) (fun _ _ _ z => (Bool.false_ne_true z).elim) (fun _ _ _ _ z => (Bool.false_ne_true z).elim) (fun _ _ _ z => (Bool.false_ne_true z).elim) (fun t a b p z => ⟨t, a, b, p, rfl, z⟩) (fun _ _ z => (Bool.false_ne_true z).elim) (fun _ _ _ z => (Bool.false_ne_true z).elim) (fun _ _ _ z => (Bool.false_ne_true z).elim) (fun _ _ _ _ z => (Bool.false_ne_true z).elim) (fun _ _ _ _ z => (Bool.false_ne_true z).elim) (fun _ _ _ z => (Bool.false_ne_true z).elim) (fun _ _ _ _ z => (Bool.false_ne_true z).elim) (fun _ _ _ z => (Bool.false_ne_true z).elim) (fun _ _ _ _ z => (Bool.false_ne_true z).elim) (fun _ _ _ _ _ z => (Bool.false_ne_true z).elim)
theorem onE_list {f} (h : onE { list := f } ex = true) : ∃ l p, ex = .List l p ∧ f l = true :=
  onE_elim (P := fun ex => ∃ l p, ex = .List l p ∧ f l = true) h (fun _ _ _ z => (Bool.false_ne_true z).elim) (fun _ _ z => (Bool.false_ne_true z).elim) (fun _ _ _ _ z => (Bool.false_ne_true z).elim) (fun _ _ _ z => (Bool.false_ne_true z).elim) (fun _ _ _ _ z => (Bool.false_ne_true z).elim) (fun _ _ _ z => (Bool.false_ne_true z).elim) (fun _ _ _ _ z => (Bool.false_ne_true z).elim) (fun l p z => ⟨l, p, rfl, z⟩) (fun _ _ _ z => (Bool.false_ne_true z).elim) (fun _ _ _ z => (Bool.false_ne_true z).elim) (fun _ _ _ _ z => (Bool.false_ne_true z).elim) (fun _ _ _ _ z => (Bool.false_ne_true z).elim) (fun _ _ _ z => (Bool.false_ne_true z).elim) (fun _ _ _ _ z => (Bool.false_ne_true z).elim) (fun _ _ _ z => (Bool.false_ne_true z).elim) (fun _ _ _ _ z => (Bool.false_ne_true z).elim) (fun _ _ _ _ _ z => (Bool.false_ne_true z).elim)
theorem onE_tup {f} (h : onE { tup := f } ex = true) : ∃ l k p, ex = .Tuple l k p ∧ f l k p = true :=
  onE_elim (P := fun ex => ∃ l k p, ex = .Tuple l k p ∧ f l k p = true) h (fun _ _ _ z => (Bool.false_ne_true z).elim) (fun _ _ z => (Bool.false_ne_true z).elim) (fun _ _ _ _ z => (Bool.false_ne_true z).elim) (fun _ _ _ z => (Bool.false_ne_true z).elim) (fun _ _ _ _ z => (Bool.false_ne_true z).elim) (fun _ _ _ z => (Bool.false_ne_true z).elim) (fun _ _ _ _ z => (Bool.false_ne_true z).elim) (fun _ _ z => (Bool.false_ne_true z).elim) (fun l k p z => ⟨l, k, p, rfl, z⟩) (fun _ _ _ z => (Bool.false_ne_true z).elim) (fun _ _ _ _ z => (Bool.false_ne_true z).elim) (fun _ _ _ _ z => (Bool.false_ne_true z).elim) (fun _ _ _ z => (Bool.false_ne_true z).elim) (fun _ _ _ _ z => (Bool.false_ne_true z).elim) (fun _ _ _ z => (Bool.false_ne_true z).elim) (fun _ _ _ _ z => (Bool.false_ne_true z).elim) (fun _ _ _ _ _ z => (Bool.false_ne_true z).elim)
theorem onE_sub {f} (h : onE { sub := f } ex = true) : ∃ o i p, ex = .Subscript o i p ∧ f o i = true :=
  onE_elim (P := fun ex => ∃ o i p, ex = .Subscript o i p ∧ f o i = true) h (fun _ _ _ z => (Bool.false_ne_true z).elim) (fun _ _ z => (Bool.false_ne_true z).elim) (fun _ _ _ _ z => (Bool.false_ne_true z).elim) (fun _ _ _ z => (Bool.false_ne_true z).elim) (fun _ _ _ _ z => (Bool.false_ne_true z).elim) (fun _ _ _ z => (Bool.false_ne_true z).elim) (fun _ _ _ _ z => (Bool.false_ne_true z).elim) (fun _ _ z => (Bool.false_ne_true z).elim) (fun _ _ _ z => (Bool.false_ne_true z).elim) (fun o i p z => ⟨o, i, p, rfl, z⟩) (fun _ _ _ _ z => (Bool.false_ne_true z).elim) (fun _ _ _ _ z => (Bool.false_ne_true z).elim) (fun _ _ _ z => (Bool.false_ne_true z).elim) (fun _ _ _ _ z => (Bool.false_ne_true z).elim) (fun _ _ _ z => (Bool.false_ne_true z).elim) (fun _ _ _ _ z => (Bool.false_ne_true z).elim) (fun _ _ _ _ _ z => (Bool.false_ne_true z).elim)
theorem onE_slice {f} (h : onE { slice := f } ex = true) : ∃ a b c p, ex = .Slice a b c p ∧ f a b c = true :=
  onE_elim (P := fun ex => ∃ a b c p, ex = .Slice a b c p ∧ f a b c = true) h (fun _ _ _ z => (Bool.false_ne_true z).elim) (fun _ _ z => (Bool.false_ne_true z).elim) (fun _ _ _ _ z => (Bool.false_ne_true z).elim) (fun _ _ _ z => (Bool.false_ne_true z).elim) (fun _ _ _ _ z => (Bool.false_ne_true z).elim) (fun _ _ _ z => (Bool.false_ne_true z).elim) (fun _ _ _ _ z => (Bool.false_ne_true z).elim) (fun _ _ z => (Bool.false_ne_true z).elim) (fun _ _ _ z => (Bool.false_ne_true z).elim) (fun _ _ _ z => (Bool.false_ne_true z).elim) (fun a b c p z => ⟨a, b, c, p, rfl, z⟩) (fun _ _ _ _ z => (Bool.false_ne_true z).elim) (fun _ _ _ z => (Bool.false_ne_true z).elim) (fun _ _ _ _ z => (Bool.false_ne_true z).elim) (fun _ _ _ z => (Bool.false_ne_true z).elim) (fun _ _ _ _ z => (Bool.false_ne_true z).elim) (fun _ _ _ _ _ z => (Bool.false_ne_true z).elim)
theorem onE_call {f} (h : onE { call := f } ex = true) : ∃ g a k p, ex = .Call g a k p ∧ f g a k p = true :=
  onE_elim (P := fun ex => ∃ g a k p, ex = .Call g a k p ∧ f g a k p = true) h (fun _ _ _ z => (Bool.false_ne_true z).elim) (fun _ _ z => (Bool.false_ne_true z).elim) (fun _ _ _ _ z => (Bool.false_ne_true z).elim) (fun _ _ _ z => (Bool.false_ne_true z).elim) (fun _ _ _ _ z => (Bool.false_ne_true z).elim) (fun _ _ _ z => (Bool.false_ne_true z).elim) (fun _ _ _ _ z => (Bool.false_ne_true z).elim) (fun _ _ z => (Bool.false_ne_true z).elim) (fun _ _ _ z => (Bool.false_ne_true z).elim) (fun _ _ _ z => (Bool.false_ne_true z).elim) (fun _ _ _ _ z => (Bool.false_ne_true z).elim) (fun g a k p z => ⟨g, a, k, p, rfl, z⟩) (fun _ _ _ z => (Bool.false_ne_true z).elim) (fun _ _ _ _ z => (Bool.false_ne_true z).elim) (fun _ _ _ z => (Bool.false_ne_true z).elim) (fun _ _ _ _ z => (Bool.false_ne_true z).elim) (fun _ _ _ _ _ z => (Bool.false_ne_true z).elim)
theorem onE_attr {f} (h : onE { attr := f } ex = true) : ∃ o n p, ex = .Attribute o n p ∧ f o n p = true :=
  onE_elim (P := fun ex => ∃ o n p, ex = .Attribute o n p ∧ f o n p = true) h (fun _ _ _ z => (Bool.false_ne_true z).elim) (fun _ _ z => (Bool.false_ne_true z).elim) (fun _ _ _ _ z => (Bool.false_ne_true z).elim) (fun _ _ _ z => (Bool.false_ne_true z).elim) (fun _ _ _ _ z => (Bool.false_ne_true z).elim) (fun _ _ _ z => (Bool.false_ne_true z).elim) (fun _ _ _ _ z => (Bool.false_ne_true z).elim) (fun _ _ z => (Bool.false_ne_true z).elim) (fun _ _ _ z => (Bool.false_ne_true z).elim) (fun _ _ _ z => (Bool.false_ne_true z).elim) (fun _ _ _ _ z => (Bool.false_ne_true z).elim) (fun _ _ _ _ z => (Bool.false_ne_true z).elim) (fun o n p z => ⟨o, n, p, rfl, z⟩) (fun _ _ _ _ z => (Bool.false_ne_true z).elim) (fun _ _ _ z => (Bool.false_ne_true z).elim) (fun _ _ _ _ z => (Bool.false_ne_true z).elim) (fun _ _ _ _ _ z => (Bool.false_ne_true z).elim)
theorem onE_comp {f} (h : onE { comp := f } ex = true) : ∃ e g s p, ex = .ListComp e g s p ∧ f e g s = true :=
  onE_elim (P := fun ex => ∃ e g s p, ex = .ListComp e g s p ∧ f e g s = true) h (fun _ _ _ z => (Bool.false_ne_true z).elim) (fun _ _ z => (Bool.false_ne_true z).elim) (fun _ _ _ _ z => (Bool.false_ne_true z).elim) (fun _ _ _ z => (Bool.false_ne_true z).elim) (fun _ _ _ _ z => (Bool.false_ne_true z).elim) (fun _ _ _ z => (Bool.false_ne_true z).elim) (fun _ _ _ _ z => (Bool.false_ne_true z).elim) (fun _ _ z => (Bool.false_ne_true z).elim) (fun _ _ _ z => (Bool.false_ne_true z).elim) (fun _ _ _ z => (Bool.false_ne_true z).elim) (fun _ _ _ _ z => (Bool.false_ne_true z).elim) (fun _ _ _ _ z => (Bool.false_ne_true z).elim) (fun _ _ _ z => (Bool.false_ne_true z).elim) (fun e g s p z => ⟨e, g, s, p, rfl, z⟩) (fun _ _ _ z => (Bool.false_ne_true z).elim) (fun _ _ _ _ z => (Bool.false_ne_true z).elim) (fun _ _ _ _ _ z => (Bool.false_ne_true z).elim)
theorem onE_scomp {f} (h : onE { scomp := f } ex = true) : ∃ e g s p, ex = .SetComp e g s p ∧ f e g s = true :=
  onE_elim (P := fun ex => ∃ e g s p, ex = .SetComp e g s p ∧ f e g s = true) h (fun _ _ _ z => (Bool.false_ne_true z).elim) (fun _ _ z => (Bool.false_ne_true z).elim) (fun _ _ _ _ z => (Bool.false_ne_true z).elim) (fun _ _ _ z => (Bool.false_ne_true z).elim) (fun _ _ _ _ z => (Bool.false_ne_true z).elim) (fun _ _ _ z => (Bool.false_ne_true z).elim) (fun _ _ _ _ z => (Bool.false_ne_true z).elim) (fun _ _ z => (Bool.false_ne_true z).elim) (fun _ _ _ z => (Bool.false_ne_true z).elim) (fun _ _ _ z => (Bool.false_ne_true z).elim) (fun _ _ _ _ z => (Bool.false_ne_true z).elim) (fun _ _ _ _ z => (Bool.false_ne_true z).elim) (fun _ _ _ z => (Bool.false_ne_true z).elim) (fun _ _ _ _ z => (Bool.false_ne_true z).elim) (fun _ _ _ z => (Bool.false_ne_true z).elim) (fun e g s p z => ⟨e, g, s, p, rfl, z⟩) (fun _ _ _ _ _ z => (Bool.false_ne_true z).elim)
theorem onE_dcomp {f} (h : onE { dcomp := f } ex = true) : ∃ k v g s p, ex = .DictComp k v g s p ∧ f k v g s = true :=
  onE_elim (P := fun ex => ∃ k v g s p, ex = .DictComp k v g s p ∧ f k v g s = true) h (fun _ _ _ z => (Bool.false_ne_true z).elim) (fun _ _ z => (Bool.false_ne_true z).elim) (fun _ _ _ _ z => (Bool.false_ne_true z).elim) (fun _ _ _ z => (Bool.false_ne_true z).elim) (fun _ _ _ _ z => (Bool.false_ne_true z).elim) (fun _ _ _ z => (Bool.false_ne_true z).elim) (fun _ _ _ _ z => (Bool.false_ne_true z).elim) (fun _ _ z => (Bool.false_ne_true z).elim) (fun _ _ _ z => (Bool.false_ne_true z).elim) (fun _ _ _ z => (Bool.false_ne_true z).elim) (fun _ _ _ _ z => (Bool.false_ne_true z).elim) (fun _ _ _ _ z => (Bool.false_ne_true z).elim) (fun _ _ _ z => (Bool.false_ne_true z).elim) (fun _ _ _ _ z => (Bool.false_ne_true z).elim) (fun _ _ _ z => (Bool.false_ne_true z).elim) (fun _ _ _ _ z => (Bool.false_ne_true z).elim) (fun k v g s p z => ⟨k, v, g, s, p, rfl, z⟩)
/-- a call of a name, no keywords -/
noncomputable def onNC (ex : Expr) (f : Str → List Expr → Bool) : Bool := onE { call := fun g es ks _ => onE { name := fun x => nil? ks (f x es) } g } ex
theorem onNC_eq {f} (h : onNC ex f = true) : ∃ x px es p, ex = .Call (.Name x px) es [] p ∧ f x es = true := by
  obtain ⟨g, es, ks, p, rfl, h⟩ := onE_call h
  obtain ⟨x, px, rfl, h⟩ := onE_name h
  obtain ⟨rfl, h⟩ := nil?_eq h
  exact ⟨x, px, es, p, rfl, h⟩
/-- a method's call, no keywords -/
noncomputable def onMC (ex : Expr) (f : Expr → Str → Pos → List Expr → Pos → Bool) : Bool := onE { call := fun g es ks p => onE { attr := fun o n ap => nil? ks (f o n ap es p) } g } ex
theorem onMC_eq {f} (h : onMC ex f = true) : ∃ o n ap es p, ex = .Call (.Attribute o n ap) es [] p ∧ f o n ap es p = true := by
  obtain ⟨g, es, ks, p, rfl, h⟩ := onE_call h
  obtain ⟨o, n, ap, rfl, h⟩ := onE_attr h
  obtain ⟨rfl, h⟩ := nil?_eq h
  exact ⟨o, n, ap, es, p, rfl, h⟩
/-- a comparison of two -/
noncomputable def onC1 (ex : Expr) (f : Expr → CmpOp → Expr → Bool) : Bool := onE { cmp := fun l os rs => one? os fun o => one? rs fun r => f l o r } ex
theorem onC1_eq {f} (h : onC1 ex f = true) : ∃ l o r p, ex = .Compare l [o] [r] p ∧ f l o r = true := by
  obtain ⟨l, os, rs, p, rfl, h⟩ := onE_cmp h
  obtain ⟨o, rfl, h⟩ := one?_eq h
  obtain ⟨r, rfl, h⟩ := one?_eq h
  exact ⟨l, o, r, p, rfl, h⟩
end

/-- a comprehension over one row -/
noncomputable def onLC (ex : Expr) (f : Expr → Str → Expr → List Expr → Scope → Bool) : Bool := onE { comp := fun e gs sc => one? gs fun g => onE { name := fun x => g.is_async == 0 && f e x g.iter g.ifs sc } g.target } ex
theorem onLC_eq {ex : Expr} {f} (h : onLC ex f = true) : ∃ e x px it ifs sc p, ex = .ListComp e [⟨.Name x px, it, ifs, 0⟩] sc p ∧ f e x it ifs sc = true := by
  obtain ⟨e, gs, sc, p, rfl, h⟩ := onE_comp h
  obtain ⟨⟨tg, it, ifs, as⟩, rfl, h⟩ := one?_eq h
  obtain ⟨x, px, e2, h⟩ := onE_name h
  rw [Bool.and_eq_true] at h
  obtain ⟨h1, h⟩ := h
  have h1 := eq_of_beq h1
  simp only at h1 e2
  subst h1; subst e2
  exact ⟨e, x, px, it, ifs, sc, p, rfl, h⟩
noncomputable def onSC (ex : Expr) (f : Expr → Str → Expr → Scope → Bool) : Bool := onE { scomp := fun e gs sc => one? gs fun g => onE { name := fun x => g.is_async == 0 && nil? g.ifs true && f e x g.iter sc } g.target } ex
theorem onSC_eq {ex : Expr} {f} (h : onSC ex f = true) : ∃ e x px it sc p, ex = .SetComp e [⟨.Name x px, it, [], 0⟩] sc p ∧ f e x it sc = true := by
  obtain ⟨e, gs, sc, p, rfl, h⟩ := onE_scomp h
  obtain ⟨⟨tg, it, ifs, as⟩, rfl, h⟩ := one?_eq h
  obtain ⟨x, px, e2, h⟩ := onE_name h
  rw [Bool.and_eq_true, Bool.and_eq_true] at h
  obtain ⟨⟨h1, h2⟩, h⟩ := h
  have h1 := eq_of_beq h1
  have h3 : ifs = [] := (nil?_eq h2).1
  simp only at h1 e2
  subst h1; subst h3; subst e2
  exact ⟨e, x, px, it, sc, p, rfl, h⟩
noncomputable def onDC (ex : Expr) (f : Expr → Expr → Str → Expr → Scope → Bool) : Bool := onE { dcomp := fun k v gs sc => one? gs fun g => onE { name := fun x => g.is_async == 0 && nil? g.ifs true && f k v x g.iter sc } g.target } ex
theorem onDC_eq {ex : Expr} {f} (h : onDC ex f = true) : ∃ k v x px it sc p, ex = .DictComp k v [⟨.Name x px, it, [], 0⟩] sc p ∧ f k v x it sc = true := by
  obtain ⟨k, v, gs, sc, p, rfl, h⟩ := onE_dcomp h
  obtain ⟨⟨tg, it, ifs, as⟩, rfl, h⟩ := one?_eq h
  obtain ⟨x, px, e2, h⟩ := onE_name h
  rw [Bool.and_eq_true, Bool.and_eq_true] at h
  obtain ⟨⟨h1, h2⟩, h⟩ := h
  have h1 := eq_of_beq h1
  have h3 : ifs = [] := (nil?_eq h2).1
  simp only at h1 e2
  subst h1; subst h3; subst e2
  exact ⟨k, v, x, px, it, sc, p, rfl, h⟩
/-- a plain thing ahead of a dot -/
noncomputable def baseOk (ex : Expr) : Bool := onE { name := fun _ => true, cst := fun _ => true, sub := fun _ _ => true, call := fun g es ks _ => onE { name := fun _ => one? es fun _ => nil? ks true } g } ex
theorem baseOk_eq {o : Expr} (h : baseOk o = true) (n : Str) (env : Env) (w : Sem Value) : attributeBase o n env w = w := by
  cases o with
  | Constant c k p => rfl
  | Name x p => rfl
  | Subscript a b p => rfl
  | Call g es ks p =>
    obtain ⟨x, px, rfl, h⟩ := onE_name (show onE _ g = true from h)
    obtain ⟨e, rfl, h⟩ := one?_eq h
    obtain ⟨rfl, _⟩ := nil?_eq h
    rfl
  | _ => exact (Bool.false_ne_true h).elim
noncomputable def isSetd : PE → Bool
  | _ => false
noncomputable def isNone' : PE → Bool
  | .const .none => true
  | _ => false
section
variable (frees : List Str) (fname : Nat → Str)
mutual
noncomputable def encE (ks : List (Str × NameKind)) (ns : List Str) : PE → Expr → Bool
  | .const v, ex => onE { cst := encC v } ex
  | .name i, ex => onE { name := fun x => ns[i]? == some x && !(x == ("__debug__" : Str)) } ex
  | .glob b, ex => onE { name := fun x => b.isTy && x == Str.ofString b.name && isGlob ks x && frees.contains x } ex
  | .bin op l r, ex => onE { bin := fun l' op' r' => op == op' && encE ks ns l l' && encE ks ns r r' } ex
  | .un op x, ex => onE { un := fun op' x' => op == op' && encE ks ns x x' } ex
  | .cmp op l r, ex => onC1 ex fun l' op' r' => op == op' && encE ks ns l l' && encE ks ns r r' && !(behindInMarks op r')
  | .bop op xs, ex => onE { bop := fun op' xs' => op == op' && encEs ks ns xs xs' } ex
  | .ife t a b, ex => onE { ife := fun t' a' b' => encE ks ns t t' && encE ks ns a a' && encE ks ns b b' } ex
  | .list xs, ex => onE { list := fun es => encEs ks ns xs es } ex
  | .tup xs, ex => onE { tup := fun es _ _ => encEs ks ns xs es } ex
  | .sub o i, ex => onE { sub := fun o' i' => encE ks ns o o' && encE ks ns i i' } ex
  | .slice o a b s, ex => onE { sub := fun o' sl => onE { slice := fun a' b' s' => encE ks ns o o' && (match a' with | some e => encE ks ns a e | none => isNone' a) && (match b' with | some e => encE ks ns b e | none => isNone' b) && (match s' with | some e => encE ks ns s e | none => isNone' s) } sl } ex
  | .call f xs, ex => onNC ex fun x es => x == fname f && isGlob ks x && encEs ks ns xs es
  | .bcall f xs, ex => onNC ex fun x es => x == Str.ofString f.name && isGlob ks x && frees.contains x && encEs ks ns xs es
  | .meth o m xs, ex => onMC ex fun o' n apos es pos => n == Str.ofString m.name && baseOk o' && apos.endLine == pos.line && decide (es.length < 20) && encE ks ns o o' && encEs ks ns xs es
  | .attr x n, ex => onE { attr := fun x' a _ => a == Str.ofString n.name && baseOk x' && encE ks ns x x' } ex
  | .vcall i xs, ex => onNC ex fun x es => ns[i]? == some x && !(x == ("__debug__" : Str)) && encEs ks ns xs es
  | .notimpl x, ex => onC1 ex fun l op r => onE { name := fun y => op == .Is && y == Str.ofString "NotImplemented" && isGlob ks y && frees.contains y && encE ks ns x l } r
  | .comp caps elt src conds, ex => onLC ex fun e' x it ifs scope => encE ks ns src it && !(isSetd src) && compOkB ks ns scope x caps && encE (relab ks scope.names) (ns ++ [x]) elt e' && encEs (relab ks scope.names) (ns ++ [x]) conds ifs
  | .setc caps elt src, ex => onSC ex fun e' x it scope => encE ks ns src it && !(isSetd src) && compOkB ks ns scope x caps && encE (relab ks scope.names) (ns ++ [x]) elt e'
  | .dictc caps key val src, ex => onDC ex fun k' v' x it scope => encE ks ns src it && !(isSetd src) && compOkB ks ns scope x caps && encE (relab ks scope.names) (ns ++ [x]) key k' && encE (relab ks scope.names) (ns ++ [x]) val v'
noncomputable def encEs (ks : List (Str × NameKind)) (ns : List Str) : PEs → List Expr → Bool
  | .nil, es => (match es with | [] => true | _ => false)
  | .cons p ps, es => (match es with | e :: r => encE ks ns p e && encEs ks ns ps r | _ => false)
end
end
theorem encC_cases {v : AV} {c : Const} (h : encC v c = true) : (∃ i, v = .int i ∧ c = .int i) ∨ (∃ b, v = .bool b ∧ c = .bool b) ∨ (v = .none ∧ c = .none) ∨ ∃ s, v = .str s ∧ c = .str s := by
  unfold encC at h
  split at h
  · exact .inl ⟨_, rfl, by rw [eq_of_beq h]⟩
  · exact .inr (.inl ⟨_, rfl, by rw [eq_of_beq h]⟩)
  · exact .inr (.inr (.inl ⟨rfl, rfl⟩))
  · exact .inr (.inr (.inr ⟨_, rfl, by rw [eq_of_beq h]⟩))
  · cases h
theorem isNone'_eq {p : PE} (h : isNone' p = true) : p = .const .none := by
  unfold isNone' at h
  split at h
  · rfl
  · cases h

theorem compOk_of {ks : List (Str × NameKind)} {ns : List Str} {scope : Scope} {x : Str} {caps : List Nat} {env : Env} (hks : env.scope.names = ks) (h : compOkB ks ns scope x caps = true) : CompOk ns env scope x caps := by
  simp only [compOkB, Bool.and_eq_true, List.all_eq_true, Bool.not_eq_true', beq_eq_false_iff_ne, beq_iff_eq, Bool.or_eq_true] at h
  obtain ⟨⟨⟨⟨⟨h1, h2⟩, h3⟩, h4⟩, h5⟩, h6⟩ := h
  refine ⟨h1, h2, fun y hy e => (h3 y hy).resolve_left fun n => n e, h4, fun y hy => ?_, fun i hi y hy => ?_⟩
  · have := (h5 _ hy).resolve_left fun n => n rfl
    show env.scope.names.lookup y = some .cell
    rw [hks]; exact this
  · have := h6 i hi
    rw [hy] at this
    exact beq_iff_eq.mp this

theorem boot_notImpl : bootBuiltins (Str.ofString "NotImplemented") = some .notImplemented := PyProof.Rows.Boot.«NotImplemented»
theorem relab_eq {ks : List (Str × NameKind)} {scope : Scope} {env : Env} (hks : env.scope.names = ks) (hk : env.scope.kind = .function) : (relabel scope env).names = relab ks scope.names := by
  unfold relabel relab
  simp only [hk]
  refine List.map_congr_left fun p _ => ?_
  obtain ⟨n, k⟩ := p
  have : env.kindOf n = ks.lookup n := by rw [← hks]; rfl
  simp [this]

/- equations -/
section
variable {frees : List Str} {fname : Nat → Str} {ks : List (Str × NameKind)} {ns : List Str}
theorem ec_const {v ex} : encE frees fname ks ns (.const v) ex = onE { cst := encC v } ex := rfl
theorem ec_name {i ex} : encE frees fname ks ns (.name i) ex = onE { name := fun x => ns[i]? == some x && !(x == ("__debug__" : Str)) } ex := rfl
theorem ec_glob {b ex} : encE frees fname ks ns (.glob b) ex = onE { name := fun x => b.isTy && x == Str.ofString b.name && isGlob ks x && frees.contains x } ex := rfl
theorem ec_bin {op l r ex} : encE frees fname ks ns (.bin op l r) ex = onE { bin := fun l' op' r' => op == op' && encE frees fname ks ns l l' && encE frees fname ks ns r r' } ex := rfl
theorem ec_un {op x ex} : encE frees fname ks ns (.un op x) ex = onE { un := fun op' x' => op == op' && encE frees fname ks ns x x' } ex := rfl
theorem ec_cmp {op l r ex} : encE frees fname ks ns (.cmp op l r) ex = onC1 ex fun l' op' r' => op == op' && encE frees fname ks ns l l' && encE frees fname ks ns r r' && !(behindInMarks op r') := rfl
theorem ec_bop {op xs ex} : encE frees fname ks ns (.bop op xs) ex = onE { bop := fun op' xs' => op == op' && encEs frees fname ks ns xs xs' } ex := rfl
theorem ec_ife {t a b ex} : encE frees fname ks ns (.ife t a b) ex = onE { ife := fun t' a' b' => encE frees fname ks ns t t' && encE frees fname ks ns a a' && encE frees fname ks ns b b' } ex := rfl
theorem ec_list {xs ex} : encE frees fname ks ns (.list xs) ex = onE { list := fun es => encEs frees fname ks ns xs es } ex := rfl
theorem ec_tup {xs ex} : encE frees fname ks ns (.tup xs) ex = onE { tup := fun es _ _ => encEs frees fname ks ns xs es } ex := rfl
theorem ec_sub {o i ex} : encE frees fname ks ns (.sub o i) ex = onE { sub := fun o' i' => encE frees fname ks ns o o' && encE frees fname ks ns i i' } ex := rfl
theorem ec_slice {o a b s ex} : encE frees fname ks ns (.slice o a b s) ex = onE { sub := fun o' sl => onE { slice := fun a' b' s' => encE frees fname ks ns o o' && (match a' with | some e => encE frees fname ks ns a e | none => isNone' a) && (match b' with | some e => encE frees fname ks ns b e | none => isNone' b) && (match s' with | some e => encE frees fname ks ns s e | none => isNone' s) } sl } ex := rfl
theorem ec_call {f xs ex} : encE frees fname ks ns (.call f xs) ex = onNC ex fun x es => x == fname f && isGlob ks x && encEs frees fname ks ns xs es := rfl
theorem ec_bcall {f xs ex} : encE frees fname ks ns (.bcall f xs) ex = onNC ex fun x es => x == Str.ofString f.name && isGlob ks x && frees.contains x && encEs frees fname ks ns xs es := rfl
theorem ec_meth {o m xs ex} : encE frees fname ks ns (.meth o m xs) ex = onMC ex fun o' n apos es pos => n == Str.ofString m.name && baseOk o' && apos.endLine == pos.line && decide (es.length < 20) && encE frees fname ks ns o o' && encEs frees fname ks ns xs es := rfl
theorem ec_attr {x n ex} : encE frees fname ks ns (.attr x n) ex = onE { attr := fun x' a _ => a == Str.ofString n.name && baseOk x' && encE frees fname ks ns x x' } ex := rfl
theorem ec_vcall {i xs ex} : encE frees fname ks ns (.vcall i xs) ex = onNC ex fun x es => ns[i]? == some x && !(x == ("__debug__" : Str)) && encEs frees fname ks ns xs es := rfl
theorem ec_notimpl {x ex} : encE frees fname ks ns (.notimpl x) ex = onC1 ex fun l op r => onE { name := fun y => op == .Is && y == Str.ofString "NotImplemented" && isGlob ks y && frees.contains y && encE frees fname ks ns x l } r := rfl
theorem ec_comp {caps elt src conds ex} : encE frees fname ks ns (.comp caps elt src conds) ex = onLC ex fun e' x it ifs scope => encE frees fname ks ns src it && !(isSetd src) && compOkB ks ns scope x caps && encE frees fname (relab ks scope.names) (ns ++ [x]) elt e' && encEs frees fname (relab ks scope.names) (ns ++ [x]) conds ifs := rfl
theorem ec_setc {caps elt src ex} : encE frees fname ks ns (.setc caps elt src) ex = onSC ex fun e' x it scope => encE frees fname ks ns src it && !(isSetd src) && compOkB ks ns scope x caps && encE frees fname (relab ks scope.names) (ns ++ [x]) elt e' := rfl
theorem ec_dictc {caps key val src ex} : encE frees fname ks ns (.dictc caps key val src) ex = onDC ex fun k' v' x it scope => encE frees fname ks ns src it && !(isSetd src) && compOkB ks ns scope x caps && encE frees fname (relab ks scope.names) (ns ++ [x]) key k' && encE frees fname (relab ks scope.names) (ns ++ [x]) val v' := rfl
theorem ecs_nil {es} : encEs frees fname ks ns (.nil) es = (match es with | [] => true | _ => false) := rfl
theorem ecs_cons {p ps es} : encEs frees fname ks ns (.cons p ps) es = (match es with | e :: r => encE frees fname ks ns p e && encEs frees fname ks ns ps r | _ => false) := rfl
end
/- equations end -/
end Mine
end
section
open PySem PySem.W PyProof.Rows
namespace Mine

theorem Fm.ss {c : Cx} {A : Around} {ns : List Str} {env : Env} {st : Fs} {fe : FE} {H H' : Hd} {s s' : Shared} {σ' : Store} (F : Fm c (FrA A) ns env st fe H s.heap) (X : Ss A st.lo st.σ H s σ' H' s') : Fm c (FrA A) ns env (st.at σ') fe H' s'.heap := by
  have wr : ∀ b, Wr st.σ H st.lo b → ∃ o, s.heap.get? b = some o ∧ (∀ es ep, o.data ≠ .dict es ep) ∧ (∀ v, o.data ≠ .cell v) := fun b ⟨n, mo, _, e1, e2⟩ => by
    obtain ⟨a, e3, r⟩ := F.sto.at' n mo e1
    rw [e2] at e3; cases e3
    obtain ⟨o, e, d1, d2, _⟩ := r.data
    exact ⟨o, e, d1, d2⟩
  have nsk : ∀ {a m}, s.heap.Ns a m → s'.heap.Ns a m := fun {a m} n => by
    obtain ⟨o, es, ep, e, d, r⟩ := n
    have nw : ¬ Wr st.σ H st.lo a := fun w => by
      obtain ⟨o', e', d', _⟩ := wr a w
      rw [e] at e'; cases e'
      exact d' _ _ d
    obtain ⟨sl, q⟩ := (X.kv a o nw e).2
    exact ⟨_, es, ep, q, d, r⟩
  have clk : ∀ {a v}, s.heap.IsCell a v → s'.heap.IsCell a v := fun {a v} n => by
    obtain ⟨o, e, d⟩ := n
    have nw : ¬ Wr st.σ H st.lo a := fun w => by
      obtain ⟨o', e', _, d'⟩ := wr a w
      rw [e] at e'; cases e'
      exact d' _ d
    obtain ⟨sl, q⟩ := (X.kv a o nw e).2
    exact ⟨_, q, d⟩
  have nvk : ∀ {x v}, NV s.heap env x v → NV s'.heap env x v := fun {x v} n => by
    rcases n with ⟨k1, m, n, e⟩ | ⟨k1, cc, e, n⟩
    · exact .inl ⟨k1, m, nsk n, e⟩
    · exact .inr ⟨k1, cc, e, clk n⟩
  have ownk : ∀ i a vs, H.o i = some a → IsL s.heap a vs → IsL s'.heap a vs := fun i a vs e l => l.at fun o e' => (X.kv a o (fun ⟨n, _, _, _, e2⟩ => (F.own i a e).2.2.1 n e2) e').2
  have fes : ∀ b o, fe.h.get? b = some o → ∃ o', s.heap.get? b = some o' := fun b o e => F.keep.nw (fun b w => F.hlt b (F.hle b (F.wsub b w))) e
  exact {
    keep := fun b o n e => by
      obtain ⟨p1, sl, p2⟩ := F.keep b o n e
      have nw : ¬ Wr st.σ H st.lo b := fun ⟨m, mo, l1, e1, e2⟩ => by
        rcases Nat.lt_or_ge m st.n0 with hl | hl
        · exact n (F.mw m b mo hl l1 e1 e2)
        · rw [F.mnew m b hl e2] at e; cases e
      obtain ⟨q1, sl', q2⟩ := X.kv b _ nw p2
      exact ⟨fun f => (X.kv b o nw (p1 f)).1 f, sl', q2⟩
    wsub := F.wsub
    base := F.base
    baseF := F.baseF
    basew := F.basew
    hle := fun b q => X.hp b (F.hle b q)
    mle := fun n a e => X.mx n a (F.mle n a e)
    mold := fun n a l e => by
      rcases X.mn n a e with e | ⟨z, _⟩
      · exact F.mold n a l e
      · exact absurd (Nat.lt_of_lt_of_le l F.n0le) (Nat.not_lt.mpr z)
    mnew := fun n a l e => by
      rcases X.mn n a e with e | ⟨_, z⟩
      · exact F.mnew n a l e
      · cases q : fe.h.get? a with
        | none => rfl
        | some o => obtain ⟨o', e'⟩ := fes a o q; rw [z] at e'; cases e'
    mw := fun n a mo l l' q e => by
      have hl := Nat.lt_of_lt_of_le l F.n0le
      obtain ⟨mo', q'⟩ := X.rv n mo hl q
      rcases X.mn n a e with e | ⟨z, _⟩
      · exact F.mw n a mo' l l' q' e
      · exact absurd hl (Nat.not_lt.mpr z)
    hlt := X.live
    felt := F.felt
    wlt := F.wlt
    kind := F.kind
    glob := F.glob
    bi := F.bi
    code := F.code
    ns := let ⟨m, n⟩ := F.ns; ⟨m, nsk n⟩
    hl := X.hp _ F.hl
    lnew := F.lnew
    hc := fun x cc a b => ⟨X.hp _ (F.hc x cc a b).1, (F.hc x cc a b).2⟩
    cl := fun x q => let ⟨cc, v, e, n⟩ := F.cl x q; ⟨cc, v, e, clk n⟩
    capart := F.capart
    vals := fun i x t a b => let ⟨v, n, r⟩ := F.vals i x t a b; ⟨v, nvk n, r.mono (X.vis F.sto) (fun a e => by rw [X.o]; exact e) fun a vs e l => ownk i a vs e l⟩
    own := fun i a e => by
      rw [X.o] at e
      obtain ⟨p, q, r, vs, l⟩ := F.own i a e
      refine ⟨X.hp a p, q, fun n z => ?_, vs, ownk i a vs e l⟩
      rcases X.mn n a z with z | ⟨_, z⟩
      · exact r n z
      · obtain ⟨o, _, e', _⟩ := l; rw [z] at e'; cases e'
    oinj := fun i j a => by rw [X.o]; exact F.oinj i j a
    sto := X.sto
    mh0 := fun n a e => by
      rcases X.mn n a e with e | ⟨_, z⟩
      · exact F.mh0 n a e
      · cases q : c.h0.get? a with
        | none => rfl
        | some o => obtain ⟨o', e'⟩ := fes a o (F.base a o q); rw [z] at e'; cases e'
    n0le := Nat.le_trans F.n0le X.len }

theorem RepO.derefS {c : Cx} {Fr : Addr → Prop} {ns : List Str} {env : Env} {st : Fs} {fe : FE} {H : Hd} {h : Heap} (F : Fm c Fr ns env st fe H h) (hlen : st.ρ.length = ns.length) {w : Value} : ∀ {v : OV}, RepW H (vis h H) w v → RepO h H w (derefS st.ρ st.σ v)
  | .av x, r => RepO.deref F.sto r
  | .own i, ⟨a, e, q⟩ => by
    unfold Mine.derefS
    dsimp only
    split
    · rename_i xs hs
      have hi : i < ns.length := by
        rcases Nat.lt_or_ge i st.ρ.length with h | h
        · omega
        · rw [List.getElem?_eq_none h] at hs; cases hs
      obtain ⟨v, n, z, a', vs, e', o', l, r⟩ := F.vals i _ _ (List.getElem?_eq_getElem hi) hs
      rw [e] at o'; cases o'
      exact ⟨z, a, vs, q, l, r⟩
    · simp [RepO, Rep]
theorem RepOL.derefS {c : Cx} {Fr : Addr → Prop} {ns : List Str} {env : Env} {st : Fs} {fe : FE} {H : Hd} {h : Heap} (F : Fm c Fr ns env st fe H h) (hlen : st.ρ.length = ns.length) : ∀ {ws : List Value} {vs : List OV}, RepWL H (vis h H) ws vs → RepOL h H ws (vs.map (Mine.derefS st.ρ st.σ))
  | [], [], _ => trivial
  | [], _ :: _, r => r.elim
  | _ :: _, [], r => r.elim
  | _ :: _, _ :: _, r => ⟨RepO.derefS F hlen r.1, RepOL.derefS F hlen r.2⟩
theorem plains_rep {H : Hd} {R : Vw} : ∀ {vs : List OV} {ws : List Value} {xs : List AV}, RepWL H R ws vs → plains vs = some xs → RepL R ws xs
  | [], [], xs, _, h => by simp only [plains, Option.some.injEq] at h; subst h; simp [RepL]
  | [], _ :: _, _, r, _ => r.elim
  | _ :: _, [], _, r, _ => r.elim
  | .av x :: vs, w :: ws, xs, r, h => by
    simp only [plains, Option.map_eq_some_iff] at h
    obtain ⟨ys, h1, rfl⟩ := h
    simp only [RepL]
    exact ⟨r.1, plains_rep r.2 h1⟩
  | .own _ :: _, _ :: _, _, _, h => by simp [plains] at h

/-- an expression comes to what is told of it -/
structure PrOk (c : Cx) (q : Bool) (A : Around) (lo : Nat) (σ : Store) (H : Hd) (ex : Expr) (env : Env) (p : PR) (s : Shared) : Prop where
  v : Ev c q A lo σ H (eval ex env) p.v s
  t : EvB c A lo σ H (isTrue ex env (eval ex env)) p.t s

section
variable {c : Cx} {q : Bool} {k : Nat} {A : Around} {lo : Nat} {σ : Store} {H : Hd} {s : Shared}

theorem Ev.bindK {t : Sem Value} {r : ER} {f : OV → Store → ER} {Q E Q' : Value → Shared → Prop} (X : Ev c q A lo σ H t r s) (P : PostE q A lo σ H (r.bind f) s Q E)
    (h : ∀ v σ₁, r = .ok v σ₁ → ∀ w H₁ s₁, Ss A lo σ H s σ₁ H₁ s₁ → RepW H₁ (vis s₁.heap H₁) w v → PostE q A lo σ₁ H₁ (f v σ₁) s₁ Q E → Q' w s₁) : wpAny c.M A t Q' E s := by
  cases r with
  | ok v σ₁ => exact X _ _ fun w H₁ s₁ x r => h v σ₁ rfl w H₁ s₁ x r (P.ss x)
  | exc x σ₁ => exact X _ _ P
  | stuck => exact P.elim
theorem Ev.bindAK {t : Sem Value} {r : ER} {f : AV → Store → ER} {Q E Q' : Value → Shared → Prop} (X : Ev c q A lo σ H t r s) (P : PostE q A lo σ H (r.bindA f) s Q E)
    (h : ∀ v σ₁, r = .ok (.av v) σ₁ → ∀ w H₁ s₁, Ss A lo σ H s σ₁ H₁ s₁ → Rep (vis s₁.heap H₁) w v → PostE q A lo σ₁ H₁ (f v σ₁) s₁ Q E → Q' w s₁) : wpAny c.M A t Q' E s := by
  cases r with
  | ok v σ₁ =>
    cases v with
    | av v => exact X _ _ fun w H₁ s₁ x r => h v σ₁ rfl w H₁ s₁ x r (PostE.ss (r := f v σ₁) P x)
    | own i => exact P.elim
  | exc x σ₁ => exact X _ _ P
  | stuck => exact P.elim
theorem EvL.onK {t : Sem (List Value)} {r : Option (List OV × Store)} {f : List OV → Store → ER} {Q E : Value → Shared → Prop} {Q' : List Value → Shared → Prop} (X : EvL c A lo σ H t r s) (P : PostE q A lo σ H (onL r f) s Q E)
    (h : ∀ l σ₁, r = some (l, σ₁) → ∀ ws H₁ s₁, Ss A lo σ H s σ₁ H₁ s₁ → RepWL H₁ (vis s₁.heap H₁) ws l → PostE q A lo σ₁ H₁ (f l σ₁) s₁ Q E → Q' ws s₁) : wpAny c.M A t Q' E s := by
  cases r with
  | none => exact P.elim
  | some p =>
    obtain ⟨l, σ₁⟩ := p
    exact X l σ₁ rfl _ _ fun ws H₁ s₁ x r => h l σ₁ rfl ws H₁ s₁ x r (PostE.ss (r := f l σ₁) P x)
theorem EvL.onPK {t : Sem (List Value)} {r : Option (List OV × Store)} {f : List AV → Store → ER} {Q E : Value → Shared → Prop} {Q' : List Value → Shared → Prop} (X : EvL c A lo σ H t r s) (P : PostE q A lo σ H (onP r f) s Q E)
    (h : ∀ l σ₁ ol, r = some (ol, σ₁) → plains ol = some l → ∀ ws H₁ s₁, Ss A lo σ H s σ₁ H₁ s₁ → RepL (vis s₁.heap H₁) ws l → PostE q A lo σ₁ H₁ (f l σ₁) s₁ Q E → Q' ws s₁) : wpAny c.M A t Q' E s := by
  refine X.onK P fun ol σ₁ e ws H₁ s₁ x rr P' => ?_
  cases hp : plains ol with
  | none => rw [hp] at P'; exact P'.elim
  | some l => rw [hp] at P'; exact h l σ₁ ol e hp ws H₁ s₁ x (plains_rep rr hp) P'
theorem starEach_cons {env : Env} {e : Expr} {es : List Expr} (h : ∀ x z, e ≠ .Starred x z) : starEach (e :: es) env = (false, eval e env) :: starEach es env := by
  cases e <;> first | rfl | exact absurd rfl (h _ _)
/-- a pure end -/
theorem PostE.res {r : Res} {Q E : Value → Shared → Prop} (P : PostE q A lo σ H (ofRes r σ) s Q E) (S : Sto σ H s.heap) (L : Live H s.heap) : Post q A H r s Q E := by
  cases r with
  | ok v => exact fun w s' k r => P w H s' (.of_kp k S L) r
  | exc x => exact ⟨P.1, fun e s' X => P.2 e H s s' (.of_kp (Kp.refl _ _) S L) X⟩
  | stuck => exact P
end

section
variable {c : Cx} {O : OpsF} (OK : OpsOk c O) {q : Bool} {k : Nat} {A : Around} {H : Hd} {env : Env} {s : Shared} {ns : List Str} {st : Fs} {fe : FE}
include OK
theorem isT_value {ex : Expr} {r : ER} (hm : Rm c q (k + 1) A s.heap) (F : Fm c (FrA A) ns env st fe H s.heap) (hlen : st.ρ.length = ns.length) (X : Ev c q A st.lo st.σ H (eval ex env) r s)
    (he : isTrue ex env (eval ex env) = (do let v ← eval ex env; standAt ex.pos; holding [v] (truthy v))) : EvB c A st.lo st.σ H (isTrue ex env (eval ex env)) (r.truth O.truth st.ρ) s := fun b σ' ht Q E P => by
  cases r with
  | exc _ _ => cases ht
  | stuck => cases ht
  | ok v σ₁ =>
    simp only [ER.truth, Option.map_eq_some_iff, Prod.mk.injEq] at ht
    obtain ⟨b', ht, rfl, rfl⟩ := ht
    refine wpAny_isTrue_value (X _ _ fun w H₁ s₁ x r₁ => ?_) he
    have F₁ := F.ss x
    exact OK.truth (hm.nf x.nf) F₁.hlt (RepO.derefS F₁ hlen r₁) ht _ _ fun s₂ k₂ => P H₁ s₂ (x.trans (.of_kp k₂ F₁.sto F₁.hlt))
theorem prOk_of {ex : Expr} {r : ER} (hm : Rm c q (k + 1) A s.heap) (F : Fm c (FrA A) ns env st fe H s.heap) (hlen : st.ρ.length = ns.length) (X : Ev c q A st.lo st.σ H (eval ex env) r s)
    (he : isTrue ex env (eval ex env) = (do let v ← eval ex env; standAt ex.pos; holding [v] (truthy v))) : PrOk c q A st.lo st.σ H ex env (.of O.truth st.ρ r) s := ⟨X, isT_value OK hm F hlen X he⟩
end
end Mine
end
section
open PySem PySem.W PyProof.Rows
namespace Mine

/-- more is hidden -/
theorem Fm.hide {c : Cx} {Fr : Addr → Prop} {ns : List Str} {env : Env} {st : Fs} {fe : FE} {H H₂ : Hd} {h h₂ : Heap} (F : Fm c Fr ns env st fe H h) (kk : Kh Fr h h₂) (hH : ∀ b, H.p b → H₂.p b) (hN : ∀ b, H₂.p b → H.p b ∨ h.get? b = none) (hM : H₂.m = H.m) (hO : H₂.o = H.o) (hL : Live H₂ h₂) : Fm c Fr ns env st fe H₂ h₂ :=
  let G := F.step kk
  { keep := G.keep, wsub := G.wsub, base := G.base, baseF := G.baseF, basew := G.basew, hle := fun b z => hH b (F.hle b z)
    mle := fun n a e => by rw [hM]; exact F.mle n a e
    mold := fun n a l e => F.mold n a l (by rw [← hM]; exact e)
    mnew := fun n a l e => F.mnew n a l (by rw [← hM]; exact e)
    mw := fun n a mo l l' q e => F.mw n a mo l l' q (by rw [← hM]; exact e)
    hlt := hL, felt := G.felt, wlt := G.wlt, kind := G.kind, glob := G.glob, bi := G.bi, code := G.code, ns := G.ns, hl := hH _ G.hl, lnew := G.lnew
    hc := fun x cc y z => ⟨hH _ (G.hc x cc y z).1, (G.hc x cc y z).2⟩, cl := G.cl, capart := G.capart
    vals := fun i x t a b => let ⟨v, n, r⟩ := F.vals i x t a b; ⟨v, n.kh kk, r.mono (vis_new kk hN fun n a e => by rw [hM]; exact e) (fun a e => by rw [hO]; exact e) fun a vs _ l => kk.isL l⟩
    own := fun i a e => by
      rw [hO] at e
      obtain ⟨p, q, r, vs, l⟩ := F.own i a e
      exact ⟨hH a p, q, fun n => by rw [hM]; exact r n, vs, kk.isL l⟩
    oinj := fun i j a => by rw [hO]; exact F.oinj i j a
    sto := F.sto.new kk hH hN hM
    mh0 := fun n a e => F.mh0 n a (by rw [← hM]; exact e)
    n0le := F.n0le }

section
variable {c : Cx} {O : OpsF} (OK : OpsOk c O) {q : Bool} {k : Nat} {A : Around} {H : Hd} {env : Env} {ns : List Str} {st : Fs} {fe : FE} {s : Shared}

theorem stays_ns {a b : Heap} (k : a.StaysIn b) {d : Addr} {m : Str → Option Value} (n : a.Ns d m) : b.Ns d m := let ⟨o, es, ep, e, r⟩ := n; ⟨o, es, ep, k _ _ e, r⟩

theorem ld_glob {x : Str} {pos : Pos} {v : Value} {Q E : Value → Shared → Prop} (F : Fm c (FrA A) ns env st fe H s.heap) (hk : env.kindOf x = some .globalImplicit) (hd : (x == ("__debug__" : Str)) = false) (hv : c.mg x = some v) (h : Q v s) :
    wpAny c.M A (eval (.Name x pos) env) Q E s :=
  Calls.Name_function_global F.kind hk (Calls.loadGlobal_global (by rw [F.glob]; exact stays_ns F.base' c.g) hv h) hd
theorem ld_boot {x : Str} {pos : Pos} {v : Value} {Q E : Value → Shared → Prop} (F : Fm c (FrA A) ns env st fe H s.heap) (hk : env.kindOf x = some .globalImplicit) (hd : (x == ("__debug__" : Str)) = false) (hn : x ≠ "__name__") (hf : c.mg x = none) (hv : bootBuiltins x = some v) (h : Q v s) :
    wpAny c.M A (eval (.Name x pos) env) Q E s :=
  Calls.Name_function_global F.kind hk (Calls.loadGlobal_builtin (by rw [F.glob]; exact stays_ns F.base' c.g) hf (by rw [F.bi]; exact stays_ns F.base' c.b) ((c.builtins x hn).trans hv) h) hd

include OK
theorem ev_listcomp {elt iter : Expr} {x : Str} {px pos : Pos} {ifs : List Expr} {scope : Scope} {caps : List Nat} {r : ER} {f : Store → AV → Option (Option AV)} (hq : q = true) (hm : Rm c q (k + 1) A s.heap) (F : Fm c (FrA A) ns env st fe H s.heap) (hlen : st.ρ.length = ns.length)
    (K : CompOk ns env scope x caps) (hs : ∀ x, foldedSetIterable iter env x = pure x) (X : Ev c q A st.lo st.σ H (eval iter env) r s) (T : ∀ σ₁, TurnOk c q (k + 1) A ns env (st.at σ₁) fe scope x caps elt ifs (f σ₁)) :
    Ev c q A st.lo st.σ H (eval (.ListComp elt [⟨.Name x px, iter, ifs, 0⟩] scope pos) env) (r.bind fun a σ₁ => onItems (O.items (derefS st.ρ σ₁ a)) fun l => onItems (mapF (f σ₁) l) fun ys => .ok (.av (.lst ys)) σ₁) s := fun Q E P => by
  obtain ⟨cl, hclos, hcl1, hcl2⟩ := closureFor_ok (env := env) (scope := scope) fun y hy => by
    obtain ⟨cc, _, e, _⟩ := F.cl y (K.free y hy)
    rw [e]; rfl
  rw [eval_ListComp]
  refine wpAny_comprehension_free (use := none) rfl hs hclos K.kind K.loc (X.bindK P fun a σ₁ hr xv H₁ s₁ x₁ r₁ P₁ => ?_)
  have F₁ := F.ss x₁
  have hm₁ := hm.nf x₁.nf
  cases hit : O.items (derefS st.ρ σ₁ a) with
  | none => rw [hit] at P₁; exact P₁.elim
  | some l =>
  rw [hit] at P₁
  simp only [onItems] at P₁
  cases hf : mapF (f σ₁) l with
  | none => rw [hf] at P₁; exact P₁.elim
  | some ys =>
  rw [hf] at P₁
  refine OK.items hm₁ hq F₁.hlt (RepO.derefS F₁ hlen r₁) hit _ _ fun I fp PP St h' tk hk hI hfI hl _ hsz W hst hP => ?_
  refine comp_core (RR := fun acc C => compPost c.M A E none Q acc C) (s₁ := s₁) (st := st.at σ₁) hm₁ F₁ hlen K hcl1 hcl2 ⟨_, _, rfl⟩ hk hI hl hfI W hst hsz hP hf (T σ₁) ?_
  intro D C h'' tk' m' vs hD hC hDC hn hl hr hkv
  refine ⟨m', hn, fun h₃ hs₃ => P₁ _ H₁ _ (.of_kp ⟨h₃, tk', rfl, ?_⟩ F₁.sto F₁.hlt) ?_⟩
  · have k1 : Kh (FrA A) s₁.heap h'' := (Kh.of_keeps hk).trans' hkv fun b o e z => by rw [z, hI] at e; cases e
    refine k1.trans' (Kv.of_sameBut (W := fun b => b = C) hs₃ rfl) fun b o e z => ?_
    have := hk b o e
    rw [z, hC] at this; cases this
  · simp only [RepW, Rep]
    have hl₃ : IsL h₃ D vs := hl.at' fun o e => hs₃.extBut D o hDC e
    obtain ⟨o, n, e, c1, d1, f1⟩ := hl₃
    refine ⟨Nat.le_trans (mapF_length hf) hsz, D, vs, n, rfl, ⟨fun z => ?_, o, e, c1, d1, f1, .inl rfl, fun ⟨_, z⟩ => by cases z⟩, ?_⟩
    · obtain ⟨o', e'⟩ := F₁.hlt D z
      have := hk D o' e'
      rw [hD] at this; cases this
    · have r2 := RepL.mono ((Kv.of_sameBut (F := FrA A) (W := fun b => b = C) hs₃ rfl).vis (H := H₁.add fun b => b = C ∨ b = D ∨ b = I) fun b z => .inr (.inl z)) hr
      exact RepL.mono (vis_hide (H := H₁) (H' := H₁.add fun b => b = C ∨ b = D ∨ b = I) (fun b z => .inl z) fun n a e => e) r2
end
section
variable {c : Cx} {q : Bool} {k : Nat} {A : Around} {H : Hd} {env : Env} {ns : List Str} {st : Fs} {fe : FE} {s : Shared}
end
end Mine
end
section
open PySem PySem.W PyProof.Rows
namespace Mine

theorem encE_notStar {frees : List Str} {fname : Nat → Str} {ks : List (Str × NameKind)} {ns : List Str} {p : PE} {ex : Expr} (h : encE frees fname ks ns p ex = true) : ∀ x z, ex ≠ .Starred x z := by
  rintro x z rfl
  cases p <;> exact Bool.false_ne_true h
theorem encE_notSet {frees : List Str} {fname : Nat → Str} {ks : List (Str × NameKind)} {ns : List Str} {p : PE} {ex : Expr} (h : encE frees fname ks ns p ex = true) (hs : isSetd p = false) (env : Env) : ∀ x, foldedSetIterable ex env x = pure x := by
  intro x
  cases ex <;> first | rfl | (cases p <;> first | exact (Bool.false_ne_true h).elim | exact (Bool.false_ne_true hs.symm).elim)
theorem encE_notSlice {frees : List Str} {fname : Nat → Str} {ks : List (Str × NameKind)} {ns : List Str} {p : PE} {ex : Expr} (h : encE frees fname ks ns p ex = true) : ∀ a b z w, ex ≠ .Slice a b z w := by
  rintro a b z w rfl
  cases p <;> exact Bool.false_ne_true h
theorem subscripted_plain {ex : Expr} (h : ∀ a b z w, ex ≠ .Slice a b z w) (o i : Value) : subscripted ex false o i = operate [o, i] (getItem o i) := by
  cases ex <;> first | rfl | exact absurd rfl (h _ _ _ _)
theorem isGlob_of {ks : List (Str × NameKind)} {x : Str} {env : Env} (hks : env.scope.names = ks) (h : isGlob ks x = true) : env.kindOf x = some .globalImplicit ∧ (x == ("__debug__" : Str)) = false ∧ x ≠ "__name__" := by
  simp only [isGlob, Bool.and_eq_true, Bool.not_eq_true', beq_iff_eq] at h
  refine ⟨?_, h.1.2, by simpa using h.2⟩
  show env.scope.names.lookup x = _
  rw [hks]; exact h.1.1

theorem Rm.down {c : Cx} {q : Bool} {k : Nat} {A : Around} {h : Heap} (X : Rm c q (k + 1) A h) : Rm c q k A h := ⟨by have := X.depth; omega, by have := X.units; omega, X.hand, X.frames⟩
theorem pes_nil {frees : List Str} {fname : Nat → Str} {ks : List (Str × NameKind)} {ns : List Str} {ps : PEs} (h : encEs frees fname ks ns ps [] = true) : ps = .nil := by
  cases ps with
  | nil => rfl
  | cons _ _ => simp [ecs_nil, ecs_cons] at h
theorem encEs_head {frees : List Str} {fname : Nat → Str} {ks : List (Str × NameKind)} {ns : List Str} {ps : PEs} {e : Expr} {es : List Expr} (h : encEs frees fname ks ns ps (e :: es) = true) : ∀ x z, e ≠ .Starred x z := by
  cases ps with
  | nil => simp [ecs_nil, ecs_cons] at h
  | cons p ps => simp only [ecs_nil, ecs_cons, Bool.and_eq_true] at h; exact encE_notStar h.1
theorem star_plain {frees : List Str} {fname : Nat → Str} {ks : List (Str × NameKind)} {ns : List Str} {pos : Pos} {env : Env} : ∀ {ps : PEs} {es : List Expr}, encEs frees fname ks ns ps es = true → (backTo pos (starEach es env)).any (·.1) = false
  | _, [], _ => rfl
  | .nil, _ :: _, h => by simp [ecs_nil, ecs_cons] at h
  | .cons p ps, e :: es, h => by
    have h' := h
    simp only [ecs_nil, ecs_cons, Bool.and_eq_true] at h
    rw [starEach_cons (encEs_head h')]
    show (false || (backTo pos (starEach es env)).any (·.1)) = false
    rw [star_plain h.2]; rfl

/-- a thing that can turn is taken up -/
noncomputable def Hd.put (H : Hd) (n : Nat) (a : Addr) : Hd := ⟨fun b => H.p b ∨ b = a, fun i => if i = n then some a else H.m i, H.o⟩
end Mine
end
section
open PySem PySem.W PyProof.Rows
namespace Mine
set_option linter.unusedVariables false
/- comprehensions that make sets and dicts -/
theorem compTurn_set (elt target iter : Expr) (ifs : List Expr) (scope : Scope) (pos : Pos) (it acc : Value) (env : Env) :
    compTurn (.SetComp elt [⟨target, iter, ifs, 0⟩] scope pos) 0 it acc env = (do
      standAt iter.pos
      match ← pyNext it with
      | none => pure (.done .next)
      | some v =>
        letOwnedTupleGo target it v
        assign target env v
        let mut ok := true
        for c in ifs do
          if ok then ok ← isTrue c env (eval c env)
        if ok then
          (do let v ← eval elt env; standAt elt.pos; let _ ← call (.builtin "set.add") [acc, v])
        again (.compLoop (.SetComp elt [⟨target, iter, ifs, 0⟩] scope pos) 0 it acc env)) := by rfl
section
variable {prog : Program} {w : World} {A : Around} {E : Value → Shared → Prop} {R : Result → Shared → Prop} {s : Shared}
theorem codeAny_compStart_set {elt target iter ifs rest scope pos it acc env}
    (h0 : codeAny (model prog w) A (.compLoop (.SetComp elt (⟨target, iter, ifs, 0⟩ :: rest) scope pos) 0 it acc env) R s)
    (h : wpAny (model prog w) A (pyIter it) (fun it' s' => codeAny (model prog w) A (.compLoop (.SetComp elt (⟨target, iter, ifs, 0⟩ :: rest) scope pos) 0 it' acc env) R s')
      (notedBy (model prog w) A env fun x s' => R (.error x) s') s) :
    codeAny (model prog w) A (.compStart (.SetComp elt (⟨target, iter, ifs, 0⟩ :: rest) scope pos) 0 it acc env) R s := by
  refine codeAny_of_tree ?_
  show wpAny _ A ((compStart (.SetComp elt (⟨target, iter, ifs, 0⟩ :: rest) scope pos) 0 it acc env).onRaise (fun x => do noteFrame x env; standAt theWindowsPlace)) _ _ s
  refine wpAny_notedAt ?_
  unfold compStart
  show wpAny _ A (ask >>= _) _ _ s
  refine wpAny_bind (wpAny_askSetting (wpAny_ite ?_))
  split
  · first
      | exact wpAny_bind (wpAny_pure (wpAny_pure (And.intro rfl h0)))
      | exact wpAny_pure (And.intro rfl h0)
  · first
      | exact wpAny_bind (wpAny_rule (wpAny_bind (wpAny_standAt (wpAny_bind (wpAny_mono h (fun it' s' h' => wpAny_pure (And.intro rfl h')) fun _ _ x => x)))))
      | (refine wpAny_bind (wpAny_rule ?_); show wpAny _ _ (standAt iter.pos >>= _) _ _ s; exact wpAny_bind (wpAny_standAt (wpAny_bind (wpAny_mono h (fun it' s' h' => wpAny_pure (And.intro rfl h')) fun _ _ x => x))))
theorem newSet_led {w : World} {Q : Value → Shared → Prop}
    (h : Q (.ref s.heap.objs.size) { s with heap := s.heap.push { cls := .type "set", dict := none, data := .set #[] 0 (.fresh 0 0 (!w.params.followText "set-order")) } }) :
    wpAny (model prog w) A (newSet (.type "set")) Q E s := by
  unfold newSet
  refine wpAny_bind (setByText ?_)
  exact wpAny_bind (wpAny_alloc (wpAny_pure h))
end
/-- the set's heap of things -/
noncomputable def InvS (ld : Bool) (h : Heap) (H : Hd) (D : Addr) (zs : List AV) : Prop := ∃ o es ep t ns, h.get? D = some o ∧ o.cls = .type "set" ∧ o.dict = none ∧ o.data = .set es ep t ∧ zs = ns.map AV.int ∧ SmS ld es t (distI ns)
theorem small_five {i : Int} (h : 0 ≤ i ∧ i < 5) : i ∈ fives := by
  have : i = 0 ∨ i = 1 ∨ i = 2 ∨ i = 3 ∨ i = 4 := by omega
  unfold fives
  rcases this with rfl | rfl | rfl | rfl | rfl <;> decide
section
variable {c : Cx} {A : Around}
theorem acc_set {elt iter : Expr} {x : Str} {px : Pos} {ifs : List Expr} {scope : Scope} {pos : Pos} :
    AccOk c A (.SetComp elt [⟨.Name x px, iter, ifs, 0⟩] scope pos) (.Name x px) ifs (newSet (.type "set")) (fun env D => do let v ← eval elt env; standAt elt.pos; let _ ← call (.builtin "set.add") [.ref D, v]) (InvS (!c.w.params.followText "set-order")) where
  make := fun s Q E _ h => newSet_led (h _ rfl fun h H e => ⟨_, _, _, _, [], e, rfl, rfl, rfl, rfl, SmS.empty _⟩)
  keep := fun h h' H D zs ⟨o, es, ep, t, ns, a, b⟩ e v => ⟨o, es, ep, t, ns, e o a, b⟩
  live := fun h H D zs ⟨o, _, _, _, _, e, _⟩ => ⟨o, e⟩
  loop := fun it D env R s I turn n h => by
    refine codeAny_loop rfl I (fun n s hI => ?_) n h
    show wpAny _ A ((compTurn (.SetComp elt [⟨.Name x px, iter, ifs, 0⟩] scope pos) 0 it (.ref D) env).onRaise (fun x => do noteFrame x env; theTreesLotGoes x)) _ _ s
    refine wpAny_noted ?_
    rw [compTurn_set]
    refine wpAny_bind (wpAny_standAt (wpAny_bind (wpAny_mono (turn n s hI) (fun r s₁ h₁ => ?_) fun _ _ h' => h')))
    cases r with
    | none => exact wpAny_pure h₁
    | some v =>
      refine wpAny_bind (wpAny_of_eq (rfl : letOwnedTupleGo (.Name x px) it v = pure ()) ?_)
      refine wpAny_bind (wpAny_mono h₁ (fun _ s₂ h₂ => wpAny_bind (wpAny_mono h₂ (fun ok s₃ h₃ => ?_) fun _ _ h' => h')) fun _ _ h' => h')
      cases ok with
      | false => exact wpAny_pure ⟨rfl, h₃⟩
      | true => exact wpAny_bind (wpAny_mono h₃ (fun _ s₅ h₅ => wpAny_pure ⟨rfl, h₅⟩) fun _ _ h' => h')
  start := fun it acc env R s h0 h => codeAny_compStart_set h0 h
theorem smallF_some {r : Option (Option AV)} {y : Option AV} (h : smallF r = some y) : ∃ i : Int, y = some (.int i) ∧ (0 ≤ i ∧ i < 5) ∧ r = some (some (.int i)) := by
  unfold smallF at h
  split at h
  · split at h
    · cases h; exact ⟨_, rfl, by assumption, rfl⟩
    · cases h
  · cases h
theorem turn_set {q : Bool} {k : Nat} {names : List Str} {env : Env} {st : Fs} {fe : FE} {scope : Scope} {x : Str} {caps : List Nat} {elt : Expr} {ifs : List Expr} {f : AV → Option (Option AV)} {ld : Bool}
    (T : TurnOk c q k A names env st fe scope x caps elt ifs f) : TurnB c q k A names env st fe scope x caps ifs (fun env D => do let v ← eval elt env; standAt elt.pos; let _ ← call (.builtin "set.add") [.ref D, v]) (InvS ld) (fun x => smallF (f x)) := fun item s₃ H₃ cenv e hm F => by
  obtain ⟨t1, t2⟩ := T item s₃ H₃ cenv e hm F
  refine ⟨fun y hy => ?_, fun hn => ?_⟩
  · obtain ⟨i, hi, h5, hy'⟩ := smallF_some hy
    cases hi
    refine ⟨(t1 _ hy').1, fun s₄ k₄ D zs Q E ⟨o, es, ep, t, ns, ho, hc, hd, hs, hz', S⟩ hz hp hn K => ?_⟩
    refine wpAny_bind ((t1 _ hy').2 s₄ k₄ _ _ fun yv s₅ k₅ ry => wpAny_bind (wpAny_standAt ?_))
    obtain ⟨h₅, tk₅, rfl, kh₅⟩ := id k₅
    obtain ⟨tk, rfl⟩ := ry
    have ho₅ := (kh₅ D o ho).1 (.inl hn)
    refine wpAny_bind (call_smAdd ho₅ hc hs S (small_five h5) fun h' es' ep' t' S' ho' hsb => wpAny_pure ?_)
    exact K _ h' (k₅.trans (Kp.toks (s := { s₄ with heap := h₅, toks := tk₅ }) (tk := tk₅ + 1))) hsb ⟨_, es', ep', t', ns ++ [i], ho', hc, hd, rfl, by rw [hz']; simp, by rw [distI_snoc]; exact S'⟩
  · obtain ⟨_, h, _⟩ := smallF_some hn
    cases h
/-- the dict's heap of things -/
noncomputable def InvD (c : Cx) (h : Heap) (H : Hd) (D : Addr) (zs : List AV) : Prop := (D == sysModules) = false ∧ ∃ ns, zs = ns.map AV.int ∧ DictI c.prog c.w h D ns
theorem dictI_new {h : Heap} {D : Addr} (e : h.get? D = some { cls := .type "dict", data := .dict #[] }) : DictI c.prog c.w h D [] :=
  ⟨[], ⟨_, _, _, e, ⟨rfl, rfl, rfl⟩, rfl, (fun e he => by simp at he), .nil, .nil⟩, by simp, rfl⟩
theorem acc_dict {kx vx iter : Expr} {x : Str} {px : Pos} {ifs : List Expr} {scope : Scope} {pos : Pos} :
    AccOk c A (.DictComp kx vx [⟨.Name x px, iter, ifs, 0⟩] scope pos) (.Name x px) ifs newDict (fun env D => do
            let kv ← eval kx env
            let vv ← holding [kv] (eval vx env)
            standAt { kx.pos with endLine := vx.pos.endLine, endCol := vx.pos.endCol }
            holding [kv, vv] (dictSet D kv vv)) (InvD c) where
  make := fun s Q E hs h => wpAny_newObj_type (h _ rfl fun h H e => ⟨by
    obtain ⟨o, _, _, e', _⟩ := c.g
    have := Heap.lt_size (hs _ o e')
    have h3 : mainGlobals = 3 := rfl
    have h1 : sysModules = 1 := rfl
    rw [h3] at this; exact beq_eq_false_iff_ne.mpr (by rw [h1]; exact Nat.ne_of_gt (Nat.lt_trans (by decide : (1:Nat) < 3) this)), [], rfl, dictI_new e⟩)
  keep := fun h h' H D zs ⟨n, ns, a, b⟩ e v => ⟨n, ns, a, b.at e⟩
  live := fun h H D zs ⟨_, ns, _, x⟩ => let ⟨o, _, _, e, _⟩ := x.dictA; ⟨o, e⟩
  loop := fun it D env R s I turn n h => by
    refine codeAny_loop rfl I (fun n s hI => ?_) n h
    show wpAny _ A ((compTurn (.DictComp kx vx [⟨.Name x px, iter, ifs, 0⟩] scope pos) 0 it (.ref D) env).onRaise (fun x => do noteFrame x env; theTreesLotGoes x)) _ _ s
    refine wpAny_noted ?_
    rw [compTurn_dict]
    refine wpAny_bind (wpAny_standAt (wpAny_bind (wpAny_mono (turn n s hI) (fun r s₁ h₁ => ?_) fun _ _ h' => h')))
    cases r with
    | none => exact wpAny_pure h₁
    | some v =>
      refine wpAny_bind (wpAny_of_eq (rfl : letOwnedTupleGo (.Name x px) it v = pure ()) ?_)
      refine wpAny_bind (wpAny_mono h₁ (fun _ s₂ h₂ => wpAny_bind (wpAny_mono h₂ (fun ok s₃ h₃ => ?_) fun _ _ h' => h')) fun _ _ h' => h')
      cases ok with
      | false => exact wpAny_pure ⟨rfl, h₃⟩
      | true => exact wpAny_bind (wpAny_mono h₃ (fun _ s₅ h₅ => wpAny_pure ⟨rfl, h₅⟩) fun _ _ h' => h')
  start := fun it acc env R s h0 h => codeAny_compStart_dict h0 h
theorem pairF_some {r r' : Option (Option AV)} {y : Option AV} (h : pairF r r' = some y) : ∃ (i : Int) (z : AV), y = some (.int i) ∧ r = some (some (.int i)) ∧ r' = some (some z) := by
  unfold pairF at h
  split at h
  · cases h; exact ⟨_, _, rfl, rfl, rfl⟩
  · cases h
theorem turn_dict {q : Bool} {k : Nat} {names : List Str} {env : Env} {st : Fs} {fe : FE} {scope : Scope} {x : Str} {caps : List Nat} {kx vx : Expr} {ifs : List Expr} {f g : AV → Option (Option AV)}
    (T : TurnOk c q k A names env st fe scope x caps kx ifs f) (U : TurnOk c q k A names env st fe scope x caps vx ifs g) : TurnB c q k A names env st fe scope x caps ifs (fun env D => do
            let kv ← eval kx env
            let vv ← holding [kv] (eval vx env)
            standAt { kx.pos with endLine := vx.pos.endLine, endCol := vx.pos.endCol }
            holding [kv, vv] (dictSet D kv vv)) (InvD c) (fun x => pairF (f x) (g x)) := fun item s₃ H₃ cenv e hm F => by
  refine ⟨fun y hy => ?_, fun hn => ?_⟩
  · obtain ⟨i, z, hi, hy', hz'⟩ := pairF_some hy
    cases hi
    have t1 := (T item s₃ H₃ cenv e hm F).1 _ hy'
    have u1 := (U item s₃ H₃ cenv e hm F).1 _ hz'
    refine ⟨t1.1, fun s₄ k₄ D zs Q E ⟨hD, ns, hzs, S⟩ hz hp hn K => ?_⟩
    refine wpAny_bind (t1.2 s₄ k₄ _ _ fun kv s₅ k₅ rk => wpAny_bind (wpAny_holding (u1.2 s₅ (k₄.trans k₅) _ _ fun vv s₆ k₆ rv => wpAny_bind (wpAny_standAt (wpAny_holding ?_)))))
    have k46 := k₅.trans k₆
    obtain ⟨h₆, tk₆, rfl, kh₆⟩ := id k46
    obtain ⟨tk, rfl⟩ := rk
    have S' := S.at fun o ho => (kh₆ D o ho).1 (.inl hn)
    have hns : ns.length ≤ 1048576 := by rw [hzs] at hz; simpa using hz
    refine dictI_put S' hns fun h' S₂ hsb => ?_
    exact K _ h' (k46.trans (Kp.toks (s := { s₄ with heap := h₆, toks := tk₆ }) (tk := tk₆ + 1))) hsb ⟨hD, ns ++ [i], by rw [hzs]; simp, S₂⟩
  · obtain ⟨_, _, h, _⟩ := pairF_some hn
    cases h
end
theorem intsOf_map (ns : List Int) : intsOf (ns.map AV.int) = ns := by
  unfold intsOf
  induction ns with
  | nil => rfl
  | cons n ns ih => simp only [List.map_cons, List.filterMap_cons, ih]
section
variable {c : Cx} {O : OpsF} (OK : OpsOk c O) {q : Bool} {k : Nat} {A : Around} {H : Hd} {env : Env} {ns : List Str} {st : Fs} {fe : FE} {s : Shared}
include OK
/-- a comprehension over any heap of things -/
theorem ev_comp {ce iter : Expr} {x : Str} {px pos : Pos} {scope : Scope} {caps : List Nat} {mk : Sem Value} {body : Env → Addr → Sem Unit} {Inv : Heap → Hd → Addr → List AV → Prop} {r : ER} {f : Store → AV → Option (Option AV)} {res : List AV → AV} (hq : q = true) (hm : Rm c q (k + 1) A s.heap) (F : Fm c (FrA A) ns env st fe H s.heap) (hlen : st.ρ.length = ns.length)
    (K : CompOk ns env scope x caps) (hs : ∀ x, foldedSetIterable iter env x = pure x) (hce : clausesOf ce = [⟨.Name x px, iter, [], 0⟩]) (X : Ev c q A st.lo st.σ H (eval iter env) r s)
    (K0 : AccOk c A ce (.Name x px) [] mk body Inv) (T : ∀ σ₁, TurnB c q (k + 1) A ns env (st.at σ₁) fe scope x caps [] body Inv (f σ₁))
    (R : ∀ h H H' D zs, Inv h H D zs → ¬ H'.p D → Rep (vis h H') (.ref D) (res zs)) :
    Ev c q A st.lo st.σ H (comprehension ce scope env pos mk false (eval iter env)) (r.bind fun a σ₁ => onItems (O.items (derefS st.ρ σ₁ a)) fun l => onItems (mapF (f σ₁) l) fun ys => .ok (.av (res ys)) σ₁) s := fun Q E P => by
  obtain ⟨cl, hclos, hcl1, hcl2⟩ := closureFor_ok (env := env) (scope := scope) fun y hy => by
    obtain ⟨cc, _, e, _⟩ := F.cl y (K.free y hy)
    rw [e]; rfl
  refine wpAny_comprehension_free (use := none) hce hs hclos K.kind K.loc (X.bindK P fun a σ₁ hr xv H₁ s₁ x₁ r₁ P₁ => ?_)
  have F₁ := F.ss x₁
  have hm₁ := hm.nf x₁.nf
  cases hit : O.items (derefS st.ρ σ₁ a) with
  | none => rw [hit] at P₁; exact P₁.elim
  | some l =>
  rw [hit] at P₁
  simp only [onItems] at P₁
  cases hf : mapF (f σ₁) l with
  | none => rw [hf] at P₁; exact P₁.elim
  | some ys =>
  rw [hf] at P₁
  refine OK.items hm₁ hq F₁.hlt (RepO.derefS F₁ hlen r₁) hit _ _ fun I fp PP St h' tk hk hI hfI hl _ hsz W hst hP => ?_
  refine comp_gen (RR := fun acc C => compPost c.M A E none Q acc C) (s₁ := s₁) (st := st.at σ₁) hm₁ F₁ hlen K hcl1 hcl2 ⟨_, _, rfl⟩ hk hI hl hfI W hst hsz hP hf K0 (T σ₁) ?_
  intro D C h'' tk' m' hD hC hDC hn hinv hkv
  refine ⟨m', hn, fun h₃ hs₃ => P₁ _ H₁ _ (.of_kp ⟨h₃, tk', rfl, ?_⟩ F₁.sto F₁.hlt) ?_⟩
  · have k1 : Kh (FrA A) s₁.heap h'' := (Kh.of_keeps hk).trans' hkv fun b o e z => by rw [z, hI] at e; cases e
    refine k1.trans' (Kv.of_sameBut (W := fun b => b = C) hs₃ rfl) fun b o e z => ?_
    have := hk b o e
    rw [z, hC] at this; cases this
  · refine R h₃ (H₁.add fun b => b = C ∨ b = D ∨ b = I) H₁ D ys (K0.keep _ _ _ _ _ hinv (fun o e => hs₃.extBut D o hDC e) ((Kv.of_sameBut (F := FrA A) (W := fun b => b = C) hs₃ rfl).vis (H := H₁.add fun b => b = C ∨ b = D ∨ b = I) fun b z => .inr (.inl z))) fun z => ?_
    obtain ⟨o', e'⟩ := F₁.hlt D z
    have := hk D o' e'
    rw [hD] at this; cases this
end
theorem rep_sm {ld : Bool} (h : Heap) (H H' : Hd) (D : Addr) (zs : List AV) (x : InvS ld h H D zs) (hn : ¬ H'.p D) : Rep (vis h H') (.ref D) (.sm ld (distI (intsOf zs)).length) := by
  obtain ⟨o, es, ep, t, ns, ho, hc, hd, hs, rfl, S⟩ := x
  rw [intsOf_map]
  simp only [Rep]
  exact ⟨D, es, ep, t, rfl, ⟨hn, o, ho, hc, hs, hd, .inr (.inr (.inr (.inl rfl))), fun ⟨_, z⟩ => by cases z⟩, S.size, S.setIt⟩
theorem rep_dict {c : Cx} (h : Heap) (H H' : Hd) (D : Addr) (zs : List AV) (x : InvD c h H D zs) (hn : ¬ H'.p D) : Rep (vis h H') (.ref D) (.dict (distI (intsOf zs)).length) := by
  obtain ⟨hD, ns, rfl, X⟩ := x
  obtain ⟨o, es, ep, ho, hc, hd, hs, he⟩ := X.dictA
  rw [intsOf_map]
  simp only [Rep]
  exact ⟨D, es, ep, rfl, ⟨hn, o, ho, hc, hs, hd, .inr (.inr (.inr (.inr (.inr rfl)))), fun ⟨_, z⟩ => by cases z⟩, he, hD⟩
end Mine
end
section
open PySem PySem.W PyProof.Rows
set_option maxHeartbeats 2000000
set_option linter.unusedVariables false
set_option linter.unusedSectionVars false
namespace Mine

theorem star_all {frees : List Str} {fname : Nat → Str} {ks : List (Str × NameKind)} {ns : List Str} {pos : Pos} {env : Env} {ps : PEs} {es : List Expr} (h : encEs frees fname ks ns ps es = true) (hl : es.length < 20) :
    ((backTo pos (starEach es env)).all (fun x => !x.1) && (backToKw pos (keywordEach [] env)).all (fun x => x.1.isSome) && decide (es.length + ([] : List Keyword).length + (if ([] : List Keyword).isEmpty then 0 else 1) < 30)) = true := by
  have h1 := star_plain (pos := pos) (env := env) h
  have h2 : (backTo pos (starEach es env)).all (fun x => !x.1) = true := by
    rw [List.all_eq_true]
    intro x hx
    rw [List.any_eq_false] at h1
    have := h1 x hx
    simpa using this
  rw [h2]
  simp [keywordEach, backToKw]
  omega

theorem emeth_plain : PlainAttrs "list" := PySem.F.plainAttrs_list
theorem comp_turn {c : Cx} {O : OpsF} {cal : Cal} {k : Nat} {elt : PE} {conds : PEs} {q : Bool} {ns : List Str} {st : Fs} {env : Env} {A : Around} {fe : FE} {scope : Scope} {x : Str} {caps : List Nat} {e' : Expr} {ifs : List Expr} {ks' : List (Str × NameKind)} (hk : (relabel scope env).names = ks') (hlen : st.ρ.length = ns.length)
    (Ie : ∀ {cenv : Env} {s : Shared} {H : Hd} {st' : Fs}, cenv.scope.names = ks' → Rm c q (k + 1) A s.heap → Fm c (FrA A) (ns ++ [x]) cenv st' fe H s.heap → st'.ρ.length = (ns ++ [x]).length → PrOk c q A st'.lo st'.σ H e' cenv (pe O cal q st' elt) s)
    (Ic : ∀ {cenv : Env} {s : Shared} {H : Hd} {st' : Fs}, cenv.scope.names = ks' → Rm c q (k + 1) A s.heap → Fm c (FrA A) (ns ++ [x]) cenv st' fe H s.heap → st'.ρ.length = (ns ++ [x]).length → EvB c A st'.lo st'.σ H (testsOf ifs cenv) (pall O cal q st' .And conds) s) :
    TurnOk c q (k + 1) A ns env st fe scope x caps e' ifs (fun x => compF st.σ.length (pall O cal q (st.inner caps x) .And conds) (pe O cal q (st.inner caps x) elt).v) := by
  intro item s₃ H₃ cenv hsc hm₃ F₃
  have hks' : cenv.scope.names = ks' := by rw [hsc]; exact hk
  have hlen' : (st.inner caps item).ρ.length = (ns ++ [x]).length := by simp [Fs.inner, mask_length, hlen]
  refine ⟨fun y hy => ?_, fun hn => ?_⟩
  · unfold compF at hy
    dsimp only at hy
    split at hy
    · rename_i σt ht
      have T := Ic hks' hm₃ F₃ hlen'
      rw [ht] at T
      refine ⟨T.pure (Nat.le_refl _), fun s₄ k₄ => ?_⟩
      have Y := (Ie hks' (hm₃.kp k₄) (F₃.kp k₄) hlen').v
      unfold elemF at hy
      split at hy
      · rename_i v σ' hv
        split at hy
        · rename_i hl
          simp only [Option.map_some, Option.some.injEq] at hy
          subst hy
          rw [hv] at Y
          exact Y.pure (Nat.le_refl _) hl
        · cases hy
      · cases hy
    · cases hy
    · cases hy
  · unfold compF at hn
    dsimp only at hn
    split at hn
    · simp only [Option.map_eq_some_iff] at hn
      obtain ⟨_, _, hn⟩ := hn
      cases hn
    · rename_i σt ht
      have T := Ic hks' hm₃ F₃ hlen'
      rw [ht] at T
      exact T.pure (Nat.le_refl _)
    · cases hn

theorem ptests_nil {c : Cx} {O : OpsF} {cal : Cal} {q : Bool} {ns : List Str} {st : Fs} {env : Env} {A : Around} {s : Shared} {fe : FE} {H : Hd} (F : Fm c (FrA A) ns env st fe H s.heap) : EvB c A st.lo st.σ H (testsOf [] env) (pall O cal q st .And .nil) s := fun b σ' hx Q E P => by
  simp only [pall] at hx
  cases hx
  unfold testsOf
  rw [List.forIn_nil]
  exact wpAny_pure (P H s (.of_kp (Kp.refl _ _) F.sto F.hlt))
/-- a comparison of two -/
theorem prOk_cmp {O : OpsF} {k : Nat} {c : Cx} (OK : OpsOk c O) {q : Bool} {ns : List Str} {st : Fs} {env : Env} {A : Around} {s : Shared} {fe : FE} {H : Hd} {op : CmpOp} {l' r' : Expr} {pos : Pos} {R : ER} (hm : Rm c q (k + 1) A s.heap) (F : Fm c (FrA A) ns env st fe H s.heap) (hlen : st.ρ.length = ns.length) (h3 : behindInMarks op r' = false)
    (core : ∀ (Q Q' : Value → Shared → Prop) (E : Value → Shared → Prop), PostE q A st.lo st.σ H R s Q E → (∀ t σ' H' s', R = .ok (.av (.bool t)) σ' → Ss A st.lo st.σ H s σ' H' s' → Q' (.bool t) s') → wpAny c.M A (eval l' env) (fun va s₁ => wpAny c.M A (eval r' env) (fun vb s₂ => wpAny c.M A (compareOp op va vb) Q' E s₂) E s₁) E s) :
    PrOk c q A st.lo st.σ H (.Compare l' [op] [r'] pos) env (.of O.truth st.ρ R) s := by
  have T : Ev c q A st.lo st.σ H (eval (.Compare l' [op] [r'] pos) env) R s := fun Q E P => wpAny_Compare1 (core Q Q E P fun t σ' H' s' e x => by subst e; exact P _ H' s' x (by simp [RepW, Rep])) h3
  refine ⟨T, fun b σ' hb Q E P => ?_⟩
  cases R with
  | exc _ _ => cases hb
  | stuck => cases hb
  | ok v σ₁ =>
    simp only [PR.of, ER.truth, Option.map_eq_some_iff, Prod.mk.injEq] at hb
    obtain ⟨b', hb, rfl, rfl⟩ := hb
    refine wpAny_isTrue_Compare1 (core (fun _ _ => True) _ E (fun _ _ _ _ _ => trivial) fun t σ'' H' s' e x => ?_) h3
    cases e
    have F' := F.ss x
    exact OK.truth (hm.nf x.nf) F'.hlt (a := .bool t) (by simp [RepO, Rep]) hb _ _ fun s'' k'' => P H' s'' (x.trans (.of_kp k'' F'.sto F'.hlt))

section
variable {c : Cx} {O : OpsF} (OK : OpsOk c O) {k : Nat} {cal : Cal} {fname : Nat → Str} (CO : CallsOk c k cal fname) {frees : List Str} (hfree : ∀ x ∈ frees, c.mg x = none)
include OK CO hfree

mutual
theorem pe_sound : ∀ (e : PE) {q : Bool} {ks : List (Str × NameKind)} {ns : List Str} {st : Fs} {ex : Expr} {env : Env} {A : Around} {s : Shared} {fe : FE} {H : Hd},
    encE frees fname ks ns e ex = true → env.scope.names = ks → Rm c q (k + 1) A s.heap → Fm c (FrA A) ns env st fe H s.heap → st.ρ.length = ns.length → PrOk c q A st.lo st.σ H ex env (pe O cal q st e) s
  | .const v, q, ks, ns, st, ex, env, A, s, fe, H, he, hks, hm, F, hlen => by
    rw [ec_const] at he
    obtain ⟨c', kk, pos, rfl, hz⟩ := onE_cst he
    replace he := hz; clear hz
    rw [qe_const]
    refine prOk_of OK hm F hlen ?_ rfl
    have T : Tr c q A H (eval (.Constant c' kk pos) env) (.ok v) s := by
      rcases encC_cases he with ⟨i, rfl, rfl⟩ | ⟨b, rfl, rfl⟩ | ⟨rfl, rfl⟩ | ⟨x, rfl, rfl⟩
      · exact tr_const_int
      · exact tr_const_bool
      · exact tr_const_none
      · exact tr_const_str
    exact Ev.of_tr F.sto F.hlt T
  | .name i, q, ks, ns, st, ex, env, A, s, fe, H, he, hks, hm, F, hlen => by
    rw [ec_name] at he
    obtain ⟨x, pos, rfl, hz⟩ := onE_name he
    replace he := hz; clear hz
    simp only [Bool.and_eq_true, beq_iff_eq, Bool.not_eq_true'] at he
    rw [qe_name]
    refine prOk_of OK hm F hlen ?_ rfl
    unfold slotV
    split
    · rename_i v hv
      obtain ⟨w, n, r⟩ := F.vals i x _ he.1 hv
      exact fun Q E P => wpAny_Name (n.load F.kind (P _ H s (.of_kp (Kp.refl _ _) F.sto F.hlt) r)) he.2
    · rename_i xs hv
      obtain ⟨w, n, z, a, vs, e, o, _⟩ := F.vals i x _ he.1 hv
      exact fun Q E P => wpAny_Name (n.load F.kind (P _ H s (.of_kp (Kp.refl _ _) F.sto F.hlt) ⟨a, o, e⟩)) he.2
    · exact Ev.stuck
  | .glob b, q, ks, ns, st, ex, env, A, s, fe, H, he, hks, hm, F, hlen => by
    rw [ec_glob] at he
    obtain ⟨x, pos, rfl, hz⟩ := onE_name he
    replace he := hz; clear hz
    simp only [Bool.and_eq_true, beq_iff_eq, List.contains_iff_mem] at he
    obtain ⟨⟨⟨h1, h2⟩, h3⟩, h4⟩ := he
    obtain ⟨g1, g2, g3⟩ := isGlob_of hks h3
    rw [qe_glob]
    refine prOk_of OK hm F hlen ?_ rfl
    exact fun Q E P => ld_boot F g1 g2 g3 (hfree x h4) (by rw [h2]; exact BI.boot_ty h1) (P _ H s (.of_kp (Kp.refl _ _) F.sto F.hlt) (by simp [RepW, Rep]))
  | .bin op l r, q, ks, ns, st, ex, env, A, s, fe, H, he, hks, hm, F, hlen => by
    rw [ec_bin] at he
    obtain ⟨l', op', r', pos, rfl, hz⟩ := onE_bin he
    replace he := hz; clear hz
    simp only [Bool.and_eq_true, beq_iff_eq] at he
    obtain ⟨⟨rfl, h1⟩, h2⟩ := he
    rw [qe_bin]
    refine prOk_of OK hm F hlen ?_ rfl
    intro Q E P
    refine wpAny_BinOp ((pe_sound l h1 hks hm F hlen).v.bindK P fun a σ₁ _ va H₁ s₁ x₁ r₁ P₁ => ?_)
    have F₁ := F.ss x₁
    refine (pe_sound r h2 hks (hm.nf x₁.nf) F₁ hlen).v.bindK P₁ fun b σ₂ _ vb H₂ s₂ x₂ r₂ P₂ => ?_
    have F₂ := F₁.ss x₂
    exact OK.bin ((hm.nf x₁.nf).nf x₂.nf) F₂.hlt (RepO.derefS F₂ hlen (r₁.ss x₂ F₁.sto)) (RepO.derefS F₂ hlen r₂) _ _ (P₂.res F₂.sto F₂.hlt)
  | .un op x, q, ks, ns, st, ex, env, A, s, fe, H, he, hks, hm, F, hlen => by
    rw [ec_un] at he
    obtain ⟨op', x', pos, rfl, hz⟩ := onE_un he
    replace he := hz; clear hz
    simp only [Bool.and_eq_true, beq_iff_eq] at he
    obtain ⟨rfl, h1⟩ := he
    rw [qe_un]
    have I := pe_sound x h1 hks hm F hlen
    have T : Ev c q A st.lo st.σ H (eval (.UnaryOp op x' pos) env) ((pe O cal q st x).v.bind fun a σ₁ => ofRes (O.un op (derefS st.ρ σ₁ a)) σ₁) s := by
      intro Q E P
      refine wpAny_UnaryOp (I.v.bindK P fun a σ₁ _ va H₁ s₁ x₁ r₁ P₁ => ?_)
      have F₁ := F.ss x₁
      exact OK.un (hm.nf x₁.nf) F₁.hlt (RepO.derefS F₁ hlen r₁) _ _ (P₁.res F₁.sto F₁.hlt)
    refine ⟨T, ?_⟩
    cases op with
    | Not =>
      intro b σ' hb Q E P
      simp only [Option.map_eq_some_iff, Prod.mk.injEq] at hb
      obtain ⟨⟨b', σ''⟩, hb', rfl, rfl⟩ := hb
      exact wpAny_isTrue_Not (I.t b' _ hb' _ _ P)
    | Invert => exact isT_value OK hm F hlen T rfl
    | UAdd => exact isT_value OK hm F hlen T rfl
    | USub => exact isT_value OK hm F hlen T rfl
  | .cmp op l r, q, ks, ns, st, ex, env, A, s, fe, H, he, hks, hm, F, hlen => by
    rw [ec_cmp] at he
    obtain ⟨l', op', r', pos, rfl, hz⟩ := onC1_eq he
    replace he := hz; clear hz
    all_goals
      simp only [Bool.and_eq_true, beq_iff_eq, Bool.not_eq_true'] at he
      obtain ⟨⟨⟨rfl, h1⟩, h2⟩, h3⟩ := he
      rw [qe_cmp]
      have fin := fun (R : ER) => prOk_cmp OK (R := R) (l' := l') (r' := r') (op := op) (env := env) (pos := pos) hm F hlen h3
      have isCase : (op = .Is ∨ op = .IsNot) → PrOk c q A st.lo st.σ H (.Compare l' [op] [r'] pos) env (.of O.truth st.ρ ((pe O cal q st l).v.bindA fun a σ₁ => (pe O cal q (st.at σ₁) r).v.bindA fun b σ₂ => ofB ((O.is_ a b).map fun z => if op = .Is then z else !z) σ₂)) s := fun hop => by
        refine fin _ fun Q Q' E P h => (pe_sound l h1 hks hm F hlen).v.bindAK P fun a σ₁ e₁ va H₁ s₁ x₁ r₁ P₁ => ?_
        have F₁ := F.ss x₁
        refine (pe_sound r h2 hks (hm.nf x₁.nf) F₁ hlen).v.bindAK P₁ fun b σ₂ e₂ vb H₂ s₂ x₂ r₂ P₂ => ?_
        have F₂ := F₁.ss x₂
        have x12 := x₁.trans x₂
        cases hc : O.is_ a b with
        | none => rw [hc] at P₂; exact P₂.elim
        | some t =>
          refine OK.is_ (hm.nf x12.nf) F₂.sto (Rep.mono (x₂.vis F₁.sto) r₁) r₂ hc hop _ _ fun v s₃ k₃ r₃ => ?_
          simp only [Rep] at r₃
          subst r₃
          exact h _ σ₂ H₂ s₃ (by simp only [e₁, ER.bindA, e₂, hc, Option.map_some, ofB]) (x12.trans (.of_kp k₃ F₂.sto F₂.hlt))
      have cmpCase : PrOk c q A st.lo st.σ H (.Compare l' [op] [r'] pos) env (.of O.truth st.ρ ((pe O cal q st l).v.bind fun a σ₁ => (pe O cal q (st.at σ₁) r).v.bind fun b σ₂ => ofB (O.cmp op (derefS st.ρ σ₂ a) (derefS st.ρ σ₂ b)) σ₂)) s := by
        refine fin _ fun Q Q' E P h => (pe_sound l h1 hks hm F hlen).v.bindK P fun a σ₁ e₁ va H₁ s₁ x₁ r₁ P₁ => ?_
        have F₁ := F.ss x₁
        refine (pe_sound r h2 hks (hm.nf x₁.nf) F₁ hlen).v.bindK P₁ fun b σ₂ e₂ vb H₂ s₂ x₂ r₂ P₂ => ?_
        have F₂ := F₁.ss x₂
        have x12 := x₁.trans x₂
        cases hc : O.cmp op (derefS st.ρ σ₂ a) (derefS st.ρ σ₂ b) with
        | none => rw [hc] at P₂; exact P₂.elim
        | some t =>
          refine OK.cmp (hm.nf x12.nf) F₂.hlt (RepO.derefS F₂ hlen (r₁.ss x₂ F₁.sto)) (RepO.derefS F₂ hlen r₂) hc _ _ fun v s₃ k₃ r₃ => ?_
          simp only [Rep] at r₃
          subst r₃
          exact h _ σ₂ H₂ s₃ (by simp only [e₁, ER.bind, e₂, hc, ofB]) (x12.trans (.of_kp k₃ F₂.sto F₂.hlt))
      cases op
      case Is => exact (by simpa using isCase (.inl rfl))
      case IsNot => exact (by simpa using isCase (.inr rfl))
      all_goals exact cmpCase
  | .bop op xs, q, ks, ns, st, ex, env, A, s, fe, H, he, hks, hm, F, hlen => by
    rw [ec_bop] at he
    obtain ⟨op', xs', pos, rfl, hz⟩ := onE_bop he
    replace he := hz; clear hz
    simp only [Bool.and_eq_true, beq_iff_eq] at he
    obtain ⟨rfl, h1⟩ := he
    rw [qe_bop]
    exact ⟨fun Q E P => pbop_sound xs h1 hks hm F hlen Q E P, fun b σ' hb Q E P => wpAny_isTrue_BoolOp (pall_sound xs h1 hks hm F hlen b σ' hb _ _ P)⟩
  | .ife t a b, q, ks, ns, st, ex, env, A, s, fe, H, he, hks, hm, F, hlen => by
    rw [ec_ife] at he
    obtain ⟨t', a', b', pos, rfl, hz⟩ := onE_ife he
    replace he := hz; clear hz
    simp only [Bool.and_eq_true] at he
    obtain ⟨⟨h1, h2⟩, h3⟩ := he
    rw [qe_ife]
    have I := pe_sound t h1 hks hm F hlen
    split
    · rename_i σ₁ ht
      exact ⟨fun Q E P => wpAny_IfExp (I.t _ _ ht _ _ fun H₁ s₁ x₁ => (pe_sound a h2 hks (hm.nf x₁.nf) (F.ss x₁) hlen).v _ _ (P.ss x₁)),
        fun z σ' hz Q E P => isTrue_IfExp (I.t _ _ ht _ _ fun H₁ s₁ x₁ => (pe_sound a h2 hks (hm.nf x₁.nf) (F.ss x₁) hlen).t z σ' hz _ _ fun H₂ s₂ x₂ => P H₂ s₂ (x₁.trans x₂))⟩
    · rename_i σ₁ ht
      exact ⟨fun Q E P => wpAny_IfExp (I.t _ _ ht _ _ fun H₁ s₁ x₁ => (pe_sound b h3 hks (hm.nf x₁.nf) (F.ss x₁) hlen).v _ _ (P.ss x₁)),
        fun z σ' hz Q E P => isTrue_IfExp (I.t _ _ ht _ _ fun H₁ s₁ x₁ => (pe_sound b h3 hks (hm.nf x₁.nf) (F.ss x₁) hlen).t z σ' hz _ _ fun H₂ s₂ x₂ => P H₂ s₂ (x₁.trans x₂))⟩
    · exact ⟨Ev.stuck, fun b σ' hb => by cases hb⟩
  | .list xs, q, ks, ns, st, ex, env, A, s, fe, H, he, hks, hm, F, hlen => by
    rw [ec_list] at he
    obtain ⟨es, pos, rfl, hz⟩ := onE_list he
    replace he := hz; clear hz
    rw [qe_list]
    refine prOk_of OK hm F hlen ?_ rfl
    intro Q E P
    refine wpAny_List_spliced ((pes_sound xs he hks hm F hlen).onPK P fun l σ₁ _ _ _ vs H₁ s₁ x₁ r₁ P₁ => ?_)
    split at P₁
    · rename_i hl
      have F₁ := F.ss x₁
      exact ⟨by rw [r₁.length]; exact line_ok (by omega), P₁ _ H₁ _ (.of_kp (Kp.push _) F₁.sto F₁.hlt) (rep_fresh_list F₁.hlt (by omega) r₁)⟩
    · exact P₁.elim
  | .tup xs, q, ks, ns, st, ex, env, A, s, fe, H, he, hks, hm, F, hlen => by
    rw [ec_tup] at he
    obtain ⟨es, kk, pos, rfl, hz⟩ := onE_tup he
    replace he := hz; clear hz
    rw [qe_tup]
    refine prOk_of OK hm F hlen ?_ rfl
    intro Q E P
    refine wpAny_Tuple_spliced ((pes_sound xs he hks hm F hlen).onPK P fun l σ₁ _ _ _ vs H₁ s₁ x₁ r₁ P₁ => ?_)
    split at P₁
    · rename_i hl
      have F₁ := F.ss x₁
      exact ⟨by rw [r₁.length]; exact line_ok (by omega), P₁ _ H₁ _ (.of_kp (Kp.push _) F₁.sto F₁.hlt) (rep_fresh_tup F₁.hlt (by omega) r₁)⟩
    · exact P₁.elim
  | .sub o i, q, ks, ns, st, ex, env, A, s, fe, H, he, hks, hm, F, hlen => by
    rw [ec_sub] at he
    obtain ⟨o', i', pos, rfl, hz⟩ := onE_sub he
    replace he := hz; clear hz
    simp only [Bool.and_eq_true] at he
    obtain ⟨h1, h2⟩ := he
    rw [qe_sub]
    refine prOk_of OK hm F hlen ?_ rfl
    intro Q E P
    refine Subscript_ ((pe_sound o h1 hks hm F hlen).v.bindK P fun a σ₁ _ va H₁ s₁ x₁ r₁ P₁ => ?_)
    have F₁ := F.ss x₁
    refine (pe_sound i h2 hks (hm.nf x₁.nf) F₁ hlen).v.bindK P₁ fun b σ₂ _ vb H₂ s₂ x₂ r₂ P₂ => ?_
    have F₂ := F₁.ss x₂
    have ra := RepO.derefS F₂ hlen (r₁.ss x₂ F₁.sto)
    have hne : O.idx (derefS st.ρ σ₂ a) (derefS st.ρ σ₂ b) ≠ .stuck := fun z => by rw [z] at P₂; exact P₂
    obtain ⟨T, id, hT, hid⟩ := OK.idxT ra hne
    exact tail_any hT hid (OK.idx ((hm.nf x₁.nf).nf x₂.nf) F₂.hlt ra (RepO.derefS F₂ hlen r₂) _ _ (P₂.res F₂.sto F₂.hlt)) (subscripted_plain (encE_notSlice h2) _ _)
  | .slice o a b sp, q, ks, ns, st, ex, env, A, s, fe, H, he, hks, hm, F, hlen => by
    rw [ec_slice] at he
    obtain ⟨o', sl', pos, rfl, hz⟩ := onE_sub he
    replace he := hz; clear hz
    obtain ⟨a', b', s', p', rfl, hz⟩ := onE_slice he
    replace he := hz; clear hz
    simp only [Bool.and_eq_true] at he
    obtain ⟨⟨⟨h1, h2⟩, h3⟩, h4⟩ := he
    rw [qe_slice]
    refine prOk_of OK hm F hlen ?_ rfl
    have part : ∀ (p : PE) (x : Option Expr) (st₁ : Fs) (H₁ : Hd) (s₁ : Shared), (∀ e, encE frees fname ks ns p e = true → Ev c q A st₁.lo st₁.σ H₁ (eval e env) (pe O cal q st₁ p).v s₁) → (match x with | some e => encE frees fname ks ns p e | none => isNone' p) = true → Fm c (FrA A) ns env st₁ fe H₁ s₁.heap →
        Ev c q A st₁.lo st₁.σ H₁ (evalPart x env) (pe O cal q st₁ p).v s₁ := by
      intro p x st₁ H₁ s₁ I hx F₁ Q E P
      cases x with
      | none =>
        have hx := isNone'_eq hx
        subst hx
        simp only [qe_const, PR.of] at P
        exact wpAny_evalPart_none (P _ H₁ s₁ (.of_kp (Kp.refl _ _) F₁.sto F₁.hlt) (by simp [RepW, Rep]))
      | some e => exact wpAny_evalPart_some (I e hx _ _ P)
    intro Q E P
    refine Subscript_ ((pe_sound o h1 hks hm F hlen).v.bindK P fun ov σ₁ _ va H₁ s₁ x₁ r₁ P₁ => wpAny_Slice ?_)
    have F₁ := F.ss x₁
    have m₁ := hm.nf x₁.nf
    refine (part a a' (st.at σ₁) H₁ s₁ (fun e he => (pe_sound a he hks m₁ F₁ hlen).v) h2 F₁).bindAK P₁ fun av σ₂ _ wa H₂ s₂ x₂ ra P₂ => ?_
    have F₂ := F₁.ss x₂
    have m₂ := m₁.nf x₂.nf
    refine (part b b' (st.at σ₂) H₂ s₂ (fun e he => (pe_sound b he hks m₂ F₂ hlen).v) h3 F₂).bindAK P₂ fun bv σ₃ _ wb H₃ s₃ x₃ rb P₃ => ?_
    have F₃ := F₂.ss x₃
    have m₃ := m₂.nf x₃.nf
    refine (part sp s' (st.at σ₃) H₃ s₃ (fun e he => (pe_sound sp he hks m₃ F₃ hlen).v) h4 F₃).bindAK P₃ fun sv σ₄ _ ws H₄ s₄ x₄ rs P₄ => ?_
    have F₄ := F₃.ss x₄
    have k5 : Kp A s₄ { s₄ with heap := s₄.heap.push { cls := .type "slice", data := .fields #[wa, wb, ws] } } := Kp.push _
    have x₅ : Ss A st.lo σ₄ H₄ s₄ σ₄ H₄ _ := .of_kp k5 F₄.sto F₄.hlt
    have F₅ := F₄.ss x₅
    have ro := RepO.derefS F₅ hlen ((((r₁.ss x₂ F₁.sto).ss x₃ F₂.sto).ss x₄ F₃.sto).ss x₅ F₄.sto)
    have hne : O.slice (derefS st.ρ σ₄ ov) av bv sv ≠ .stuck := fun z => by rw [z] at P₄; exact P₄
    obtain ⟨T, id, hT, hid⟩ := OK.sliceT ro hne
    refine tail_any (ops := ?_) hT hid (OK.slice (((m₃.nf x₄.nf).nf x₅.nf)) F₅.hlt ro (Rep.mono (((x₃.vis F₂.sto).trans (x₄.vis F₃.sto)).trans (x₅.vis F₄.sto)) ra) (Rep.mono ((x₄.vis F₃.sto).trans (x₅.vis F₄.sto)) rb) (Rep.mono (x₅.vis F₄.sto) rs) (Heap.get?_push_size _ rfl) _ _ ((P₄.ss x₅).res F₅.sto F₅.hlt)) ?_
    · exact match s' with | none => [.ref s₄.heap.objs.size, va] | some _ => [va, .ref s₄.heap.objs.size]
    · cases s' <;> rfl
  | .call f xs, q, ks, ns, st, ex, env, A, s, fe, H, he, hks, hm, F, hlen => by
    rw [ec_call] at he
    obtain ⟨x, px, es, pos, rfl, hz⟩ := onNC_eq he
    replace he := hz; clear hz
    simp only [Bool.and_eq_true, beq_iff_eq] at he
    obtain ⟨⟨h1, h2⟩, h3⟩ := he
    subst h1
    obtain ⟨g1, g2, _⟩ := isGlob_of hks h2
    rw [qe_call]
    refine prOk_of OK hm F hlen ?_ rfl
    cases q with
    | false => exact Ev.stuck
    | true =>
      intro Q E P
      obtain ⟨ol, σ₁, l, hpes, hpl⟩ : ∃ ol σ₁ l, pes O cal true st xs = some (ol, σ₁) ∧ plains ol = some l := by
        cases h : pes O cal true st xs with
        | none => simp only [onP, onL, h] at P; exact P.elim
        | some p =>
          cases hl : plains p.1 with
          | none => simp only [onP, onL, h, hl] at P; exact P.elim
          | some l => exact ⟨p.1, p.2, l, rfl, hl⟩
      have hne : cal σ₁ st.lo f l ≠ .stuck := fun z => by
        simp only [onP, onL, hpes, hpl, z] at P; exact P
      obtain ⟨hc, fa, fo, fd, hg, ho, hd⟩ := CO.ok σ₁ st.lo f l hne
      refine wpAny_Call_NameR (ld_glob F g1 g2 hg ?_)
      refine Calls.callWith_function (o := fo) (fd := fd) ?_
      have fin : wpAny c.M A (spliced (backTo pos (starEach es env))) (fun vs s₁ => (s₁.heap.get? fa = some fo ∧ fo.data = .func fd) ∧ wpAny c.M A (PySem.call (.ref fa) ([] ++ vs) []) Q E s₁) E s :=
        (pes_sound xs h3 hks hm F hlen).onPK P fun l' σ₁' ol' e1 e2 vs H₁ s₁ x₁ r₁ P₁ => by
          rw [hpes] at e1; cases e1
          rw [hpl] at e2; cases e2
          have F₁ := F.ss x₁
          exact ⟨⟨F₁.base' fa fo ho, hd⟩, hc A s₁ H₁ vs fa (hm.nf x₁.nf).down F₁.base' F₁.hlt F₁.sto F₁.mh0 r₁ hg _ _ P₁⟩
      cases es with
      | nil => exact PySem.evalArgs_none (by
          have := pes_nil h3
          subst this
          rw [qes_nil] at hpes
          cases hpes
          simp only [plains] at hpl
          cases hpl
          simp only [onP, onL, qes_nil, plains] at P
          exact ⟨⟨F.base' fa fo ho, hd⟩, hc A s H [] fa hm.down F.base' F.hlt F.sto F.mh0 (by simp [RepL]) hg _ _ P⟩)
      | cons e es =>
        have hst : starEach (e :: es) env = (false, eval e env) :: starEach es env := starEach_cons (encEs_head h3)
        rw [hst] at fin ⊢
        exact Calls.evalArgs_plain fin
  | .bcall f xs, q, ks, ns, st, ex, env, A, s, fe, H, he, hks, hm, F, hlen => by
    rw [ec_bcall] at he
    obtain ⟨x, px, es, pos, rfl, hz⟩ := onNC_eq he
    replace he := hz; clear hz
    simp only [Bool.and_eq_true, beq_iff_eq, List.contains_iff_mem] at he
    obtain ⟨⟨⟨h1, h2⟩, h3⟩, h4⟩ := he
    obtain ⟨g1, g2, g3⟩ := isGlob_of hks h2
    have hb := BI.boot f
    rw [← h1] at hb
    rw [qe_bcall]
    refine prOk_of OK hm F hlen ?_ rfl
    have hq : q = true ∨ q = false := by cases q <;> simp
    rcases hq with hq | hq
    case inr => rw [hq]; exact Ev.stuck
    intro Q E P
    have P : PostE q A st.lo st.σ H (onL (pes O cal q st xs) fun l σ₁ => ofRes (O.bcall f (l.map (derefS st.ρ σ₁))) σ₁) s Q E := by rw [hq] at P ⊢; exact P
    refine wpAny_Call_NameR (ld_boot F g1 g2 g3 (hfree x h3) hb ?_)
    have S : wpAny c.M A (spliced (backTo pos (starEach es env))) (fun vs s' => wpAny c.M A (PySem.call f.val ([] ++ vs) []) Q E s') E s :=
      (pes_sound xs h4 hks hm F hlen).onK P fun l σ₁ _ vs H₁ s₁ x₁ r₁ P₁ => by
        have F₁ := F.ss x₁
        exact OK.bcall hq (hm.nf x₁.nf) F₁.base' F₁.hlt (RepOL.derefS F₁ hlen r₁) (BI.boot f) _ _ (P₁.res F₁.sto F₁.hlt)
    have args : wpAny c.M A (evalArgs f.val true (backTo pos (starEach es env)) []) (fun a s₁ => wpAny c.M A (PySem.call f.val ([] ++ a.pos) a.kw) Q E s₁) E s := by
      cases es with
      | nil => exact PySem.evalArgs_none (by
          have := pes_nil h4
          subst this
          simp only [onL, qes_nil, List.map_nil] at P
          exact OK.bcall hq hm F.base' F.hlt (vs := []) (xs := []) trivial (BI.boot f) _ _ (P.res F.sto F.hlt))
      | cons e es =>
        have hst : starEach (e :: es) env = (false, eval e env) :: starEach es env := starEach_cons (encEs_head h4)
        rw [hst] at S ⊢
        exact Calls.evalArgs_plain S
    have plain := star_plain (pos := pos) (env := env) h4
    unfold BI.val at args ⊢
    split at args
    · rw [if_pos (by assumption)]; exact PySem.callWith_type plain args
    · rw [if_neg (by assumption)]; exact Calls.callWith_builtin plain args
  | .meth o m xs, q, ks, ns, st, ex, env, A, s, fe, H, he, hks, hm, F, hlen => by
    rw [ec_meth] at he
    obtain ⟨o', n, apos, es, pos, rfl, hz⟩ := onMC_eq he
    replace he := hz; clear hz
    simp only [Bool.and_eq_true, beq_iff_eq, decide_eq_true_eq] at he
    obtain ⟨⟨⟨⟨⟨h1, h2⟩, h3⟩, h4⟩, h5⟩, h6⟩ := he
    subst h1
    rw [qe_meth]
    refine prOk_of OK hm F hlen ?_ rfl
    have hq : q = true ∨ q = false := by cases q <;> simp
    rcases hq with hq | hq
    case inr => rw [hq]; exact Ev.stuck
    intro Q E P
    have P : PostE q A st.lo st.σ H ((pe O cal q st o).v.bind fun a σ₁ => onL (pes O cal q (st.at σ₁) xs) fun l σ₂ => (match O.mty m (derefS st.ρ σ₁ a), O.mty m (derefS st.ρ σ₂ a) with
      | some T, some T' => if T = T' then ofRes (O.meth m (derefS st.ρ σ₂ a) (l.map (derefS st.ρ σ₂))) σ₂ else .stuck
      | _, _ => .stuck)) s Q E := by rw [hq] at P ⊢; exact P
    refine wpAny_Call_method_lateS (baseOk_eq h2 _ _ _) (star_all h6 h4) (by simpa using h3) ((pe_sound o h5 hks hm F hlen).v.bindK P fun a σ₁ _ va H₁ s₁ x₁ r₁ P₁ => ?_)
    have F₁ := F.ss x₁
    obtain ⟨ol, σ₂, hpes⟩ : ∃ ol σ₂, pes O cal q (st.at σ₁) xs = some (ol, σ₂) := by
      unfold onL at P₁
      split at P₁
      · rename_i ol σ₂ h; exact ⟨ol, σ₂, h⟩
      · exact P₁.elim
    have P₁' := P₁
    simp only [onL, hpes] at P₁'
    split at P₁'
    case h_2 => exact P₁'.elim
    rename_i T T' hT hT'
    split at P₁'
    case isFalse => exact P₁'.elim
    rename_i hTT
    subst hTT
    obtain ⟨t1, t2, t3, t4, t5⟩ := OK.methT (RepO.derefS F₁ hlen r₁) hT
    refine ⟨T, T ++ "." ++ m.name, t1, t2, t3, t4, t5, ?_⟩
    have plain := star_plain (pos := pos) (env := env) h6
    refine Calls.callWith_builtin plain ?_
    have S : wpAny c.M A (spliced (backTo pos (starEach es env))) (fun vs s' => wpAny c.M A (PySem.call (.builtin (T ++ "." ++ m.name)) ([va] ++ vs) []) Q E s') E s₁ :=
      (pes_sound xs h6 hks (hm.nf x₁.nf) F₁ hlen).onK P₁ fun l σ₂' e2 vs H₂ s₂ x₂ r₂ P₂ => by
        rw [hpes] at e2; cases e2
        have F₂ := F₁.ss x₂
        simp only [hT, hT', if_true] at P₂
        exact OK.meth hq ((hm.nf x₁.nf).nf x₂.nf) F₂.hlt (RepO.derefS F₂ hlen (r₁.ss x₂ F₁.sto)) (RepOL.derefS F₂ hlen r₂) hT' _ _ (P₂.res F₂.sto F₂.hlt)
    cases es with
    | nil => exact PySem.evalArgs_none (by
        have := pes_nil h6
        subst this
        rw [qes_nil] at hpes
        cases hpes
        exact OK.meth hq (hm.nf x₁.nf) F₁.hlt (RepO.derefS F₁ hlen r₁) (vs := []) (xs := []) trivial hT _ _ (P₁'.res F₁.sto F₁.hlt))
    | cons e es =>
      have hst : starEach (e :: es) env = (false, eval e env) :: starEach es env := starEach_cons (encEs_head h6)
      rw [hst] at S ⊢
      exact Calls.evalArgs_plain S
  | .notimpl x, q, ks, ns, st, ex, env, A, s, fe, H, he, hks, hm, F, hlen => by
    rw [ec_notimpl] at he
    obtain ⟨l', op', r', pos, rfl, hz⟩ := onC1_eq he
    replace he := hz; clear hz
    obtain ⟨y, py, rfl, hz⟩ := onE_name he
    replace he := hz; clear hz
    simp only [Bool.and_eq_true, beq_iff_eq, List.contains_iff_mem] at he
    obtain ⟨⟨⟨⟨rfl, h1⟩, h2⟩, h3⟩, h4⟩ := he
    obtain ⟨g1, g2, g3⟩ := isGlob_of hks h2
    rw [qe_notimpl]
    refine prOk_cmp OK hm F hlen rfl fun Q Q' E P h => ?_
    refine (pe_sound x h4 hks hm F hlen).v.bindAK P fun a σ₁ e₁ va H₁ s₁ x₁ r₁ P₁ => ?_
    have F₁ := F.ss x₁
    cases a <;> first | exact P₁.elim | skip
    rename_i i
    simp only [Rep] at r₁
    obtain ⟨t, rfl⟩ := r₁
    refine ld_boot F₁ g1 g2 g3 (hfree y h3) (by rw [h1]; exact boot_notImpl) ?_
    exact is_of (c := c) (q := q) (H := H₁) (b := false) (fun Q' hq => wpAny_of_eq (rfl : isSame (.int _ t) .notImplemented = pure false) hq) (.inl rfl) _ _ fun v s₂ k₂ r₂ => by
      simp only [Rep, if_true] at r₂
      subst r₂
      exact h _ σ₁ H₁ s₂ (by simp only [e₁, ER.bindA]) (x₁.trans (.of_kp k₂ F₁.sto F₁.hlt))
  | .attr x n, q, ks, ns, st, ex, env, A, s, fe, H, he, hks, hm, F, hlen => by
    rw [ec_attr] at he
    obtain ⟨x', a, pos, rfl, hz⟩ := onE_attr he
    replace he := hz; clear hz
    simp only [Bool.and_eq_true, beq_iff_eq] at he
    obtain ⟨⟨h1, h2⟩, h3⟩ := he
    subst h1
    rw [qe_attr]
    refine prOk_of OK hm F hlen ?_ rfl
    have hq : q = true ∨ q = false := by cases q <;> simp
    rcases hq with hq | hq
    case inr => rw [hq]; exact Ev.stuck
    intro Q E P
    have P : PostE q A st.lo st.σ H ((pe O cal q st x).v.bind fun a σ₁ => ofRes (O.attr n (derefS st.ρ σ₁ a)) σ₁) s Q E := by rw [hq] at P ⊢; exact P
    rw [arm_eval_Attribute, baseOk_eq h2]
    refine wpAny_bind ((pe_sound x h3 hks hm F hlen).v.bindK P fun a σ₁ _ va H₁ s₁ x₁ r₁ P₁ => wpAny_bind (wpAny_standAt (wpAny_bind (wpAny_holding ?_))))
    have F₁ := F.ss x₁
    exact OK.attr hq (hm.nf x₁.nf) F₁.hlt (RepO.derefS F₁ hlen r₁) _ _ (by
      have P₂ := P₁.res F₁.sto F₁.hlt
      cases hr : O.attr n (derefS st.ρ σ₁ a) with
      | stuck => rw [hr] at P₂; exact P₂
      | exc z => rw [hr] at P₂; exact P₂
      | ok v => rw [hr] at P₂; exact fun w s' k' r' => wpAny_bind (wpAny_letTemporaryGo (wpAny_pure (P₂ w s' k' r'))))
  | .vcall i xs, q, ks, ns, st, ex, env, A, s, fe, H, he, hks, hm, F, hlen => by
    rw [ec_vcall] at he
    obtain ⟨x, px, es, pos, rfl, hz⟩ := onNC_eq he
    replace he := hz; clear hz
    simp only [Bool.and_eq_true, beq_iff_eq, Bool.not_eq_true'] at he
    obtain ⟨⟨h1, h2⟩, h4⟩ := he
    rw [qe_vcall]
    refine prOk_of OK hm F hlen ?_ rfl
    have hq : q = true ∨ q = false := by cases q <;> simp
    rcases hq with hq | hq
    case inr => rw [hq]; exact Ev.stuck
    split
    case h_2 => exact Ev.stuck
    rename_i id σ' hv
    have hρ : st.ρ[i]? = some (some (.val (.fn id))) := by
      unfold slotV at hv
      split at hv
      · rename_i v hv'; cases hv; exact hv'
      · cases hv
      · cases hv
    obtain ⟨v, nv, rv⟩ := F.vals i x _ h1 hρ
    have rv : Rep (vis s.heap H) v (.fn id) := rv
    simp only [Rep] at rv
    subst rv
    intro Q E P
    refine wpAny_Call_NameR (wpAny_Name (nv.load F.kind ?_) h2)
    have plain := star_plain (pos := pos) (env := env) h4
    refine Calls.callWith_builtin plain ?_
    have S : wpAny c.M A (spliced (backTo pos (starEach es env))) (fun vs s' => wpAny c.M A (PySem.call (.builtin id) ([] ++ vs) []) Q E s') E s :=
      (pes_sound xs h4 hks hm F hlen).onK P fun l σ₁ _ vs H₁ s₁ x₁ r₁ P₁ => by
        have F₁ := F.ss x₁
        exact OK.fcall rfl (hm.nf x₁.nf) F₁.hlt (RepOL.derefS F₁ hlen r₁) _ _ (P₁.res F₁.sto F₁.hlt)
    cases es with
    | nil => exact PySem.evalArgs_none (by
        have := pes_nil h4
        subst this
        simp only [onL, qes_nil, List.map_nil] at P
        exact OK.fcall rfl hm F.hlt (vs := []) (xs := []) trivial _ _ (P.res F.sto F.hlt))
    | cons e es =>
      have hst : starEach (e :: es) env = (false, eval e env) :: starEach es env := starEach_cons (encEs_head h4)
      rw [hst] at S ⊢
      exact Calls.evalArgs_plain S
  | .comp caps elt src conds, q, ks, ns, st, ex, env, A, s, fe, H, he, hks, hm, F, hlen => by
    rw [ec_comp] at he
    obtain ⟨e', x, px, it, ifs, scope, pos, rfl, hz⟩ := onLC_eq he
    replace he := hz; clear hz
    all_goals
      simp only [Bool.and_eq_true] at he
      obtain ⟨⟨⟨⟨h1, h0⟩, h2⟩, h3⟩, h4⟩ := he
      have h0 : isSetd src = false := by simpa using h0
      rw [qe_comp]
      refine prOk_of OK hm F hlen ?_ rfl
      cases q with
      | false => exact Ev.stuck
      | true =>
        exact ev_listcomp OK (f := fun σ₁ x => compF σ₁.length (pall O cal true ((st.at σ₁).inner caps x) .And conds) (pe O cal true ((st.at σ₁).inner caps x) elt).v) rfl hm F hlen (compOk_of hks h2) (encE_notSet h1 h0 env) (pe_sound src h1 hks hm F hlen).v fun σ₁ => comp_turn (relab_eq hks F.kind) hlen (fun a b c d => pe_sound elt h3 a b c d) (fun a b c d => ptests_sound conds h4 a b c d)
  | .setc caps elt src, q, ks, ns, st, ex, env, A, s, fe, H, he, hks, hm, F, hlen => by
    rw [ec_setc] at he
    obtain ⟨e', x, px, it, scope, pos, rfl, hz⟩ := onSC_eq he
    replace he := hz; clear hz
    simp only [Bool.and_eq_true] at he
    obtain ⟨⟨⟨h1, h0⟩, h2⟩, h3⟩ := he
    have h0 : isSetd src = false := by simpa using h0
    rw [qe_setc]
    refine prOk_of OK hm F hlen ?_ rfl
    cases q with
    | false => exact Ev.stuck
    | true =>
      rw [OK.ld]
      exact ev_comp OK (ce := .SetComp e' [⟨.Name x px, it, [], 0⟩] scope pos) (res := fun ys => .sm (!c.w.params.followText "set-order") (distI (intsOf ys)).length) (f := fun σ₁ x => smallF (compF σ₁.length (some (true, σ₁)) (pe O cal true ((st.at σ₁).inner caps x) elt).v)) rfl hm F hlen (compOk_of hks h2) (encE_notSet h1 h0 env) rfl (pe_sound src h1 hks hm F hlen).v acc_set (fun σ₁ => turn_set (comp_turn (conds := .nil) (relab_eq hks F.kind) hlen (fun a b c d => pe_sound elt h3 a b c d) (fun _ _ c _ => ptests_nil c))) rep_sm
  | .dictc caps key val src, q, ks, ns, st, ex, env, A, s, fe, H, he, hks, hm, F, hlen => by
    rw [ec_dictc] at he
    obtain ⟨e', e2, x, px, it, scope, pos, rfl, hz⟩ := onDC_eq he
    replace he := hz; clear hz
    simp only [Bool.and_eq_true] at he
    obtain ⟨⟨⟨⟨h1, h0⟩, h2⟩, h3⟩, h4⟩ := he
    have h0 : isSetd src = false := by simpa using h0
    rw [qe_dictc]
    refine prOk_of OK hm F hlen ?_ rfl
    cases q with
    | false => exact Ev.stuck
    | true =>
      exact ev_comp OK (ce := .DictComp e' e2 [⟨.Name x px, it, [], 0⟩] scope pos) (res := fun ys => .dict (distI (intsOf ys)).length) (f := fun σ₁ x => pairF (compF σ₁.length (some (true, σ₁)) (pe O cal true ((st.at σ₁).inner caps x) key).v) (compF σ₁.length (some (true, σ₁)) (pe O cal true ((st.at σ₁).inner caps x) val).v)) rfl hm F hlen (compOk_of hks h2) (encE_notSet h1 h0 env) rfl (pe_sound src h1 hks hm F hlen).v acc_dict (fun σ₁ => turn_dict (comp_turn (conds := .nil) (relab_eq hks F.kind) hlen (fun a b c d => pe_sound key h3 a b c d) (fun _ _ c _ => ptests_nil c)) (comp_turn (conds := .nil) (relab_eq hks F.kind) hlen (fun a b c d => pe_sound val h4 a b c d) (fun _ _ c _ => ptests_nil c))) rep_dict
theorem pes_sound : ∀ (es : PEs) {q : Bool} {ks : List (Str × NameKind)} {ns : List Str} {st : Fs} {exs : List Expr} {env : Env} {A : Around} {s : Shared} {fe : FE} {H : Hd} {pos : Pos},
    encEs frees fname ks ns es exs = true → env.scope.names = ks → Rm c q (k + 1) A s.heap → Fm c (FrA A) ns env st fe H s.heap → st.ρ.length = ns.length → EvL c A st.lo st.σ H (spliced (backTo pos (starEach exs env))) (pes O cal q st es) s
  | .nil, q, ks, ns, st, exs, env, A, s, fe, H, pos, he, hks, hm, F, hlen => fun xs σ' hx Q E P => by
    cases exs with
    | nil =>
      simp only [qes_nil, qes_cons] at hx
      cases hx
      exact Calls.spliced_nil (P _ H s (.of_kp (Kp.refl _ _) F.sto F.hlt) trivial)
    | cons _ _ => simp [ecs_nil, ecs_cons] at he
  | .cons p ps, q, ks, ns, st, exs, env, A, s, fe, H, pos, he, hks, hm, F, hlen => fun xs σ' hx Q E P => by
    cases exs with
    | nil => simp [ecs_nil, ecs_cons] at he
    | cons e r =>
      have he' := he
      simp only [ecs_nil, ecs_cons, Bool.and_eq_true] at he
      simp only [qes_nil, qes_cons] at hx
      have I := (pe_sound p he.1 hks hm F hlen).v
      split at hx
      case h_2 => cases hx
      rename_i v σ₁ hv
      rw [hv] at I
      split at hx
      case h_2 => cases hx
      rename_i l σ₂ hl
      cases hx
      rw [starEach_cons (encE_notStar he.1)]
      show wpAny c.M A (spliced ((false, eval e env) :: backTo pos (starEach r env))) Q E s
      refine Calls.spliced_cons (I _ _ fun w H₁ s₁ x₁ r₁ => ?_)
      have F₁ := F.ss x₁
      exact pes_sound ps he.2 hks (hm.nf x₁.nf) F₁ hlen l _ hl _ _ fun ws H₂ s₂ x₂ r₂ => P _ H₂ s₂ (x₁.trans x₂) ⟨r₁.ss x₂ F₁.sto, r₂⟩
theorem pall_sound : ∀ (es : PEs) {q : Bool} {op : BoolOp} {ks : List (Str × NameKind)} {ns : List Str} {st : Fs} {exs : List Expr} {env : Env} {A : Around} {s : Shared} {fe : FE} {H : Hd},
    encEs frees fname ks ns es exs = true → env.scope.names = ks → Rm c q (k + 1) A s.heap → Fm c (FrA A) ns env st fe H s.heap → st.ρ.length = ns.length → EvB c A st.lo st.σ H (allTrue op exs env) (pall O cal q st op es) s
  | .nil, q, op, ks, ns, st, exs, env, A, s, fe, H, he, hks, hm, F, hlen => fun b σ' hx Q E P => by
    cases exs with
    | nil =>
      simp only [pall] at hx
      cases hx
      exact wpAny_pure (P H s (.of_kp (Kp.refl _ _) F.sto F.hlt))
    | cons _ _ => simp [ecs_nil, ecs_cons] at he
  | .cons p ps, q, op, ks, ns, st, exs, env, A, s, fe, H, he, hks, hm, F, hlen => fun b σ' hx Q E P => by
    cases exs with
    | nil => simp [ecs_nil, ecs_cons] at he
    | cons e r =>
      simp only [ecs_nil, ecs_cons, Bool.and_eq_true] at he
      simp only [pall] at hx
      have I := (pe_sound p he.1 hks hm F hlen).t
      cases op with
      | And =>
        refine wpAny_allTrue_And_cons ?_
        split at hx
        · rename_i σ₁ hv; cases hx; exact I _ _ hv _ _ fun H₁ s₁ x₁ => P H₁ s₁ x₁
        · rename_i h _; cases h
        · rename_i σ₁ hv; exact I _ _ hv _ _ fun H₁ s₁ x₁ => pall_sound ps he.2 hks (hm.nf x₁.nf) (F.ss x₁) hlen b σ' hx _ _ fun H₂ s₂ x₂ => P H₂ s₂ (x₁.trans x₂)
        · rename_i h _; cases h
        · cases hx
      | Or =>
        refine wpAny_allTrue_Or_cons ?_
        split at hx
        · rename_i h _; cases h
        · rename_i σ₁ hv; cases hx; exact I _ _ hv _ _ fun H₁ s₁ x₁ => P H₁ s₁ x₁
        · rename_i h _; cases h
        · rename_i σ₁ hv; exact I _ _ hv _ _ fun H₁ s₁ x₁ => pall_sound ps he.2 hks (hm.nf x₁.nf) (F.ss x₁) hlen b σ' hx _ _ fun H₂ s₂ x₂ => P H₂ s₂ (x₁.trans x₂)
        · cases hx
theorem ptests_sound : ∀ (es : PEs) {q : Bool} {ks : List (Str × NameKind)} {ns : List Str} {st : Fs} {exs : List Expr} {env : Env} {A : Around} {s : Shared} {fe : FE} {H : Hd},
    encEs frees fname ks ns es exs = true → env.scope.names = ks → Rm c q (k + 1) A s.heap → Fm c (FrA A) ns env st fe H s.heap → st.ρ.length = ns.length → EvB c A st.lo st.σ H (testsOf exs env) (pall O cal q st .And es) s
  | .nil, q, ks, ns, st, exs, env, A, s, fe, H, he, hks, hm, F, hlen => fun b σ' hx Q E P => by
    cases exs with
    | nil =>
      simp only [pall] at hx
      cases hx
      unfold testsOf
      rw [List.forIn_nil]
      exact wpAny_pure (P H s (.of_kp (Kp.refl _ _) F.sto F.hlt))
    | cons _ _ => simp [ecs_nil, ecs_cons] at he
  | .cons p ps, q, ks, ns, st, exs, env, A, s, fe, H, he, hks, hm, F, hlen => fun b σ' hx Q E P => by
    cases exs with
    | nil => simp [ecs_nil, ecs_cons] at he
    | cons e r =>
      simp only [ecs_nil, ecs_cons, Bool.and_eq_true] at he
      simp only [pall] at hx
      have I := (pe_sound p he.1 hks hm F hlen).t
      unfold testsOf
      rw [List.forIn_cons]
      simp only [if_true]
      split at hx
      · rename_i σ₁ hv
        cases hx
        refine wpAny_bind (wpAny_bind (I _ _ hv _ _ fun H₁ s₁ x₁ => wpAny_pure ?_))
        have skip : ∀ (l : List Expr), (forIn l false fun c r => if r = true then do let ok ← isTrue c env (eval c env); pure (ForInStep.yield ok) else pure (ForInStep.yield r) : Sem Bool) = pure false := by
          intro l
          induction l with
          | nil => rw [List.forIn_nil]
          | cons y l ih => rw [List.forIn_cons]; simpa using ih
        show wpAny c.M A (forIn r false _) _ _ _
        rw [skip]
        exact wpAny_pure (P H₁ s₁ x₁)
      · rename_i h _; cases h
      · rename_i σ₁ hv
        refine wpAny_bind (wpAny_bind (I _ _ hv _ _ fun H₁ s₁ x₁ => wpAny_pure ?_))
        exact ptests_sound ps he.2 hks (hm.nf x₁.nf) (F.ss x₁) hlen b σ' hx _ _ fun H₂ s₂ x₂ => P H₂ s₂ (x₁.trans x₂)
      · rename_i h _; cases h
      · cases hx
theorem pbop_sound : ∀ (es : PEs) {q : Bool} {op : BoolOp} {ks : List (Str × NameKind)} {ns : List Str} {st : Fs} {exs : List Expr} {env : Env} {A : Around} {s : Shared} {fe : FE} {H : Hd} {pos : Pos},
    encEs frees fname ks ns es exs = true → env.scope.names = ks → Rm c q (k + 1) A s.heap → Fm c (FrA A) ns env st fe H s.heap → st.ρ.length = ns.length → Ev c q A st.lo st.σ H (boolOp pos op (evalEach exs env)) (pbop O cal q st op es) s
  | .nil, q, op, ks, ns, st, exs, env, A, s, fe, H, pos, he, hks, hm, F, hlen => by
    simp only [pbop]; exact Ev.stuck
  | .cons p .nil, q, op, ks, ns, st, exs, env, A, s, fe, H, pos, he, hks, hm, F, hlen => by
    match exs, he with
    | [], he => simp [ecs_nil, ecs_cons] at he
    | [e], he =>
      simp only [ecs_nil, ecs_cons, Bool.and_eq_true] at he
      simp only [pbop]
      exact (pe_sound p he.1 hks hm F hlen).v
    | _ :: _ :: _, he => simp [ecs_nil, ecs_cons] at he
  | .cons p (.cons p' ps), q, op, ks, ns, st, exs, env, A, s, fe, H, pos, he, hks, hm, F, hlen => by
    match exs, he with
    | [], he => simp [ecs_nil, ecs_cons] at he
    | [e], he => simp [ecs_nil, ecs_cons] at he
    | e :: e' :: r, he =>
      have he' : encE frees fname ks ns p e = true ∧ encEs frees fname ks ns (.cons p' ps) (e' :: r) = true := by
        rw [ecs_cons] at he
        simpa only [Bool.and_eq_true] using he
      intro Q E P
      simp only [pbop] at P
      show wpAny c.M A (do
        let v ← eval e env
        standAt pos
        let t ← holding [v] (truthy v)
        match op, t with
        | .And, false | .Or, true => pure v
        | _, _ => boolOp pos op (evalEach (e' :: r) env)) Q E s
      refine wpAny_bind ((pe_sound p he'.1 hks hm F hlen).v.bindK P fun v σ₁ _ w H₁ s₁ x₁ r₁ P₁ => wpAny_bind (wpAny_standAt (wpAny_bind (wpAny_holding ?_))))
      have F₁ := F.ss x₁
      cases ht : O.truth (derefS st.ρ σ₁ v) with
      | none => rw [ht] at P₁; cases op <;> exact P₁.elim
      | some b =>
        rw [ht] at P₁
        refine OK.truth (hm.nf x₁.nf) F₁.hlt (RepO.derefS F₁ hlen r₁) ht _ _ fun s₂ k₂ => ?_
        have x₂ : Ss A st.lo σ₁ H₁ s₁ σ₁ H₁ s₂ := .of_kp k₂ F₁.sto F₁.hlt
        have F₂ := F₁.ss x₂
        cases op <;> cases b
        · exact wpAny_pure (P₁ _ H₁ s₂ x₂ (r₁.ss x₂ F₁.sto))
        · exact pbop_sound (.cons p' ps) he'.2 hks ((hm.nf x₁.nf).nf x₂.nf) F₂ hlen _ _ (P₁.ss x₂)
        · exact pbop_sound (.cons p' ps) he'.2 hks ((hm.nf x₁.nf).nf x₂.nf) F₂ hlen _ _ (P₁.ss x₂)
        · exact wpAny_pure (P₁ _ H₁ s₂ x₂ (r₁.ss x₂ F₁.sto))
end
end
end Mine
end
section
open PySem PySem.W PyProof.Rows
set_option linter.unusedVariables false
namespace Mine

theorem not_isL_ns {h : Heap} {a : Addr} {m : Str → Option Value} (n : h.Ns a m) (vs : List Value) : ¬ IsL h a vs := fun ⟨o, k, e, _, d, _⟩ => by
  obtain ⟨o', es, ep, e', d', _⟩ := n
  rw [e] at e'; cases e'
  rw [d] at d'; cases d'
theorem not_isL_cell {h : Heap} {a : Addr} {v : Option Value} (n : h.IsCell a v) (vs : List Value) : ¬ IsL h a vs := fun ⟨o, k, e, _, d, _⟩ => by
  obtain ⟨o', e', d'⟩ := n
  rw [e] at e'; cases e'
  rw [d] at d'; cases d'
theorem get_set {ρ : List (Option Ent)} {i j : Nat} {t u : Ent} (h : (ρ.set i (some t))[j]? = some (some u)) : (j = i ∧ u = t) ∨ (j ≠ i ∧ ρ[j]? = some (some u)) := by
  rw [List.getElem?_set] at h
  split at h
  · rename_i e
    split at h
    · simp only [Option.some.injEq] at h
      exact .inl ⟨e.symm, h.symm⟩
    · cases h
  · rename_i e
    exact .inr ⟨Ne.symm e, h⟩
/-- nothing else stands at that name -/
noncomputable def OneName (ns : List Str) (i : Nat) (x : Str) : Prop := ∀ j : Nat, ns[j]? = some x → j = i

/-- the store stays where one thing apart from it turns -/
theorem Sto.chg {σ : Store} {H H' : Hd} {h h' : Heap} {a : Addr} (S : Sto σ H h) (hk : ∀ b o, b ≠ a → h.get? b = some o → h'.get? b = some o) (na : ∀ n, H.m n ≠ some a) (le : (vis h H).Le (vis h' H')) (hm : H'.m = H.m) (hh : ∀ n b, H.m n = some b → H'.p b) : Sto σ H' h' where
  at' := fun n mo e => by
    obtain ⟨b, e1, r⟩ := S.at' n mo e
    exact ⟨b, by rw [hm]; exact e1, r.kv (Kv.of_but (F := fun _ => False) (W := fun b => b = a) hk rfl) (fun z => na n (z ▸ e1)) le⟩
  inj := fun n n' b e e' => S.inj n n' b (by rw [← hm]; exact e) (by rw [← hm]; exact e')
  lt := fun n b e => S.lt n b (by rw [← hm]; exact e)
  hid := fun n b mo _ e => hh n b (by rw [← hm]; exact e)
  al := fun n b e => by
    rw [hm] at e
    obtain ⟨o, e'⟩ := S.al n b e
    exact ⟨o, hk b o (fun z => na n (z ▸ e)) e'⟩
  tot := fun n b e => S.tot n b (by rw [← hm]; exact e)
theorem Sto.hidden {σ : Store} {H : Hd} {h : Heap} (S : Sto σ H h) {n : Nat} {b : Addr} (e : H.m n = some b) : H.p b := let ⟨mo, q⟩ := S.tot n b e; S.hid n b mo q e
theorem Sto.notNs {σ : Store} {H : Hd} {h : Heap} (S : Sto σ H h) {a : Addr} {m : Str → Option Value} (n : h.Ns a m) (i : Nat) : H.m i ≠ some a := fun e => by
  obtain ⟨mo, q⟩ := S.tot i a e
  obtain ⟨b, e1, r⟩ := S.at' i mo q
  rw [e] at e1; cases e1
  obtain ⟨o, e2, d, _⟩ := r.data
  obtain ⟨o', es, ep, e3, d', _⟩ := n
  rw [e2] at e3; cases e3
  exact d _ _ d'
theorem Sto.notCell {σ : Store} {H : Hd} {h : Heap} (S : Sto σ H h) {a : Addr} {v : Option Value} (n : h.IsCell a v) (i : Nat) : H.m i ≠ some a := fun e => by
  obtain ⟨mo, q⟩ := S.tot i a e
  obtain ⟨b, e1, r⟩ := S.at' i mo q
  rw [e] at e1; cases e1
  obtain ⟨o, e2, _, d, _⟩ := r.data
  obtain ⟨o', e3, d'⟩ := n
  rw [e2] at e3; cases e3
  exact d _ d'

/-- one thing that is not of the frame's beginning turns -/
theorem Fm.chg {c : Cx} {Fr : Addr → Prop} {ns : List Str} {env : Env} {st : Fs} {ρ' : List (Option Ent)} {fe : FE} {H H' : Hd} {h h' : Heap} {a : Addr} (F : Fm c Fr ns env st fe H h) (hk : ∀ b o, b ≠ a → h.get? b = some o → h'.get? b = some o) (hfe : fe.h.get? a = none)
    (hle : ∀ b, fe.H.p b → H'.p b) (hm : H'.m = H.m) (live : Live H' h') (hns : ∃ m, h'.Ns env.locals m) (hl : H'.p env.locals) (hc : ∀ x cc, env.kindOf x = some .cell → env.cells.lookup x = some cc → H'.p cc ∧ fe.h.get? cc = none)
    (hcl : ∀ x, env.kindOf x = some .cell → ∃ cc v, env.cells.lookup x = some cc ∧ h'.IsCell cc v) (vals : ∀ (i : Nat) x t, ns[i]? = some x → ρ'[i]? = some (some t) → ∃ v, NV h' env x v ∧ RepE h' H' i v t)
    (own : ∀ i a, H'.o i = some a → H'.p a ∧ fe.h.get? a = none ∧ (∀ n, H'.m n ≠ some a) ∧ ∃ vs, IsL h' a vs) (oinj : ∀ i j a, H'.o i = some a → H'.o j = some a → i = j) (sto : Sto st.σ H' h') : Fm c Fr ns env { st with ρ := ρ' } fe H' h' where
  keep := fun b o n e => by
    have hb : b ≠ a := fun z => by rw [z, hfe] at e; cases e
    obtain ⟨p1, sl, p2⟩ := F.keep b o n e
    exact ⟨fun f => hk b _ hb (p1 f), sl, hk b _ hb p2⟩
  wsub := F.wsub
  base := F.base
  baseF := F.baseF
  basew := F.basew
  hle := hle
  mle := fun n b e => by rw [hm]; exact F.mle n b e
  mold := fun n b l e => F.mold n b l (by rw [← hm]; exact e)
  mnew := fun n b l e => F.mnew n b l (by rw [← hm]; exact e)
  mw := fun n b mo l l' q e => F.mw n b mo l l' q (by rw [← hm]; exact e)
  hlt := live
  felt := F.felt
  wlt := F.wlt
  kind := F.kind
  glob := F.glob
  bi := F.bi
  code := F.code
  ns := hns
  hl := hl
  lnew := F.lnew
  hc := hc
  cl := hcl
  capart := F.capart
  vals := vals
  own := own
  oinj := oinj
  sto := sto
  mh0 := fun n b e => F.mh0 n b (by rw [← hm]; exact e)
  n0le := F.n0le

section
variable {c : Cx} {Fr : Addr → Prop} {ns : List Str} {env : Env} {st : Fs} {fe : FE} {H : Hd} {h h' : Heap}

/-- a slot is forgotten -/
theorem Fm.kill (F : Fm c Fr ns env st fe H h) (i : Nat) : Fm c Fr ns env { st with ρ := st.ρ.set i none } fe H h := { F with
  vals := fun j x t a b => F.vals j x t a (by
    have b : (st.ρ.set i none)[j]? = some (some t) := b
    rw [List.getElem?_set] at b
    split at b
    · split at b <;> simp at b
    · exact b) }

/-- a slot's table turns -/
theorem fm_store {i : Nat} {x : Str} {t : Ent} {v : Value} {a : Addr} (F : Fm c Fr ns env st fe H h) (hx : ns[i]? = some x) (hnd : OneName ns i x)
    (hs : Heap.SameBut a h h') (hH : H.p a) (hfe : fe.h.get? a = none) (hn : ∀ vs, ¬ IsL h a vs) (nm : ∀ n, H.m n ≠ some a) (hlive : ∃ o, h'.get? a = some o) (nx : NV h' env x v) (ny : ∀ y w, y ≠ x → NV h env y w → NV h' env y w) (hns : ∃ m, h'.Ns env.locals m)
    (hcl : ∀ x, env.kindOf x = some .cell → ∃ cc v, env.cells.lookup x = some cc ∧ h'.IsCell cc v) (r : RepE h H i v t) : Fm c Fr ns env { st with ρ := st.ρ.set i (some t) } fe H h' := by
  have hk : ∀ b o, b ≠ a → h.get? b = some o → h'.get? b = some o := fun b o n e => (hs.2 b n).trans e
  have le : (vis h H).Le (vis h' H) := (Kv.of_sameBut (F := fun _ => False) (W := fun b => b = a) hs rfl).vis fun b z => z ▸ hH
  have lk : ∀ {b vs}, IsL h b vs → IsL h' b vs := fun {b vs} l => l.at' fun o e => hk b o (fun z => hn vs (z ▸ l)) e
  refine F.chg (H' := H) hk hfe F.hle rfl (fun b q => ?_) hns F.hl F.hc hcl (fun j y u hj hu => ?_) (fun j b e => ?_) F.oinj (F.sto.chg hk nm le rfl fun n b e => F.sto.hidden e)
  · by_cases hb : b = a
    · rw [hb]; exact hlive
    · obtain ⟨o, e⟩ := F.hlt b q
      exact ⟨o, hk b o hb e⟩
  · rcases get_set hu with ⟨rfl, rfl⟩ | ⟨ne, hu⟩
    · rw [hx] at hj; cases hj
      exact ⟨v, nx, r.mono le (fun _ e => e) fun _ _ _ l => lk l⟩
    · obtain ⟨w, nw, rw'⟩ := F.vals j y u hj hu
      refine ⟨w, ny y w (fun z => ne ?_) nw, rw'.mono le (fun _ e => e) fun _ _ _ l => lk l⟩
      subst z; exact hnd j hj
  · obtain ⟨p, q, r, vs, l⟩ := F.own j b e
    exact ⟨p, q, r, vs, lk l⟩

/-- an own list turns -/
theorem fm_own {i : Nat} {a : Addr} {vs' : List Value} {xs' : List AV} (F : Fm c Fr ns env st fe H h) (ho : H.o i = some a) (hr : ∃ xs, st.ρ[i]? = some (some (.own xs))) (hs : Heap.SameBut a h h') (hl' : IsL h' a vs') (hz : xs'.length ≤ 1048576) (hv : RepL (vis h H) vs' xs') :
    Fm c Fr ns env { st with ρ := st.ρ.set i (some (.own xs')) } fe H h' := by
  obtain ⟨hH, hfe, nm, vs, hl⟩ := F.own i a ho
  have hk : ∀ b o, b ≠ a → h.get? b = some o → h'.get? b = some o := fun b o n e => (hs.2 b n).trans e
  have le : (vis h H).Le (vis h' H) := (Kv.of_sameBut (F := fun _ => False) (W := fun b => b = a) hs rfl).vis fun b z => z ▸ hH
  have nsk : ∀ {b m}, h.Ns b m → h'.Ns b m := fun {b m} n => by
    have hb : b ≠ a := fun z => not_isL_ns n vs (z ▸ hl)
    obtain ⟨o, es, ep, e, r⟩ := n
    exact ⟨o, es, ep, hk b o hb e, r⟩
  have clk : ∀ {b v}, h.IsCell b v → h'.IsCell b v := fun {b v} n => by
    have hb : b ≠ a := fun z => not_isL_cell n vs (z ▸ hl)
    obtain ⟨o, e, r⟩ := n
    exact ⟨o, hk b o hb e, r⟩
  have nvk : ∀ {x v}, NV h env x v → NV h' env x v := fun {x v} n => by
    rcases n with ⟨k1, m, n, e⟩ | ⟨k1, cc, e, n⟩
    · exact .inl ⟨k1, m, nsk n, e⟩
    · exact .inr ⟨k1, cc, e, clk n⟩
  refine F.chg (H' := H) hk hfe F.hle rfl (fun b q => ?_) (let ⟨m, n⟩ := F.ns; ⟨m, nsk n⟩) F.hl F.hc (fun x q => let ⟨cc, v, e, n⟩ := F.cl x q; ⟨cc, v, e, clk n⟩) (fun j y u hj hu => ?_) (fun j b e => ?_) F.oinj (F.sto.chg hk nm le rfl fun n b e => F.sto.hidden e)
  · by_cases hb : b = a
    · obtain ⟨o, _, e, _⟩ := hl'; exact ⟨o, hb ▸ e⟩
    · obtain ⟨o, e⟩ := F.hlt b q
      exact ⟨o, hk b o hb e⟩
  · rcases get_set hu with ⟨rfl, rfl⟩ | ⟨ne, hu⟩
    · obtain ⟨xs, hr⟩ := hr
      obtain ⟨w, nw, z, a', vs₀, e, o', _⟩ := F.vals j y _ hj hr
      rw [ho] at o'; cases o'
      exact ⟨w, nvk nw, hz, a, vs', e, ho, hl', RepL.mono le hv⟩
    · obtain ⟨w, nw, rw'⟩ := F.vals j y u hj hu
      refine ⟨w, nvk nw, rw'.mono le (fun _ e => e) fun b ws e l => l.at' fun o e' => hk b o (fun z => ne ?_) e'⟩
      subst z; exact F.oinj j i b e ho
  · by_cases hb : b = a
    · subst hb; exact ⟨hH, hfe, nm, vs', hl'⟩
    · obtain ⟨p, q, r, ws, l⟩ := F.own j b e
      exact ⟨p, q, r, ws, l.at' fun o e' => hk b o hb e'⟩

/-- an own list taken up -/
noncomputable def Hd.putO (H : Hd) (i : Nat) (a : Addr) : Hd := ⟨fun b => H.p b ∨ b = a, H.m, fun j => if j = i then some a else H.o j⟩
theorem Fm.putO {i : Nat} {a : Addr} {vs : List Value} (F : Fm c Fr ns env st fe H h) (k : Kh Fr h h') (hnew : h.get? a = none) (hl : IsL h' a vs) : Fm c Fr ns env { st with ρ := st.ρ.set i none } fe (H.putO i a) h' := by
  have G := (F.kill i).step k
  have hN : ∀ b, (H.putO i a).p b → H.p b ∨ h.get? b = none := fun b z => z.imp id fun (z : b = a) => z ▸ hnew
  have le : (vis h H).Le (vis h' (H.putO i a)) := vis_new k hN fun _ _ e => e
  have og : ∀ j b, (H.putO i a).o j = some b → (j = i ∧ b = a) ∨ (j ≠ i ∧ H.o j = some b) := fun j b e => by
    have e : (if j = i then some a else H.o j) = some b := e
    split at e
    · cases e; exact .inl ⟨by assumption, rfl⟩
    · exact .inr ⟨by assumption, e⟩
  have nma : ∀ n, H.m n ≠ some a := fun n e => by
    obtain ⟨o, e'⟩ := F.sto.al n a e
    rw [hnew] at e'; cases e'
  have noa : ∀ j, H.o j ≠ some a := fun j e => by
    obtain ⟨_, _, _, ws, o, _, e', _⟩ := F.own j a e
    rw [hnew] at e'; cases e'
  have fen : fe.h.get? a = none := by
    cases q : fe.h.get? a with
    | none => rfl
    | some o =>
      obtain ⟨o', e'⟩ := F.keep.nw (fun b w => F.hlt b (F.hle b (F.wsub b w))) q
      rw [hnew] at e'; cases e'
  exact { G with
    hle := fun b z => .inl (F.hle b z)
    mle := F.mle
    mold := F.mold
    mnew := F.mnew
    mw := F.mw
    hlt := fun b z => by
      rcases z with z | z
      · exact G.hlt b z
      · obtain ⟨o, _, e, _⟩ := hl; exact ⟨o, z ▸ e⟩
    hl := .inl G.hl
    hc := fun x cc y z => ⟨.inl (G.hc x cc y z).1, (G.hc x cc y z).2⟩
    vals := fun j x t hj ht => by
      have ht : (st.ρ.set i none)[j]? = some (some t) := ht
      have hji : j ≠ i := fun z => by
        subst z
        rw [List.getElem?_set] at ht
        simp at ht
      obtain ⟨v, n, r⟩ := F.vals j x t hj (by rw [List.getElem?_set_ne (Ne.symm hji)] at ht; exact ht)
      exact ⟨v, n.kh k, r.mono le (fun b e => by show (if j = i then some a else H.o j) = some b; rw [if_neg hji]; exact e) fun b ws _ l => k.isL l⟩
    own := fun j b e => by
      rcases og j b e with ⟨_, rfl⟩ | ⟨_, e⟩
      · exact ⟨.inr rfl, fen, nma, vs, hl⟩
      · obtain ⟨p, q, r, ws, l⟩ := G.own j b e
        exact ⟨.inl p, q, r, ws, l⟩
    oinj := fun j l b e e' => by
      rcases og j b e with ⟨h1, h2⟩ | ⟨h1, h2⟩ <;> rcases og l b e' with ⟨h3, h4⟩ | ⟨h3, h4⟩
      · rw [h1, h3]
      · subst h2; exact absurd h4 (noa l)
      · subst h4; exact absurd h2 (noa j)
      · exact F.oinj j l b h2 h4
    sto := F.sto.new k (fun b z => .inl z) hN rfl
    mh0 := F.mh0
    n0le := F.n0le }

/-- an own list is given away -/
theorem Fm.freeze {j : Nat} {y : Str} {ys : List AV} (F : Fm c Fr ns env st fe H h) (hy : ns[j]? = some y) (hr : st.ρ[j]? = some (some (.own ys))) :
    ∃ H', (∀ b, H'.p b → H.p b) ∧ H'.m = H.m ∧ Fm c Fr ns env { st with ρ := st.ρ.set j (some (.val (.lst ys))) } fe H' h := by
  obtain ⟨v, nv, z, a, vs, e, ho, l, r⟩ := F.vals j y _ hy hr
  subst e
  obtain ⟨hH, hfe, nm, _⟩ := F.own j a ho
  have hL : env.locals ≠ a := fun q => by
    obtain ⟨m, n⟩ := F.ns
    exact not_isL_ns n vs (q ▸ l)
  have hC : ∀ x cc, env.kindOf x = some .cell → env.cells.lookup x = some cc → cc ≠ a := fun x cc hk q w => by
    obtain ⟨cc', v', e', n'⟩ := F.cl x hk
    rw [q] at e'; cases e'
    exact not_isL_cell n' vs (w ▸ l)
  refine ⟨⟨fun b => H.p b ∧ b ≠ a, H.m, fun i => if i = j then none else H.o i⟩, fun b q => q.1, rfl, ?_⟩
  have le : (vis h H).Le (vis h ⟨fun b => H.p b ∧ b ≠ a, H.m, fun i => if i = j then none else H.o i⟩) := ⟨fun x cc d q => ⟨fun w => q.1 w.1, q.2⟩, fun _ _ e => e⟩
  refine F.chg (a := a) (fun b o _ e => e) hfe (fun b q => ⟨F.hle b q, fun w => by obtain ⟨o, e⟩ := F.felt b q; rw [w, hfe] at e; cases e⟩) rfl (fun b q => F.hlt b q.1) F.ns ⟨F.hl, hL⟩ (fun x cc y q => ⟨⟨(F.hc x cc y q).1, hC x cc y q⟩, (F.hc x cc y q).2⟩) F.cl (fun i x t h1 h2 => ?_) (fun i b e => ?_) (fun i i' b e e' => ?_)
    (F.sto.chg (a := a) (fun b o _ e => e) nm le rfl fun n b e => ⟨F.sto.hidden e, fun z => nm n (z ▸ e)⟩)
  · rcases get_set h2 with ⟨rfl, rfl⟩ | ⟨ne, h2⟩
    · rw [hy] at h1; cases h1
      refine ⟨_, nv, ?_⟩
      obtain ⟨o, n, e, c1, d1, f1⟩ := l
      simp only [RepE, Rep]
      exact ⟨z, a, vs, n, rfl, ⟨fun w => w.2 rfl, o, e, c1, d1, f1, .inl rfl, fun ⟨_, z⟩ => by cases z⟩, RepL.mono le r⟩
    · obtain ⟨w, nw, rw'⟩ := F.vals i x t h1 h2
      exact ⟨w, nw, rw'.mono le (fun b e => by show (if i = j then none else H.o i) = some b; rw [if_neg ne]; exact e) fun _ _ _ l => l⟩
  · have e : (if i = j then none else H.o i) = some b := e
    split at e
    · cases e
    · rename_i ne
      obtain ⟨p, q, r, ws, l⟩ := F.own i b e
      exact ⟨⟨p, fun w => ne (F.oinj i j b e (w ▸ ho))⟩, q, r, ws, l⟩
  · have e : (if i = j then none else H.o i) = some b := e
    have e' : (if i' = j then none else H.o i') = some b := e'
    split at e
    · cases e
    · split at e'
      · cases e'
      · exact F.oinj i i' b e e'

/-- a thing of another kind turns -/
theorem Fm.touchV {a : Addr} {o : Obj} {fs : Array Value} (F : Fm c Fr ns env st fe H h) (hk : ∀ b o, b ≠ a → h.get? b = some o → h'.get? b = some o)
    (hfe : fe.h.get? a = none) (ho : h.get? a = some o) (hd : o.data = .fields fs) (hcl : ¬ okC o.cls) (hl : ¬ H.p a) : Fm c Fr ns env st fe H h' := by
  have le : (vis h H).Le (vis h' H) := ⟨by
    rintro x cc d ⟨n, o', e, r⟩
    refine ⟨n, o', hk x o' (fun z => ?_) e, r⟩
    rw [z, ho] at e; cases e
    exact hcl (r.1 ▸ r.2.2.2.1), fun _ _ e => e⟩
  have nsk : ∀ {b m}, h.Ns b m → h'.Ns b m := fun {b m} n => by
    obtain ⟨ob, es, ep, e, d, r⟩ := n
    refine ⟨ob, es, ep, hk b ob (fun z => ?_) e, d, r⟩
    rw [z, ho] at e; cases e; rw [hd] at d; cases d
  have clk : ∀ {b v}, h.IsCell b v → h'.IsCell b v := fun {b v} n => by
    obtain ⟨ob, e, d⟩ := n
    refine ⟨ob, hk b ob (fun z => ?_) e, d⟩
    rw [z, ho] at e; cases e; rw [hd] at d; cases d
  have lk : ∀ {b vs}, IsL h b vs → IsL h' b vs := fun {b vs} n => by
    obtain ⟨ob, m, e, c1, d, r⟩ := n
    refine ⟨ob, m, hk b ob (fun z => ?_) e, c1, d, r⟩
    rw [z, ho] at e; cases e; rw [hd] at d; cases d
  have nvk : ∀ {x v}, NV h env x v → NV h' env x v := fun {x v} n => by
    rcases n with ⟨k1, m, n, e⟩ | ⟨k1, cc, e, n⟩
    · exact .inl ⟨k1, m, nsk n, e⟩
    · exact .inr ⟨k1, cc, e, clk n⟩
  exact F.chg (H' := H) (ρ' := st.ρ) hk hfe F.hle rfl (fun b z => by
      have hb : b ≠ a := fun y => hl (y ▸ z)
      obtain ⟨o', e⟩ := F.hlt b z; exact ⟨o', hk b o' hb e⟩) (let ⟨m, n⟩ := F.ns; ⟨m, nsk n⟩) F.hl F.hc (fun x z => let ⟨cc, v, e, n⟩ := F.cl x z; ⟨cc, v, e, clk n⟩)
    (fun i x t h1 h2 => let ⟨v, n, r⟩ := F.vals i x t h1 h2; ⟨v, nvk n, r.mono le (fun _ e => e) fun _ _ _ l => lk l⟩) (fun i b e => let ⟨p, q, r, ws, l⟩ := F.own i b e; ⟨p, q, r, ws, lk l⟩) F.oinj
    (F.sto.chg hk (fun n e => hl (F.sto.hidden e)) le rfl fun n b e => F.sto.hidden e)

/-- a hidden thing that is no part of the frame is let go -/
theorem Fm.drop {a : Addr} (F : Fm c Fr ns env st fe (H.add fun b => b = a) h) (hk : ∀ b o, b ≠ a → h.get? b = some o → h'.get? b = some o)
    (hfe : fe.h.get? a = none) (hL : env.locals ≠ a) (hC : ∀ x cc, env.kindOf x = some .cell → env.cells.lookup x = some cc → cc ≠ a) (hnl : ∀ vs, ¬ IsL h a vs) (hle : ∀ b, fe.H.p b → H.p b) (hH : ¬ H.p a) (nm : ∀ n, H.m n ≠ some a) : Fm c Fr ns env st fe H h' := by
  have le : (vis h (H.add fun b => b = a)).Le (vis h' H) := ⟨by
    rintro x cc d ⟨n, o, e, r⟩
    exact ⟨fun z => n (.inl z), o, hk x o (fun z => n (.inr z)) e, r⟩, fun _ _ e => e⟩
  have nsk : ∀ {m}, h.Ns env.locals m → h'.Ns env.locals m := fun {m} n => by
    obtain ⟨ob, es, ep, e, d, r⟩ := n
    exact ⟨ob, es, ep, hk _ ob hL e, d, r⟩
  have clk : ∀ {x b v}, env.kindOf x = some .cell → env.cells.lookup x = some b → h.IsCell b v → h'.IsCell b v := fun {x b v} qk q n => by
    obtain ⟨ob, e, d⟩ := n
    exact ⟨ob, hk b ob (hC x b qk q) e, d⟩
  have lk : ∀ {b vs}, IsL h b vs → IsL h' b vs := fun {b vs} n => n.at' fun o e => hk b o (fun z => hnl vs (z ▸ n)) e
  have nvk : ∀ {x v}, NV h env x v → NV h' env x v := fun {x v} n => by
    rcases n with ⟨k1, m, n, e⟩ | ⟨k1, cc, e, n⟩
    · exact .inl ⟨k1, m, nsk n, e⟩
    · exact .inr ⟨k1, cc, e, clk k1 e n⟩
  exact F.chg (H' := H) (ρ' := st.ρ) hk hfe hle rfl (fun b z => by
      have hb : b ≠ a := fun y => hH (y ▸ z)
      obtain ⟨o', e⟩ := F.hlt b (.inl z); exact ⟨o', hk b o' hb e⟩) (let ⟨m, n⟩ := F.ns; ⟨m, nsk n⟩) (F.hl.resolve_right hL) (fun x cc y z => ⟨(F.hc x cc y z).1.resolve_right (hC x cc y z), (F.hc x cc y z).2⟩) (fun x z => let ⟨cc, v, e, n⟩ := F.cl x z; ⟨cc, v, e, clk z e n⟩)
    (fun i x t h1 h2 => let ⟨v, n, r⟩ := F.vals i x t h1 h2; ⟨v, nvk n, r.mono le (fun _ e => e) fun _ _ _ l => lk l⟩) (fun i b e => let ⟨p, q, r, ws, l⟩ := F.own i b e; ⟨p.resolve_right fun z => hnl ws (z ▸ l), q, r, ws, lk l⟩) F.oinj
    (F.sto.chg hk nm le rfl fun n b e => (F.sto.hidden e).resolve_right fun z => nm n (z ▸ e))
end

section
variable {c : Cx} {q : Bool} {k : Nat} {A : Around} {H : Hd} {env : Env} {ns : List Str} {st : Fs} {fe : FE} {s : Shared}

theorem wp_store {i : Nat} {x : Str} {v : Value} {t : Ent} {Q : Unit → Shared → Prop} {E : Value → Shared → Prop} (F : Fm c (FrA A) ns env st fe H s.heap) (hx : ns[i]? = some x) (hnd : OneName ns i x) (hk : env.kindOf x = some .local ∨ env.kindOf x = some .cell)
    (r : RepE s.heap H i v t)
    (h : ∀ h' tk, Fm c (FrA A) ns env { st with ρ := st.ρ.set i (some t) } fe H h' → Kv (FrA A) H.p s.heap h' → Nf s.heap h' → (∃ a, (a = env.locals ∨ ∃ y, env.kindOf y = some .cell ∧ env.cells.lookup y = some a) ∧ Heap.SameBut a s.heap h') → Q () { s with heap := h', toks := tk }) : wpAny c.M A (storeName env x v) Q E s := by
  rcases hk with hk | hk
  · obtain ⟨m, hm⟩ := F.ns
    refine wpAny_storeName_local hk hm (fun h' hn hs => ?_) (by rw [F.kind]; rfl)
    refine h h' _ (fm_store (v := v) F hx hnd hs F.hl F.lnew (not_isL_ns hm) (F.sto.notNs hm) (let ⟨o, _, _, e, _⟩ := hn; ⟨o, e⟩) (.inl ⟨hk, _, hn, by simp⟩) ?_ ⟨_, hn⟩ ?_ r) (Kv.of_sameBut hs F.hl) ?_ ⟨_, .inl rfl, hs⟩
    · rintro y w hy (⟨ky, m', n', e'⟩ | ⟨ky, cc, ec, n'⟩)
      · rw [Ns_uniq hm n'] at hn
        exact .inl ⟨ky, _, hn, by simp [hy, e']⟩
      · refine .inr ⟨ky, cc, ec, n'.sameBut hs fun z => ?_⟩
        obtain ⟨o, e, d⟩ := n'
        obtain ⟨o', _, _, e', d', _⟩ := hm
        rw [z, e'] at e; cases e; rw [d'] at d; cases d
    · intro y hy
      obtain ⟨cc, w, ec, n'⟩ := F.cl y hy
      refine ⟨cc, w, ec, n'.sameBut hs fun z => ?_⟩
      obtain ⟨o, e, d⟩ := n'
      obtain ⟨o', _, _, e', d', _⟩ := hm
      rw [z, e'] at e; cases e; rw [d'] at d; cases d
    · intro b o e nf
      by_cases hb : b = env.locals
      · obtain ⟨o', _, _, e', d', _⟩ := hn
        exact ⟨o', hb ▸ e', fun vs z => by rw [d'] at z; cases z⟩
      · exact ⟨o, (hs.2 b hb).trans e, nf⟩
  · obtain ⟨cc, v₀, hc, hcell⟩ := F.cl x hk
    obtain ⟨m, hm⟩ := F.ns
    refine wpAny_storeName_cell F.kind hk hc hcell fun h' hv hs => ?_
    have hLc : env.locals ≠ cc := fun z => by
      obtain ⟨o, e, d⟩ := hcell
      obtain ⟨o', _, _, e', d', _⟩ := hm
      rw [← z, e'] at e; cases e; rw [d'] at d; cases d
    refine h h' s.toks (fm_store (v := v) F hx hnd hs (F.hc x cc hk hc).1 (F.hc x cc hk hc).2 (not_isL_cell hcell) (F.sto.notCell hcell) (let ⟨o, e, _⟩ := hv; ⟨o, e⟩) (.inr ⟨hk, cc, hc, hv⟩) ?_ ⟨m, hm.sameBut hs hLc⟩ ?_ r) (Kv.of_sameBut hs (F.hc x cc hk hc).1) ?_ ⟨_, .inr ⟨x, hk, hc⟩, hs⟩
    · rintro y w hy (⟨ky, m', n', e'⟩ | ⟨ky, cy, ey, n'⟩)
      · exact .inl ⟨ky, m', n'.sameBut hs hLc, e'⟩
      · exact .inr ⟨ky, cy, ey, n'.sameBut hs fun z => hy (F.capart y x cc (z ▸ ey) hc)⟩
    · intro y hy
      obtain ⟨cy, w, ey, n'⟩ := F.cl y hy
      by_cases hyx : y = x
      · subst hyx; exact ⟨cc, _, hc, hv⟩
      · exact ⟨cy, w, ey, n'.sameBut hs fun z => hyx (F.capart y x cc (z ▸ ey) hc)⟩
    · intro b o e nf
      by_cases hb : b = cc
      · obtain ⟨o', e', d'⟩ := hv
        exact ⟨o', hb ▸ e', fun vs z => by rw [d'] at z; cases z⟩
      · exact ⟨o, (hs.2 b hb).trans e, nf⟩
end
end Mine
end
section
open PySem PySem.W PyProof.Rows
set_option linter.unusedVariables false
namespace Mine

mutual
inductive PS where
  | expr (e : PE)
  | assign (i : Nat) (e : PE)
  | ownl (i : Nat) (xs : PEs)
  | unpack2 (i j : Nat) (a b : PE)
  | aug (i : Nat) (op : Operator) (e : PE)
  | ometh (i : Nat) (m : OMI) (xs : PEs) (fz : Option Nat)
  | ite (t : PE) (a b : PSs)
  | for_ (i : Nat) (src : PE) (body : PSs)
  | while_ (n : Nat) (t : PE) (body : PSs)
  | ret (e : PE)
  | retOwn (i : Nat)
  | brk
  | cont
  | pass
  | try_ (body : PSs) (hs : PHs)
  | raise_ (x : EX) (e : PE)
inductive PSs where
  | nil
  | cons (s : PS) (r : PSs)
  | frz (i : Nat) (r : PSs)
inductive PHs where
  | nil
  | cons (x : EX) (body : PSs) (r : PHs)
end

inductive FR where
  | next (st : Fs)
  | brk (st : Fs)
  | cont (st : Fs)
  | ret (v : AV) (σ : Store)
  | exc (x : EX) (st : Fs)
  | stuck

noncomputable def forF (f : AV → Fs → FR) : List AV → Fs → FR
  | [], st => .next st
  | x :: r, st => match f x st with
    | .next st' => forF f r st'
    | .cont st' => forF f r st'
    | .brk st' => .next st'
    | .ret v σ => .ret v σ
    | .exc _ _ => .stuck
    | .stuck => .stuck
noncomputable def whileF (t : Fs → Option (Bool × Store)) (f : Fs → FR) : Nat → Fs → FR
  | 0, _ => .stuck
  | n + 1, st => match t st with
    | some (true, σ) => (match f (st.at σ) with
      | .next st' => whileF t f n st'
      | .cont st' => whileF t f n st'
      | .brk st' => .next st'
      | .ret v σ => .ret v σ
      | .exc _ _ => .stuck
      | .stuck => .stuck)
    | some (false, σ) => .next (st.at σ)
    | none => .stuck

abbrev Fs.set (st : Fs) (i : Nat) (t : Ent) : Fs := { st with ρ := st.ρ.set i (some t) }
noncomputable def Fs.sets (st : Fs) : List Nat → List AV → Fs
  | i :: is, v :: vs => (st.set i (.val v)).sets is vs
  | _, _ => st
/-- the result of an expression in a statement -/
noncomputable def resS (r : ER) (st : Fs) (f : AV → Fs → FR) : FR := match r with
  | .ok (.av v) σ => f v (st.at σ)
  | .ok (.own _) _ => .stuck
  | .exc x σ => .exc x (st.at σ)
  | .stuck => .stuck
noncomputable def ownOf (st : Fs) (i : Nat) : Option (List AV) := match st.ρ[i]? with
  | some (some (.own xs)) => some xs
  | _ => none
section
variable (O : OpsF) (cal : Cal)
noncomputable def omethF (st : Fs) (i : Nat) (m : OMI) (r : Option (List OV × Store)) : FR := match r with
  | some (ol, σ) => (match plains ol, ownOf st i with
    | some l, some xs => (match O.ometh m xs l with
      | some xs' => .next ((st.at σ).set i (.own xs'))
      | none => .stuck)
    | _, _ => .stuck)
  | none => .stuck
noncomputable def unpackF (is : List Nat) (v : AV) (st : Fs) : FR := match v with
  | .tup xs => if xs.length = is.length then .next (st.sets is xs) else .stuck
  | _ => .stuck
mutual
noncomputable def px (q : Bool) (st : Fs) : PS → FR
  | .expr e => resS (pe O cal q st e).v st fun _ st' => .next st'
  | .assign i e => resS (pe O cal q st e).v st fun v st' => .next (st'.set i (.val v))
  | .ownl i xs => match pes O cal q st xs with
    | some (ol, σ) => (match plains ol with
      | some l => if l.length ≤ 100 then .next ((st.at σ).set i (.own l)) else .stuck
      | none => .stuck)
    | none => .stuck
  | .unpack2 i j a b => match q with
    | true => resS (pe O cal true st (.tup (.cons a (.cons b .nil)))).v st fun v st' => unpackF [i, j] v st'
    | false => .stuck
  | .aug i op e => match slotV st i, (pe O cal q st e).v with
    | .ok (.av a) _, .ok b σ => resS (ofRes (O.inpl op (deref σ a) (derefS st.ρ σ b)) σ) st fun v st' => .next (st'.set i (.val v))
    | _, _ => .stuck
  | .ometh i m xs fz => match q with
    | true => (match fz with
      | none => omethF O st i m (pes O cal true st xs)
      | some j => (match ownOf st j with
        | some ys => omethF O (st.set j (.val (.lst ys))) i m (pes O cal true (st.set j (.val (.lst ys))) xs)
        | none => .stuck))
    | false => .stuck
  | .ite t a b => match (pe O cal q st t).t with
    | some (true, σ) => pxs q (st.at σ) a
    | some (false, σ) => pxs q (st.at σ) b
    | none => .stuck
  | .for_ i src body => match q, (pe O cal q st src).v with
    | true, .ok (.av v) σ => (match O.items v with | some l => forF (fun x st => pxs true (st.set i (.val x)) body) l (st.at σ) | none => .stuck)
    | _, _ => .stuck
  | .while_ n t body => whileF (fun st => (pe O cal q st t).t) (fun st => pxs q st body) n st
  | .ret e => resS (pe O cal q st e).v st fun v st' => .ret v st'.σ
  | .retOwn i => match ownOf st i with
    | some xs => .ret (.lst xs) st.σ
    | none => .stuck
  | .brk => .brk st
  | .cont => .cont st
  | .pass => .next st
  | .try_ body hs => match q with
    | true => (match pxs true st body with
      | .exc x st' => phs x st' hs
      | r => r)
    | false => .stuck
  | .raise_ x e => match q with
    | true => resS (pe O cal true st e).v st fun _ st' => .exc x st'
    | false => .stuck
noncomputable def pxs (q : Bool) (st : Fs) : PSs → FR
  | .nil => .next st
  | .cons s r => match px q st s with
    | .next st' => pxs q st' r
    | f => f
  | .frz i r => match ownOf st i with
    | some ys => pxs q (st.set i (.val (.lst ys))) r
    | none => .stuck
noncomputable def phs (x : EX) (st : Fs) : PHs → FR
  | .nil => .stuck
  | .cons y body r => if x = y then (match pxs false st body with | .exc _ _ => .stuck | f => f) else phs x st r
end
end

noncomputable def nameAt (ks : List (Str × NameKind)) (ns : List Str) (i : Nat) (x : Str) : Bool :=
  ns[i]? == some x && (ks.lookup x == some .local || ks.lookup x == some .cell) && (List.range ns.length).all fun j => j == i || !(ns[j]? == some x)
noncomputable def isComp : PE → Bool
  | .comp .. => true
  | .setc .. => true
  | .dictc .. => true
  | _ => false
noncomputable def isSC : PE → Bool
  | .setc .. => true
  | .dictc .. => true
  | _ => false
/-- what is looked at of a statement -/
structure SH where
  expr : Expr → Bool := fun _ => false
  assign : List Expr → Expr → Bool := fun _ _ => false
  aug : Expr → Operator → Expr → Bool := fun _ _ _ => false
  iff : Expr → List Stmt → List Stmt → Bool := fun _ _ _ => false
  fo : Expr → Expr → List Stmt → List Stmt → Bool := fun _ _ _ _ => false
  wh : Expr → List Stmt → List Stmt → Bool := fun _ _ _ => false
  ret : Option Expr → Bool := fun _ => false
  brk : Bool := false
  cont : Bool := false
  pass : Bool := false
  tr : List Stmt → List ExceptHandler → List Stmt → List Stmt → Bool := fun _ _ _ _ => false
  raise : Option Expr → Option Expr → Bool := fun _ _ => false
noncomputable def onS (h : SH) : Stmt → Bool
  | .Expr e _ => h.expr e
  | .Assign ts e _ => h.assign ts e
  | .AugAssign t o e _ => h.aug t o e
  | .If t a b _ => h.iff t a b
  | .For t i a b _ => h.fo t i a b
  | .While t a b _ => h.wh t a b
  | .Return e _ => h.ret e
  | .Break _ => h.brk
  | .Continue _ => h.cont
  | .Pass _ => h.pass
  | .Try a b c d _ => h.tr a b c d
  | .Raise a b _ => h.raise a b
  | _ => false
section
variable {sm : Stmt}
theorem onS_elim {h : SH} {P : Stmt → Prop} {sm : Stmt} (he : onS h sm = true) (h0 : ∀ e p, h.expr e = true → P (.Expr e p)) (h1 : ∀ ts e p, h.assign ts e = true → P (.Assign ts e p)) (h2 : ∀ t o e p, h.aug t o e = true → P (.AugAssign t o e p)) (h3 : ∀ t a b p, h.iff t a b = true → P (.If t a b p)) (h4 : ∀ t i a b p, h.fo t i a b = true → P (.For t i a b p)) (h5 : ∀ t a b p, h.wh t a b = true → P (.While t a b p)) (h6 : ∀ e p, h.ret e = true → P (.Return e p)) (h7 : ∀ p, h.brk = true → P (.Break p)) (h8 : ∀ p, h.cont = true → P (.Continue p)) (h9 : ∀ p, h.pass = true → P (.Pass p)) (h10 : ∀ a b c d p, h.tr a b c d = true → P (.Try a b c d p)) (h11 : ∀ a b p, h.raise a b = true → P (.Raise a b p)) : P sm := by
  cases sm with
  | Expr e p => exact h0 e p he
  | Assign ts e p => exact h1 ts e p he
  | AugAssign t o e p => exact h2 t o e p he
  | If t a b p => exact h3 t a b p he
  | For t i a b p => exact h4 t i a b p he
  | While t a b p => exact h5 t a b p he
  | Return e p => exact h6 e p he
  | Break p => exact h7 p he
  | Continue p => exact h8 p he
  | Pass p => exact h9 p he
  | Try a b c d p => exact h10 a b c d p he
  | Raise a b p => exact h11 a b p he
  | _ => exact (Bool.false_ne_true he).elim
theorem onS_expr {f} (h : onS { expr := f } sm = true) : ∃ e p, sm = .Expr e p ∧ f e = true :=
  onS_elim (P := fun sm => ∃ e p, sm = .Expr e p ∧ f e = true) h (fun e p z => ⟨e, p, rfl, z⟩) (fun _ _ _ z => (Bool.false_ne_true z).elim) (fun _ _ _ _ z => (Bool.false_ne_true z).elim) (fun _ _ _ _ z => (Bool.false_ne_true z).elim) (fun _ _ _ _ _ z => (Bool.false_ne_true z).elim) (fun _ _ _ _ z => (Bool.false_ne_true z).elim) (fun _ _ z => (Bool.false_ne_true z).elim) (fun _ z => (Bool.false_ne_true z).elim) (fun _ z => (Bool.false_ne_true z).elim) (fun _ z => (Bool.false_ne_true z).elim) (fun _ _ _ _ _ z => (Bool.false_ne_true z).elim) (fun _ _ _ z => (Bool.false_ne_true z).elim)
theorem onS_assign {f} (h : onS { assign := f } sm = true) : ∃ ts e p, sm = .Assign ts e p ∧ f ts e = true :=
  onS_elim (P := fun sm => ∃ ts e p, sm = .Assign ts e p ∧ f ts e = true) h (fun _ _ z => (Bool.false_ne_true z).elim) (fun ts e p z => ⟨ts, e, p, rfl, z⟩) (fun _ _ _ _ z => (Bool.false_ne_true z).elim) (fun _ _ _ _ z => (Bool.false_ne_true z).elim) (fun _ _ _ _ _ z => (Bool.false_ne_true z).elim) (fun _ _ _ _ z => (Bool.false_ne_true z).elim) (fun _ _ z => (Bool.false_ne_true z).elim) (fun _ z => (Bool.false_ne_true z).elim) (fun _ z => (Bool.false_ne_true z).elim) (fun _ z => (Bool.false_ne_true z).elim) (fun _ _ _ _ _ z => (Bool.false_ne_true z).elim) (fun _ _ _ z => (Bool.false_ne_true z).elim)
theorem onS_aug {f} (h : onS { aug := f } sm = true) : ∃ t o e p, sm = .AugAssign t o e p ∧ f t o e = true :=
  onS_elim (P := fun sm => ∃ t o e p, sm = .AugAssign t o e p ∧ f t o e = true) h (fun _ _ z => (Bool.false_ne_true z).elim) (fun _ _ _ z => (Bool.false_ne_true z).elim) (fun t o e p z => ⟨t, o, e, p, rfl, z⟩) (fun _ _ _ _ z => (Bool.false_ne_true z).elim) (fun _ _ _ _ _ z => (Bool.false_ne_true z).elim) (fun _ _ _ _ z => (Bool.false_ne_true z).elim) (fun _ _ z => (Bool.false_ne_true z).elim) (fun _ z => (Bool.false_ne_true z).elim) (fun _ z => (Bool.false_ne_true z).elim) (fun _ z => (Bool.false_ne_true z).elim) (fun _ _ _ _ _ z => (Bool.false_ne_true z).elim) (fun _ _ _ z => (Bool.false_ne_true z).elim)
theorem onS_iff {f} (h : onS { iff := f } sm = true) : ∃ t a b p, sm = .If t a b p ∧ f t a b = true :=
  onS_elim (P := fun sm => ∃ t a b p, sm = .If t a b p ∧ f t a b = true) h (fun _ _ z => (Bool.false_ne_true z).elim) (fun _ _ _ z => (Bool.false_ne_true z).elim) (fun _ _ _ _ z => (Bool.false_ne_true z).elim) (fun t a b p z => ⟨t, a, b, p, rfl, z⟩) (fun _ _ _ _ _ z => (Bool.false_ne_true z).elim) (fun _ _ _ _ z => (Bool.false_ne_true z).elim) (fun _ _ z => (Bool.false_ne_true z).elim) (fun _ z => (Bool.false_ne_true z).elim) (fun _ z => (Bool.false_ne_true z).elim) (fun _ z => (Bool.false_ne_true z).elim) (fun _ _ _ _ _ z => (Bool.false_ne_true z).elim) (fun _ _ _ z => (Bool.false_ne_true z).elim)
theorem onS_fo {f} (h : onS { fo := f } sm = true) : ∃ t i a b p, sm = .For t i a b p ∧ f t i a b = true :=
  onS_elim (P := fun sm => ∃ t i a b p, sm = .For t i a b p ∧ f t i a b = true) h (fun _ _ z => (Bool.false_ne_true z).elim) (fun _ _ _ z => (Bool.false_ne_true z).elim) (fun _ _ _ _ z => (Bool.false_ne_true z).elim) (fun _ _ _ _ z => (Bool.false_ne_true z).elim) (fun t i a b p z => ⟨t, i, a, b, p, rfl, z⟩) (fun _ _ _ _ z => (Bool.false_ne_true z).elim) (fun _ _ z => (Bool.false_ne_true z).elim) (fun _ z => (Bool.false_ne_true z).elim) (fun _ z => (Bool.false_ne_true z).elim) (fun _ z => (Bool.false_ne_true z).elim) (fun _ _ _ _ _ z => (Bool.false_ne_true z).elim) (fun _ _ _ z => (Bool.false_ne_true z).elim)
theorem onS_wh {f} (h : onS { wh := f } sm = true) : ∃ t a b p, sm = .While t a b p ∧ f t a b = true :=
  onS_elim (P := fun sm => ∃ t a b p, sm = .While t a b p ∧ f t a b = true) h (fun _ _ z => (Bool.false_ne_true z).elim) (fun _ _ _ z => (Bool.false_ne_true z).elim) (fun _ _ _ _ z => (Bool.false_ne_true z).elim) (fun _ _ _ _ z => (Bool.false_ne_true z).elim) (fun _ _ _ _ _ z => (Bool.false_ne_true z).elim) (fun t a b p z => ⟨t, a, b, p, rfl, z⟩) (fun _ _ z => (Bool.false_ne_true z).elim) (fun _ z => (Bool.false_ne_true z).elim) (fun _ z => (Bool.false_ne_true z).elim) (fun _ z => (Bool.false_ne_true z).elim) (fun _ _ _ _ _ z => (Bool.false_ne_true z).elim) (fun _ _ _ z => (Bool.false_ne_true z).elim)
theorem onS_ret {f} (h : onS { ret := f } sm = true) : ∃ e p, sm = .Return e p ∧ f e = true :=
  onS_elim (P := fun sm => ∃ e p, sm = .Return e p ∧ f e = true) h (fun _ _ z => (Bool.false_ne_true z).elim) (fun _ _ _ z => (Bool.false_ne_true z).elim) (fun _ _ _ _ z => (Bool.false_ne_true z).elim) (fun _ _ _ _ z => (Bool.false_ne_true z).elim) (fun _ _ _ _ _ z => (Bool.false_ne_true z).elim) (fun _ _ _ _ z => (Bool.false_ne_true z).elim) (fun e p z => ⟨e, p, rfl, z⟩) (fun _ z => (Bool.false_ne_true z).elim) (fun _ z => (Bool.false_ne_true z).elim) (fun _ z => (Bool.false_ne_true z).elim) (fun _ _ _ _ _ z => (Bool.false_ne_true z).elim) (fun _ _ _ z => (Bool.false_ne_true z).elim)
theorem onS_brk (h : onS { brk := true } sm = true) : ∃ p, sm = .Break p :=
  onS_elim (P := fun sm => ∃ p, sm = .Break p) h (fun _ _ z => (Bool.false_ne_true z).elim) (fun _ _ _ z => (Bool.false_ne_true z).elim) (fun _ _ _ _ z => (Bool.false_ne_true z).elim) (fun _ _ _ _ z => (Bool.false_ne_true z).elim) (fun _ _ _ _ _ z => (Bool.false_ne_true z).elim) (fun _ _ _ _ z => (Bool.false_ne_true z).elim) (fun _ _ z => (Bool.false_ne_true z).elim) (fun p z => ⟨p, rfl⟩) (fun _ z => (Bool.false_ne_true z).elim) (fun _ z => (Bool.false_ne_true z).elim) (fun _ _ _ _ _ z => (Bool.false_ne_true z).elim) (fun _ _ _ z => (Bool.false_ne_true z).elim)
theorem onS_cont (h : onS { cont := true } sm = true) : ∃ p, sm = .Continue p :=
  onS_elim (P := fun sm => ∃ p, sm = .Continue p) h (fun _ _ z => (Bool.false_ne_true z).elim) (fun _ _ _ z => (Bool.false_ne_true z).elim) (fun _ _ _ _ z => (Bool.false_ne_true z).elim) (fun _ _ _ _ z => (Bool.false_ne_true z).elim) (fun _ _ _ _ _ z => (Bool.false_ne_true z).elim) (fun _ _ _ _ z => (Bool.false_ne_true z).elim) (fun _ _ z => (Bool.false_ne_true z).elim) (fun _ z => (Bool.false_ne_true z).elim) (fun p z => ⟨p, rfl⟩) (fun _ z => (Bool.false_ne_true z).elim) (fun _ _ _ _ _ z => (Bool.false_ne_true z).elim) (fun _ _ _ z => (Bool.false_ne_true z).elim)
theorem onS_pass (h : onS { pass := true } sm = true) : ∃ p, sm = .Pass p :=
  onS_elim (P := fun sm => ∃ p, sm = .Pass p) h (fun _ _ z => (Bool.false_ne_true z).elim) (fun _ _ _ z => (Bool.false_ne_true z).elim) (fun _ _ _ _ z => (Bool.false_ne_true z).elim) (fun _ _ _ _ z => (Bool.false_ne_true z).elim) (fun _ _ _ _ _ z => (Bool.false_ne_true z).elim) (fun _ _ _ _ z => (Bool.false_ne_true z).elim) (fun _ _ z => (Bool.false_ne_true z).elim) (fun _ z => (Bool.false_ne_true z).elim) (fun _ z => (Bool.false_ne_true z).elim) (fun p z => ⟨p, rfl⟩) (fun _ _ _ _ _ z => (Bool.false_ne_true z).elim) (fun _ _ _ z => (Bool.false_ne_true z).elim)
theorem onS_tr {f} (h : onS { tr := f } sm = true) : ∃ a b c d p, sm = .Try a b c d p ∧ f a b c d = true :=
  onS_elim (P := fun sm => ∃ a b c d p, sm = .Try a b c d p ∧ f a b c d = true) h (fun _ _ z => (Bool.false_ne_true z).elim) (fun _ _ _ z => (Bool.false_ne_true z).elim) (fun _ _ _ _ z => (Bool.false_ne_true z).elim) (fun _ _ _ _ z => (Bool.false_ne_true z).elim) (fun _ _ _ _ _ z => (Bool.false_ne_true z).elim) (fun _ _ _ _ z => (Bool.false_ne_true z).elim) (fun _ _ z => (Bool.false_ne_true z).elim) (fun _ z => (Bool.false_ne_true z).elim) (fun _ z => (Bool.false_ne_true z).elim) (fun _ z => (Bool.false_ne_true z).elim) (fun a b c d p z => ⟨a, b, c, d, p, rfl, z⟩) (fun _ _ _ z => (Bool.false_ne_true z).elim)
theorem onS_raise {f} (h : onS { raise := f } sm = true) : ∃ a b p, sm = .Raise a b p ∧ f a b = true :=
  onS_elim (P := fun sm => ∃ a b p, sm = .Raise a b p ∧ f a b = true) h (fun _ _ z => (Bool.false_ne_true z).elim) (fun _ _ _ z => (Bool.false_ne_true z).elim) (fun _ _ _ _ z => (Bool.false_ne_true z).elim) (fun _ _ _ _ z => (Bool.false_ne_true z).elim) (fun _ _ _ _ _ z => (Bool.false_ne_true z).elim) (fun _ _ _ _ z => (Bool.false_ne_true z).elim) (fun _ _ z => (Bool.false_ne_true z).elim) (fun _ z => (Bool.false_ne_true z).elim) (fun _ z => (Bool.false_ne_true z).elim) (fun _ z => (Bool.false_ne_true z).elim) (fun _ _ _ _ _ z => (Bool.false_ne_true z).elim) (fun a b p z => ⟨a, b, p, rfl, z⟩)
/-- one name is assigned -/
noncomputable def onA1 (sm : Stmt) (f : Str → Expr → Bool) : Bool := onS { assign := fun ts e => one? ts fun t => onE { name := fun x => f x e } t } sm
theorem onA1_eq {f} (h : onA1 sm f = true) : ∃ x px e p, sm = .Assign [.Name x px] e p ∧ f x e = true := by
  obtain ⟨ts, e, p, rfl, h⟩ := onS_assign h
  obtain ⟨t, rfl, h⟩ := one?_eq h
  obtain ⟨x, px, rfl, h⟩ := onE_name h
  exact ⟨x, px, e, p, rfl, h⟩
end
noncomputable def onNm (ex : Expr) (f : Str → Pos → Bool) : Bool := match ex with
  | .Name x p => f x p
  | _ => false
theorem onNm_eq {ex : Expr} {f} (h : onNm ex f = true) : ∃ x p, ex = .Name x p ∧ f x p = true := by
  cases ex with
  | Name x p => exact ⟨x, p, rfl, h⟩
  | _ => exact (Bool.false_ne_true h).elim
noncomputable def opt? {α : Type} (l : Option α) (f : α → Bool) : Bool := match l with
  | some x => f x
  | none => false
theorem opt?_eq {α : Type} {l : Option α} {f : α → Bool} (h : opt? l f = true) : ∃ x, l = some x ∧ f x = true := by
  cases l with
  | some x => exact ⟨x, rfl, h⟩
  | none => cases h
noncomputable def non? {α : Type} (l : Option α) (b : Bool) : Bool := match l with
  | some _ => false
  | none => b
theorem non?_eq {α : Type} {l : Option α} {b : Bool} (h : non? l b = true) : l = none ∧ b = true := by
  cases l with
  | some x => cases h
  | none => exact ⟨rfl, h⟩
noncomputable def onHd (l : List ExceptHandler) (f : Str → List Stmt → List ExceptHandler → Bool) : Bool := match l with
  | [] => false
  | .ExceptHandler t n b _ :: r => opt? t fun t => non? n (onE { name := fun x => !b.isEmpty && f x b r } t)
theorem onHd_eq {l} {f} (h : onHd l f = true) : ∃ x px b₀ su p r, l = .ExceptHandler (some (.Name x px)) none (b₀ :: su) p :: r ∧ f x (b₀ :: su) r = true := by
  rcases l with _ | ⟨⟨t, n, b, p⟩, r⟩
  · cases h
  · obtain ⟨t, rfl, h⟩ := opt?_eq h
    obtain ⟨rfl, h⟩ := non?_eq h
    obtain ⟨x, px, rfl, h⟩ := onE_name h
    rcases b with _ | ⟨b₀, su⟩
    · cases h
    · exact ⟨x, px, b₀, su, p, r, rfl, h⟩

section
variable (frees : List Str) (fname : Nat → Str) (ks : List (Str × NameKind)) (ns : List Str)
mutual
noncomputable def encS : PS → Stmt → Bool
  | .expr e, st => onS { expr := fun ex => encE frees fname ks ns e ex && !(isComp e) } st
  | .assign i e, st => onA1 st fun x ex => nameAt ks ns i x && encE frees fname ks ns e ex && !(isSC e)
  | .ownl i xs, st => onA1 st fun x ex => onE { list := fun es => nameAt ks ns i x && encEs frees fname ks ns xs es } ex
  | .unpack2 i j a b, st => onS { assign := fun ts ex => one? ts fun t => onE { tup := fun ts k1 tp => two? ts fun t1 t2 => onE { tup := fun es k2 vp => two? es fun ea eb => onNm t1 fun x px => onNm t2 fun y py => nameAt ks ns i x && nameAt ks ns j y && !(i == j) && ks.lookup x == some .local && ks.lookup y == some .local && px.line == py.line && !(x == y) && !([ea, eb].all (foldedForSure 8)) && !([ea, eb].all (constantsAlone 8)) && encE frees fname ks ns a ea && encE frees fname ks ns b eb } ex } t } st
  | .aug i op e, st => onS { aug := fun t op' ex => onE { name := fun x => nameAt ks ns i x && !(x == ("__debug__" : Str)) && op == op' && encE frees fname ks ns e ex } t } st
  | .ometh i m xs _, st => onS { expr := fun ex => onMC ex fun o n apos es pos => onE { name := fun x => nameAt ks ns i x && !(x == ("__debug__" : Str)) && n == Str.ofString m.name && apos.endLine == pos.line && decide (es.length < 20) && !es.isEmpty && encEs frees fname ks ns xs es } o } st
  | .ite t a b, st => onS { iff := fun t' a' b' => encE frees fname ks ns t t' && encSs a a' && encSs b b' } st
  | .for_ i src body, st => onS { fo := fun t it body' els => onE { name := fun x => nil? els (nameAt ks ns i x && !(isSetd src) && encE frees fname ks ns src it && encSs body body') } t } st
  | .while_ _ t body, st => onS { wh := fun t' body' els => nil? els (encE frees fname ks ns t t' && encSs body body') } st
  | .ret e, st => onS { ret := fun o => opt? o fun ex => encE frees fname ks ns e ex } st
  | .retOwn i, st => onS { ret := fun o => opt? o fun ex => onE { name := fun x => ns[i]? == some x && !(x == ("__debug__" : Str)) } ex } st
  | .brk, st => onS { brk := true } st
  | .cont, st => onS { cont := true } st
  | .pass, st => onS { pass := true } st
  | .try_ body hs, st => onS { tr := fun body' hs' els fin => nil? els (nil? fin (encSs body body' && encHs hs hs' && !hs'.isEmpty)) } st
  | .raise_ y e, st => onS { raise := fun o cs => opt? o fun ec => non? cs (onNC ec fun x es => one? es fun ex => decide (y = .te ∨ y = .ve) && x == Str.ofString y.name && isGlob ks x && frees.contains x && encE frees fname ks ns e ex) } st
noncomputable def encSs : PSs → List Stmt → Bool
  | .nil, l => (match l with | [] => true | _ => false)
  | .cons s r, l => (match l with | s' :: r' => encS s s' && encSs r r' | _ => false)
  | .frz _ r, l => encSs r l
noncomputable def encHs : PHs → List ExceptHandler → Bool
  | .nil, l => (match l with | [] => true | _ => false)
  | .cons y body r, l => onHd l fun x b r' => x == Str.ofString y.name && isGlob ks x && frees.contains x && encSs body b && encHs r r'
end
end
/- equations -/
section
variable {O : OpsF} {cal : Cal} {q : Bool} {st : Fs}
theorem qx_expr {e} : px O cal q st (.expr e) = resS (pe O cal q st e).v st fun _ st' => .next st' := rfl
theorem qx_assign {i e} : px O cal q st (.assign i e) = resS (pe O cal q st e).v st fun v st' => .next (st'.set i (.val v)) := rfl
theorem qx_ownl {i xs} : px O cal q st (.ownl i xs) = match pes O cal q st xs with
    | some (ol, σ) => (match plains ol with
      | some l => if l.length ≤ 100 then .next ((st.at σ).set i (.own l)) else .stuck
      | none => .stuck)
    | none => .stuck := rfl
theorem qx_unpack2 {i j a b} : px O cal q st (.unpack2 i j a b) = match q with
    | true => resS (pe O cal true st (.tup (.cons a (.cons b .nil)))).v st fun v st' => unpackF [i, j] v st'
    | false => .stuck := rfl
theorem qx_aug {i op e} : px O cal q st (.aug i op e) = match slotV st i, (pe O cal q st e).v with
    | .ok (.av a) _, .ok b σ => resS (ofRes (O.inpl op (deref σ a) (derefS st.ρ σ b)) σ) st fun v st' => .next (st'.set i (.val v))
    | _, _ => .stuck := rfl
theorem qx_ometh {i m xs fz} : px O cal q st (.ometh i m xs fz) = match q with
    | true => (match fz with
      | none => omethF O st i m (pes O cal true st xs)
      | some j => (match ownOf st j with
        | some ys => omethF O (st.set j (.val (.lst ys))) i m (pes O cal true (st.set j (.val (.lst ys))) xs)
        | none => .stuck))
    | false => .stuck := rfl
theorem qx_ite {t a b} : px O cal q st (.ite t a b) = match (pe O cal q st t).t with
    | some (true, σ) => pxs O cal q (st.at σ) a
    | some (false, σ) => pxs O cal q (st.at σ) b
    | none => .stuck := rfl
theorem qx_for_ {i src body} : px O cal q st (.for_ i src body) = match q, (pe O cal q st src).v with
    | true, .ok (.av v) σ => (match O.items v with | some l => forF (fun x st => pxs O cal true (st.set i (.val x)) body) l (st.at σ) | none => .stuck)
    | _, _ => .stuck := rfl
theorem qx_while_ {n t body} : px O cal q st (.while_ n t body) = whileF (fun st => (pe O cal q st t).t) (fun st => pxs O cal q st body) n st := rfl
theorem qx_ret {e} : px O cal q st (.ret e) = resS (pe O cal q st e).v st fun v st' => .ret v st'.σ := rfl
theorem qx_retOwn {i} : px O cal q st (.retOwn i) = match ownOf st i with
    | some xs => .ret (.lst xs) st.σ
    | none => .stuck := rfl
theorem qx_cont : px O cal q st .cont = .cont st := rfl
theorem qx_pass : px O cal q st .pass = .next st := rfl
theorem qx_try_ {body hs} : px O cal q st (.try_ body hs) = match q with
    | true => (match pxs O cal true st body with
      | .exc x st' => phs O cal x st' hs
      | r => r)
    | false => .stuck := rfl
theorem qx_raise_ {x e} : px O cal q st (.raise_ x e) = match q with
    | true => resS (pe O cal true st e).v st fun _ st' => .exc x st'
    | false => .stuck := rfl
theorem qxs_nil : pxs O cal q st .nil = .next st := rfl
theorem qxs_cons {s r} : pxs O cal q st (.cons s r) = match px O cal q st s with
    | .next st' => pxs O cal q st' r
    | f => f := rfl
theorem qxs_frz {i r} : pxs O cal q st (.frz i r) = match ownOf st i with
    | some ys => pxs O cal q (st.set i (.val (.lst ys))) r
    | none => .stuck := rfl
theorem qh_nil {x₀ : EX} : phs O cal x₀ st .nil = .stuck := rfl
theorem qh_cons {x₀ : EX} {y body r} : phs O cal x₀ st (.cons y body r) = if x₀ = y then (match pxs O cal false st body with | .exc _ _ => .stuck | f => f) else phs O cal x₀ st r := rfl
end
section
variable {frees : List Str} {fname : Nat → Str} {ks : List (Str × NameKind)} {ns : List Str}
theorem es_expr {e st} : encS frees fname ks ns (.expr e) st = onS { expr := fun ex => encE frees fname ks ns e ex && !(isComp e) } st := rfl
theorem es_assign {i e st} : encS frees fname ks ns (.assign i e) st = onA1 st fun x ex => nameAt ks ns i x && encE frees fname ks ns e ex && !(isSC e) := rfl
theorem es_ownl {i xs st} : encS frees fname ks ns (.ownl i xs) st = onA1 st fun x ex => onE { list := fun es => nameAt ks ns i x && encEs frees fname ks ns xs es } ex := rfl
theorem es_unpack2 {i j a b st} : encS frees fname ks ns (.unpack2 i j a b) st = onS { assign := fun ts ex => one? ts fun t => onE { tup := fun ts k1 tp => two? ts fun t1 t2 => onE { tup := fun es k2 vp => two? es fun ea eb => onNm t1 fun x px => onNm t2 fun y py => nameAt ks ns i x && nameAt ks ns j y && !(i == j) && ks.lookup x == some .local && ks.lookup y == some .local && px.line == py.line && !(x == y) && !([ea, eb].all (foldedForSure 8)) && !([ea, eb].all (constantsAlone 8)) && encE frees fname ks ns a ea && encE frees fname ks ns b eb } ex } t } st := rfl
theorem es_aug {i op e st} : encS frees fname ks ns (.aug i op e) st = onS { aug := fun t op' ex => onE { name := fun x => nameAt ks ns i x && !(x == ("__debug__" : Str)) && op == op' && encE frees fname ks ns e ex } t } st := rfl
theorem es_ometh {i m xs u0 st} : encS frees fname ks ns (.ometh i m xs u0) st = onS { expr := fun ex => onMC ex fun o n apos es pos => onE { name := fun x => nameAt ks ns i x && !(x == ("__debug__" : Str)) && n == Str.ofString m.name && apos.endLine == pos.line && decide (es.length < 20) && !es.isEmpty && encEs frees fname ks ns xs es } o } st := rfl
theorem es_ite {t a b st} : encS frees fname ks ns (.ite t a b) st = onS { iff := fun t' a' b' => encE frees fname ks ns t t' && encSs frees fname ks ns a a' && encSs frees fname ks ns b b' } st := rfl
theorem es_for_ {i src body st} : encS frees fname ks ns (.for_ i src body) st = onS { fo := fun t it body' els => onE { name := fun x => nil? els (nameAt ks ns i x && !(isSetd src) && encE frees fname ks ns src it && encSs frees fname ks ns body body') } t } st := rfl
theorem es_while_ {u0 t body st} : encS frees fname ks ns (.while_ u0 t body) st = onS { wh := fun t' body' els => nil? els (encE frees fname ks ns t t' && encSs frees fname ks ns body body') } st := rfl
theorem es_ret {e st} : encS frees fname ks ns (.ret e) st = onS { ret := fun o => opt? o fun ex => encE frees fname ks ns e ex } st := rfl
theorem es_retOwn {i st} : encS frees fname ks ns (.retOwn i) st = onS { ret := fun o => opt? o fun ex => onE { name := fun x => ns[i]? == some x && !(x == ("__debug__" : Str)) } ex } st := rfl
theorem es_brk {st} : encS frees fname ks ns (.brk) st = onS { brk := true } st := rfl
theorem es_cont {st} : encS frees fname ks ns (.cont) st = onS { cont := true } st := rfl
theorem es_pass {st} : encS frees fname ks ns (.pass) st = onS { pass := true } st := rfl
theorem es_try_ {body hs st} : encS frees fname ks ns (.try_ body hs) st = onS { tr := fun body' hs' els fin => nil? els (nil? fin (encSs frees fname ks ns body body' && encHs frees fname ks ns hs hs' && !hs'.isEmpty)) } st := rfl
theorem es_raise_ {y e st} : encS frees fname ks ns (.raise_ y e) st = onS { raise := fun o cs => opt? o fun ec => non? cs (onNC ec fun x es => one? es fun ex => decide (y = .te ∨ y = .ve) && x == Str.ofString y.name && isGlob ks x && frees.contains x && encE frees fname ks ns e ex) } st := rfl
theorem ess_nil {l} : encSs frees fname ks ns (.nil) l = (match l with | [] => true | _ => false) := rfl
theorem ess_cons {s r l} : encSs frees fname ks ns (.cons s r) l = (match l with | s' :: r' => encS frees fname ks ns s s' && encSs frees fname ks ns r r' | _ => false) := rfl
theorem ess_frz {u0 r l} : encSs frees fname ks ns (.frz u0 r) l = encSs frees fname ks ns r l := rfl
theorem eh_nil {l} : encHs frees fname ks ns (.nil) l = (match l with | [] => true | _ => false) := rfl
theorem eh_cons {y body r l} : encHs frees fname ks ns (.cons y body r) l = onHd l fun x b r' => x == Str.ofString y.name && isGlob ks x && frees.contains x && encSs frees fname ks ns body b && encHs frees fname ks ns r r' := rfl
end
/- equations end -/
end Mine
end
section
open PySem PySem.W PyProof.Rows
set_option linter.unusedVariables false
set_option linter.unusedSectionVars false
namespace Mine

/-- the frame after some statements -/
structure Nx (c : Cx) (A : Around) (ns : List Str) (env : Env) (fe : FE) (st : Fs) (H : Hd) (s : Shared) (st' : Fs) (H' : Hd) (s' : Shared) : Prop where
  rest : ∃ h' tk, s' = { s with heap := h', toks := tk }
  lv : ∀ b o, s.heap.get? b = some o → ∃ o', s'.heap.get? b = some o'
  hid : ∀ b, H'.p b → H.p b ∨ s.heap.get? b = none
  kv : Kv (FrA A) H.p s.heap s'.heap
  nf : Nf s.heap s'.heap
  mx : ∀ n a, H.m n = some a → H'.m n = some a
  fm : Fm c (FrA A) ns env st' fe H' s'.heap
  len : st'.ρ.length = ns.length
  lo : st'.lo = st.lo
  n0 : st'.n0 = st.n0

section
variable {c : Cx} {A : Around} {ns : List Str} {env : Env} {fe : FE} {st st₁ st₂ : Fs} {H H₁ H₂ : Hd} {s s₁ s₂ : Shared}
theorem Nx.dead (x : Nx c A ns env fe st H s st₁ H₁ s₁) {b : Addr} (z : s₁.heap.get? b = none) : s.heap.get? b = none := by
  cases q : s.heap.get? b with
  | none => rfl
  | some o => obtain ⟨o', e'⟩ := x.lv b o q; rw [z] at e'; cases e'
theorem Nx.trans (x : Nx c A ns env fe st H s st₁ H₁ s₁) (y : Nx c A ns env fe st₁ H₁ s₁ st₂ H₂ s₂) : Nx c A ns env fe st H s st₂ H₂ s₂ where
  rest := by
    obtain ⟨h, t, rfl⟩ := x.rest
    obtain ⟨h', t', rfl⟩ := y.rest
    exact ⟨h', t', rfl⟩
  lv := fun b o e => let ⟨o', e'⟩ := x.lv b o e; y.lv b o' e'
  hid := fun b z => by
    rcases y.hid b z with z | z
    · exact x.hid b z
    · exact .inr (x.dead z)
  kv := fun b o n e => by
    have h1 : ¬ H₁.p b := fun z => by
      rcases x.hid b z with z | z
      · exact n z
      · rw [e] at z; cases z
    obtain ⟨p1, sl, p2⟩ := x.kv b o n e
    obtain ⟨q1, sl', q2⟩ := y.kv b _ h1 p2
    exact ⟨fun f => (y.kv b o h1 (p1 f)).1 f, sl', q2⟩
  nf := x.nf.trans y.nf
  mx := fun n a e => y.mx n a (x.mx n a e)
  fm := y.fm
  len := y.len
  lo := y.lo.trans x.lo
  n0 := y.n0.trans x.n0
theorem Nx.of_ss {σ' : Store} (F : Fm c (FrA A) ns env st fe H s.heap) (hlen : st.ρ.length = ns.length) (x : Ss A st.lo st.σ H s σ' H₁ s₁) : Nx c A ns env fe st H s (st.at σ') H₁ s₁ :=
  ⟨x.rest, x.lv, x.hid, x.kv.mono fun b ⟨n, mo, _, e1, e2⟩ => F.sto.hid n b mo e1 e2, x.nf, x.mx, F.ss x, hlen, rfl, rfl⟩
theorem Nx.of_kp (F : Fm c (FrA A) ns env st fe H s.heap) (hlen : st.ρ.length = ns.length) (k : Kp A s s₁) : Nx c A ns env fe st H s st H s₁ := .of_ss F hlen (.of_kp k F.sto F.hlt)
theorem Nx.vis (x : Nx c A ns env fe st H s st₁ H₁ s₁) : (vis s.heap H).Le (Mine.vis s₁.heap H₁) := ⟨by
  rintro b cc d ⟨nb, o, e, rr⟩
  obtain ⟨_, o₂, p2, rr₂⟩ := (x.kv.vis (H := H) fun _ z => z).r b cc d ⟨nb, o, e, rr⟩
  refine ⟨fun z => ?_, o₂, p2, rr₂⟩
  rcases x.hid b z with z | z
  · exact nb z
  · (rw [e] at z; cases z), x.mx⟩
end

/-- how the caller sees what has come back -/
noncomputable def retH (fe : FE) (n0 : Nat) (H' : Hd) : Hd := ⟨fun b => fe.H.p b ∨ ∃ n, n0 ≤ n ∧ H'.m n = some b, H'.m, fe.H.o⟩
/-- what comes back -/
structure Rt (c : Cx) (A : Around) (ns : List Str) (env : Env) (fe : FE) (st : Fs) (s : Shared) (σ' : Store) (w : Value) (v : AV) (s' : Shared) : Prop where
  rest : ∃ h' tk, s' = { s with heap := h', toks := tk }
  lv : ∀ b o, s.heap.get? b = some o → ∃ o', s'.heap.get? b = some o'
  nf : Nf s.heap s'.heap
  back : ∃ st' H', st'.σ = σ' ∧ st'.n0 = st.n0 ∧ st'.lo = st.lo ∧ Fm c (FrA A) ns env st' fe H' s'.heap ∧ Rep (vis s'.heap (retH fe st.n0 H')) w v

noncomputable def PostS (c : Cx) (q : Bool) (A : Around) (ns : List Str) (env : Env) (fe : FE) (st : Fs) (H : Hd) (fr : FR) (s : Shared) (Q : Flow → Shared → Prop) (E : Value → Shared → Prop) : Prop :=
  match fr with
  | .next st' => ∀ H' s', Nx c A ns env fe st H s st' H' s' → Q .next s'
  | .brk st' => ∀ H' s', Nx c A ns env fe st H s st' H' s' → Q .brk s'
  | .cont st' => ∀ H' s', Nx c A ns env fe st H s st' H' s' → Q .cont s'
  | .ret v σ' => ∀ w s', Rt c A ns env fe st s σ' w v s' → Q (.ret w) s'
  | .exc x st' => q = true ∧ ∀ H' sr e s', Nx c A ns env fe st H s st' H' sr → Xp A sr s' e x → E e s'
  | .stuck => False

section
variable {c : Cx} {q : Bool} {A : Around} {ns : List Str} {env : Env} {fe : FE} {st st₁ : Fs} {H H₁ : Hd} {s s₁ : Shared} {fr : FR} {Q : Flow → Shared → Prop} {E : Value → Shared → Prop}
theorem Rt.nx {s' : Shared} {σ' : Store} {w : Value} {v : AV} (y : Rt c A ns env fe st₁ s₁ σ' w v s') (x : Nx c A ns env fe st H s st₁ H₁ s₁) : Rt c A ns env fe st s σ' w v s' where
  rest := by
    obtain ⟨h, t, rfl⟩ := x.rest
    obtain ⟨h', t', rfl⟩ := y.rest
    exact ⟨h', t', rfl⟩
  lv := fun b o e => let ⟨o', e'⟩ := x.lv b o e; y.lv b o' e'
  nf := x.nf.trans y.nf
  back := by
    obtain ⟨st', H', h1, h2, h3, h4, h5⟩ := y.back
    exact ⟨st', H', h1, h2.trans x.n0, h3.trans x.lo, h4, by rw [← x.n0]; exact h5⟩
theorem PostS.nx (P : PostS c q A ns env fe st H fr s Q E) (x : Nx c A ns env fe st H s st₁ H₁ s₁) : PostS c q A ns env fe st₁ H₁ fr s₁ Q E := by
  cases fr with
  | next st' => exact fun H' s' y => P H' s' (x.trans y)
  | brk st' => exact fun H' s' y => P H' s' (x.trans y)
  | cont st' => exact fun H' s' y => P H' s' (x.trans y)
  | ret v σ => exact fun w s' y => P w s' (y.nx x)
  | exc x' st' => exact ⟨P.1, fun H' sr e s' y => P.2 H' sr e s' (x.trans y)⟩
  | stuck => exact P.elim
/-- a value comes back -/
theorem Fm.rt {w : Value} {v : AV} (F : Fm c (FrA A) ns env st fe H s.heap) (r : Rep (vis s.heap H) w v) : Rt c A ns env fe st s st.σ w v s :=
  ⟨⟨_, _, rfl⟩, fun b o e => ⟨o, e⟩, fun b o e n => ⟨o, e, n⟩, st, H, rfl, rfl, rfl, F, Rep.mono (vis_hide (H := retH fe st.n0 H) (H' := H) (fun b z => by
    rcases z with z | ⟨n, _, e⟩
    · exact F.hle b z
    · exact F.sto.hidden e) fun _ _ e => e) r⟩
/-- the result of an expression in a statement -/
theorem PostS.resK {r : ER} {f : AV → Fs → FR} {t : Sem Value} {Q' : Value → Shared → Prop} (F : Fm c (FrA A) ns env st fe H s.heap) (hlen : st.ρ.length = ns.length) (X : Ev c q A st.lo st.σ H t r s) (P : PostS c q A ns env fe st H (resS r st f) s Q E)
    (h : ∀ v σ₁, r = .ok (.av v) σ₁ → ∀ w H₁ s₁, Nx c A ns env fe st H s (st.at σ₁) H₁ s₁ → Rep (vis s₁.heap H₁) w v → PostS c q A ns env fe (st.at σ₁) H₁ (f v (st.at σ₁)) s₁ Q E → Q' w s₁) : wpAny c.M A t Q' E s := by
  cases r with
  | stuck => exact P.elim
  | exc x σ₁ => exact X _ _ ⟨P.1, fun e H' sr s' x Y => P.2 H' sr e s' (.of_ss F hlen x) Y⟩
  | ok v σ₁ =>
    cases v with
    | own i => exact P.elim
    | av v => exact X _ _ fun w H₁ s₁ x r => h v σ₁ rfl w H₁ s₁ (.of_ss F hlen x) r (PostS.nx (fr := f v (st.at σ₁)) P (.of_ss F hlen x))
end

/-- a statement does what is told -/
noncomputable def StOk (c : Cx) (q : Bool) (k : Nat) (ns : List Str) (env : Env) (st : Fs) (t : Sem Flow) (fr : FR) : Prop :=
  ∀ A s fe H, Rm c q (k + 1) A s.heap → (∃ outer, A.frames = some (env :: outer)) → Fm c (FrA A) ns env st fe H s.heap → st.ρ.length = ns.length → ∀ Q E, PostS c q A ns env fe st H fr s Q E → wpAny c.M A t Q E s

theorem nameAt_of {ks : List (Str × NameKind)} {ns : List Str} {i : Nat} {x : Str} {env : Env} (hks : env.scope.names = ks) (h : nameAt ks ns i x = true) :
    ns[i]? = some x ∧ (env.kindOf x = some .local ∨ env.kindOf x = some .cell) ∧ OneName ns i x := by
  simp only [nameAt, Bool.and_eq_true, Bool.or_eq_true, beq_iff_eq, List.all_eq_true, List.mem_range, Bool.not_eq_true', beq_eq_false_iff_ne] at h
  obtain ⟨⟨h1, h2⟩, h3⟩ := h
  refine ⟨h1, ?_, fun j hj => ?_⟩
  · show env.scope.names.lookup x = _ ∨ env.scope.names.lookup x = _
    rw [hks]; exact h2
  · have hlt : j < ns.length := by
      rcases Nat.lt_or_ge j ns.length with h | h
      · exact h
      · rw [List.getElem?_eq_none h] at hj; cases hj
    exact (h3 j hlt).resolve_right fun n => n hj

theorem swaps_no {e : PE} {frees : List Str} {fname : Nat → Str} {ks : List (Str × NameKind)} {ns : List Str} {ex : Expr} (h : encE frees fname ks ns e ex = true) (hc : isComp e = false) (t : Option Expr) (l : Nat) (env : Env) : swapsWith ex t l env = pure false := by
  cases ex <;> first | rfl | (cases e <;> first | exact (Bool.false_ne_true h).elim | exact (Bool.false_ne_true hc.symm).elim)

section
variable {c : Cx} {A : Around} {ns : List Str} {env : Env} {fe : FE} {st st₁ : Fs} {H H₁ : Hd} {s s₁ s₂ : Shared}

theorem nx_store {i : Nat} {x : Str} {v : Value} {av : AV} {Q : Unit → Shared → Prop} {E : Value → Shared → Prop} (N : Nx c A ns env fe st H s st₁ H₁ s₁) (hx : ns[i]? = some x) (hnd : OneName ns i x)
    (hk : env.kindOf x = some .local ∨ env.kindOf x = some .cell) (r : Rep (vis s₁.heap H₁) v av) (h : ∀ s', Nx c A ns env fe st H s (st₁.set i (.val av)) H₁ s' → Nx c A ns env fe st₁ H₁ s₁ (st₁.set i (.val av)) H₁ s' → Q () s') : wpAny c.M A (storeName env x v) Q E s₁ := by
  refine wp_store (t := .val av) N.fm hx hnd hk r fun h' tk F' kv nf _ => ?_
  have N₁ : Nx c A ns env fe st₁ H₁ s₁ (st₁.set i (.val av)) H₁ { s₁ with heap := h', toks := tk } := ⟨⟨_, _, rfl⟩, fun b o e => by
    by_cases hb : H₁.p b
    · exact F'.hlt b hb
    · obtain ⟨sl, q⟩ := (kv b o hb e).2; exact ⟨_, q⟩, fun _ z => .inl z, kv, nf, fun _ _ e => e, F', by simpa using N.len, rfl, rfl⟩
  exact h _ (N.trans N₁) N₁

theorem nx_own {i : Nat} {x : Str} {xs : List AV} {vs : List Value} {a : Addr} {Q : Unit → Shared → Prop} {E : Value → Shared → Prop} (N : Nx c A ns env fe st H s st₁ H₁ s₁) (k : Kp A s₁ s₂) (hx : ns[i]? = some x) (hnd : OneName ns i x)
    (hk : env.kindOf x = some .local ∨ env.kindOf x = some .cell) (hz : xs.length ≤ 1048576) (hnew : s₁.heap.get? a = none) (hl : IsL s₂.heap a vs) (r : RepL (vis s₁.heap H₁) vs xs)
    (h : ∀ H' s', Nx c A ns env fe st H s (st₁.set i (.own xs)) H' s' → Q () s') : wpAny c.M A (storeName env x (.ref a)) Q E s₂ := by
  have F₁ := N.fm.putO (i := i) k.kh hnew hl
  have hN : ∀ b, (H₁.putO i a).p b → H₁.p b ∨ s₁.heap.get? b = none := fun b z => z.imp id fun (z : b = a) => z ▸ hnew
  have N₁ : Nx c A ns env fe st₁ H₁ s₁ { st₁ with ρ := st₁.ρ.set i none } (H₁.putO i a) s₂ := ⟨let ⟨h, t, e, _⟩ := k; ⟨h, t, e⟩, fun b o e => let ⟨_, q⟩ := (k.kh b o e).2; ⟨_, q⟩, hN, k.kh.kv, k.kh.nf, fun _ _ e => e, F₁, by simpa using N.len, rfl, rfl⟩
  refine wp_store (t := .own xs) F₁ hx hnd hk ⟨hz, a, vs, rfl, if_pos rfl, hl, RepL.mono (vis_new k.kh hN fun _ _ e => e) r⟩ fun h' tk F' kv nf _ => ?_
  have e : ({ st₁ with ρ := st₁.ρ.set i none } : Fs).set i (.own xs) = st₁.set i (.own xs) := by simp [Fs.set]
  have F'' : Fm c (FrA A) ns env (st₁.set i (.own xs)) fe (H₁.putO i a) h' := by rw [← e]; exact F'
  refine h _ _ ((N.trans N₁).trans ⟨⟨_, _, rfl⟩, fun b o e => ?_, fun _ z => .inl z, kv, nf, fun _ _ e => e, F'', by simpa using N.len, rfl, rfl⟩)
  by_cases hb : (H₁.putO i a).p b
  · exact F''.hlt b hb
  · obtain ⟨sl, q⟩ := (kv b o hb e).2; exact ⟨_, q⟩

/-- an own list turned -/
theorem nx_turn {i : Nat} {a : Addr} {vs' : List Value} {xs xs' : List AV} {h' : Heap} {tk : Nat} (N : Nx c A ns env fe st H s st₁ H₁ s₁) (hr : st₁.ρ[i]? = some (some (.own xs))) (ho : H₁.o i = some a) (hl : IsL h' a vs') (hz : xs'.length ≤ 1048576) (r : RepL (vis s₁.heap H₁) vs' xs') (hs : Heap.SameBut a s₁.heap h') :
    Nx c A ns env fe st H s (st₁.set i (.own xs')) H₁ { s₁ with heap := h', toks := tk } := by
  have F₂ := fm_own N.fm ho ⟨xs, hr⟩ hs hl hz r
  obtain ⟨hH, _⟩ := N.fm.own i a ho
  refine N.trans ⟨⟨_, _, rfl⟩, fun b o e => ?_, fun _ z => .inl z, Kv.of_sameBut hs hH, fun b o e nf => ?_, fun _ _ e => e, F₂, by simpa using N.len, rfl, rfl⟩
  · by_cases hb : b = a
    · obtain ⟨o', _, e', _⟩ := hl; exact ⟨o', hb ▸ e'⟩
    · exact ⟨o, (hs.2 b hb).trans e⟩
  · by_cases hb : b = a
    · obtain ⟨o', _, e', _, d', _⟩ := hl; exact ⟨o', hb ▸ e', fun vs z => by rw [d'] at z; cases z⟩
    · exact ⟨o, (hs.2 b hb).trans e, nf⟩
end
end Mine
end
section
open PySem PySem.W PyProof.Rows PySem.Calls
namespace Mine
set_option maxRecDepth 100000
set_option linter.unusedVariables false
section
variable {prog : Program} {w : World} {A : Around} {E : Value → Shared → Prop} {s : Shared}
end

noncomputable def rangeL (a b s : Int) : List AV := (List.range (Builtin.Range.rangeSize a b s).toNat).map fun (i : Nat) => .int (a + i * s)
section
variable {prog : Program} {w : World} {A : Around} {E : Value → Shared → Prop} {s : Shared}
end
section
variable {c : Cx} {A : Around} {s : Shared} {H : Hd} {lo : Nat} {σ : Store} {E : Value → Shared → Prop}
end

section
variable {prog : Program} {w : World} {A : Around} {E : Value → Shared → Prop} {s : Shared}
end
theorem IK.next : ∀ k : IK, ∃ id, typeLookup (.type k.cls) "__next__" = pure (some (.builtin id))
  | .list => ⟨_, slot_listiter_next.lookup⟩
  | .tuple => ⟨_, PySem.F.slot_tuple_iterator_next.lookup⟩
  | .range => ⟨_, PySem.F.slot_range_iterator_next.lookup⟩
section
variable {c : Cx} {k : Nat} {A : Around} {s : Shared} {H : Hd} {lo : Nat} {σ : Store} {vs : List Value}
theorem Ss.out {σ' : Store} {H' : Hd} {s s' : Shared} (x : Ss A.in1 lo σ H s σ' H' s') : Ss A lo σ H s σ' H' s' := { x with }
end
end Mine
end
section
open PySem PySem.W PyProof.Rows PySem.Calls
namespace Mine
set_option maxRecDepth 100000
set_option linter.unusedVariables false
section
variable {c : Cx} {k : Nat} {A : Around} {s : Shared} {H : Hd}
/-- len of a thing without places -/
theorem len_te {v : Value} {T : String} (hm : Rm c true k A s.heap) (hT : s.TypeIs v T) (hn : typeLookup (.type T) "__len__" = pure none) (hb : (Value.type T == Value.type "builtin_function_or_method") = false) (hl : ((s!"object of type '{shownName T}' has no len()" : String) : Str).length ≤ sizeLine) :
    Tr c true A H (PySem.call (.builtin "len") [v]) (.exc .te) s := fun Q E P => by
  refine call_function_entry kind_len plain_len entry_len (args_len1 _) ?_
  unfold Builtin.«len»
  refine wpAny_bind (m := oneArg "len" _) (wpAny_pure ?_)
  refine wpAny_bind (m := callSpecial? v (Str.ofString "__len__")) ?_
  unfold callSpecial?
  refine wpAny_bind (wpAny_specialOf hT hn (wpAny_pure ?_))
  refine wpAny_bind (wpAny_rule (wpAny_bind (wpAny_typeNameOf' hT hb ?_)))
  have h := post_raise (Q' := Q) hm P
  exact wpAny_raiseErrorMade plainExc_TypeError h.1 h.2 hl
theorem nl_li : typeLookup (.type "list_iterator") "__len__" = pure none := by rw [typeLookup_type, builtinLookup_eq_fast]; kernel_rfl
theorem nl_ti : typeLookup (.type "tuple_iterator") "__len__" = pure none := by rw [typeLookup_type, builtinLookup_eq_fast]; kernel_rfl
theorem nl_ri : typeLookup (.type "range_iterator") "__len__" = pure none := by rw [typeLookup_type, builtinLookup_eq_fast]; kernel_rfl
theorem len_msg : ∀ T ∈ ["list_iterator", "tuple_iterator", "range_iterator"], ((s!"object of type '{shownName T}' has no len()" : String) : Str).length ≤ sizeLine := by decide +kernel
theorem len_itr {I : Addr} {ik : IK} {xs : List AV} {R : Vw} (hm : Rm c true k A s.heap) (h : IsI s.heap R I ik xs) : Tr c true A H (PySem.call (.builtin "len") [.ref I]) (.exc .te) s := by
  obtain ⟨o, e, cc, _⟩ := h
  cases ik with
  | list => exact len_te (T := "list_iterator") hm ⟨o, e, cc⟩ nl_li (by decide) (len_msg _ (by decide))
  | tuple => exact len_te (T := "tuple_iterator") hm ⟨o, e, cc⟩ nl_ti (by decide) (len_msg _ (by decide))
  | range => exact len_te (T := "range_iterator") hm ⟨o, e, cc⟩ nl_ri (by decide) (len_msg _ (by decide))
/- what an iterator tells -/
theorem lk_li : typeLookup (.type "list_iterator") "__length_hint__" = pure (some (.builtin "list_iterator.__length_hint__")) := by rw [typeLookup_type, builtinLookup_eq_fast]; kernel_rfl
theorem lk_ti : typeLookup (.type "tuple_iterator") "__length_hint__" = pure (some (.builtin "tuple_iterator.__length_hint__")) := by rw [typeLookup_type, builtinLookup_eq_fast]; kernel_rfl
theorem lk_ri : typeLookup (.type "range_iterator") "__length_hint__" = pure (some (.builtin "range_iterator.__length_hint__")) := by rw [typeLookup_type, builtinLookup_eq_fast]; kernel_rfl
theorem slot_lih : Slot "list_iterator" "__length_hint__" "list_iterator.__length_hint__" :=
  .of (owner := "list_iterator") (n := "__length_hint__") lk_li (by decide +kernel) (by decide +kernel) (by decide +kernel) (by first | exact .inl (by decide +kernel) | exact .inr (by decide +kernel)) (by rw [isSubtype_type]; kernel_rfl) (plain_of (by decide +kernel) (by decide +kernel) (by decide +kernel))
theorem slot_tih : Slot "tuple_iterator" "__length_hint__" "tuple_iterator.__length_hint__" :=
  .of (owner := "tuple_iterator") (n := "__length_hint__") lk_ti (by decide +kernel) (by decide +kernel) (by decide +kernel) (by first | exact .inl (by decide +kernel) | exact .inr (by decide +kernel)) (by rw [isSubtype_type]; kernel_rfl) (plain_of (by decide +kernel) (by decide +kernel) (by decide +kernel))
theorem slot_rih : Slot "range_iterator" "__length_hint__" "range_iterator.__length_hint__" :=
  .of (owner := "range_iterator") (n := "__length_hint__") lk_ri (by decide +kernel) (by decide +kernel) (by decide +kernel) (by first | exact .inl (by decide +kernel) | exact .inr (by decide +kernel)) (by rw [isSubtype_type]; kernel_rfl) (plain_of (by decide +kernel) (by decide +kernel) (by decide +kernel))
theorem entry_lih : entryFor table "list_iterator.__length_hint__" = some Builtin.«list_iterator.__length_hint__» := entryFor_of_tree (by kernel_rfl)
theorem entry_tih : entryFor table "tuple_iterator.__length_hint__" = some Builtin.«tuple_iterator.__length_hint__» := entryFor_of_tree (by kernel_rfl)
theorem entry_rih : entryFor table "range_iterator.__length_hint__" = some Builtin.«range_iterator.__length_hint__» := entryFor_of_tree (by kernel_rfl)
theorem args_lih (a : Value) : argsOk "list_iterator.__length_hint__" ⟨[a], []⟩ := by unfold argsOk; kernel_rfl
theorem args_tih (a : Value) : argsOk "tuple_iterator.__length_hint__" ⟨[a], []⟩ := by unfold argsOk; kernel_rfl
theorem args_rih (a : Value) : argsOk "range_iterator.__length_hint__" ⟨[a], []⟩ := by unfold argsOk; kernel_rfl
theorem hint_seq {it l : Addr} {o ol : Obj} {i n : Nat} {items : Array Value} {R : Fin → Shared → Prop} {E : Value → Shared → Prop} {id : String} {M : Model} (ho : s.heap.get? it = some o) (hd : o.data = .fields #[.ref l, .int (i : Nat) 0]) (hol : s.heap.get? l = some ol) (hdl : ol.data = .seq items n)
    (hQ : R (.done (.ret (.int ((items.size - i : Nat) : Int) s.toks))) { s with toks := s.toks + 1 }) : wpAny M A (do
      let seq ← field (.ref it) 0
      if seq == .none then rule s!"{id}.ended"; return ← retInt 0
      let some xs ← seqItems? seq | unsupported s!"internal:{id}"
      let .int i _ ← field (.ref it) 1 | unsupported s!"internal:{id}"
      retInt (max 0 (xs.size - i)) : Sem Fin) R E s := by
  refine wpAny_bind (wpAny_field ho hd (x := .ref l) rfl ?_)
  show wpAny _ _ (if (Value.ref l == Value.none) = true then _ else _) _ _ s
  rw [if_neg (show ¬ ((Value.ref l == Value.none) = true) from Bool.false_ne_true)]
  refine wpAny_bind (wpAny_seqItems hol hdl ?_)
  refine wpAny_bind (wpAny_field ho hd (x := .int i 0) rfl ?_)
  have e : max (0 : Int) ((items.size : Int) - (i : Int)) = ((items.size - i : Nat) : Int) := by omega
  show wpAny _ _ (retInt (max 0 ((items.size : Int) - (i : Int)))) _ _ _
  rw [e]
  unfold retInt
  exact wpAny_bind (wpAny_mkInt (wpAny_pure hQ))
theorem hint_over {it : Addr} {o : Obj} {t : Int} {R : Fin → Shared → Prop} {E : Value → Shared → Prop} {id : String} {M : Model} (ho : s.heap.get? it = some o) (hd : o.data = .fields #[.none, .int t 0])
    (hQ : R (.done (.ret (.int 0 s.toks))) { s with toks := s.toks + 1 }) : wpAny M A (do
      let seq ← field (.ref it) 0
      if seq == .none then rule s!"{id}.ended"; return ← retInt 0
      let some xs ← seqItems? seq | unsupported s!"internal:{id}"
      let .int i _ ← field (.ref it) 1 | unsupported s!"internal:{id}"
      retInt (max 0 (xs.size - i)) : Sem Fin) R E s := by
  refine wpAny_bind (wpAny_field ho hd (x := .none) rfl ?_)
  show wpAny _ _ (if (Value.none == Value.none) = true then _ else _) _ _ s
  rw [if_pos (show ((Value.none == Value.none) = true) from rfl)]
  refine wpAny_bind (wpAny_rule ?_)
  refine wpAny_bind (m := retInt 0) ?_
  show wpAny _ _ (mkInt 0 >>= fun v => ret v) _ _ _
  exact wpAny_bind (wpAny_mkInt (wpAny_pure (wpAny_pure hQ)))
noncomputable def IK.hint : IK → String
  | .list => "list_iterator.__length_hint__"
  | .tuple => "tuple_iterator.__length_hint__"
  | .range => "range_iterator.__length_hint__"
theorem hint_itr {I : Addr} {ik : IK} {xs : List AV} (h : IsI s.heap (vis s.heap H) I ik xs) : Tr c true A H (PySem.call (.builtin ik.hint) [.ref I]) (.ok (.int xs.length)) s := fun Q E P => by
  obtain ⟨o, e, cc, r⟩ := h
  have go : ∀ (n : Nat), n = xs.length → Q (.int (n : Int) s.toks) { s with toks := s.toks + 1 } := fun n hn => by
    subst hn; exact P _ _ Kp.toks ⟨_, rfl⟩
  cases ik with
  | list =>
    refine wpAny_call_entry slot_lih (T := "list_iterator") ⟨o, e, cc⟩ entry_lih ?_ (args_lih _)
    refine wpAny_bind (m := selfOnly _ _) (wpAny_of_eq (a := Value.ref I) rfl ?_)
    rcases r with ⟨rfl, t, d⟩ | ⟨l, vs, n', i, d, ⟨nl, o2, e2, c2, d2, x2⟩, z, rr⟩
    · exact hint_over e d ⟨_, rfl, go 0 rfl⟩
    · exact hint_seq e d e2 d2 ⟨_, rfl, go _ (by have := rr.length; simp at this ⊢; omega)⟩
  | tuple =>
    refine wpAny_call_entry slot_tih (T := "tuple_iterator") ⟨o, e, cc⟩ entry_tih ?_ (args_tih _)
    refine wpAny_bind (m := selfOnly _ _) (wpAny_of_eq (a := Value.ref I) rfl ?_)
    rcases r with ⟨rfl, t, d⟩ | ⟨l, vs, n', i, d, ⟨nl, o2, e2, c2, d2, x2⟩, z, rr⟩
    · exact hint_over e d ⟨_, rfl, go 0 rfl⟩
    · exact hint_seq e d e2 d2 ⟨_, rfl, go _ (by have := rr.length; simp at this ⊢; omega)⟩
  | range =>
    refine wpAny_call_entry slot_rih (T := "range_iterator") ⟨o, e, cc⟩ entry_rih ?_ (args_rih _)
    obtain ⟨cur, left, st, it, z1, z2, ex⟩ := r
    refine wpAny_bind (m := selfOnly _ _) (wpAny_of_eq (a := Value.ref I) rfl ?_)
    refine wpAny_bind (wpAny_field it rfl (x := .int left 0) rfl ?_)
    show wpAny _ _ (retInt left) _ _ _
    have el : left = (xs.length : Int) := by rw [ex]; simp; omega
    rw [el]
    unfold retInt
    exact wpAny_bind (wpAny_mkInt (wpAny_pure ⟨_, rfl, go _ rfl⟩))
/- a class's attribute -/
theorem cls_attr {T : String} {v : Value} {name : Str} {Q E : Value → Shared → Prop} (ht : kitMeta T = true) (hs : Manifest.isStub T = false) (e : findCls [] (.type T) (.type "type") name = some (.val v)) (hv : handedOut v = pure v) (h : ∀ tk, Q v { s with toks := tk }) :
    wpAny c.M A (getAttr (.type T) name true) Q E s := by
  have X : Frag.In [] s.heap := fun a o q => by cases q
  have hstub : opaqueClassAbove (.type T) = pure none := by unfold opaqueClassAbove; dsimp only; rw [hs]; rfl
  have L0 : Looks c.M s.heap (typeOf (.type T)) (.type "type") := Looks.of_pure (kitMeta_of ht)
  have LO : Looks c.M s.heap (opaqueClassAbove (.type T)) none := Looks.of_pure hstub
  have hg : findIn [] (.type "type") "__getattribute__" = some (some (.builtin "type.__getattribute__")) := type_tga
  refine cls_open (prog := c.prog) (w := c.w) X LO L0 hg (looks_hook X (r := none) (by rfl)) (by show subIn [] _ _ = _; rfl) e ?_
  show wpAny _ _ (ret v) _ _ _
  refine wpAny_pure ?_
  show wpAny _ _ (handedOut v) _ _ _
  exact wpAny_of_eq hv (h _)
theorem fc_li : findCls [] (.type "list_iterator") (.type "type") (Str.ofString "__length_hint__") = some (.val (.builtin "list_iterator.__length_hint__")) := by kernel_rfl
theorem ho_li : handedOut (.builtin "list_iterator.__length_hint__") = pure (.builtin "list_iterator.__length_hint__") := by
  show (if (withoutEnding? "list_iterator.__length_hint__" "#data").isSome = true then typeDatum "list_iterator.__length_hint__" else pure (.builtin "list_iterator.__length_hint__")) = _
  rw [if_neg (by decide +kernel)]
theorem km_li : kitMeta "list_iterator" = true := by decide +kernel
theorem st_li : Manifest.isStub "list_iterator" = false := by decide +kernel
theorem fc_ti : findCls [] (.type "tuple_iterator") (.type "type") (Str.ofString "__length_hint__") = some (.val (.builtin "tuple_iterator.__length_hint__")) := by kernel_rfl
theorem ho_ti : handedOut (.builtin "tuple_iterator.__length_hint__") = pure (.builtin "tuple_iterator.__length_hint__") := by
  show (if (withoutEnding? "tuple_iterator.__length_hint__" "#data").isSome = true then typeDatum "tuple_iterator.__length_hint__" else pure (.builtin "tuple_iterator.__length_hint__")) = _
  rw [if_neg (by decide +kernel)]
theorem km_ti : kitMeta "tuple_iterator" = true := by decide +kernel
theorem st_ti : Manifest.isStub "tuple_iterator" = false := by decide +kernel
theorem fc_ri : findCls [] (.type "range_iterator") (.type "type") (Str.ofString "__length_hint__") = some (.val (.builtin "range_iterator.__length_hint__")) := by kernel_rfl
theorem ho_ri : handedOut (.builtin "range_iterator.__length_hint__") = pure (.builtin "range_iterator.__length_hint__") := by
  show (if (withoutEnding? "range_iterator.__length_hint__" "#data").isSome = true then typeDatum "range_iterator.__length_hint__" else pure (.builtin "range_iterator.__length_hint__")) = _
  rw [if_neg (by decide +kernel)]
theorem km_ri : kitMeta "range_iterator" = true := by decide +kernel
theorem st_ri : Manifest.isStub "range_iterator" = false := by decide +kernel
theorem at_li {Q E : Value → Shared → Prop} (h : ∀ tk, Q (.builtin "list_iterator.__length_hint__") { s with toks := tk }) : wpAny c.M A (getAttr (.type "list_iterator") (Str.ofString "__length_hint__") true) Q E s :=
  cls_attr (T := "list_iterator") (v := .builtin "list_iterator.__length_hint__") (name := Str.ofString "__length_hint__") (Q := Q) (E := E) km_li st_li fc_li ho_li h
theorem at_ti {Q E : Value → Shared → Prop} (h : ∀ tk, Q (.builtin "tuple_iterator.__length_hint__") { s with toks := tk }) : wpAny c.M A (getAttr (.type "tuple_iterator") (Str.ofString "__length_hint__") true) Q E s :=
  cls_attr (T := "tuple_iterator") (v := .builtin "tuple_iterator.__length_hint__") (name := Str.ofString "__length_hint__") (Q := Q) (E := E) km_ti st_ti fc_ti ho_ti h
theorem at_ri {Q E : Value → Shared → Prop} (h : ∀ tk, Q (.builtin "range_iterator.__length_hint__") { s with toks := tk }) : wpAny c.M A (getAttr (.type "range_iterator") (Str.ofString "__length_hint__") true) Q E s :=
  cls_attr (T := "range_iterator") (v := .builtin "range_iterator.__length_hint__") (name := Str.ofString "__length_hint__") (Q := Q) (E := E) km_ri st_ri fc_ri ho_ri h
theorem attr_itr : ∀ {ik : IK} {Q E : Value → Shared → Prop} (h : ∀ tk, Q (.builtin ik.hint) { s with toks := tk }), wpAny c.M A (getAttr (.type ik.cls) (Str.ofString "__length_hint__") true) Q E s
  | .list, _, _, h => at_li h
  | .tuple, _, _, h => at_ti h
  | .range, _, _, h => at_ri h
end
end Mine
end
section
open PySem PySem.W PyProof.Rows PySem.Calls
namespace Mine
set_option maxRecDepth 100000
set_option linter.unusedVariables false
section
variable {c : Cx} {q : Bool} {k : Nat} {A : Around} {s : Shared} {H : Hd}
theorem index_ok {l : Addr} {vs : List Value} {ns : List Int} {i : Int} {t : Tok} (hl : IsL s.heap l vs) (hi : IntsAre vs ns) (hz : ns.length ≤ 1048576) (hk : i ∈ ns) : Tr c q A H (PySem.call (.builtin "list.index") [.ref l, .int i t]) (.ok (.int (ns.idxOf i : Nat))) s := fun Q E P => by
  obtain ⟨⟨cls, dd, data, sl⟩, n, ho, hc, hd, _⟩ := id hl
  simp only at hc hd
  subst hc hd
  have hlen := hi.length
  have hj : ns.idxOf i < ns.length := List.idxOf_lt_length_iff.mpr hk
  refine call_meets PySem.F.slot_list_index ⟨_, ho, rfl⟩ PySem.F.entry_list_index (PySem.F.args_list_index_2 _ _)
    (SeqAt.list_indexAt l vs.toArray n dd sl (.int i t) (isInt i) (ns.idxOf i) (by simpa [hlen] using hj) (by omega) ?_ ?_) ⟨ho, fun y hy => (eq_isInt i t hi y (by simpa using hy)).at _ _, P _ _ Kp.toks ⟨_, rfl⟩⟩
  · show isInt i vs[ns.idxOf i] = true
    rw [isInt_at i hi _ (by omega) hj]
    simpa using List.getElem_idxOf hj
  · intro j hjs hlt
    show isInt i vs[j] = false
    rw [isInt_at i hi j (by simpa using hjs) (by omega)]
    exact ne_of_lt_idxOf hlt _
theorem count_ok {l : Addr} {vs : List Value} {ns : List Int} {i : Int} {t : Tok} (hl : IsL s.heap l vs) (hi : IntsAre vs ns) : Tr c q A H (PySem.call (.builtin "list.count") [.ref l, .int i t]) (.ok (.int (ns.count i : Nat))) s := fun Q E P =>
  count_list_ints hl.isList hi (P _ _ Kp.toks ⟨_, rfl⟩)
end
end Mine
end
section
open PySem PySem.W PyProof.Rows PySem.Calls
namespace Mine
set_option maxRecDepth 100000
/- repetition -/
theorem RepL.rep {R : Vw} {vs : List Value} {xs : List AV} (r : RepL R vs xs) : ∀ k : Nat, RepL R (List.replicate k vs).flatten (List.replicate k xs).flatten
  | 0 => by simp [RepL]
  | k + 1 => by simpa [List.replicate_succ] using r.append (RepL.rep r k)
theorem ints_are {R : Vw} : ∀ {xs : List AV} {vs : List Value} {ns : List Int}, ints? xs = some ns → RepL R vs xs → IntsAre vs ns
  | [], [], ns, h, _ => by simp only [ints?, Option.some.injEq] at h; subst h; exact .nil
  | [], _ :: _, _, _, r => by simp [RepL] at r
  | _ :: _, [], _, _, r => by simp [RepL] at r
  | x :: xs, v :: vs, ns, h, r => by
    simp only [RepL] at r
    cases x <;> simp only [ints?, reduceCtorEq] at h
    rename_i i
    simp only [Option.map_eq_some_iff] at h
    obtain ⟨ms, h1, rfl⟩ := h
    obtain ⟨t, e⟩ := r.1
    subst e
    exact .cons i t (ints_are h1 r.2)
section
variable {c : Cx} {q : Bool} {k : Nat} {A : Around} {s : Shared} {H : Hd}
/- list(x) -/
end
end Mine
end
section
open PySem PySem.W PyProof.Rows PySem.Calls
namespace Mine
set_option maxRecDepth 100000
set_option linter.unusedVariables false
/- isinstance, told no -/
section
variable {prog : Program} {w : World} {A : Around} {E : Value → Shared → Prop} {s : Shared} {v : Value} {T C : String} {P : Heap → Prop}
theorem isn_nested {dep : Int} {tk : Tok} {Q : Fin → Shared → Prop} (ht : Looks (model prog w) s.heap (typeOf v) (.type T)) (hne : (Value.type T == Value.type C) = false) (hty : typeOf (.type C) = pure (.type "type")) (hsub : isSubtype (.type T) (.type C) = pure false) (p : P s.heap)
    (ca : ∀ {prog : Program} {w : World} {A : Around} {E : Value → Shared → Prop} {Q : Option Value → Shared → Prop} {s : Shared}, P s.heap → Q (some (.type T)) { s with toks := s.toks + 1 } → wpAny (model prog w) A (getAttr? v "__class__") Q E s)
    (h : Q (.done (.ret (.bool false))) { s with toks := s.toks + 1 }) :
    wpAny (model prog w) A (Builtin.«isinstance.nested» ⟨[v, .type C, .int dep tk], []⟩) Q E s := by
  obtain ⟨hh, g, d, tt, os⟩ := s
  unfold Builtin.«isinstance.nested»
  refine wpAny_bind (ht.at ?_)
  rw [if_neg (fun q => by rw [hne] at q; cases q)]
  have L4 : Looks (model prog w) hh (isSubtype (.type T) (.type C)) false := Looks.of_pure hsub
  have L3 : Looks (model prog w) hh (isInstance v (.type C)) false := ht.andThen L4
  refine wpAny_bind (wpAny_of_eq hty ?_)
  rw [if_pos (by decide)]
  k_delta "plainIsInstance"
  unfold isType
  refine wpAny_bind (wpAny_bind (wpAny_pure ?_))
  simp only [Bool.not_true, Bool.false_eq_true, if_false]
  refine wpAny_bind (L3.at ?_)
  simp only [Bool.false_eq_true, if_false]
  refine wpAny_bind (ca p ?_)
  refine wpAny_bind (wpAny_pure ?_)
  simp only [Bool.not_true, Bool.false_eq_true, if_false]
  refine wpAny_bind (wpAny_rule ?_)
  refine L4.at ?_
  exact wpAny_pure h
theorem isn_call {Q : Value → Shared → Prop} (ht : ∀ M, Looks M s.heap (typeOf v) (.type T)) (hne : (Value.type T == Value.type C) = false) (hty : typeOf (.type C) = pure (.type "type")) (hsub : isSubtype (.type T) (.type C) = pure false) (hx : v ≠ .builtin "__main__.__loader__#opaque") (p : P s.heap)
    (ca : ∀ {prog : Program} {w : World} {A : Around} {E : Value → Shared → Prop} {Q : Option Value → Shared → Prop} {s : Shared}, P s.heap → Q (some (.type T)) { s with toks := s.toks + 1 } → wpAny (model prog w) A (getAttr? v "__class__") Q E s)
    (h : Q (.bool false) { s with toks := s.toks + 1 }) :
    wpAny (model prog w) A (call (.builtin "isinstance") [v, .type C]) Q E s :=
  call_isinstance (S := fun _ R s => ((∀ M, Looks M s.heap (typeOf v) (.type T)) ∧ P s.heap) ∧ R (.ok (.ret (.bool false))) { s with toks := s.toks + 1 })
    (fun _ _ _ _ _ hs => isinstance_outer (isn_nested (hs.1.1 _) hne hty hsub hs.1.2 ca hs.2) hx) ⟨⟨ht, p⟩, h⟩
theorem ty_int : typeOf (.type "int") = pure (.type "type") := by kernel_rfl
theorem ty_bool : typeOf (.type "bool") = pure (.type "type") := by kernel_rfl
theorem nsub_str : isSubtype (.type "str") (.type "int") = pure false := by rw [isSubtype_type]; kernel_rfl
theorem nsub_none : isSubtype (.type "NoneType") (.type "int") = pure false := by rw [isSubtype_type]; kernel_rfl
theorem nsub_list : isSubtype (.type "list") (.type "int") = pure false := by rw [isSubtype_type]; kernel_rfl
theorem nsub_intb : isSubtype (.type "int") (.type "bool") = pure false := by rw [isSubtype_type]; kernel_rfl
theorem sub_bb : isSubtype (.type "bool") (.type "bool") = pure true := by rw [isSubtype_type]; kernel_rfl
theorem no_str {x : Str} {t : Tok} {Q : Value → Shared → Prop} (h : Q (.bool false) { s with toks := s.toks + 1 }) : wpAny (model prog w) A (call (.builtin "isinstance") [.str x t, .type "int"]) Q E s :=
  isn_call (P := fun _ => True) (T := "str") (fun _ => Looks.of_pure rfl) (by decide) ty_int nsub_str (by intro e; cases e) trivial (fun p k => str_cls p k) h
theorem no_none {Q : Value → Shared → Prop} (h : Q (.bool false) { s with toks := s.toks + 1 }) : wpAny (model prog w) A (call (.builtin "isinstance") [.none, .type "int"]) Q E s :=
  isn_call (P := fun _ => True) (T := "NoneType") (fun _ => Looks.of_pure rfl) (by decide) ty_int nsub_none (by intro e; cases e) trivial (fun p k => none_cls p k) h
theorem no_intb {x : Int} {t : Tok} {Q : Value → Shared → Prop} (h : Q (.bool false) { s with toks := s.toks + 1 }) : wpAny (model prog w) A (call (.builtin "isinstance") [.int x t, .type "bool"]) Q E s :=
  isn_call (P := fun _ => True) (T := "int") (fun _ => Looks.of_pure rfl) (by decide) ty_bool nsub_intb (by intro e; cases e) trivial (fun p k => int_cls p k) h
theorem no_list {a : Addr} {Q : Value → Shared → Prop} (p : ∃ o, s.heap.get? a = some o ∧ o.cls = .type "list") (h : Q (.bool false) { s with toks := s.toks + 1 }) : wpAny (model prog w) A (call (.builtin "isinstance") [.ref a, .type "int"]) Q E s :=
  isn_call (P := fun h => ∃ o, h.get? a = some o ∧ o.cls = .type "list") (T := "list") (fun M => kitAt_ty M _ p) (by decide) ty_int nsub_list (by intro e; cases e) p (fun p k => list_cls p k) h
end
/- what is gone over -/
section
variable {c : Cx} {A : Around}
theorem itr_of {I : Addr} {n : Nat} {P : Nat → Value → Prop} {St : Nat → Heap → Prop} (W : Walks c.prog c.w A I [I] [I] n P St) (hf : ∀ i h, St i h → ∃ o fs, h.get? I = some o ∧ o.data = .fields fs ∧ ¬ okC o.cls) (hn : ∀ i h, St i h → ∃ o n, h.get? I = some o ∧ o.cls = .type n ∧ ["enumerate", "zip", "dict_itemiterator", "dict_reverseitemiterator", "odict_iterator", "itertools.zip_longest", "itertools.pairwise"].contains n = false) :
    Itr c A I (fun b => b = I) P n St where
  fld := hf
  nt := hn
  frame := fun i h h' st fr => W.frame i h h' st fun b hb o e => by
    obtain rfl : b = I := by simpa using hb
    obtain ⟨o', fs, e', hd, _⟩ := hf i h st
    rw [e] at e'; cases e'
    exact (fr b o rfl e).1 ⟨fs, hd⟩
  item := fun i s Q E hi st h => W.item i s Q E hi st fun v h' tk hP st' hk => by
    obtain ⟨o', _, e', _⟩ := hf _ _ st'
    exact h v h' tk hP st' (fun b o hb e => hk b o (by simpa using hb) e) ⟨o', e'⟩
  done := fun s Q E st h => W.done s Q E st fun h' tk hk => h h' tk fun b o hb e => hk b o (by simpa using hb) e
  self := fun i s Q E st h => W.self i s Q E st h
theorem itr_str (hh : A.handled = none) {I : Addr} {x : Str} {t : Tok} : Itr c A I (fun b => b = I) (SignAt x) x.cps.size (fun i h => h.IsStrIter I "str_ascii_iterator" x t i) :=
  itr_of (Walks.strAscii hh I x t) (fun i h ⟨o, e, hc, hd⟩ => ⟨o, _, e, hd, by rw [hc]; unfold okC; decide +kernel⟩) fun i h ⟨o, e, hc, hd⟩ => ⟨o, _, e, hc, by decide +kernel⟩
theorem itr_bytes (hh : A.handled = none) {I : Addr} {b : Array UInt8} {t : Tok} : Itr c A I (fun b => b = I) (fun i v => ∃ c u, b[i]? = some c ∧ v = .int (c.toNat : Int) u) b.size (fun i h => KBw.IsBytesIter h I b t i) :=
  itr_of (KBw.walks hh I b t) (fun i h ⟨o, e, hc, hd⟩ => ⟨o, _, e, hd, by rw [hc]; unfold okC; decide +kernel⟩) fun i h ⟨o, e, hc, hd⟩ => ⟨o, _, e, hc, by decide +kernel⟩
theorem DictA.but {h h' : Heap} {d I : Addr} {es : Array DictEntry} {ep : Nat} (x : DictA h d es ep) (k : ∀ b o, b ≠ I → h.get? b = some o → h'.get? b = some o) (n : d ≠ I) : DictA h' d es ep := let ⟨o, e, r⟩ := x; ⟨o, k d o n e, r⟩
theorem itr_dict (hh : A.handled = none) {I d : Addr} {es : Array DictEntry} {ep : Nat} (hI : d ≠ I) : Itr c A I (fun b => b = I ∨ b = d) (fun _ _ => True) es.size (fun i h => h.IsKeyIter I d i es.size ep ∧ DictA h d es ep) where
  fld := fun i h ⟨⟨o, e, hc, hd⟩, _⟩ => ⟨o, _, e, hd, by rw [hc]; unfold okC; decide +kernel⟩
  nt := fun i h ⟨⟨o, e, hc, hd⟩, _⟩ => ⟨o, _, e, hc, by decide +kernel⟩
  frame := fun i h h' ⟨⟨o, e, hc, hd⟩, ⟨o2, e2, hc2, hd2⟩⟩ fr => by
    refine ⟨⟨o, (fr I o (.inl rfl) e).1 ⟨_, hd⟩, hc, hd⟩, ?_⟩
    obtain ⟨sl, e3⟩ := (fr d o2 (.inr rfl) e2).2
    exact ⟨_, e3, hc2, hd2⟩
  item := fun i s Q E hi ⟨hit, hl⟩ h => by
    refine dict_pyNext_item hit hl hi fun key h' hit' sb => ?_
    exact h _ h' s.toks trivial ⟨hit', hl.but (fun b o hb e => (sb.2 b hb).trans e) hI⟩ (fun b o hb e => (sb.2 b hb).trans e) (let ⟨o, e, _⟩ := hit'; ⟨o, e⟩)
  done := fun s Q E ⟨hit, hl⟩ h => dict_pyNext_end hh hit hl fun h' eb => h h' s.toks fun b o hb e => eb b o hb e
  self := fun i s Q E ⟨hit, _⟩ h => wpAny_pyIter_keyiter hit h
theorem SetAt.but {h h' : Heap} {a I : Addr} {es : Array (Int × Value)} {ep : Nat} {t : SetTable} (x : SetAt h a es ep t) (k : ∀ b o, b ≠ I → h.get? b = some o → h'.get? b = some o) (n : a ≠ I) : SetAt h' a es ep t := let ⟨o, e, r⟩ := x; ⟨o, k a o n e, r⟩
theorem itr_set (hh : A.handled = none) {I a : Addr} {es : Array (Int × Value)} {ep : Nat} {t : SetTable} (S : SetIt (!c.w.params.followText "set-order") es t) (hI : a ≠ I) : Itr c A I (fun b => b = I ∨ b = a) (fun _ _ => True) es.size (fun i h => (∃ slot, SetItAt h I a i slot es.size ep ∧ StandsAt c.w t slot i) ∧ SetAt h a es ep t) where
  fld := fun i h ⟨⟨_, ⟨o, e, hc, hd⟩, _⟩, _⟩ => ⟨o, _, e, hd, by rw [hc]; unfold okC; decide +kernel⟩
  nt := fun i h ⟨⟨_, ⟨o, e, hc, hd⟩, _⟩, _⟩ => ⟨o, _, e, hc, by decide +kernel⟩
  frame := fun i h h' ⟨⟨sl, ⟨o, e, hc, hd⟩, hst⟩, ⟨o2, e2, hc2, hd2⟩⟩ fr => by
    refine ⟨⟨sl, ⟨o, (fr I o (.inl rfl) e).1 ⟨_, hd⟩, hc, hd⟩, hst⟩, ?_⟩
    obtain ⟨sl, e3⟩ := (fr a o2 (.inr rfl) e2).2
    exact ⟨_, e3, hc2, hd2⟩
  item := fun i s Q E hi ⟨⟨sl, hit, hst⟩, hl⟩ h => by
    refine set_pyNext_item hit hl S hst hi fun x sl' h' hit' hst' sb => ?_
    exact h _ h' s.toks trivial ⟨⟨sl', hit', hst'⟩, hl.but (fun b o hb e => (sb.2 b hb).trans e) hI⟩ (fun b o hb e => (sb.2 b hb).trans e) (let ⟨o, e, _⟩ := hit'; ⟨o, e⟩)
  done := fun s Q E ⟨⟨sl, hit, hst⟩, hl⟩ h => set_pyNext_end hh hit hl S hst fun h' eb => h h' s.toks fun b o hb e => eb b o hb e
  self := fun i s Q E ⟨⟨sl, hit, hst⟩, _⟩ h => set_iterSelf hit h
end
/- a class's attribute that is not there -/
section
variable {prog : Program} {w : World} {A : Around} {E : Value → Shared → Prop} {s : Shared} {T : String} {name : Str}
/-- the error as it is made -/
structure AeAt (h h' : Heap) (e : Addr) : Prop where
  keeps : ∀ b ob, h.get? b = some ob → h'.get? b = some ob
  new : h.get? e = none
  there : ∃ t, h'.get? e = some { cls := .type "AttributeError", data := .fields #[t, .none, .none, .none, .bool false, .none, unsetMember, unsetMember] }
theorem raise_ae {α : Type} {msg : Str} {Q : α → Shared → Prop} (hh : A.handled = none) (h : ∀ h' tk e, AeAt s.heap h' e → E (.ref e) { s with heap := h', toks := tk }) (hm : msg.length ≤ sizeLine) :
    wpAny (model prog w) A (raiseErrorStr "AttributeError" msg : Sem α) Q E s := by
  unfold raiseErrorStr
  refine wpAny_bind (wpAny_mkStr (wpAny_bind ?_) hm)
  unfold newExc newTuple
  refine wpAny_bind (wpAny_newObj_type ?_ (by size_fits))
  refine wpAny_bind (m := firstArgMember _ _) (wpAny_of_eq (a := Value.none) (by simp only [firstArgMember, attrError_no_first]; rfl) ?_)
  rw [ownMembersOf_AttributeError]
  refine wpAny_newObj_type ?_ (by size_fits)
  unfold raiseNew
  refine wpAny_bind (wpAny_handled ?_)
  rw [hh]
  first
    | refine wpAny_throw ?_
    | refine wpAny_bind (wpAny_pure (wpAny_throw ?_))
  dsimp only
  refine h _ _ _ ⟨fun b ob hb => Heap.get?_push_of_some _ (Heap.get?_push_of_some _ hb), Heap.get?_none_of_le (by simp), _, Heap.get?_push_size _ rfl⟩
theorem tga_miss {tk : Tok} {Q : Fin → Shared → Prop} (hh : A.handled = none) (hs : Manifest.isStub T = false) (ht : kitMeta T = true) (e1 : typeLookup (.type "type") name = pure none) (e2 : typeLookup (.type T) name = pure none)
    (hz : ((s!"type object '{shownName T}' has no attribute '" : Str) ++ name ++ ("'" : Str)).length ≤ sizeLine)
    (h : ∀ h' tk e, AeAt s.heap h' e → E (.ref e) { s with heap := h', toks := tk }) : wpAny (model prog w) A (Builtin.«type.__getattribute__» ⟨[.type T, .str name tk], []⟩) Q E s := by
  have hstub : opaqueClassAbove (.type T) = pure none := by unfold opaqueClassAbove; dsimp only; rw [hs]; rfl
  unfold Builtin.«type.__getattribute__»
  refine wpAny_bind (wpAny_pure (wpAny_bind (wpAny_of_eq hstub (wpAny_bind (wpAny_of_eq (kitMeta_of ht) (wpAny_bind (wpAny_of_eq e1 ?_)))))))
  refine wpAny_bind (wpAny_pure ?_)
  refine wpAny_bind (wpAny_of_eq e2 ?_)
  refine wpAny_bind (wpAny_rule ?_)
  refine wpAny_bind (wpAny_of_eq (a := shownName T) (by rfl) ?_)
  exact raise_ae hh h hz

theorem lacks {h : Heap} {e : Addr} {t : Value} {Q : Bool → Shared → Prop} (he : s.heap.get? e = some { cls := .type "AttributeError", data := .fields #[t, .none, .none, .none, .bool false, .none, unsetMember, unsetMember] }) (h : Q true s) : wpAny (model prog w) A (lacksNameAndObj (.ref e)) Q E s := by
  unfold lacksNameAndObj
  refine wpAny_bind (wpAny_isInstance (T := "AttributeError") (b := true) ⟨_, he, rfl⟩ sub_AttributeError ?_)
  simp only [Bool.not_true, Bool.false_eq_true, if_false]
  refine wpAny_bind (wpAny_loadPart' he ?_)
  exact wpAny_pure h
/-- the class T has no such attribute -/
theorem cls_miss {Q : Value → Shared → Prop} (hh : A.handled = none) (hs : Manifest.isStub T = false) (ht : kitMeta T = true) (e1 : typeLookup (.type "type") name = pure none) (e2 : typeLookup (.type T) name = pure none) (e3 : typeLookup (.type "type") "__getattr__" = pure none)
    (hz : ((s!"type object '{shownName T}' has no attribute '" : Str) ++ name ++ ("'" : Str)).length ≤ sizeLine)
    (h : ∀ h' tk e vs, (∀ b ob, s.heap.get? b = some ob → h'.get? b = some ob) → s.heap.get? e = none → h'.get? e = some { cls := .type "AttributeError", data := .fields vs } → vs[1]? = some .none → 0 < vs.size → E (.ref e) { s with heap := h', toks := tk }) :
    wpAny (model prog w) A (getAttr (.type T) name true) Q E s := by
  have X : Frag.In [] s.heap := fun a o q => by cases q
  have hg : findIn [] (.type "type") "__getattribute__" = some (some (.builtin "type.__getattribute__")) := type_tga
  have hi : subIn [] (.type "type") (.type "type") = some true := by rfl
  have L0 : Looks (model prog w) s.heap (typeOf (.type T)) (.type "type") := Looks.of_pure (kitMeta_of ht)
  refine wpAny_bind (wpAny_mkText (wpAny_holding (wpAny_bind (L0 _ _ _ _ (fun _ _ e => e) (wpAny_bind (looks_findIn X hg _ _ _ _ (fun _ _ e => e) ?_))))))
  dsimp only
  rw [show (onTheHeap (.type "type") && Value.builtin "type.__getattribute__" == Value.builtin "object.__getattribute__") = false from rfl, if_neg (by decide)]
  unfold getAttrByItsOwn
  refine wpAny_bind (wpAny_of_eq (rfl : hookBefore (.type "type") = pure none) (wpAny_bind (wpAny_attempt (wpAny_holding ?_))))
  unfold callGetattribute
  rw [show (true && onTheHeap (Value.builtin "type.__getattribute__")) = false from rfl, if_neg (by decide)]
  unfold boundAndCalled
  rw [KF.slot_tga.bind]
  refine wpAny_bind (wpAny_pure ?_)
  show wpAny _ _ (call (.builtin "type.__getattribute__") [.type T, .str name s.toks]) _ _ _
  refine wpAny_call ?_
  refine codeAny_call_builtin KF.slot_tga.plain KF.entry_tga ?_
  refine @check_slot (model prog w) _ _ { s with toks := s.toks + 1 } "type.__getattribute__" "type" "__getattribute__" (.type T) [.str name s.toks] [] _ (by decide +kernel) (by decide +kernel) (L0.andThen (looks_subIn X hi)) (KF.args_tga (.type T) (.str name s.toks)) ?_
  refine tga_miss (s := { s with toks := s.toks + 1 }) hh hs ht e1 e2 hz fun h' tk e a => ?_
  obtain ⟨t, he⟩ := a.there
  show wpAny _ _ (getattributeRaised (.type T) (.str name s.toks) (.type "type") (.ref e) none true true) _ _ _
  unfold getattributeRaised
  refine wpAny_bind (wpAny_isInstance (T := "AttributeError") (b := true) ⟨_, he, rfl⟩ sub_AttributeError ?_)
  rw [if_pos rfl]
  refine wpAny_bind (wpAny_of_eq (show hookBehind (.type "type") none = pure none from e3) ?_)
  show wpAny _ _ (attributeErrorLeaves (.type T) (.str name s.toks) (.ref e) true true) _ _ _
  unfold attributeErrorLeaves
  simp only [Bool.not_true, Bool.false_eq_true, if_false, if_true]
  refine wpAny_bind (lacks (h := h') (t := t) he ?_)
  simp only [if_true]
  refine wpAny_bind (wpAny_of_eq (a := false) (by unfold getattributeMayRunBare; rfl) ?_)
  simp only [Bool.false_eq_true, if_false]
  refine wpAny_bind ?_
  unfold noteAttr
  refine wpAny_bind (lacks (h := h') (t := t) he ?_)
  simp only [if_true]
  refine wpAny_bind (wpAny_rule ?_)
  refine wpAny_bind (wpAny_typeOf (T := "AttributeError") ⟨_, he, rfl⟩ ?_)
  dsimp only
  unfold layMembers
  refine wpAny_bind (wpAny_loadPart' he ?_)
  dsimp only
  refine wpAny_update he ?_
  refine wpAny_throw ?_
  refine h _ tk e _ (fun b ob q => ?_) a.new (Heap.get?_update_self _ he rfl) rfl (by simp)
  have hne : b ≠ e := fun z => by rw [z, a.new] at q; cases q
  exact (Heap.get?_update_other _ _ (Ne.symm hne)).trans (a.keeps b ob q)

/-- a class's name -/
theorem cls_name {T q : String} (ht : kitMeta T = true) (hs : Manifest.isStub T = false) {Q : Value → Shared → Prop}
    (e : findCls [] (.type T) (.type "type") "__name__" = some (.get (.builtin "getset_descriptor.__get__") (.builtin "type.__name__") (.type T) (.type "type"))) (hq : ktynFast T = q) (hz : (Str.ofString q).length ≤ sizeLine)
    (h : ∀ tk u, Q (.str (Str.ofString q) tk) { s with toks := u }) : wpAny (model prog w) A (getAttr (.type T) "__name__" true) Q E s := by
  have X : Frag.In [] s.heap := fun a o q => by cases q
  have hstub : opaqueClassAbove (.type T) = pure none := by unfold opaqueClassAbove; dsimp only; rw [hs]; rfl
  have L0 : Looks (model prog w) s.heap (typeOf (.type T)) (.type "type") := Looks.of_pure (kitMeta_of ht)
  have LO : Looks (model prog w) s.heap (opaqueClassAbove (.type T)) none := Looks.of_pure hstub
  have hg : findIn [] (.type "type") "__getattribute__" = some (some (.builtin "type.__getattribute__")) := type_tga
  refine cls_open X LO L0 hg (looks_hook X (r := none) (by rfl)) (by show subIn [] _ _ = _; rfl) e ?_
  show wpAny _ _ (do ret (← holding [Value.builtin "type.__name__"] (call (.builtin "getset_descriptor.__get__") [.builtin "type.__name__", .type T, .type "type"]))) _ _ _
  refine wpAny_bind (wpAny_holding (wpAny_call (ktyn_get (s := { s with toks := s.toks + 1 }) (kitMeta_of ht) hq hz ?_)))
  exact wpAny_pure (handed_on rfl (h _ _))
theorem nf_str : findCls [] (.type "str") (.type "type") (Str.ofString "__name__") = some (.get (.builtin "getset_descriptor.__get__") (.builtin "type.__name__") (.type "str") (.type "type")) := by kernel_rfl
theorem nk_str : kitMeta "str" = true := by decide +kernel
theorem ns_str : Manifest.isStub "str" = false := by decide +kernel
theorem nq_str : ktynFast "str" = "str" := by decide +kernel
theorem nz_str : (Str.ofString "str").length ≤ sizeLine := by decide +kernel
theorem nm_str {Q : Value → Shared → Prop} (h : ∀ tk u, Q (.str (Str.ofString "str") tk) { s with toks := u }) : wpAny (model prog w) A (getAttr (.type "str") (Str.ofString "__name__") true) Q E s :=
  cls_name (T := "str") (q := "str") (Q := Q) (E := E) nk_str ns_str nf_str nq_str nz_str h
theorem nf_none : findCls [] (.type "NoneType") (.type "type") (Str.ofString "__name__") = some (.get (.builtin "getset_descriptor.__get__") (.builtin "type.__name__") (.type "NoneType") (.type "type")) := by kernel_rfl
theorem nk_none : kitMeta "NoneType" = true := by decide +kernel
theorem ns_none : Manifest.isStub "NoneType" = false := by decide +kernel
theorem nq_none : ktynFast "NoneType" = "NoneType" := by decide +kernel
theorem nz_none : (Str.ofString "NoneType").length ≤ sizeLine := by decide +kernel
theorem nm_none {Q : Value → Shared → Prop} (h : ∀ tk u, Q (.str (Str.ofString "NoneType") tk) { s with toks := u }) : wpAny (model prog w) A (getAttr (.type "NoneType") (Str.ofString "__name__") true) Q E s :=
  cls_name (T := "NoneType") (q := "NoneType") (Q := Q) (E := E) nk_none ns_none nf_none nq_none nz_none h
theorem nf_list : findCls [] (.type "list") (.type "type") (Str.ofString "__name__") = some (.get (.builtin "getset_descriptor.__get__") (.builtin "type.__name__") (.type "list") (.type "type")) := by kernel_rfl
theorem nk_list : kitMeta "list" = true := by decide +kernel
theorem ns_list : Manifest.isStub "list" = false := by decide +kernel
theorem nq_list : ktynFast "list" = "list" := by decide +kernel
theorem nz_list : (Str.ofString "list").length ≤ sizeLine := by decide +kernel
theorem nm_list {Q : Value → Shared → Prop} (h : ∀ tk u, Q (.str (Str.ofString "list") tk) { s with toks := u }) : wpAny (model prog w) A (getAttr (.type "list") (Str.ofString "__name__") true) Q E s :=
  cls_name (T := "list") (q := "list") (Q := Q) (E := E) nk_list ns_list nf_list nq_list nz_list h
/-- the attribute that ints and None have not -/
theorem lh_ty : typeLookup (.type "type") (Str.ofString "__length_hint__") = pure none := by rw [typeLookup_type, builtinLookup_eq_fast]; kernel_rfl
theorem lh_int : typeLookup (.type "int") (Str.ofString "__length_hint__") = pure none := by rw [typeLookup_type, builtinLookup_eq_fast]; kernel_rfl
theorem lh_none : typeLookup (.type "NoneType") (Str.ofString "__length_hint__") = pure none := by rw [typeLookup_type, builtinLookup_eq_fast]; kernel_rfl
theorem ga_ty : typeLookup (.type "type") "__getattr__" = pure none := by rw [typeLookup_type, builtinLookup_eq_fast]; kernel_rfl
theorem ae_xp {A : Around} {s : Shared} {h' : Heap} {tk : Tok} {e : Addr} {vs : Array Value} (hk : ∀ b ob, s.heap.get? b = some ob → h'.get? b = some ob) (hn : s.heap.get? e = none) (he : h'.get? e = some { cls := .type "AttributeError", data := .fields vs }) (h1 : vs[1]? = some .none) (h0 : 0 < vs.size) :
    Xp A s { s with heap := h', toks := tk } (.ref e) .ae :=
  ⟨e, vs[0], rfl, Kp.of hk, hn, .inl ⟨_, vs, he, rfl, rfl, by simp [h0], h1⟩⟩
end
section
variable {c : Cx} {A : Around} {s : Shared} {H : Hd}
theorem mk_int : kitMeta "int" = true := by decide +kernel
theorem ms_int : Manifest.isStub "int" = false := by decide +kernel
theorem mz_int : ((s!"type object '{shownName "int"}' has no attribute '" : Str) ++ Str.ofString "__length_hint__" ++ ("'" : Str)).length ≤ sizeLine := by decide +kernel
theorem miss_int {k : Nat} {q : Bool} (hm : Rm c q k A s.heap) (hq : q = true) : Tr c q A H (getAttr (.type "int") (Str.ofString "__length_hint__") true) (.exc .ae) s := fun Q E P =>
  cls_miss (T := "int") (name := Str.ofString "__length_hint__") (Q := Q) (E := E) (hm.hand hq) ms_int mk_int lh_ty lh_int ga_ty mz_int fun h' tk e vs h1 h2 h3 h4 h5 => P.2 _ _ (ae_xp h1 h2 h3 h4 h5)
theorem mk_none : kitMeta "NoneType" = true := by decide +kernel
theorem ms_none : Manifest.isStub "NoneType" = false := by decide +kernel
theorem mz_none : ((s!"type object '{shownName "NoneType"}' has no attribute '" : Str) ++ Str.ofString "__length_hint__" ++ ("'" : Str)).length ≤ sizeLine := by decide +kernel
theorem miss_none {k : Nat} {q : Bool} (hm : Rm c q k A s.heap) (hq : q = true) : Tr c q A H (getAttr (.type "NoneType") (Str.ofString "__length_hint__") true) (.exc .ae) s := fun Q E P =>
  cls_miss (T := "NoneType") (name := Str.ofString "__length_hint__") (Q := Q) (E := E) (hm.hand hq) ms_none mk_none lh_ty lh_none ga_ty mz_none fun h' tk e vs h1 h2 h3 h4 h5 => P.2 _ _ (ae_xp h1 h2 h3 h4 h5)
/-- the error's text -/
noncomputable def fmtI : Str := Str.ofString "'%s' object cannot be interpreted as an integer"
theorem mod_fmt {t u : Tok} {y : Str} {Q E : Value → Shared → Prop} (hy : y.length ≤ 1000000) (h : ∀ z t' k, Q (.str z t') { s with toks := k }) : wpAny c.M A (binaryOp .Mod (.str fmtI t) (.str y u)) Q E s := by
  unfold fmtI
  refine' KPc.mod_str ?kpcF hy ?kpcm ?_
  case kpcF => kpc_eq
  case kpcm => k_dflt kpc_run_s
  intro _ _
  exact h _ _ _
theorem len_i {k : Nat} {n : Int} {t : Tok} (hm : Rm c true k A s.heap) : Tr c true A H (PySem.call (.builtin "len") [.int n t]) (.exc .te) s :=
  len_te (T := "int") hm rfl (by rw [typeLookup_type, builtinLookup_eq_fast]; kernel_rfl) (by decide) (by decide +kernel)
theorem len_n {k : Nat} (hm : Rm c true k A s.heap) : Tr c true A H (PySem.call (.builtin "len") [.none]) (.exc .te) s :=
  len_te (T := "NoneType") hm rfl (by rw [typeLookup_type, builtinLookup_eq_fast]; kernel_rfl) (by decide) (by decide +kernel)
end
end Mine
end
section
open PySem PySem.W PyProof.Rows
namespace Mine

theorem fly_kh {A : Around} {sr s' : Shared} {B h : Heap} {l : List Env} {base : Heap} (hk : Kp A sr s') (hfr : A.frames = some l) (ff : s'.heap.FunFrames base l)
    (hB : ∀ b o, s'.heap.get? b = some o → (∃ o', sr.heap.get? b = some o') → b ∉ l.filterMap (·.frame) → B.get? b = some o) (hst : B.StaysIn h) (hup : s'.heap.UpToSlots h) : Kh (FrA A) sr.heap h := fun b o e => by
  obtain ⟨p1, sl, p2⟩ := hk.kh b o e
  by_cases hb : b ∈ l.filterMap (·.frame)
  · obtain ⟨_, o', e', nf⟩ := ff.mem hb
    rw [p2] at e'; cases e'
    refine ⟨fun n => n.elim (fun n => absurd ⟨l, hfr, hb⟩ n) fun ⟨fs, z⟩ => absurd z (nf fs), ?_⟩
    obtain ⟨sl', q⟩ := hup b _ p2 nf
    exact ⟨sl', q⟩
  · have hF : ¬ FrA A b := fun ⟨l', e1, e2⟩ => by rw [hfr] at e1; cases e1; exact hb e2
    have := hst b o (hB b o (p1 (.inl hF)) ⟨o, e⟩ hb)
    exact ⟨fun _ => this, o.slots, this⟩

/-- an exception that the frame has taken note of -/
noncomputable def Fly (A : Around) (l : List Env) (sr : Shared) (e : Addr) (cls : EX) (s' : Shared) : Prop := ∃ B a0 h tk, s' = { sr with heap := h, toks := tk } ∧ Heap.FlyingW B l e (.type cls.name) a0 h ∧ Kh (FrA A) sr.heap h ∧ (∀ b o, h.get? b = some o → (∃ o', sr.heap.get? b = some o') → b ∉ l.filterMap (·.frame) → B.get? b = some o) ∧ (∀ b, b ∈ l.filterMap (·.frame) → ∃ o, h.get? b = some o ∧ ∀ vs, o.data ≠ .fields vs)

theorem note_land {c : Cx} {A : Around} {sr s' : Shared} {e : Addr} {cls : EX} {env : Env} {outer : List Env} {Lf : Addr} {Q : Unit → Shared → Prop} {E : Value → Shared → Prop} (X : Xp A sr s' (.ref e) cls) (hfr : A.frames = some (env :: outer)) (hf : env.frame = some Lf)
    (ff : s'.heap.FunFrames c.h0 (env :: outer)) (K : ∀ s₃, Fly A (env :: outer) sr e cls s₃ → Q () s₃) :
    wpAny c.M A (noteFrame (.ref e) env) (fun _ s₂ => wpAny c.M A (setFlight (.ref e) none) Q E s₂) E s' := by
  obtain ⟨e', a0, he', hkp, hen, hX⟩ := X
  cases he'
  have fin : ∀ (B : Heap), B.StaysIn s'.heap → B.get? e = none → (∀ b o, s'.heap.get? b = some o → (∃ o', sr.heap.get? b = some o') → b ∉ (env :: outer).filterMap (·.frame) → B.get? b = some o) →
      ∀ h₂, Heap.HeldW B (env :: outer) e (.type cls.name) a0 Lf h₂ → s'.heap.UpToSlots h₂ → wpAny c.M A (setFlight (.ref e) none) Q E { s' with heap := h₂ } := by
    intro B hB1 hB2 hB3 h₂ hh hu
    refine wpAny_landsW hh fun h₃ hfl hu₃ => K _ ?_
    have kh := fly_kh hkp hfr ff hB3 hfl.1 (hu.trans hu₃)
    obtain ⟨h', tk', rfl, kk⟩ := hkp
    refine ⟨B, a0, h₃, tk', rfl, hfl, kh, fun b o q1 q2 q3 => ?_, fun b hb => ?_⟩
    · obtain ⟨o', q2⟩ := q2
      have hF : ¬ FrA A b := fun ⟨l', e1, e2⟩ => by rw [hfr] at e1; cases e1; exact q3 e2
      have e1 := (kk b o' q2).1 (.inl hF)
      have e2 := hB3 b o' e1 ⟨o', q2⟩ q3
      have e3 := hfl.1 b o' e2
      rw [q1] at e3; cases e3; exact e2
    · obtain ⟨_, o, e1, nf⟩ := hfl.2.2.1.mem hb
      exact ⟨o, e1, nf⟩
  rcases hX with ⟨ob, vs, ho, hc, hd, hv0, hv1⟩ | ht
  · have hB0 : ∀ b o, s'.heap.get? b = some o → (∃ o', sr.heap.get? b = some o') → b ∉ (env :: outer).filterMap (·.frame) → (hideAll s'.heap (e :: (env :: outer).filterMap (·.frame))).get? b = some o := fun b o q1 q2 q3 => by
      refine hideAll_get _ q1 fun hm => ?_
      rcases List.mem_cons.mp hm with rfl | hm
      · obtain ⟨o', q2⟩ := q2; rw [hen] at q2; cases q2
      · exact q3 hm
    have hfB : s'.heap.FunFrames (hideAll s'.heap (e :: (env :: outer).filterMap (·.frame))) (env :: outer) := funFrames_hide ff fun v hv a ha => List.mem_cons_of_mem _ (List.mem_filterMap.mpr ⟨v, hv, ha⟩)
    unfold noteFrame
    simp only [hf]
    refine wpAny_bind (wpAny_field ho hd (x := .none) hv1 ?_)
    rw [if_neg (by decide)]
    refine wpAny_entryW (base := hideAll s'.heap (e :: (env :: outer).filterMap (·.frame))) hfr hfB hf ho (fun b o q => of_hideAll _ q) (hideAll_none _ (List.mem_cons_self ..)) hd (Array.getElem?_eq_some_iff.mp hv1).1 (a0 := a0) hv0 fun h₂ hN => ?_
    obtain ⟨k1, k2, k3, k4⟩ := hN
    rw [hc] at k3
    exact fin _ (fun b o q => of_hideAll _ q) (hideAll_none _ (List.mem_cons_self ..)) hB0 h₂ ⟨k1, hideAll_none _ (List.mem_cons_self ..), k2, k3⟩ k4
  · obtain ⟨oe, vs, T, oT, ts, he, hcl, hd, h1, hT, hTe, hoT, hdT, h3⟩ := ht
    have hB0 : ∀ b o, s'.heap.get? b = some o → (∃ o', sr.heap.get? b = some o') → b ∉ (env :: outer).filterMap (·.frame) → (hideAll s'.heap (e :: T :: (env :: outer).filterMap (·.frame))).get? b = some o := fun b o q1 q2 q3 => by
      obtain ⟨o', q2⟩ := q2
      refine hideAll_get _ q1 fun hm => ?_
      rcases List.mem_cons.mp hm with rfl | hm
      · rw [hen] at q2; cases q2
      · rcases List.mem_cons.mp hm with rfl | hm
        · rw [hT] at q2; cases q2
        · exact q3 hm
    have hfB : s'.heap.FunFrames (hideAll s'.heap (e :: T :: (env :: outer).filterMap (·.frame))) (env :: outer) := funFrames_hide ff fun v hv a ha => List.mem_cons_of_mem _ (List.mem_cons_of_mem _ (List.mem_filterMap.mpr ⟨v, hv, ha⟩))
    have hTB : (hideAll s'.heap (e :: T :: (env :: outer).filterMap (·.frame))).get? T = none := hideAll_none _ (List.mem_cons_of_mem _ (List.mem_cons_self ..))
    refine wpAny_noteFrame_onW (base := hideAll s'.heap (e :: T :: (env :: outer).filterMap (·.frame))) (a0 := a0) (cls := .type cls.name) hfr hfB hf ⟨oe, vs, T, oT, ts, he, hcl, hd, h1, hTB, hTe, hoT, hdT, h3⟩ (fun b o q => of_hideAll _ q) (hideAll_none _ (List.mem_cons_self ..)) fun h₂ hN => ?_
    obtain ⟨k1, k2, k3, k4⟩ := hN
    exact fin _ (fun b o q => of_hideAll _ q) (hideAll_none _ (List.mem_cons_self ..)) hB0 h₂ ⟨k1, hideAll_none _ (List.mem_cons_self ..), k2, k3⟩ k4

theorem EX.boot : ∀ (x : EX), bootBuiltins (Str.ofString x.name) = some (.type x.name)
  | .zde => by decide +kernel
  | .ofe => by decide +kernel
  | .te => by decide +kernel
  | .ve => by decide +kernel
  | .ae => by decide +kernel
theorem EX.sub : ∀ (x y : EX), isSubtype (.type x.name) (.type y.name) = pure (decide (x = y)) := by
  intro x y
  cases x <;> cases y <;> (rw [isSubtype_type]; kernel_rfl)
theorem EX.exc : ∀ (x : EX), isSubtype (.type x.name) (.type "BaseException") = pure true := by
  intro x
  cases x <;> (rw [isSubtype_type]; kernel_rfl)
theorem EX.notTup : ∀ (T : EX), isSubtype (.type ((Manifest.find? T.name).elim "type" fun x => x.metatype)) (.type "tuple") = pure false := by
  intro x
  cases x <;> (rw [isSubtype_type]; kernel_rfl)
end Mine
end
section
open PySem PySem.W PyProof.Rows
set_option linter.unusedVariables false
set_option linter.unusedSectionVars false
namespace Mine

section
variable {c : Cx} {O : OpsF} (OK : OpsOk c O) {k : Nat} {cal : Cal} {fname : Nat → Str} (CO : CallsOk c k cal fname) {frees : List Str} (hfree : ∀ x ∈ frees, c.mg x = none)

include OK CO hfree in
/-- x = e -/
theorem assign_val {A : Around} {s : Shared} {H : Hd} {fe : FE} {env : Env} {ks : List (Str × NameKind)} {ns : List Str} {st : Fs} {q : Bool} {e : PE} {ex : Expr} {i : Nat} {x : Str} {px' pos : Pos} {Q : Flow → Shared → Prop} {E : Value → Shared → Prop}
    (hks : env.scope.names = ks) (hm : Rm c q (k + 1) A s.heap) (F : Fm c (FrA A) ns env st fe H s.heap) (hlen : st.ρ.length = ns.length) (hx : nameAt ks ns i x = true) (he : encE frees fname ks ns e ex = true) (hsc : isSC e = false)
    (P : PostS c q A ns env fe st H (resS (pe O cal q st e).v st fun v st' => .next (st'.set i (.val v))) s Q E) : wpAny c.M A (exec (.Assign [.Name x px'] ex pos) env) Q E s := by
  obtain ⟨h1, h2, h3⟩ := nameAt_of hks hx
  have I := pe_sound OK CO hfree e he hks hm F hlen
  have plain : swapsWith ex (some (.Name x px')) pos.line env = pure false → wpAny c.M A (exec (.Assign [.Name x px'] ex pos) env) Q E s := fun hsw => by
    refine wpAny_Assign_Name (PostS.resK F hlen I.v P fun v σ₁ _ w H₁ s₁ N₁ r₁ P₁ => ?_) hsw
    exact nx_store N₁ h1 h3 h2 r₁ fun s' N N' => P₁ H₁ s' N'
  cases hc : isComp e with
  | false => exact plain (swaps_no he hc _ _ _)
  | true =>
    cases e <;> first | (simp [isComp] at hc; done) | (simp [isSC] at hsc; done) | skip
    rename_i caps elt src conds
    rw [ec_comp] at he
    obtain ⟨e', y, py, it, ifs, scope, pos', rfl, hz⟩ := onLC_eq he
    replace he := hz; clear hz
    all_goals
      have hsw : ∃ b, swapsWith (.ListComp e' [⟨.Name y py, it, ifs, 0⟩] scope pos') (some (.Name x px')) pos.line env = pure b := ⟨_, rfl⟩
      obtain ⟨b, hsw⟩ := hsw
      cases b with
      | false => exact plain hsw
      | true =>
        simp only [Bool.and_eq_true] at he
        obtain ⟨⟨⟨⟨e1, e0⟩, e2⟩, e3⟩, e4⟩ := he
        have e0 : isSetd src = false := by simpa using e0
        simp only [qe_comp, PR.of] at P
        cases q with
        | false => exact P.elim
        | true =>
          have X := (pe_sound OK CO hfree src e1 hks hm F hlen).v
          cases hl : (pe O cal true st src).v with
          | exc z σ₁ =>
            rw [hl] at P X
            rw [exec_Assign_Name_used _ _ _ _ hsw]
            have K := compOk_of (ns := ns) (caps := caps) hks e2
            obtain ⟨cl, hclos, hcl1, hcl2⟩ := closureFor_ok (env := env) (scope := scope) fun y hy => by
              obtain ⟨cc, _, e, _⟩ := F.cl y (K.free y hy)
              rw [e]; rfl
            refine wpAny_bind (wpAny_standAt (wpAny_bind ?_))
            show wpAny _ A (do let _ ← comprehension (.ListComp e' [⟨.Name y py, it, ifs, 0⟩] scope pos') scope env _ (newList []) false (eval it env) (some (assign (.Name x px') env))) _ _ s
            refine wpAny_bind (wpAny_mono (wpAny_comprehension_free (use := some (assign (.Name x px') env)) (Q := fun _ s' => Q .next s') rfl (encE_notSet e1 e0 env) hclos K.kind K.loc (X _ _ ⟨P.1, fun e H' sr s' x Y => P.2 H' sr e s' (.of_ss F hlen x) Y⟩)) (fun _ s' hq => wpAny_pure (wpAny_pure hq)) fun _ _ e => e)
          | stuck => rw [hl] at P; exact P.elim
          | ok a σ₁ =>
            rw [hl] at P X
            simp only [ER.bind] at P
            cases hi : O.items (derefS st.ρ σ₁ a) with
            | none => rw [hi] at P; exact P.elim
            | some l =>
              rw [hi] at P
              simp only [onItems] at P
              split at P
              · rename_i ys hf
                have K := compOk_of (ns := ns) (x := y) (caps := caps) hks e2
                have T : TurnOk c true (k + 1) A ns env (st.at σ₁) fe scope y caps e' ifs _ := comp_turn (O := O) (cal := cal) (elt := elt) (conds := conds) (relab_eq hks F.kind) hlen (fun a b c d => pe_sound OK CO hfree elt e3 a b c d) (fun a b c d => ptests_sound OK CO hfree conds e4 a b c d)
                obtain ⟨cl, hclos, hcl1, hcl2⟩ := closureFor_ok (env := env) (scope := scope) fun y hy => by
                  obtain ⟨cc, _, e, _⟩ := F.cl y (K.free y hy)
                  rw [e]; rfl
                rw [exec_Assign_Name_used _ _ _ _ hsw]
                refine wpAny_bind (wpAny_standAt (wpAny_bind ?_))
                show wpAny _ A (do let _ ← comprehension (.ListComp e' [⟨.Name y py, it, ifs, 0⟩] scope pos') scope env _ (newList []) false (eval it env) (some (assign (.Name x px') env))) _ _ s
                refine wpAny_bind (wpAny_mono (wpAny_comprehension_free (use := some (assign (.Name x px') env)) (Q := fun _ s' => Q .next s') rfl (encE_notSet e1 e0 env) hclos K.kind K.loc (X _ _ fun xv H₁ s₁ x₁ r₁ => ?_)) (fun _ s' hq => wpAny_pure (wpAny_pure hq)) fun _ _ e => e)
                have F₁ := F.ss x₁
                have N₁ := Nx.of_ss F hlen x₁
                refine OK.items (hm.nf x₁.nf) rfl F₁.hlt (RepO.derefS F₁ hlen r₁) hi _ _ fun I fp PP St h' tk hk hI hfI hl _ hsz W hst hP => ?_
                refine comp_core (RR := fun acc C => compPost c.M A E (some (assign (.Name x px') env)) (fun _ s' => Q .next s') acc C) (s₁ := s₁) (st := st.at σ₁) (hm.nf x₁.nf) F₁ hlen K hcl1 hcl2 ⟨_, _, rfl⟩ hk hI hl hfI W hst hsz hP hf T ?_
                intro D C h'' tk' m' vs hD hC hDC hn hl hr hkv
                have k2 : Kh (FrA A) s₁.heap h'' := (Kh.of_keeps hk).trans' hkv fun b o e z => by rw [z, hI] at e; cases e
                have kp2 : Kp A s₁ { s₁ with heap := h'', toks := tk' } := ⟨h'', tk', rfl, k2⟩
                have hDs : s₁.heap.get? D = none := none_back (Kh.of_keeps (F := fun _ => False) hk) hD
                have hCs : s₁.heap.get? C = none := none_back (Kh.of_keeps (F := fun _ => False) hk) hC
                show wpAny _ A (assign (.Name x px') env (.ref D)) _ _ _
                refine wpAny_assign_Name ?_
                obtain ⟨oC, esC, epC, eC, dC, rC⟩ := id hn
                have live : Live (H₁.add fun b => b = C) h'' := fun b z => by
                  rcases z with z | rfl
                  · obtain ⟨o, e⟩ := F₁.hlt b z
                    obtain ⟨sl, q⟩ := (k2 b o e).2
                    exact ⟨_, q⟩
                  · exact ⟨oC, eC⟩
                have FC := F₁.hide k2 (H₂ := H₁.add fun b => b = C) (fun b z => .inl z) (fun b z => z.imp id fun (z : b = C) => by rw [z]; exact hCs) rfl rfl live
                have rep : Rep (vis h'' (H₁.add fun b => b = C)) (.ref D) (.lst ys) := by
                  simp only [Rep]
                  obtain ⟨o, n, e, c1, d1, f1⟩ := hl
                  refine ⟨Nat.le_trans (mapF_length hf) hsz, D, vs, n, rfl, ⟨fun z => ?_, o, e, c1, d1, f1, .inl rfl, fun ⟨_, z⟩ => by cases z⟩, RepL.mono (vis_hide (H := H₁.add fun b => b = C) (H' := H₁.add fun b => b = C ∨ b = D ∨ b = I) (fun b z => z.elim .inl fun z => .inr (.inl z)) fun _ _ e => e) hr⟩
                  rcases z with z | z
                  · obtain ⟨o', e'⟩ := F₁.hlt D z
                    rw [hDs] at e'; cases e'
                  · exact hDC z
                have cellne : ∀ y cc, env.kindOf y = some .cell → env.cells.lookup y = some cc → cc ≠ C := fun y cc qk q z => by
                  obtain ⟨o', e'⟩ := F₁.hlt cc (F₁.hc y cc qk q).1
                  rw [z, hCs] at e'; cases e'
                have locne : env.locals ≠ C := fun z => by
                  obtain ⟨o', e'⟩ := F₁.hlt _ F₁.hl
                  rw [z, hCs] at e'; cases e'
                refine wp_store (t := .val (.lst ys)) FC h1 h3 h2 rep fun h₄ tk₄ F₄ kv₄ nf₄ ⟨sa, hsa, hsb⟩ => ?_
                have hCa : C ≠ sa := fun z => by
                  rcases hsa with q | ⟨y, qk, q⟩
                  · exact locne (q ▸ z.symm)
                  · exact cellne y sa qk q z.symm
                have hn₄ : h₄.Ns C m' := ⟨oC, esC, epC, (hsb.2 C hCa).trans eC, dC, rC⟩
                refine ⟨m', hn₄, fun h₅ hs₅ => P H₁ _ (N₁.trans ?_)⟩
                have nlC : ∀ vs, ¬ IsL h₄ C vs := not_isL_ns hn₄
                have hHC : ¬ H₁.p C := fun z => by
                  obtain ⟨o', e'⟩ := F₁.hlt C z
                  rw [hCs] at e'; cases e'
                have hfeC : fe.h.get? C = none := by
                  cases q : fe.h.get? C with
                  | none => rfl
                  | some o =>
                    obtain ⟨o', e'⟩ := F₁.keep.nw (fun b w => F₁.hlt b (F₁.hle b (F₁.wsub b w))) q
                    rw [hCs] at e'; cases e'
                have F₅ := F₄.drop (a := C) (h' := h₅) (fun b o hb e => (hs₅.2 b hb).trans e) hfeC locne cellne nlC F₁.hle hHC (fun n e => hHC (F₁.sto.hidden e))
                refine ⟨⟨h₅, tk₄, rfl⟩, fun b o e => ?_, fun b z => .inl z, fun b o nb e => ?_, fun b o e nf => ?_, fun _ _ e => e, F₅, by simpa using hlen, rfl, rfl⟩
                · have hb : b ≠ C := fun z => by rw [z, hCs] at e; cases e
                  by_cases hHb : H₁.p b
                  · exact F₅.hlt b hHb
                  · obtain ⟨sl, q⟩ := (k2 b o e).2
                    obtain ⟨sl', q'⟩ := (kv₄ b _ (fun z => z.elim hHb hb) q).2
                    exact ⟨_, (hs₅.2 b hb).trans q'⟩
                · have hb : b ≠ C := fun z => by rw [z, hCs] at e; cases e
                  obtain ⟨p1, sl, p2⟩ := k2 b o e
                  have nb' : ¬ (H₁.add fun b => b = C).p b := fun z => z.elim nb hb
                  refine ⟨fun f => (hs₅.2 b hb).trans ((kv₄ b o nb' (p1 f)).1 f), ?_⟩
                  obtain ⟨sl', q'⟩ := (kv₄ b _ nb' p2).2
                  exact ⟨sl', (hs₅.2 b hb).trans q'⟩
                · have hb : b ≠ C := fun z => by rw [z, hCs] at e; cases e
                  obtain ⟨o', e', n'⟩ := (k2.nf.trans nf₄) b o e nf
                  exact ⟨o', (hs₅.2 b hb).trans e', n'⟩
              · exact P.elim
end
end Mine
end
section
open PySem PySem.W PyProof.Rows
set_option linter.unusedVariables false
set_option linter.unusedSectionVars false
set_option maxHeartbeats 2000000
namespace Mine

theorem Nx.mark {c : Cx} {A : Around} {x : Option Value} {ns : List Str} {env : Env} {fe : FE} {st st' : Fs} {H H' : Hd} {s s' : Shared} (N : Nx c (A.mark x) ns env fe st H s st' H' s') : Nx c A ns env fe st H s st' H' s' := ⟨N.rest, N.lv, N.hid, N.kv, N.nf, N.mx, N.fm, N.len, N.lo, N.n0⟩
theorem Rt.mark {c : Cx} {A : Around} {x : Option Value} {ns : List Str} {env : Env} {fe : FE} {st : Fs} {s s' : Shared} {σ' : Store} {w : Value} {v : AV} (N : Rt c (A.mark x) ns env fe st s σ' w v s') : Rt c A ns env fe st s σ' w v s' := ⟨N.rest, N.lv, N.nf, N.back⟩

theorem rep_not_hidden {h : Heap} {H : Hd} {b : Addr} : ∀ {x : AV}, (∀ n, x ≠ .ptr n) → (∀ k ys, x ≠ .itr k ys) → x ≠ .any → Rep (vis h H) (.ref b) x → ¬ H.p b ∧ ∃ o, h.get? b = some o
  | .none, _, _, _, r => by simp [Rep] at r
  | .bool _, _, _, _, r => by simp [Rep] at r
  | .int _, _, _, _, r => by simp [Rep] at r
  | .float _, _, _, _, r => by simp [Rep] at r
  | .str _, _, _, _, r => by simp [Rep] at r
  | .bytes _, _, _, _, r => by simp [Rep] at r
  | .type _, _, _, _, r => by simp [Rep] at r
  | .fn _, _, _, _, r => by simp [Rep] at r
  | .ptr n, h, _, _, _ => absurd rfl (h n)
  | .itr k ys, _, h, _, _ => absurd rfl (h k ys)
  | .any, _, _, h, _ => absurd rfl h
  | .range _ _ _, _, _, _, r => by
    simp only [Rep] at r
    obtain ⟨_, _, _, _, e, v⟩ := r
    cases e; exact ⟨v.1, let ⟨o, q, _⟩ := v.2; ⟨o, q⟩⟩
  | .dict _, _, _, _, r => by
    simp only [Rep] at r
    obtain ⟨_, _, _, e, v, _⟩ := r
    cases e; exact ⟨v.1, let ⟨o, q, _⟩ := v.2; ⟨o, q⟩⟩
  | .set _ _, _, _, _, r => by
    simp only [Rep] at r
    obtain ⟨_, _, _, _, e, v, _⟩ := r
    cases e; exact ⟨v.1, let ⟨o, q, _⟩ := v.2; ⟨o, q⟩⟩
  | .sm _ _, _, _, _, r => by
    simp only [Rep] at r
    obtain ⟨_, _, _, _, e, v, _⟩ := r
    cases e; exact ⟨v.1, let ⟨o, q, _⟩ := v.2; ⟨o, q⟩⟩
  | .tup _, _, _, _, r => by
    simp only [Rep] at r
    obtain ⟨_, _, _, _, e, v, _⟩ := r
    cases e; exact ⟨v.1, let ⟨o, q, _⟩ := v.2; ⟨o, q⟩⟩
  | .lst _, _, _, _, r => by
    simp only [Rep] at r
    obtain ⟨_, _, _, _, e, v, _⟩ := r
    cases e; exact ⟨v.1, let ⟨o, q, _⟩ := v.2; ⟨o, q⟩⟩

theorem ometh_slot : ∀ (m : OMI), Slot "list" (Str.ofString m.name) ("list." ++ m.name)
  | .append => slot_list_append
  | .insert => PySem.F.slot_list_insert
  | .remove => PySem.F.slot_list_remove
theorem ometh_type : ∀ (m : OMI), typeOf (.builtin ("list." ++ m.name)) = pure (.type "method_descriptor")
  | .append => by with_unfolding_all rfl
  | .insert => PySem.F.type_list_insert
  | .remove => PySem.F.type_list_remove

section
variable {c : Cx} {A : Around} {ns : List Str} {env : Env} {fe : FE} {H H₁ : Hd} {s s₁ : Shared}

end

theorem EX.facts {y : EX} (h : y = .te ∨ y = .ve) : ∃ nid iid, ExcCallFacts y.name nid iid ∧ ExcRaiseFacts y.name := by
  rcases h with rfl | rfl
  · exact ⟨_, _, PySem.F.excCall_TypeError, PySem.F.excRaise_TypeError⟩
  · exact ⟨_, _, PySem.F.excCall_ValueError, PySem.F.excRaise_ValueError⟩
theorem xp_made {A : Around} {s : Shared} {h' : Heap} {e : Addr} {y : EX} {args : List Value} (m : Heap.MadeExc s.heap h' e y.name args) : Xp A s { s with heap := h' } (.ref e) y := by
  obtain ⟨t, ht, _, _⟩ := m.there
  exact ⟨e, .ref t, rfl, ⟨h', s.toks, rfl, Kh.of_keeps m.keeps⟩, m.new, .inl ⟨_, _, ht, rfl, rfl, rfl, rfl⟩⟩
theorem pos_name {x : Str} {p : Pos} : (Expr.Name x p).pos = p := rfl
theorem pos_tuple {l : List Expr} {k : Nat} {p : Pos} : (Expr.Tuple l k p).pos = p := rfl
theorem swapped_two {frees : List Str} {fname : Nat → Str} {ks : List (Str × NameKind)} {ns : List Str} {env : Env} {x y : Str} {px py : Pos} {k1 tp ea eb k2 vp} {a b : PE} (hks : env.scope.names = ks) (hk : env.scope.kind = .function) (kx : env.kindOf x = some .local) (ky : env.kindOf y = some .local) (hpl : px.line = py.line) (hxy : x ≠ y)
    (hff : [ea, eb].all (foldedForSure 8) = false) (hca : [ea, eb].all (constantsAlone 8) = false) (hea : encE frees fname ks ns a ea = true) (heb : encE frees fname ks ns b eb = true) : swappedStores [.Tuple [.Name x px, .Name y py] k1 tp] (.Tuple [ea, eb] k2 vp) env = pure (some [x, y]) := by
  have bk : env.blockKind = .function := by unfold Env.blockKind; rw [hk]; rfl
  have na : ∀ z w, ea ≠ .Starred z w := encE_notStar hea
  have nb : ∀ z w, eb ≠ .Starred z w := encE_notStar heb
  have hs : ([ea, eb].any fun | .Starred .. => true | _ => false) = false := by
    have h1 : ∀ e : Expr, (∀ z w, e ≠ .Starred z w) → (match e with | .Starred .. => true | _ => false) = false := fun e h => by
      cases e <;> first | rfl | exact absurd rfl (h _ _)
    show (_ || (_ || false)) = false
    rw [Bool.or_eq_false_iff, Bool.or_false]
    exact ⟨h1 ea na, h1 eb nb⟩
  have hy : (y == x) = false := by simpa using fun e => hxy e.symm
  unfold swappedStores
  simp only [List.length_cons, List.length_nil, bk, List.filterMap_cons, List.filterMap_nil, kx, ky, List.head?_cons, Option.map_some, Option.getD_some, pos_name, pos_tuple, hpl, beq_self_eq_true, Bool.and_self, if_true]
  simp only [Nat.zero_add, Nat.reduceAdd, beq_self_eq_true, Bool.true_or, Bool.not_true, bne_self_eq_false, Bool.or_self, if_false, Bool.false_eq_true, hs, List.length_cons, List.length_nil, hff, hca]
  have he : ([x, y] : List Str).eraseDups = [x, y] := by
    rw [List.eraseDups_cons]
    have : [y].filter (fun b => !(b == x)) = [y] := by simp [hy]
    rw [this] <;> rfl
  simp [he]

theorem owned_go {M : Model} {A : Around} {E : Value → Shared → Prop} {s : Shared} {tgt : Expr} {I : Addr} {v : Value} {o : Obj} {n : String} {Q : Unit → Shared → Prop} (ho : s.heap.get? I = some o) (hc : o.cls = .type n)
    (hn : ["enumerate", "zip", "dict_itemiterator", "dict_reverseitemiterator", "odict_iterator", "itertools.zip_longest", "itertools.pairwise"].contains n = false) (h : Q () s) : wpAny M A (letOwnedTupleGo tgt (.ref I) v) Q E s := by
  have core : ∀ a, wpAny M A (do
      let o ← load I
      match o.cls, o.data with
      | .type n, .fields vs =>
        if ["enumerate", "zip", "dict_itemiterator", "dict_reverseitemiterator", "odict_iterator", "itertools.zip_longest", "itertools.pairwise"].contains n && vs[0]? == some (rawInt a) then
          rule "for.unpacks-the-owned-tuple"
          updateField I 0 .none
      | _, _ => pure () : Sem Unit) Q E s := fun a => by
    refine wpAny_bind (wpAny_load ho ?_)
    rw [hc]
    split
    · rename_i n' vs e1 e2
      cases e1
      rw [hn, Bool.false_and, if_neg (by decide)]
      exact wpAny_pure h
    · exact wpAny_pure h
  unfold letOwnedTupleGo
  cases tgt <;> first | exact wpAny_pure h | (cases v <;> first | exact wpAny_pure h | exact core _)

theorem unpack_pair {prog : Program} {w : World} {A : Around} {E : Value → Shared → Prop} {s : Shared} {t : Addr} {v0 v1 : Value} {Q : List Value → Shared → Prop} (hh : A.handled = none) (ht : s.heap.IsTuple t #[v0, v1])
    (hQ : ∀ h', Heap.ExtBut s.heap.objs.size s.heap h' → Q [v0, v1] { s with heap := h' }) : wpAny (model prog w) A (unpackItems (.ref t) 2 none) Q E s := by
  have e : (#[v0, v1] : Array Value).size = 2 := rfl
  have := wpAny_unpackItems_tuple (prog := prog) (w := w) (E := E) (items := #[v0, v1]) (Q := Q) hh ht hQ
  rw [e] at this
  exact this
theorem assign_pair {c : Cx} {A : Around} {ns : List Str} {env : Env} {fe : FE} {st : Fs} {H : Hd} {s : Shared} {x y : Str} {i j : Nat} {v0 v1 : Value} {a0 a1 : AV} {Q : Unit → Shared → Prop} {E : Value → Shared → Prop} (F : Fm c (FrA A) ns env st fe H s.heap) (hlen : st.ρ.length = ns.length) (hij : i ≠ j)
    (x1 : ns[i]? = some x) (x2 : env.kindOf x = some .local ∨ env.kindOf x = some .cell) (x3 : OneName ns i x) (y1 : ns[j]? = some y) (y2 : env.kindOf y = some .local ∨ env.kindOf y = some .cell) (y3 : OneName ns j y)
    (r0 : Rep (vis s.heap H) v0 a0) (r1 : Rep (vis s.heap H) v1 a1) (h : ∀ s', Nx c A ns env fe st H s (st.sets [i, j] [a0, a1]) H s' → Q () s') : wpAny c.M A (assignInOrder (([x, y].reverse).map fun n => bindName env n) [v0, v1].reverse) Q E s := by
  show wpAny c.M A (holding [v0] (bindName env y v1) >>= fun _ => (holding [] (bindName env x v0) >>= fun _ => pure ())) Q E s
  refine wpAny_bind (wpAny_holding (wpAny_bindName (nx_store (Nx.of_kp F hlen (Kp.refl _ _)) y1 y3 y2 r1 fun s₂ N3 N3' => ?_)))
  refine wpAny_bind (wpAny_holding (wpAny_bindName (nx_store N3 x1 x3 x2 (Rep.mono N3'.vis r0) fun s₃ N4 _ => wpAny_pure (h s₃ ?_))))
  have e : ((st.set j (.val a1)).set i (.val a0)) = st.sets [i, j] [a0, a1] := by
    simp only [Fs.sets, Fs.set]
    rw [List.set_comm _ _ (Ne.symm hij)]
  rw [← e]; exact N4
section
variable {c : Cx} {O : OpsF} (OK : OpsOk c O) {k : Nat}
include OK
/-- a loop -/
theorem for_core {A : Around} {s : Shared} {H : Hd} {fe : FE} {env : Env} {ns : List Str} {st : Fs} {v : AV} {σ : Store} {l : List AV} {tgt it : Expr} {body' : List Stmt} {pos : Pos} {f : AV → Fs → FR} {Q : Flow → Shared → Prop} {E : Value → Shared → Prop}
    (hm : Rm c true (k + 1) A s.heap) (F : Fm c (FrA A) ns env st fe H s.heap) (hlen : st.ρ.length = ns.length) (hns : ∀ x, foldedSetIterable it env x = pure x) (T : Ev c true A st.lo st.σ H (eval it env) (.ok (.av v) σ) s) (hi : O.items v = some l)
    (P : PostS c true A ns env fe st H (forF f l (st.at σ)) s Q E)
    (turn' : ∀ item w st' H' s', Nf s.heap s'.heap → Fm c (FrA A) ns env st' fe H' s'.heap → st'.ρ.length = ns.length → Rep (vis s'.heap H') w item → f item st' ≠ .stuck → ∀ (Q' : Unit → Shared → Prop) (E' : Value → Shared → Prop),
      (∀ st₃ H₃ s₃, Nx c A ns env fe st' H' s' st₃ H₃ s₃ → (∀ Q E, PostS c true A ns env fe st₃ H₃ (f item st') s₃ Q E → wpAny c.M A (execs body' env) Q E s₃) → Q' () s₃) → wpAny c.M A (assign tgt env w) Q' E' s') :
    wpAny c.M A (exec (.For tgt it body' [] pos) env) Q E s := by
  refine wpAny_For (T _ _ fun va H₁ s₁ x₁ r₁ => ?_) hns
  have N0 := Nx.of_ss F hlen x₁
  have F₁ := N0.fm
  have P₁ := P.nx N0
  have r₁ : Rep (vis s₁.heap H₁) va v := r₁
  refine OK.items (hm.nf x₁.nf) rfl F₁.hlt (.of r₁) hi _ _ fun I fp PP St h' tk hk hI hfI hl hfp hsz W hst hP => ?_
  have hIfe : fe.h.get? I = none := by
    cases q : fe.h.get? I with
    | none => rfl
    | some o =>
      obtain ⟨o', e'⟩ := F₁.keep.nw (fun b w => F₁.hlt b (F₁.hle b (F₁.wsub b w))) q
      rw [hI] at e'; cases e'
  have hHI : ¬ H₁.p I := fun z => by
    obtain ⟨o', e'⟩ := F₁.hlt I z
    rw [hI] at e'; cases e'
  have vnot : ∀ b, va = .ref b → ¬ H₁.p b ∧ ∃ o, s₁.heap.get? b = some o := fun b e => by
    subst e
    exact rep_not_hidden (OK.itemsR hi).1 (OK.itemsR hi).2.1 (OK.itemsR hi).2.2 r₁
  have kpI : Kp A s₁ { s₁ with heap := h', toks := tk } := ⟨h', tk, rfl, Kh.of_keeps hk⟩
  have N0 : Nx c A ns env fe (st.at σ) H₁ s₁ (st.at σ) H₁ { s₁ with heap := h', toks := tk } := Nx.of_kp F₁ hlen kpI
  refine codeAny_forLoop_any (fun m s' => ∃ j st' H', m = l.length + 1 - j ∧ j ≤ l.length ∧ Nx c A ns env fe (st.at σ) H₁ s₁ st' H' s' ∧ ¬ H'.p I ∧ St j s'.heap ∧
    PostS c true A ns env fe (st.at σ) H₁ (forF f (l.drop j) st') s₁ Q E) ?_ (l.length + 1)
    ⟨0, st.at σ, _, rfl, Nat.zero_le _, N0, hHI, hst, by simpa using P₁⟩
  rintro m s' ⟨j, st', H', rfl, hj, N, hHI', hst', P'⟩
  obtain ⟨oI, fsI, eI, dI, cI⟩ := W.fld j _ hst'
  obtain ⟨hs', ts', rfl⟩ := N.rest
  dsimp only at *
  have back : ∀ {h₂ tk₂}, (∀ b o, b ≠ I → hs'.get? b = some o → h₂.get? b = some o) → Nx c A ns env fe (st.at σ) H₁ s₁ st' H' { s₁ with heap := h₂, toks := tk₂ } := fun {h₂ tk₂} hk₂ => by
    have F₂ := N.fm.touchV (a := I) (h' := h₂) hk₂ hIfe eI dI cI hHI'
    exact ⟨⟨_, _, rfl⟩, fun b o e => by
      have hb : b ≠ I := fun z => by rw [z, hI] at e; cases e
      obtain ⟨o', e'⟩ := N.lv b o e
      exact ⟨o', hk₂ b o' hb e'⟩, N.hid, fun b o nb e => by
      have hb : b ≠ I := fun z => by rw [z, hI] at e; cases e
      obtain ⟨p1, sl, p2⟩ := N.kv b o nb e
      exact ⟨fun f => hk₂ b _ hb (p1 f), sl, hk₂ b _ hb p2⟩, fun b o e nf => by
      have hb : b ≠ I := fun z => by rw [z, hI] at e; cases e
      obtain ⟨o', e', n'⟩ := N.nf b o e nf
      exact ⟨o', hk₂ b o' hb e', n'⟩, N.mx, F₂, N.len, N.lo, N.n0⟩
  by_cases hlt : j < l.length
  · obtain ⟨item, hitem⟩ : ∃ y, l[j]? = some y := ⟨l[j], by simp [hlt]⟩
    have hdrop : l.drop j = item :: l.drop (j + 1) := by
      rw [List.drop_eq_getElem_cons hlt]
      have : l[j] = item := by rw [List.getElem?_eq_getElem hlt] at hitem; exact Option.some.inj hitem
      rw [this]
    rw [hdrop] at P'
    simp only [forF] at P'
    refine W.item j _ _ _ hlt hst' fun vi h₂ tk₂ hPv hst₂ hk₂ hI₂ => ?_
    dsimp only
    have N₂ := back (tk₂ := tk₂) hk₂
    obtain ⟨oI₂, fsI₂, eI₂, dI₂, cI₂⟩ := W.fld (j + 1) _ hst₂
    have rit : Rep (vis h₂ H') vi item := Rep.mono N₂.vis (hP j vi item hPv hitem)
    obtain ⟨oN, nN, eN, cN, hN⟩ := W.nt (j + 1) _ hst₂
    refine owned_go eN cN hN ?_
    refine turn' item vi st' H' { s₁ with heap := h₂, toks := tk₂ } (x₁.nf.trans N₂.nf) N₂.fm N₂.len rit (fun z => by rw [z] at P'; exact P') _ _ fun st₃ H₃ s₃ N₃ IH => ?_
    have N13 := N₂.trans N₃
    have nextI : ∀ st₄ H₄ s₄, Nx c A ns env fe st₃ H₃ s₃ st₄ H₄ s₄ → PostS c true A ns env fe (st.at σ) H₁ (forF f (l.drop (j + 1)) st₄) s₁ Q E →
        ∃ m, m < l.length + 1 - j ∧ ∃ j st' H', m = l.length + 1 - j ∧ j ≤ l.length ∧ Nx c A ns env fe (st.at σ) H₁ s₁ st' H' s₄ ∧ ¬ H'.p I ∧ St j s₄.heap ∧
          PostS c true A ns env fe (st.at σ) H₁ (forF f (l.drop j) st') s₁ Q E := by
      intro st₄ H₄ s₄ N₄ P₄
      have N24 := N₃.trans N₄
      refine ⟨l.length + 1 - (j + 1), by omega, j + 1, st₄, H₄, rfl, hlt, N13.trans N₄, fun z => ?_, W.frame _ _ _ hst₂ fun b o hb e => ?_, P₄⟩
      · rcases N24.hid I z with z | z
        · exact hHI' z
        · dsimp only at z; rw [eI₂] at z; cases z
      · have nb : ¬ H'.p b := fun z => ?_
        exact ⟨fun hf => (N24.kv b o nb e).1 (.inr hf), (N24.kv b o nb e).2⟩
        rcases hfp b hb with rfl | hv'
        · exact hHI' z
        · obtain ⟨q1, o', q2⟩ := vnot b hv'
          rcases N.hid b z with z | z
          · exact q1 z
          · rw [q2] at z; cases z
    cases hb : f item st' with
    | next st₄ => rw [hb] at IH P'; exact IH _ _ fun H₄ s₄ N₄ => nextI st₄ H₄ s₄ N₄ P'
    | cont st₄ => rw [hb] at IH P'; exact IH _ _ fun H₄ s₄ N₄ => nextI st₄ H₄ s₄ N₄ P'
    | brk st₄ => rw [hb] at IH P'; exact IH _ _ fun H₄ s₄ N₄ => P' _ _ (N13.trans N₄)
    | ret v σ' => rw [hb] at IH P'; exact IH _ _ (P'.nx (fr := .ret v σ') N13)
    | exc _ _ => rw [hb] at P'; exact P'.elim
    | stuck => rw [hb] at P'; exact P'.elim
  · have hjl : j = l.length := by omega
    subst hjl
    rw [List.drop_length] at P'
    simp only [forF] at P'
    exact W.done _ _ _ hst' fun h₂ tk₂ hk₂ => wpAny_execs_nil (P' H' _ (back hk₂))
end
end Mine
end
section
open PySem PySem.W PyProof.Rows
set_option linter.unusedVariables false
set_option linter.unusedSectionVars false
namespace Mine
theorem IK.nt (k : IK) : ["enumerate", "zip", "dict_itemiterator", "dict_reverseitemiterator", "odict_iterator", "itertools.zip_longest", "itertools.pairwise"].contains k.cls = false := by cases k <;> decide +kernel
section
variable {c : Cx} {k : Nat}
end
end Mine
end
section
open PySem PySem.W PyProof.Rows
set_option linter.unusedVariables false
set_option linter.unusedSectionVars false
set_option maxHeartbeats 4000000
namespace Mine

theorem ownOf_eq {st : Fs} {i : Nat} {xs : List AV} (h : ownOf st i = some xs) : st.ρ[i]? = some (some (.own xs)) := by
  unfold ownOf at h
  split at h
  · rename_i ys e; cases h; exact e
  · cases h

section
variable {c : Cx} {O : OpsF} (OK : OpsOk c O) {k : Nat} {cal : Cal} {fname : Nat → Str} (CO : CallsOk c k cal fname) {frees : List Str} (hfree : ∀ x ∈ frees, c.mg x = none)
include OK CO hfree

theorem ometh_ok {A : Around} {s : Shared} {H : Hd} {fe : FE} {env : Env} {ks : List (Str × NameKind)} {ns : List Str} {st : Fs} {xs : PEs} {m : OMI} {fz : Option Nat} {i : Nat} {sm : Stmt} {Q : Flow → Shared → Prop} {E : Value → Shared → Prop}
    (he : encS frees fname ks ns (.ometh i m xs fz) sm = true) (hks : env.scope.names = ks) (hm : Rm c true (k + 1) A s.heap) (F : Fm c (FrA A) ns env st fe H s.heap) (hlen : st.ρ.length = ns.length) (P : PostS c true A ns env fe st H (omethF O st i m (pes O cal true st xs)) s Q E) : wpAny c.M A (exec sm env) Q E s := by
  rw [es_ometh] at he
  obtain ⟨ex', pos, rfl, hz⟩ := onS_expr he
  replace he := hz; clear hz
  obtain ⟨o', n, apos, es, pos', rfl, hz⟩ := onMC_eq he
  replace he := hz; clear hz
  obtain ⟨x, px', rfl, hz⟩ := onE_name he
  replace he := hz; clear hz
  simp only [Bool.and_eq_true, Bool.not_eq_true', beq_iff_eq, decide_eq_true_eq] at he
  obtain ⟨⟨⟨⟨⟨⟨hx, hdb⟩, rfl⟩, hline⟩, hl20⟩, hemp⟩, hes⟩ := he
  obtain ⟨h1, h2, h3⟩ := nameAt_of hks hx
  refine wpAny_Expr_any ?_ (by unfold interactive; rw [F.kind]; rfl) rfl
  unfold omethF at P
  split at P
  case h_2 => exact P.elim
  rename_i ol σ hpes
  split at P
  case h_2 => exact P.elim
  rename_i l zs hpl hown
  split at P
  case h_2 => exact P.elim
  rename_i zs' hom
  have hρ := ownOf_eq hown
  obtain ⟨v, nv, hz, a, vs, rfl, ho, hisl, rr⟩ := F.vals i x _ h1 hρ
  obtain ⟨od, nd, ed, cd, dd, fd⟩ := id hisl
  refine wpAny_Call_method_lateS rfl (star_all hes hl20) (by simpa using hline) (wpAny_Name (nv.load F.kind ?_) hdb)
  have hTy : s.TypeIs (.ref a) "list" := hisl.isList.typeIs
  refine ⟨"list", "list." ++ m.name, emeth_plain, ometh_slot m, ometh_type m, hTy, fun b e => (by cases e; exact ⟨od, ed, fd⟩), ?_⟩
  refine Calls.callWith_builtin (star_plain (pos := pos') (env := env) hes) ?_
  cases es with
  | nil => simp at hemp
  | cons e es =>
    have hst : starEach (e :: es) env = (false, eval e env) :: starEach es env := starEach_cons (encEs_head hes)
    have S : wpAny c.M A (spliced (backTo pos' (starEach (e :: es) env))) (fun vs s' => wpAny c.M A (PySem.call (.builtin ("list." ++ m.name)) ([.ref a] ++ vs) []) (fun _ => Q .next) E s') E s := by
      refine pes_sound OK CO hfree xs hes hks hm F hlen ol σ hpes _ _ fun ws H₁ s₁ x₁ r₁ => ?_
      have N₁ := Nx.of_ss F hlen x₁
      have F₁ := N₁.fm
      obtain ⟨v', nv', _, a', vs', ev', ho', hisl', rr'⟩ := F₁.vals i x _ h1 hρ
      have ho1 : H₁.o i = some a := by rw [x₁.o]; exact ho
      rw [ho1] at ho'; cases ho'
      refine OK.ometh rfl (hm.nf x₁.nf) F₁.hlt hisl' hz rr' (plains_rep r₁ hpl) hom _ _ fun h' vs'' tk hl' hz' r' hs' => ?_
      exact P H₁ _ (nx_turn N₁ hρ ho1 hl' hz' r' hs')
    rw [hst] at S ⊢
    exact Calls.evalArgs_plain S

mutual
theorem px_sound : ∀ (p : PS) {q : Bool} {ks : List (Str × NameKind)} {ns : List Str} {st : Fs} {sm : Stmt} {env : Env}, encS frees fname ks ns p sm = true → env.scope.names = ks → env.frame = some env.locals → StOk c q k ns env st (exec sm env) (px O cal q st p)
  | .expr e, q, ks, ns, st, sm, env, he, hks, hef => fun A s fe H hm hA F hlen Q E P => by
    rw [es_expr] at he
    obtain ⟨ex, pos, rfl, hz⟩ := onS_expr he
    replace he := hz; clear hz
    simp only [Bool.and_eq_true, Bool.not_eq_true'] at he
    rw [qx_expr] at P
    refine wpAny_Expr_any ?_ (by unfold interactive; rw [F.kind]; rfl) (swaps_no he.1 he.2 _ _ _)
    exact PostS.resK F hlen (pe_sound OK CO hfree e he.1 hks hm F hlen).v P fun v σ₁ _ w H₁ s₁ N₁ _ P₁ => P₁ H₁ s₁ (Nx.of_kp N₁.fm N₁.len (Kp.refl _ _))
  | .assign i e, q, ks, ns, st, sm, env, he, hks, hef => fun A s fe H hm hA F hlen Q E P => by
    rw [es_assign] at he
    obtain ⟨x, px', ex, pos, rfl, hz⟩ := onA1_eq he
    replace he := hz; clear hz
    all_goals
      simp only [Bool.and_eq_true] at he
      rw [qx_assign] at P
      exact assign_val OK CO hfree hks hm F hlen he.1.1 he.1.2 (by simpa using he.2) P
  | .ownl i xs, q, ks, ns, st, sm, env, he, hks, hef => fun A s fe H hm hA F hlen Q E P => by
    rw [es_ownl] at he
    obtain ⟨x, px', ex', pos, rfl, hz⟩ := onA1_eq he
    replace he := hz; clear hz
    obtain ⟨es, pos', rfl, hz⟩ := onE_list he
    replace he := hz; clear hz
    all_goals
      simp only [Bool.and_eq_true] at he
      obtain ⟨h1, h2, h3⟩ := nameAt_of hks he.1
      rw [qx_ownl] at P
      split at P
      case h_2 => exact P.elim
      rename_i ol σ hpes
      split at P
      case h_2 => exact P.elim
      rename_i l hpl
      split at P
      case isFalse => exact P.elim
      rename_i hl100
      refine wpAny_Assign_Name ?_ rfl
      refine wpAny_List_spliced (pes_sound OK CO hfree xs he.2 hks hm F hlen ol σ hpes _ _ fun vs H₁ s₁ x₁ r₁ => ?_)
      have r₁ := plains_rep r₁ hpl
      refine ⟨by rw [r₁.length]; exact line_ok (by omega), ?_⟩
      exact nx_own (Nx.of_ss F hlen x₁) (Kp.push _) h1 h3 h2 (by omega) (Heap.get?_none_of_le (Nat.le_refl _)) ⟨_, _, Heap.get?_push_size _ rfl, rfl, rfl, rfl⟩ r₁ fun H' s' N => P H' s' N
  | .unpack2 i j a b, q, ks, ns, st, sm, env, he, hks, hef => fun A s fe H hm hA F hlen Q E P => by
    rw [es_unpack2] at he
    obtain ⟨tl, ex', pos, rfl, hz⟩ := onS_assign he
    replace he := hz; clear hz
    obtain ⟨t', rfl, hz⟩ := one?_eq he
    replace he := hz; clear hz
    obtain ⟨ts', k1, tp, rfl, hz⟩ := onE_tup he
    replace he := hz; clear hz
    obtain ⟨t1, t2, rfl, hz⟩ := two?_eq he
    replace he := hz; clear hz
    obtain ⟨es', k2, vp, rfl, hz⟩ := onE_tup he
    replace he := hz; clear hz
    obtain ⟨ea, eb, rfl, hz⟩ := two?_eq he
    replace he := hz; clear hz
    obtain ⟨x, px', rfl, hz⟩ := onNm_eq he
    replace he := hz; clear hz
    obtain ⟨y, py, rfl, hz⟩ := onNm_eq he
    replace he := hz; clear hz
    all_goals
      simp only [Bool.and_eq_true, Bool.not_eq_true', beq_iff_eq, beq_eq_false_iff_ne] at he
      obtain ⟨⟨⟨⟨⟨⟨⟨⟨⟨⟨hx, hy⟩, hij⟩, hlx⟩, hly⟩, hpl⟩, hxy⟩, hff⟩, hca⟩, hea⟩, heb⟩ := he
      obtain ⟨x1, x2, x3⟩ := nameAt_of hks hx
      obtain ⟨y1, y2, y3⟩ := nameAt_of hks hy
      rw [qx_unpack2] at P
      cases q with
      | false => exact P.elim
      | true =>
        simp only at P
        have kx : env.kindOf x = some .local := by show env.scope.names.lookup x = _; rw [hks]; exact hlx
        have ky : env.kindOf y = some .local := by show env.scope.names.lookup y = _; rw [hks]; exact hly
        have het : encE frees fname ks ns (.tup (.cons a (.cons b .nil))) (.Tuple [ea, eb] k2 vp) = true := by show encEs frees fname ks ns (.cons a (.cons b .nil)) [ea, eb] = true; simp [encEs, hea, heb]
        have hsw : swappedStores [.Tuple [.Name x px', .Name y py] k1 tp] (.Tuple [ea, eb] k2 vp) env = pure (some [x, y]) := swapped_two hks F.kind kx ky hpl hxy hff hca hea heb
        refine Assign_Tuple_swapped ?_ rfl hsw
        refine PostS.resK F hlen (pe_sound OK CO hfree _ het hks hm F hlen).v P fun v σ₁ _ w H₁ s₁ N₁ r₁ P₁ => ?_
        obtain ⟨x0, x1', rfl⟩ : ∃ x0 x1', v = .tup [x0, x1'] := by
          unfold unpackF at P₁
          split at P₁
          case h_2 => exact P₁.elim
          rename_i xs _
          split at P₁
          case isFalse => exact P₁.elim
          rename_i hl
          rcases xs with _ | ⟨x0, _ | ⟨x1', _ | ⟨x2, xr⟩⟩⟩
          · simp at hl
          · simp at hl
          · exact ⟨x0, x1', rfl⟩
          · simp at hl
        simp only [unpackF, List.length_cons, List.length_nil, if_true] at P₁
        simp only [Rep] at r₁
        obtain ⟨hz, ad, vs, n, rfl, ⟨nh, o, eo, co, dd, fd, _⟩, rr⟩ := r₁
        have ht : s₁.heap.IsTuple ad vs.toArray := ⟨o, eo, co, n, dd⟩
        rcases vs with _ | ⟨v0, _ | ⟨v1, _ | ⟨v2, vr⟩⟩⟩
        · simp [RepL] at rr
        · simp [RepL] at rr
        · have ht' : s₁.heap.IsTuple ad #[v0, v1] := ht
          have el : [x, y].length = 2 := rfl
          rw [el]
          refine unpack_pair (hm.hand rfl) ht' fun h' ext => ?_
          have kp : Kp A s₁ { s₁ with heap := h' } := ⟨h', s₁.toks, rfl, Kh.of_keeps fun b o e => ext b o (fun z => by rw [z] at e; exact absurd (Heap.lt_size e) (Nat.lt_irrefl _)) e⟩
          have N2 := Nx.of_kp N₁.fm N₁.len kp
          have rr := rr.kp kp
          simp only [RepL] at rr
          exact assign_pair N2.fm N2.len hij x1 x2 x3 y1 y2 y3 rr.1 rr.2.1 fun s' N => P₁ H₁ s' (N2.trans N)
        · simp [RepL] at rr
  | .aug i op e, q, ks, ns, st, sm, env, he, hks, hef => fun A s fe H hm hA F hlen Q E P => by
    rw [es_aug] at he
    obtain ⟨t', op', ex, pos, rfl, hz⟩ := onS_aug he
    replace he := hz; clear hz
    obtain ⟨x, px', rfl, hz⟩ := onE_name he
    replace he := hz; clear hz
    simp only [Bool.and_eq_true, Bool.not_eq_true', beq_iff_eq] at he
    obtain ⟨⟨⟨hx, hdb⟩, rfl⟩, hex⟩ := he
    obtain ⟨h1, h2, h3⟩ := nameAt_of hks hx
    rw [qx_aug] at P
    split at P
    case h_2 => exact P.elim
    rename_i a σ0 b σ hs hv
    have hρ : st.ρ[i]? = some (some (.val a)) := by
      unfold slotV at hs
      split at hs
      · rename_i v hv'; cases hs; exact hv'
      · cases hs
      · cases hs
    obtain ⟨v, nv, rv⟩ := F.vals i x _ h1 hρ
    have T := (pe_sound OK CO hfree e hex hks hm F hlen).v
    rw [hv] at T
    refine wpAny_AugAssign_Name (nv.load F.kind (T _ _ fun w H₁ s₁ x₁ r₁ => ?_))
    have N₁ := Nx.of_ss F hlen x₁
    have F₁ := N₁.fm
    have rv' : Rep (vis s₁.heap H₁) v a := Rep.mono (x₁.vis F.sto) rv
    have U := OK.inpl (op := op) (hm.nf x₁.nf) F₁.hlt (RepO.deref F₁.sto rv') (RepO.derefS F₁ hlen r₁)
    have U' := Ev.of_tr (lo := st.lo) F₁.sto F₁.hlt U
    have eS : ∀ (r : ER) (f : AV → Fs → FR), resS r st f = resS r (st.at σ) f := fun r f => by
      cases r with
      | ok v σ₂ => cases v <;> rfl
      | exc x σ₂ => rfl
      | stuck => rfl
    rw [eS] at P
    exact PostS.resK (st := st.at σ) F₁ hlen U' (P.nx N₁) fun v σ₂ _ w H₂ s₂ N₂ r₂ P₂ => nx_store N₂ h1 h3 h2 r₂ fun s' N N' => P₂ H₂ s' N'
  | .ometh i m xs fz, q, ks, ns, st, sm, env, he, hks, hef => fun A s fe H hm hA F hlen Q E P => by
    rw [qx_ometh] at P
    cases q with
    | false => exact P.elim
    | true =>
    cases fz with
    | none => exact ometh_ok OK CO hfree he hks hm F hlen P
    | some j =>
      simp only at P
      split at P
      · rename_i ys hj
        have hj := ownOf_eq hj
        obtain ⟨y, hy⟩ : ∃ y, ns[j]? = some y := by
          have : j < st.ρ.length := by
            rcases Nat.lt_or_ge j st.ρ.length with h | h
            · exact h
            · rw [List.getElem?_eq_none h] at hj; cases hj
          exact ⟨ns[j]'(by omega), by simp⟩
        obtain ⟨H', hH', hM', F'⟩ := F.freeze hy hj
        have N : Nx c A ns env fe st H s (st.set j (.val (.lst ys))) H' s := ⟨⟨_, _, rfl⟩, fun b o e => ⟨o, e⟩, fun b z => .inl (hH' b z), Kv.refl _ _ _, fun b o e nf => ⟨o, e, nf⟩, fun n a e => by rw [hM']; exact e, F', by simpa using hlen, rfl, rfl⟩
        exact ometh_ok OK CO hfree (fz := some j) he hks hm F' N.len (P.nx N)
      · exact P.elim
  | .ite t a b, q, ks, ns, st, sm, env, he, hks, hef => fun A s fe H hm hA F hlen Q E P => by
    rw [es_ite] at he
    obtain ⟨t', a', b', pos, rfl, hz⟩ := onS_iff he
    replace he := hz; clear hz
    simp only [Bool.and_eq_true] at he
    obtain ⟨⟨h1, h2⟩, h3⟩ := he
    have T := (pe_sound OK CO hfree t h1 hks hm F hlen).t
    rw [qx_ite] at P
    split at P
    · rename_i σ ht
      exact wpAny_If (T _ _ ht _ _ fun H₁ s₁ x₁ => pxs_sound a h2 hks hef A s₁ fe H₁ (hm.nf x₁.nf) hA (F.ss x₁) hlen Q E (P.nx (Nx.of_ss F hlen x₁)))
    · rename_i σ ht
      exact wpAny_If (T _ _ ht _ _ fun H₁ s₁ x₁ => pxs_sound b h3 hks hef A s₁ fe H₁ (hm.nf x₁.nf) hA (F.ss x₁) hlen Q E (P.nx (Nx.of_ss F hlen x₁)))
    · exact P.elim
  | .for_ i src body, q, ks, ns, st, sm, env, he, hks, hef => fun A s fe H hm hA F hlen Q E P => by
    rw [es_for_] at he
    obtain ⟨t', it, body', els, pos, rfl, hz⟩ := onS_fo he
    replace he := hz; clear hz
    obtain ⟨x, px', rfl, hz⟩ := onE_name he
    replace he := hz; clear hz
    obtain ⟨rfl, hz⟩ := nil?_eq he
    replace he := hz; clear hz
    all_goals
      simp only [Bool.and_eq_true, Bool.not_eq_true'] at he
      obtain ⟨⟨⟨hx, h0⟩, h4⟩, h5⟩ := he
      obtain ⟨h1, h2, h3⟩ := nameAt_of hks hx
      rw [qx_for_] at P
      split at P
      case h_2 => exact P.elim
      rename_i v σ hv
      have T := (pe_sound OK CO hfree src h4 hks hm F hlen).v
      rw [hv] at T
      split at P
      case h_2 => exact P.elim
      rename_i l hi
      refine for_core OK hm F hlen (encE_notSet h4 h0 env) T hi (f := fun x st => pxs O cal true (st.set i (.val x)) body) P ?_
      intro item w st' H' s' hnf F' hl' r _ Q' E' h
      refine wpAny_assign_Name (nx_store (Nx.of_kp F' hl' (Kp.refl _ _)) h1 h3 h2 r fun s₃ N13 N3 => ?_)
      exact h _ H' s₃ N3 fun Q E P => pxs_sound body h5 hks hef A s₃ fe H' (hm.nf (hnf.trans N3.nf)) hA N3.fm N3.len Q E P
  | .while_ n t body, q, ks, ns, st, sm, env, he, hks, hef => fun A s fe H hm hA F hlen Q E P => by
    rw [es_while_] at he
    obtain ⟨t', body', els, pos, rfl, hz⟩ := onS_wh he
    replace he := hz; clear hz
    obtain ⟨rfl, hz⟩ := nil?_eq he
    replace he := hz; clear hz
    all_goals
      simp only [Bool.and_eq_true] at he
      obtain ⟨h1, h2⟩ := he
      rw [qx_while_] at P
      refine wpAny_While ?_
      refine codeAny_whileLoop (fun m s' => ∃ st' H', Nx c A ns env fe st H s st' H' s' ∧ PostS c q A ns env fe st H (whileF (fun st => (pe O cal q st t).t) (fun st => pxs O cal q st body) m st') s Q E) ?_ n ⟨st, H, Nx.of_kp F hlen (Kp.refl _ _), P⟩
      rintro m s' ⟨st', H', N, P'⟩
      cases m with
      | zero => exact P'.elim
      | succ m =>
        have hm' := hm.nf N.nf
        have T := (pe_sound OK CO hfree t h1 hks hm' N.fm N.len).t
        simp only [whileF] at P'
        split at P'
        · rename_i σ ht
          refine T _ _ ht _ _ fun H₁ s₁ x₁ => ?_
          have N₁ := N.trans (Nx.of_ss N.fm N.len x₁)
          simp only [if_true]
          refine pxs_sound body h2 hks hef A s₁ fe H₁ (hm'.nf x₁.nf) hA N₁.fm N₁.len _ _ ?_
          cases hb : pxs O cal q (st'.at σ) body with
          | next st₂ => rw [hb] at P'; exact fun H₂ s₂ N₂ => ⟨m, by omega, st₂, H₂, N₁.trans N₂, P'⟩
          | cont st₂ => rw [hb] at P'; exact fun H₂ s₂ N₂ => ⟨m, by omega, st₂, H₂, N₁.trans N₂, P'⟩
          | brk st₂ => rw [hb] at P'; exact fun H₂ s₂ N₂ => P' _ _ (N₁.trans N₂)
          | ret v σ' => rw [hb] at P'; exact (P'.nx (fr := .ret v σ') N₁)
          | exc _ _ => rw [hb] at P'; exact P'.elim
          | stuck => rw [hb] at P'; exact P'.elim
        · rename_i σ ht
          refine T _ _ ht _ _ fun H₁ s₁ x₁ => ?_
          have N₁ := N.trans (Nx.of_ss N.fm N.len x₁)
          simp only [Bool.false_eq_true, if_false]
          exact wpAny_execs_nil (P' _ _ N₁)
        · exact P'.elim
  | .ret e, q, ks, ns, st, sm, env, he, hks, hef => fun A s fe H hm hA F hlen Q E P => by
    rw [es_ret] at he
    obtain ⟨o', pos, rfl, hz⟩ := onS_ret he
    replace he := hz; clear hz
    obtain ⟨ex, rfl, hz⟩ := opt?_eq he
    replace he := hz; clear hz
    rw [qx_ret] at P
    refine wpAny_Return_some (PostS.resK F hlen (pe_sound OK CO hfree e he hks hm F hlen).v P fun v σ₁ _ w H₁ s₁ N₁ r₁ P₁ => ?_)
    exact P₁ w s₁ (N₁.fm.rt r₁)
  | .retOwn i, q, ks, ns, st, sm, env, he, hks, hef => fun A s fe H hm hA F hlen Q E P => by
    rw [es_retOwn] at he
    obtain ⟨o', pos, rfl, hz⟩ := onS_ret he
    replace he := hz; clear hz
    obtain ⟨ex, rfl, hz⟩ := opt?_eq he
    replace he := hz; clear hz
    obtain ⟨x, px', rfl, hz⟩ := onE_name he
    replace he := hz; clear hz
    simp only [Bool.and_eq_true, Bool.not_eq_true', beq_iff_eq] at he
    rw [qx_retOwn] at P
    split at P
    case h_2 => exact P.elim
    rename_i xs hown
    obtain ⟨v, n, z, a, vs, rfl, ho, l, r⟩ := F.vals i x _ he.1 (ownOf_eq hown)
    obtain ⟨p, qq, nm, _⟩ := F.own i a ho
    refine wpAny_Return_some (wpAny_Name (n.load F.kind (P _ s ⟨⟨_, _, rfl⟩, fun b o e => ⟨o, e⟩, fun b o e n => ⟨o, e, n⟩, st, H, rfl, rfl, rfl, F, ?_⟩)) he.2)
    simp only [Rep]
    obtain ⟨o, n', e', c1, d1, f1⟩ := l
    refine ⟨z, a, vs, n', rfl, ⟨fun y => ?_, o, e', c1, d1, f1, .inl rfl, fun ⟨_, z⟩ => by cases z⟩, RepL.mono (vis_hide (H := retH fe st.n0 H) (H' := H) (fun b z => by
      rcases z with z | ⟨n, _, e⟩
      · exact F.hle b z
      · exact F.sto.hidden e) fun _ _ e => e) r⟩
    rcases y with y | ⟨m, _, e⟩
    · obtain ⟨o', e''⟩ := F.felt a y
      rw [qq] at e''; cases e''
    · exact nm m e
  | .brk, q, ks, ns, st, sm, env, he, hks, hef => fun A s fe H hm hA F hlen Q E P => by
    rw [es_brk] at he
    obtain ⟨pos, rfl⟩ := onS_brk he
    exact wpAny_Break (P _ _ (Nx.of_kp F hlen (Kp.refl _ _)))
  | .cont, q, ks, ns, st, sm, env, he, hks, hef => fun A s fe H hm hA F hlen Q E P => by
    rw [es_cont] at he
    obtain ⟨pos, rfl⟩ := onS_cont he
    exact wpAny_Continue (P _ _ (Nx.of_kp F hlen (Kp.refl _ _)))
  | .pass, q, ks, ns, st, sm, env, he, hks, hef => fun A s fe H hm hA F hlen Q E P => by
    rw [es_pass] at he
    obtain ⟨pos, rfl⟩ := onS_pass he
    exact wpAny_Pass (P _ _ (Nx.of_kp F hlen (Kp.refl _ _)))
  | .try_ body hs, q, ks, ns, st, sm, env, he, hks, hef => fun A s fe H hm hA F hlen Q E P => by
    rw [es_try_] at he
    obtain ⟨body', hs', els, fin, pos, rfl, hz⟩ := onS_tr he
    replace he := hz; clear hz
    obtain ⟨rfl, hz⟩ := nil?_eq he
    replace he := hz; clear hz
    obtain ⟨rfl, hz⟩ := nil?_eq he
    replace he := hz; clear hz
    all_goals
      simp only [Bool.and_eq_true] at he
      obtain ⟨⟨h1, h2⟩, h3⟩ := he
      rw [qx_try_] at P
      cases q with
      | false => exact P.elim
      | true =>
        simp only at P
        obtain ⟨outer, hA'⟩ := id hA
        have IH := pxs_sound body h1 hks hef (q := true) (st := st) A s fe H hm hA F hlen
        cases hs' with
        | nil => simp at h3
        | cons h0 hr =>
          refine wpAny_Try_except ?_
          cases hb : pxs O cal true st body with
          | exc x st' =>
            rw [hb] at P IH
            refine IH _ _ ⟨rfl, fun H' sr e s' N X => ?_⟩
            obtain ⟨ea, a0, rfl, hkp, _⟩ := id X
            have hm' := hm.nf N.nf
            obtain ⟨l, hl, ff⟩ := (hm'.kp hkp).frames
            rw [hA'] at hl; cases hl
            exact note_land X hA' hef ff fun s₃ fl => phs_sound hs h2 hks hef hm' hA' N.fm N.len fl (P.nx N)
          | next st' => rw [hb] at P IH; exact IH _ _ fun H' s' N => wpAny_execs_nil (P _ _ N)
          | brk st' => rw [hb] at P IH; exact IH _ _ P
          | cont st' => rw [hb] at P IH; exact IH _ _ P
          | ret v σ => rw [hb] at P IH; exact IH _ _ P
          | stuck => rw [hb] at P; exact P.elim
  | .raise_ y e, q, ks, ns, st, sm, env, he, hks, hef => fun A s fe H hm hA F hlen Q E P => by
    rw [es_raise_] at he
    obtain ⟨o', cs, pos, rfl, hz⟩ := onS_raise he
    replace he := hz; clear hz
    obtain ⟨ec, rfl, hz⟩ := opt?_eq he
    replace he := hz; clear hz
    obtain ⟨rfl, hz⟩ := non?_eq he
    replace he := hz; clear hz
    obtain ⟨x, px', es', cp, rfl, hz⟩ := onNC_eq he
    replace he := hz; clear hz
    obtain ⟨ex, rfl, hz⟩ := one?_eq he
    replace he := hz; clear hz
    all_goals
      simp only [Bool.and_eq_true, beq_iff_eq, List.contains_iff_mem, decide_eq_true_eq] at he
      obtain ⟨⟨⟨⟨h0, h1⟩, h2⟩, h3⟩, h4⟩ := he
      obtain ⟨g1, g2, g3⟩ := isGlob_of hks h2
      rw [qx_raise_] at P
      cases q with
      | false => exact P.elim
      | true =>
        simp only at P
        have hst : starEach [ex] env = [(false, eval ex env)] := by rw [starEach_cons (encE_notStar h4)]; rfl
        obtain ⟨nid, iid, E1, E2⟩ := EX.facts h0
        refine wpAny_Raise_call E1 E2 (hm.hand rfl) (by rw [hst]; rfl) (ld_boot F g1 g2 g3 (hfree x h3) (by rw [h1]; exact EX.boot y) ⟨rfl, ?_⟩)
        rw [hst]
        refine Calls.evalArgs_plain (Calls.spliced_cons (PostS.resK F hlen (pe_sound OK CO hfree e h4 hks hm F hlen).v P fun v σ₁ _ w H₁ s₁ N₁ r₁ P₁ => Calls.spliced_nil ⟨rfl, by simp [show sizeLine = 16777216 from by decide], fun h' ea hmade => ?_⟩))
        exact P₁.2 H₁ s₁ _ _ (Nx.of_kp N₁.fm N₁.len (Kp.refl _ _)) (xp_made hmade)
theorem pxs_sound : ∀ (p : PSs) {q : Bool} {ks : List (Str × NameKind)} {ns : List Str} {st : Fs} {sm : List Stmt} {env : Env}, encSs frees fname ks ns p sm = true → env.scope.names = ks → env.frame = some env.locals → StOk c q k ns env st (execs sm env) (pxs O cal q st p)
  | .nil, q, ks, ns, st, sm, env, he, hks, hef => fun A s fe H hm hA F hlen Q E P => by
    cases sm with
    | cons _ _ => simp [ess_nil, ess_cons, ess_frz] at he
    | nil => simp only [qxs_nil, qxs_cons, qxs_frz] at P; exact wpAny_execs_nil (P _ _ (Nx.of_kp F hlen (Kp.refl _ _)))
  | .cons p r, q, ks, ns, st, sm, env, he, hks, hef => fun A s fe H hm hA F hlen Q E P => by
    cases sm with
    | nil => simp [ess_nil, ess_cons, ess_frz] at he
    | cons sm rest =>
      simp only [ess_nil, ess_cons, ess_frz, Bool.and_eq_true] at he
      refine wpAny_execs_cons (px_sound p he.1 hks hef A s fe H hm hA F hlen _ _ ?_)
      simp only [qxs_nil, qxs_cons, qxs_frz] at P
      cases hp : px O cal q st p with
      | next st' => rw [hp] at P; exact fun H' s' N => pxs_sound r he.2 hks hef A s' fe H' (hm.nf N.nf) hA N.fm N.len Q E (P.nx N)
      | cont st' => rw [hp] at P; exact P
      | brk st' => rw [hp] at P; exact P
      | ret v σ => rw [hp] at P; exact P
      | exc x st' => rw [hp] at P; exact P
      | stuck => rw [hp] at P; exact P
  | .frz j r, q, ks, ns, st, sm, env, he, hks, hef => fun A s fe H hm hA F hlen Q E P => by
    simp only [ess_nil, ess_cons, ess_frz] at he
    simp only [qxs_nil, qxs_cons, qxs_frz] at P
    split at P
    · rename_i ys hj
      have hj := ownOf_eq hj
      obtain ⟨y, hy⟩ : ∃ y, ns[j]? = some y := by
        have : j < st.ρ.length := by
          rcases Nat.lt_or_ge j st.ρ.length with h | h
          · exact h
          · rw [List.getElem?_eq_none h] at hj; cases hj
        exact ⟨ns[j]'(by omega), by simp⟩
      obtain ⟨H', hH', hM', F'⟩ := F.freeze hy hj
      have N : Nx c A ns env fe st H s (st.set j (.val (.lst ys))) H' s := ⟨⟨_, _, rfl⟩, fun b o e => ⟨o, e⟩, fun b z => .inl (hH' b z), Kv.refl _ _ _, fun b o e nf => ⟨o, e, nf⟩, fun n a e => by rw [hM']; exact e, F', by simpa using hlen, rfl, rfl⟩
      exact pxs_sound r he hks hef A s fe H' hm hA F' N.len Q E (P.nx N)
    · exact P.elim
theorem phs_sound : ∀ (p : PHs) {x : EX} {ks : List (Str × NameKind)} {ns : List Str} {st : Fs} {hs : List ExceptHandler} {env : Env} {outer : List Env} {e : Addr} {A : Around} {s sr : Shared} {fe : FE} {H : Hd} {Q : Flow → Shared → Prop} {E : Value → Shared → Prop},
    encHs frees fname ks ns p hs = true → env.scope.names = ks → env.frame = some env.locals → Rm c true (k + 1) A sr.heap → A.frames = some (env :: outer) → Fm c (FrA A) ns env st fe H sr.heap → st.ρ.length = ns.length → Fly A (env :: outer) sr e x s →
    PostS c true A ns env fe st H (phs O cal x st p) sr Q E → wpAny c.M A (handleBy (.ref e) env hs) Q E s
  | .nil, x, ks, ns, st, hs, env, outer, e, A, s, sr, fe, H, Q, E, he, hks, hef, hm, hA, F, hlen, fl, P => P.elim
  | .cons y body r, x, ks, ns, st, hs, env, outer, e, A, s, sr, fe, H, Q, E, he, hks, hef, hm, hA, F, hlen, fl, P => by
    simp only [eh_nil, eh_cons] at he
    obtain ⟨z, pz, b₀, suite, pos, r', rfl, hz⟩ := onHd_eq he
    replace he := hz; clear hz
    all_goals
      simp only [Bool.and_eq_true, beq_iff_eq, List.contains_iff_mem] at he
      obtain ⟨⟨⟨⟨h1, h2⟩, h3⟩, h4⟩, h5⟩ := he
      subst h1
      obtain ⟨g1, g2, g3⟩ := isGlob_of hks h2
      obtain ⟨B, a0, h, tk, hs0, hfl, kh, hB, hfr⟩ := id fl
      have kp : Kp A sr s := ⟨h, tk, hs0, kh⟩
      have Fs := F.kp kp
      have Fs' : Fm c (FrA (A.mark (some (.ref e)))) ns env st fe H s.heap := Fs
      have hfls : Heap.FlyingW B (env :: outer) e (.type x.name) a0 s.heap := by rw [hs0]; exact hfl
      have hBs : ∀ b o, s.heap.get? b = some o → (∃ o', sr.heap.get? b = some o') → b ∉ (env :: outer).filterMap (·.frame) → B.get? b = some o := by rw [hs0]; exact hB
      obtain ⟨ob, hob, hobc⟩ := hfls.there
      refine wpAny_handleBy_builtin (X := x.name) (T := y.name) (b := decide (x = y)) (EX.exc y) (EX.notTup y) (EX.sub x y) (ld_boot Fs' g1 g2 g3 (hfree _ h3) (EX.boot y) ⟨rfl, ⟨ob, hob, hobc⟩, ?_⟩)
      simp only [qh_nil, qh_cons] at P
      by_cases hxy : x = y
      · rw [if_pos hxy] at P
        rw [if_pos (by simpa using hxy)]
        refine lands_againW hfls fun h₆ hfl₆ hsm₆ => ?_
        have kh₆ : Kh (FrA A) sr.heap h₆ := fly_kh kp hA hfls.2.2.1 hBs hfl₆.1 hsm₆
        have kp₆ : Kp A sr { s with heap := h₆ } := by rw [hs0]; exact ⟨h₆, tk, rfl, kh₆⟩
        have F₆ := F.kp kp₆
        have hm₆ := hm.kp kp₆
        have hmk : Rm c false (k + 1) (A.mark (some (.ref e))) h₆ := ⟨hm₆.depth, hm₆.units, fun q => by (cases q), hm₆.frames⟩
        have IH := pxs_sound body h4 hks hef (q := false) (st := st) (A.mark (some (.ref e))) { s with heap := h₆ } fe H hmk ⟨outer, hA⟩ F₆ hlen
        have Nk := Nx.of_kp F hlen kp₆
        have P' := P.nx Nk
        cases hb : pxs O cal false st body with
        | next st' => rw [hb] at P' IH; exact IH _ _ fun H' s' N => P' H' s' N.mark
        | brk st' => rw [hb] at P' IH; exact IH _ _ fun H' s' N => P' H' s' N.mark
        | cont st' => rw [hb] at P' IH; exact IH _ _ fun H' s' N => P' H' s' N.mark
        | ret v σ => rw [hb] at P' IH; exact IH _ _ fun w s' N => P' w s' N.mark
        | exc _ _ => rw [hb] at P'; exact P'.elim
        | stuck => rw [hb] at P'; exact P'.elim
      · rw [if_neg hxy] at P
        rw [if_neg (by simpa using hxy)]
        exact phs_sound r h5 hks hef hm hA F hlen fl P
end
end
end Mine
end
section
open PySem PySem.W PyProof.Rows
set_option linter.unusedVariables false
set_option linter.unusedSectionVars false
namespace Mine

theorem cellsFrom_keep : ∀ (names : List (Str × NameKind)) (n : Nat) (acc : List (Str × Addr)) (x : Str), (acc.lookup x).isSome = true → ((cellsFrom n names acc).lookup x).isSome = true
  | [], _, _, _, h => h
  | (m, kd) :: r, n, acc, x, h => by
    unfold cellsFrom
    split
    · refine cellsFrom_keep r _ _ x ?_
      rw [List.lookup_cons]
      cases hb : x == m with
      | true => rfl
      | false => exact h
    · exact cellsFrom_keep r _ _ x h
theorem cellsFrom_mem : ∀ (names : List (Str × NameKind)) (n : Nat) (acc : List (Str × Addr)) (x : Str), (x, NameKind.cell) ∈ names → ((cellsFrom n names acc).lookup x).isSome = true
  | [], _, _, _, h => by cases h
  | (m, kd) :: r, n, acc, x, h => by
    unfold cellsFrom
    rcases List.mem_cons.mp h with e | h
    · cases e
      rw [if_pos (by decide)]
      refine cellsFrom_keep r _ _ _ ?_
      simp [List.lookup_cons]
    · split
      · exact cellsFrom_mem r _ _ x h
      · exact cellsFrom_mem r _ _ x h

theorem bindL_out {kd : Str → Option NameKind} : ∀ (ns : List Str) (vs : List Value) (m : Str → Option Value) (x : Str), x ∉ ns → bindL kd (ns.zip vs) m x = m x
  | [], _, _, _, _ => rfl
  | _ :: _, [], _, _, _ => rfl
  | n :: ns, v :: vs, m, x, h => by
    simp only [List.zip_cons_cons, bindL]
    rw [bindL_out ns vs _ x fun q => h (List.mem_cons_of_mem _ q)]
    have : x ≠ n := fun q => h (q ▸ List.mem_cons_self ..)
    split <;> simp [this]
theorem bindL_in {kd : Str → Option NameKind} : ∀ (ns : List Str) (vs : List Value) (m : Str → Option Value) (i : Nat) (x : Str) (v : Value), ns.Nodup → ns[i]? = some x → vs[i]? = some v → kd x = some .local → bindL kd (ns.zip vs) m x = some v
  | [], _, _, _, _, _, _, h, _, _ => by simp at h
  | _ :: _, [], _, _, _, _, _, _, h, _ => by simp at h
  | n :: ns, w :: vs, m, i, x, v, nd, hx, hv, hk => by
    simp only [List.zip_cons_cons, bindL]
    cases i with
    | zero =>
      simp at hx hv
      subst hx; subst hv
      rw [bindL_out ns vs _ _ (List.nodup_cons.mp nd).1, if_pos hk]
      simp
    | succ i => simp at hx hv; exact bindL_in ns vs _ i x v (List.nodup_cons.mp nd).2 hx hv hk
theorem bindC_out {kd : Str → Option NameKind} : ∀ (ns : List Str) (vs : List Value) (m : Str → Option Value) (x : Str), x ∉ ns → bindC kd (ns.zip vs) m x = m x
  | [], _, _, _, _ => rfl
  | _ :: _, [], _, _, _ => rfl
  | n :: ns, v :: vs, m, x, h => by
    simp only [List.zip_cons_cons, bindC]
    rw [bindC_out ns vs _ x fun q => h (List.mem_cons_of_mem _ q)]
    have : x ≠ n := fun q => h (q ▸ List.mem_cons_self ..)
    split <;> simp [this]
theorem bindC_in {kd : Str → Option NameKind} : ∀ (ns : List Str) (vs : List Value) (m : Str → Option Value) (i : Nat) (x : Str) (v : Value), ns.Nodup → ns[i]? = some x → vs[i]? = some v → kd x ≠ some .local → bindC kd (ns.zip vs) m x = some v
  | [], _, _, _, _, _, _, h, _, _ => by simp at h
  | _ :: _, [], _, _, _, _, _, _, h, _ => by simp at h
  | n :: ns, w :: vs, m, i, x, v, nd, hx, hv, hk => by
    simp only [List.zip_cons_cons, bindC]
    cases i with
    | zero =>
      simp at hx hv
      subst hx; subst hv
      rw [bindC_out ns vs _ _ (List.nodup_cons.mp nd).1, if_neg hk]
      simp
    | succ i => simp at hx hv; exact bindC_in ns vs _ i x v (List.nodup_cons.mp nd).2 hx hv hk

/-- a def of the text; n values come in, the rest are its own -/
noncomputable def FnAt (c : Cx) (f : Str) (body : List Stmt) (scope : Scope) (ns : List Str) (np n : Nat) (xs : List AV) : Prop :=
  ∃ a o fd vs0, c.mg f = some (.ref a) ∧ c.h0.get? a = some o ∧ o.data = .func fd ∧ fd.body = .stmts body ∧ fd.scope = scope ∧ fd.globals = mainGlobals ∧ fd.closure = [] ∧ fd.builtins = builtinsNs ∧ fd.qualname = f ∧ c.h0.CodeRec fd.code f ∧
    (∀ R : Vw, RepL R vs0 xs) ∧ ∀ (s : Shared) vs, c.h0.StaysIn s.heap → vs.length = n → BindsTo s fd ⟨vs, []⟩ ((ns.take np).zip (vs ++ vs0))
theorem FnAt.obj {c : Cx} {f : Str} {body : List Stmt} {scope : Scope} {ns : List Str} {np n : Nat} {xs : List AV} (h : FnAt c f body scope ns np n xs) : FnObj c f := let ⟨a, o, fd, _, h1, h2, h3, _⟩ := h; ⟨a, o, fd, h1, h2, h3⟩
/-- a def is entered -/
theorem enter_def {prog : Program} {w : World} {A : Around} {R : Result → Shared → Prop} {s : Shared} {name : Str} {body : List Stmt} {scope : Scope} {fd : FuncData} {a : Addr} {o : Obj} {args : List Value} {binds : List (Str × Value)}
    (hroom : A.depth < recursionLimit) (ho : s.heap.get? a = some o) (hdata : o.data = .func fd) (hlim : s.heap.NoLimit) (hcd : s.heap.CodeRec fd.code name)
    (e1 : fd.body = .stmts body) (e2 : fd.scope = scope) (e3 : fd.globals = mainGlobals) (e4 : fd.closure = []) (e5 : fd.builtins = builtinsNs) (e6 : fd.qualname = name)
    (hbind : BindsTo s fd ⟨args, []⟩ binds)
    (hkind : ∀ x ∈ binds, scope.names.lookup x.1 = some .local ∨ (scope.names.lookup x.1 = some .cell ∧ ((cellsFrom (s.heap.objs.size + 1) scope.names []).lookup x.1).isSome = true))
    (h : ∀ h₁ tk, Fr s.heap s.heap.objs.size h₁ (bindL (envOfC name scope s.heap.objs.size a fd.code).kindOf binds fun _ => none) →
      Cl s.heap.objs.size (cellsFrom (s.heap.objs.size + 1) scope.names []) h₁ (bindC (envOfC name scope s.heap.objs.size a fd.code).kindOf binds fun _ => none) →
      wpAny (model prog w) (A.deeper (envOfC name scope s.heap.objs.size a fd.code)) (execs body (envOfC name scope s.heap.objs.size a fd.code))
        (fun f s' => R (.ok (.ret (match f with | .ret v => v | _ => .none))) s')
        (fun e s' => wpAny (model prog w) (A.deeper (envOfC name scope s.heap.objs.size a fd.code)) (leaving (envOfC name scope s.heap.objs.size a fd.code) e)
          (fun _ s'' => R (.error e) s'') (fun e' s'' => R (.error e') s'') s')
        { s with heap := h₁, toks := tk })
    (hco : scope.isCoroutine = false) (hgen : scope.isGenerator = false) (hk : scope.kind = .function) :
    codeAny (model prog w) A (.call (.ref a) ⟨args, []⟩) R s := by
  have ee : callEnvC fd s.heap.objs.size a = envOfC name scope s.heap.objs.size a fd.code := by
    subst e2; subst e6
    unfold callEnvC envOfC
    simp only [e3, e5]
    rfl
  rw [← ee] at h
  subst e2; subst e6
  refine codeAny_call_function hroom ho hdata hco hgen e1 hcd (hbind _ _ _ _ ?_)
  rw [e4]
  refine wpAny_newFunctionEnv_cells hk hkind fun env he s' x => ?_
  subst he
  refine ⟨hlim.keeps x.toInCall.keep, codeAny_func ?_⟩
  obtain ⟨h₁, tk, rfl, _⟩ := x.done
  have x' := x.toInCall
  exact h h₁ tk ⟨x'.ns, x'.keep, x'.fresh⟩ ⟨x.cell, x.apart, x.above⟩

noncomputable def fnRes : FR → ER
  | .ret v σ => .ok (.av v) σ
  | .next st => .ok (.av .none) st.σ
  | .exc x st => .exc x st.σ
  | _ => .stuck
noncomputable def rho0 (args : List AV) (n : Nat) : List (Option Ent) := args.map (fun a => some (.val a)) ++ List.replicate (n - args.length) none
/-- a def's beginning -/
noncomputable def st0 (args : List AV) (n : Nat) (σ : Store) (lo : Nat) : Fs := ⟨rho0 args n, σ, lo, σ.length⟩

/-- what is looked at of a def's text -/
noncomputable def fnOk (frees : List Str) (fname : Nat → Str) (scope : Scope) (ns : List Str) (np : Nat) (p : PSs) (body : List Stmt) : Bool :=
  scope.kind == .function && !scope.isGenerator && !scope.isCoroutine && encSs frees fname scope.names ns p body && decide ((ns.take np).Nodup) && decide (np ≤ ns.length) && (ns.take np).all (fun x => scope.names.lookup x == some .local || scope.names.lookup x == some .cell)

/-- what the caller gets -/
theorem ret_ss {c : Cx} {A A' : Around} {ns : List Str} {env : Env} {st' : Fs} {σ : Store} {lo : Nat} {H H' : Hd} {s s' : Shared} (S : Sto σ H s.heap) (F : Fm c (FrA A') ns env st' ⟨s.heap, H, Wr σ H lo⟩ H' s'.heap) (hn : st'.n0 = σ.length) (hF : ∀ b o, s.heap.get? b = some o → FrA A' b → FrA A b)
    (rest : ∃ h' tk, s' = { s with heap := h', toks := tk }) (lv : ∀ b o, s.heap.get? b = some o → ∃ o', s'.heap.get? b = some o') (nf : Nf s.heap s'.heap) : Ss A lo σ H s st'.σ (retH ⟨s.heap, H, Wr σ H lo⟩ σ.length H') s' := by
  have sub : ∀ b, (retH ⟨s.heap, H, Wr σ H lo⟩ σ.length H').p b → H'.p b := fun b z => by
    rcases z with z | ⟨n, _, e⟩
    · exact F.hle b z
    · exact F.sto.hidden e
  have old : ∀ n b, n < σ.length → H'.m n = some b → H.m n = some b := fun n b l e => F.mold n b (by rw [hn]; exact l) e
  exact {
    rest := rest
    kv := fun b o n e => by
      obtain ⟨p1, p2⟩ := F.keep b o n e
      exact ⟨fun f => p1 (f.imp (fun f z => f (hF b o e z)) id), p2⟩
    lv := lv
    nf := nf
    hp := fun b z => .inl z
    hid := fun b z => by
      rcases z with z | ⟨n, l, e⟩
      · exact .inl z
      · exact .inr (F.mnew n b (by rw [hn]; exact l) e)
    mx := fun n b e => F.mle n b e
    mn := fun n b e => by
      rcases Nat.lt_or_ge n σ.length with l | l
      · exact .inl (old n b l e)
      · exact .inr ⟨l, F.mnew n b (by rw [hn]; exact l) e⟩
    o := rfl
    sto := ⟨fun n mo e => by
        obtain ⟨b, e1, r⟩ := F.sto.at' n mo e
        exact ⟨b, e1, r.kv (Kv.refl (fun _ => False) (fun _ => False) _) id (vis_hide (H := retH ⟨s.heap, H, Wr σ H lo⟩ σ.length H') (H' := H') sub fun _ _ e => e)⟩, F.sto.inj, F.sto.lt, fun n b mo _ e => by
        rcases Nat.lt_or_ge n σ.length with l | l
        · exact .inl (S.hidden (old n b l e))
        · exact .inr ⟨n, l, e⟩, F.sto.al, F.sto.tot⟩
    live := fun b z => F.hlt b (sub b z)
    len := by have := F.n0le; omega
    rv := fun n mo l e => by
      obtain ⟨b, e1, _⟩ := F.sto.at' n mo e
      exact S.tot n b (old n b l e1)
    hm0 := S.lt }

section
variable {c : Cx} {O : OpsF} (OK : OpsOk c O) {k : Nat} {cal : Cal} {fname : Nat → Str} (CO : CallsOk c k cal fname) {frees : List Str} (hfree : ∀ x ∈ frees, c.mg x = none)
include OK CO hfree

theorem code_of {f : Str} {body : List Stmt} {scope : Scope} {ns : List Str} {np n : Nat} {p : PSs} {args xs : List AV} {σ : Store} {lo : Nat} (hf : FnAt c f body scope ns np n xs) (hok : fnOk frees fname scope ns np p body = true)
    (hargs : args.length = n) (hnp : n + xs.length = np) :
    ∀ {A : Around} {s : Shared} {H : Hd} {vs : List Value} {a : Addr} {Q E : Value → Shared → Prop}, Rm c true (k + 2) A s.heap → c.h0.StaysIn s.heap → Live H s.heap → Sto σ H s.heap → (∀ n a, H.m n = some a → c.h0.get? a = none) → RepL (vis s.heap H) vs args → c.mg f = some (.ref a) →
      PostE true A lo σ H (fnRes (pxs O cal true (st0 (args ++ xs) ns.length σ lo) p)) s Q E → codeAny c.M A (.call (.ref a) ⟨vs, []⟩) (fun r s' => match r with | .ok (.ret v) => Q v s' | .ok _ => False | .error e => E e s') s := by
  intro A s H vs a Q E hm hst hL S hm0 hr hmg P
  obtain ⟨a', o, fd, vs0, h1, h2, h3, e1, e2, e3, e4, e5, e6, hcr, hr0, hbind⟩ := hf
  rw [hmg] at h1; cases h1
  have hvl0 : vs.length = n := by rw [hr.length, hargs]
  have hbd := hbind s vs hst hvl0
  have hr := hr.append (hr0 (vis s.heap H))
  clear hbind hr0
  have hcr' := hcr
  generalize hcode : fd.code = code at hcr'
  have enter := fun (R : Result → Shared → Prop) hkind hh k3 k2 k1 => enter_def (A := A) (R := R) (w := c.w) (prog := c.prog) (by have := hm.depth; omega) (hst a o h2) h3 (c.nolimit.keeps hst) (hcr.keeps hst) e1 e2 e3 e4 e5 e6 hbd hkind hh k3 k2 k1
  rw [hcode] at enter
  clear hbd hcr
  have hargs : (args ++ xs).length = np := by rw [List.length_append, hargs, hnp]
  generalize args ++ xs = args at hr hargs P ⊢
  generalize hvv : vs ++ vs0 = vv at hr enter
  have h4 := hcr'
  simp only [fnOk, Bool.and_eq_true, beq_iff_eq, Bool.not_eq_true', decide_eq_true_eq, List.all_eq_true, Bool.or_eq_true] at hok
  obtain ⟨⟨⟨⟨⟨⟨k1, k2⟩, k3⟩, k4⟩, k5⟩, k6⟩, k7⟩ := hok
  have hvl : vv.length = np := by rw [hr.length, hargs]
  have hkind : ∀ x ∈ (ns.take np).zip vv, scope.names.lookup x.1 = some .local ∨ (scope.names.lookup x.1 = some .cell ∧ ((cellsFrom (s.heap.objs.size + 1) scope.names []).lookup x.1).isSome = true) := fun x hx => by
    rcases k7 x.1 (List.of_mem_zip hx).1 with h | h
    · exact .inl h
    · exact .inr ⟨h, cellsFrom_mem _ _ _ _ (mem_of_lookup h)⟩
  refine enter _ hkind (fun h₁ tk F₁ X₁ => ?_) k3 k2 k1
  generalize hEnv : envOfC f scope s.heap.objs.size a code = env at F₁ X₁ ⊢
  have eL : env.locals = s.heap.objs.size := by rw [← hEnv]; rfl
  have eS : env.scope = scope := by rw [← hEnv]; rfl
  have eC : env.cells = cellsFrom (s.heap.objs.size + 1) scope.names [] := by rw [← hEnv]; rfl
  have eF : env.frame = some env.locals := by rw [← hEnv]; rfl
  have eG : env.globals = mainGlobals := by rw [← hEnv]; rfl
  have eB : env.builtins = builtinsNs := by rw [← hEnv]; rfl
  have eCo : env.code = code := by rw [← hEnv]; rfl
  have eK : ∀ x, env.kindOf x = scope.names.lookup x := fun x => by show env.scope.names.lookup x = _; rw [eS]
  rw [← eC] at X₁
  rw [← eL] at F₁ X₁
  obtain ⟨l, hl, ff⟩ := hm.frames
  have dead : ∀ b, s.heap.objs.size ≤ b → s.heap.get? b = none := fun b hb => Heap.get?_none_of_le hb
  have deadL : s.heap.get? env.locals = none := dead _ (Nat.le_of_eq eL.symm)
  have deadC : ∀ x cc, env.cells.lookup x = some cc → s.heap.get? cc = none := fun x cc q => dead _ (by have := X₁.above x cc (mem_of_lookup q); rw [eL] at this; exact Nat.le_of_lt this)
  have h0L : c.h0.get? env.locals = none := by
    cases e : c.h0.get? env.locals with
    | none => rfl
    | some o' => have := hst _ _ e; rw [deadL] at this; cases this
  have hA' : (A.deeper env).frames = some (env :: l) := by show A.frames.map (env :: ·) = _; rw [hl]; rfl
  have ff' : h₁.FunFrames c.h0 (env :: l) := by
    refine ⟨by rw [eS, k1]; decide, ?_, (Kh.of_keeps (F := fun _ => False) F₁.keep).nf.frames ff⟩
    obtain ⟨oL, es, ep, e, d, _⟩ := F₁.ns
    exact ⟨env.locals, oL, eF, h0L, e, fun vs z => by rw [d] at z; cases z⟩
  have frs : ∀ b, FrA (A.deeper env) b → b = env.locals ∨ FrA A b := fun b ⟨l', e1, e2⟩ => by
    rw [hA'] at e1; cases e1
    rw [List.filterMap_cons, eF] at e2
    rcases List.mem_cons.mp e2 with e2 | e2
    · exact .inl e2
    · exact .inr ⟨l, hl, e2⟩
  have hFrL : FrA (A.deeper env) env.locals := ⟨_, hA', by rw [List.filterMap_cons, eF]; exact List.mem_cons_self ..⟩
  generalize hH0 : (⟨fun b => H.p b ∨ b = env.locals ∨ ∃ x, env.cells.lookup x = some b, H.m, fun _ => none⟩ : Hd) = H₀
  have p0 : ∀ b, H₀.p b ↔ (H.p b ∨ b = env.locals ∨ ∃ x, env.cells.lookup x = some b) := fun b => by rw [← hH0]
  have m0 : H₀.m = H.m := by rw [← hH0]
  have live : Live H₀ h₁ := fun b z => by
    rcases (p0 b).mp z with z | rfl | ⟨x, z⟩
    · obtain ⟨o', e⟩ := hL b z; exact ⟨o', F₁.keep b o' e⟩
    · obtain ⟨oL, es, ep, e, _⟩ := F₁.ns; exact ⟨oL, e⟩
    · obtain ⟨o', e, _⟩ := X₁.cell x b z; exact ⟨o', e⟩
  have hHN : ∀ b, H₀.p b → H.p b ∨ s.heap.get? b = none := fun b z => by
    rcases (p0 b).mp z with z | rfl | ⟨x, z⟩
    · exact .inl z
    · exact .inr deadL
    · exact .inr (deadC x b z)
  have kh1 : Kh (FrA (A.deeper env)) s.heap h₁ := Kh.of_keeps F₁.keep
  have hlen0 : (rho0 args ns.length).length = ns.length := by
    unfold rho0
    rw [List.length_append, List.length_map, List.length_replicate]
    omega
  have getv : ∀ (i : Nat) t, (rho0 args ns.length)[i]? = some (some t) → ∃ x, args[i]? = some x ∧ t = .val x := fun i t h => by
    unfold rho0 at h
    by_cases hi : i < args.length
    · rw [List.getElem?_append_left (by simpa using hi), List.getElem?_map] at h
      cases e : args[i]? with
      | none => rw [e] at h; cases h
      | some x => rw [e] at h; simp at h; exact ⟨x, rfl, h.symm⟩
    · rw [List.getElem?_append_right (by simpa using hi), List.getElem?_replicate] at h
      split at h <;> simp at h
  have F : Fm c (FrA (A.deeper env)) ns env (st0 args ns.length σ lo) ⟨s.heap, H, Wr σ H lo⟩ H₀ h₁ := {
    keep := kh1.kv
    wsub := fun b ⟨n, mo, _, e1, e2⟩ => S.hid n b mo e1 e2
    base := hst
    baseF := fun b z => by
      rcases frs b z with rfl | ⟨l', e1, e2⟩
      · exact h0L
      · rw [hl] at e1; cases e1
        exact (ff.mem e2).1
    basew := fun b ⟨n, mo, _, e1, e2⟩ => hm0 n b e2
    hle := fun b z => (p0 b).mpr (.inl z)
    mle := fun n b e => by rw [m0]; exact e
    mold := fun n b _ e => by rw [m0] at e; exact e
    mnew := fun n b l e => by
      rw [m0] at e
      exact absurd (S.lt n b e) (Nat.not_lt.mpr l)
    mw := fun n b mo _ l q e => ⟨n, mo, l, q, by rw [← m0]; exact e⟩
    hlt := live
    felt := hL
    wlt := fun b ⟨n, mo, _, e1, e2⟩ => S.al n b e2
    kind := by rw [eS]; exact k1
    glob := eG
    bi := eB
    code := let ⟨cd, o, vs, _, e, g, d, _⟩ := h4; ⟨cd, o, vs, eCo.trans e, g, d⟩
    ns := ⟨_, F₁.ns⟩
    hl := (p0 _).mpr (.inr (.inl rfl))
    lnew := deadL
    hc := fun x cc _ q => ⟨(p0 _).mpr (.inr (.inr ⟨x, q⟩)), deadC x cc q⟩
    cl := fun x q => by
      rw [eK] at q
      have := cellsFrom_mem scope.names (s.heap.objs.size + 1) [] x (mem_of_lookup q)
      rw [← eC] at this
      obtain ⟨cc, e⟩ := Option.isSome_iff_exists.mp this
      exact ⟨cc, _, e, X₁.cell x cc e⟩
    capart := fun x y cc h1 h2 => name_of_addr X₁.apart (mem_of_lookup h1) (mem_of_lookup h2)
    vals := fun i x t hx ht => by
      obtain ⟨av, hav, rfl⟩ := getv i t ht
      obtain ⟨v, hv, hrv⟩ := hr.get hav
      have hi : i < np := by
        rcases Nat.lt_or_ge i args.length with h | h
        · omega
        · rw [List.getElem?_eq_none h] at hav; cases hav
      have hx' : (ns.take np)[i]? = some x := by rw [List.getElem?_take, if_pos hi]; exact hx
      refine ⟨v, ?_, Rep.mono (vis_new (Kh.of_keeps (F := fun _ => False) F₁.keep) hHN fun n a e => by rw [m0]; exact e) hrv⟩
      rcases k7 x (List.mem_of_getElem? hx') with hk | hk
      · exact .inl ⟨by rw [eK]; exact hk, _, F₁.ns, bindL_in _ _ _ i x v k5 hx' hv (by rw [eK]; exact hk)⟩
      · have := cellsFrom_mem scope.names (s.heap.objs.size + 1) [] x (mem_of_lookup hk)
        rw [← eC] at this
        obtain ⟨cc, e⟩ := Option.isSome_iff_exists.mp this
        have hcell := X₁.cell x cc e
        rw [bindC_in _ _ _ i x v k5 hx' hv (by rw [eK, hk]; decide)] at hcell
        exact .inr ⟨by rw [eK]; exact hk, cc, e, hcell⟩
    own := fun i b e => by rw [← hH0] at e; cases e
    oinj := fun i j b e => by rw [← hH0] at e; cases e
    mh0 := fun n b e => hm0 n b (by rw [← m0]; exact e)
    sto := S.new kh1 (fun b z => (p0 b).mpr (.inl z)) hHN m0
    n0le := Nat.le_refl _ }
  have hm' : Rm c true (k + 1) (A.deeper env) h₁ := ⟨by have := hm.depth; show A.depth + 1 + (k + 1) < _; omega, by have := hm.units; show A.units + 3 + 8 * (k + 1) < _; omega, fun h => hm.hand h, ⟨_, hA', ff'⟩⟩
  have hF : ∀ b o, s.heap.get? b = some o → FrA (A.deeper env) b → FrA A b := fun b o e z => by
    rcases frs b z with rfl | z
    · rw [deadL] at e; cases e
    · exact z
  have ss : ∀ {st' : Fs} {H' : Hd} {s' : Shared}, Fm c (FrA (A.deeper env)) ns env st' ⟨s.heap, H, Wr σ H lo⟩ H' s'.heap → st'.n0 = σ.length → (∃ h' tk', s' = { s with heap := h', toks := tk' }) → (∀ b o, h₁.get? b = some o → ∃ o', s'.heap.get? b = some o') → Nf h₁ s'.heap → Ss A lo σ H s st'.σ (retH ⟨s.heap, H, Wr σ H lo⟩ σ.length H') s' :=
    fun {st' H' s'} F' hn rest lv nf => ret_ss S F' hn hF rest (fun b o e => lv b o (F₁.keep b o e)) (kh1.nf.trans nf)
  have S1 := pxs_sound OK CO hfree p k4 (by rw [eS]) eF (q := true) (st := st0 args ns.length σ lo) (A.deeper env) { s with heap := h₁, toks := tk } ⟨s.heap, H, Wr σ H lo⟩ _ hm' ⟨l, hA'⟩ F hlen0
  cases hp : pxs O cal true (st0 args ns.length σ lo) p with
  | ret v σ' =>
    rw [hp] at S1 P
    refine S1 _ _ fun w s' R => ?_
    obtain ⟨st', H', e1, e2, e3, F', r'⟩ := R.back
    subst e1
    exact P w _ s' (ss F' e2 (let ⟨h', t', e⟩ := R.rest; ⟨h', t', e⟩) R.lv R.nf) r'
  | next st' =>
    rw [hp] at S1 P
    exact S1 _ _ fun H' s' N => P _ _ s' (ss N.fm N.n0 (let ⟨h', t', e⟩ := N.rest; ⟨h', t', e⟩) N.lv N.nf) (by simp [RepW, Rep])
  | exc x st' =>
    rw [hp] at S1 P
    refine S1 _ _ ⟨rfl, fun H' sr e s' N X => ?_⟩
    obtain ⟨ea, a0, rfl, hkp, hdead, _⟩ := id X
    obtain ⟨l', hl', ff2⟩ := ((hm'.nf N.nf).kp hkp).frames
    rw [hA'] at hl'; cases hl'
    show wpAny c.M (A.deeper env) (noteFrame (.ref ea) env >>= fun _ => setFlight (.ref ea) none) _ _ s'
    refine wpAny_bind (note_land X hA' eF ff2 fun s₃ fl => ?_)
    obtain ⟨B, a1, h₃, tk₃, hs₃, hfl, kh₃, hB, hfr⟩ := fl
    -- the state at the raise, with the frame's slots as they are now
    obtain ⟨mL, oL, esL, epL, eLo, dLo, rLo⟩ := N.fm.ns
    obtain ⟨sl, eL3⟩ := (kh₃ env.locals oL eLo).2
    have fr : ({ oL with slots := sl } : Obj).isFreed = false := by
      have : ({ oL with slots := sl } : Obj).data = .dict esL epL := dLo
      unfold Obj.isFreed
      rw [this]
    have up : (sr.heap.update env.locals fun o => { o with slots := sl }).get? env.locals = some { oL with slots := sl } := Heap.get?_update_self _ eLo fr
    have ot : ∀ b, b ≠ env.locals → (sr.heap.update env.locals fun o => { o with slots := sl }).get? b = sr.heap.get? b := fun b hb => Heap.get?_update_other _ _ (Ne.symm hb)
    have khu : Kh (FrA (A.deeper env)) sr.heap (sr.heap.update env.locals fun o => { o with slots := sl }) := fun b o e => by
      by_cases hb : b = env.locals
      · subst hb
        rw [eLo] at e; cases e
        refine ⟨fun z => ?_, sl, up⟩
        rcases z with z | ⟨fs, z⟩
        · exact absurd hFrL z
        · rw [dLo] at z; cases z
      · exact ⟨fun _ => (ot b hb).trans e, o.slots, (ot b hb).trans e⟩
    have F2 := N.fm.step khu
    obtain ⟨hr', tr', er⟩ := N.rest
    have ss2 := ss (s' := { sr with heap := sr.heap.update env.locals fun o => { o with slots := sl } }) F2 N.n0 ⟨_, tr', by rw [er]⟩ (fun b o e => let ⟨o', e'⟩ := N.lv b o e; let ⟨_, e''⟩ := (khu b o' e').2; ⟨_, e''⟩) (N.nf.trans khu.nf)
    refine P.2 _ _ _ _ ss2 ⟨ea, a1, rfl, ⟨h₃, tk₃, by rw [hs₃], fun b o e => ?_⟩, ?_, .inr ?_⟩
    · by_cases hb : b = env.locals
      · subst hb
        have e : (sr.heap.update env.locals fun o => { o with slots := sl }).get? env.locals = some o := e
        rw [up] at e; cases e
        exact ⟨fun _ => eL3, sl, eL3⟩
      · have e : (sr.heap.update env.locals fun o => { o with slots := sl }).get? b = some o := e
        rw [ot b hb] at e
        obtain ⟨q1, q2⟩ := kh₃ b o e
        refine ⟨fun f => q1 (f.imp (fun f z => ?_) id), q2⟩
        rcases frs b z with z | z
        · exact hb z
        · exact f z
    · have : ea ≠ env.locals := fun z => by rw [z, eLo] at hdead; cases hdead
      show (sr.heap.update env.locals fun o => { o with slots := sl }).get? ea = none
      rw [ot ea this]; exact hdead
    · obtain ⟨_, _, _, oe, ws, T, oT, ts, he, hcl, hd, h1', hT, hTe, hoT, hdT, h3'⟩ := hfl
      rw [hs₃]
      refine ⟨oe, ws, T, oT, ts, he, hcl, hd, h1', ?_, hTe, hoT, hdT, h3'⟩
      have hTl : T ≠ env.locals := fun z => by
        have hoT : h₃.get? T = some oT := hoT
        rw [z, eL3] at hoT; cases hoT
        have hdT : oL.data = _ := hdT
        rw [dLo] at hdT; cases hdT
      show (sr.heap.update env.locals fun o => { o with slots := sl }).get? T = none
      rw [ot T hTl]
      cases e : sr.heap.get? T with
      | none => rfl
      | some o' =>
        exfalso
        by_cases hTf : T ∈ (env :: l).filterMap (·.frame)
        · obtain ⟨o2, e3, nf⟩ := hfr T hTf
          have hoT : h₃.get? T = some oT := hoT
          rw [hoT] at e3; cases e3
          exact nf _ hdT
        · have := hB T oT hoT ⟨_, e⟩ hTf
          rw [hT] at this; cases this
  | brk _ => rw [hp] at P; exact P.elim
  | cont _ => rw [hp] at P; exact P.elim
  | stuck => rw [hp] at P; exact P.elim

theorem calls_of {f : Str} {body : List Stmt} {scope : Scope} {ns : List Str} {np n : Nat} {p : PSs} {args xs : List AV} {σ : Store} {lo : Nat} (hf : FnAt c f body scope ns np n xs) (hok : fnOk frees fname scope ns np p body = true)
    (hargs : args.length = n) (hnp : n + xs.length = np) :
    Calls c (k + 2) f σ lo args (fnRes (pxs O cal true (st0 (args ++ xs) ns.length σ lo) p)) := by
  intro A s H vs a hm hst hL S hm0 hr hmg
  exact fun Q E P => wpAny_call (code_of OK CO hfree hf hok hargs hnp hm hst hL S hm0 hr hmg P)
end
end Mine
end
section
open PySem PySem.W PyProof.Rows
namespace Mine
set_option maxRecDepth 100000


noncomputable def itemsV : AV → Option (List AV)
  | .lst xs => some xs
  | .tup xs => some xs
  | .range a b s => if Builtin.Range.small a b s = true then (if (Builtin.Range.rangeSize a b s).toNat ≤ 1048576 then some (rangeL a b s) else none) else none
  | _ => none

/-- more things that are gone over; ld: how sets are led -/
noncomputable def itemsW (ld : Bool) : AV → Option (List AV)
  | .str x => if x.cps.all (· < 128) = true then (if x.cps.size ≤ 1048576 then some (x.cps.toList.map fun c => .str ⟨#[c]⟩) else none) else none
  | .bytes b => if b.size ≤ 1048576 then some (b.toList.map fun c => .int (c.toNat : Int)) else none
  | .dict n => if n ≤ 1048576 then some (List.replicate n .any) else none
  | .sm l n => if l = ld then (if n ≤ 1048576 then some (List.replicate n .any) else none) else none
  | a => itemsV a

section
variable {c : Cx} {A : Around}
theorem itr_list (hh : A.handled = none) {I l : Addr} {vs : List Value} (hI : l ≠ I) : Itr c A I (fun b => b = I ∨ b = l) (fun i v => vs[i]? = some v) vs.length (fun i h => h.IsListIter I l i ∧ h.IsList l vs.toArray) where
  fld := fun i h ⟨⟨o, e, hc, hd⟩, _⟩ => ⟨o, _, e, hd, by rw [hc]; unfold okC; decide +kernel⟩
  nt := fun i h ⟨⟨o, e, hc, hd⟩, _⟩ => ⟨o, _, e, hc, by decide +kernel⟩
  frame := fun i h h' ⟨⟨o, e, hc, hd⟩, ⟨o2, e2, hc2, n, hd2⟩⟩ fr => by
    refine ⟨⟨o, (fr I o (.inl rfl) e).1 ⟨_, hd⟩, hc, hd⟩, ?_⟩
    obtain ⟨sl, e3⟩ := (fr l o2 (.inr rfl) e2).2
    exact ⟨_, e3, hc2, n, hd2⟩
  item := fun i s Q E hi ⟨hit, hl⟩ h => by
    refine wpAny_pyNext_list_item hit hl (x := vs[i]) (by simp [hi]) fun h' hit' sb => ?_
    exact h _ h' s.toks (by simp [hi]) ⟨hit', hl.extBut (fun b o hb e => (sb.2 b hb).trans e) hI⟩ (fun b o hb e => (sb.2 b hb).trans e) (let ⟨o, e, _⟩ := hit'; ⟨o, e⟩)
  done := fun s Q E ⟨hit, hl⟩ h => wpAny_pyNext_list_end hh hit hl (by simp) fun h' eb => h h' s.toks fun b o hb e => eb b o hb e
  self := fun i s Q E ⟨hit, _⟩ h => wpAny_pyIter_listiter hit h

theorem itr_tup (hh : A.handled = none) {I l : Addr} {vs : List Value} (hI : l ≠ I) : Itr c A I (fun b => b = I ∨ b = l) (fun i v => vs[i]? = some v) vs.length (fun i h => h.IsTupleIter I l i ∧ h.IsTuple l vs.toArray) where
  fld := fun i h ⟨⟨o, e, hc, hd⟩, _⟩ => ⟨o, _, e, hd, by rw [hc]; unfold okC; decide +kernel⟩
  nt := fun i h ⟨⟨o, e, hc, hd⟩, _⟩ => ⟨o, _, e, hc, by decide +kernel⟩
  frame := fun i h h' ⟨⟨o, e, hc, hd⟩, ⟨o2, e2, hc2, n, hd2⟩⟩ fr => by
    refine ⟨⟨o, (fr I o (.inl rfl) e).1 ⟨_, hd⟩, hc, hd⟩, ?_⟩
    obtain ⟨sl, e3⟩ := (fr l o2 (.inr rfl) e2).2
    exact ⟨_, e3, hc2, n, hd2⟩
  item := fun i s Q E hi ⟨hit, hl⟩ h => by
    refine wpAny_pyNext_tuple_item hit hl (x := vs[i]) (by simp [hi]) fun h' hit' sb => ?_
    exact h _ h' s.toks (by simp [hi]) ⟨hit', hl.extBut (fun b o hb e => (sb.2 b hb).trans e) hI⟩ (fun b o hb e => (sb.2 b hb).trans e) (let ⟨o, e, _⟩ := hit'; ⟨o, e⟩)
  done := fun s Q E ⟨hit, hl⟩ h => wpAny_pyNext_tuple_end hh hit hl (by simp) fun h' eb => h h' s.toks fun b o hb e => eb b o hb e
  self := fun i s Q E ⟨hit, _⟩ h => wpAny_pyIter_tupleiter hit h

theorem itr_range (hh : A.handled = none) {I : Addr} {a b st : Int} (hs : 0 ≤ Builtin.Range.rangeSize a b st) : Itr c A I (fun b => b = I) (fun i v => ∃ t, v = .int (a + i * st) t) (Builtin.Range.rangeSize a b st).toNat
    (fun i h => IsRangeIter h I (a + i * st) (Builtin.Range.rangeSize a b st - i) st) where
  fld := fun i h hit => ⟨_, _, hit, rfl, by show ¬ okC (.type "range_iterator"); unfold okC; decide +kernel⟩
  nt := fun i h hit => ⟨_, _, hit, rfl, by decide +kernel⟩
  frame := fun i h h' hit fr => (fr I _ rfl hit).1 ⟨_, rfl⟩
  item := fun i s Q E hi hit h => by
    refine wpAny_pyNext_range_item hit (by omega) fun h' hit' sb => ?_
    refine h _ h' (s.toks + 1) ⟨_, rfl⟩ ?_ (fun b o hb e => (sb.2 b hb).trans e) ⟨_, hit'⟩
    have e1 : a + (i : Int) * st + st = a + ((i + 1 : Nat) : Int) * st := by rw [Int.natCast_add, Int.add_mul]; omega
    have e2 : Builtin.Range.rangeSize a b st - (i : Int) - 1 = Builtin.Range.rangeSize a b st - ((i + 1 : Nat) : Int) := by omega
    rw [e1, e2] at hit'
    exact hit'
  done := fun s Q E hit h => wpAny_pyNext_range_end hh hit (by omega) fun h' eb => h h' s.toks fun b o hb e => eb b o hb e
  self := fun i s Q E hit h => wpAny_pyIter_rangeiter hit h

theorem rangeSize_nonneg (a b s : Int) : 0 ≤ Builtin.Range.rangeSize a b s := by
  unfold Builtin.Range.rangeSize
  split
  · split
    · exact Int.add_nonneg (Int.ediv_nonneg (by omega) (by omega)) (by omega)
    · omega
  · split
    · exact Int.add_nonneg (Int.ediv_nonneg (by omega) (by omega)) (by omega)
    · omega

theorem itemsV_ok {q : Bool} {k : Nat} {s : Shared} {H : Hd} {a : AV} {va : Value} {xs : List AV} (hm : Rm c q (k + 1) A s.heap) (hq : q = true) (r : RepO s.heap H va a) (h : itemsV a = some xs) (Q E : Value → Shared → Prop)
    (K : ∀ I fp P St h' tk, (∀ b o, s.heap.get? b = some o → h'.get? b = some o) → s.heap.get? I = none → fp I → (∀ b, fp b → ∃ o, h'.get? b = some o) → (∀ b, fp b → b = I ∨ va = .ref b) → xs.length ≤ 1048576 → Itr c A I fp P xs.length St → St 0 h' →
      (∀ (i : Nat) v x, P i v → xs[i]? = some x → Rep (vis s.heap H) v x) → Q (.ref I) { s with heap := h', toks := tk }) : wpAny c.M A (pyIter va) Q E s := by
  have hh := hm.hand hq
  cases a <;> simp only [itemsV, reduceCtorEq] at h
  · rename_i a b st
    by_cases hsm : Builtin.Range.small a b st = true
    case neg => rw [if_neg hsm] at h; cases h
    rw [if_pos hsm] at h
    by_cases hsz : (Builtin.Range.rangeSize a b st).toNat ≤ 1048576
    case neg => rw [if_neg hsz] at h; cases h
    rw [if_pos hsz] at h
    cases h
    simp only [RepO, Rep] at r
    obtain ⟨r, ta, tb, ts, rfl, _, o, e, hc, hd, hdi, _, hsl⟩ := r
    have hr : IsRange s.heap r a b st ta tb ts := by
      show s.heap.get? r = _
      rw [e]; obtain ⟨c', d', da', sl'⟩ := o
      simp only at hc hd hdi hsl
      rw [hc, hd, hdi, hsl ⟨_, rfl⟩]
    refine wpAny_pyIter_range hr hsm ?_
    refine K s.heap.objs.size (fun b => b = s.heap.objs.size) (fun i v => ∃ t, v = .int (a + i * st) t) (fun i h => IsRangeIter h s.heap.objs.size (a + i * st) (Builtin.Range.rangeSize a b st - i) st) _ s.toks (fun b o e => Heap.get?_push_of_some _ e) (Heap.get?_none_of_le (Nat.le_refl _)) rfl (fun b hb => by subst hb; exact ⟨_, Heap.get?_push_size _ rfl⟩) (fun b hb => .inl hb) (by simpa [rangeL] using hsz)
      (by simp only [rangeL, List.length_map, List.length_range]; exact itr_range hh (rangeSize_nonneg a b st)) ?_ ?_
    · simp only [Int.natCast_zero, Int.zero_mul, Int.add_zero, Int.sub_zero]
      exact Heap.get?_push_size _ rfl
    · rintro i v x ⟨t, rfl⟩ hx
      simp only [rangeL, List.getElem?_map, Option.map_eq_some_iff] at hx
      obtain ⟨j, hj, rfl⟩ := hx
      obtain ⟨hj1, hj2⟩ := List.getElem?_eq_some_iff.mp hj
      simp at hj2
      subst hj2
      exact ⟨t, rfl⟩
  · cases h
    simp only [RepO, Rep] at r
    obtain ⟨hz, l, vs, n, rfl, ⟨_, o, e, hc, hd, _⟩, rl⟩ := r
    have ht : s.heap.IsTuple l vs.toArray := ⟨o, e, hc, n, hd⟩
    have hlt := Heap.lt_size e
    refine wpAny_pyIter_tuple ht ?_
    refine K s.heap.objs.size (fun b => b = s.heap.objs.size ∨ b = l) (fun i v => vs[i]? = some v) (fun i h => h.IsTupleIter s.heap.objs.size l i ∧ h.IsTuple l vs.toArray) _ s.toks (fun b o e => Heap.get?_push_of_some _ e) (Heap.get?_none_of_le (Nat.le_refl _)) (.inl rfl) (fun b hb => ?_) (fun b hb => hb.imp id fun x => by rw [x]) hz
      (by rw [← rl.length]; exact itr_tup hh (l := l) (vs := vs) (Nat.ne_of_lt hlt)) ⟨⟨_, Heap.get?_push_size _ rfl, rfl, rfl⟩, ht.push _⟩ ?_
    · rcases hb with rfl | rfl
      · exact ⟨_, Heap.get?_push_size _ rfl⟩
      · exact ⟨o, Heap.get?_push_of_some _ e⟩
    · intro i v x hv hx
      obtain ⟨v', hv', rv⟩ := rl.get hx
      rw [hv] at hv'; cases hv'; exact rv
  · cases h
    simp only [RepO] at r
    obtain ⟨hz, l, vs, rfl, hl, rl⟩ := r
    obtain ⟨o, n, e, hc, hd, _⟩ := id hl
    have hlt := Heap.lt_size e
    refine wpAny_pyIter_list hl.isList ?_
    refine K s.heap.objs.size (fun b => b = s.heap.objs.size ∨ b = l) (fun i v => vs[i]? = some v) (fun i h => h.IsListIter s.heap.objs.size l i ∧ h.IsList l vs.toArray) _ s.toks (fun b o e => Heap.get?_push_of_some _ e) (Heap.get?_none_of_le (Nat.le_refl _)) (.inl rfl) (fun b hb => ?_) (fun b hb => hb.imp id fun x => by rw [x]) hz
      (by rw [← rl.length]; exact itr_list hh (l := l) (vs := vs) (Nat.ne_of_lt hlt)) ⟨⟨_, Heap.get?_push_size _ rfl, rfl, rfl⟩, hl.isList.push _⟩ ?_
    · rcases hb with rfl | rfl
      · exact ⟨_, Heap.get?_push_size _ rfl⟩
      · exact ⟨o, Heap.get?_push_of_some _ e⟩
    · intro i v x hv hx
      obtain ⟨v', hv', rv⟩ := rl.get hx
      rw [hv] at hv'; cases hv'; exact rv
end

theorem itemsW_ref {ld : Bool} {a : AV} {xs : List AV} (h : itemsW ld a = some xs) : (∀ n, a ≠ .ptr n) ∧ (∀ k ys, a ≠ .itr k ys) ∧ a ≠ .any :=
  ⟨by rintro b rfl; simp [itemsW, itemsV] at h, by rintro k ys rfl; simp [itemsW, itemsV] at h, by rintro rfl; simp [itemsW, itemsV] at h⟩
section
variable {c : Cx} {A : Around}
theorem itemsW_ok {ld q : Bool} {k : Nat} {s : Shared} {H : Hd} {a : AV} {va : Value} {xs : List AV} (hld : ld = !c.w.params.followText "set-order") (hm : Rm c q (k + 1) A s.heap) (hq : q = true) (r : RepO s.heap H va a) (h : itemsW ld a = some xs) (Q E : Value → Shared → Prop)
    (K : ∀ I fp P St h' tk, (∀ b o, s.heap.get? b = some o → h'.get? b = some o) → s.heap.get? I = none → fp I → (∀ b, fp b → ∃ o, h'.get? b = some o) → (∀ b, fp b → b = I ∨ va = .ref b) → xs.length ≤ 1048576 → Itr c A I fp P xs.length St → St 0 h' →
      (∀ (i : Nat) v x, P i v → xs[i]? = some x → Rep (vis s.heap H) v x) → Q (.ref I) { s with heap := h', toks := tk }) : wpAny c.M A (pyIter va) Q E s := by
  have hh := hm.hand hq
  unfold itemsW at h
  split at h
  · rename_i x
    split at h
    case isFalse => cases h
    rename_i ha
    split at h
    case isFalse => cases h
    rename_i hz
    cases h
    obtain ⟨t, rfl⟩ := r
    refine wpAny_pyIter_ascii ha ?_
    refine K s.heap.objs.size (fun b => b = s.heap.objs.size) (SignAt x) (fun i h => h.IsStrIter s.heap.objs.size "str_ascii_iterator" x t i) _ s.toks (fun b o e => Heap.get?_push_of_some _ e) (Heap.get?_none_of_le (Nat.le_refl _)) rfl (fun b hb => by subst hb; exact ⟨_, Heap.get?_push_size _ rfl⟩) (fun b hb => .inl hb) (by simpa using hz)
      (by rw [List.length_map, Array.length_toList]; exact itr_str hh) ⟨_, Heap.get?_push_size _ rfl, rfl, rfl⟩ ?_
    rintro i v y ⟨cc, u, h1, rfl⟩ hy
    rw [List.getElem?_map, Array.getElem?_toList, h1] at hy
    cases hy
    exact ⟨u, rfl⟩
  · rename_i b
    split at h
    case isFalse => cases h
    rename_i hz
    cases h
    obtain ⟨t, rfl⟩ := r
    refine KBw.pyIter_bytes ?_
    refine K s.heap.objs.size (fun b => b = s.heap.objs.size) (fun i v => ∃ c u, b[i]? = some c ∧ v = .int (c.toNat : Int) u) (fun i h => KBw.IsBytesIter h s.heap.objs.size b t i) _ s.toks (fun b o e => Heap.get?_push_of_some _ e) (Heap.get?_none_of_le (Nat.le_refl _)) rfl (fun b hb => by subst hb; exact ⟨_, Heap.get?_push_size _ rfl⟩) (fun b hb => .inl hb) (by simpa using hz)
      (by rw [List.length_map, Array.length_toList]; exact itr_bytes hh) ⟨_, Heap.get?_push_size _ rfl, rfl, rfl⟩ ?_
    rintro i v y ⟨cc, u, h1, rfl⟩ hy
    rw [List.getElem?_map, Array.getElem?_toList, h1] at hy
    cases hy
    exact ⟨u, rfl⟩
  · rename_i n
    split at h
    case isFalse => cases h
    rename_i hz
    cases h
    simp only [RepO, Rep] at r
    obtain ⟨d, es, ep, rfl, ⟨_, o, e, hc, hd, _⟩, rfl, hsys⟩ := r
    have hD : DictA s.heap d es ep := ⟨o, e, hc, hd⟩
    have hlt := Heap.lt_size e
    refine dict_pyIter hsys hD ?_
    refine K s.heap.objs.size (fun b => b = s.heap.objs.size ∨ b = d) (fun _ _ => True) (fun i h => h.IsKeyIter s.heap.objs.size d i es.size ep ∧ DictA h d es ep) _ s.toks (fun b o e => Heap.get?_push_of_some _ e) (Heap.get?_none_of_le (Nat.le_refl _)) (.inl rfl) (fun b hb => ?_) (fun b hb => hb.imp id fun x => by rw [x]) (by simpa using hz)
      (by rw [List.length_replicate]; exact itr_dict hh (Nat.ne_of_lt hlt)) ⟨⟨_, Heap.get?_push_size _ rfl, rfl, rfl⟩, ⟨o, Heap.get?_push_of_some _ e, hc, hd⟩⟩ ?_
    · rcases hb with rfl | rfl
      · exact ⟨_, Heap.get?_push_size _ rfl⟩
      · exact ⟨o, Heap.get?_push_of_some _ e⟩
    · intro i v y _ hy
      rw [List.eq_of_mem_replicate (List.mem_of_getElem? hy)]
      trivial
  · rename_i l n
    split at h
    case isFalse => cases h
    rename_i hl
    split at h
    case isFalse => cases h
    rename_i hz
    cases h
    simp only [RepO, Rep] at r
    obtain ⟨d, es, ep, t, rfl, ⟨_, o, e, hc, hd, _⟩, rfl, S⟩ := r
    rw [hl, hld] at S
    have hD : SetAt s.heap d es ep t := ⟨o, e, hc, hd⟩
    have hlt := Heap.lt_size e
    refine set_pyIter hD S ?_
    refine K s.heap.objs.size (fun b => b = s.heap.objs.size ∨ b = d) (fun _ _ => True) (fun i h => (∃ slot, SetItAt h s.heap.objs.size d i slot es.size ep ∧ StandsAt c.w t slot i) ∧ SetAt h d es ep t) _ s.toks (fun b o e => Heap.get?_push_of_some _ e) (Heap.get?_none_of_le (Nat.le_refl _)) (.inl rfl) (fun b hb => ?_) (fun b hb => hb.imp id fun x => by rw [x]) (by simpa using hz)
      (by rw [List.length_replicate]; exact itr_set hh S (Nat.ne_of_lt hlt)) ⟨⟨0, ⟨_, Heap.get?_push_size _ rfl, rfl, rfl⟩, .inr (below_zero S.rise)⟩, ⟨o, Heap.get?_push_of_some _ e, hc, hd⟩⟩ ?_
    · rcases hb with rfl | rfl
      · exact ⟨_, Heap.get?_push_size _ rfl⟩
      · exact ⟨o, Heap.get?_push_of_some _ e⟩
    · intro i v y _ hy
      rw [List.eq_of_mem_replicate (List.mem_of_getElem? hy)]
      trivial
  · exact itemsV_ok hm hq r h Q E K
end

theorem getItem_tupleI {prog : Program} {w : World} {A : Around} {E : Value → Shared → Prop} {s : Shared} {t : Addr} {items : Array Value} {i : Int} {u : Tok} {x : Value} {Q : Value → Shared → Prop} (ht : s.heap.IsTuple t items) (h0 : 0 ≤ i) (hi : i < 1048576) (hx : items[i.toNat]? = some x) (h : Q x s) : wpAny (model prog w) A (getItem (.ref t) (.int i u)) Q E s := by
  have hlt : i.toNat < items.size := by
    rcases Nat.lt_or_ge i.toNat items.size with h | h
    · exact h
    · rw [Array.getElem?_eq_none h] at hx; cases hx
  refine PyProof.Rows.getItem_tuple (j := i.toNat) ht (by omega) (by omega) ?_ hx h
  simp [seqIndex?, h0, hlt]
  omega
/- looks at plain values -/
/- the built-ins' calls -/
noncomputable def tyName : AV → Option String
  | .none => some "NoneType"
  | .bool _ => some "bool"
  | .int _ => some "int"
  | .float _ => some "float"
  | .str _ => some "str"
  | .bytes _ => some "bytes"
  | .lst _ => some "list"
  | .tup _ => some "tuple"
  | .range _ _ _ => some "range"
  | .itr k _ => some k.cls
  | _ => none
theorem tyName_ok {s : Shared} {H : Hd} {v : Value} {x : AV} {T : String} (h : tyName x = some T) (r : RepO s.heap H v x) : s.TypeIs v T := by
  cases x with
  | none => cases h; cases r; rfl
  | bool => cases h; cases r; rfl
  | int => cases h; obtain ⟨t, rfl⟩ := r; rfl
  | float => cases h; obtain ⟨t, rfl⟩ := r; rfl
  | str => cases h; obtain ⟨t, rfl⟩ := r; rfl
  | bytes => cases h; obtain ⟨t, rfl⟩ := r; rfl
  | range => cases h; simp only [RepO, Rep] at r; obtain ⟨r, ta, tb, ts, rfl, _, o, e, hc, _⟩ := r; exact ⟨o, e, hc⟩
  | tup => cases h; simp only [RepO, Rep] at r; obtain ⟨_, l, vs, n, rfl, ⟨_, o, e, hc, _⟩, _⟩ := r; exact ⟨o, e, hc⟩
  | lst => cases h; obtain ⟨_, l, vs, rfl, hl, _⟩ := r; exact hl.typeIs
  | itr => cases h; obtain ⟨l, rfl, o, e, hc, _⟩ := r; exact ⟨o, e, hc⟩
  | _ => cases h
theorem cls_nb : ∀ k : IK, (Value.type k.cls == Value.type "builtin_function_or_method") = false
  | .list => by decide
  | .tuple => by decide
  | .range => by decide
theorem tyName_nb {x : AV} {T : String} (h : tyName x = some T) : (Value.type T == Value.type "builtin_function_or_method") = false := by
  cases x with
  | itr k _ => cases h; exact cls_nb k
  | _ => cases h <;> decide

theorem repOL1 {h : Heap} {H : Hd} {vs : List Value} {x : AV} (r : RepOL h H vs [x]) : ∃ v, vs = [v] ∧ RepO h H v x := by
  cases vs with
  | nil => exact r.elim
  | cons v vs => cases vs with
    | nil => exact ⟨v, rfl, r.1⟩
    | cons => exact r.2.elim
theorem repOL2 {h : Heap} {H : Hd} {vs : List Value} {x y : AV} (r : RepOL h H vs [x, y]) : ∃ v w, vs = [v, w] ∧ RepO h H v x ∧ RepO h H w y := by
  cases vs with
  | nil => exact r.elim
  | cons v vs =>
    obtain ⟨w, rfl, q⟩ := repOL1 r.2
    exact ⟨v, w, rfl, r.1, q⟩

theorem repOL3 {h : Heap} {H : Hd} {vs : List Value} {x y z : AV} (r : RepOL h H vs [x, y, z]) : ∃ v w u, vs = [v, w, u] ∧ RepO h H v x ∧ RepO h H w y ∧ RepO h H u z := by
  cases vs with
  | nil => exact r.elim
  | cons v vs =>
    obtain ⟨w, u, rfl, q⟩ := repOL2 r.2
    exact ⟨v, w, u, rfl, r.1, q⟩
theorem rep_fresh_range {H : Hd} {s : Shared} {a b st : Int} {t u v : Tok} (hL : Live H s.heap) :
    Rep (vis (s.heap.push { cls := .type "range", data := .fields #[.int a t, .int b u, .int st v] }) H) (.ref s.heap.objs.size) (.range a b st) := by
  simp only [Rep]
  exact ⟨_, t, u, v, rfl, hL.fresh, _, Heap.get?_push_size _ rfl, rfl, rfl, rfl, .inr (.inr (.inl rfl)), fun _ => rfl⟩

section
variable {c : Cx} {q : Bool} {k : Nat} {A : Around} {s : Shared} {H : Hd} {Q E : Value → Shared → Prop}
end

section
variable {c : Cx} {k : Nat} {A : Around} {s : Shared} {H : Hd} {vs : List Value}
/-- lengths of other things -/
noncomputable def lenV : AV → Res
  | .itr _ _ => .exc .te
  | .int _ => .exc .te
  | .none => .exc .te
  | .str x => if x.length ≤ 1048576 then .ok (.int x.length) else .stuck
  | .bytes b => if b.size ≤ 1048576 then .ok (.int b.size) else .stuck
  | .tup ys => .ok (.int ys.length)
  | .range a b z => if (Builtin.Range.rangeSize a b z).toNat ≤ 1048576 then .ok (.int (Builtin.Range.rangeSize a b z).toNat) else .stuck
  | .dict n => if n ≤ 1048576 then .ok (.int n) else .stuck
  | .sm _ n => if n ≤ 1048576 then .ok (.int n) else .stuck
  | _ => .stuck
noncomputable def b_len : List AV → Res
  | [.lst ys] => .ok (.int ys.length)
  | [x] => lenV x
  | _ => .stuck
theorem lenV_ok {x : AV} {v : Value} (hm : Rm c true (k + 1) A s.heap) (r : RepO s.heap H v x) : Tr c true A H (PySem.call (.builtin "len") [v]) (lenV x) s := by
  unfold lenV
  split
  · obtain ⟨l, rfl, hi⟩ := r
    exact len_itr hm hi
  · obtain ⟨t, rfl⟩ := r; exact len_i hm
  · cases r; exact len_n hm
  · rename_i x
    obtain ⟨t, rfl⟩ := r
    split
    · exact fun Q E P => PySem.P.len_str (by omega) (P _ _ Kp.toks ⟨_, rfl⟩)
    · exact Tr.stuck
  · obtain ⟨t, rfl⟩ := r
    split
    · exact fun Q E P => len_bytes (by omega) (P _ _ Kp.toks ⟨_, rfl⟩)
    · exact Tr.stuck
  · rename_i ys
    have r : Rep (vis s.heap H) v (.tup ys) := r
    simp only [Rep] at r
    obtain ⟨hz, l, vs, n, rfl, ⟨_, o, e, hc, hd, _⟩, rl⟩ := r
    have hle := rl.length
    exact fun Q E P => PyProof.Rows.len_tuple (items := List.toArray vs) ⟨o, e, hc, n, hd⟩ (by simp; omega) (P _ _ Kp.toks ⟨_, by simp [hle]; rfl⟩)
  · rename_i a b z
    have r : Rep (vis s.heap H) v (.range a b z) := r
    simp only [Rep] at r
    obtain ⟨rr, ta, tb, ts, rfl, _, o, e, hc, hd, hdi, _, hsl⟩ := r
    have hr : IsRange s.heap rr a b z ta tb ts := by
      show s.heap.get? rr = _
      rw [e]; obtain ⟨c', d', da', sl'⟩ := o
      simp only at hc hd hdi hsl
      rw [hc, hd, hdi, hsl ⟨_, rfl⟩]
    split
    · have h0 := rangeSize_nonneg a b z
      exact fun Q E P => PySem.call_len_range hr (n := (Builtin.Range.rangeSize a b z).toNat) (by omega) (by omega) (P _ _ Kp.toks ⟨_, rfl⟩)
    · exact Tr.stuck
  · rename_i n
    have r : Rep (vis s.heap H) v (.dict n) := r
    simp only [Rep] at r
    obtain ⟨d, es, ep, rfl, ⟨_, o, e, hc, hd, _⟩, rfl, hsys⟩ := r
    split
    · exact fun Q E P => dict_len hsys ⟨o, e, hc, hd⟩ (by omega) (P _ _ Kp.toks ⟨_, rfl⟩)
    · exact Tr.stuck
  · rename_i l n
    have r : Rep (vis s.heap H) v (.sm l n) := r
    simp only [Rep] at r
    obtain ⟨d, es, ep, t, rfl, ⟨_, o, e, hc, hd, _⟩, rfl, S⟩ := r
    split
    · exact fun Q E P => set_len ⟨o, e, hc, hd⟩ S.fits (by omega) (P _ _ Kp.toks ⟨_, rfl⟩)
    · exact Tr.stuck
  · exact Tr.stuck
theorem b_len_ok {xs : List AV} (hm : Rm c true (k + 1) A s.heap) (r : RepOL s.heap H vs xs) : Tr c true A H (PySem.call (.builtin "len") vs) (b_len xs) s := by
  unfold b_len
  split
  · obtain ⟨v, rfl, hz, l, ws, rfl, hl, rl⟩ := repOL1 r
    exact fun Q E P => PySem.Calls.call_len_list hl.isList (by simp [rl.length]; omega) (P _ _ Kp.toks ⟨_, by simp [rl.length]; rfl⟩)
  · obtain ⟨v, rfl, rv⟩ := repOL1 r
    exact lenV_ok hm rv
  · exact Tr.stuck
noncomputable def isInt? : AV → Option Bool
  | .int _ => some true
  | .bool _ => some true
  | .str _ => some false
  | .none => some false
  | .lst _ => some false
  | _ => none
noncomputable def isBool? : AV → Option Bool
  | .int _ => some false
  | .bool _ => some true
  | _ => none
noncomputable def b_isinstance : List AV → Res
  | [x, y] => if y.type? = some "int" then (match isInt? x with | some b => .ok (.bool b) | none => .stuck) else if y.type? = some "bool" then (match isBool? x with | some b => .ok (.bool b) | none => .stuck) else .stuck
  | _ => .stuck
theorem isi_ty : typeOf (.type "int") = pure (.type "type") := by kernel_rfl
theorem isi_int : isSubtype (.type "int") (.type "int") = pure true := by rw [isSubtype_type]; kernel_rfl
theorem isi_bool : isSubtype (.type "bool") (.type "int") = pure true := by rw [isSubtype_type]; kernel_rfl
theorem b_isinstance_ok {xs : List AV} (r : RepOL s.heap H vs xs) : Tr c true A H (PySem.call (.builtin "isinstance") vs) (b_isinstance xs) s := by
  unfold b_isinstance
  split
  · rename_i x y
    obtain ⟨v, w, rfl, rx, ry⟩ := repOL2 r
    split
    · rename_i hy
      rw [type?_eq hy] at ry
      have ry : w = .type "int" := ry
      subst ry
      cases x with
      | int i => obtain ⟨t, rfl⟩ := rx; exact fun Q E P => call_isinstance_yes (Tx := "int") rfl isi_ty isi_int (P _ _ (Kp.refl _ _) rfl)
      | bool b => cases rx; exact fun Q E P => call_isinstance_yes (Tx := "bool") rfl isi_ty isi_bool (P _ _ (Kp.refl _ _) rfl)
      | str z => obtain ⟨t, rfl⟩ := rx; exact fun Q E P => no_str (P _ _ Kp.toks rfl)
      | none => cases rx; exact fun Q E P => no_none (P _ _ Kp.toks rfl)
      | lst z => obtain ⟨_, l, ws, rfl, hl, _⟩ := rx; exact fun Q E P => no_list (let ⟨o, _, e, hc, _⟩ := hl; ⟨o, e, hc⟩) (P _ _ Kp.toks rfl)
      | _ => exact Tr.stuck
    · split
      case isFalse => exact Tr.stuck
      rename_i hy
      rw [type?_eq hy] at ry
      have ry : w = .type "bool" := ry
      subst ry
      cases x with
      | int i => obtain ⟨t, rfl⟩ := rx; exact fun Q E P => no_intb (P _ _ Kp.toks rfl)
      | bool b => cases rx; exact fun Q E P => call_isinstance_yes (Tx := "bool") rfl ty_bool sub_bb (P _ _ (Kp.refl _ _) rfl)
      | _ => exact Tr.stuck
  · exact Tr.stuck
noncomputable def b_chr : List AV → Res
  | [.int i] => if 0 ≤ i ∧ i ≤ 1114111 then .ok (.str ⟨#[i.toNat]⟩) else .stuck
  | _ => .stuck
theorem b_chr_ok {xs : List AV} (r : RepOL s.heap H vs xs) : Tr c true A H (PySem.call (.builtin "chr") vs) (b_chr xs) s := by
  unfold b_chr
  split
  · obtain ⟨v, rfl, t, rfl⟩ := repOL1 r
    split
    · rename_i h
      exact fun Q E P => PyProof.Rows.chr_of_range h.1 h.2 (P _ _ Kp.toks ⟨_, rfl⟩)
    · exact Tr.stuck
  · exact Tr.stuck
noncomputable def b_range : List AV → Res
  | [.int n] => .ok (.range 0 n 1)
  | [.int a, .int b] => .ok (.range a b 1)
  | [.int a, .int b, .int z] => if z = 0 then .stuck else if Builtin.divisionGoesByPylong (b - a) z = true then .stuck else .ok (.range a b z)
  | _ => .stuck
theorem b_range_ok {xs : List AV} (hL : Live H s.heap) (r : RepOL s.heap H vs xs) : Tr c true A H (PySem.call (.type "range") vs) (b_range xs) s := by
  unfold b_range
  split
  · obtain ⟨v, rfl, t, rfl⟩ := repOL1 r
    exact fun Q E P => call_range_1 (P _ _ (Kp.of fun _ _ e => Heap.get?_push_of_some _ e) (rep_fresh_range hL))
  · obtain ⟨v, w, rfl, ⟨t, rfl⟩, u, rfl⟩ := repOL2 r
    exact fun Q E P => call_range_2 (P _ _ (Kp.of fun _ _ e => Heap.get?_push_of_some _ e) (rep_fresh_range hL))
  · rename_i a b z
    obtain ⟨v, w, u, rfl, ⟨t1, rfl⟩, ⟨t2, rfl⟩, t3, rfl⟩ := repOL3 r
    split
    · exact Tr.stuck
    · rename_i hz
      split
      · exact Tr.stuck
      · rename_i hp
        exact fun Q E P => PySem.call_range_3 hz (P _ _ (Kp.of fun _ _ e => Heap.get?_push_of_some _ e) (rep_fresh_range hL)) (.inl (by simpa using hp))
  · exact Tr.stuck
noncomputable def b_type : List AV → Res
  | [x] => (match tyName x with | some T => .ok (.type T) | none => .stuck)
  | _ => .stuck
theorem b_type_ok {xs : List AV} (r : RepOL s.heap H vs xs) : Tr c true A H (PySem.call (.type "type") vs) (b_type xs) s := by
  unfold b_type
  split
  · obtain ⟨v, rfl, rr⟩ := repOL1 r
    split
    · rename_i T hT
      exact fun Q E P => call_type_of (tyName_ok hT rr) (tyName_nb hT) (P _ _ (Kp.refl _ _) rfl)
    · exact Tr.stuck
  · exact Tr.stuck
noncomputable def b_tuple : List AV → Res
  | [.lst ys] => .ok (.tup ys)
  | _ => .stuck
theorem b_tuple_ok {xs : List AV} (hL : Live H s.heap) (r : RepOL s.heap H vs xs) : Tr c true A H (PySem.call (.type "tuple") vs) (b_tuple xs) s := by
  unfold b_tuple
  split
  · obtain ⟨v, rfl, hz, l, ws, rfl, hl, rl⟩ := repOL1 r
    exact tup_of_list hL hl hz rl
  · exact Tr.stuck
noncomputable def inByte (n : Int) : Bool := decide (0 ≤ n ∧ n < 256)
noncomputable def b_bytes : List AV → Res
  | [.lst ys] => (match ints? ys with | some ns => if ns.all inByte = true then (if ns.length ≤ 1048576 then .ok (.bytes (byteArr ns)) else .stuck) else .stuck | none => .stuck)
  | _ => .stuck
theorem b_bytes_ok {xs : List AV} (hm : Rm c true (k + 1) A s.heap) (r : RepOL s.heap H vs xs) : Tr c true A H (PySem.call (.type "bytes") vs) (b_bytes xs) s := by
  unfold b_bytes
  split
  · obtain ⟨v, rfl, hz, l, ws, rfl, hl, rl⟩ := repOL1 r
    split
    · rename_i ns hn
      split
      · rename_i hr
        split
        · rename_i hz'
          exact bytes_of_list hm hl (ints_are hn rl) (fun n h => by have := List.all_eq_true.mp hr n h; simpa [inByte] using this) hz'
        · exact Tr.stuck
      · exact Tr.stuck
    · exact Tr.stuck
  · exact Tr.stuck
end
/-- the built-ins' calls -/
noncomputable def callB (f : BI) (xs : List AV) : Res := match f with
  | .len => b_len xs
  | .range => b_range xs
  | .type => b_type xs
  | .tuple => b_tuple xs
  | .bytes => b_bytes xs
  | .isinstance => b_isinstance xs
  | .chr => b_chr xs
  | _ => .stuck
theorem callB_ok {c : Cx} {k : Nat} {A : Around} {s : Shared} {H : Hd} {f : BI} {v : Value} {xs : List AV} {vs : List Value} (hm : Rm c true (k + 1) A s.heap) (hL : Live H s.heap) (r : RepOL s.heap H vs xs) (hv : bootBuiltins (f.name : Str) = some v) :
    Tr c true A H (PySem.call v vs) (callB f xs) s := by
  have e : v = f.val := by have := BI.boot f; exact Option.some.inj (hv.symm.trans this)
  subst e
  cases f with
  | len => exact b_len_ok hm r
  | range => exact b_range_ok hL r
  | type => exact b_type_ok r
  | tuple => exact b_tuple_ok hL r
  | bytes => exact b_bytes_ok hm r
  | isinstance => exact b_isinstance_ok r
  | chr => exact b_chr_ok r
  | _ => exact Tr.stuck

/- the words together -/
noncomputable def addV (a b : AV) : Res :=
  two AV.lst? a b (fun a b => if a.length + b.length ≤ 1048576 then .ok (.lst (a ++ b)) else .stuck)
  (two AV.tup? a b (fun a b => if a.length + b.length ≤ 1048576 then .ok (.tup (a ++ b)) else .stuck)
  (two AV.str? a b (fun a b => if a.length + b.length ≤ 1048576 then .ok (.str (a ++ b)) else .stuck)
  (two AV.bytes? a b (fun a b => if a.size + b.size ≤ 1048576 then .ok (.bytes (a ++ b)) else .stuck) .stuck)))
noncomputable def modS (a b : AV) : Res := two AV.str? a b (fun f y => if f = fmtI then (if y.length ≤ 1000000 then .ok .any else .stuck) else .stuck) .stuck
noncomputable def opBin (op : Operator) (a b : AV) : Res := two AV.int? a b (intBin op) (match op with
  | .Add => addV a b
  | .Mod => modS a b
  | _ => .stuck)
noncomputable def opInpl (_op : Operator) (_x _y : AV) : Res := .stuck
noncomputable def opUn (op : UnaryOp) : AV → Res
  | .int a => match op with | .USub => .ok (.int (-a)) | _ => .stuck
  | _ => .stuck
noncomputable def ordV (_op : CmpOp) (_a _b : AV) : Option Bool := none
noncomputable def intA (op : CmpOp) : AV → AV → Option Bool
  | .int a, .int b => intCmp op a b
  | _, _ => none
noncomputable def ordA (op : CmpOp) (x y : AV) : Option Bool := match intA op x y with
  | some r => some r
  | none => ordV op x y
noncomputable def opCmp (op : CmpOp) (x y : AV) : Option Bool := match op with
  | .Eq => eqCmp .Eq x y
  | .Lt => ordA .Lt x y
  | .Gt => ordA .Gt x y
  | _ => none
noncomputable def opTruth : AV → Option Bool
  | .bool b => some b
  | .int a => some (a != 0)
  | .none => some false
  | .lst xs => some (!xs.isEmpty)
  | _ => none
noncomputable def opIdx : AV → AV → Res
  | .lst xs, .int i => idxL xs i
  | .tup xs, .int i => if 0 ≤ i then (match xs[i.toNat]? with | some x => .ok x | none => .stuck) else .stuck
  | .str x, .int i => idxS x i
  | _, _ => .stuck
noncomputable def opSlice : AV → AV → AV → AV → Res
  | .lst xs, a, b, z => sliceL xs a b z
  | _, _, _, _ => .stuck
noncomputable def noneIs : AV → Option Bool
  | .none => some true
  | .lst _ => some false
  | .int _ => some false
  | _ => none
noncomputable def opIs (a b : AV) : Option Bool := two AV.type? a b (fun x y => some (x == y)) (if b.none? = true then noneIs a else none)
noncomputable def opOmeth (_m : OMI) (_xs _args : List AV) : Option (List AV) := none
noncomputable def mt_str (a : AV) : Option String := a.str?.map fun _ => "str"
noncomputable def mt_lst (a : AV) : Option String := a.lst?.map fun _ => "list"
noncomputable def opMty (m : MI) (a : AV) : Option String := match m with
  | .join => mt_str a
  | .index => mt_lst a
  | .count => mt_lst a
  | _ => none
noncomputable def m_join (a : AV) (xs : List AV) : Res := match a.str?, xs with
  | some x, [.lst ys] => (match strs? ys with
    | some zs => if x.length ≤ 16 then (if (zs.map (·.length)).sum + zs.length ≤ 1048576 then .ok (.str (Txt.join x zs)) else .stuck) else .stuck
    | none => .stuck)
  | _, _ => .stuck
noncomputable def intsArg (a : AV) (xs : List AV) (f : List Int → Int → Res) : Res := match a.lst?, xs with
  | some ys, [x] => (match ints? ys, x.int? with
    | some ns, some i => f ns i
    | _, _ => .stuck)
  | _, _ => .stuck
noncomputable def m_index (a : AV) (xs : List AV) : Res := intsArg a xs fun ns i => if i ∈ ns then .ok (.int (ns.idxOf i : Nat)) else .stuck
noncomputable def m_count (a : AV) (xs : List AV) : Res := intsArg a xs fun ns i => .ok (.int (ns.count i : Nat))
noncomputable def opMeth (m : MI) (a : AV) (xs : List AV) : Res := match m with
  | .join => m_join a xs
  | .index => m_index a xs
  | .count => m_count a xs
  | _ => .stuck
noncomputable def opAttr (n : TA) (a : AV) : Res := match n with
  | .lengthHint => (match a.type? with
    | some T => if T = IK.cls .list then .ok (.fn (IK.hint .list)) else if T = IK.cls .tuple then .ok (.fn (IK.hint .tuple)) else if T = IK.cls .range then .ok (.fn (IK.hint .range)) else if T = "int" then .exc .ae else if T = "NoneType" then .exc .ae else .stuck
    | none => .stuck)
  | .name_ => (match a.type? with
    | some T => if T = "str" then .ok (.str (Str.ofString "str")) else if T = "NoneType" then .ok (.str (Str.ofString "NoneType")) else if T = "list" then .ok (.str (Str.ofString "list")) else .stuck
    | none => .stuck)
noncomputable def opFcall (id : String) : List AV → Res
  | [.itr k ys] => if id = k.hint then .ok (.int ys.length) else .stuck
  | _ => .stuck
noncomputable def ops (ld : Bool) : OpsF where
  ld := ld
  bin := opBin
  inpl := opInpl
  un := opUn
  cmp := opCmp
  truth := opTruth
  idx := opIdx
  slice := opSlice
  bcall := callB
  mty := opMty
  meth := opMeth
  items := itemsW ld
  is_ := opIs
  attr := opAttr
  fcall := opFcall
  ometh := opOmeth
section
variable {c : Cx} {q : Bool} {k : Nat} {A : Around} {s : Shared} {H : Hd}
theorem addV_ok {a b : AV} {va vb : Value} (hL : Live H s.heap) (ra : RepO s.heap H va a) (rb : RepO s.heap H vb b) : Tr c q A H (binaryOp .Add va vb) (addV a b) s := by
  refine two_cases (P := fun r => Tr c q A H (binaryOp .Add va vb) r s) (fun x y ea eb => ?_) (two_cases (P := fun r => Tr c q A H (binaryOp .Add va vb) r s) (fun x y ea eb => ?_) (two_cases (P := fun r => Tr c q A H (binaryOp .Add va vb) r s) (fun x y ea eb => ?_) (two_cases (P := fun r => Tr c q A H (binaryOp .Add va vb) r s) (fun x y ea eb => ?_) Tr.stuck)))
  · rw [lst?_eq ea] at ra; rw [lst?_eq eb] at rb
    obtain ⟨hz, l, vs, rfl, hl, rl⟩ := ra; obtain ⟨hz', l', vs', rfl, hl', rl'⟩ := rb
    split
    · exact lists_add hL hl hl' rl rl' (by assumption)
    · exact Tr.stuck
  · rw [tup?_eq ea] at ra; rw [tup?_eq eb] at rb
    split
    · exact tups_add hL ra rb (by assumption)
    · exact Tr.stuck
  · rw [str?_eq ea] at ra; rw [str?_eq eb] at rb
    obtain ⟨t, rfl⟩ := ra; obtain ⟨u, rfl⟩ := rb
    split
    · exact strs_add (by assumption)
    · exact Tr.stuck
  · rw [bytes?_eq ea] at ra; rw [bytes?_eq eb] at rb
    obtain ⟨t, rfl⟩ := ra; obtain ⟨u, rfl⟩ := rb
    split
    · exact bytes_add (by assumption)
    · exact Tr.stuck
theorem modS_ok {a b : AV} {va vb : Value} (ra : RepO s.heap H va a) (rb : RepO s.heap H vb b) : Tr c q A H (binaryOp .Mod va vb) (modS a b) s := by
  refine two_cases (P := fun r => Tr c q A H (binaryOp .Mod va vb) r s) (fun x y ea eb => ?_) Tr.stuck
  rw [str?_eq ea] at ra; rw [str?_eq eb] at rb
  obtain ⟨t, rfl⟩ := ra; obtain ⟨u, rfl⟩ := rb
  split
  · rename_i hf
    subst hf
    split
    · rename_i hz
      exact fun Q E P => mod_fmt hz fun z t' k => P _ _ Kp.toks trivial
    · exact Tr.stuck
  · exact Tr.stuck
theorem opBin_ok {op : Operator} {a b : AV} {va vb : Value} (hm : Rm c q (k + 1) A s.heap) (hL : Live H s.heap) (ra : RepO s.heap H va a) (rb : RepO s.heap H vb b) : Tr c q A H (binaryOp op va vb) (opBin op a b) s := by
  refine two_cases (P := fun r => Tr c q A H (binaryOp op va vb) r s) (fun x y ea eb => ?_) ?_
  · rw [int?_eq ea] at ra; rw [int?_eq eb] at rb
    obtain ⟨t, rfl⟩ := ra; obtain ⟨u, rfl⟩ := rb; exact intBin_ok hm
  · cases op with
    | Add => exact addV_ok hL ra rb
    | Mod => exact modS_ok ra rb
    | _ => exact Tr.stuck
theorem opInpl_ok {op : Operator} {a b : AV} {va vb : Value} (hm : Rm c q (k + 1) A s.heap) (ra : RepO s.heap H va a) (rb : RepO s.heap H vb b) : Tr c q A H (inplaceOp op va vb) (opInpl op a b) s := Tr.stuck
theorem opUn_ok {op : UnaryOp} {a : AV} {va : Value} (ra : RepO s.heap H va a) : Tr c q A H (unaryOp op va) (opUn op a) s := by
  unfold opUn
  split
  · obtain ⟨t, rfl⟩ := ra
    split
    · exact fun Q E P => PySem.P.neg_int (P _ _ Kp.toks ⟨_, rfl⟩)
    · exact Tr.stuck
  · exact Tr.stuck
theorem type_beq (x y : String) : (Value.type x == Value.type y) = (x == y) := by
  by_cases hxy : x = y
  · subst hxy; simp
  · rw [beq_eq_false_iff_ne.mpr hxy, beq_eq_false_iff_ne.mpr (fun z => hxy (by injection z))]
theorem intA_ok {op : CmpOp} {a b : AV} {va vb : Value} {r : Bool} (ra : RepO s.heap H va a) (rb : RepO s.heap H vb b) (h : intA op a b = some r) : Tr c q A H (compareOp op va vb) (.ok (.bool r)) s := by
  unfold intA at h
  split at h
  · obtain ⟨t, rfl⟩ := ra; obtain ⟨u, rfl⟩ := rb; exact intCmp_ok h
  · cases h
theorem ordA_ok {op : CmpOp} {a b : AV} {va vb : Value} {r : Bool} (ra : RepO s.heap H va a) (rb : RepO s.heap H vb b) (h : ordA op a b = some r) (hv : ordV op a b = some r → Tr c q A H (compareOp op va vb) (.ok (.bool r)) s) : Tr c q A H (compareOp op va vb) (.ok (.bool r)) s := by
  unfold ordA at h
  split at h
  · rename_i r' h'; cases h; exact intA_ok ra rb h'
  · exact hv h
theorem opCmp_ok {op : CmpOp} {a b : AV} {va vb : Value} {r : Bool} (hm : Rm c q (k + 1) A s.heap) (ra : RepO s.heap H va a) (rb : RepO s.heap H vb b) (h : opCmp op a b = some r) : Tr c q A H (compareOp op va vb) (.ok (.bool r)) s := by
  cases op with
  | Eq => exact eqCmp_ok hm h ra rb
  | Lt => exact ordA_ok ra rb h fun h => nomatch (show none = some _ from h)
  | Gt => exact ordA_ok ra rb h fun h => nomatch (show none = some _ from h)
  | _ => cases h
theorem opTruth_ok {a : AV} {va : Value} {r : Bool} (ra : RepO s.heap H va a) (h : opTruth a = some r) : TrB c A (truthy va) r s := by
  unfold opTruth at h
  split at h
  · cases h; cases ra; exact fun Q E P => wpAny_truthy_bool (P _ (Kp.refl _ _))
  · cases h; obtain ⟨t, rfl⟩ := ra; exact fun Q E P => PySem.P.truthy_int (P _ (Kp.refl _ _))
  · cases h; cases ra; exact fun Q E P => truthy_none (P _ (Kp.refl _ _))
  · cases h; obtain ⟨hz, l, vs, rfl, hl, rl⟩ := ra; exact truthL_ok hl hz rl
  · cases h
theorem opIdx_ok {a b : AV} {va vb : Value} (ra : RepO s.heap H va a) (rb : RepO s.heap H vb b) : Tr c q A H (getItem va vb) (opIdx a b) s := by
  unfold opIdx
  split
  · obtain ⟨hz, l, vs, rfl, hl, rl⟩ := ra; obtain ⟨u, rfl⟩ := rb
    exact idxL_ok hl hz rl
  · rename_i xs i
    have ra : Rep (vis s.heap H) va (.tup xs) := ra
    simp only [Rep] at ra
    obtain ⟨hz, l, vs, n, rfl, ⟨_, ⟨oc, od, odt, os⟩, e, hc, hd, hdi, _⟩, rl⟩ := ra
    obtain ⟨u, rfl⟩ := rb
    split
    · rename_i h0
      split
      · rename_i x hx
        intro Q E P
        obtain ⟨v, hv, rv⟩ := rl.get hx
        have hlt : i.toNat < xs.length := by obtain ⟨h, _⟩ := List.getElem?_eq_some_iff.mp hx; exact h
        have hsz : vs.toArray.size = xs.length := by rw [List.size_toArray, rl.length]
        exact getItem_tupleI ⟨_, e, hc, n, hd⟩ h0 (by omega) (by simpa using hv) (P _ _ (Kp.refl _ _) rv)
      · exact Tr.stuck
    · exact Tr.stuck
  · obtain ⟨t, rfl⟩ := ra; obtain ⟨u, rfl⟩ := rb; exact idxS_ok
  · exact Tr.stuck
theorem opIdx_ty {a b : AV} {va : Value} (ra : RepO s.heap H va a) (h : opIdx a b ≠ .stuck) : ∃ T id, s.TypeIs va T ∧ typeLookup (.type T) "__getitem__" = pure (some (.builtin id)) := by
  unfold opIdx at h
  split at h
  · obtain ⟨hz, l, vs, rfl, hl, rl⟩ := ra
    exact ⟨"list", _, hl.typeIs, list_getitem_lookup⟩
  · rename_i xs i
    have ra : Rep (vis s.heap H) va (.tup xs) := ra
    simp only [Rep] at ra
    obtain ⟨hz, l, vs, n, rfl, ⟨_, o, e, hc, _⟩, rl⟩ := ra
    exact ⟨"tuple", _, ⟨o, e, hc⟩, F.slot_tuple_getitem.lookup⟩
  · obtain ⟨t, rfl⟩ := ra; exact ⟨"str", _, rfl, lk_str_gi⟩
  · exact absurd rfl h
theorem opSlice_ok {a x y z : AV} {va : Value} {r : Addr} {ux uy uz : Value} (hL : Live H s.heap) (ra : RepO s.heap H va a) (h1 : Rep (vis s.heap H) ux x) (h2 : Rep (vis s.heap H) uy y) (h3 : Rep (vis s.heap H) uz z)
    (hr : s.heap.get? r = some { cls := .type "slice", data := .fields #[ux, uy, uz] }) : Tr c q A H (getItem va (.ref r)) (opSlice a x y z) s := by
  unfold opSlice
  split
  · obtain ⟨hz, l, vs, rfl, hl, rl⟩ := ra
    exact sliceL_ok hL hl hz rl h1 h2 h3 hr
  · exact Tr.stuck
theorem opSlice_ty {a x y z : AV} {va : Value} (ra : RepO s.heap H va a) (h : opSlice a x y z ≠ .stuck) : ∃ T id, s.TypeIs va T ∧ typeLookup (.type T) "__getitem__" = pure (some (.builtin id)) := by
  unfold opSlice at h
  split at h
  · obtain ⟨hz, l, vs, rfl, hl, rl⟩ := ra
    exact ⟨"list", _, hl.typeIs, list_getitem_lookup⟩
  · exact absurd rfl h
theorem opIs_ok {op : CmpOp} {a b : AV} {va vb : Value} {r : Bool} (ra : Rep (vis s.heap H) va a) (rb : Rep (vis s.heap H) vb b) (h : opIs a b = some r) (hop : op = .Is ∨ op = .IsNot) : Tr c q A H (compareOp op va vb) (.ok (.bool (if op = .Is then r else !r))) s := by
  revert h
  refine two_cases (P := fun o => o = some r → Tr c q A H (compareOp op va vb) (.ok (.bool (if op = .Is then r else !r))) s) (fun x y ea eb h => ?_) fun h => ?_
  · rw [type?_eq ea] at ra; rw [type?_eq eb] at rb
    cases h
    simp only [Rep] at ra rb
    subst ra; subst rb
    rcases hop with rfl | rfl
    · rw [if_pos rfl]
      refine plainCmp_ok rfl ?_
      rw [type_beq]; rfl
    · rw [if_neg (by decide)]
      refine plainCmp_ok rfl ?_
      rw [type_beq]; rfl
  · split at h
    · rename_i hb
      rw [none?_eq hb] at rb
      simp only [Rep] at rb
      subst rb
      cases a with
      | none => cases h; cases ra; exact is_of (b := true) (fun Q' hq => wpAny_of_eq (rfl : isSame .none .none = pure true) hq) hop
      | lst xs =>
        cases h
        simp only [Rep] at ra
        obtain ⟨_, l, vs, n, rfl, _⟩ := ra
        exact is_of (b := false) (fun Q' hq => wpAny_of_eq (rfl : isSame (.ref l) .none = pure false) hq) hop
      | int i => cases h; obtain ⟨t, rfl⟩ := ra; exact is_of (b := false) (fun Q' hq => wpAny_of_eq (rfl : isSame (.int _ t) .none = pure false) hq) hop
      | _ => cases h
    · cases h
theorem RepL.take {R : Vw} : ∀ {xs : List AV} {vs : List Value} (n : Nat), RepL R vs xs → RepL R (vs.take n) (xs.take n)
  | _, _, 0, _ => by simp [RepL]
  | [], [], _ + 1, _ => by simp [RepL]
  | [], _ :: _, _, r => by simp [RepL] at r
  | _ :: _, [], _, r => by simp [RepL] at r
  | x :: xs, v :: vs, n + 1, r => by
    simp only [RepL] at r
    simp only [List.take_succ_cons, RepL]
    exact ⟨r.1, RepL.take n r.2⟩
theorem opOmeth_ok {m : OMI} {D : Addr} {vs : List Value} {xs : List AV} {ws : List Value} {args xs' : List AV} (hl : IsL s.heap D vs) (hz : xs.length ≤ 1048576) (r : RepL (vis s.heap H) vs xs) (ra : RepL (vis s.heap H) ws args) (h : opOmeth m xs args = some xs') (Q E : Value → Shared → Prop)
    (K : ∀ h' vs' tk, IsL h' D vs' → xs'.length ≤ 1048576 → RepL (vis s.heap H) vs' xs' → Heap.SameBut D s.heap h' → Q .none { s with heap := h', toks := tk }) : wpAny c.M A (PySem.call (.builtin ("list." ++ m.name)) (.ref D :: ws)) Q E s := by
  cases (show (none : Option (List AV)) = some xs' from h)
theorem mt_lst_ok {a : AV} {va : Value} {T : String} {n id : String} (hs : Slot "list" n id) (ht : typeOf (.builtin id) = pure (.type "method_descriptor")) (he : "list" ++ "." ++ n = id) (ra : RepO s.heap H va a) (h : mt_lst a = some T) :
    PlainAttrs T ∧ Slot T n (T ++ "." ++ n) ∧ typeOf (.builtin (T ++ "." ++ n)) = pure (.type "method_descriptor") ∧ s.TypeIs va T ∧ ∀ b, va = .ref b → ∃ ob, s.heap.get? b = some ob ∧ ob.dict = none := by
  unfold mt_lst at h
  obtain ⟨xs, hx, rfl⟩ := Option.map_eq_some_iff.mp h
  rw [lst?_eq hx] at ra
  obtain ⟨_, l, vs, rfl, ⟨o, m, e, hc, hd, hdi⟩, _⟩ := ra
  exact ⟨PySem.F.plainAttrs_list, by rw [he]; exact hs, by rw [he]; exact ht, ⟨o, e, hc⟩, fun b z => by cases z; exact ⟨o, e, hdi⟩⟩
theorem mt_str_ok {a : AV} {va : Value} {T : String} (ra : RepO s.heap H va a) (h : mt_str a = some T) :
    PlainAttrs T ∧ Slot T "join" (T ++ "." ++ "join") ∧ typeOf (.builtin (T ++ "." ++ "join")) = pure (.type "method_descriptor") ∧ s.TypeIs va T ∧ ∀ b, va = .ref b → ∃ ob, s.heap.get? b = some ob ∧ ob.dict = none := by
  unfold mt_str at h
  obtain ⟨x, hx, rfl⟩ := Option.map_eq_some_iff.mp h
  rw [str?_eq hx] at ra
  obtain ⟨t, rfl⟩ := ra
  exact ⟨PySem.F.plainAttrs_str, PySem.F.slot_str_join, PySem.F.type_str_join, rfl, fun b e => by cases e⟩
theorem opMty_ok {m : MI} {a : AV} {va : Value} {T : String} (ra : RepO s.heap H va a) (h : opMty m a = some T) : PlainAttrs T ∧ Slot T m.name (T ++ "." ++ m.name) ∧ typeOf (.builtin (T ++ "." ++ m.name)) = pure (.type "method_descriptor") ∧ s.TypeIs va T ∧ ∀ b, va = .ref b → ∃ ob, s.heap.get? b = some ob ∧ ob.dict = none := by
  cases m with
  | join => exact mt_str_ok ra h
  | index => exact mt_lst_ok PySem.F.slot_list_index PySem.F.type_list_index (by decide) ra h
  | count => exact mt_lst_ok PySem.F.slot_list_count PySem.F.type_list_count (by decide) ra h
  | _ => cases h
theorem mt_T {a : AV} {T : String} (h : mt_lst a = some T) : T = "list" := by
  unfold mt_lst at h
  obtain ⟨_, _, rfl⟩ := Option.map_eq_some_iff.mp h; rfl
theorem m_join_ok {a : AV} {va : Value} {xs : List AV} {vs : List Value} {T : String} (ra : RepO s.heap H va a) (rx : RepOL s.heap H vs xs) (h : mt_str a = some T) : Tr c q A H (PySem.call (.builtin (T ++ "." ++ "join")) (va :: vs)) (m_join a xs) s := by
  unfold mt_str at h
  obtain ⟨x, hx, rfl⟩ := Option.map_eq_some_iff.mp h
  rw [str?_eq hx] at ra ⊢
  obtain ⟨t, rfl⟩ := ra
  unfold m_join
  split
  · rename_i y ys e
    cases e
    obtain ⟨v, rfl, hz, l, ws, rfl, hl, rl⟩ := repOL1 rx
    split
    · rename_i zs hz'
      split
      · split
        · exact join_ok hl (strs_are hz' rl) (by assumption) (by assumption)
        · exact Tr.stuck
      · exact Tr.stuck
    · exact Tr.stuck
  · exact Tr.stuck
theorem intsArg_ok {a : AV} {va : Value} {xs : List AV} {vs : List Value} {f : List Int → Int → Res} {t : Value → Value → Sem Value} (ra : RepO s.heap H va a) (rx : RepOL s.heap H vs xs)
    (h : ∀ l ws ns i u, IsL s.heap l ws → IntsAre ws ns → ns.length ≤ 1048576 → Tr c q A H (t (.ref l) (.int i u)) (f ns i) s) : (∃ w, vs = [w] ∧ Tr c q A H (t va w) (intsArg a xs f) s) ∨ intsArg a xs f = .stuck := by
  unfold intsArg
  split
  · rename_i ys x e
    obtain ⟨w, rfl, rw'⟩ := repOL1 rx
    split
    · rename_i ns i hn hi
      rw [lst?_eq e] at ra
      rw [int?_eq hi] at rw'
      obtain ⟨hz, l, ws, rfl, hl, rl⟩ := ra
      obtain ⟨u, rfl⟩ := rw'
      refine .inl ⟨_, rfl, h l ws ns i u hl (ints_are hn rl) ?_⟩
      have := (ints_are hn rl).length
      have := rl.length
      omega
    · exact .inr rfl
  · exact .inr rfl
theorem m_index_ok {a : AV} {va : Value} {xs : List AV} {vs : List Value} (ra : RepO s.heap H va a) (rx : RepOL s.heap H vs xs) : Tr c q A H (PySem.call (.builtin "list.index") (va :: vs)) (m_index a xs) s := by
  rcases intsArg_ok (c := c) (q := q) (A := A) (f := fun ns i => if i ∈ ns then Res.ok (.int (ns.idxOf i : Nat)) else .stuck) (t := fun v w => PySem.call (.builtin "list.index") [v, w]) ra rx (fun l ws ns i u hl hi hz => by
    split
    · exact index_ok hl hi hz (by assumption)
    · exact Tr.stuck) with ⟨w, rfl, h⟩ | h
  · exact h
  · unfold m_index; rw [h]; exact Tr.stuck
theorem m_count_ok {a : AV} {va : Value} {xs : List AV} {vs : List Value} (ra : RepO s.heap H va a) (rx : RepOL s.heap H vs xs) : Tr c q A H (PySem.call (.builtin "list.count") (va :: vs)) (m_count a xs) s := by
  rcases intsArg_ok (c := c) (q := q) (A := A) (f := fun ns i => Res.ok (.int (ns.count i : Nat))) (t := fun v w => PySem.call (.builtin "list.count") [v, w]) ra rx (fun l ws ns i u hl hi hz => count_ok hl hi) with ⟨w, rfl, h⟩ | h
  · exact h
  · unfold m_count; rw [h]; exact Tr.stuck
theorem opMeth_ok {m : MI} {a : AV} {va : Value} {xs : List AV} {vs : List Value} {T : String} (ra : RepO s.heap H va a) (rx : RepOL s.heap H vs xs) (h : opMty m a = some T) : Tr c q A H (PySem.call (.builtin (T ++ "." ++ m.name)) (va :: vs)) (opMeth m a xs) s := by
  cases m with
  | join => exact m_join_ok ra rx h
  | index =>
    have e := mt_T h
    subst e
    exact m_index_ok ra rx
  | count =>
    have e := mt_T h
    subst e
    exact m_count_ok ra rx
  | _ => cases h
theorem opAttr_ok {n : TA} {a : AV} {va : Value} (hm : Rm c q (k + 1) A s.heap) (hq : q = true) (ra : RepO s.heap H va a) : Tr c q A H (getAttr va (n.name : Str) true) (opAttr n a) s := by
  cases n with
  | lengthHint =>
    show Tr c q A H (getAttr va (Str.ofString "__length_hint__") true) (match a.type? with
      | some T => if T = IK.cls .list then .ok (.fn (IK.hint .list)) else if T = IK.cls .tuple then .ok (.fn (IK.hint .tuple)) else if T = IK.cls .range then .ok (.fn (IK.hint .range)) else if T = "int" then .exc .ae else if T = "NoneType" then .exc .ae else .stuck
      | none => .stuck) s
    split
    case h_2 => exact Tr.stuck
    rename_i T hT
    rw [type?_eq hT] at ra
    have ra : va = .type T := ra
    subst ra
    split
    · rename_i e; subst e; exact fun Q E P => attr_itr (ik := .list) fun tk => P _ _ Kp.toks rfl
    · split
      · rename_i e; subst e; exact fun Q E P => attr_itr (ik := .tuple) fun tk => P _ _ Kp.toks rfl
      · split
        · rename_i e; subst e; exact fun Q E P => attr_itr (ik := .range) fun tk => P _ _ Kp.toks rfl
        · split
          · rename_i e; subst e; exact miss_int hm hq
          · split
            · rename_i e; subst e; exact miss_none hm hq
            · exact Tr.stuck
  | name_ =>
    show Tr c q A H (getAttr va (Str.ofString "__name__") true) (match a.type? with
      | some T => if T = "str" then .ok (.str (Str.ofString "str")) else if T = "NoneType" then .ok (.str (Str.ofString "NoneType")) else if T = "list" then .ok (.str (Str.ofString "list")) else .stuck
      | none => .stuck) s
    split
    case h_2 => exact Tr.stuck
    rename_i T hT
    rw [type?_eq hT] at ra
    have ra : va = .type T := ra
    subst ra
    split
    · rename_i e; subst e; exact fun Q E P => nm_str fun tk u => P _ _ Kp.toks ⟨_, rfl⟩
    · split
      · rename_i e; subst e; exact fun Q E P => nm_none fun tk u => P _ _ Kp.toks ⟨_, rfl⟩
      · split
        · rename_i e; subst e; exact fun Q E P => nm_list fun tk u => P _ _ Kp.toks ⟨_, rfl⟩
        · exact Tr.stuck
theorem opFcall_ok {id : String} {xs : List AV} {vs : List Value} (r : RepOL s.heap H vs xs) : Tr c q A H (PySem.call (.builtin id) vs) (opFcall id xs) s := by
  unfold opFcall
  split
  · obtain ⟨v, rfl, l, rfl, hi⟩ := repOL1 r
    split
    · rename_i e; subst e
      exact fun Q E P => hint_itr hi Q E P
    · exact Tr.stuck
  · exact Tr.stuck
end
noncomputable def Cx.ld (c : Cx) : Bool := !c.w.params.followText "set-order"
theorem ops_ok (c : Cx) : OpsOk c (ops c.ld) where
  ld := rfl
  bin := fun hm hL ra rb => opBin_ok hm hL ra rb
  inpl := fun hm _ ra rb => opInpl_ok hm ra rb
  un := fun _ _ ra => opUn_ok ra
  cmp := fun hm _ ra rb h => opCmp_ok hm ra rb h
  truth := fun _ _ ra h => opTruth_ok ra h
  idx := fun _ _ ra rb => opIdx_ok ra rb
  idxT := fun ra h => opIdx_ty ra h
  slice := fun _ hL ra h1 h2 h3 hr => opSlice_ok hL ra h1 h2 h3 hr
  sliceT := fun ra h => opSlice_ty ra h
  bcall := fun hq hm _ hL r hv => by subst hq; exact callB_ok hm hL r hv
  itemsR := fun h => itemsW_ref h
  items := fun hm hq _ ra h Q E K => itemsW_ok rfl hm hq ra h Q E K
  methT := fun ra h => opMty_ok ra h
  meth := fun _ _ _ ra rx h => opMeth_ok ra rx h
  ometh := fun _ _ _ hl hz r ra h Q E K => opOmeth_ok hl hz r ra h Q E K
  attr := fun hq hm _ ra => opAttr_ok hm hq ra
  fcall := fun _ _ _ r => opFcall_ok r
  is_ := fun _ _ ra rb h hop => opIs_ok ra rb h hop
end Mine
end
section
open PySem PySem.W PyProof.Rows
namespace Mine
set_option maxRecDepth 100000
/-- a def's plain names are bound to what is given -/
noncomputable def BindOk (xs : List Str) : Prop := ∀ (f : Str) (body : List Stmt) (scope : Scope) (pm code doc : Value) (as : List Arg) (vs : List Value), as.map (·.arg) = xs → vs.length = xs.length → bindArgs (PySem.Calls.docDef f ⟨[], as, none, [], [], none, []⟩ body scope pm code doc) ⟨vs, []⟩ = pure (xs.zip vs)
theorem args_nil {as : List Arg} (h : as.map (·.arg) = []) : as = [] := by cases as with | nil => rfl | cons _ _ => cases h
theorem args_cons {as : List Arg} {x : Str} {xs : List Str} (h : as.map (·.arg) = x :: xs) : ∃ a p r, as = ⟨x, a, p⟩ :: r ∧ r.map (·.arg) = xs := by
  cases as with
  | nil => cases h
  | cons y r =>
    obtain ⟨h1, h2⟩ := List.cons.inj h
    cases y with
    | mk n a p => exact ⟨a, p, r, by rw [show n = x from h1], h2⟩
theorem len_cons {vs : List Value} {n : Nat} (h : vs.length = n + 1) : ∃ v r, vs = v :: r ∧ r.length = n := by
  cases vs with
  | nil => cases h
  | cons v r => exact ⟨v, r, rfl, Nat.succ.inj h⟩
theorem bindOk1 {x : Str} (h : ∀ f body scope pm code doc a p v, bindArgs (PySem.Calls.docDef f ⟨[], [⟨x, a, p⟩], none, [], [], none, []⟩ body scope pm code doc) ⟨[v], []⟩ = pure [(x, v)]) : BindOk [x] := fun f body scope pm code doc as vs ha hv => by
  obtain ⟨a, p, r0, rfl, ha1⟩ := args_cons ha
  obtain ⟨v, ws0, rfl, hv1⟩ := len_cons hv
  rw [args_nil ha1, List.length_eq_zero_iff.mp hv1]
  exact h ..
theorem bindOk2 {x y : Str} (h : ∀ f body scope pm code doc a p b q v w, bindArgs (PySem.Calls.docDef f ⟨[], [⟨x, a, p⟩, ⟨y, b, q⟩], none, [], [], none, []⟩ body scope pm code doc) ⟨[v, w], []⟩ = pure [(x, v), (y, w)]) : BindOk [x, y] := fun f body scope pm code doc as vs ha hv => by
  obtain ⟨a, p, r0, rfl, ha1⟩ := args_cons ha
  obtain ⟨b, q, r1, rfl, ha2⟩ := args_cons ha1
  obtain ⟨v, ws0, rfl, hv1⟩ := len_cons hv
  obtain ⟨w, ws1, rfl, hv2⟩ := len_cons hv1
  rw [args_nil ha2, List.length_eq_zero_iff.mp hv2]
  exact h ..
noncomputable def plainParams (a : Arguments) (xs : List Str) : Bool := a.posonlyargs.isEmpty && a.vararg.isNone && a.kwonlyargs.isEmpty && a.kw_defaults.isEmpty && a.kwarg.isNone && a.defaults.isEmpty && a.args.map (·.arg) == xs
/-- a def of the text, looked at -/
noncomputable def defOk (p : Program) (frees : List Str) (fname : Nat → Str) (f : Str) (ns : List Str) (np : Nat) (q : PSs) : Bool := match (recsOf p).find? (fun d => d.name == f) with
  | some d => fnOk frees fname d.scope ns np q d.body && plainParams d.params (ns.take np)
  | none => false
noncomputable def freesOk (p : Program) (loose : List Str) (frees : List Str) : Bool := frees.all fun x => !startupNames.contains x && !loose.contains x && !((recsOf p).map (·.name)).contains x && !((litsOf p).map (·.1)).contains x && !((clssOf p loose).map (·.name)).contains x

theorem frees_of {p : Program} {loose : List Str} {mean : ExcName → Option Value} {mg mb : Str → Option Value} {h : Heap} (T : Top p loose mean mg mb h) {frees : List Str} (hf : freesOk p loose frees = true) : ∀ x ∈ frees, mg x = none := fun x hx => by
  have := List.all_eq_true.mp hf x hx
  simp only [Bool.and_eq_true, Bool.not_eq_true'] at this
  obtain ⟨⟨⟨⟨h1, h2⟩, h3⟩, h4⟩, h5⟩ := this
  exact T.free x (fun z => by rw [List.contains_iff_mem.mpr z] at h1; cases h1) (fun z => by rw [List.contains_iff_mem.mpr z] at h2; cases h2) (fun z => by rw [List.contains_iff_mem.mpr z] at h3; cases h3)
    (fun z => by rw [List.contains_iff_mem.mpr z] at h4; cases h4) (fun z => by rw [List.contains_iff_mem.mpr z] at h5; cases h5)

/-- what a def's text says, ready for calls_of; the last xs may be left out -/
structure DefAt (c : Cx) (frees : List Str) (fname : Nat → Str) (f : Str) (ns : List Str) (np n : Nat) (xs : List AV) (q : PSs) : Prop where
  all : ∃ body scope, FnAt c f body scope ns np n xs ∧ fnOk frees fname scope ns np q body = true
  len : n + xs.length = np
abbrev DefIs (c : Cx) (frees : List Str) (fname : Nat → Str) (f : Str) (ns : List Str) (np : Nat) (q : PSs) : Prop := DefAt c frees fname f ns np np [] q

theorem def_of {prog : Program} {w : World} {p : Program} {loose : List Str} {mean : ExcName → Option Value} {mg mb : Str → Option Value} {h : Heap} (T : Top p loose mean mg mb h) {frees : List Str} {fname : Nat → Str} {f : Str} {ns : List Str} {np : Nat} {q : PSs}
    (hd : defOk p frees fname f ns np q = true) (hb : BindOk (ns.take np)) : DefIs ⟨prog, w, h, mg, mb, T.g, T.b, T.builtins, T.nolimit⟩ frees fname f ns np q := by
  refine ⟨?_, rfl⟩
  unfold defOk at hd
  cases e : (recsOf p).find? (fun d => d.name == f) with
  | none => rw [e] at hd; cases hd
  | some d =>
    rw [e] at hd
    simp only [Bool.and_eq_true] at hd
    obtain ⟨h1, h2⟩ := hd
    have hn : d.name = f := by have := List.find?_some e; simpa using this
    have hm := List.mem_of_find?_eq_some e
    subst hn
    obtain ⟨a, o, pm, code, doc, f1, f2, f3, f4⟩ := T.fn d hm
    refine ⟨d.body, d.scope, ⟨a, o, _, [], f1, f2, f3, rfl, rfl, rfl, rfl, rfl, rfl, f4, fun R => by simp [RepL], fun s vs _ hl => .of_eq ?_⟩, h1⟩
    rw [List.append_nil]
    unfold plainParams at h2
    simp only [Bool.and_eq_true, List.isEmpty_iff, Option.isNone_iff_eq_none, beq_iff_eq] at h2
    obtain ⟨⟨⟨⟨⟨⟨a1, a2⟩, a3⟩, a4⟩, a5⟩, a6⟩, a7⟩ := h2
    have hp : d.params = ⟨[], d.params.args, none, [], [], none, []⟩ := by
      rcases hq : d.params with ⟨x1, x2, x3, x4, x5, x6, x7⟩
      rw [hq] at a1 a2 a3 a4 a5 a6
      simp only at a1 a2 a3 a4 a5 a6
      rw [a1, a2, a3, a4, a5, a6]
    simp only [fnOk, Bool.and_eq_true, decide_eq_true_eq] at h1
    rw [hp]
    exact hb _ _ _ _ _ _ _ _ a7 (by rw [List.length_take, Nat.min_eq_left h1.1.2]; exact hl)

section
variable {c : Cx} {O : OpsF} (OK : OpsOk c O) {k : Nat} {cal : Cal} {fname : Nat → Str} (CO : CallsOk c k cal fname) {frees : List Str} (hfree : ∀ x ∈ frees, c.mg x = none)
include OK CO hfree
theorem DefAt.calls {f : Str} {ns : List Str} {np n : Nat} {p : PSs} {args xs : List AV} {σ : Store} {lo : Nat} (D : DefAt c frees fname f ns np n xs p) (hargs : args.length = n) : Calls c (k + 2) f σ lo args (fnRes (pxs O cal true (st0 (args ++ xs) ns.length σ lo) p)) := by
  obtain ⟨body, scope, h1, h2⟩ := D.all
  exact calls_of OK CO hfree h1 h2 hargs D.len
theorem DefAt.calls0 {f : Str} {ns : List Str} {np : Nat} {p : PSs} {args : List AV} {σ : Store} {lo : Nat} (D : DefIs c frees fname f ns np p) (hargs : args.length = np) : Calls c (k + 2) f σ lo args (fnRes (pxs O cal true (st0 args ns.length σ lo) p)) := by
  have := DefAt.calls OK CO hfree (σ := σ) (lo := lo) D hargs
  rwa [List.append_nil] at this
theorem DefAt.code {f : Str} {ns : List Str} {np : Nat} {p : PSs} {args : List AV} {σ : Store} {lo : Nat} (D : DefIs c frees fname f ns np p) (hargs : args.length = np)
    {A : Around} {s : Shared} {H : Hd} {vs : List Value} {a : Addr} {Q E : Value → Shared → Prop} (hm : Rm c true (k + 2) A s.heap) (hst : c.h0.StaysIn s.heap) (hL : Live H s.heap) (S : Sto σ H s.heap) (hm0 : ∀ n a, H.m n = some a → c.h0.get? a = none) (hr : RepL (vis s.heap H) vs args) (hmg : c.mg f = some (.ref a))
    (P : PostE true A lo σ H (fnRes (pxs O cal true (st0 args ns.length σ lo) p)) s Q E) : codeAny c.M A (.call (.ref a) ⟨vs, []⟩) (fun r s' => match r with | .ok (.ret v) => Q v s' | .ok _ => False | .error e => E e s') s := by
  obtain ⟨body, scope, h1, h2⟩ := D.all
  exact code_of OK CO hfree h1 h2 hargs rfl hm hst hL S hm0 hr hmg (by rw [List.append_nil]; exact P)
end
theorem DefAt.obj {c : Cx} {frees : List Str} {fname : Nat → Str} {f : Str} {ns : List Str} {np n : Nat} {xs : List AV} {q : PSs} (D : DefAt c frees fname f ns np n xs q) : FnObj c f := by
  obtain ⟨body, scope, h1, h2⟩ := D.all
  exact h1.obj

theorem Calls.mono {c : Cx} {k k' : Nat} {f : Str} {σ : Store} {lo : Nat} {args : List AV} {r : ER} (h : Calls c k f σ lo args r) (hk : k ≤ k') : Calls c k' f σ lo args r := fun A s H vs a hm => h A s H vs a ⟨by have := hm.depth; omega, by have := hm.units; omega, hm.hand, hm.frames⟩

/-- one more def may be called -/
noncomputable def ext (O : OpsF) (cal : Cal) (i np : Nat) (ns : List Str) (p : PSs) : Cal := fun σ lo f args => if f = i then (if args.length = np then fnRes (pxs O cal true (st0 args ns.length σ lo) p) else .stuck) else cal σ lo f args
theorem ext_hit {O : OpsF} {cal : Cal} {i np : Nat} {ns : List Str} {p : PSs} {σ : Store} {lo : Nat} {args : List AV} (h : args.length = np) : ext O cal i np ns p σ lo i args = fnRes (pxs O cal true (st0 args ns.length σ lo) p) := by
  unfold ext; rw [if_pos rfl, if_pos h]
theorem ext_ne {O : OpsF} {cal : Cal} {i np : Nat} {ns : List Str} {p : PSs} {σ : Store} {lo f : Nat} {args : List AV} (h : f ≠ i) : ext O cal i np ns p σ lo f args = cal σ lo f args := by
  unfold ext; rw [if_neg h]
theorem ext_ok {c : Cx} {O : OpsF} (OK : OpsOk c O) {k : Nat} {cal : Cal} {fname : Nat → Str} (CO : CallsOk c k cal fname) {frees : List Str} (hfree : ∀ x ∈ frees, c.mg x = none) {i np : Nat} {ns : List Str} {p : PSs} (D : DefIs c frees fname (fname i) ns np p) : CallsOk c (k + 2) (ext O cal i np ns p) fname := ⟨fun σ lo f args h => by
  by_cases hf : f = i
  · subst hf
    by_cases hl : args.length = np
    · rw [ext_hit hl]
      exact ⟨DefAt.calls0 OK CO hfree D hl, D.obj⟩
    · exact absurd (by unfold ext; rw [if_pos rfl, if_neg hl]) h
  · rw [ext_ne hf] at h ⊢
    obtain ⟨a, b⟩ := CO.ok σ lo f args h
    exact ⟨a.mono (by omega), b⟩⟩

/- what leaves no thing of the store behind -/
/-- one more def may be called; its last value may be left out -/
noncomputable def extD (O : OpsF) (cal : Cal) (i np : Nat) (d : AV) (ns : List Str) (p : PSs) : Cal := fun σ lo f args => if f = i then (if args.length = np then fnRes (pxs O cal true (st0 args ns.length σ lo) p) else if args.length + 1 = np then fnRes (pxs O cal true (st0 (args ++ [d]) ns.length σ lo) p) else .stuck) else cal σ lo f args
theorem extD_hit {O : OpsF} {cal : Cal} {i np : Nat} {d : AV} {ns : List Str} {p : PSs} {σ : Store} {lo : Nat} {args : List AV} (h : args.length = np) : extD O cal i np d ns p σ lo i args = fnRes (pxs O cal true (st0 args ns.length σ lo) p) := by
  unfold extD; rw [if_pos rfl, if_pos h]
theorem extD_hit1 {O : OpsF} {cal : Cal} {i np : Nat} {d : AV} {ns : List Str} {p : PSs} {σ : Store} {lo : Nat} {args : List AV} (h : args.length + 1 = np) : extD O cal i np d ns p σ lo i args = fnRes (pxs O cal true (st0 (args ++ [d]) ns.length σ lo) p) := by
  unfold extD; rw [if_pos rfl, if_neg (by omega), if_pos h]
theorem extD_ne {O : OpsF} {cal : Cal} {i np : Nat} {d : AV} {ns : List Str} {p : PSs} {σ : Store} {lo f : Nat} {args : List AV} (h : f ≠ i) : extD O cal i np d ns p σ lo f args = cal σ lo f args := by
  unfold extD; rw [if_neg h]
theorem extD_ok {c : Cx} {O : OpsF} (OK : OpsOk c O) {k : Nat} {cal : Cal} {fname : Nat → Str} (CO : CallsOk c k cal fname) {frees : List Str} (hfree : ∀ x ∈ frees, c.mg x = none) {i np n : Nat} {d : AV} {ns : List Str} {p : PSs} (D : DefIs c frees fname (fname i) ns np p) (D1 : DefAt c frees fname (fname i) ns np n [d] p) : CallsOk c (k + 2) (extD O cal i np d ns p) fname := ⟨fun σ lo f args h => by
  by_cases hf : f = i
  · subst hf
    by_cases hl : args.length = np
    · rw [extD_hit hl]
      exact ⟨DefAt.calls0 OK CO hfree D hl, D.obj⟩
    · by_cases hl1 : args.length + 1 = np
      · rw [extD_hit1 hl1]
        have := D1.len
        exact ⟨DefAt.calls OK CO hfree D1 (by simp at this; omega), D.obj⟩
      · exact absurd (by unfold extD; rw [if_pos rfl, if_neg hl, if_neg hl1]) h
  · rw [extD_ne hf] at h ⊢
    obtain ⟨a, b⟩ := CO.ok σ lo f args h
    exact ⟨a.mono (by omega), b⟩⟩
/-- nothing is hidden -/
noncomputable def H0 : Hd := ⟨fun _ => False, fun _ => none, fun _ => none⟩
theorem sto0 (h : Heap) : Sto [] H0 h where
  at' := fun n mo e => by simp at e
  inj := fun n n' a e => by cases e
  lt := fun n a e => by cases e
  hid := fun n a mo _ e => by cases e
  al := fun n a e => by cases e
  tot := fun n a e => by cases e
/-- the script as a value -/
theorem script_rep {h : Heap} {l : Addr} {vs : List Value} {ns : List Int} (hl : IsL h l vs) (hI : IntsAre vs ns) (hz : ns.length ≤ 1048576) : RepL (vis h H0) [.ref l] [.lst (ns.map .int)] := by
  obtain ⟨o, n, e, hc, hd, hdi⟩ := hl
  have : ∀ {vs : List Value} {ns : List Int}, IntsAre vs ns → RepL (vis h H0) vs (ns.map .int) := by
    intro vs ns hI
    induction hI with
    | nil => simp [RepL]
    | cons n t _ ih => simp only [List.map_cons, RepL, Rep]; exact ⟨⟨t, rfl⟩, ih⟩
  simp only [RepL, Rep, and_true]
  exact ⟨by simpa using hz, l, vs, n, rfl, ⟨(fun z => z : ¬ H0.p l), o, e, hc, hd, hdi, .inl rfl, fun ⟨fs, z⟩ => by cases z⟩, this hI⟩

/-- the top: a law that comes to True -/
theorem kp_top {s s' : Shared} (k : Kp callerA s s') : (∀ b o, s.heap.get? b = some o → s'.heap.get? b = some o) ∧ s'.os = s.os ∧ s'.gens = s.gens := by
  obtain ⟨h', tk, rfl, kh⟩ := k
  refine ⟨fun b o e => (kh b o e).1 (.inl ?_), rfl, rfl⟩
  rintro ⟨l, hl, hb⟩
  cases hl
  simp at hb

theorem isL_of_well {P : Params} {h : Heap} {l : Addr} {vs : List Value} {ys : List WData} {d : WData} (hL : h.IsList l vs.toArray) (w : Well P h (.ref l) d) (e : d = .list ys) : IsL h l vs := by
  cases w <;> try (cases e)
  rename_i vs' e _
  obtain ⟨o', e', hc', n', hd'⟩ := hL
  rw [e] at e'; cases e'
  exact ⟨_, _, e, rfl, hd', rfl⟩
end Mine
end
section
open PySem PySem.W PyProof.Rows
namespace Mine
set_option maxRecDepth 100000
section
variable {O : OpsF} {cal : Cal} {q : Bool} {st : Fs}
theorem pe_const {v : AV} : pe O cal q st (.const v) = .of O.truth st.ρ (.ok (.av v) st.σ) := rfl
theorem pe_name {i : Nat} : pe O cal q st (.name i) = .of O.truth st.ρ (slotV st i) := rfl
theorem pe_glob {b : BI} : pe O cal q st (.glob b) = .of O.truth st.ρ (.ok (.av (.type b.name)) st.σ) := rfl
theorem pe_bin {op : Operator} {l r : PE} : pe O cal q st (.bin op l r) = .of O.truth st.ρ ((pe O cal q st l).v.bind fun a σ₁ => (pe O cal q (st.at σ₁) r).v.bind fun b σ₂ => ofRes (O.bin op (derefS st.ρ σ₂ a) (derefS st.ρ σ₂ b)) σ₂) := rfl
theorem pe_not {x : PE} : pe O cal q st (.un .Not x) = ⟨(pe O cal q st x).v.bind fun a σ₁ => ofRes (O.un .Not (derefS st.ρ σ₁ a)) σ₁, (pe O cal q st x).t.map fun p => (!p.1, p.2)⟩ := rfl
theorem pe_neg {x : PE} : pe O cal q st (.un .USub x) = .of O.truth st.ρ ((pe O cal q st x).v.bind fun a σ₁ => ofRes (O.un .USub (derefS st.ρ σ₁ a)) σ₁) := rfl
theorem pe_is {l r : PE} : pe O cal q st (.cmp .Is l r) = .of O.truth st.ρ ((pe O cal q st l).v.bindA fun a σ₁ => (pe O cal q (st.at σ₁) r).v.bindA fun b σ₂ => ofB (O.is_ a b) σ₂) := rfl
theorem pe_isnot {l r : PE} : pe O cal q st (.cmp .IsNot l r) = .of O.truth st.ρ ((pe O cal q st l).v.bindA fun a σ₁ => (pe O cal q (st.at σ₁) r).v.bindA fun b σ₂ => ofB ((O.is_ a b).map (!·)) σ₂) := rfl
noncomputable def isIs : CmpOp → Bool
  | .Is => true
  | .IsNot => true
  | _ => false
theorem pe_cmp {op : CmpOp} {l r : PE} (h : isIs op = false) : pe O cal q st (.cmp op l r) = .of O.truth st.ρ ((pe O cal q st l).v.bind fun a σ₁ => (pe O cal q (st.at σ₁) r).v.bind fun b σ₂ => ofB (O.cmp op (derefS st.ρ σ₂ a) (derefS st.ρ σ₂ b)) σ₂) := by
  cases op <;> first | (cases h; done) | rfl
theorem pe_eq {l r : PE} : pe O cal q st (.cmp .Eq l r) = .of O.truth st.ρ ((pe O cal q st l).v.bind fun a σ₁ => (pe O cal q (st.at σ₁) r).v.bind fun b σ₂ => ofB (O.cmp .Eq (derefS st.ρ σ₂ a) (derefS st.ρ σ₂ b)) σ₂) := pe_cmp rfl
theorem pe_ne {l r : PE} : pe O cal q st (.cmp .NotEq l r) = .of O.truth st.ρ ((pe O cal q st l).v.bind fun a σ₁ => (pe O cal q (st.at σ₁) r).v.bind fun b σ₂ => ofB (O.cmp .NotEq (derefS st.ρ σ₂ a) (derefS st.ρ σ₂ b)) σ₂) := pe_cmp rfl
theorem pe_lt {l r : PE} : pe O cal q st (.cmp .Lt l r) = .of O.truth st.ρ ((pe O cal q st l).v.bind fun a σ₁ => (pe O cal q (st.at σ₁) r).v.bind fun b σ₂ => ofB (O.cmp .Lt (derefS st.ρ σ₂ a) (derefS st.ρ σ₂ b)) σ₂) := pe_cmp rfl
theorem pe_le {l r : PE} : pe O cal q st (.cmp .LtE l r) = .of O.truth st.ρ ((pe O cal q st l).v.bind fun a σ₁ => (pe O cal q (st.at σ₁) r).v.bind fun b σ₂ => ofB (O.cmp .LtE (derefS st.ρ σ₂ a) (derefS st.ρ σ₂ b)) σ₂) := pe_cmp rfl
theorem pe_gt {l r : PE} : pe O cal q st (.cmp .Gt l r) = .of O.truth st.ρ ((pe O cal q st l).v.bind fun a σ₁ => (pe O cal q (st.at σ₁) r).v.bind fun b σ₂ => ofB (O.cmp .Gt (derefS st.ρ σ₂ a) (derefS st.ρ σ₂ b)) σ₂) := pe_cmp rfl
theorem pe_ge {l r : PE} : pe O cal q st (.cmp .GtE l r) = .of O.truth st.ρ ((pe O cal q st l).v.bind fun a σ₁ => (pe O cal q (st.at σ₁) r).v.bind fun b σ₂ => ofB (O.cmp .GtE (derefS st.ρ σ₂ a) (derefS st.ρ σ₂ b)) σ₂) := pe_cmp rfl
theorem pe_in {l r : PE} : pe O cal q st (.cmp .In l r) = .of O.truth st.ρ ((pe O cal q st l).v.bind fun a σ₁ => (pe O cal q (st.at σ₁) r).v.bind fun b σ₂ => ofB (O.cmp .In (derefS st.ρ σ₂ a) (derefS st.ρ σ₂ b)) σ₂) := pe_cmp rfl
theorem pe_notin {l r : PE} : pe O cal q st (.cmp .NotIn l r) = .of O.truth st.ρ ((pe O cal q st l).v.bind fun a σ₁ => (pe O cal q (st.at σ₁) r).v.bind fun b σ₂ => ofB (O.cmp .NotIn (derefS st.ρ σ₂ a) (derefS st.ρ σ₂ b)) σ₂) := pe_cmp rfl
theorem pe_bop {op : BoolOp} {xs : PEs} : pe O cal q st (.bop op xs) = ⟨pbop O cal q st op xs, pall O cal q st op xs⟩ := rfl
theorem pe_ife {t a b : PE} : pe O cal q st (.ife t a b) = match (pe O cal q st t).t with
    | some (true, σ₁) => pe O cal q (st.at σ₁) a
    | some (false, σ₁) => pe O cal q (st.at σ₁) b
    | none => ⟨.stuck, none⟩ := rfl
theorem pe_list {xs : PEs} : pe O cal q st (.list xs) = .of O.truth st.ρ (onP (pes O cal q st xs) fun l σ₁ => if l.length ≤ 100 then .ok (.av (.lst l)) σ₁ else .stuck) := rfl
theorem pe_tup {xs : PEs} : pe O cal q st (.tup xs) = .of O.truth st.ρ (onP (pes O cal q st xs) fun l σ₁ => if l.length ≤ 100 then .ok (.av (.tup l)) σ₁ else .stuck) := rfl
theorem pe_sub {o i : PE} : pe O cal q st (.sub o i) = .of O.truth st.ρ ((pe O cal q st o).v.bind fun a σ₁ => (pe O cal q (st.at σ₁) i).v.bind fun b σ₂ => ofRes (O.idx (derefS st.ρ σ₂ a) (derefS st.ρ σ₂ b)) σ₂) := rfl
theorem pe_slice {o a b s : PE} : pe O cal q st (.slice o a b s) = .of O.truth st.ρ ((pe O cal q st o).v.bind fun v σ₁ => (pe O cal q (st.at σ₁) a).v.bindA fun x σ₂ => (pe O cal q (st.at σ₂) b).v.bindA fun y σ₃ => (pe O cal q (st.at σ₃) s).v.bindA fun z σ₄ => ofRes (O.slice (derefS st.ρ σ₄ v) x y z) σ₄) := rfl
theorem pe_call {f : Nat} {xs : PEs} : pe O cal true st (.call f xs) = .of O.truth st.ρ (onP (pes O cal true st xs) fun l σ₁ => cal σ₁ st.lo f l) := rfl
theorem pe_bcall {f : BI} {xs : PEs} : pe O cal true st (.bcall f xs) = .of O.truth st.ρ (onL (pes O cal true st xs) fun l σ₁ => ofRes (O.bcall f (l.map (derefS st.ρ σ₁))) σ₁) := rfl
theorem pe_meth {o : PE} {m : MI} {xs : PEs} : pe O cal true st (.meth o m xs) = .of O.truth st.ρ ((pe O cal true st o).v.bind fun a σ₁ => onL (pes O cal true (st.at σ₁) xs) fun l σ₂ => (match O.mty m (derefS st.ρ σ₁ a), O.mty m (derefS st.ρ σ₂ a) with
      | some T, some T' => if T = T' then ofRes (O.meth m (derefS st.ρ σ₂ a) (l.map (derefS st.ρ σ₂))) σ₂ else .stuck
      | _, _ => .stuck)) := rfl
theorem pe_attr {x : PE} {n : TA} : pe O cal true st (.attr x n) = .of O.truth st.ρ ((pe O cal true st x).v.bind fun a σ₁ => ofRes (O.attr n (derefS st.ρ σ₁ a)) σ₁) := rfl
theorem pes_nil' : pes O cal q st .nil = some ([], st.σ) := rfl
theorem pes_cons {e : PE} {es : PEs} : pes O cal q st (.cons e es) = match (pe O cal q st e).v with
    | .ok v σ₁ => (match pes O cal q (st.at σ₁) es with
      | some (l, σ₂) => some (v :: l, σ₂)
      | none => none)
    | _ => none := rfl
theorem pr_v {tr : AV → Option Bool} {ρ : List (Option Ent)} {r : ER} : (PR.of tr ρ r).v = r := rfl
theorem pr_t {tr : AV → Option Bool} {ρ : List (Option Ent)} {r : ER} : (PR.of tr ρ r).t = r.truth tr ρ := rfl
theorem bind_ok {v : OV} {σ : Store} {f : OV → Store → ER} : (ER.ok v σ).bind f = f v σ := rfl
theorem bindA_ok {v : AV} {σ : Store} {f : AV → Store → ER} : (ER.ok (.av v) σ).bindA f = f v σ := rfl
theorem truth_ok {tr : AV → Option Bool} {ρ : List (Option Ent)} {v : OV} {σ : Store} : (ER.ok v σ).truth tr ρ = (tr (derefS ρ σ v)).map fun b => (b, σ) := rfl
theorem ofB_some {b : Bool} {σ : Store} : ofB (some b) σ = .ok (.av (.bool b)) σ := rfl
theorem ofRes_ok {v : AV} {σ : Store} : ofRes (.ok v) σ = .ok (.av v) σ := rfl
theorem ofRes_exc {v : EX} {σ : Store} : ofRes (.exc v) σ = .exc v σ := rfl
theorem onL_some {l : List OV} {σ : Store} {f : List OV → Store → ER} : onL (some (l, σ)) f = f l σ := rfl
theorem onP_some {l : List OV} {σ : Store} {f : List AV → Store → ER} : onP (some (l, σ)) f = match plains l with | some l => f l σ | none => .stuck := rfl
theorem plains_nil : plains [] = some [] := rfl
theorem plains_cons {x : AV} {r : List OV} : plains (.av x :: r) = (plains r).map (x :: ·) := rfl
theorem pall_and_nil : pall O cal q st .And .nil = some (true, st.σ) := by rw [pall]; rfl
theorem pall_or_nil : pall O cal q st .Or .nil = some (false, st.σ) := by rw [pall]; rfl
theorem pall_and_cons {e : PE} {es : PEs} : pall O cal q st .And (.cons e es) = match (pe O cal q st e).t with | some (false, σ₁) => some (false, σ₁) | some (true, σ₁) => pall O cal q (st.at σ₁) .And es | none => none := by
  rw [pall.eq_def]
  dsimp only
  cases (pe O cal q st e).t with
  | none => rfl
  | some p => obtain ⟨b, σ⟩ := p; cases b <;> rfl
theorem pall_or_cons {e : PE} {es : PEs} : pall O cal q st .Or (.cons e es) = match (pe O cal q st e).t with | some (true, σ₁) => some (true, σ₁) | some (false, σ₁) => pall O cal q (st.at σ₁) .Or es | none => none := by
  rw [pall.eq_def]
  dsimp only
  cases (pe O cal q st e).t with
  | none => rfl
  | some p => obtain ⟨b, σ⟩ := p; cases b <;> rfl
theorem pbop_one {op : BoolOp} {e : PE} : pbop O cal q st op (.cons e .nil) = (pe O cal q st e).v := by rw [pbop]
theorem pbop_and {e e' : PE} {es : PEs} : pbop O cal q st .And (.cons e (.cons e' es)) = (pe O cal q st e).v.bind fun v σ₁ => match O.truth (derefS st.ρ σ₁ v) with | some false => .ok v σ₁ | some true => pbop O cal q (st.at σ₁) .And (.cons e' es) | none => .stuck := by
  rw [pbop]
  congr 1
  funext v σ₁
  cases O.truth (derefS st.ρ σ₁ v) with
  | none => rfl
  | some b => cases b <;> rfl
theorem pbop_or {e e' : PE} {es : PEs} : pbop O cal q st .Or (.cons e (.cons e' es)) = (pe O cal q st e).v.bind fun v σ₁ => match O.truth (derefS st.ρ σ₁ v) with | some true => .ok v σ₁ | some false => pbop O cal q (st.at σ₁) .Or (.cons e' es) | none => .stuck := by
  rw [pbop]
  congr 1
  funext v σ₁
  cases O.truth (derefS st.ρ σ₁ v) with
  | none => rfl
  | some b => cases b <;> rfl
theorem pe_comp {caps : List Nat} {elt src : PE} {conds : PEs} {a : OV} {σ₁ : Store} {l ys : List AV} (h1 : (pe O cal true st src).v = .ok a σ₁) (h2 : O.items (derefS st.ρ σ₁ a) = some l)
    (h3 : mapF (fun x => compF σ₁.length (pall O cal true ((st.at σ₁).inner caps x) .And conds) (pe O cal true ((st.at σ₁).inner caps x) elt).v) l = some ys) : pe O cal true st (.comp caps elt src conds) = .of O.truth st.ρ (.ok (.av (.lst ys)) σ₁) := by
  rw [qe_comp, h1]
  simp only [ER.bind, h2, onItems, h3]
end
theorem mapF_gen {α : Type} {f : AV → Option (Option AV)} {g : α → AV} {h : α → Option AV} : ∀ {l : List α}, (∀ j ∈ l, f (g j) = some (h j)) → mapF f (l.map g) = some (l.filterMap h)
  | [], _ => rfl
  | a :: l, k => by
    have ih := mapF_gen (f := f) (g := g) (h := h) (l := l) fun j hj => k j (List.mem_cons_of_mem _ hj)
    simp only [List.map_cons, mapF, k a (List.mem_cons_self ..), List.filterMap_cons]
    cases h a with
    | none => exact ih
    | some y => simp only [ih, Option.map_some]
theorem mapF_map {α : Type} {f : AV → Option (Option AV)} {g h : α → AV} {l : List α} (k : ∀ j ∈ l, f (g j) = some (some (h j))) : mapF f (l.map g) = some (l.map h) := by
  rw [mapF_gen (h := fun j => some (h j)) k]
  congr 1
  rw [← List.filterMap_eq_map]; rfl
theorem compF_t {n : Nat} {σ : Store} {e : ER} {v : AV} {σ' : Store} (h : e = .ok (.av v) σ') (hn : σ'.length = n) : compF n (some (true, σ)) e = some (some v) := by
  subst h
  simp [compF, elemF, hn]
/- what holds of the end of a row of statements -/
section
variable {O : OpsF} {cal : Cal} {q : Bool} {st : Fs} {K : FR → Prop} {r : PSs}
noncomputable def thenK (O : OpsF) (cal : Cal) (q : Bool) (r : PSs) (K : FR → Prop) : FR → Prop
  | .next st' => K (pxs O cal q st' r)
  | f => K f
theorem thenK_next {st' : Fs} : thenK O cal q r K (.next st') = K (pxs O cal q st' r) := rfl
theorem pk_cons {s : PS} (h : thenK O cal q r K (px O cal q st s)) : K (pxs O cal q st (.cons s r)) := by
  rw [qxs_cons]
  revert h
  cases px O cal q st s <;> exact fun h => h
theorem pk_step {s : PS} {st' : Fs} (h : px O cal q st s = .next st') (k : K (pxs O cal q st' r)) : K (pxs O cal q st (.cons s r)) := by
  rw [qxs_cons, h]; exact k
theorem pk_nil (h : K (.next st)) : K (pxs O cal q st .nil) := by rw [qxs_nil]; exact h
theorem pk_assign {i : Nat} {e : PE} {v : AV} {σ : Store} (h : (pe O cal q st e).v = .ok (.av v) σ) (k : K (pxs O cal q ((st.at σ).set i (.val v)) r)) : K (pxs O cal q st (.cons (.assign i e) r)) := by
  refine pk_step ?_ k
  rw [qx_assign, h]; rfl
theorem pk_unpack2 {i j : Nat} {a b : PE} {x y : AV} {σ₁ σ : Store} (h1 : (pe O cal true st a).v = .ok (.av x) σ₁) (h2 : (pe O cal true (st.at σ₁) b).v = .ok (.av y) σ) (k : K (pxs O cal true (((st.at σ).set i (.val x)).set j (.val y)) r)) : K (pxs O cal true st (.cons (.unpack2 i j a b) r)) := by
  refine pk_step ?_ k
  have e : (pe O cal true st (.tup (.cons a (.cons b .nil)))).v = .ok (.av (.tup [x, y])) σ := by
    rw [pe_tup, pr_v, pes_cons, h1]
    simp only [pes_cons, h2, pes_nil', onP_some, plains, Option.map_some]
    rfl
  rw [qx_unpack2, e]; rfl
theorem pk_if {t : PE} {a b : PSs} {c : Bool} {σ : Store} (h : (pe O cal q st t).t = some (c, σ)) (k : if c = true then thenK O cal q r K (pxs O cal q (st.at σ) a) else thenK O cal q r K (pxs O cal q (st.at σ) b)) : K (pxs O cal q st (.cons (.ite t a b) r)) := by
  refine pk_cons ?_
  rw [qx_ite, h]
  cases c <;> simpa using k
theorem pk_if_t {t : PE} {a b : PSs} {σ : Store} (h : (pe O cal q st t).t = some (true, σ)) (k : thenK O cal q r K (pxs O cal q (st.at σ) a)) : K (pxs O cal q st (.cons (.ite t a b) r)) := pk_if h (by simpa using k)
theorem pk_if_f {t : PE} {a b : PSs} {σ : Store} (h : (pe O cal q st t).t = some (false, σ)) (k : thenK O cal q r K (pxs O cal q (st.at σ) b)) : K (pxs O cal q st (.cons (.ite t a b) r)) := pk_if h (by simpa using k)
/-- an if that is passed by -/
theorem pk_skip {t : PE} {a : PSs} {σ : Store} (h : (pe O cal q st t).t = some (false, σ)) (k : K (pxs O cal q (st.at σ) r)) : K (pxs O cal q st (.cons (.ite t a .nil) r)) := pk_if_f h (by rw [qxs_nil]; exact k)
theorem pk_ret {e : PE} {v : AV} {σ : Store} (h : (pe O cal q st e).v = .ok (.av v) σ) (k : K (.ret v σ)) : K (pxs O cal q st (.cons (.ret e) r)) := by
  refine pk_cons ?_
  rw [qx_ret, h]; exact k
theorem pk_cont (k : K (.cont st)) : K (pxs O cal q st (.cons .cont r)) := by
  refine pk_cons ?_
  rw [qx_cont]; exact k
theorem pk_raise {x : EX} {e : PE} {v : AV} {σ : Store} (h : (pe O cal true st e).v = .ok (.av v) σ) (k : K (.exc x (st.at σ))) : K (pxs O cal true st (.cons (.raise_ x e) r)) := by
  refine pk_cons ?_
  rw [qx_raise_]; simp only [h, resS]; exact k
/-- what holds of a turn's end -/
noncomputable def loopK (I : Fs → Prop) (K : FR → Prop) : FR → Prop
  | .next st' => I st'
  | .cont st' => I st'
  | .brk st' => K (.next st')
  | .ret v σ => K (.ret v σ)
  | _ => False
theorem forF_inv {f : AV → Fs → FR} (I : Nat → Fs → Prop) : ∀ (l : List AV) (n : Nat) (st : Fs), I n st → (∀ j x st, l[j]? = some x → I (n + j) st → loopK (I (n + j + 1)) K (f x st)) → (∀ st, I (n + l.length) st → K (.next st)) → K (forF f l st)
  | [], n, st, h0, _, hd => hd st (by simpa using h0)
  | x :: l, n, st, h0, hs, hd => by
    have h1 := hs 0 x st (by simp) (by simpa using h0)
    have go : ∀ st', I (n + 0 + 1) st' → K (forF f l st') := fun st' h' => by
      refine forF_inv I l (n + 1) st' (by simpa using h') (fun j y st hj hI => ?_) (fun st hI => hd st ?_)
      · have := hs (j + 1) y st (by simpa using hj) (by rw [show n + (j + 1) = n + 1 + j by omega]; exact hI)
        rw [show n + (j + 1) + 1 = n + 1 + j + 1 by omega] at this
        exact this
      · rw [List.length_cons, show n + (l.length + 1) = n + 1 + l.length by omega]; exact hI
    rw [forF]
    revert h1
    cases f x st with
    | next st' => exact fun h => go st' h
    | cont st' => exact fun h => go st' h
    | brk st' => exact fun h => h
    | ret v σ => exact fun h => h
    | exc _ _ => exact fun h => h.elim
    | stuck => exact fun h => h.elim
theorem pk_for {i : Nat} {src : PE} {body : PSs} {v : AV} {σ : Store} {l : List AV} (I : Nat → Fs → Prop) (h : (pe O cal true st src).v = .ok (.av v) σ) (hi : O.items v = some l) (h0 : I 0 (st.at σ))
    (hs : ∀ j x st, l[j]? = some x → I j st → loopK (I (j + 1)) (thenK O cal true r K) (pxs O cal true (st.set i (.val x)) body)) (hd : ∀ st, I l.length st → K (pxs O cal true st r)) : K (pxs O cal true st (.cons (.for_ i src body) r)) := by
  refine pk_cons ?_
  have e : px O cal true st (.for_ i src body) = forF (fun x st => pxs O cal true (st.set i (.val x)) body) l (st.at σ) := by
    rw [qx_for_]
    simp only [h, hi]
  rw [e]
  refine forF_inv (K := thenK O cal true r K) I l 0 _ h0 (fun j x st hj hI => ?_) fun st hI => hd st (by simpa using hI)
  simp only [Nat.zero_add] at hI ⊢
  exact hs j x st hj hI
theorem pk_try {body : PSs} {hs : PHs} (k : (fun fr => match fr with | .exc x st' => thenK O cal true r K (phs O cal x st' hs) | f => thenK O cal true r K f) (pxs O cal true st body)) : K (pxs O cal true st (.cons (.try_ body hs) r)) := by
  refine pk_cons ?_
  rw [qx_try_]
  revert k
  cases pxs O cal true st body <;> exact fun k => k
/-- a def's result -/
noncomputable def Ends (v : ER) (fr : FR) : Prop := fnRes fr = v
theorem fn_ret {p : PSs} {v : ER} (h : Ends v (pxs O cal q st p)) : fnRes (pxs O cal q st p) = v := h
theorem ends_ret {v : AV} {σ : Store} : Ends (.ok (.av v) σ) (.ret v σ) := rfl
end
section
variable {σ : Store} {ρ : List (Option Ent)}
theorem dS_av {x : AV} : derefS ρ σ (.av x) = deref σ x := rfl
theorem dr_none : deref σ .none = .none := rfl
theorem dr_bool {x : Bool} : deref σ (.bool x) = .bool x := rfl
theorem dr_int {x : Int} : deref σ (.int x) = .int x := rfl
theorem dr_str {x : Str} : deref σ (.str x) = .str x := rfl
theorem dr_type {x : String} : deref σ (.type x) = .type x := rfl
theorem dr_range {a b c : Int} : deref σ (.range a b c) = .range a b c := rfl
theorem dr_tup {x : List AV} : deref σ (.tup x) = .tup x := rfl
theorem dr_lst {x : List AV} : deref σ (.lst x) = .lst x := rfl
theorem dr_set {b : Bool} {x : List Int} : deref σ (.set b x) = .set b x := rfl
end
/- numbers -/
theorem pylong_small (a b : Int) (h0 : 0 < b) (h1 : b < 2 ^ 62) : Builtin.divisionGoesByPylong a b = false := by
  unfold Builtin.divisionGoesByPylong
  have hb : (b == 0) = false := by simp; omega
  have hn : b.natAbs < 2 ^ 62 := by omega
  have hlog : b.natAbs.log2 < 62 := by
    rw [Nat.log2_lt (by omega)]; exact hn
  simp only [hb, Bool.false_eq_true, if_false, Bool.and_eq_false_imp, decide_eq_true_eq]
  omega
theorem floordiv_small (a b : Int) (h0 : 0 < b) (h1 : b < 2 ^ 62) : intBin .FloorDiv a b = .ok (.int (a / b)) := by
  unfold intBin
  simp only [pylong_small a b h0 h1, Bool.false_eq_true, if_false]
  rw [if_neg (by simp; omega), Int.fdiv_eq_ediv_of_nonneg _ (by omega)]
theorem mod_pos (a b : Int) (h0 : 0 < b) : intBin .Mod a b = .ok (.int (a % b)) := by
  unfold intBin
  simp only
  rw [if_neg (by simp; omega), Int.fmod_eq_emod_of_nonneg _ (by omega)]
theorem idxL_nat {xs : List AV} {i : Int} {x : AV} (h0 : 0 ≤ i) (h : xs[i.toNat]? = some x) : idxL xs i = .ok x := by
  unfold idxL; rw [if_pos h0, h]
theorem ints_map (l : List Int) : ints? (l.map .int) = some l := by
  induction l with
  | nil => rfl
  | cons a l ih => simp [ints?, ih]
noncomputable def nth (l : List Int) (k : Nat) : Int := l.getD k 0
theorem nth_get {l : List Int} {k : Nat} (h : k < l.length) : l[k]? = some (nth l k) := by
  unfold nth
  rw [List.getD_eq_getElem?_getD, List.getElem?_eq_getElem h]; rfl
theorem idx_int {l : List Int} {k : Nat} (h : k < l.length) : idxL (l.map AV.int) (k : Int) = .ok (.int (nth l k)) := by
  refine idxL_nat (by omega) ?_
  rw [Int.toNat_natCast, List.getElem?_map, nth_get h]; rfl
theorem range2_items (a : Int) (n : Nat) (h : n ≤ 1000) (h1 : -1000000 ≤ a) (h2 : a ≤ 1000000) : itemsV (.range a (a + n) 1) = some ((List.range n).map fun (i : Nat) => .int (a + i)) := by
  have hs : Builtin.Range.small a (a + n) 1 = true := small_one (by omega) (by omega) (by omega) (by omega)
  have hz : Builtin.Range.rangeSize a (a + n) 1 = n := by rw [rangeSize_one]; split <;> omega
  unfold itemsV
  simp only [hs, if_true, hz, Int.toNat_natCast]
  rw [if_pos (by omega)]
  unfold rangeL
  rw [hz]
  simp only [Int.toNat_natCast, Int.mul_one]
theorem range_items (n : Nat) (h : n ≤ 1000) : itemsV (.range 0 n 1) = some ((List.range n).map fun (i : Nat) => .int i) := by
  have := range2_items 0 n h (by omega) (by omega)
  simpa using this
theorem range_get {n j : Nat} {x : AV} (h : ((List.range n).map fun (i : Nat) => AV.int i)[j]? = some x) : j < n ∧ x = .int j := by
  rw [List.getElem?_map] at h
  by_cases hj : j < n
  · rw [List.getElem?_range hj] at h
    simp at h
    exact ⟨hj, h.symm⟩
  · rw [List.getElem?_eq_none (by simpa using hj)] at h
    cases h
end Mine
end
section
open PySem PySem.W PyProof.Rows PySem.Calls
namespace Mine
set_option maxRecDepth 100000
set_option linter.unusedSimpArgs false
theorem bind_two {fd : FuncData} {s : Shared} {ta : Addr} {o : Obj} {items : Array Value} {n : Nat} {x y : Str} {v1 v2 : Value} (h1 : fd.params.posonlyargs = []) (h2 : fd.params.vararg = none) (h3 : fd.params.kwonlyargs = []) (h4 : fd.params.kwarg = none) (h5 : fd.params.args.map (·.arg) = [x, y]) (hxy : x ≠ y)
    (hd : fd.defaults = .ref ta) (ho : s.heap.get? ta = some o) (hs : o.data = .seq items n) {d : Value} (hi : items.toList = [d]) : BindsTo s fd ⟨[v1, v2], []⟩ [(x, v1), (y, v2)] := fun M A E Q hq => by
  have hyx : (y == x) = false := by simpa using fun e => hxy e.symm
  have hxy' : (x == y) = false := by simpa using hxy
  unfold bindArgs
  simp only [h1, h2, h3, h4, h5, hd, List.map_nil, List.nil_append, pure_bind, List.forIn_nil, List.append_nil, List.length_cons, List.length_nil, List.zip_cons_cons, List.zip_nil_right]
  refine wpAny_bind (wpAny_seqItems ho hs ?_)
  simp [hi, List.lookup, hyx, hxy', h1, h2, h3, h4, h5]
  exact wpAny_pure hq
theorem bind_one {fd : FuncData} {s : Shared} {ta : Addr} {o : Obj} {items : Array Value} {n : Nat} {x y : Str} {v1 : Value} (h1 : fd.params.posonlyargs = []) (h2 : fd.params.vararg = none) (h3 : fd.params.kwonlyargs = []) (h4 : fd.params.kwarg = none) (h5 : fd.params.args.map (·.arg) = [x, y]) (hxy : x ≠ y)
    (hd : fd.defaults = .ref ta) (ho : s.heap.get? ta = some o) (hs : o.data = .seq items n) {d : Value} (hi : items.toList = [d]) : BindsTo s fd ⟨[v1], []⟩ [(x, v1), (y, d)] := fun M A E Q hq => by
  have hyx : (y == x) = false := by simpa using fun e => hxy e.symm
  have hxy' : (x == y) = false := by simpa using hxy
  unfold bindArgs
  simp only [h1, h2, h3, h4, h5, hd, List.map_nil, List.nil_append, pure_bind, List.forIn_nil, List.append_nil, List.length_cons, List.length_nil, List.zip_cons_cons, List.zip_nil_right]
  refine wpAny_bind (wpAny_seqItems ho hs ?_)
  simp [hi, List.lookup, hyx, hxy', h1, h2, h3, h4, h5]
  exact wpAny_pure hq
/-- a def with one int as its last value's default, from the objects at hand -/
noncomputable def fragOk (K : Frag) (fname : Nat → Str) (frees : List Str) (f : Str) (fa ta : Addr) (ns : List Str) (d : Int) (p : PSs) : Bool := match K.lookup fa, K.lookup ta with
  | some ⟨_, _, .func fd, _⟩, some ⟨_, _, .seq items _, _⟩ => (match fd.body, items.toList with
    | .stmts body, [.int d' _] => fnOk frees fname fd.scope ns 2 p body && fd.globals == mainGlobals && fd.closure.isEmpty && fd.builtins == builtinsNs && fd.qualname == f && codeIn K fd.code f && d == d' && fd.defaults == .ref ta &&
        fd.params.posonlyargs.isEmpty && fd.params.vararg.isNone && fd.params.kwonlyargs.isEmpty && fd.params.kwarg.isNone && fd.params.args.map (·.arg) == ns.take 2
    | _, _ => false)
  | _, _ => false

theorem def_frag2 {prog : Program} {w : World} {p : Program} {loose : List Str} {mean : ExcName → Option Value} {mg mb : Str → Option Value} {h : Heap} {K : Frag} (T : Top p loose mean mg mb h) (X : K.In h) {frees : List Str} {fname : Nat → Str} {f : Str} {fa ta : Addr} {ns : List Str} {d : Int} {q : PSs}
    (hk : fragOk K fname frees f fa ta ns d q = true) (hn : nsIn K mainGlobals f = some (some (.ref fa))) :
    DefIs ⟨prog, w, h, mg, mb, T.g, T.b, T.builtins, T.nolimit⟩ frees fname f ns 2 q := by
  have hmg := mg_of X T.g hn
  unfold fragOk at hk
  split at hk
  case h_2 => cases hk
  rename_i oc od fd osl tc td items tn tsl h1 h2
  split at hk
  case h_2 => cases hk
  rename_i body d' tk hb hi
  simp only [Bool.and_eq_true, beq_iff_eq, List.isEmpty_iff, Option.isNone_iff_eq_none] at hk
  obtain ⟨⟨⟨⟨⟨⟨⟨⟨⟨⟨⟨⟨k1, k2⟩, k3⟩, k4⟩, k5⟩, k6⟩, k7⟩, k8⟩, k9⟩, k10⟩, k11⟩, k12⟩, k13⟩ := hk
  have ho := X _ _ h1
  have ht := X _ _ h2
  have hcd := codeRec_of X k6
  subst k7
  have kf := k1
  simp only [fnOk, Bool.and_eq_true, decide_eq_true_eq] at kf
  have hlen : 2 ≤ ns.length := kf.1.2
  have hnd : (ns.take 2).Nodup := kf.1.1.2
  obtain ⟨x, y, ens⟩ : ∃ x y, ns.take 2 = [x, y] := by
    rcases ns with _ | ⟨x, _ | ⟨y, r⟩⟩
    · simp at hlen
    · simp at hlen
    · exact ⟨x, y, rfl⟩
  have hxy : x ≠ y := by rw [ens] at hnd; simpa using hnd
  rw [ens] at k13
  have stay : ∀ (s : Shared), h.StaysIn s.heap → s.heap.get? ta = some ⟨tc, td, .seq items tn, tsl⟩ := fun s hs => hs _ _ ht
  refine ⟨⟨body, fd.scope, ⟨fa, _, fd, [], hmg, ho, rfl, hb, rfl, k2, k3, k4, k5, hcd, fun R => by simp [RepL], fun s vs hs hl => ?_⟩, k1⟩, rfl⟩
  rcases vs with _ | ⟨v1, _ | ⟨v2, _ | ⟨v3, r⟩⟩⟩
  · simp at hl
  · simp at hl
  · rw [ens]
    exact bind_two k9 k10 k11 k12 k13 hxy k8 (stay s hs) rfl hi
  · simp at hl
theorem def_fragA {prog : Program} {w : World} {p : Program} {loose : List Str} {mean : ExcName → Option Value} {mg mb : Str → Option Value} {h : Heap} {K : Frag} (T : Top p loose mean mg mb h) (X : K.In h) {frees : List Str} {fname : Nat → Str} {f : Str} {fa ta : Addr} {ns : List Str} {d : Int} {q : PSs}
    (hk : fragOk K fname frees f fa ta ns d q = true) (hn : nsIn K mainGlobals f = some (some (.ref fa))) :
    DefAt ⟨prog, w, h, mg, mb, T.g, T.b, T.builtins, T.nolimit⟩ frees fname f ns 2 1 [.int d] q := by
  have hmg := mg_of X T.g hn
  unfold fragOk at hk
  split at hk
  case h_2 => cases hk
  rename_i oc od fd osl tc td items tn tsl h1 h2
  split at hk
  case h_2 => cases hk
  rename_i body d' tk hb hi
  simp only [Bool.and_eq_true, beq_iff_eq, List.isEmpty_iff, Option.isNone_iff_eq_none] at hk
  obtain ⟨⟨⟨⟨⟨⟨⟨⟨⟨⟨⟨⟨k1, k2⟩, k3⟩, k4⟩, k5⟩, k6⟩, k7⟩, k8⟩, k9⟩, k10⟩, k11⟩, k12⟩, k13⟩ := hk
  have ho := X _ _ h1
  have ht := X _ _ h2
  have hcd := codeRec_of X k6
  subst k7
  have kf := k1
  simp only [fnOk, Bool.and_eq_true, decide_eq_true_eq] at kf
  have hlen : 2 ≤ ns.length := kf.1.2
  have hnd : (ns.take 2).Nodup := kf.1.1.2
  obtain ⟨x, y, ens⟩ : ∃ x y, ns.take 2 = [x, y] := by
    rcases ns with _ | ⟨x, _ | ⟨y, r⟩⟩
    · simp at hlen
    · simp at hlen
    · exact ⟨x, y, rfl⟩
  have hxy : x ≠ y := by rw [ens] at hnd; simpa using hnd
  rw [ens] at k13
  have stay : ∀ (s : Shared), h.StaysIn s.heap → s.heap.get? ta = some ⟨tc, td, .seq items tn, tsl⟩ := fun s hs => hs _ _ ht
  refine ⟨⟨body, fd.scope, ⟨fa, _, fd, [.int d tk], hmg, ho, rfl, hb, rfl, k2, k3, k4, k5, hcd, fun R => by simp only [RepL, Rep]; exact ⟨⟨_, rfl⟩, trivial⟩, fun s vs hs hl => ?_⟩, k1⟩, rfl⟩
  rcases vs with _ | ⟨v1, _ | ⟨v2, r⟩⟩
  · simp at hl
  · rw [ens]
    exact bind_one k9 k10 k11 k12 k13 hxy k8 (stay s hs) rfl hi
  · simp at hl
theorem def_frag {prog : Program} {w : World} {p : Program} {loose : List Str} {mean : ExcName → Option Value} {mg mb : Str → Option Value} {h : Heap} {K : Frag} (T : Top p loose mean mg mb h) (X : K.In h) {frees : List Str} {fname : Nat → Str} {f : Str} {fa ta : Addr} {ns : List Str} {d : Int} {q : PSs}
    (hk : fragOk K fname frees f fa ta ns d q = true) (hn : nsIn K mainGlobals f = some (some (.ref fa))) :
    DefIs ⟨prog, w, h, mg, mb, T.g, T.b, T.builtins, T.nolimit⟩ frees fname f ns 2 q ∧ DefAt ⟨prog, w, h, mg, mb, T.g, T.b, T.builtins, T.nolimit⟩ frees fname f ns 2 1 [.int d] q := ⟨def_frag2 T X hk hn, def_fragA T X hk hn⟩
/-- the objects that a look takes from a heap -/
noncomputable def fragH (h : Heap) (as : List Addr) : Frag := as.filterMap fun a => (h.get? a).map fun o => (a, o)
theorem fragH_in (h : Heap) : ∀ as : List Addr, (fragH h as).In h
  | [], _, _, e => nomatch e
  | b :: as, a, o, e => by
    have e : ((b :: as).filterMap fun a => (h.get? a).map fun o => (a, o)).lookup a = some o := e
    rw [List.filterMap_cons] at e
    cases hb : h.get? b with
    | none => rw [hb] at e; exact fragH_in h as a o e
    | some ob =>
      rw [hb] at e
      have e : List.lookup a ((b, ob) :: as.filterMap fun a => (h.get? a).map fun o => (a, o)) = some o := e
      rw [List.lookup_cons] at e
      cases hab : a == b with
      | true => rw [hab] at e; cases e; rw [eq_of_beq hab]; exact hb
      | false => rw [hab] at e; exact fragH_in h as a o e
/-- the objects of one def stand as a test says -/
noncomputable def fragHook (as : List Addr) (test : Frag → Bool) : Hook := ⟨Bool, fun s => test (fragH s.heap as), fun _ => true, fun _ h => ∃ K : Frag, K.In h ∧ test K = true, fun _ _ e => ⟨_, fragH_in _ _, e⟩, fun _ _ _ ⟨K, x, e⟩ k => ⟨K, x.keeps k, e⟩⟩
noncomputable def fragTest (fname : Nat → Str) (frees : List Str) (f : Str) (fa ta : Addr) (ns : List Str) (d : Int) (p : PSs) (K : Frag) : Bool := fragOk K fname frees f fa ta ns d p && match nsIn K mainGlobals f with
  | some (some (.ref a)) => a == fa
  | _ => false
theorem fragTest_of {fname : Nat → Str} {frees : List Str} {f : Str} {fa ta : Addr} {ns : List Str} {d : Int} {p : PSs} {K : Frag} (e : fragTest fname frees f fa ta ns d p K = true) : fragOk K fname frees f fa ta ns d p = true ∧ nsIn K mainGlobals f = some (some (.ref fa)) := by
  obtain ⟨e1, e2⟩ := Bool.and_eq_true_iff.mp e
  refine ⟨e1, ?_⟩
  split at e2
  · rename_i a h; rw [h, eq_of_beq e2]
  · cases e2
end Mine
end
section
open PySem PySem.W PyProof.Rows
namespace Mine
set_option maxRecDepth 100000
/- the defs, by number: 0 length_hint, 1 _law_thing, 2 _law_whole, 3 law -/
noncomputable def fname : Nat → Str
  | 0 => PySem.Str.ofString "length_hint"
  | 1 => PySem.Str.ofString "_law_thing"
  | 2 => PySem.Str.ofString "_law_whole"
  | 3 => PySem.Str.ofString "law"
  | _ => PySem.Str.ofString ""
/- length_hint; slots: 0 obj, 1 default, 2 msg, 3 hint, 4 val -/
noncomputable def length_hint_ns : List Str := [PySem.Str.ofString "obj", PySem.Str.ofString "default", PySem.Str.ofString "msg", PySem.Str.ofString "hint", PySem.Str.ofString "val"]
noncomputable def length_hint_p : PSs :=
 .cons (.ite (.un .Not (.bcall .isinstance (.cons (.name 1) (.cons (.glob .int) .nil))))
 (.cons (.assign 2 (.bin .Mod (.const (.str (PySem.Str.ofString "'%s' object cannot be interpreted as an integer"))) (.attr (.bcall .type (.cons (.name 1) .nil)) .name_)))
 (.cons (.raise_ .te (.name 2)) .nil))
 (.nil))
 (.cons (.try_ (.cons (.ret (.bcall .len (.cons (.name 0) .nil))) .nil) (.cons .te (.cons (.pass) .nil) (.nil)))
 (.cons (.try_ (.cons (.assign 3 (.attr (.bcall .type (.cons (.name 0) .nil)) .lengthHint)) .nil) (.cons .ae (.cons (.ret (.name 1)) .nil) (.nil)))
 (.cons (.try_ (.cons (.assign 4 (.vcall 3 (.cons (.name 0) .nil))) .nil) (.cons .te (.cons (.ret (.name 1)) .nil) (.nil)))
 (.cons (.ite (.notimpl (.name 4))
 (.cons (.ret (.name 1)) .nil)
 (.nil))
 (.cons (.ite (.un .Not (.bcall .isinstance (.cons (.name 4) (.cons (.glob .int) .nil))))
 (.cons (.assign 2 (.bin .Mod (.const (.str (PySem.Str.ofString "__length_hint__ must be integer, not %s"))) (.attr (.bcall .type (.cons (.name 4) .nil)) .name_)))
 (.cons (.raise_ .te (.name 2)) .nil))
 (.nil))
 (.cons (.ite (.cmp .Lt (.name 4) (.const (.int 0)))
 (.cons (.assign 2 (.const (.str (PySem.Str.ofString "__length_hint__() should return >= 0"))))
 (.cons (.raise_ .ve (.name 2)) .nil))
 (.nil))
 (.cons (.ret (.name 4)) .nil)))))))
/- _law_thing; slots: 0 x, 1 numbers -/
noncomputable def law_thing_ns : List Str := [PySem.Str.ofString "x", PySem.Str.ofString "numbers"]
noncomputable def law_thing_p : PSs :=
 .cons (.ite (.cmp .Eq (.bin .Mod (.name 0) (.const (.int 9))) (.const (.int 0)))
 (.cons (.ret (.name 1)) .nil)
 (.nil))
 (.cons (.ite (.cmp .Eq (.bin .Mod (.name 0) (.const (.int 9))) (.const (.int 1)))
 (.cons (.ret (.bcall .tuple (.cons (.name 1) .nil))) .nil)
 (.nil))
 (.cons (.ite (.cmp .Eq (.bin .Mod (.name 0) (.const (.int 9))) (.const (.int 2)))
 (.cons (.ret (.meth (.const (.str (PySem.Str.ofString ""))) .join (.cons (.comp [] (.bcall .chr (.cons (.bin .Add (.const (.int 97)) (.bin .Mod (.name 2) (.const (.int 26)))) .nil)) (.name 1) (.nil)) .nil))) .nil)
 (.nil))
 (.cons (.ite (.cmp .Eq (.bin .Mod (.name 0) (.const (.int 9))) (.const (.int 3)))
 (.cons (.ret (.bcall .bytes (.cons (.comp [] (.bin .Mod (.name 2) (.const (.int 256))) (.name 1) (.nil)) .nil))) .nil)
 (.nil))
 (.cons (.ite (.cmp .Eq (.bin .Mod (.name 0) (.const (.int 9))) (.const (.int 4)))
 (.cons (.ret (.dictc [0] (.name 2) (.name 0) (.name 1))) .nil)
 (.nil))
 (.cons (.ite (.cmp .Eq (.bin .Mod (.name 0) (.const (.int 9))) (.const (.int 5)))
 (.cons (.ret (.setc [] (.bin .Mod (.name 2) (.const (.int 5))) (.name 1))) .nil)
 (.nil))
 (.cons (.ite (.cmp .Eq (.bin .Mod (.name 0) (.const (.int 9))) (.const (.int 6)))
 (.cons (.ret (.bcall .range (.cons (.bin .Mod (.bin .FloorDiv (.name 0) (.const (.int 9))) (.const (.int 100))) (.cons (.bin .Mod (.bin .FloorDiv (.name 0) (.const (.int 900))) (.const (.int 100))) (.cons (.sub (.list (.cons (.un .USub (.const (.int 7))) (.cons (.un .USub (.const (.int 2))) (.cons (.un .USub (.const (.int 1))) (.cons (.const (.int 1)) (.cons (.const (.int 2)) (.cons (.const (.int 7)) .nil))))))) (.bin .Mod (.bin .FloorDiv (.name 0) (.const (.int 90000))) (.const (.int 6)))) .nil))))) .nil)
 (.nil))
 (.cons (.ret (.ife (.cmp .Eq (.bin .Mod (.name 0) (.const (.int 9))) (.const (.int 7))) (.name 0) (.const .none))) .nil)))))))
/- _law_whole; slots: 0 told, 1 due -/
noncomputable def law_whole_ns : List Str := [PySem.Str.ofString "told", PySem.Str.ofString "due"]
noncomputable def law_whole_p : PSs :=
 .cons (.ret (.bop .And (.cons (.bcall .isinstance (.cons (.name 0) (.cons (.glob .int) .nil))) (.cons (.cmp .Eq (.name 0) (.name 1)) (.cons (.cmp .Eq (.bcall .isinstance (.cons (.name 0) (.cons (.glob .bool) .nil))) (.bcall .isinstance (.cons (.name 1) (.cons (.glob .bool) .nil)))) .nil))))) .nil
/- law; slots: 0 script, 1 numbers, 2 k, 3 x, 4 y, 5 thing, 6 filled, 7 given, 8 count, 9 told -/
noncomputable def law_ns : List Str := [PySem.Str.ofString "script", PySem.Str.ofString "numbers", PySem.Str.ofString "k", PySem.Str.ofString "x", PySem.Str.ofString "y", PySem.Str.ofString "thing", PySem.Str.ofString "filled", PySem.Str.ofString "given", PySem.Str.ofString "count", PySem.Str.ofString "told"]
noncomputable def law_b1 : PSs :=
 .cons (.unpack2 3 4 (.sub (.name 1) (.name 2)) (.sub (.name 1) (.bin .Sub (.name 2) (.const (.int 1)))))
 (.cons (.assign 5 (.call 1 (.cons (.name 3) (.cons (.slice (.name 1) (.const .none) (.name 2) (.const .none)) .nil))))
 (.cons (.assign 6 (.cmp .Eq (.bin .Mod (.bin .FloorDiv (.name 4) (.const (.int 5))) (.const (.int 2))) (.const (.int 1))))
 (.cons (.assign 7 (.sub (.list (.cons (.bin .FloorDiv (.name 4) (.const (.int 5))) (.cons (.name 6) (.cons (.ife (.name 6) (.const (.str (PySem.Str.ofString "3"))) (.const (.str (PySem.Str.ofString "")))) (.cons (.const .none) (.cons (.ife (.name 6) (.list (.cons (.const (.int 3)) .nil)) (.list (.nil))) .nil)))))) (.bin .Mod (.name 4) (.const (.int 5)))))
 (.cons (.assign 8 (.ife (.cmp .Lt (.bin .Mod (.name 3) (.const (.int 9))) (.const (.int 7))) (.list (.cons (.bcall .len (.cons (.comp [] (.name 10) (.name 5) (.nil)) .nil)) .nil)) (.list (.nil))))
 (.cons (.ite (.un .Not (.call 2 (.cons (.call 0 (.cons (.name 5) .nil)) (.cons (.sub (.bin .Add (.name 8) (.list (.cons (.const (.int 0)) .nil))) (.const (.int 0))) .nil))))
 (.cons (.ret (.const (.bool false))) .nil)
 (.nil))
 (.cons (.try_ (.cons (.assign 9 (.call 0 (.cons (.name 5) (.cons (.name 7) .nil)))) .nil) (.cons .te (.cons (.ite (.cmp .Lt (.bin .Mod (.name 4) (.const (.int 5))) (.const (.int 2)))
 (.cons (.ret (.const (.bool false))) .nil)
 (.nil))
 (.cons (.cont) .nil)) (.nil)))
 (.cons (.ite (.bop .Or (.cons (.cmp .Gt (.bin .Mod (.name 4) (.const (.int 5))) (.const (.int 1))) (.cons (.un .Not (.call 2 (.cons (.name 9) (.cons (.sub (.bin .Add (.name 8) (.list (.cons (.name 7) .nil))) (.const (.int 0))) .nil)))) .nil)))
 (.cons (.ret (.const (.bool false))) .nil)
 (.nil)) .nil)))))))
noncomputable def law_p : PSs :=
 .cons (.assign 1 (.bin .Add (.name 0) (.list (.cons (.const (.int 13)) (.cons (.const (.int 25)) .nil)))))
 (.cons (.for_ 2 (.bcall .range (.cons (.bcall .len (.cons (.name 1) .nil)) .nil)) law_b1)
 (.cons (.ret (.const (.bool true))) .nil))
noncomputable def frees : List Str := ["ValueError", "isinstance", "int", "TypeError", "type", "NotImplemented", "AttributeError", "len", "range", "bytes", "chr", "tuple", "bool"]
noncomputable def cal0 : Cal := fun _ _ _ _ => .stuck
theorem calls0 (c : Cx) (fname : Nat → Str) : CallsOk c 0 cal0 fname := ⟨fun _ _ _ _ h => absurd rfl h⟩
/-- level 1: _law_whole -/
noncomputable def cal1 (ld : Bool) : Cal := ext (ops ld) cal0 2 2 law_whole_ns law_whole_p
theorem cal1_hit {ld : Bool} (σ : Store) (lo : Nat) (args : List AV) (h : args.length = 2) : (cal1 ld) σ lo 2 args = fnRes (pxs (ops ld) cal0 true (st0 args law_whole_ns.length σ lo) law_whole_p) := ext_hit h
theorem calls1 {c : Cx} (hfree : ∀ x ∈ frees, c.mg x = none) (D2 : DefIs c frees fname (fname 2) law_whole_ns 2 law_whole_p) : CallsOk c 2 (cal1 c.ld) fname := ext_ok (ops_ok c) (calls0 c fname) hfree D2
/-- level 2: length_hint -/
noncomputable def cal2 (ld : Bool) : Cal := extD (ops ld) (cal1 ld) 0 2 (.int 0) length_hint_ns length_hint_p
theorem cal2_hit {ld : Bool} (σ : Store) (lo : Nat) (args : List AV) (h : args.length = 2) : (cal2 ld) σ lo 0 args = fnRes (pxs (ops ld) (cal1 ld) true (st0 args length_hint_ns.length σ lo) length_hint_p) := extD_hit h
theorem cal2_hit1 {ld : Bool} (σ : Store) (lo : Nat) (args : List AV) (h : args.length + 1 = 2) : (cal2 ld) σ lo 0 args = fnRes (pxs (ops ld) (cal1 ld) true (st0 (args ++ [.int 0]) length_hint_ns.length σ lo) length_hint_p) := extD_hit1 h
theorem cal2_2 {ld : Bool} (σ : Store) (lo : Nat) (args : List AV) : (cal2 ld) σ lo 2 args = (cal1 ld) σ lo 2 args := extD_ne (by decide)
theorem calls2 {c : Cx} (hfree : ∀ x ∈ frees, c.mg x = none) (D2 : DefIs c frees fname (fname 2) law_whole_ns 2 law_whole_p) (D0 : DefIs c frees fname (fname 0) length_hint_ns 2 length_hint_p) (E0 : DefAt c frees fname (fname 0) length_hint_ns 2 1 [.int 0] length_hint_p) : CallsOk c 4 (cal2 c.ld) fname := extD_ok (ops_ok c) (calls1 hfree D2) hfree D0 E0
/-- level 3: _law_thing -/
noncomputable def cal3 (ld : Bool) : Cal := ext (ops ld) (cal2 ld) 1 2 law_thing_ns law_thing_p
theorem cal3_hit {ld : Bool} (σ : Store) (lo : Nat) (args : List AV) (h : args.length = 2) : (cal3 ld) σ lo 1 args = fnRes (pxs (ops ld) (cal2 ld) true (st0 args law_thing_ns.length σ lo) law_thing_p) := ext_hit h
theorem cal3_2 {ld : Bool} (σ : Store) (lo : Nat) (args : List AV) : (cal3 ld) σ lo 2 args = (cal2 ld) σ lo 2 args := ext_ne (by decide)
theorem cal3_0 {ld : Bool} (σ : Store) (lo : Nat) (args : List AV) : (cal3 ld) σ lo 0 args = (cal2 ld) σ lo 0 args := ext_ne (by decide)
theorem calls3 {c : Cx} (hfree : ∀ x ∈ frees, c.mg x = none) (D2 : DefIs c frees fname (fname 2) law_whole_ns 2 law_whole_p) (D0 : DefIs c frees fname (fname 0) length_hint_ns 2 length_hint_p) (E0 : DefAt c frees fname (fname 0) length_hint_ns 2 1 [.int 0] length_hint_p) (D1 : DefIs c frees fname (fname 1) law_thing_ns 2 law_thing_p) : CallsOk c 6 (cal3 c.ld) fname := ext_ok (ops_ok c) (calls2 hfree D2 D0 E0) hfree D1
noncomputable def lawRes (ld : Bool) (ns : List Int) : ER := fnRes (pxs (ops ld) (cal3 ld) true (st0 [.lst (ns.map .int)] law_ns.length [] 0) law_p)
noncomputable def textOk (p : Program) (loose : List Str) : Bool := freesOk p loose frees && defOk p frees fname (fname 2) law_whole_ns 2 law_whole_p && defOk p frees fname (fname 1) law_thing_ns 2 law_thing_p && defOk p frees fname (fname 3) law_ns 1 law_p
theorem law_code {prog : Program} {w : World} {p : Program} {loose : List Str} {mean : ExcName → Option Value} {mg mb : Str → Option Value} {s : Shared} (T : Top p loose mean mg mb s.heap) (ht : textOk p loose = true) {KF : Frag} (X : KF.In s.heap) {fd0 td0 : Addr} (hk0 : fragOk KF fname frees (fname 0) fd0 td0 length_hint_ns 0 length_hint_p = true) (hn0 : nsIn KF mainGlobals (fname 0) = some (some (.ref fd0))) {ns : List Int} (hres : ∀ ld, ∃ σ, lawRes ld ns = .ok (.av (.bool true)) σ) (hz : ns.length ≤ 1048576)
    {l fa : Addr} {vs : List Value} (hl : IsL s.heap l vs) (hI : IntsAre vs ns) (hmg : mg (fname 3) = some (.ref fa)) {R : Result → Shared → Prop}
    (K : ∀ s', (∀ b o, s.heap.get? b = some o → s'.heap.get? b = some o) → s'.os = s.os → s'.gens = s.gens → R (.ok (.ret (.bool true))) s') : codeAny (model prog w) callerA (.call (.ref fa) ⟨[.ref l], []⟩) R s := by
  simp only [textOk, Bool.and_eq_true] at ht
  obtain ⟨⟨⟨h1, hd2⟩, hd1⟩, hd3⟩ := ht
  obtain ⟨σ', hres⟩ := hres (!w.params.followText "set-order")
  have hfree := frees_of T h1
  have D2 := def_of (prog := prog) (w := w) T hd2 (bindOk2 (by intros; kernel_rfl))
  obtain ⟨D0, E0⟩ := def_frag (prog := prog) (w := w) T X hk0 hn0
  have D1 := def_of (prog := prog) (w := w) T hd1 (bindOk2 (by intros; kernel_rfl))
  have D3 := def_of (prog := prog) (w := w) T hd3 (bindOk1 (by intros; kernel_rfl))
  have rr := script_rep hl hI hz
  have := D3.code (ops_ok _) (calls3 hfree D2 D0 E0 D1) hfree (args := [.lst (ns.map .int)]) (σ := []) (lo := 0) rfl (A := callerA) (s := s) (H := H0) (vs := [.ref l]) (a := fa)
    (Q := fun v s' => v = .bool true ∧ (∀ b o, s.heap.get? b = some o → s'.heap.get? b = some o) ∧ s'.os = s.os ∧ s'.gens = s.gens) (E := fun _ _ => False)
    ⟨by decide, by decide, fun _ => rfl, [], rfl, trivial⟩ (fun _ _ e => e) (fun _ z => z.elim) (sto0 _) (fun _ _ e => by cases e) rr hmg (by
      show PostE true callerA _ _ _ (lawRes (!w.params.followText "set-order") ns) s _ _
      rw [hres]
      exact fun v H' s' x r => ⟨r, kp_top (x.kp (Nat.le_refl _))⟩)
  refine codeAny_mono this fun r s' h => ?_
  match r, h with
  | .ok (.ret v), ⟨hv, h1, h2, h3⟩ => rw [hv]; exact K s' h1 h2 h3
end Mine
end
section
open PySem PySem.W PyProof.Rows
namespace Mine
/- the words, for a name that stands for ops: nothing runs by itself -/
section
variable {O : OpsF} {ld : Bool} (h : O = ops ld)
include h
theorem o_bin : O.bin = opBin := by rw [h]; rfl
theorem o_un : O.un = opUn := by rw [h]; rfl
theorem o_cmp : O.cmp = opCmp := by rw [h]; rfl
theorem o_truth : O.truth = opTruth := by rw [h]; rfl
theorem o_idx : O.idx = opIdx := by rw [h]; rfl
theorem o_slice : O.slice = opSlice := by rw [h]; rfl
theorem o_bcall : O.bcall = callB := by rw [h]; rfl
theorem o_items : O.items = itemsW ld := by rw [h]; rfl
theorem o_mty : O.mty = opMty := by rw [h]; rfl
theorem o_meth : O.meth = opMeth := by rw [h]; rfl
theorem o_attr : O.attr = opAttr := by rw [h]; rfl
end
end Mine
end
section
open PySem PySem.W PyProof.Rows
namespace Mine
set_option maxRecDepth 100000
set_option linter.unusedSimpArgs false
set_option linter.unusedVariables false
/-- what stands for a thing with n things in it -/
structure Good (ld : Bool) (t : AV) (n : Nat) : Prop where
  len : callB .len [t] = .ok (.int (n : Int))
  items : ∃ l, itemsW ld t = some l ∧ l.length = n
  dr : deref [] t = t
/-- and for one without -/
noncomputable def Bare (t : AV) : Prop := t = .none ∨ ∃ i, t = .int i
noncomputable def Whole (d : AV) : Prop := (∃ i, d = .int i) ∨ ∃ b, d = .bool b
noncomputable def Odd (d : AV) : Prop := (∃ x, d = .str x) ∨ d = .none ∨ ∃ l, d = .lst l
theorem Whole.dr {d : AV} (h : Whole d) : deref [] d = d := by rcases h with ⟨_, rfl⟩ | ⟨_, rfl⟩ <;> rfl
theorem Odd.dr {d : AV} (h : Odd d) : deref [] d = d := by rcases h with ⟨_, rfl⟩ | rfl | ⟨_, rfl⟩ <;> rfl
theorem Bare.dr {d : AV} (h : Bare d) : deref [] d = d := by rcases h with rfl | ⟨_, rfl⟩ <;> rfl
section
variable {O : OpsF} {ld : Bool} (hO : O = ops ld) {cal : Cal} {t d : AV} {n : Nat}
abbrev hS (t d : AV) (e2 e3 : Option Ent) : Fs := ⟨[some (.val t), some (.val d), e2, e3, none], [], 0, 0⟩
include hO
theorem whole_is (h : Whole d) : O.bcall .isinstance [d, .type BI.int.name] = .ok (.bool true) := by
  rw [o_bcall hO]
  rcases h with ⟨_, rfl⟩ | ⟨_, rfl⟩ <;> rfl
theorem hint_good (g : Good ld t n) (h : Whole d) : fnRes (pxs O cal true (hS t d none none) length_hint_p) = .ok (.av (.int (n : Int))) [] := by
  unfold length_hint_p
  have b1 := whole_is hO h
  have tb : ∀ b, O.truth (.bool b) = some b := fun _ => by rw [o_truth hO]; rfl
  have bl : O.bcall .len [t] = .ok (.int (n : Int)) := by rw [o_bcall hO]; exact g.len
  refine fn_ret (pk_skip (σ := []) ?_ ?_)
  · simp only [pe_const, pe_name, slotV, pe_glob, pe_bin, pe_not, pe_neg, pe_is, pe_isnot, pe_eq, pe_ne, pe_lt, pe_le, pe_gt, pe_ge, pe_in, pe_notin, pe_bop, pe_ife, pe_list, pe_tup, pe_sub, pe_slice, pe_call, pe_bcall, pe_meth, pe_attr, pes_nil', pes_cons, pr_v, pr_t, bind_ok, bindA_ok, truth_ok, ofB_some, ofRes_ok, ofRes_exc, onL_some, onP_some, plains_nil, plains_cons, pall_and_nil, pall_or_nil, pall_and_cons, pall_or_cons, pbop_one, pbop_and, pbop_or, Option.map_some, List.map_cons, List.map_nil, List.getElem?_cons_zero, List.getElem?_cons_succ, dS_av, dr_none, dr_bool, dr_int, dr_str, dr_type, dr_range, dr_tup, dr_lst, dr_set, List.length_cons, List.length_nil, Bool.not_true, Bool.not_false, Nat.reduceAdd, Nat.reduceLeDiff, if_true, h.dr, b1, tb]
  dsimp only [Fs.at, Fs.set, List.set_cons_zero, List.set_cons_succ]
  refine pk_try ?_
  have e1 : pxs O cal true (hS t d none none) (.cons (.ret (.bcall .len (.cons (.name 0) .nil))) .nil) = .ret (.int (n : Int)) [] := by
    rw [qxs_cons, qx_ret]
    simp only [pe_const, pe_name, slotV, pe_glob, pe_bin, pe_not, pe_neg, pe_is, pe_isnot, pe_eq, pe_ne, pe_lt, pe_le, pe_gt, pe_ge, pe_in, pe_notin, pe_bop, pe_ife, pe_list, pe_tup, pe_sub, pe_slice, pe_call, pe_bcall, pe_meth, pe_attr, pes_nil', pes_cons, pr_v, pr_t, bind_ok, bindA_ok, truth_ok, ofB_some, ofRes_ok, ofRes_exc, onL_some, onP_some, plains_nil, plains_cons, pall_and_nil, pall_or_nil, pall_and_cons, pall_or_cons, pbop_one, pbop_and, pbop_or, Option.map_some, List.map_cons, List.map_nil, List.getElem?_cons_zero, List.getElem?_cons_succ, dS_av, dr_none, dr_bool, dr_int, dr_str, dr_type, dr_range, dr_tup, dr_lst, dr_set, List.length_cons, List.length_nil, Bool.not_true, Bool.not_false, Nat.reduceAdd, Nat.reduceLeDiff, if_true, g.dr, bl, resS]
  rw [e1]
  exact ends_ret
theorem hint_bare (g : Bare t) (h : Whole d) : fnRes (pxs O cal true (hS t d none none) length_hint_p) = .ok (.av d) [] := by
  unfold length_hint_p
  have b1 := whole_is hO h
  have tb : ∀ b, O.truth (.bool b) = some b := fun _ => by rw [o_truth hO]; rfl
  have bl : O.bcall .len [t] = .exc .te := by rw [o_bcall hO]; rcases g with rfl | ⟨_, rfl⟩ <;> rfl
  obtain ⟨T, bt, ba⟩ : ∃ T, O.bcall .type [t] = .ok (.type T) ∧ O.attr .lengthHint (.type T) = .exc .ae := by
    rw [o_bcall hO, o_attr hO]
    rcases g with rfl | ⟨_, rfl⟩
    · exact ⟨"NoneType", rfl, by rfl⟩
    · exact ⟨"int", rfl, by rfl⟩
  refine fn_ret (pk_skip (σ := []) ?_ ?_)
  · simp only [pe_const, pe_name, slotV, pe_glob, pe_bin, pe_not, pe_neg, pe_is, pe_isnot, pe_eq, pe_ne, pe_lt, pe_le, pe_gt, pe_ge, pe_in, pe_notin, pe_bop, pe_ife, pe_list, pe_tup, pe_sub, pe_slice, pe_call, pe_bcall, pe_meth, pe_attr, pes_nil', pes_cons, pr_v, pr_t, bind_ok, bindA_ok, truth_ok, ofB_some, ofRes_ok, ofRes_exc, onL_some, onP_some, plains_nil, plains_cons, pall_and_nil, pall_or_nil, pall_and_cons, pall_or_cons, pbop_one, pbop_and, pbop_or, Option.map_some, List.map_cons, List.map_nil, List.getElem?_cons_zero, List.getElem?_cons_succ, dS_av, dr_none, dr_bool, dr_int, dr_str, dr_type, dr_range, dr_tup, dr_lst, dr_set, List.length_cons, List.length_nil, Bool.not_true, Bool.not_false, Nat.reduceAdd, Nat.reduceLeDiff, if_true, h.dr, b1, tb]
  dsimp only [Fs.at, Fs.set, List.set_cons_zero, List.set_cons_succ]
  refine pk_try ?_
  have e1 : pxs O cal true (hS t d none none) (.cons (.ret (.bcall .len (.cons (.name 0) .nil))) .nil) = .exc .te (hS t d none none) := by
    rw [qxs_cons, qx_ret]
    simp only [pe_const, pe_name, slotV, pe_glob, pe_bin, pe_not, pe_neg, pe_is, pe_isnot, pe_eq, pe_ne, pe_lt, pe_le, pe_gt, pe_ge, pe_in, pe_notin, pe_bop, pe_ife, pe_list, pe_tup, pe_sub, pe_slice, pe_call, pe_bcall, pe_meth, pe_attr, pes_nil', pes_cons, pr_v, pr_t, bind_ok, bindA_ok, truth_ok, ofB_some, ofRes_ok, ofRes_exc, onL_some, onP_some, plains_nil, plains_cons, pall_and_nil, pall_or_nil, pall_and_cons, pall_or_cons, pbop_one, pbop_and, pbop_or, Option.map_some, List.map_cons, List.map_nil, List.getElem?_cons_zero, List.getElem?_cons_succ, dS_av, dr_none, dr_bool, dr_int, dr_str, dr_type, dr_range, dr_tup, dr_lst, dr_set, List.length_cons, List.length_nil, Bool.not_true, Bool.not_false, Nat.reduceAdd, Nat.reduceLeDiff, if_true, g.dr, bl, resS]
  rw [e1]
  dsimp only
  rw [qh_cons, if_pos rfl, qxs_cons, qx_pass]
  dsimp only
  rw [qxs_nil, thenK_next]
  refine pk_try ?_
  have e2 : pxs O cal true (hS t d none none) (.cons (.assign 3 (.attr (.bcall .type (.cons (.name 0) .nil)) .lengthHint)) .nil) = .exc .ae (hS t d none none) := by
    rw [qxs_cons, qx_assign]
    simp only [pe_const, pe_name, slotV, pe_glob, pe_bin, pe_not, pe_neg, pe_is, pe_isnot, pe_eq, pe_ne, pe_lt, pe_le, pe_gt, pe_ge, pe_in, pe_notin, pe_bop, pe_ife, pe_list, pe_tup, pe_sub, pe_slice, pe_call, pe_bcall, pe_meth, pe_attr, pes_nil', pes_cons, pr_v, pr_t, bind_ok, bindA_ok, truth_ok, ofB_some, ofRes_ok, ofRes_exc, onL_some, onP_some, plains_nil, plains_cons, pall_and_nil, pall_or_nil, pall_and_cons, pall_or_cons, pbop_one, pbop_and, pbop_or, Option.map_some, List.map_cons, List.map_nil, List.getElem?_cons_zero, List.getElem?_cons_succ, dS_av, dr_none, dr_bool, dr_int, dr_str, dr_type, dr_range, dr_tup, dr_lst, dr_set, List.length_cons, List.length_nil, Bool.not_true, Bool.not_false, Nat.reduceAdd, Nat.reduceLeDiff, if_true, g.dr, bt, ba, resS]
  rw [e2]
  dsimp only
  rw [qh_cons, if_pos rfl]
  refine pk_ret (v := d) (σ := []) ?_ ends_ret
  simp only [pe_const, pe_name, slotV, pe_glob, pe_bin, pe_not, pe_neg, pe_is, pe_isnot, pe_eq, pe_ne, pe_lt, pe_le, pe_gt, pe_ge, pe_in, pe_notin, pe_bop, pe_ife, pe_list, pe_tup, pe_sub, pe_slice, pe_call, pe_bcall, pe_meth, pe_attr, pes_nil', pes_cons, pr_v, pr_t, bind_ok, bindA_ok, truth_ok, ofB_some, ofRes_ok, ofRes_exc, onL_some, onP_some, plains_nil, plains_cons, pall_and_nil, pall_or_nil, pall_and_cons, pall_or_cons, pbop_one, pbop_and, pbop_or, Option.map_some, List.map_cons, List.map_nil, List.getElem?_cons_zero, List.getElem?_cons_succ, dS_av, dr_none, dr_bool, dr_int, dr_str, dr_type, dr_range, dr_tup, dr_lst, dr_set, List.length_cons, List.length_nil, Bool.not_true, Bool.not_false, Nat.reduceAdd, Nat.reduceLeDiff, if_true]
theorem hint_odd (h : Odd d) : fnRes (pxs O cal true (hS t d none none) length_hint_p) = .exc .te [] := by
  unfold length_hint_p
  have tb : ∀ b, O.truth (.bool b) = some b := fun _ => by rw [o_truth hO]; rfl
  have b1 : O.bcall .isinstance [d, .type BI.int.name] = .ok (.bool false) := by
    rw [o_bcall hO]
    rcases h with ⟨_, rfl⟩ | rfl | ⟨_, rfl⟩ <;> rfl
  have bm : ∀ y : Str, y.length ≤ 1000000 → O.bin .Mod (.str (PySem.Str.ofString "'%s' object cannot be interpreted as an integer")) (.str y) = .ok .any := fun y hy => by
    rw [o_bin hO]
    show (if fmtI = fmtI then (if y.length ≤ 1000000 then Res.ok .any else .stuck) else .stuck) = _
    rw [if_pos rfl, if_pos hy]
  obtain ⟨T, y, bt, ba, hy⟩ : ∃ T y, O.bcall .type [d] = .ok (.type T) ∧ O.attr .name_ (.type T) = .ok (.str y) ∧ y.length ≤ 1000000 := by
    rw [o_bcall hO, o_attr hO]
    rcases h with ⟨_, rfl⟩ | rfl | ⟨_, rfl⟩
    · exact ⟨"str", _, rfl, rfl, by decide⟩
    · exact ⟨"NoneType", _, rfl, rfl, by decide⟩
    · exact ⟨"list", _, rfl, rfl, by decide⟩
  refine fn_ret (pk_if_t (σ := []) ?_ ?_)
  · simp only [pe_const, pe_name, slotV, pe_glob, pe_bin, pe_not, pe_neg, pe_is, pe_isnot, pe_eq, pe_ne, pe_lt, pe_le, pe_gt, pe_ge, pe_in, pe_notin, pe_bop, pe_ife, pe_list, pe_tup, pe_sub, pe_slice, pe_call, pe_bcall, pe_meth, pe_attr, pes_nil', pes_cons, pr_v, pr_t, bind_ok, bindA_ok, truth_ok, ofB_some, ofRes_ok, ofRes_exc, onL_some, onP_some, plains_nil, plains_cons, pall_and_nil, pall_or_nil, pall_and_cons, pall_or_cons, pbop_one, pbop_and, pbop_or, Option.map_some, List.map_cons, List.map_nil, List.getElem?_cons_zero, List.getElem?_cons_succ, dS_av, dr_none, dr_bool, dr_int, dr_str, dr_type, dr_range, dr_tup, dr_lst, dr_set, List.length_cons, List.length_nil, Bool.not_true, Bool.not_false, Nat.reduceAdd, Nat.reduceLeDiff, if_true, h.dr, b1, tb]
  dsimp only [Fs.at, Fs.set, List.set_cons_zero, List.set_cons_succ]
  refine pk_assign (v := .any) (σ := []) ?_ ?_
  · simp only [pe_const, pe_name, slotV, pe_glob, pe_bin, pe_not, pe_neg, pe_is, pe_isnot, pe_eq, pe_ne, pe_lt, pe_le, pe_gt, pe_ge, pe_in, pe_notin, pe_bop, pe_ife, pe_list, pe_tup, pe_sub, pe_slice, pe_call, pe_bcall, pe_meth, pe_attr, pes_nil', pes_cons, pr_v, pr_t, bind_ok, bindA_ok, truth_ok, ofB_some, ofRes_ok, ofRes_exc, onL_some, onP_some, plains_nil, plains_cons, pall_and_nil, pall_or_nil, pall_and_cons, pall_or_cons, pbop_one, pbop_and, pbop_or, Option.map_some, List.map_cons, List.map_nil, List.getElem?_cons_zero, List.getElem?_cons_succ, dS_av, dr_none, dr_bool, dr_int, dr_str, dr_type, dr_range, dr_tup, dr_lst, dr_set, List.length_cons, List.length_nil, Bool.not_true, Bool.not_false, Nat.reduceAdd, Nat.reduceLeDiff, if_true, h.dr, bt, ba, bm y hy]
  dsimp only [Fs.at, Fs.set, List.set_cons_zero, List.set_cons_succ]
  refine pk_raise (v := .any) (σ := []) ?_ ?_
  · simp only [pe_const, pe_name, slotV, pe_glob, pe_bin, pe_not, pe_neg, pe_is, pe_isnot, pe_eq, pe_ne, pe_lt, pe_le, pe_gt, pe_ge, pe_in, pe_notin, pe_bop, pe_ife, pe_list, pe_tup, pe_sub, pe_slice, pe_call, pe_bcall, pe_meth, pe_attr, pes_nil', pes_cons, pr_v, pr_t, bind_ok, bindA_ok, truth_ok, ofB_some, ofRes_ok, ofRes_exc, onL_some, onP_some, plains_nil, plains_cons, pall_and_nil, pall_or_nil, pall_and_cons, pall_or_cons, pbop_one, pbop_and, pbop_or, Option.map_some, List.map_cons, List.map_nil, List.getElem?_cons_zero, List.getElem?_cons_succ, dS_av, dr_none, dr_bool, dr_int, dr_str, dr_type, dr_range, dr_tup, dr_lst, dr_set, List.length_cons, List.length_nil, Bool.not_true, Bool.not_false, Nat.reduceAdd, Nat.reduceLeDiff, if_true]
  · rfl
/- _law_whole -/
theorem whole_same (h : Whole d) : fnRes (pxs O cal true ⟨[some (.val d), some (.val d)], [], 0, 0⟩ law_whole_p) = .ok (.av (.bool true)) [] := by
  unfold law_whole_p
  have tb : ∀ b, O.truth (.bool b) = some b := fun _ => by rw [o_truth hO]; rfl
  have b1 := whole_is hO h
  have cb : ∀ b : Bool, O.cmp .Eq (.bool b) (.bool b) = some true := fun b => by rw [o_cmp hO]; cases b <;> rfl
  have b2 : O.cmp .Eq d d = some true := by
    rcases h with ⟨i, rfl⟩ | ⟨b, rfl⟩
    · rw [o_cmp hO]
      show some (i == i) = _
      rw [beq_self_eq_true]
    · exact cb b
  obtain ⟨b, b3⟩ : ∃ b, O.bcall .isinstance [d, .type BI.bool.name] = .ok (.bool b) := by
    rw [o_bcall hO]
    rcases h with ⟨i, rfl⟩ | ⟨b, rfl⟩
    · exact ⟨false, rfl⟩
    · exact ⟨true, rfl⟩
  refine fn_ret (pk_ret (v := .bool true) (σ := []) ?_ ends_ret)
  simp only [pe_const, pe_name, slotV, pe_glob, pe_bin, pe_not, pe_neg, pe_is, pe_isnot, pe_eq, pe_ne, pe_lt, pe_le, pe_gt, pe_ge, pe_in, pe_notin, pe_bop, pe_ife, pe_list, pe_tup, pe_sub, pe_slice, pe_call, pe_bcall, pe_meth, pe_attr, pes_nil', pes_cons, pr_v, pr_t, bind_ok, bindA_ok, truth_ok, ofB_some, ofRes_ok, ofRes_exc, onL_some, onP_some, plains_nil, plains_cons, pall_and_nil, pall_or_nil, pall_and_cons, pall_or_cons, pbop_one, pbop_and, pbop_or, Option.map_some, List.map_cons, List.map_nil, List.getElem?_cons_zero, List.getElem?_cons_succ, dS_av, dr_none, dr_bool, dr_int, dr_str, dr_type, dr_range, dr_tup, dr_lst, dr_set, List.length_cons, List.length_nil, Bool.not_true, Bool.not_false, Nat.reduceAdd, Nat.reduceLeDiff, if_true, h.dr, b1, b2, b3, cb, tb]
end
end Mine
end
section
open PySem PySem.W PyProof.Rows
namespace Mine
set_option maxRecDepth 100000
set_option linter.unusedSimpArgs false
set_option linter.unusedVariables false
/- texts -/
theorem empty_cps : (PySem.Str.ofString "").cps = #[] := by decide
noncomputable def sg (n : Int) : Str := ⟨#[(97 + n % 26).toNat]⟩
noncomputable def txt (ns : List Int) : Str := ⟨(ns.map fun n => (97 + n % 26).toNat).toArray⟩
theorem join_txt (r : List Int) : Txt.join (PySem.Str.ofString "") (r.map sg) = txt r := by
  unfold PySem.Txt.join
  rw [PySem.StrLaws.glued_eq_join]
  have app : ∀ x y : Str, (x ++ y).cps = x.cps ++ y.cps := fun _ _ => rfl
  have : ∀ r : List Int, (PySem.Str.join (PySem.Str.ofString "") (r.map sg)).cps.toList = r.map fun n => (97 + n % 26).toNat := by
    intro r
    induction r with
    | nil => rfl
    | cons x r ih =>
      cases r with
      | nil => simp [PySem.Str.join, sg]
      | cons y r =>
        simp only [List.map_cons] at ih ⊢
        rw [PySem.Str.join, app, app, empty_cps]
        · simp only [Array.toList_append, ih]
          simp [sg]
        · simp
  have h := this r
  unfold txt
  rw [← h]
theorem strs_map {α : Type} (f : α → Str) (l : List α) : strs? (l.map fun x => .str (f x)) = some (l.map f) := by
  induction l with
  | nil => rfl
  | cons a l ih => simp only [List.map_cons, strs?, ih]; rfl
theorem sum_ones {α : Type} (f : α → Nat) (h : ∀ x, f x = 1) : ∀ l : List α, (l.map f).sum = l.length
  | [] => rfl
  | a :: l => by rw [List.map_cons, List.sum_cons, h, sum_ones f h l, List.length_cons]; omega
theorem good_txt {ld : Bool} {ns : List Int} (hz : ns.length ≤ 1000) : Good ld (.str (txt ns)) ns.length := by
  have hl : (txt ns).cps.size = ns.length := by simp [txt]
  have hl' : (txt ns).length = ns.length := hl
  refine ⟨?_, ⟨(txt ns).cps.toList.map fun c => .str ⟨#[c]⟩, ?_, ?_⟩, rfl⟩
  · show (if (txt ns).length ≤ 1048576 then Res.ok (.int ((txt ns).length : Nat)) else .stuck) = _
    rw [hl', if_pos (by omega)]
  · show (if (txt ns).cps.all (· < 128) = true then (if (txt ns).cps.size ≤ 1048576 then some _ else none) else none) = _
    rw [if_pos, if_pos (by omega)]
    rw [Array.all_eq_true_iff_forall_mem]
    intro x hx
    simp only [txt, List.mem_toArray, List.mem_map] at hx
    obtain ⟨n, _, rfl⟩ := hx
    simp only [decide_eq_true_eq]
    omega
  · rw [List.length_map, Array.length_toList, hl]
/- ranges -/
theorem rs_bound {a b c : Int} (ha : 0 ≤ a) (ha' : a < 100) (hb : 0 ≤ b) (hb' : b < 100) : 0 ≤ Builtin.Range.rangeSize a b c ∧ Builtin.Range.rangeSize a b c ≤ 100 := by
  refine ⟨rangeSize_nonneg a b c, ?_⟩
  unfold Builtin.Range.rangeSize
  split
  · split
    · have := Int.ediv_le_self (a := b - a - 1) c (by omega)
      omega
    · omega
  · split
    · have := Int.ediv_le_self (a := a - b - 1) (-c) (by omega)
      omega
    · omega
theorem good_range {ld : Bool} {a b c : Int} (ha : 0 ≤ a) (ha' : a < 100) (hb : 0 ≤ b) (hb' : b < 100) (hc : -8 < c) (hc' : c < 8) : Good ld (.range a b c) (Builtin.Range.rangeSize a b c).toNat := by
  obtain ⟨h1, h2⟩ := rs_bound (c := c) ha ha' hb hb'
  have hs : Builtin.Range.small a b c = true := by
    unfold Builtin.Range.small
    generalize Builtin.Range.rangeSize a b c = r at h1 h2
    simp only [Builtin.Range.rangeFitsLong, Bool.and_eq_true, Bool.or_eq_true, decide_eq_true_eq, beq_iff_eq]
    refine ⟨⟨⟨⟨by omega, by omega⟩, by omega⟩, by omega⟩, .inr ?_⟩
    split <;> (simp only [Builtin.Range.rangeFitsLong, Bool.and_eq_true, decide_eq_true_eq]; omega)
  refine ⟨?_, ⟨rangeL a b c, ?_, by simp [rangeL]⟩, rfl⟩
  · show (if (Builtin.Range.rangeSize a b c).toNat ≤ 1048576 then Res.ok (.int (Builtin.Range.rangeSize a b c).toNat) else .stuck) = _
    rw [if_pos (by omega)]
  · show (if Builtin.Range.small a b c = true then (if (Builtin.Range.rangeSize a b c).toNat ≤ 1048576 then some (rangeL a b c) else none) else none) = _
    rw [if_pos hs, if_pos (by omega)]
theorem good_bytes {ld : Bool} {ns : List Int} (hz : ns.length ≤ 1000) : Good ld (.bytes (byteArr ns)) ns.length := by
  have hl := byteArr_size ns
  refine ⟨?_, ⟨(byteArr ns).toList.map fun c => .int (c.toNat : Int), ?_, by simp [hl]⟩, rfl⟩
  · show (if (byteArr ns).size ≤ 1048576 then Res.ok (.int ((byteArr ns).size : Nat)) else .stuck) = _
    rw [hl, if_pos (by omega)]
  · show (if (byteArr ns).size ≤ 1048576 then some _ else none) = _
    rw [if_pos (by omega)]
theorem good_dict {ld : Bool} {n : Nat} (hz : n ≤ 1000) : Good ld (.dict n) n := by
  refine ⟨?_, ⟨List.replicate n .any, ?_, by simp⟩, rfl⟩
  · show (if n ≤ 1048576 then Res.ok (.int (n : Nat)) else .stuck) = _
    rw [if_pos (by omega)]
  · show (if n ≤ 1048576 then some _ else none) = _
    rw [if_pos (by omega)]
theorem good_sm {ld : Bool} {n : Nat} (hz : n ≤ 1000) : Good ld (.sm ld n) n := by
  refine ⟨?_, ⟨List.replicate n .any, ?_, by simp⟩, rfl⟩
  · show (if n ≤ 1048576 then Res.ok (.int (n : Nat)) else .stuck) = _
    rw [if_pos (by omega)]
  · show (if ld = ld then (if n ≤ 1048576 then some _ else none) else none) = _
    rw [if_pos rfl, if_pos (by omega)]
section
variable {O : OpsF} {cal : Cal} {st : Fs}
theorem pe_setc {caps : List Nat} {elt src : PE} {a : OV} {σ₁ : Store} {l ys : List AV} (h1 : (pe O cal true st src).v = .ok a σ₁) (h2 : O.items (derefS st.ρ σ₁ a) = some l)
    (h3 : mapF (fun x => smallF (compF σ₁.length (some (true, σ₁)) (pe O cal true ((st.at σ₁).inner caps x) elt).v)) l = some ys) : pe O cal true st (.setc caps elt src) = .of O.truth st.ρ (.ok (.av (.sm O.ld (distI (intsOf ys)).length)) σ₁) := by
  rw [qe_setc, h1]
  simp only [ER.bind, h2, onItems, h3]
theorem pe_dictc {caps : List Nat} {key val src : PE} {a : OV} {σ₁ : Store} {l ys : List AV} (h1 : (pe O cal true st src).v = .ok a σ₁) (h2 : O.items (derefS st.ρ σ₁ a) = some l)
    (h3 : mapF (fun x => pairF (compF σ₁.length (some (true, σ₁)) (pe O cal true ((st.at σ₁).inner caps x) key).v) (compF σ₁.length (some (true, σ₁)) (pe O cal true ((st.at σ₁).inner caps x) val).v)) l = some ys) : pe O cal true st (.dictc caps key val src) = .of O.truth st.ρ (.ok (.av (.dict (distI (intsOf ys)).length)) σ₁) := by
  rw [qe_dictc, h1]
  simp only [ER.bind, h2, onItems, h3]
end
/-- what _law_thing gives -/
noncomputable def tK (ld : Bool) (x : Int) (fr : FR) : Prop := ∃ t, fnRes fr = .ok (.av t) [] ∧ ((x % 9 < 7 ∧ ∃ n, Good ld t n) ∨ (¬ x % 9 < 7 ∧ Bare t))
section
variable {O : OpsF} {ld : Bool} (hO : O = ops ld) {cal : Cal} {x : Int} {ns : List Int}
abbrev tS (x : Int) (ns : List Int) : Fs := ⟨[some (.val (.int x)), some (.val (.lst (ns.map .int)))], [], 0, 0⟩
theorem in0 {y : AV} : Fs.inner (Fs.at (tS x ns) []) [] y = ⟨[none, none, some (.val y)], [], 0, 0⟩ := rfl
theorem in1 {y : AV} : Fs.inner (Fs.at (tS x ns) []) [0] y = ⟨[some (.val (.int x)), none, some (.val y)], [], 0, 0⟩ := rfl
include hO
theorem bin_mod (a b : Int) (h : 0 < b) : O.bin .Mod (.int a) (.int b) = .ok (.int (a % b)) := by rw [o_bin hO]; exact mod_pos a b h
theorem bin_fd (a b : Int) (h : 0 < b) (h1 : b < 2 ^ 62) : O.bin .FloorDiv (.int a) (.int b) = .ok (.int (a / b)) := by rw [o_bin hO]; exact floordiv_small a b h h1
theorem c_str : (pe O cal true (tS x ns) (.comp [] (.bcall .chr (.cons (.bin .Add (.const (.int 97)) (.bin .Mod (.name 2) (.const (.int 26)))) .nil)) (.name 1) (.nil))).v = .ok (.av (.lst (ns.map fun n => .str (sg n)))) [] := by
  rw [pe_comp (a := .av (.lst (ns.map .int))) (σ₁ := []) (l := ns.map .int) (ys := ns.map fun n => .str (sg n))]
  · rfl
  · simp only [pe_const, pe_name, slotV, pe_glob, pe_bin, pe_not, pe_neg, pe_is, pe_isnot, pe_eq, pe_ne, pe_lt, pe_le, pe_gt, pe_ge, pe_in, pe_notin, pe_bop, pe_ife, pe_list, pe_tup, pe_sub, pe_slice, pe_call, pe_bcall, pe_meth, pe_attr, pes_nil', pes_cons, pr_v, pr_t, bind_ok, bindA_ok, truth_ok, ofB_some, ofRes_ok, ofRes_exc, onL_some, onP_some, plains_nil, plains_cons, pall_and_nil, pall_or_nil, pall_and_cons, pall_or_cons, pbop_one, pbop_and, pbop_or, Option.map_some, List.map_cons, List.map_nil, List.getElem?_cons_zero, List.getElem?_cons_succ, dS_av, dr_none, dr_bool, dr_int, dr_str, dr_type, dr_range, dr_tup, dr_lst, dr_set, List.length_cons, List.length_nil, Bool.not_true, Bool.not_false, Nat.reduceAdd, Nat.reduceLeDiff, if_true]
  · rw [o_items hO]; rfl
  · refine mapF_map fun n hn => ?_
    rw [in0, pall_and_nil]
    refine compF_t (σ' := []) ?_ rfl
    have b1 := bin_mod hO n 26 (by omega)
    have b2 : O.bin .Add (.int 97) (.int (n % 26)) = .ok (.int (97 + n % 26)) := by rw [o_bin hO]; rfl
    have b3 : O.bcall .chr [.int (97 + n % 26)] = .ok (.str (sg n)) := by
      rw [o_bcall hO]
      show (if 0 ≤ 97 + n % 26 ∧ 97 + n % 26 ≤ 1114111 then Res.ok (.str ⟨#[(97 + n % 26).toNat]⟩) else .stuck) = _
      rw [if_pos (by omega)]; rfl
    simp only [pe_const, pe_name, slotV, pe_glob, pe_bin, pe_not, pe_neg, pe_is, pe_isnot, pe_eq, pe_ne, pe_lt, pe_le, pe_gt, pe_ge, pe_in, pe_notin, pe_bop, pe_ife, pe_list, pe_tup, pe_sub, pe_slice, pe_call, pe_bcall, pe_meth, pe_attr, pes_nil', pes_cons, pr_v, pr_t, bind_ok, bindA_ok, truth_ok, ofB_some, ofRes_ok, ofRes_exc, onL_some, onP_some, plains_nil, plains_cons, pall_and_nil, pall_or_nil, pall_and_cons, pall_or_cons, pbop_one, pbop_and, pbop_or, Option.map_some, List.map_cons, List.map_nil, List.getElem?_cons_zero, List.getElem?_cons_succ, dS_av, dr_none, dr_bool, dr_int, dr_str, dr_type, dr_range, dr_tup, dr_lst, dr_set, List.length_cons, List.length_nil, Bool.not_true, Bool.not_false, Nat.reduceAdd, Nat.reduceLeDiff, if_true, b1, b2, b3]
theorem c_byt : (pe O cal true (tS x ns) (.comp [] (.bin .Mod (.name 2) (.const (.int 256))) (.name 1) (.nil))).v = .ok (.av (.lst ((ns.map (· % 256)).map .int))) [] := by
  rw [pe_comp (a := .av (.lst (ns.map .int))) (σ₁ := []) (l := ns.map .int) (ys := ns.map fun n => .int (n % 256))]
  · rw [pr_v, List.map_map]; rfl
  · simp only [pe_const, pe_name, slotV, pe_glob, pe_bin, pe_not, pe_neg, pe_is, pe_isnot, pe_eq, pe_ne, pe_lt, pe_le, pe_gt, pe_ge, pe_in, pe_notin, pe_bop, pe_ife, pe_list, pe_tup, pe_sub, pe_slice, pe_call, pe_bcall, pe_meth, pe_attr, pes_nil', pes_cons, pr_v, pr_t, bind_ok, bindA_ok, truth_ok, ofB_some, ofRes_ok, ofRes_exc, onL_some, onP_some, plains_nil, plains_cons, pall_and_nil, pall_or_nil, pall_and_cons, pall_or_cons, pbop_one, pbop_and, pbop_or, Option.map_some, List.map_cons, List.map_nil, List.getElem?_cons_zero, List.getElem?_cons_succ, dS_av, dr_none, dr_bool, dr_int, dr_str, dr_type, dr_range, dr_tup, dr_lst, dr_set, List.length_cons, List.length_nil, Bool.not_true, Bool.not_false, Nat.reduceAdd, Nat.reduceLeDiff, if_true]
  · rw [o_items hO]; rfl
  · refine mapF_map fun n hn => ?_
    rw [in0, pall_and_nil]
    refine compF_t (σ' := []) ?_ rfl
    have b1 := bin_mod hO n 256 (by omega)
    simp only [pe_const, pe_name, slotV, pe_glob, pe_bin, pe_not, pe_neg, pe_is, pe_isnot, pe_eq, pe_ne, pe_lt, pe_le, pe_gt, pe_ge, pe_in, pe_notin, pe_bop, pe_ife, pe_list, pe_tup, pe_sub, pe_slice, pe_call, pe_bcall, pe_meth, pe_attr, pes_nil', pes_cons, pr_v, pr_t, bind_ok, bindA_ok, truth_ok, ofB_some, ofRes_ok, ofRes_exc, onL_some, onP_some, plains_nil, plains_cons, pall_and_nil, pall_or_nil, pall_and_cons, pall_or_cons, pbop_one, pbop_and, pbop_or, Option.map_some, List.map_cons, List.map_nil, List.getElem?_cons_zero, List.getElem?_cons_succ, dS_av, dr_none, dr_bool, dr_int, dr_str, dr_type, dr_range, dr_tup, dr_lst, dr_set, List.length_cons, List.length_nil, Bool.not_true, Bool.not_false, Nat.reduceAdd, Nat.reduceLeDiff, if_true, b1]
theorem c_dic : (pe O cal true (tS x ns) (.dictc [0] (.name 2) (.name 0) (.name 1))).v = .ok (.av (.dict (distI ns).length)) [] := by
  rw [pe_dictc (a := .av (.lst (ns.map .int))) (σ₁ := []) (l := ns.map .int) (ys := ns.map fun n => .int n)]
  · rw [pr_v, intsOf_map]
  · simp only [pe_const, pe_name, slotV, pe_glob, pe_bin, pe_not, pe_neg, pe_is, pe_isnot, pe_eq, pe_ne, pe_lt, pe_le, pe_gt, pe_ge, pe_in, pe_notin, pe_bop, pe_ife, pe_list, pe_tup, pe_sub, pe_slice, pe_call, pe_bcall, pe_meth, pe_attr, pes_nil', pes_cons, pr_v, pr_t, bind_ok, bindA_ok, truth_ok, ofB_some, ofRes_ok, ofRes_exc, onL_some, onP_some, plains_nil, plains_cons, pall_and_nil, pall_or_nil, pall_and_cons, pall_or_cons, pbop_one, pbop_and, pbop_or, Option.map_some, List.map_cons, List.map_nil, List.getElem?_cons_zero, List.getElem?_cons_succ, dS_av, dr_none, dr_bool, dr_int, dr_str, dr_type, dr_range, dr_tup, dr_lst, dr_set, List.length_cons, List.length_nil, Bool.not_true, Bool.not_false, Nat.reduceAdd, Nat.reduceLeDiff, if_true]
  · rw [o_items hO]; rfl
  · refine mapF_map fun n hn => ?_
    rw [in1, compF_t (v := .int n) (σ' := []), compF_t (v := .int x) (σ' := [])]
    · rfl
    · simp only [pe_const, pe_name, slotV, pe_glob, pe_bin, pe_not, pe_neg, pe_is, pe_isnot, pe_eq, pe_ne, pe_lt, pe_le, pe_gt, pe_ge, pe_in, pe_notin, pe_bop, pe_ife, pe_list, pe_tup, pe_sub, pe_slice, pe_call, pe_bcall, pe_meth, pe_attr, pes_nil', pes_cons, pr_v, pr_t, bind_ok, bindA_ok, truth_ok, ofB_some, ofRes_ok, ofRes_exc, onL_some, onP_some, plains_nil, plains_cons, pall_and_nil, pall_or_nil, pall_and_cons, pall_or_cons, pbop_one, pbop_and, pbop_or, Option.map_some, List.map_cons, List.map_nil, List.getElem?_cons_zero, List.getElem?_cons_succ, dS_av, dr_none, dr_bool, dr_int, dr_str, dr_type, dr_range, dr_tup, dr_lst, dr_set, List.length_cons, List.length_nil, Bool.not_true, Bool.not_false, Nat.reduceAdd, Nat.reduceLeDiff, if_true]
    · rfl
    · simp only [pe_const, pe_name, slotV, pe_glob, pe_bin, pe_not, pe_neg, pe_is, pe_isnot, pe_eq, pe_ne, pe_lt, pe_le, pe_gt, pe_ge, pe_in, pe_notin, pe_bop, pe_ife, pe_list, pe_tup, pe_sub, pe_slice, pe_call, pe_bcall, pe_meth, pe_attr, pes_nil', pes_cons, pr_v, pr_t, bind_ok, bindA_ok, truth_ok, ofB_some, ofRes_ok, ofRes_exc, onL_some, onP_some, plains_nil, plains_cons, pall_and_nil, pall_or_nil, pall_and_cons, pall_or_cons, pbop_one, pbop_and, pbop_or, Option.map_some, List.map_cons, List.map_nil, List.getElem?_cons_zero, List.getElem?_cons_succ, dS_av, dr_none, dr_bool, dr_int, dr_str, dr_type, dr_range, dr_tup, dr_lst, dr_set, List.length_cons, List.length_nil, Bool.not_true, Bool.not_false, Nat.reduceAdd, Nat.reduceLeDiff, if_true]
    · rfl
theorem c_set : (pe O cal true (tS x ns) (.setc [] (.bin .Mod (.name 2) (.const (.int 5))) (.name 1))).v = .ok (.av (.sm ld (distI (ns.map (· % 5))).length)) [] := by
  rw [pe_setc (a := .av (.lst (ns.map .int))) (σ₁ := []) (l := ns.map .int) (ys := ns.map fun n => .int (n % 5))]
  · rw [pr_v, show (ns.map fun n => AV.int (n % 5)) = (ns.map (· % 5)).map .int from by rw [List.map_map]; rfl, intsOf_map, show O.ld = ld from by rw [hO]; rfl]
  · simp only [pe_const, pe_name, slotV, pe_glob, pe_bin, pe_not, pe_neg, pe_is, pe_isnot, pe_eq, pe_ne, pe_lt, pe_le, pe_gt, pe_ge, pe_in, pe_notin, pe_bop, pe_ife, pe_list, pe_tup, pe_sub, pe_slice, pe_call, pe_bcall, pe_meth, pe_attr, pes_nil', pes_cons, pr_v, pr_t, bind_ok, bindA_ok, truth_ok, ofB_some, ofRes_ok, ofRes_exc, onL_some, onP_some, plains_nil, plains_cons, pall_and_nil, pall_or_nil, pall_and_cons, pall_or_cons, pbop_one, pbop_and, pbop_or, Option.map_some, List.map_cons, List.map_nil, List.getElem?_cons_zero, List.getElem?_cons_succ, dS_av, dr_none, dr_bool, dr_int, dr_str, dr_type, dr_range, dr_tup, dr_lst, dr_set, List.length_cons, List.length_nil, Bool.not_true, Bool.not_false, Nat.reduceAdd, Nat.reduceLeDiff, if_true]
  · rw [o_items hO]; rfl
  · refine mapF_map fun n hn => ?_
    rw [in0, compF_t (v := .int (n % 5)) (σ' := [])]
    · show (if 0 ≤ n % 5 ∧ n % 5 < 5 then some (some (AV.int (n % 5))) else none) = _
      rw [if_pos (by omega)]
    · have b1 := bin_mod hO n 5 (by omega)
      simp only [pe_const, pe_name, slotV, pe_glob, pe_bin, pe_not, pe_neg, pe_is, pe_isnot, pe_eq, pe_ne, pe_lt, pe_le, pe_gt, pe_ge, pe_in, pe_notin, pe_bop, pe_ife, pe_list, pe_tup, pe_sub, pe_slice, pe_call, pe_bcall, pe_meth, pe_attr, pes_nil', pes_cons, pr_v, pr_t, bind_ok, bindA_ok, truth_ok, ofB_some, ofRes_ok, ofRes_exc, onL_some, onP_some, plains_nil, plains_cons, pall_and_nil, pall_or_nil, pall_and_cons, pall_or_cons, pbop_one, pbop_and, pbop_or, Option.map_some, List.map_cons, List.map_nil, List.getElem?_cons_zero, List.getElem?_cons_succ, dS_av, dr_none, dr_bool, dr_int, dr_str, dr_type, dr_range, dr_tup, dr_lst, dr_set, List.length_cons, List.length_nil, Bool.not_true, Bool.not_false, Nat.reduceAdd, Nat.reduceLeDiff, if_true, b1]
    · rfl
theorem thing_run (hz : ns.length ≤ 65) : tK ld x (pxs O cal true (tS x ns) law_thing_p) := by
  unfold law_thing_p
  have bm := bin_mod hO x 9 (by omega)
  have tb : ∀ b, O.truth (.bool b) = some b := fun _ => by rw [o_truth hO]; rfl
  have ceq : ∀ a b : Int, O.cmp .Eq (.int a) (.int b) = some (a == b) := fun _ _ => by rw [o_cmp hO]; rfl
  have yes : ∀ a b : Int, a = b → (a == b) = true := fun a b h => by rw [h, beq_self_eq_true]
  have no : ∀ a b : Int, a ≠ b → (a == b) = false := fun a b h => beq_eq_false_iff_ne.mpr h
  by_cases h0 : x % 9 = 0
  · refine pk_if_t (σ := []) ?_ (pk_ret (v := .lst (ns.map .int)) (σ := []) ?_ ⟨_, rfl, .inl ⟨by omega, ns.length, ⟨?_, ⟨ns.map .int, rfl, by simp⟩, rfl⟩⟩⟩)
    · simp only [pe_const, pe_name, slotV, pe_glob, pe_bin, pe_not, pe_neg, pe_is, pe_isnot, pe_eq, pe_ne, pe_lt, pe_le, pe_gt, pe_ge, pe_in, pe_notin, pe_bop, pe_ife, pe_list, pe_tup, pe_sub, pe_slice, pe_call, pe_bcall, pe_meth, pe_attr, pes_nil', pes_cons, pr_v, pr_t, bind_ok, bindA_ok, truth_ok, ofB_some, ofRes_ok, ofRes_exc, onL_some, onP_some, plains_nil, plains_cons, pall_and_nil, pall_or_nil, pall_and_cons, pall_or_cons, pbop_one, pbop_and, pbop_or, Option.map_some, List.map_cons, List.map_nil, List.getElem?_cons_zero, List.getElem?_cons_succ, dS_av, dr_none, dr_bool, dr_int, dr_str, dr_type, dr_range, dr_tup, dr_lst, dr_set, List.length_cons, List.length_nil, Bool.not_true, Bool.not_false, Nat.reduceAdd, Nat.reduceLeDiff, if_true, bm, ceq, tb, yes _ _ h0]
    · simp only [pe_const, pe_name, slotV, pe_glob, pe_bin, pe_not, pe_neg, pe_is, pe_isnot, pe_eq, pe_ne, pe_lt, pe_le, pe_gt, pe_ge, pe_in, pe_notin, pe_bop, pe_ife, pe_list, pe_tup, pe_sub, pe_slice, pe_call, pe_bcall, pe_meth, pe_attr, pes_nil', pes_cons, pr_v, pr_t, bind_ok, bindA_ok, truth_ok, ofB_some, ofRes_ok, ofRes_exc, onL_some, onP_some, plains_nil, plains_cons, pall_and_nil, pall_or_nil, pall_and_cons, pall_or_cons, pbop_one, pbop_and, pbop_or, Option.map_some, List.map_cons, List.map_nil, List.getElem?_cons_zero, List.getElem?_cons_succ, dS_av, dr_none, dr_bool, dr_int, dr_str, dr_type, dr_range, dr_tup, dr_lst, dr_set, List.length_cons, List.length_nil, Bool.not_true, Bool.not_false, Nat.reduceAdd, Nat.reduceLeDiff, if_true]
    · show Res.ok (.int ((ns.map AV.int).length : Nat)) = _
      rw [List.length_map]
  refine pk_skip (σ := []) ?_ ?_
  · simp only [pe_const, pe_name, slotV, pe_glob, pe_bin, pe_not, pe_neg, pe_is, pe_isnot, pe_eq, pe_ne, pe_lt, pe_le, pe_gt, pe_ge, pe_in, pe_notin, pe_bop, pe_ife, pe_list, pe_tup, pe_sub, pe_slice, pe_call, pe_bcall, pe_meth, pe_attr, pes_nil', pes_cons, pr_v, pr_t, bind_ok, bindA_ok, truth_ok, ofB_some, ofRes_ok, ofRes_exc, onL_some, onP_some, plains_nil, plains_cons, pall_and_nil, pall_or_nil, pall_and_cons, pall_or_cons, pbop_one, pbop_and, pbop_or, Option.map_some, List.map_cons, List.map_nil, List.getElem?_cons_zero, List.getElem?_cons_succ, dS_av, dr_none, dr_bool, dr_int, dr_str, dr_type, dr_range, dr_tup, dr_lst, dr_set, List.length_cons, List.length_nil, Bool.not_true, Bool.not_false, Nat.reduceAdd, Nat.reduceLeDiff, if_true, bm, ceq, tb, no _ _ h0]
  dsimp only [Fs.at, Fs.set, List.set_cons_zero, List.set_cons_succ]
  by_cases h1 : x % 9 = 1
  · have bt : O.bcall .tuple [.lst (ns.map .int)] = .ok (.tup (ns.map .int)) := by rw [o_bcall hO]; rfl
    refine pk_if_t (σ := []) ?_ (pk_ret (v := .tup (ns.map .int)) (σ := []) ?_ ⟨_, rfl, .inl ⟨by omega, ns.length, ⟨?_, ⟨ns.map .int, rfl, by simp⟩, rfl⟩⟩⟩)
    · simp only [pe_const, pe_name, slotV, pe_glob, pe_bin, pe_not, pe_neg, pe_is, pe_isnot, pe_eq, pe_ne, pe_lt, pe_le, pe_gt, pe_ge, pe_in, pe_notin, pe_bop, pe_ife, pe_list, pe_tup, pe_sub, pe_slice, pe_call, pe_bcall, pe_meth, pe_attr, pes_nil', pes_cons, pr_v, pr_t, bind_ok, bindA_ok, truth_ok, ofB_some, ofRes_ok, ofRes_exc, onL_some, onP_some, plains_nil, plains_cons, pall_and_nil, pall_or_nil, pall_and_cons, pall_or_cons, pbop_one, pbop_and, pbop_or, Option.map_some, List.map_cons, List.map_nil, List.getElem?_cons_zero, List.getElem?_cons_succ, dS_av, dr_none, dr_bool, dr_int, dr_str, dr_type, dr_range, dr_tup, dr_lst, dr_set, List.length_cons, List.length_nil, Bool.not_true, Bool.not_false, Nat.reduceAdd, Nat.reduceLeDiff, if_true, bm, ceq, tb, yes _ _ h1]
    · simp only [pe_const, pe_name, slotV, pe_glob, pe_bin, pe_not, pe_neg, pe_is, pe_isnot, pe_eq, pe_ne, pe_lt, pe_le, pe_gt, pe_ge, pe_in, pe_notin, pe_bop, pe_ife, pe_list, pe_tup, pe_sub, pe_slice, pe_call, pe_bcall, pe_meth, pe_attr, pes_nil', pes_cons, pr_v, pr_t, bind_ok, bindA_ok, truth_ok, ofB_some, ofRes_ok, ofRes_exc, onL_some, onP_some, plains_nil, plains_cons, pall_and_nil, pall_or_nil, pall_and_cons, pall_or_cons, pbop_one, pbop_and, pbop_or, Option.map_some, List.map_cons, List.map_nil, List.getElem?_cons_zero, List.getElem?_cons_succ, dS_av, dr_none, dr_bool, dr_int, dr_str, dr_type, dr_range, dr_tup, dr_lst, dr_set, List.length_cons, List.length_nil, Bool.not_true, Bool.not_false, Nat.reduceAdd, Nat.reduceLeDiff, if_true, bt]
    · show Res.ok (.int ((ns.map AV.int).length : Nat)) = _
      rw [List.length_map]
  refine pk_skip (σ := []) ?_ ?_
  · simp only [pe_const, pe_name, slotV, pe_glob, pe_bin, pe_not, pe_neg, pe_is, pe_isnot, pe_eq, pe_ne, pe_lt, pe_le, pe_gt, pe_ge, pe_in, pe_notin, pe_bop, pe_ife, pe_list, pe_tup, pe_sub, pe_slice, pe_call, pe_bcall, pe_meth, pe_attr, pes_nil', pes_cons, pr_v, pr_t, bind_ok, bindA_ok, truth_ok, ofB_some, ofRes_ok, ofRes_exc, onL_some, onP_some, plains_nil, plains_cons, pall_and_nil, pall_or_nil, pall_and_cons, pall_or_cons, pbop_one, pbop_and, pbop_or, Option.map_some, List.map_cons, List.map_nil, List.getElem?_cons_zero, List.getElem?_cons_succ, dS_av, dr_none, dr_bool, dr_int, dr_str, dr_type, dr_range, dr_tup, dr_lst, dr_set, List.length_cons, List.length_nil, Bool.not_true, Bool.not_false, Nat.reduceAdd, Nat.reduceLeDiff, if_true, bm, ceq, tb, no _ _ h1]
  dsimp only [Fs.at, Fs.set, List.set_cons_zero, List.set_cons_succ]
  by_cases h2 : x % 9 = 2
  · have bt : O.meth .join (.str (PySem.Str.ofString "")) [.lst (ns.map fun n => .str (sg n))] = .ok (.str (txt ns)) := by
      rw [o_meth hO]
      show (match strs? (ns.map fun n => AV.str (sg n)) with
        | some zs => if (PySem.Str.ofString "").length ≤ 16 then (if (zs.map fun z : Str => z.length).sum + zs.length ≤ 1048576 then Res.ok (.str (Txt.join (PySem.Str.ofString "") zs)) else .stuck) else .stuck
        | none => .stuck) = _
      rw [strs_map]
      dsimp only
      rw [if_pos (by decide), List.map_map, sum_ones ((fun z : Str => z.length) ∘ sg) (fun _ => rfl), List.length_map, if_pos (by omega), join_txt]
    have ct : O.mty .join (.str (PySem.Str.ofString "")) = some "str" := by rw [o_mty hO]; rfl
    have cs := c_str hO (cal := cal) (x := x) (ns := ns)
    refine pk_if_t (σ := []) ?_ (pk_ret (v := .str (txt ns)) (σ := []) ?_ ⟨_, rfl, .inl ⟨by omega, _, good_txt (by omega)⟩⟩)
    · simp only [pe_const, pe_name, slotV, pe_glob, pe_bin, pe_not, pe_neg, pe_is, pe_isnot, pe_eq, pe_ne, pe_lt, pe_le, pe_gt, pe_ge, pe_in, pe_notin, pe_bop, pe_ife, pe_list, pe_tup, pe_sub, pe_slice, pe_call, pe_bcall, pe_meth, pe_attr, pes_nil', pes_cons, pr_v, pr_t, bind_ok, bindA_ok, truth_ok, ofB_some, ofRes_ok, ofRes_exc, onL_some, onP_some, plains_nil, plains_cons, pall_and_nil, pall_or_nil, pall_and_cons, pall_or_cons, pbop_one, pbop_and, pbop_or, Option.map_some, List.map_cons, List.map_nil, List.getElem?_cons_zero, List.getElem?_cons_succ, dS_av, dr_none, dr_bool, dr_int, dr_str, dr_type, dr_range, dr_tup, dr_lst, dr_set, List.length_cons, List.length_nil, Bool.not_true, Bool.not_false, Nat.reduceAdd, Nat.reduceLeDiff, if_true, bm, ceq, tb, yes _ _ h2]
    · simp only [pe_const, pe_name, slotV, pe_glob, pe_bin, pe_not, pe_neg, pe_is, pe_isnot, pe_eq, pe_ne, pe_lt, pe_le, pe_gt, pe_ge, pe_in, pe_notin, pe_bop, pe_ife, pe_list, pe_tup, pe_sub, pe_slice, pe_call, pe_bcall, pe_meth, pe_attr, pes_nil', pes_cons, pr_v, pr_t, bind_ok, bindA_ok, truth_ok, ofB_some, ofRes_ok, ofRes_exc, onL_some, onP_some, plains_nil, plains_cons, pall_and_nil, pall_or_nil, pall_and_cons, pall_or_cons, pbop_one, pbop_and, pbop_or, Option.map_some, List.map_cons, List.map_nil, List.getElem?_cons_zero, List.getElem?_cons_succ, dS_av, dr_none, dr_bool, dr_int, dr_str, dr_type, dr_range, dr_tup, dr_lst, dr_set, List.length_cons, List.length_nil, Bool.not_true, Bool.not_false, Nat.reduceAdd, Nat.reduceLeDiff, if_true, ct, cs, bt]
  refine pk_skip (σ := []) ?_ ?_
  · simp only [pe_const, pe_name, slotV, pe_glob, pe_bin, pe_not, pe_neg, pe_is, pe_isnot, pe_eq, pe_ne, pe_lt, pe_le, pe_gt, pe_ge, pe_in, pe_notin, pe_bop, pe_ife, pe_list, pe_tup, pe_sub, pe_slice, pe_call, pe_bcall, pe_meth, pe_attr, pes_nil', pes_cons, pr_v, pr_t, bind_ok, bindA_ok, truth_ok, ofB_some, ofRes_ok, ofRes_exc, onL_some, onP_some, plains_nil, plains_cons, pall_and_nil, pall_or_nil, pall_and_cons, pall_or_cons, pbop_one, pbop_and, pbop_or, Option.map_some, List.map_cons, List.map_nil, List.getElem?_cons_zero, List.getElem?_cons_succ, dS_av, dr_none, dr_bool, dr_int, dr_str, dr_type, dr_range, dr_tup, dr_lst, dr_set, List.length_cons, List.length_nil, Bool.not_true, Bool.not_false, Nat.reduceAdd, Nat.reduceLeDiff, if_true, bm, ceq, tb, no _ _ h2]
  dsimp only [Fs.at, Fs.set, List.set_cons_zero, List.set_cons_succ]
  by_cases h3 : x % 9 = 3
  · have bt : O.bcall .bytes [.lst ((ns.map (· % 256)).map .int)] = .ok (.bytes (byteArr (ns.map (· % 256)))) := by
      rw [o_bcall hO]
      show (match ints? ((ns.map (· % 256)).map .int) with | some ns => if ns.all inByte = true then (if ns.length ≤ 1048576 then Res.ok (.bytes (byteArr ns)) else .stuck) else .stuck | none => .stuck) = _
      rw [ints_map]
      dsimp only
      rw [if_pos, if_pos (by rw [List.length_map]; omega)]
      rw [List.all_eq_true]
      intro y hy
      obtain ⟨n, _, rfl⟩ := List.mem_map.mp hy
      simp only [inByte, decide_eq_true_eq]
      omega
    have cs := c_byt hO (cal := cal) (x := x) (ns := ns)
    refine pk_if_t (σ := []) ?_ (pk_ret (v := .bytes (byteArr (ns.map (· % 256)))) (σ := []) ?_ ⟨_, rfl, .inl ⟨by omega, _, good_bytes (by rw [List.length_map]; omega)⟩⟩)
    · simp only [pe_const, pe_name, slotV, pe_glob, pe_bin, pe_not, pe_neg, pe_is, pe_isnot, pe_eq, pe_ne, pe_lt, pe_le, pe_gt, pe_ge, pe_in, pe_notin, pe_bop, pe_ife, pe_list, pe_tup, pe_sub, pe_slice, pe_call, pe_bcall, pe_meth, pe_attr, pes_nil', pes_cons, pr_v, pr_t, bind_ok, bindA_ok, truth_ok, ofB_some, ofRes_ok, ofRes_exc, onL_some, onP_some, plains_nil, plains_cons, pall_and_nil, pall_or_nil, pall_and_cons, pall_or_cons, pbop_one, pbop_and, pbop_or, Option.map_some, List.map_cons, List.map_nil, List.getElem?_cons_zero, List.getElem?_cons_succ, dS_av, dr_none, dr_bool, dr_int, dr_str, dr_type, dr_range, dr_tup, dr_lst, dr_set, List.length_cons, List.length_nil, Bool.not_true, Bool.not_false, Nat.reduceAdd, Nat.reduceLeDiff, if_true, bm, ceq, tb, yes _ _ h3]
    · simp only [pe_const, pe_name, slotV, pe_glob, pe_bin, pe_not, pe_neg, pe_is, pe_isnot, pe_eq, pe_ne, pe_lt, pe_le, pe_gt, pe_ge, pe_in, pe_notin, pe_bop, pe_ife, pe_list, pe_tup, pe_sub, pe_slice, pe_call, pe_bcall, pe_meth, pe_attr, pes_nil', pes_cons, pr_v, pr_t, bind_ok, bindA_ok, truth_ok, ofB_some, ofRes_ok, ofRes_exc, onL_some, onP_some, plains_nil, plains_cons, pall_and_nil, pall_or_nil, pall_and_cons, pall_or_cons, pbop_one, pbop_and, pbop_or, Option.map_some, List.map_cons, List.map_nil, List.getElem?_cons_zero, List.getElem?_cons_succ, dS_av, dr_none, dr_bool, dr_int, dr_str, dr_type, dr_range, dr_tup, dr_lst, dr_set, List.length_cons, List.length_nil, Bool.not_true, Bool.not_false, Nat.reduceAdd, Nat.reduceLeDiff, if_true, cs, bt]
  refine pk_skip (σ := []) ?_ ?_
  · simp only [pe_const, pe_name, slotV, pe_glob, pe_bin, pe_not, pe_neg, pe_is, pe_isnot, pe_eq, pe_ne, pe_lt, pe_le, pe_gt, pe_ge, pe_in, pe_notin, pe_bop, pe_ife, pe_list, pe_tup, pe_sub, pe_slice, pe_call, pe_bcall, pe_meth, pe_attr, pes_nil', pes_cons, pr_v, pr_t, bind_ok, bindA_ok, truth_ok, ofB_some, ofRes_ok, ofRes_exc, onL_some, onP_some, plains_nil, plains_cons, pall_and_nil, pall_or_nil, pall_and_cons, pall_or_cons, pbop_one, pbop_and, pbop_or, Option.map_some, List.map_cons, List.map_nil, List.getElem?_cons_zero, List.getElem?_cons_succ, dS_av, dr_none, dr_bool, dr_int, dr_str, dr_type, dr_range, dr_tup, dr_lst, dr_set, List.length_cons, List.length_nil, Bool.not_true, Bool.not_false, Nat.reduceAdd, Nat.reduceLeDiff, if_true, bm, ceq, tb, no _ _ h3]
  dsimp only [Fs.at, Fs.set, List.set_cons_zero, List.set_cons_succ]
  by_cases h4 : x % 9 = 4
  · have cs := c_dic hO (cal := cal) (x := x) (ns := ns)
    have := distI_length_le ns
    refine pk_if_t (σ := []) ?_ (pk_ret (v := .dict (distI ns).length) (σ := []) cs ⟨_, rfl, .inl ⟨by omega, _, good_dict (by omega)⟩⟩)
    simp only [pe_const, pe_name, slotV, pe_glob, pe_bin, pe_not, pe_neg, pe_is, pe_isnot, pe_eq, pe_ne, pe_lt, pe_le, pe_gt, pe_ge, pe_in, pe_notin, pe_bop, pe_ife, pe_list, pe_tup, pe_sub, pe_slice, pe_call, pe_bcall, pe_meth, pe_attr, pes_nil', pes_cons, pr_v, pr_t, bind_ok, bindA_ok, truth_ok, ofB_some, ofRes_ok, ofRes_exc, onL_some, onP_some, plains_nil, plains_cons, pall_and_nil, pall_or_nil, pall_and_cons, pall_or_cons, pbop_one, pbop_and, pbop_or, Option.map_some, List.map_cons, List.map_nil, List.getElem?_cons_zero, List.getElem?_cons_succ, dS_av, dr_none, dr_bool, dr_int, dr_str, dr_type, dr_range, dr_tup, dr_lst, dr_set, List.length_cons, List.length_nil, Bool.not_true, Bool.not_false, Nat.reduceAdd, Nat.reduceLeDiff, if_true, bm, ceq, tb, yes _ _ h4]
  refine pk_skip (σ := []) ?_ ?_
  · simp only [pe_const, pe_name, slotV, pe_glob, pe_bin, pe_not, pe_neg, pe_is, pe_isnot, pe_eq, pe_ne, pe_lt, pe_le, pe_gt, pe_ge, pe_in, pe_notin, pe_bop, pe_ife, pe_list, pe_tup, pe_sub, pe_slice, pe_call, pe_bcall, pe_meth, pe_attr, pes_nil', pes_cons, pr_v, pr_t, bind_ok, bindA_ok, truth_ok, ofB_some, ofRes_ok, ofRes_exc, onL_some, onP_some, plains_nil, plains_cons, pall_and_nil, pall_or_nil, pall_and_cons, pall_or_cons, pbop_one, pbop_and, pbop_or, Option.map_some, List.map_cons, List.map_nil, List.getElem?_cons_zero, List.getElem?_cons_succ, dS_av, dr_none, dr_bool, dr_int, dr_str, dr_type, dr_range, dr_tup, dr_lst, dr_set, List.length_cons, List.length_nil, Bool.not_true, Bool.not_false, Nat.reduceAdd, Nat.reduceLeDiff, if_true, bm, ceq, tb, no _ _ h4]
  dsimp only [Fs.at, Fs.set, List.set_cons_zero, List.set_cons_succ]
  by_cases h5 : x % 9 = 5
  · have cs := c_set hO (cal := cal) (x := x) (ns := ns)
    have := distI_length_le (ns.map (· % 5))
    rw [List.length_map] at this
    refine pk_if_t (σ := []) ?_ (pk_ret (v := .sm ld (distI (ns.map (· % 5))).length) (σ := []) cs ⟨_, rfl, .inl ⟨by omega, _, good_sm (by omega)⟩⟩)
    simp only [pe_const, pe_name, slotV, pe_glob, pe_bin, pe_not, pe_neg, pe_is, pe_isnot, pe_eq, pe_ne, pe_lt, pe_le, pe_gt, pe_ge, pe_in, pe_notin, pe_bop, pe_ife, pe_list, pe_tup, pe_sub, pe_slice, pe_call, pe_bcall, pe_meth, pe_attr, pes_nil', pes_cons, pr_v, pr_t, bind_ok, bindA_ok, truth_ok, ofB_some, ofRes_ok, ofRes_exc, onL_some, onP_some, plains_nil, plains_cons, pall_and_nil, pall_or_nil, pall_and_cons, pall_or_cons, pbop_one, pbop_and, pbop_or, Option.map_some, List.map_cons, List.map_nil, List.getElem?_cons_zero, List.getElem?_cons_succ, dS_av, dr_none, dr_bool, dr_int, dr_str, dr_type, dr_range, dr_tup, dr_lst, dr_set, List.length_cons, List.length_nil, Bool.not_true, Bool.not_false, Nat.reduceAdd, Nat.reduceLeDiff, if_true, bm, ceq, tb, yes _ _ h5]
  refine pk_skip (σ := []) ?_ ?_
  · simp only [pe_const, pe_name, slotV, pe_glob, pe_bin, pe_not, pe_neg, pe_is, pe_isnot, pe_eq, pe_ne, pe_lt, pe_le, pe_gt, pe_ge, pe_in, pe_notin, pe_bop, pe_ife, pe_list, pe_tup, pe_sub, pe_slice, pe_call, pe_bcall, pe_meth, pe_attr, pes_nil', pes_cons, pr_v, pr_t, bind_ok, bindA_ok, truth_ok, ofB_some, ofRes_ok, ofRes_exc, onL_some, onP_some, plains_nil, plains_cons, pall_and_nil, pall_or_nil, pall_and_cons, pall_or_cons, pbop_one, pbop_and, pbop_or, Option.map_some, List.map_cons, List.map_nil, List.getElem?_cons_zero, List.getElem?_cons_succ, dS_av, dr_none, dr_bool, dr_int, dr_str, dr_type, dr_range, dr_tup, dr_lst, dr_set, List.length_cons, List.length_nil, Bool.not_true, Bool.not_false, Nat.reduceAdd, Nat.reduceLeDiff, if_true, bm, ceq, tb, no _ _ h5]
  dsimp only [Fs.at, Fs.set, List.set_cons_zero, List.set_cons_succ]
  by_cases h6 : x % 9 = 6
  · have b1 := bin_fd hO x 9 (by omega) (by omega)
    have b2 := bin_mod hO (x / 9) 100 (by omega)
    have b3 := bin_fd hO x 900 (by omega) (by omega)
    have b4 := bin_mod hO (x / 900) 100 (by omega)
    have b5 := bin_fd hO x 90000 (by omega) (by omega)
    have b6 := bin_mod hO (x / 90000) 6 (by omega)
    have bu : ∀ a : Int, O.un .USub (.int a) = .ok (.int (-a)) := fun _ => by rw [o_un hO]; rfl
    obtain ⟨c, hc, c1, c2, c3⟩ : ∃ c : Int, O.idx (.lst [.int (-7), .int (-2), .int (-1), .int 1, .int 2, .int 7]) (.int (x / 90000 % 6)) = .ok (.int c) ∧ -8 < c ∧ c < 8 ∧ c ≠ 0 := by
      rw [o_idx hO]
      have h : x / 90000 % 6 = 0 ∨ x / 90000 % 6 = 1 ∨ x / 90000 % 6 = 2 ∨ x / 90000 % 6 = 3 ∨ x / 90000 % 6 = 4 ∨ x / 90000 % 6 = 5 := by omega
      rcases h with h | h | h | h | h | h <;> rw [h]
      · exact ⟨-7, rfl, by omega, by omega, by omega⟩
      · exact ⟨-2, rfl, by omega, by omega, by omega⟩
      · exact ⟨-1, rfl, by omega, by omega, by omega⟩
      · exact ⟨1, rfl, by omega, by omega, by omega⟩
      · exact ⟨2, rfl, by omega, by omega, by omega⟩
      · exact ⟨7, rfl, by omega, by omega, by omega⟩
    have br : O.bcall .range [.int (x / 9 % 100), .int (x / 900 % 100), .int c] = .ok (.range (x / 9 % 100) (x / 900 % 100) c) := by
      rw [o_bcall hO]
      show (if c = 0 then Res.stuck else if Builtin.divisionGoesByPylong (x / 900 % 100 - x / 9 % 100) c = true then .stuck else .ok (.range (x / 9 % 100) (x / 900 % 100) c)) = _
      rw [if_neg c3, if_neg]
      rw [PyProof.noPylong_small (by omega)]
      exact Bool.false_ne_true
    refine pk_if_t (σ := []) ?_ (pk_ret (v := .range (x / 9 % 100) (x / 900 % 100) c) (σ := []) ?_ ⟨_, rfl, .inl ⟨by omega, _, good_range (by omega) (by omega) (by omega) (by omega) c1 c2⟩⟩)
    · simp only [pe_const, pe_name, slotV, pe_glob, pe_bin, pe_not, pe_neg, pe_is, pe_isnot, pe_eq, pe_ne, pe_lt, pe_le, pe_gt, pe_ge, pe_in, pe_notin, pe_bop, pe_ife, pe_list, pe_tup, pe_sub, pe_slice, pe_call, pe_bcall, pe_meth, pe_attr, pes_nil', pes_cons, pr_v, pr_t, bind_ok, bindA_ok, truth_ok, ofB_some, ofRes_ok, ofRes_exc, onL_some, onP_some, plains_nil, plains_cons, pall_and_nil, pall_or_nil, pall_and_cons, pall_or_cons, pbop_one, pbop_and, pbop_or, Option.map_some, List.map_cons, List.map_nil, List.getElem?_cons_zero, List.getElem?_cons_succ, dS_av, dr_none, dr_bool, dr_int, dr_str, dr_type, dr_range, dr_tup, dr_lst, dr_set, List.length_cons, List.length_nil, Bool.not_true, Bool.not_false, Nat.reduceAdd, Nat.reduceLeDiff, if_true, bm, ceq, tb, yes _ _ h6]
    · simp only [pe_const, pe_name, slotV, pe_glob, pe_bin, pe_not, pe_neg, pe_is, pe_isnot, pe_eq, pe_ne, pe_lt, pe_le, pe_gt, pe_ge, pe_in, pe_notin, pe_bop, pe_ife, pe_list, pe_tup, pe_sub, pe_slice, pe_call, pe_bcall, pe_meth, pe_attr, pes_nil', pes_cons, pr_v, pr_t, bind_ok, bindA_ok, truth_ok, ofB_some, ofRes_ok, ofRes_exc, onL_some, onP_some, plains_nil, plains_cons, pall_and_nil, pall_or_nil, pall_and_cons, pall_or_cons, pbop_one, pbop_and, pbop_or, Option.map_some, List.map_cons, List.map_nil, List.getElem?_cons_zero, List.getElem?_cons_succ, dS_av, dr_none, dr_bool, dr_int, dr_str, dr_type, dr_range, dr_tup, dr_lst, dr_set, List.length_cons, List.length_nil, Bool.not_true, Bool.not_false, Nat.reduceAdd, Nat.reduceLeDiff, if_true, b1, b2, b3, b4, b5, b6, bu, hc, br]
  refine pk_skip (σ := []) ?_ ?_
  · simp only [pe_const, pe_name, slotV, pe_glob, pe_bin, pe_not, pe_neg, pe_is, pe_isnot, pe_eq, pe_ne, pe_lt, pe_le, pe_gt, pe_ge, pe_in, pe_notin, pe_bop, pe_ife, pe_list, pe_tup, pe_sub, pe_slice, pe_call, pe_bcall, pe_meth, pe_attr, pes_nil', pes_cons, pr_v, pr_t, bind_ok, bindA_ok, truth_ok, ofB_some, ofRes_ok, ofRes_exc, onL_some, onP_some, plains_nil, plains_cons, pall_and_nil, pall_or_nil, pall_and_cons, pall_or_cons, pbop_one, pbop_and, pbop_or, Option.map_some, List.map_cons, List.map_nil, List.getElem?_cons_zero, List.getElem?_cons_succ, dS_av, dr_none, dr_bool, dr_int, dr_str, dr_type, dr_range, dr_tup, dr_lst, dr_set, List.length_cons, List.length_nil, Bool.not_true, Bool.not_false, Nat.reduceAdd, Nat.reduceLeDiff, if_true, bm, ceq, tb, no _ _ h6]
  dsimp only [Fs.at, Fs.set, List.set_cons_zero, List.set_cons_succ]
  by_cases h7 : x % 9 = 7
  · refine pk_ret (v := .int x) (σ := []) ?_ ⟨_, rfl, .inr ⟨by omega, .inr ⟨x, rfl⟩⟩⟩
    simp only [pe_const, pe_name, slotV, pe_glob, pe_bin, pe_not, pe_neg, pe_is, pe_isnot, pe_eq, pe_ne, pe_lt, pe_le, pe_gt, pe_ge, pe_in, pe_notin, pe_bop, pe_ife, pe_list, pe_tup, pe_sub, pe_slice, pe_call, pe_bcall, pe_meth, pe_attr, pes_nil', pes_cons, pr_v, pr_t, bind_ok, bindA_ok, truth_ok, ofB_some, ofRes_ok, ofRes_exc, onL_some, onP_some, plains_nil, plains_cons, pall_and_nil, pall_or_nil, pall_and_cons, pall_or_cons, pbop_one, pbop_and, pbop_or, Option.map_some, List.map_cons, List.map_nil, List.getElem?_cons_zero, List.getElem?_cons_succ, dS_av, dr_none, dr_bool, dr_int, dr_str, dr_type, dr_range, dr_tup, dr_lst, dr_set, List.length_cons, List.length_nil, Bool.not_true, Bool.not_false, Nat.reduceAdd, Nat.reduceLeDiff, if_true, bm, ceq, tb, yes _ _ h7]
  · refine pk_ret (v := .none) (σ := []) ?_ ⟨_, rfl, .inr ⟨by omega, .inl rfl⟩⟩
    simp only [pe_const, pe_name, slotV, pe_glob, pe_bin, pe_not, pe_neg, pe_is, pe_isnot, pe_eq, pe_ne, pe_lt, pe_le, pe_gt, pe_ge, pe_in, pe_notin, pe_bop, pe_ife, pe_list, pe_tup, pe_sub, pe_slice, pe_call, pe_bcall, pe_meth, pe_attr, pes_nil', pes_cons, pr_v, pr_t, bind_ok, bindA_ok, truth_ok, ofB_some, ofRes_ok, ofRes_exc, onL_some, onP_some, plains_nil, plains_cons, pall_and_nil, pall_or_nil, pall_and_cons, pall_or_cons, pbop_one, pbop_and, pbop_or, Option.map_some, List.map_cons, List.map_nil, List.getElem?_cons_zero, List.getElem?_cons_succ, dS_av, dr_none, dr_bool, dr_int, dr_str, dr_type, dr_range, dr_tup, dr_lst, dr_set, List.length_cons, List.length_nil, Bool.not_true, Bool.not_false, Nat.reduceAdd, Nat.reduceLeDiff, if_true, bm, ceq, tb, no _ _ h7]
end
end Mine
end
section
open PySem PySem.W PyProof.Rows
namespace Mine
theorem pick_range {α : Type} (xs : List α) (a : Nat) : ∀ m : Nat, ((List.range m).map (a + ·)).filterMap (xs[·]?) = (xs.drop a).take m := by
  intro m
  induction m with
  | zero => simp
  | succ m ih =>
    rw [List.range_succ, List.map_append, List.filterMap_append, ih, List.take_succ]
    rw [List.getElem?_drop]
    congr 1
theorem pickL_plain (xs : List AV) (lo hi : Option Int) : pickL xs lo hi none = (xs.drop (lo.elim 0 (clipAt xs.length))).take (hi.elim xs.length (clipAt xs.length) - lo.elim 0 (clipAt xs.length)) := by
  unfold pickL
  rw [sliceBounds_plain]
  simp only
  rw [sliceRange_one, pick_range]
theorem clip_nat (n k : Nat) : clipAt n (k : Int) = min k n := clipAt_nat n k
theorem pick_take (xs : List AV) (k : Nat) : pickL xs none (some (k : Int)) none = xs.take k := by
  rw [pickL_plain]
  simp only [Option.elim_none, Option.elim_some, List.drop_zero, Nat.sub_zero, clip_nat]
  by_cases h : k ≤ xs.length
  · rw [Nat.min_eq_left h]
  · rw [Nat.min_eq_right (by omega), List.take_length, List.take_of_length_le (by omega)]
theorem sl_take (xs : List AV) (k : Nat) : sliceL xs .none (.int k) .none = .ok (.lst (xs.take k)) := by
  show (if (none : Option Int) = some 0 then Res.stuck else .ok (.lst (pickL xs none (some (k : Int)) none))) = _
  rw [if_neg (by simp), pick_take]
end Mine
end
section
open PySem PySem.W PyProof.Rows
namespace Mine
set_option maxRecDepth 100000
set_option linter.unusedSimpArgs false
set_option linter.unusedVariables false
/-- what the defs answer -/
structure Cals (ld : Bool) (cal : Cal) : Prop where
  thing : ∀ (x : Int) (ns : List Int), ns.length ≤ 65 → ∃ t, cal [] 0 1 [.int x, .lst (ns.map .int)] = .ok (.av t) [] ∧ ((x % 9 < 7 ∧ ∃ n, Good ld t n) ∨ (¬ x % 9 < 7 ∧ Bare t))
  good1 : ∀ {t : AV} {n : Nat}, Good ld t n → cal [] 0 0 [t] = .ok (.av (.int (n : Int))) []
  bare1 : ∀ {t : AV}, Bare t → cal [] 0 0 [t] = .ok (.av (.int 0)) []
  good2 : ∀ {t d : AV} {n : Nat}, Good ld t n → Whole d → cal [] 0 0 [t, d] = .ok (.av (.int (n : Int))) []
  bare2 : ∀ {t d : AV}, Bare t → Whole d → cal [] 0 0 [t, d] = .ok (.av d) []
  odd2 : ∀ {t d : AV}, Odd d → cal [] 0 0 [t, d] = .exc .te []
  whole : ∀ {d : AV}, Whole d → cal [] 0 2 [d, d] = .ok (.av (.bool true)) []
theorem cals_ok (ld : Bool) : Cals ld (cal3 ld) where
  thing := fun x ns hz => by
    rw [cal3_hit _ _ _ rfl]
    exact thing_run rfl hz
  good1 := fun g => by
    rw [cal3_0, cal2_hit1 _ _ _ rfl]
    exact hint_good rfl g (.inl ⟨0, rfl⟩)
  bare1 := fun g => by
    rw [cal3_0, cal2_hit1 _ _ _ rfl]
    exact hint_bare rfl g (.inl ⟨0, rfl⟩)
  good2 := fun g h => by
    rw [cal3_0, cal2_hit _ _ _ rfl]
    exact hint_good rfl g h
  bare2 := fun g h => by
    rw [cal3_0, cal2_hit _ _ _ rfl]
    exact hint_bare rfl g h
  odd2 := fun h => by
    rw [cal3_0, cal2_hit _ _ _ rfl]
    exact hint_odd rfl h
  whole := fun h => by
    rw [cal3_2, cal2_2, cal1_hit _ _ _ rfl]
    exact whole_same rfl h
noncomputable def lK (fr : FR) : Prop := ∃ σ, fnRes fr = .ok (.av (.bool true)) σ
/-- the law's state -/
abbrev wS (ns : List Int) (e0 e2 e3 e4 e5 e6 e7 e8 e9 : Option Ent) : Fs := ⟨[e0, some (.val (.lst (ns.map .int))), e2, e3, e4, e5, e6, e7, e8, e9], [], 0, 0⟩
noncomputable def wI (ns : List Int) (st : Fs) : Prop := ∃ e0 e2 e3 e4 e5 e6 e7 e8 e9, st = wS ns e0 e2 e3 e4 e5 e6 e7 e8 e9
section
variable {O : OpsF} {ld : Bool} (hO : O = ops ld) {cal : Cal} (hC : Cals ld cal) {ns : List Int} {e0 e2 e3 e4 e5 e6 e7 e8 e9 : Option Ent}
/-- a comprehension that takes each thing as it is -/
theorem c_all {t : AV} {n : Nat} (hO : O = ops ld) {x y : Int} {f : Bool} {gv : AV} {k : Nat} (g : Good ld t n) :
    ∃ l, (pe O cal true (wS ns e0 e2 e3 e4 (some (.val t)) e6 e7 e8 e9) (.comp [] (.name 10) (.name 5) (.nil))).v = .ok (.av (.lst l)) [] ∧ l.length = n := by
  obtain ⟨l, h1, h2⟩ := g.items
  refine ⟨l, ?_, h2⟩
  rw [pe_comp (a := .av t) (σ₁ := []) (l := l) (ys := l)]
  · rfl
  · simp only [pe_const, pe_name, slotV, pe_glob, pe_bin, pe_not, pe_neg, pe_is, pe_isnot, pe_eq, pe_ne, pe_lt, pe_le, pe_gt, pe_ge, pe_in, pe_notin, pe_bop, pe_ife, pe_list, pe_tup, pe_sub, pe_slice, pe_call, pe_bcall, pe_meth, pe_attr, pes_nil', pes_cons, pr_v, pr_t, bind_ok, bindA_ok, truth_ok, ofB_some, ofRes_ok, ofRes_exc, onL_some, onP_some, plains_nil, plains_cons, pall_and_nil, pall_or_nil, pall_and_cons, pall_or_cons, pbop_one, pbop_and, pbop_or, Option.map_some, List.map_cons, List.map_nil, List.getElem?_cons_zero, List.getElem?_cons_succ, dS_av, dr_none, dr_bool, dr_int, dr_str, dr_type, dr_range, dr_tup, dr_lst, dr_set, List.length_cons, List.length_nil, Bool.not_true, Bool.not_false, Nat.reduceAdd, Nat.reduceLeDiff, if_true]
  · rw [o_items hO]
    show itemsW ld (deref [] t) = _
    rw [g.dr]; exact h1
  · have := mapF_map (f := fun x => compF ([] : Store).length (pall O cal true (((wS ns e0 e2 e3 e4 (some (.val t)) e6 e7 e8 e9).at []).inner [] x) .And .nil) (pe O cal true (((wS ns e0 e2 e3 e4 (some (.val t)) e6 e7 e8 e9).at []).inner [] x) (.name 10)).v) (g := fun x : AV => x) (h := fun x : AV => x) (l := l) fun x hx => by
      have e : Fs.inner (Fs.at (wS ns e0 e2 e3 e4 (some (.val t)) e6 e7 e8 e9) []) [] x = ⟨[none, none, none, none, none, none, none, none, none, none, some (.val x)], [], 0, 0⟩ := rfl
      rw [e, pall_and_nil]
      refine compF_t (σ' := []) ?_ rfl
      simp only [pe_const, pe_name, slotV, pe_glob, pe_bin, pe_not, pe_neg, pe_is, pe_isnot, pe_eq, pe_ne, pe_lt, pe_le, pe_gt, pe_ge, pe_in, pe_notin, pe_bop, pe_ife, pe_list, pe_tup, pe_sub, pe_slice, pe_call, pe_bcall, pe_meth, pe_attr, pes_nil', pes_cons, pr_v, pr_t, bind_ok, bindA_ok, truth_ok, ofB_some, ofRes_ok, ofRes_exc, onL_some, onP_some, plains_nil, plains_cons, pall_and_nil, pall_or_nil, pall_and_cons, pall_or_cons, pbop_one, pbop_and, pbop_or, Option.map_some, List.map_cons, List.map_nil, List.getElem?_cons_zero, List.getElem?_cons_succ, dS_av, dr_none, dr_bool, dr_int, dr_str, dr_type, dr_range, dr_tup, dr_lst, dr_set, List.length_cons, List.length_nil, Bool.not_true, Bool.not_false, Nat.reduceAdd, Nat.reduceLeDiff, if_true]
    simpa only [List.map_id'] using this
include hO hC
theorem turn {K : FR → Prop} {k : Nat} (hl : ns.length ≤ 65) (hk : k < ns.length) : loopK (wI ns) K (pxs O cal true (wS ns e0 (some (.val (.int (k : Int)))) e3 e4 e5 e6 e7 e8 e9) law_b1) := by
  have tb : ∀ b, O.truth (.bool b) = some b := fun _ => by rw [o_truth hO]; rfl
  have bs : ∀ a b : Int, O.bin .Sub (.int a) (.int b) = .ok (.int (a - b)) := fun _ _ => by rw [o_bin hO]; rfl
  have ceq : ∀ a b : Int, O.cmp .Eq (.int a) (.int b) = some (a == b) := fun _ _ => by rw [o_cmp hO]; rfl
  have clt : ∀ a b : Int, O.cmp .Lt (.int a) (.int b) = some (decide (a < b)) := fun _ _ => by rw [o_cmp hO]; rfl
  have cgt : ∀ a b : Int, O.cmp .Gt (.int a) (.int b) = some (decide (a > b)) := fun _ _ => by rw [o_cmp hO]; rfl
  have lt : ∀ a b : Int, a < b → decide (a < b) = true := fun a b h => decide_eq_true h
  have ge : ∀ a b : Int, ¬ a < b → decide (a < b) = false := fun a b h => decide_eq_false h
  have hx : O.idx (.lst (ns.map .int)) (.int (k : Int)) = .ok (.int (nth ns k)) := by rw [o_idx hO]; exact idx_int hk
  obtain ⟨y, hy⟩ : ∃ y, O.idx (.lst (ns.map .int)) (.int ((k : Int) - 1)) = .ok (.int y) := by
    rw [o_idx hO]
    rcases Nat.eq_zero_or_pos k with rfl | h
    · refine ⟨nth ns (ns.length - 1), ?_⟩
      show idxL _ _ = _
      unfold idxL
      rw [if_neg (by omega), if_pos (by rw [List.length_map]; omega)]
      have e : (((0 : Nat) : Int) - 1 + (ns.map AV.int).length).toNat = ns.length - 1 := by rw [List.length_map]; omega
      rw [e, List.getElem?_map, nth_get (by omega)]
      rfl
    · refine ⟨nth ns (k - 1), ?_⟩
      have := idx_int (l := ns) (k := k - 1) (by omega)
      rw [show ((k - 1 : Nat) : Int) = (k : Int) - 1 from by omega] at this
      exact this
  have hsl : O.slice (.lst (ns.map .int)) .none (.int (k : Int)) .none = .ok (.lst ((ns.take k).map .int)) := by
    rw [o_slice hO, List.map_take]
    exact sl_take _ k
  unfold law_b1
  generalize nth ns k = x at hx
  refine pk_unpack2 (x := .int x) (y := .int y) (σ₁ := []) (σ := []) ?_ ?_ ?_
  · simp only [pe_const, pe_name, slotV, pe_glob, pe_bin, pe_not, pe_neg, pe_is, pe_isnot, pe_eq, pe_ne, pe_lt, pe_le, pe_gt, pe_ge, pe_in, pe_notin, pe_bop, pe_ife, pe_list, pe_tup, pe_sub, pe_slice, pe_call, pe_bcall, pe_meth, pe_attr, pes_nil', pes_cons, pr_v, pr_t, bind_ok, bindA_ok, truth_ok, ofB_some, ofRes_ok, ofRes_exc, onL_some, onP_some, plains_nil, plains_cons, pall_and_nil, pall_or_nil, pall_and_cons, pall_or_cons, pbop_one, pbop_and, pbop_or, Option.map_some, List.map_cons, List.map_nil, List.getElem?_cons_zero, List.getElem?_cons_succ, dS_av, dr_none, dr_bool, dr_int, dr_str, dr_type, dr_range, dr_tup, dr_lst, dr_set, List.length_cons, List.length_nil, Bool.not_true, Bool.not_false, Nat.reduceAdd, Nat.reduceLeDiff, if_true, hx]
  · simp only [pe_const, pe_name, slotV, pe_glob, pe_bin, pe_not, pe_neg, pe_is, pe_isnot, pe_eq, pe_ne, pe_lt, pe_le, pe_gt, pe_ge, pe_in, pe_notin, pe_bop, pe_ife, pe_list, pe_tup, pe_sub, pe_slice, pe_call, pe_bcall, pe_meth, pe_attr, pes_nil', pes_cons, pr_v, pr_t, bind_ok, bindA_ok, truth_ok, ofB_some, ofRes_ok, ofRes_exc, onL_some, onP_some, plains_nil, plains_cons, pall_and_nil, pall_or_nil, pall_and_cons, pall_or_cons, pbop_one, pbop_and, pbop_or, Option.map_some, List.map_cons, List.map_nil, List.getElem?_cons_zero, List.getElem?_cons_succ, dS_av, dr_none, dr_bool, dr_int, dr_str, dr_type, dr_range, dr_tup, dr_lst, dr_set, List.length_cons, List.length_nil, Bool.not_true, Bool.not_false, Nat.reduceAdd, Nat.reduceLeDiff, if_true, bs, hy]
  dsimp only [Fs.at, Fs.set, List.set_cons_zero, List.set_cons_succ]
  obtain ⟨t, ht, hg⟩ := hC.thing x (ns.take k) (by rw [List.length_take]; omega)
  refine pk_assign (v := t) (σ := []) ?_ ?_
  · simp only [pe_const, pe_name, slotV, pe_glob, pe_bin, pe_not, pe_neg, pe_is, pe_isnot, pe_eq, pe_ne, pe_lt, pe_le, pe_gt, pe_ge, pe_in, pe_notin, pe_bop, pe_ife, pe_list, pe_tup, pe_sub, pe_slice, pe_call, pe_bcall, pe_meth, pe_attr, pes_nil', pes_cons, pr_v, pr_t, bind_ok, bindA_ok, truth_ok, ofB_some, ofRes_ok, ofRes_exc, onL_some, onP_some, plains_nil, plains_cons, pall_and_nil, pall_or_nil, pall_and_cons, pall_or_cons, pbop_one, pbop_and, pbop_or, Option.map_some, List.map_cons, List.map_nil, List.getElem?_cons_zero, List.getElem?_cons_succ, dS_av, dr_none, dr_bool, dr_int, dr_str, dr_type, dr_range, dr_tup, dr_lst, dr_set, List.length_cons, List.length_nil, Bool.not_true, Bool.not_false, Nat.reduceAdd, Nat.reduceLeDiff, if_true, hsl, ht]
  dsimp only [Fs.at, Fs.set, List.set_cons_zero, List.set_cons_succ]
  have m9 := bin_mod hO x 9 (by omega)
  have m5 := bin_mod hO y 5 (by omega)
  have f5 := bin_fd hO y 5 (by omega) (by omega)
  have m2 := bin_mod hO (y / 5) 2 (by omega)
  generalize hf : (y / 5 % 2 == 1) = f
  refine pk_assign (v := .bool f) (σ := []) ?_ ?_
  · simp only [pe_const, pe_name, slotV, pe_glob, pe_bin, pe_not, pe_neg, pe_is, pe_isnot, pe_eq, pe_ne, pe_lt, pe_le, pe_gt, pe_ge, pe_in, pe_notin, pe_bop, pe_ife, pe_list, pe_tup, pe_sub, pe_slice, pe_call, pe_bcall, pe_meth, pe_attr, pes_nil', pes_cons, pr_v, pr_t, bind_ok, bindA_ok, truth_ok, ofB_some, ofRes_ok, ofRes_exc, onL_some, onP_some, plains_nil, plains_cons, pall_and_nil, pall_or_nil, pall_and_cons, pall_or_cons, pbop_one, pbop_and, pbop_or, Option.map_some, List.map_cons, List.map_nil, List.getElem?_cons_zero, List.getElem?_cons_succ, dS_av, dr_none, dr_bool, dr_int, dr_str, dr_type, dr_range, dr_tup, dr_lst, dr_set, List.length_cons, List.length_nil, Bool.not_true, Bool.not_false, Nat.reduceAdd, Nat.reduceLeDiff, if_true, f5, m2, ceq, hf]
  dsimp only [Fs.at, Fs.set, List.set_cons_zero, List.set_cons_succ]
  -- what is given beside
  obtain ⟨gl, gv, hgl, hgi, hgv⟩ : ∃ (gl : List AV) (gv : AV), (pe O cal true (wS ns e0 (some (.val (.int (k : Int)))) (some (.val (.int x))) (some (.val (.int y))) (some (.val t)) (some (.val (.bool f))) e7 e8 e9) (.list (.cons (.bin .FloorDiv (.name 4) (.const (.int 5))) (.cons (.name 6) (.cons (.ife (.name 6) (.const (.str (PySem.Str.ofString "3"))) (.const (.str (PySem.Str.ofString "")))) (.cons (.const .none) (.cons (.ife (.name 6) (.list (.cons (.const (.int 3)) .nil)) (.list (.nil))) .nil))))))).v = .ok (.av (.lst gl)) [] ∧
      O.idx (.lst gl) (.int (y % 5)) = .ok gv ∧ ((y % 5 < 2 ∧ Whole gv) ∨ (¬ y % 5 < 2 ∧ Odd gv)) := by
    have fin : ∀ (s : Str) (l : List AV), ∃ gv, O.idx (.lst [.int (y / 5), .bool f, .str s, .none, .lst l]) (.int (y % 5)) = .ok gv ∧ ((y % 5 < 2 ∧ Whole gv) ∨ (¬ y % 5 < 2 ∧ Odd gv)) := fun s l => by
      rw [o_idx hO]
      have h : y % 5 = 0 ∨ y % 5 = 1 ∨ y % 5 = 2 ∨ y % 5 = 3 ∨ y % 5 = 4 := by omega
      rcases h with h | h | h | h | h <;> rw [h]
      · exact ⟨_, rfl, .inl ⟨by omega, .inl ⟨_, rfl⟩⟩⟩
      · exact ⟨_, rfl, .inl ⟨by omega, .inr ⟨_, rfl⟩⟩⟩
      · exact ⟨_, rfl, .inr ⟨by omega, .inl ⟨_, rfl⟩⟩⟩
      · exact ⟨_, rfl, .inr ⟨by omega, .inr (.inl rfl)⟩⟩
      · exact ⟨_, rfl, .inr ⟨by omega, .inr (.inr ⟨_, rfl⟩)⟩⟩
    cases f with
    | true =>
      obtain ⟨gv, h1, h2⟩ := fin (PySem.Str.ofString "3") [.int 3]
      refine ⟨_, gv, ?_, h1, h2⟩
      simp only [pe_const, pe_name, slotV, pe_glob, pe_bin, pe_not, pe_neg, pe_is, pe_isnot, pe_eq, pe_ne, pe_lt, pe_le, pe_gt, pe_ge, pe_in, pe_notin, pe_bop, pe_ife, pe_list, pe_tup, pe_sub, pe_slice, pe_call, pe_bcall, pe_meth, pe_attr, pes_nil', pes_cons, pr_v, pr_t, bind_ok, bindA_ok, truth_ok, ofB_some, ofRes_ok, ofRes_exc, onL_some, onP_some, plains_nil, plains_cons, pall_and_nil, pall_or_nil, pall_and_cons, pall_or_cons, pbop_one, pbop_and, pbop_or, Option.map_some, List.map_cons, List.map_nil, List.getElem?_cons_zero, List.getElem?_cons_succ, dS_av, dr_none, dr_bool, dr_int, dr_str, dr_type, dr_range, dr_tup, dr_lst, dr_set, List.length_cons, List.length_nil, Bool.not_true, Bool.not_false, Nat.reduceAdd, Nat.reduceLeDiff, if_true, f5, tb]
    | false =>
      obtain ⟨gv, h1, h2⟩ := fin (PySem.Str.ofString "") []
      refine ⟨_, gv, ?_, h1, h2⟩
      simp only [pe_const, pe_name, slotV, pe_glob, pe_bin, pe_not, pe_neg, pe_is, pe_isnot, pe_eq, pe_ne, pe_lt, pe_le, pe_gt, pe_ge, pe_in, pe_notin, pe_bop, pe_ife, pe_list, pe_tup, pe_sub, pe_slice, pe_call, pe_bcall, pe_meth, pe_attr, pes_nil', pes_cons, pr_v, pr_t, bind_ok, bindA_ok, truth_ok, ofB_some, ofRes_ok, ofRes_exc, onL_some, onP_some, plains_nil, plains_cons, pall_and_nil, pall_or_nil, pall_and_cons, pall_or_cons, pbop_one, pbop_and, pbop_or, Option.map_some, List.map_cons, List.map_nil, List.getElem?_cons_zero, List.getElem?_cons_succ, dS_av, dr_none, dr_bool, dr_int, dr_str, dr_type, dr_range, dr_tup, dr_lst, dr_set, List.length_cons, List.length_nil, Bool.not_true, Bool.not_false, Nat.reduceAdd, Nat.reduceLeDiff, if_true, f5, tb]
  refine pk_assign (v := gv) (σ := []) ?_ ?_
  · rw [pe_sub, pr_v, hgl]
    simp only [pe_const, pe_name, slotV, pe_glob, pe_bin, pe_not, pe_neg, pe_is, pe_isnot, pe_eq, pe_ne, pe_lt, pe_le, pe_gt, pe_ge, pe_in, pe_notin, pe_bop, pe_ife, pe_list, pe_tup, pe_sub, pe_slice, pe_call, pe_bcall, pe_meth, pe_attr, pes_nil', pes_cons, pr_v, pr_t, bind_ok, bindA_ok, truth_ok, ofB_some, ofRes_ok, ofRes_exc, onL_some, onP_some, plains_nil, plains_cons, pall_and_nil, pall_or_nil, pall_and_cons, pall_or_cons, pbop_one, pbop_and, pbop_or, Option.map_some, List.map_cons, List.map_nil, List.getElem?_cons_zero, List.getElem?_cons_succ, dS_av, dr_none, dr_bool, dr_int, dr_str, dr_type, dr_range, dr_tup, dr_lst, dr_set, List.length_cons, List.length_nil, Bool.not_true, Bool.not_false, Nat.reduceAdd, Nat.reduceLeDiff, if_true, m5, hgi]
  dsimp only [Fs.at, Fs.set, List.set_cons_zero, List.set_cons_succ]
  have dt : deref [] t = t := by
    rcases hg with ⟨_, _, g⟩ | ⟨_, g⟩
    · exact g.dr
    · exact g.dr
  have dg : deref [] gv = gv := by
    rcases hgv with ⟨_, g⟩ | ⟨_, g⟩
    · exact g.dr
    · exact g.dr
  -- how many, and what is told
  obtain ⟨ct, w, v2, hct, hw, h1, hh1, hw1, hw2⟩ : ∃ (ct : List AV) (w : AV) (v2 : AV), (pe O cal true (wS ns e0 (some (.val (.int (k : Int)))) (some (.val (.int x))) (some (.val (.int y))) (some (.val t)) (some (.val (.bool f))) (some (.val gv)) e8 e9) (.ife (.cmp .Lt (.bin .Mod (.name 3) (.const (.int 9))) (.const (.int 7))) (.list (.cons (.bcall .len (.cons (.comp [] (.name 10) (.name 5) (.nil)) .nil)) .nil)) (.list (.nil)))).v = .ok (.av (.lst ct)) [] ∧
      Whole w ∧ cal [] 0 0 [t] = .ok (.av w) [] ∧ (Whole gv → cal [] 0 0 [t, gv] = .ok (.av v2) [] ∧ Whole v2) ∧
      (∀ a, O.bin .Add (.lst ct) (.lst [a]) = .ok (.lst (ct ++ [a]))) ∧ O.idx (.lst (ct ++ [.int 0])) (.int 0) = .ok w ∧ O.idx (.lst (ct ++ [gv])) (.int 0) = .ok v2 := by
    have add : ∀ (ct : List AV) (a : AV), ct.length ≤ 1 → O.bin .Add (.lst ct) (.lst [a]) = .ok (.lst (ct ++ [a])) := fun ct a h => by
      rw [o_bin hO]
      show (if ct.length + [a].length ≤ 1048576 then Res.ok (.lst (ct ++ [a])) else .stuck) = _
      rw [if_pos (by simp; omega)]
    rcases hg with ⟨h7, n, g⟩ | ⟨h7, g⟩
    · obtain ⟨l, hl1, hl2⟩ := c_all (cal := cal) (ns := ns) (e0 := e0) (e2 := some (.val (.int (k : Int)))) (e3 := some (.val (.int x))) (e4 := some (.val (.int y))) (e6 := some (.val (.bool f))) (e7 := some (.val gv)) (e8 := e8) (e9 := e9) (x := 0) (y := 0) (f := true) (gv := .none) (k := 0) hO g
      have bl : O.bcall .len [.lst l] = .ok (.int (n : Int)) := by
        rw [o_bcall hO, ← hl2]; rfl
      refine ⟨[.int (n : Int)], .int (n : Int), .int (n : Int), ?_, .inl ⟨_, rfl⟩, hC.good1 g, fun h => ⟨hC.good2 g h, .inl ⟨_, rfl⟩⟩, fun a => add _ _ (by simp), by rw [o_idx hO]; rfl, by rw [o_idx hO]; rfl⟩
      simp only [pe_const, pe_name, slotV, pe_glob, pe_bin, pe_not, pe_neg, pe_is, pe_isnot, pe_eq, pe_ne, pe_lt, pe_le, pe_gt, pe_ge, pe_in, pe_notin, pe_bop, pe_ife, pe_list, pe_tup, pe_sub, pe_slice, pe_call, pe_bcall, pe_meth, pe_attr, pes_nil', pes_cons, pr_v, pr_t, bind_ok, bindA_ok, truth_ok, ofB_some, ofRes_ok, ofRes_exc, onL_some, onP_some, plains_nil, plains_cons, pall_and_nil, pall_or_nil, pall_and_cons, pall_or_cons, pbop_one, pbop_and, pbop_or, Option.map_some, List.map_cons, List.map_nil, List.getElem?_cons_zero, List.getElem?_cons_succ, dS_av, dr_none, dr_bool, dr_int, dr_str, dr_type, dr_range, dr_tup, dr_lst, dr_set, List.length_cons, List.length_nil, Bool.not_true, Bool.not_false, Nat.reduceAdd, Nat.reduceLeDiff, if_true, m9, clt, lt _ _ h7, tb, hl1, bl]
    · refine ⟨[], .int 0, gv, ?_, .inl ⟨_, rfl⟩, hC.bare1 g, fun h => ⟨hC.bare2 g h, h⟩, fun a => add _ _ (by simp), by rw [o_idx hO]; rfl, by rw [o_idx hO]; rfl⟩
      simp only [pe_const, pe_name, slotV, pe_glob, pe_bin, pe_not, pe_neg, pe_is, pe_isnot, pe_eq, pe_ne, pe_lt, pe_le, pe_gt, pe_ge, pe_in, pe_notin, pe_bop, pe_ife, pe_list, pe_tup, pe_sub, pe_slice, pe_call, pe_bcall, pe_meth, pe_attr, pes_nil', pes_cons, pr_v, pr_t, bind_ok, bindA_ok, truth_ok, ofB_some, ofRes_ok, ofRes_exc, onL_some, onP_some, plains_nil, plains_cons, pall_and_nil, pall_or_nil, pall_and_cons, pall_or_cons, pbop_one, pbop_and, pbop_or, Option.map_some, List.map_cons, List.map_nil, List.getElem?_cons_zero, List.getElem?_cons_succ, dS_av, dr_none, dr_bool, dr_int, dr_str, dr_type, dr_range, dr_tup, dr_lst, dr_set, List.length_cons, List.length_nil, Bool.not_true, Bool.not_false, Nat.reduceAdd, Nat.reduceLeDiff, if_true, m9, clt, ge _ _ h7, tb]
  refine pk_assign (v := .lst ct) (σ := []) hct ?_
  dsimp only [Fs.at, Fs.set, List.set_cons_zero, List.set_cons_succ]
  have hww := hC.whole hw
  refine pk_skip (σ := []) ?_ ?_
  · simp only [pe_const, pe_name, slotV, pe_glob, pe_bin, pe_not, pe_neg, pe_is, pe_isnot, pe_eq, pe_ne, pe_lt, pe_le, pe_gt, pe_ge, pe_in, pe_notin, pe_bop, pe_ife, pe_list, pe_tup, pe_sub, pe_slice, pe_call, pe_bcall, pe_meth, pe_attr, pes_nil', pes_cons, pr_v, pr_t, bind_ok, bindA_ok, truth_ok, ofB_some, ofRes_ok, ofRes_exc, onL_some, onP_some, plains_nil, plains_cons, pall_and_nil, pall_or_nil, pall_and_cons, pall_or_cons, pbop_one, pbop_and, pbop_or, Option.map_some, List.map_cons, List.map_nil, List.getElem?_cons_zero, List.getElem?_cons_succ, dS_av, dr_none, dr_bool, dr_int, dr_str, dr_type, dr_range, dr_tup, dr_lst, dr_set, List.length_cons, List.length_nil, Bool.not_true, Bool.not_false, Nat.reduceAdd, Nat.reduceLeDiff, if_true, h1, hw1, hw2.1, hww, tb]
  dsimp only [Fs.at, Fs.set, List.set_cons_zero, List.set_cons_succ]
  rcases hgv with ⟨h2, hgv⟩ | ⟨h2, hgv⟩
  · obtain ⟨hh2, hv2⟩ := hh1 hgv
    have d2 := hv2.dr
    have hwv := hC.whole hv2
    refine pk_try ?_
    have e1 : pxs O cal true (wS ns e0 (some (.val (.int (k : Int)))) (some (.val (.int x))) (some (.val (.int y))) (some (.val t)) (some (.val (.bool f))) (some (.val gv)) (some (.val (.lst ct))) e9) (.cons (.assign 9 (.call 0 (.cons (.name 5) (.cons (.name 7) .nil)))) .nil) = .next (wS ns e0 (some (.val (.int (k : Int)))) (some (.val (.int x))) (some (.val (.int y))) (some (.val t)) (some (.val (.bool f))) (some (.val gv)) (some (.val (.lst ct))) (some (.val v2))) := by
      rw [qxs_cons, qx_assign]
      simp only [pe_const, pe_name, slotV, pe_glob, pe_bin, pe_not, pe_neg, pe_is, pe_isnot, pe_eq, pe_ne, pe_lt, pe_le, pe_gt, pe_ge, pe_in, pe_notin, pe_bop, pe_ife, pe_list, pe_tup, pe_sub, pe_slice, pe_call, pe_bcall, pe_meth, pe_attr, pes_nil', pes_cons, pr_v, pr_t, bind_ok, bindA_ok, truth_ok, ofB_some, ofRes_ok, ofRes_exc, onL_some, onP_some, plains_nil, plains_cons, pall_and_nil, pall_or_nil, pall_and_cons, pall_or_cons, pbop_one, pbop_and, pbop_or, Option.map_some, List.map_cons, List.map_nil, List.getElem?_cons_zero, List.getElem?_cons_succ, dS_av, dr_none, dr_bool, dr_int, dr_str, dr_type, dr_range, dr_tup, dr_lst, dr_set, List.length_cons, List.length_nil, Bool.not_true, Bool.not_false, Nat.reduceAdd, Nat.reduceLeDiff, if_true, hh2, resS]
      rfl
    rw [e1]
    dsimp only
    rw [thenK_next]
    have g1 : decide (y % 5 > 1) = false := decide_eq_false (by omega)
    refine pk_skip (σ := []) ?_ (pk_nil ?_)
    · simp only [pe_const, pe_name, slotV, pe_glob, pe_bin, pe_not, pe_neg, pe_is, pe_isnot, pe_eq, pe_ne, pe_lt, pe_le, pe_gt, pe_ge, pe_in, pe_notin, pe_bop, pe_ife, pe_list, pe_tup, pe_sub, pe_slice, pe_call, pe_bcall, pe_meth, pe_attr, pes_nil', pes_cons, pr_v, pr_t, bind_ok, bindA_ok, truth_ok, ofB_some, ofRes_ok, ofRes_exc, onL_some, onP_some, plains_nil, plains_cons, pall_and_nil, pall_or_nil, pall_and_cons, pall_or_cons, pbop_one, pbop_and, pbop_or, Option.map_some, List.map_cons, List.map_nil, List.getElem?_cons_zero, List.getElem?_cons_succ, dS_av, dr_none, dr_bool, dr_int, dr_str, dr_type, dr_range, dr_tup, dr_lst, dr_set, List.length_cons, List.length_nil, Bool.not_true, Bool.not_false, Nat.reduceAdd, Nat.reduceLeDiff, if_true, m5, cgt, g1, tb, hw1, hw2.2, hwv]
    · exact ⟨_, _, _, _, _, _, _, _, _, rfl⟩
  · refine pk_try ?_
    have e1 : pxs O cal true (wS ns e0 (some (.val (.int (k : Int)))) (some (.val (.int x))) (some (.val (.int y))) (some (.val t)) (some (.val (.bool f))) (some (.val gv)) (some (.val (.lst ct))) e9) (.cons (.assign 9 (.call 0 (.cons (.name 5) (.cons (.name 7) .nil)))) .nil) = .exc .te (wS ns e0 (some (.val (.int (k : Int)))) (some (.val (.int x))) (some (.val (.int y))) (some (.val t)) (some (.val (.bool f))) (some (.val gv)) (some (.val (.lst ct))) e9) := by
      rw [qxs_cons, qx_assign]
      simp only [pe_const, pe_name, slotV, pe_glob, pe_bin, pe_not, pe_neg, pe_is, pe_isnot, pe_eq, pe_ne, pe_lt, pe_le, pe_gt, pe_ge, pe_in, pe_notin, pe_bop, pe_ife, pe_list, pe_tup, pe_sub, pe_slice, pe_call, pe_bcall, pe_meth, pe_attr, pes_nil', pes_cons, pr_v, pr_t, bind_ok, bindA_ok, truth_ok, ofB_some, ofRes_ok, ofRes_exc, onL_some, onP_some, plains_nil, plains_cons, pall_and_nil, pall_or_nil, pall_and_cons, pall_or_cons, pbop_one, pbop_and, pbop_or, Option.map_some, List.map_cons, List.map_nil, List.getElem?_cons_zero, List.getElem?_cons_succ, dS_av, dr_none, dr_bool, dr_int, dr_str, dr_type, dr_range, dr_tup, dr_lst, dr_set, List.length_cons, List.length_nil, Bool.not_true, Bool.not_false, Nat.reduceAdd, Nat.reduceLeDiff, if_true, hC.odd2 hgv, resS]
    rw [e1]
    dsimp only
    rw [qh_cons, if_pos rfl]
    have e2 : pxs O cal false (wS ns e0 (some (.val (.int (k : Int)))) (some (.val (.int x))) (some (.val (.int y))) (some (.val t)) (some (.val (.bool f))) (some (.val gv)) (some (.val (.lst ct))) e9) (.cons (.ite (.cmp .Lt (.bin .Mod (.name 4) (.const (.int 5))) (.const (.int 2))) (.cons (.ret (.const (.bool false))) .nil) .nil) (.cons .cont .nil)) = .cont (wS ns e0 (some (.val (.int (k : Int)))) (some (.val (.int x))) (some (.val (.int y))) (some (.val t)) (some (.val (.bool f))) (some (.val gv)) (some (.val (.lst ct))) e9) := by
      refine pk_skip (K := fun fr => fr = .cont (wS ns e0 (some (.val (.int (k : Int)))) (some (.val (.int x))) (some (.val (.int y))) (some (.val t)) (some (.val (.bool f))) (some (.val gv)) (some (.val (.lst ct))) e9)) (σ := []) ?_ (pk_cont (K := fun fr => fr = .cont (wS ns e0 (some (.val (.int (k : Int)))) (some (.val (.int x))) (some (.val (.int y))) (some (.val t)) (some (.val (.bool f))) (some (.val gv)) (some (.val (.lst ct))) e9)) rfl)
      simp only [pe_const, pe_name, slotV, pe_glob, pe_bin, pe_not, pe_neg, pe_is, pe_isnot, pe_eq, pe_ne, pe_lt, pe_le, pe_gt, pe_ge, pe_in, pe_notin, pe_bop, pe_ife, pe_list, pe_tup, pe_sub, pe_slice, pe_call, pe_bcall, pe_meth, pe_attr, pes_nil', pes_cons, pr_v, pr_t, bind_ok, bindA_ok, truth_ok, ofB_some, ofRes_ok, ofRes_exc, onL_some, onP_some, plains_nil, plains_cons, pall_and_nil, pall_or_nil, pall_and_cons, pall_or_cons, pbop_one, pbop_and, pbop_or, Option.map_some, List.map_cons, List.map_nil, List.getElem?_cons_zero, List.getElem?_cons_succ, dS_av, dr_none, dr_bool, dr_int, dr_str, dr_type, dr_range, dr_tup, dr_lst, dr_set, List.length_cons, List.length_nil, Bool.not_true, Bool.not_false, Nat.reduceAdd, Nat.reduceLeDiff, if_true, m5, clt, ge _ _ h2, tb]
    rw [e2]
    exact ⟨_, _, _, _, _, _, _, _, _, rfl⟩
theorem law_run {script : List Int} (hz : script.length ≤ 63) : lK (pxs O cal true ⟨[some (.val (.lst (script.map .int))), none, none, none, none, none, none, none, none, none], [], 0, 0⟩ law_p) := by
  unfold law_p
  have hn : (script ++ [13, 25]).length ≤ 65 := by rw [List.length_append]; show _ + 2 ≤ 65; omega
  have ba : O.bin .Add (.lst (script.map .int)) (.lst [.int 13, .int 25]) = .ok (.lst ((script ++ [13, 25]).map .int)) := by
    rw [o_bin hO, List.map_append]
    show (if (script.map AV.int).length + 2 ≤ 1048576 then Res.ok (.lst (script.map .int ++ [.int 13, .int 25])) else .stuck) = _
    rw [if_pos (by rw [List.length_map]; omega)]
    rfl
  refine pk_assign (v := .lst ((script ++ [13, 25]).map .int)) (σ := []) ?_ ?_
  · simp only [pe_const, pe_name, slotV, pe_glob, pe_bin, pe_not, pe_neg, pe_is, pe_isnot, pe_eq, pe_ne, pe_lt, pe_le, pe_gt, pe_ge, pe_in, pe_notin, pe_bop, pe_ife, pe_list, pe_tup, pe_sub, pe_slice, pe_call, pe_bcall, pe_meth, pe_attr, pes_nil', pes_cons, pr_v, pr_t, bind_ok, bindA_ok, truth_ok, ofB_some, ofRes_ok, ofRes_exc, onL_some, onP_some, plains_nil, plains_cons, pall_and_nil, pall_or_nil, pall_and_cons, pall_or_cons, pbop_one, pbop_and, pbop_or, Option.map_some, List.map_cons, List.map_nil, List.getElem?_cons_zero, List.getElem?_cons_succ, dS_av, dr_none, dr_bool, dr_int, dr_str, dr_type, dr_range, dr_tup, dr_lst, dr_set, List.length_cons, List.length_nil, Bool.not_true, Bool.not_false, Nat.reduceAdd, Nat.reduceLeDiff, if_true, ba]
  dsimp only [Fs.at, Fs.set, List.set_cons_zero, List.set_cons_succ]
  generalize script ++ [13, 25] = ns at hn
  have bl : O.bcall .len [.lst (ns.map .int)] = .ok (.int (ns.length : Nat)) := by
    rw [o_bcall hO]
    show Res.ok (.int ((ns.map AV.int).length : Nat)) = _
    rw [List.length_map]
  have br : ∀ n : Int, O.bcall .range [.int n] = .ok (.range 0 n 1) := fun _ => by rw [o_bcall hO]; rfl
  refine pk_for (v := .range 0 (ns.length : Int) 1) (σ := []) (fun _ st => wI ns st) ?_ (by rw [o_items hO]; exact range_items ns.length (by omega)) ⟨_, _, _, _, _, _, _, _, _, rfl⟩ ?_ ?_
  · simp only [pe_const, pe_name, slotV, pe_glob, pe_bin, pe_not, pe_neg, pe_is, pe_isnot, pe_eq, pe_ne, pe_lt, pe_le, pe_gt, pe_ge, pe_in, pe_notin, pe_bop, pe_ife, pe_list, pe_tup, pe_sub, pe_slice, pe_call, pe_bcall, pe_meth, pe_attr, pes_nil', pes_cons, pr_v, pr_t, bind_ok, bindA_ok, truth_ok, ofB_some, ofRes_ok, ofRes_exc, onL_some, onP_some, plains_nil, plains_cons, pall_and_nil, pall_or_nil, pall_and_cons, pall_or_cons, pbop_one, pbop_and, pbop_or, Option.map_some, List.map_cons, List.map_nil, List.getElem?_cons_zero, List.getElem?_cons_succ, dS_av, dr_none, dr_bool, dr_int, dr_str, dr_type, dr_range, dr_tup, dr_lst, dr_set, List.length_cons, List.length_nil, Bool.not_true, Bool.not_false, Nat.reduceAdd, Nat.reduceLeDiff, if_true, bl, br]
  · rintro j v st hv ⟨e0, e2, e3, e4, e5, e6, e7, e8, e9, rfl⟩
    obtain ⟨hj, rfl⟩ := range_get hv
    exact turn hO hC hn hj
  · rintro st ⟨e0, e2, e3, e4, e5, e6, e7, e8, e9, rfl⟩
    refine pk_ret (v := .bool true) (σ := []) ?_ ⟨[], rfl⟩
    simp only [pe_const, pe_name, slotV, pe_glob, pe_bin, pe_not, pe_neg, pe_is, pe_isnot, pe_eq, pe_ne, pe_lt, pe_le, pe_gt, pe_ge, pe_in, pe_notin, pe_bop, pe_ife, pe_list, pe_tup, pe_sub, pe_slice, pe_call, pe_bcall, pe_meth, pe_attr, pes_nil', pes_cons, pr_v, pr_t, bind_ok, bindA_ok, truth_ok, ofB_some, ofRes_ok, ofRes_exc, onL_some, onP_some, plains_nil, plains_cons, pall_and_nil, pall_or_nil, pall_and_cons, pall_or_cons, pbop_one, pbop_and, pbop_or, Option.map_some, List.map_cons, List.map_nil, List.getElem?_cons_zero, List.getElem?_cons_succ, dS_av, dr_none, dr_bool, dr_int, dr_str, dr_type, dr_range, dr_tup, dr_lst, dr_set, List.length_cons, List.length_nil, Bool.not_true, Bool.not_false, Nat.reduceAdd, Nat.reduceLeDiff, if_true]
end
theorem law_true (ns : List Int) (h : ns.length ≤ 63) : ∀ ld, ∃ σ, lawRes ld ns = .ok (.av (.bool true)) σ := fun ld => law_run (O := ops ld) rfl (cal := cal3 ld) (cals_ok ld) h
end Mine
end
section
open PySem PySem.W PyProof.Rows
set_option Elab.async false
set_option maxRecDepth 100000
namespace Mine
noncomputable def viewP : Program := { PySem.Challenge.pw_dm0221_10 with main := { PySem.Challenge.pw_dm0221_10.main with body := PySem.Challenge.pw_dm0221_10.main.body.drop 3 } }
noncomputable def looseP : List Str := [PySem.Str.ofString "length_hint"]
noncomputable def hookP : Hook := fragHook [3, 22, 15, 21] (fragTest fname frees (fname 0) 22 15 length_hint_ns 0 length_hint_p)
theorem law_said : PySem.Challenge.rw_dm0221_10.wellSaid = true := by decide +kernel
theorem law_left : LeftO PySem.Challenge.pw_dm0221_10 viewP looseP (fun s => xlAt viewP [] s && recOk (RowW.records (OpenRow.toRowW (OpenLaw.row PySem.Challenge.rw_dm0221_10))) s) (Hook.obs hookP) (Hook.val hookP) 880 := by
  intro w
  kernel_rfl
end Mine
set_option maxRecDepth 100000 in
set_option maxHeartbeats 8000000 in
theorem PySem.Challenge.cw_dm0221_10_holds : PySem.Challenge.rw_dm0221_10.Holds := by
  w_on
  refine holds_law Mine.law_said fun said => ?_
  refine holds_open (q := Mine.viewP) (loose := Mine.looseP) (Xt := fun s => xlAt Mine.viewP [] s && recOk (RowW.records (OpenRow.toRowW (OpenLaw.row PySem.Challenge.rw_dm0221_10))) s) (XP := XL Mine.viewP []) (Yf := Hook.obs Mine.hookP) (Ya := Hook.val Mine.hookP) (YP := Hook.says Mine.hookP) (N := 880) Mine.law_left (Hook.of Mine.hookP) (Hook.keeps Mine.hookP) (fun s e => xl_of s (Bool.and_eq_true_iff.mp e).1) XL.keeps (by rfl) (by rfl) (by rfl) (fun s e => recFacts_of (Bool.and_eq_true_iff.mp e).2) (by rfl) (by first | assumption | decide +kernel) (by decide +kernel) ⟨rfl, rfl, rfl, rfl, rfl, by decide +kernel⟩ ?hw ?hc
  (case hw => w_witness2)
  intro w s₀ s₁ mg mb G Y fa o pm cd doc dV kV ho hd hcd hD hmg hg args vals as hpre hlay hrd hwl hlo
  obtain ⟨KF, KX, hk⟩ := Y
  refine Ground.open G ?_
  intro T B D TE TW
  try (refine guard_noD D (by decide +kernel) ?_; clear D)
  wrow_args hpre hlay hrd hwl hlo
  refine enter_call ?_
  w_top on
  try refine codeAny_mono ?_ (fun _ _ g => GoodW.toG g)
  rename_i hL _ w1 _ hI _ hlen _
  clear hd hD ho hcd
  have hn := Int.not_lt.mp hlen
  have hl := Mine.isL_of_well hL w1 rfl
  refine Mine.law_code T (by decide +kernel) KX (Mine.fragTest_of hk).1 (Mine.fragTest_of hk).2 (Mine.law_true _ (by omega)) (by omega) hl hI hmg fun s' h1 h2 h3 => ?_
  refine ⟨.inl ⟨_, .bool true, [], rfl, fun cls => rfl, .bool true, ?_, fun _ => ⟨List.nodup_nil, fun a ha => by cases ha⟩⟩, h1, h2, h3.trans hg⟩
  wrow_post
end
