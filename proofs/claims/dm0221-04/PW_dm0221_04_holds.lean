import PyProof.Rows.All
import Wide.All
import OpenK.AllK
import Wide.FinOn
import KE.KIsBytes
import KE.BytesMake
import KE.KxBytes
import KE.KDictIter
import Wide.Txt2
import KE.KBytesWalk
import KE.KTypeName
import KE.KxPercent
import OpenK.KNot
import PyProof.StrWalks
import PyProof.DictWalks
import PySem.Challenge.RW_dm0221_04
set_option Elab.async false
set_option linter.all false
set_option genInjectivity false
set_option genSizeOf false
set_option bootstrap.genMatcherCode false
section
open PySem PySem.W PyProof.Rows
namespace Mine
set_option linter.unusedVariables false
/- a set's table: its places rise -/
noncomputable def Rise (xs : Array Nat) : Prop := xs.toList.Pairwise (· < ·)
theorem Rise.lt {xs : Array Nat} (r : Rise xs) {i k : Nat} (hi : i < k) (hk : k < xs.size) : xs[i]'(by omega) < xs[k] := by
  have := List.pairwise_iff_getElem.mp r i k (by simpa using (by omega : i < xs.size)) (by simpa using hk) hi
  simpa using this
structure BelowIs (xs : Array Nat) (j r : Nat) : Prop where
  le : r ≤ xs.size
  lo : ∀ i (h : i < xs.size), i < r → xs[i] < j
  hi : ∀ i (h : i < xs.size), r ≤ i → j ≤ xs[i]
theorem below_go {xs : Array Nat} (r : Rise xs) {j : Nat} : ∀ (fuel lo hi : Nat), hi - lo ≤ fuel → lo ≤ hi → hi ≤ xs.size → (∀ i (h : i < xs.size), i < lo → xs[i] < j) → (∀ i (h : i < xs.size), hi ≤ i → j ≤ xs[i]) → BelowIs xs j (SetTable.below.go xs j fuel lo hi)
  | 0, lo, hi, h1, h2, h3, h4, h5 => by
    have : lo = hi := by omega
    subst this
    exact ⟨h3, h4, h5⟩
  | fuel + 1, lo, hi, h1, h2, h3, h4, h5 => by
    rw [SetTable.below.go]
    by_cases h : lo < hi
    · rw [if_pos h]
      have hm : (lo + hi) / 2 < hi := by omega
      have hm2 : lo ≤ (lo + hi) / 2 := by omega
      have hms : (lo + hi) / 2 < xs.size := by omega
      have hg : xs.getD ((lo + hi) / 2) j = xs[(lo + hi) / 2] := by simp [Array.getD, hms]
      dsimp only
      rw [hg]
      by_cases hj : xs[(lo + hi) / 2] < j
      · rw [if_pos hj]
        refine below_go r fuel _ _ (by omega) (by omega) h3 (fun i hi' hl => ?_) h5
        rcases Nat.lt_or_ge i ((lo + hi) / 2) with z | z
        · exact Nat.lt_trans (r.lt z hms) hj
        · have : i = (lo + hi) / 2 := by omega
          subst this; exact hj
      · rw [if_neg hj]
        refine below_go r fuel _ _ (by omega) hm2 (by omega) h4 (fun i hi' hl => ?_)
        rcases Nat.lt_or_ge ((lo + hi) / 2) i with z | z
        · have := r.lt z hi'; omega
        · have : i = (lo + hi) / 2 := by omega
          subst this; omega
    · rw [if_neg h]
      have : lo = hi := by omega
      subst this
      exact ⟨h3, h4, h5⟩
theorem below_is {xs : Array Nat} (r : Rise xs) (j : Nat) : BelowIs xs j (SetTable.below xs j) :=
  below_go r _ _ _ (Nat.le_refl _) (Nat.zero_le _) (Nat.le_refl _) (fun _ _ h => absurd h (Nat.not_lt_zero _)) fun i h h' => by omega
theorem below_zero {xs : Array Nat} (r : Rise xs) : SetTable.below xs 0 = 0 := by
  have b := below_is r 0
  rcases Nat.eq_zero_or_pos (SetTable.below xs 0) with h | h
  · exact h
  · have := b.lo 0 (by have := b.le; omega) h; omega
theorem below_next {xs : Array Nat} (r : Rise xs) {i : Nat} (h : i < xs.size) : SetTable.below xs (xs[i] + 1) = i + 1 := by
  have b := below_is r (xs[i] + 1)
  rcases Nat.lt_trichotomy (SetTable.below xs (xs[i] + 1)) (i + 1) with z | z | z
  · have := b.hi i h (by omega); omega
  · exact z
  · have h2 : i + 1 < xs.size := by have := b.le; omega
    have := b.lo (i + 1) h2 z
    have := r.lt (show i < i + 1 by omega) h2
    omega
/-- a place that the table does not hold -/
theorem not_mem_of_below {xs : Array Nat} (r : Rise xs) {j : Nat} (h : xs[SetTable.below xs j]? ≠ some j) : j ∉ xs.toList := fun hm => by
  obtain ⟨k, hk, e⟩ := List.getElem_of_mem hm
  have hk' : k < xs.size := by simpa using hk
  have e' : xs[k] = j := by simpa using e
  have b := below_is r j
  have h1 : SetTable.below xs j ≤ k := Nat.le_of_not_lt fun z => by have := b.lo k hk' z; omega
  rcases Nat.lt_or_ge (SetTable.below xs j) k with z | z
  · have := b.hi _ (Nat.lt_trans z hk') (Nat.le_refl _)
    have := r.lt z hk'; omega
  · have : SetTable.below xs j = k := Nat.le_antisymm h1 z
    exact h (by rw [this, Array.getElem?_eq_getElem hk', e'])
theorem insertAt_list {α : Type} (xs : Array α) (p : Nat) (x : α) : (SetTable.insertAt xs p x).toList = xs.toList.take p ++ x :: xs.toList.drop p := by
  simp [SetTable.insertAt, List.take_of_length_le]
theorem rise_insert {xs : Array Nat} (r : Rise xs) {j : Nat} (h : xs[SetTable.below xs j]? ≠ some j) : Rise (SetTable.insertAt xs (SetTable.below xs j) j) := by
  have hn := not_mem_of_below r h
  have b := below_is r j
  unfold Rise
  rw [insertAt_list, List.pairwise_append, List.pairwise_cons]
  refine ⟨r.sublist (List.take_sublist _ _), ⟨fun y hy => ?_, r.sublist (List.drop_sublist _ _)⟩, fun y hy z hz => ?_⟩
  · obtain ⟨i, hi, e⟩ := List.getElem_of_mem hy
    rw [List.getElem_drop] at e
    have hi' : SetTable.below xs j + i < xs.size := by simp at hi; omega
    have := b.hi _ hi' (Nat.le_add_right _ _)
    have e' : xs[SetTable.below xs j + i] = y := by simpa using e
    rcases Nat.lt_or_ge j y with z | z
    · exact z
    · have : y = j := by omega
      exact absurd (this ▸ List.mem_of_mem_drop hy) hn
  · obtain ⟨i, hi, e⟩ := List.getElem_of_mem hy
    have hi2 : i < SetTable.below xs j ∧ i < xs.size := by
      rw [List.length_take] at hi; have : i < xs.toList.length := by omega
      exact ⟨by omega, by simpa using this⟩
    have e' : xs[i]'hi2.2 = y := by rw [List.getElem_take] at e; simpa using e
    have hlt := b.lo i hi2.2 hi2.1
    rcases List.mem_cons.mp hz with rfl | hz
    · omega
    · obtain ⟨k, hk, e2⟩ := List.getElem_of_mem hz
      rw [List.getElem_drop] at e2
      have hk' : SetTable.below xs j + k < xs.size := by simp at hk; omega
      have := b.hi _ hk' (Nat.le_add_right _ _)
      have e2' : xs[SetTable.below xs j + k] = z := by simpa using e2
      omega
theorem rise_range (n : Nat) : Rise (Array.range n) := by
  unfold Rise
  rw [Array.toList_range]
  exact List.pairwise_lt_range
theorem rise_empty : Rise #[] := List.Pairwise.nil
/- the slots that a search meets -/
noncomputable def NotLive (t : SetTable) (j : Nat) : Prop := t.place[SetTable.below t.place j]? ≠ some j
theorem slot_empty {t : SetTable} {j : Nat} (h : t.slot j = .empty ∨ t.slot j = .dummy) : NotLive t j := fun e => by
  unfold SetTable.slot at h
  dsimp only at h
  rw [e] at h
  simp at h
theorem advance_dummy (t : SetTable) (p : SetTable.Probe) : (t.advance p).dummy = p.dummy := by
  unfold SetTable.advance
  split <;> rfl
theorem probe_go {t : SetTable} {f : Nat → Int} {h : Int} : ∀ (fuel : Nat) (p : SetTable.Probe) (j : Nat) (d : Option Nat), (∀ k, p.dummy = some k → t.slot k = .dummy) → SetTable.probe.go t f h fuel p = some (.empty j d) → t.slot j = .empty ∧ ∀ k, d = some k → t.slot k = .dummy
  | 0, p, j, d, _, e => by simp [SetTable.probe.go] at e
  | fuel + 1, p, j, d, hp, e => by
    rw [SetTable.probe.go] at e
    split at e
    · rename_i hs
      simp only [Option.some.injEq, SetTable.Met.empty.injEq] at e
      obtain ⟨rfl, rfl⟩ := e
      exact ⟨hs, hp⟩
    · rename_i hs
      exact probe_go fuel _ j d (fun k hk => by rw [advance_dummy] at hk; simp only [Option.some.injEq] at hk; subst hk; exact hs) e
    · split at e
      · simp at e
      · exact probe_go fuel _ j d (fun k hk => hp k (by rw [advance_dummy] at hk; exact hk)) e
theorem freeSlot_notLive {t : SetTable} {h : Int} {j : Nat} {b : Bool} (e : t.freeSlot h = some (j, b)) : NotLive t j := by
  unfold SetTable.freeSlot at e
  split at e
  · rename_i j' d hm
    simp only [Option.some.injEq, Prod.mk.injEq] at e
    obtain ⟨e1, _⟩ := e
    obtain ⟨h1, h2⟩ := probe_go _ _ _ _ (fun k hk => by simp [SetTable.probeStart] at hk) hm
    cases d with
    | none => exact slot_empty (.inl (e1 ▸ h1))
    | some k => exact slot_empty (.inr (e1 ▸ h2 k rfl))
  · cases e
/-- what is kept of a table -/
structure Tab (ld : Bool) (t : SetTable) : Prop where
  rise : Rise t.place
  led : t.led = ld
theorem Tab.fresh (a b : Nat) (ld : Bool) : Tab ld (.fresh a b ld) := ⟨rise_empty, rfl⟩
theorem Tab.standIn {ld : Bool} {t : SetTable} (h : t.led = ld) (n : Nat) : Tab ld (t.standIn n) := ⟨rise_range n, h⟩
theorem Tab.orStandIn {ld : Bool} {t : SetTable} (h : Tab ld t) (n : Nat) : Tab ld (t.orStandIn n) := by
  unfold SetTable.orStandIn
  split
  · exact h
  · exact Tab.standIn h.led n
theorem Tab.put {ld : Bool} {t : SetTable} (h : Tab ld t) {j : Nat} (n : NotLive t j) : Tab ld (t.put j).1 := ⟨rise_insert h.rise n, h.led⟩
theorem Tab.layNew {ld : Bool} {t : SetTable} (h : Tab ld t) (es : Array (Int × Value)) (hx : Int) (x : Value) : Tab ld (layNew t es hx x).2.1 := by
  unfold PySem.layNew
  split
  · rename_i slot wd e
    exact (h.put (freeSlot_notLive e)).orStandIn _
  · exact Tab.standIn h.led _
theorem Tab.laid {ld pl : Bool} {mask fi mv : Nat} {hs : Array Int} {r : SetTable × Array Nat} (e : SetTable.laid mask fi mv ld pl hs = some r) : Tab ld r.1 := by
  unfold SetTable.laid at e
  simp only [Option.bind_eq_bind, Option.pure_def, Option.bind_eq_some_iff, Option.some.injEq] at e
  obtain ⟨owner, _, e⟩ := e
  subst e
  refine ⟨?_, rfl⟩
  unfold Rise
  simp only [List.map_filterMap, Option.map_map]
  have : ((List.range (mask + 1)).filterMap fun j => Option.map (Prod.fst ∘ fun x => (j, x)) (owner.getD j none)) = (List.range (mask + 1)).filter fun j => (owner.getD j none).isSome := by
    induction (List.range (mask + 1)) with
    | nil => rfl
    | cons a l ih =>
      rw [List.filterMap_cons, List.filter_cons]
      cases owner.getD a none with
      | none => exact ih
      | some k => exact congrArg (a :: ·) ih
  rw [this]
  exact List.Pairwise.filter _ List.pairwise_lt_range
end Mine
end
section
open PySem PySem.W PyProof.Rows
namespace Mine
set_option linter.unusedVariables false
/- rising rows of ints -/
noncomputable def insI (x : Int) : List Int → List Int
  | [] => [x]
  | y :: ys => if x < y then x :: y :: ys else if x = y then y :: ys else y :: insI x ys
theorem mem_insI {x j : Int} : ∀ {l : List Int}, j ∈ insI x l ↔ j = x ∨ j ∈ l
  | [] => by simp [insI]
  | y :: ys => by
    rw [insI]
    split
    · simp
    · split
      · rename_i h; subst h; simp
      · rw [List.mem_cons, mem_insI, List.mem_cons]
        constructor
        · rintro (h | h | h)
          · exact .inr (.inl h)
          · exact .inl h
          · exact .inr (.inr h)
        · rintro (h | h | h)
          · exact .inr (.inl h)
          · exact .inl h
          · exact .inr (.inr h)
theorem insI_sorted {x : Int} : ∀ {l : List Int}, l.Pairwise (· < ·) → (insI x l).Pairwise (· < ·)
  | [], _ => by simp [insI]
  | y :: ys, h => by
    obtain ⟨h1, h2⟩ := List.pairwise_cons.mp h
    rw [insI]
    split
    · rename_i hx
      refine List.pairwise_cons.mpr ⟨fun z hz => ?_, h⟩
      rcases List.mem_cons.mp hz with rfl | hz
      · exact hx
      · exact Int.lt_trans hx (h1 z hz)
    · split
      · exact h
      · rename_i h3 h4
        refine List.pairwise_cons.mpr ⟨fun z hz => ?_, insI_sorted h2⟩
        rcases mem_insI.mp hz with rfl | hz
        · omega
        · exact h1 z hz
theorem insI_old {x : Int} : ∀ {l : List Int}, l.Pairwise (· < ·) → x ∈ l → insI x l = l
  | [], _, h => by simp at h
  | y :: ys, h, hx => by
    obtain ⟨h1, h2⟩ := List.pairwise_cons.mp h
    rw [insI]
    rcases List.mem_cons.mp hx with rfl | hx
    · rw [if_neg (Int.lt_irrefl _), if_pos rfl]
    · have := h1 x hx
      rw [if_neg (by omega), if_neg (by omega), insI_old h2 hx]
theorem insI_new {x : Int} : ∀ {l : List Int}, x ∉ l → (insI x l).length = l.length + 1
  | [], _ => rfl
  | y :: ys, h => by
    simp only [List.mem_cons, not_or] at h
    rw [insI]
    split
    · rfl
    · rw [if_neg h.1, List.length_cons, insI_new h.2, List.length_cons]
/-- the rising row of what a row holds -/
noncomputable def distI (l : List Int) : List Int := l.foldl (fun a x => insI x a) []
theorem distI_sorted (l : List Int) : (distI l).Pairwise (· < ·) := by
  have : ∀ (l a : List Int), a.Pairwise (· < ·) → (l.foldl (fun a x => insI x a) a).Pairwise (· < ·) := by
    intro l
    induction l with
    | nil => exact fun a h => h
    | cons x l ih => exact fun a h => ih _ (insI_sorted h)
  exact this l [] .nil
theorem mem_foldl_insI {j : Int} : ∀ (l a : List Int), j ∈ l.foldl (fun a x => insI x a) a ↔ j ∈ a ∨ j ∈ l
  | [], a => by simp
  | x :: l, a => by
    rw [List.foldl_cons, mem_foldl_insI l, mem_insI, List.mem_cons]
    constructor
    · rintro ((h | h) | h)
      · exact .inr (.inl h)
      · exact .inl h
      · exact .inr (.inr h)
    · rintro (h | h | h)
      · exact .inl (.inr h)
      · exact .inl (.inl h)
      · exact .inr h
theorem mem_distI {j : Int} {l : List Int} : j ∈ distI l ↔ j ∈ l := by
  unfold distI; rw [mem_foldl_insI]; simp
section
variable {prog : Program} {w : World} {A : Around} {E : Value → Shared → Prop} {s : Shared}
end
end Mine
end
section
open PySem PySem.W PyProof.Rows PySem.Calls
namespace Mine
set_option linter.unusedVariables false
set_option maxRecDepth 100000
theorem entry_set_iter : entryFor table "set.__iter__" = some Builtin.«frozenset.__iter__» :=
  entryFor_alias (id' := "frozenset.__iter__") (by rw [fastTable_eq_tree]; kernel_rfl) rfl (by decide +kernel) (by rw [fastTable_eq_tree]; kernel_rfl)
theorem slot_seti_next : Slot "set_iterator" "__next__" "set_iterator.__next__" :=
  .of (owner := "set_iterator") (n := "__next__") (by rw [typeLookup_type, builtinLookup_eq_fast]; kernel_rfl) (by decide +kernel) (by decide +kernel) (by decide +kernel)
    (by first | exact .inl (by decide +kernel) | exact .inr (by decide +kernel)) (by rw [isSubtype_type]; kernel_rfl)
theorem entry_seti_next : entryFor table "set_iterator.__next__" = some Builtin.«set_iterator.__next__» := entryFor_of_tree (by kernel_rfl)
theorem args_seti_next (a : Value) : argsOk "set_iterator.__next__" ⟨[a], []⟩ := by
  unfold argsOk; kernel_rfl
theorem slot_seti_iter : Slot "set_iterator" "__iter__" "set_iterator.__iter__" :=
  .of (owner := "set_iterator") (n := "__iter__") (by rw [typeLookup_type, builtinLookup_eq_fast]; kernel_rfl) (by decide +kernel) (by decide +kernel) (by decide +kernel)
    (by first | exact .inl (by decide +kernel) | exact .inr (by decide +kernel)) (by rw [isSubtype_type]; kernel_rfl)
theorem entry_seti_iter : entryFor table "set_iterator.__iter__" = some Builtin.«dict_keyiterator.__iter__» :=
  entryFor_alias (id' := "dict_keyiterator.__iter__") (by rw [fastTable_eq_tree]; kernel_rfl) (by first | rfl | decide +kernel) (by decide +kernel) (by rw [fastTable_eq_tree]; kernel_rfl)
theorem args_seti_iter (a : Value) : argsOk "set_iterator.__iter__" ⟨[a], []⟩ := by
  unfold argsOk; kernel_rfl
theorem pick_go {α : Type} (f : Nat → Nat) : ∀ (n k : Nat) (left : List α) (out : Array α), left.length = n → (pickOrder.go f n k left out).size = out.size + n
  | 0, k, left, out, h => rfl
  | n + 1, k, left, out, h => by
    rw [pickOrder.go]
    have hl : f k % left.length < left.length := Nat.mod_lt _ (by omega)
    rw [List.getElem?_eq_getElem hl]
    dsimp only
    rw [pick_go f n (k + 1) _ _ (by rw [List.length_eraseIdx_of_lt hl]; omega), Array.size_push]
    omega
theorem pick_size {α : Type} (f : Nat → Nat) (xs : Array α) : (pickOrder f xs).size = xs.size := by
  unfold pickOrder
  rw [pick_go f xs.size 0 xs.toList #[] (by simp)]
  simp
/-- a set that may be gone over: b tells that its places count -/
structure SetIt (b : Bool) (es : Array (Int × Value)) (t : SetTable) : Prop where
  fits : t.fits es.size = true
  rise : Rise t.place
  plain : t.plain = true
  led : t.led = b
noncomputable def SetAt (h : Heap) (a : Addr) (es : Array (Int × Value)) (ep : Nat) (t : SetTable) : Prop := ∃ o, h.get? a = some o ∧ o.cls = .type "set" ∧ o.data = .set es ep t
noncomputable def SetItAt (h : Heap) (I a : Addr) (i slot n ep : Nat) : Prop := ∃ o, h.get? I = some o ∧ o.cls = .type "set_iterator" ∧ o.data = .fields #[.int slot 0, .int i 0, .ref a, .int n 0, .int ep 0]
section
variable {prog : Program} {w : World} {A : Around} {E : Value → Shared → Prop} {s : Shared} {a I : Addr} {o : Obj} {es : Array (Int × Value)} {ep i slot : Nat} {t : SetTable}
theorem setByText {Q : Bool → Shared → Prop} (h : Q (w.params.followText "set-order") s) : wpAny (model prog w) A setsByText Q E s := by
  unfold setsByText
  exact wpAny_bind (wpAny_askSetting (wpAny_pure h))
theorem set_iterSelf (hI : SetItAt s.heap I a i slot es.size ep) {Q : Value → Shared → Prop} (h : Q (.ref I) s) : wpAny (model prog w) A (pyIter (.ref I)) Q E s := by
  obtain ⟨o, ho, hc, hd⟩ := hI
  have hT : s.TypeIs (.ref I) "set_iterator" := ⟨o, ho, hc⟩
  refine wpAny_pyIter_slot hT slot_seti_iter (wpAny_call_entry slot_seti_iter hT entry_seti_iter ?_ (args_seti_iter _))
  show wpAny _ _ (ret (.ref I)) _ _ s
  exact wpAny_pure ⟨_, rfl, "set_iterator", _, hT, slot_seti_next.lookup, h⟩
/-- where the iterator stands -/
noncomputable def StandsAt (w : World) (t : SetTable) (slot i : Nat) : Prop := w.params.followText "set-order" = true ∨ SetTable.below t.place slot = i
/-- its length -/
theorem set_len (hS : SetAt s.heap a es ep t) (hf : t.fits es.size = true) (hfit : (es.size : Int) < 2 ^ 63) {Q : Value → Shared → Prop} (h : Q (.int es.size (s.toks + 1)) { s with toks := s.toks + 1 + 1 }) : wpAny (model prog w) A (call (.builtin "len") [.ref a]) Q E s := by
  obtain ⟨o, ho, hc, hd⟩ := hS
  have hT : s.TypeIs (.ref a) "set" := ⟨o, ho, hc⟩
  refine Calls.call_function_entry kind_len plain_len entry_len (args_len1 _) ?_
  unfold Builtin.«len»
  refine wpAny_bind (m := oneArg "len" _) (wpAny_pure ?_)
  refine wpAny_bind (m := callSpecial? (.ref a) (Str.ofString "__len__")) (wpAny_callSpecial?_slot (name := Str.ofString "__len__") hT F.slot_set_len
    (wpAny_call_entry F.slot_set_len hT entry_set_len ?_ (F.args_set_len_1 _)))
  unfold Builtin.«frozenset.__len__» Builtin.Frozenset.slot0 slotArgs
  simp only [List.isEmpty_nil, Bool.not_true, Bool.false_eq_true, ↓reduceIte, bind_assoc, List.length_nil, bne_self_eq_false]
  unfold Builtin.Frozenset.addrOf Builtin.Frozenset.sizeOf
  refine wpAny_bind (wpAny_pure ?_)
  try dsimp only
  refine wpAny_bind (wpAny_pure ?_)
  refine wpAny_bind (wpAny_bind (wpAny_setEntries_of ho hd hf (wpAny_pure ?_)))
  show wpAny _ _ (retInt _) _ _ _
  unfold retInt
  refine wpAny_bind (wpAny_mkInt (wpAny_pure ⟨_, rfl, ?_⟩))
  refine wpAny_bind (wpAny_holding (wpAny_pure ?_))
  refine wpAny_bind (wpAny_letGo ?_)
  show wpAny _ _ (if ((es.size : Nat) : Int) < 0 then _ else _) _ _ _
  rw [if_neg (by omega)]
  show wpAny _ _ (if ((es.size : Nat) : Int) ≥ 2 ^ 63 then _ else _) _ _ _
  rw [if_neg (by omega)]
  exact wpAny_bind (wpAny_mkInt (wpAny_pure ⟨_, rfl, h⟩))
end
end Mine
end
section
open PySem PySem.W PyProof.Rows
namespace Mine
set_option linter.unusedVariables false
set_option maxRecDepth 100000
/- small sets: ints from 0 to 4, put in one after the other -/
/-- the table of such a set -/
noncomputable def Tof (ld : Bool) (xs : List Int) : SetTable := { mask := if xs.length ≤ 4 then 7 else 31, place := (xs.map Int.toNat).toArray, dummies := #[], finger := 0, led := ld, moves := if xs.length ≤ 4 then 0 else 1, plain := true }
noncomputable def subs : List (List Int) := [[], [0], [1], [0, 1], [2], [0, 2], [1, 2], [0, 1, 2], [3], [0, 3], [1, 3], [0, 1, 3], [2, 3], [0, 2, 3], [1, 2, 3], [0, 1, 2, 3], [4], [0, 4], [1, 4], [0, 1, 4], [2, 4], [0, 2, 4], [1, 2, 4], [0, 1, 2, 4], [3, 4], [0, 3, 4], [1, 3, 4], [0, 1, 3, 4], [2, 3, 4], [0, 2, 3, 4], [1, 2, 3, 4], [0, 1, 2, 3, 4]]
noncomputable def keyOf (e : Int × Value) : Option (Int × Int) := match e.2 with | .int i _ => some (i, e.1) | _ => none
structure SmS (ld : Bool) (es : Array (Int × Value)) (t : SetTable) (xs : List Int) : Prop where
  sub : xs ∈ subs
  tab : t = Tof ld xs
  keys : es.toList.map keyOf = xs.map fun i => some (i, hashInt i)
section
variable {prog : Program} {w : World} {A : Around} {E : Value → Shared → Prop} {s : Shared}
end
end Mine
end
section
open PySem PySem.W PyProof.Rows
set_option linter.unusedVariables false
set_option linter.unusedSectionVars false
set_option maxRecDepth 100000
namespace Mine
/- tables of ints from 0 to 31 never give way -/
noncomputable def masks : List Nat := [7, 15, 31, 63, 127, 255]
/-- the places from which runs begin -/
noncomputable def orb (m : Nat) : Nat → Nat → List Nat
  | 0, _ => []
  | n + 1, i => i :: orb m n ((i * 5 + 1) % (m + 1))
noncomputable def orbBits (m : Nat) : Nat → Nat → Nat
  | 0, _ => 0
  | n + 1, i => (1 <<< i) ||| orbBits m n ((i * 5 + 1) % (m + 1))
theorem orb_bit (m j : Nat) : ∀ n i, (orbBits m n i).testBit j = true → j ∈ orb m n i
  | 0, i, h => by simp [orbBits] at h
  | n + 1, i, h => by
    rw [orbBits, Nat.testBit_or, Bool.or_eq_true] at h
    rcases h with h | h
    · rw [Nat.one_shiftLeft, Nat.testBit_two_pow] at h
      have : i = j := by simpa using h
      subst this; exact List.mem_cons_self
    · exact List.mem_cons_of_mem _ (orb_bit m j n _ h)
theorem orb_full : ∀ m ∈ masks, ∀ i, i < 32 → orbBits m (m + 1) (i % (m + 1)) = 2 ^ (m + 1) - 1 := by decide +kernel
theorem orb_all {m i j : Nat} (hm : m ∈ masks) (hi : i < 32) (hj : j ≤ m) : j ∈ orb m (m + 1) (i % (m + 1)) := by
  refine orb_bit _ _ _ _ ?_
  rw [orb_full m hm i hi, Nat.testBit_two_pow_sub_one]
  simpa using Nat.lt_succ_of_le hj
theorem nodup_sub {α : Type} [DecidableEq α] : ∀ {l l' : List α}, l.Nodup → (∀ x ∈ l, x ∈ l') → l.length ≤ l'.length
  | [], _, _, _ => Nat.zero_le _
  | x :: l, l', n, h => by
    rw [List.nodup_cons] at n
    have hx := h x List.mem_cons_self
    have := nodup_sub (l' := l'.erase x) n.2 fun y hy => (List.mem_erase_of_ne (fun e : y = x => n.1 (e ▸ hy))).mpr (h y (List.mem_cons_of_mem _ hy))
    rw [List.length_erase_of_mem hx] at this
    have : 0 < l'.length := List.length_pos_of_mem hx
    rw [List.length_cons]; omega
theorem run_le (m i : Nat) : SetTable.runEnd m i - i ≤ 9 := by
  unfold SetTable.runEnd; split <;> omega
theorem go_in {t : SetTable} {h : Int} : ∀ (m F : Nat) (p : SetTable.Probe), p.more = m → p.perturb < 32 →
    (∃ j d, SetTable.probe.go t (fun _ => h + 1) h (m + 1 + F) p = some (.empty j d)) ∨
    (t.slot p.j ≠ .empty ∧ ∃ dm, SetTable.probe.go t (fun _ => h + 1) h (m + 1 + F) p = SetTable.probe.go t (fun _ => h + 1) h F ⟨(p.i * 5 + 1) % (t.mask + 1), SetTable.runEnd t.mask ((p.i * 5 + 1) % (t.mask + 1)) - (p.i * 5 + 1) % (t.mask + 1), (p.i * 5 + 1) % (t.mask + 1), 0, dm⟩)
  | 0, F, p, hm, hp => by
    have adv : ∀ q : SetTable.Probe, q.more = 0 → q.perturb < 32 → t.advance q = ⟨(q.i * 5 + 1) % (t.mask + 1), SetTable.runEnd t.mask ((q.i * 5 + 1) % (t.mask + 1)) - (q.i * 5 + 1) % (t.mask + 1), (q.i * 5 + 1) % (t.mask + 1), 0, q.dummy⟩ := fun q h0 h1 => by
      unfold SetTable.advance SetTable.leap
      rw [if_neg (by omega)]
      have : q.perturb / 32 = 0 := by omega
      simp only [this, Nat.add_zero]
    rw [show 0 + 1 + F = F + 1 by omega, SetTable.probe.go]
    cases hs : t.slot p.j with
    | empty => exact .inl ⟨_, _, rfl⟩
    | dummy =>
      refine .inr ⟨by simp, some p.j, ?_⟩
      dsimp only
      rw [adv { p with dummy := some p.j } hm hp]
    | live i =>
      refine .inr ⟨by simp, p.dummy, ?_⟩
      dsimp only
      have : (h + 1 == h) = false := beq_false_of_ne (by omega)
      rw [this]
      simp only [Bool.false_eq_true, if_false]
      rw [adv _ hm hp]
  | m + 1, F, p, hm, hp => by
    have adv : ∀ q : SetTable.Probe, q.more = m + 1 → t.advance q = { q with j := q.j + 1, more := m } := fun q h0 => by
      unfold SetTable.advance
      rw [if_pos (by omega), h0]; rfl
    rw [show m + 1 + 1 + F = (m + 1 + F) + 1 by omega, SetTable.probe.go]
    cases hs : t.slot p.j with
    | empty => exact .inl ⟨_, _, rfl⟩
    | dummy =>
      dsimp only
      rw [adv { p with dummy := some p.j } hm]
      rcases go_in (t := t) (h := h) m F { p with j := p.j + 1, more := m, dummy := some p.j } rfl hp with r | ⟨_, r⟩
      · exact .inl r
      · exact .inr ⟨by simp, r⟩
    | live i =>
      dsimp only
      have : (h + 1 == h) = false := beq_false_of_ne (by omega)
      rw [this]
      simp only [Bool.false_eq_true, if_false]
      rw [adv _ hm]
      rcases go_in (t := t) (h := h) m F { p with j := p.j + 1, more := m } rfl hp with r | ⟨_, r⟩
      · exact .inl r
      · exact .inr ⟨by simp, r⟩
theorem go_runs {t : SetTable} {h : Int} : ∀ (r F i pb : Nat) (dm : Option Nat), pb < 32 → 10 * r ≤ F →
    (∃ j d, SetTable.probe.go t (fun _ => h + 1) h F ⟨i, SetTable.runEnd t.mask i - i, i, pb, dm⟩ = some (.empty j d)) ∨ ∀ j ∈ orb t.mask r i, t.slot j ≠ .empty
  | 0, F, i, pb, dm, hp, hF => .inr fun j hj => by simp [orb] at hj
  | r + 1, F, i, pb, dm, hp, hF => by
    have hr := run_le t.mask i
    obtain ⟨F', e⟩ : ∃ F', F = (SetTable.runEnd t.mask i - i) + 1 + F' := ⟨F - ((SetTable.runEnd t.mask i - i) + 1), by omega⟩
    subst e
    rcases go_in (t := t) (h := h) _ F' ⟨i, SetTable.runEnd t.mask i - i, i, pb, dm⟩ rfl hp with x | ⟨x, dm', y⟩
    · exact .inl x
    · rw [y]
      rcases go_runs (t := t) (h := h) r F' ((i * 5 + 1) % (t.mask + 1)) 0 dm' (by omega) (by omega) with z | z
      · exact .inl z
      · refine .inr fun j hj => ?_
        rw [orb] at hj
        rcases List.mem_cons.mp hj with rfl | hj
        · exact x
        · exact z j hj
theorem has_mem {xs : Array Nat} {j : Nat} (h : SetTable.has xs j = true) : j ∈ xs.toList := by
  unfold SetTable.has at h
  have := Array.mem_of_getElem? (by simpa using h : xs[SetTable.below xs j]? = some j)
  simpa using this
theorem slot_mem {t : SetTable} {j : Nat} (h : t.slot j ≠ .empty) : j ∈ t.place.toList ++ t.dummies.toList := by
  unfold SetTable.slot at h
  dsimp only at h
  split at h
  · rename_i e
    have := Array.mem_of_getElem? (by simpa using e : t.place[SetTable.below t.place j]? = some j)
    exact List.mem_append_left _ (by simpa using this)
  · split at h
    · rename_i e; exact List.mem_append_right _ (has_mem e)
    · exact absurd rfl h
structure Good (t : SetTable) : Prop where
  plain : t.plain = true
  mask : t.mask ∈ masks
  room : t.fill * 5 < t.mask * 3
theorem hash_small : ∀ i, i < 32 → hashInt (i : Nat) = (i : Int) ∧ SetTable.bits (hashInt (i : Nat)) = i := by decide +kernel
theorem hash_bits {i : Int} (h : 0 ≤ i ∧ i < 32) : SetTable.bits (hashInt i) = i.toNat ∧ i.toNat < 32 := by
  have h1 : ((i.toNat : Nat) : Int) = i := by omega
  have h2 : i.toNat < 32 := by omega
  have := (hash_small i.toNat h2).2
  rw [h1] at this
  exact ⟨this, h2⟩
theorem free_ok {t : SetTable} (g : Good t) {i : Int} (h : 0 ≤ i ∧ i < 32) : ∃ j wd, t.freeSlot (hashInt i) = some (j, wd) ∧ (wd = true → SetTable.has t.dummies j = true) ∧ (wd = false → SetTable.has t.dummies j = false) := by
  obtain ⟨hb, hl⟩ := hash_bits h
  have key : ∃ j d, t.probe (fun _ => hashInt i + 1) (hashInt i) (t.probeStart (hashInt i)) = some (.empty j d) := by
    unfold SetTable.probe SetTable.probeStart
    rw [hb]
    dsimp only
    rcases go_runs (t := t) (h := hashInt i) (t.mask + 1) (10 * SetTable.turns t.mask) (i.toNat % (t.mask + 1)) i.toNat none hl (by unfold SetTable.turns; omega) with x | x
    · exact x
    · exfalso
      have := nodup_sub (l := List.range (t.mask + 1)) (l' := t.place.toList ++ t.dummies.toList) List.nodup_range fun j hj => slot_mem (x j (orb_all g.mask hl (by have := List.mem_range.mp hj; omega)))
      rw [List.length_range, List.length_append, Array.length_toList, Array.length_toList] at this
      have hr := g.room
      unfold SetTable.fill at hr
      omega
  obtain ⟨j, d, e⟩ := key
  obtain ⟨h1, h2⟩ := probe_go _ _ _ _ (fun k hk => by simp [SetTable.probeStart] at hk) (show SetTable.probe.go t (fun _ => hashInt i + 1) (hashInt i) _ _ = some (.empty j d) from e)
  refine ⟨d.getD j, d.isSome, by unfold SetTable.freeSlot; rw [e], fun hw => ?_, fun hw => ?_⟩
  · cases d with
    | none => cases hw
    | some k =>
      have hk := h2 k rfl
      unfold SetTable.slot at hk
      dsimp only at hk
      split at hk
      · cases hk
      · split at hk
        · assumption
        · cases hk
  · cases d with
    | some k => cases hw
    | none =>
      unfold SetTable.slot at h1
      dsimp only at h1
      split at h1
      · cases h1
      · split at h1
        · cases h1
        · rename_i hh; simpa using hh
theorem insertAt_size {α : Type} (xs : Array α) (p : Nat) (x : α) : (SetTable.insertAt xs p x).size = xs.size + 1 := by
  have := (SetTable.insertAt_perm xs p x).length_eq
  simpa using this
theorem eraseAt_list {α : Type} (xs : Array α) (p : Nat) : (SetTable.eraseAt xs p).toList = xs.toList.eraseIdx p := by
  unfold SetTable.eraseAt
  rw [List.eraseIdx_eq_take_drop_succ]
  simp only [Array.toList_append, Array.toList_extract, List.extract_eq_take_drop, Nat.sub_zero, List.drop_zero]
  congr 1
  exact List.take_of_length_le (by simp)
theorem eraseAt_size {α : Type} (xs : Array α) {p : Nat} (h : p < xs.size) : (SetTable.eraseAt xs p).size = xs.size - 1 := by
  rw [← Array.length_toList, eraseAt_list, List.length_eraseIdx_of_lt (by simpa using h), Array.length_toList]
theorem has_lt {xs : Array Nat} {j : Nat} (h : SetTable.has xs j = true) : SetTable.below xs j < xs.size := by
  unfold SetTable.has at h
  have e : xs[SetTable.below xs j]? = some j := by simpa using h
  exact (Array.getElem?_eq_some_iff.mp e).1
/-- an element is laid anew -/
theorem lay_good {t : SetTable} (g : Good t) {es : Array (Int × Value)} (hs : t.place.size = es.size) {i : Int} (h : 0 ≤ i ∧ i < 32) (x : Value) :
    ∃ t1 p wd, layNew t es (hashInt i) x = (SetTable.insertAt es p (hashInt i, x), t1, wd, false) ∧ t1.plain = true ∧ t1.mask = t.mask ∧ t1.place.size = es.size + 1 ∧ (wd = true → t1.fill = t.fill) ∧ t1.fill ≤ t.fill + 1 := by
  obtain ⟨j, wd, e, w1, w2⟩ := free_ok g h
  have hr := g.room
  have hf : (t.put j).1.fill ≤ t.fill + 1 ∧ (wd = true → (t.put j).1.fill = t.fill) := by
    unfold SetTable.put SetTable.fill
    dsimp only
    rw [insertAt_size]
    cases wd with
    | true =>
      have := has_lt (w1 rfl)
      rw [w1 rfl, if_pos rfl, eraseAt_size _ this]
      constructor
      · omega
      · intro _; omega
    | false =>
      rw [w2 rfl, if_neg (by simp)]
      constructor
      · omega
      · intro z; cases z
  have hsz : (t.put j).1.place.size = es.size + 1 := by unfold SetTable.put; dsimp only; rw [insertAt_size, hs]
  have fit : ∀ n, n = es.size + 1 → (t.put j).1.fits n = true := by
    rintro n rfl
    unfold SetTable.fits
    rw [hsz]
    have h1 : (t.put j).1.mask = t.mask := rfl
    have : (t.put j).1.fill ≤ (t.put j).1.mask := by rw [h1]; have := hf.1; omega
    simp [this]
  refine ⟨(t.put j).1, (t.put j).2, wd, ?_, g.plain, rfl, hsz, hf.2, hf.1⟩
  unfold layNew
  rw [e]
  dsimp only
  have ff := fit _ (insertAt_size es (t.put j).2 (hashInt i, x))
  unfold SetTable.orStandIn
  rw [ff]; rfl
/- all laid anew -/
structure Lays (m : Nat) (owner : Array (Option Nat)) (k : Nat) : Prop where
  size : owner.size = m + 1
  perm : ((List.range (m + 1)).filterMap fun j => owner.getD j none).Perm (List.range k)
theorem free_go {m : Nat} {owner : Array (Option Nat)} (hz : owner.size = m + 1) : ∀ (r i pb : Nat), i ≤ m → pb < 32 →
    (∃ j, SetTable.layClean.free m owner r i pb = some j ∧ j ≤ m ∧ owner.getD j (some 0) = none) ∨ ∀ j ∈ orb m r i, owner.getD j (some 0) ≠ none
  | 0, i, pb, hi, hp => .inr fun j hj => by simp [orb] at hj
  | r + 1, i, pb, hi, hp => by
    rw [SetTable.layClean.free]
    cases hf : (List.range (SetTable.runEnd m i + 1 - i)).find? fun k => (owner.getD (i + k) (some 0)).isNone with
    | some k =>
      dsimp only
      have h1 := List.find?_some hf
      have h2 := List.mem_range.mp (List.mem_of_find?_eq_some hf)
      refine .inl ⟨_, rfl, ?_, by simpa using h1⟩
      unfold SetTable.runEnd at h2
      split at h2 <;> omega
    | none =>
      dsimp only
      have h0 : owner.getD i (some 0) ≠ none := by
        have := List.find?_eq_none.mp hf 0 (List.mem_range.mpr (by unfold SetTable.runEnd; split <;> omega))
        simpa using this
      have e : SetTable.leap m i pb = ((i * 5 + 1) % (m + 1), 0) := by
        unfold SetTable.leap
        have : pb / 32 = 0 := by omega
        rw [this, Nat.add_zero]
      rw [e]
      dsimp only
      rcases free_go hz r ((i * 5 + 1) % (m + 1)) 0 (Nat.le_of_lt_succ (Nat.mod_lt _ (Nat.succ_pos m))) (by omega) with x | x
      · exact .inl x
      · refine .inr fun j hj => ?_
        rw [orb] at hj
        rcases List.mem_cons.mp hj with rfl | hj
        · exact h0
        · exact x j hj
theorem orb_more {m : Nat} {j : Nat} : ∀ {n n' : Nat} {i : Nat}, n ≤ n' → j ∈ orb m n i → j ∈ orb m n' i
  | 0, _, i, _, h => by simp [orb] at h
  | n + 1, 0, i, hl, h => by omega
  | n + 1, n' + 1, i, hl, h => by
    rw [orb] at h ⊢
    rcases List.mem_cons.mp h with rfl | h
    · exact List.mem_cons_self
    · exact List.mem_cons_of_mem _ (orb_more (by omega) h)
theorem filterMap_same {α β : Type} {f g : α → Option β} : ∀ {l : List α}, (∀ x ∈ l, f x = g x) → l.filterMap f = l.filterMap g
  | [], _ => rfl
  | a :: l, h => by
    rw [List.filterMap_cons, List.filterMap_cons, h a List.mem_cons_self, filterMap_same fun x hx => h x (List.mem_cons_of_mem _ hx)]
theorem filterMap_set {β : Type} (f : Nat → Option β) (n j : Nat) (v : β) (hj : j < n) (h0 : f j = none) :
    ((List.range n).filterMap fun i => if i = j then some v else f i).Perm ((List.range n).filterMap f ++ [v]) := by
  induction n with
  | zero => omega
  | succ n ih =>
    rw [List.range_succ, List.filterMap_append, List.filterMap_append]
    by_cases hn : j = n
    · subst hn
      have e : (List.range j).filterMap (fun i => if i = j then some v else f i) = (List.range j).filterMap f := by
        refine filterMap_same fun i hi => ?_
        rw [if_neg (by have := List.mem_range.mp hi; omega)]
      rw [e]
      simp [h0]
    · have := ih (by omega)
      have e : List.filterMap (fun i => if i = j then some v else f i) [n] = List.filterMap f [n] := filterMap_same fun i hi => by
        rw [List.mem_singleton] at hi; subst hi; exact if_neg (Ne.symm hn)
      rw [e]
      refine (this.append_right _).trans ?_
      rw [List.append_assoc, List.append_assoc]
      exact (List.perm_append_comm).append_left _
theorem lays_step {m : Nat} (hm : m ∈ masks) {owner : Array (Option Nat)} {k : Nat} (L : Lays m owner k) (hk : k ≤ m) {i : Int} (h : 0 ≤ i ∧ i < 32) :
    ∃ j, SetTable.layClean.free m owner (SetTable.turns m) (SetTable.bits (hashInt i) % (m + 1)) (SetTable.bits (hashInt i)) = some j ∧ Lays m (owner.setIfInBounds j (some k)) (k + 1) := by
  obtain ⟨hb, hl⟩ := hash_bits h
  rw [hb]
  rcases free_go L.size (SetTable.turns m) (i.toNat % (m + 1)) i.toNat (Nat.le_of_lt_succ (Nat.mod_lt _ (Nat.succ_pos m))) hl with ⟨j, e, hj, hn⟩ | x
  · refine ⟨j, e, ⟨by rw [Array.size_setIfInBounds]; exact L.size, ?_⟩⟩
    have hjo : j < owner.size := by rw [L.size]; omega
    have e2 : (fun i => (owner.setIfInBounds j (some k)).getD i none) = fun i => if i = j then some k else owner.getD i none := by
      funext i
      rw [Array.getD_eq_getD_getElem?, Array.getD_eq_getD_getElem?, Array.getElem?_setIfInBounds]
      by_cases q : j = i
      · subst q; simp [hjo]
      · simp [q, Ne.symm q]
    rw [e2]
    have h0 : owner.getD j none = none := by
      rw [Array.getD_eq_getD_getElem?] at hn ⊢
      rw [Array.getElem?_eq_getElem hjo] at hn ⊢
      simpa using hn
    have q := (filterMap_set (fun j => owner.getD j none) (m + 1) j k (by omega) h0).trans (L.perm.append_right _)
    rw [← List.range_succ] at q
    exact q
  · exfalso
    have hall : ∀ j, j ≤ m → ∃ v, owner.getD j none = some v := fun j hj => by
      have := x j (orb_more (by unfold SetTable.turns; omega) (orb_all hm hl hj))
      have hjo : j < owner.size := by rw [L.size]; omega
      rw [Array.getD_eq_getD_getElem?, Array.getElem?_eq_getElem hjo] at this ⊢
      cases hq : owner[j] with
      | none => rw [hq] at this; exact absurd rfl this
      | some v => exact ⟨v, rfl⟩
    have hlen : ((List.range (m + 1)).filterMap fun j => owner.getD j none).length = m + 1 := by
      have : ∀ l : List Nat, (∀ j ∈ l, j ≤ m) → (l.filterMap fun j => owner.getD j none).length = l.length := by
        intro l
        induction l with
        | nil => intro _; rfl
        | cons a l ih =>
          intro hl
          obtain ⟨v, hv⟩ := hall a (hl a List.mem_cons_self)
          rw [List.filterMap_cons, hv]
          simp only [List.length_cons]
          rw [ih fun j hj => hl j (List.mem_cons_of_mem _ hj)]
      rw [this _ (fun j hj => by have := List.mem_range.mp hj; omega), List.length_range]
    rw [L.perm.length_eq, List.length_range] at hlen
    omega
theorem lay_clean {m : Nat} (hm : m ∈ masks) : ∀ (hs : List Int) (owner : Array (Option Nat)) (k : Nat), Lays m owner k → k + hs.length ≤ m → (∀ i ∈ hs, 0 ≤ i ∧ i < 32) →
    ∃ owner', (hs.map hashInt).foldl (fun (acc : Option (Array (Option Nat) × Nat)) h => do
      let (owner, k) ← acc
      let j ← SetTable.layClean.free m owner (SetTable.turns m) (SetTable.bits h % (m + 1)) (SetTable.bits h)
      pure (owner.setIfInBounds j (some k), k + 1)) (some (owner, k)) = some (owner', k + hs.length) ∧ Lays m owner' (k + hs.length)
  | [], owner, k, L, _, _ => ⟨owner, rfl, L⟩
  | i :: hs, owner, k, L, hk, hd => by
    rw [List.length_cons] at hk
    obtain ⟨j, e, L'⟩ := lays_step hm L (by omega) (hd i List.mem_cons_self)
    obtain ⟨o', e', L''⟩ := lay_clean hm hs _ _ L' (by omega) fun i hi => hd i (List.mem_cons_of_mem _ hi)
    refine ⟨o', ?_, ?_⟩
    · rw [List.map_cons, List.foldl_cons]
      simp only [Option.bind_eq_bind, Option.bind_some, e, Option.pure_def]
      rw [List.length_cons, show k + (hs.length + 1) = k + 1 + hs.length by omega]
      exact e'
    · rw [List.length_cons, show k + (hs.length + 1) = k + 1 + hs.length by omega]; exact L''
theorem laid_ok {m fi mv : Nat} {led pl : Bool} (hm : m ∈ masks) {hs : Array Int} {is : List Int} (hh : hs.toList = is.map hashInt) (hk : is.length ≤ m) (hd : ∀ i ∈ is, 0 ≤ i ∧ i < 32) :
    ∃ t order, SetTable.laid m fi mv led pl hs = some (t, order) ∧ order.toList.Perm (List.range is.length) ∧ t.place.size = is.length ∧ t.dummies = #[] ∧ t.mask = m ∧ t.plain = pl := by
  have L0 : Lays m (Array.replicate (m + 1) none) 0 := ⟨by simp, by
    have : ((List.range (m + 1)).filterMap fun j => (Array.replicate (m + 1) (none : Option Nat)).getD j none) = [] := by
      rw [List.filterMap_eq_nil_iff]
      intro j _
      rw [Array.getD_eq_getD_getElem?, Array.getElem?_replicate]
      split <;> rfl
    rw [this]; exact List.Perm.refl _⟩
  obtain ⟨owner, e, L⟩ := lay_clean hm is _ 0 L0 (by omega) hd
  rw [Nat.zero_add] at e L
  have hc : SetTable.layClean m hs = some owner := by
    unfold SetTable.layClean
    rw [← Array.foldl_toList, hh]
    have e2 := congrArg (Option.map (·.1)) e
    exact e2
  unfold SetTable.laid
  rw [hc]
  refine ⟨_, _, rfl, ?_, ?_, rfl, rfl, rfl⟩
  · have : ((List.range (m + 1)).filterMap fun j => Option.map (fun x => (j, x)) (owner.getD j none)).map (·.2) = (List.range (m + 1)).filterMap fun j => owner.getD j none := by
      rw [List.map_filterMap]
      refine filterMap_same fun j _ => ?_
      cases owner.getD j none <;> rfl
    show (List.toArray _).toList.Perm _
    rw [this]
    exact L.perm
  · show (List.toArray _).size = _
    rw [List.size_toArray, List.length_map]
    have := congrArg List.length (show ((List.range (m + 1)).filterMap fun j => Option.map (fun x => (j, x)) (owner.getD j none)).map (·.2) = (List.range (m + 1)).filterMap fun j => owner.getD j none by
      rw [List.map_filterMap]
      refine filterMap_same fun j _ => ?_
      cases owner.getD j none <;> rfl)
    rw [List.length_map] at this
    rw [this, L.perm.length_eq, List.length_range]
end Mine
end
section
open PySem PySem.W PyProof.Rows
set_option linter.unusedVariables false
set_option linter.unusedSectionVars false
set_option maxRecDepth 100000
namespace Mine
noncomputable def intE (e : Int × Value) : Int := match e.2 with | .int i _ => i | _ => 0
/-- a set of ints from 0 to 31, whose table has not given way -/
structure SetG (ld : Bool) (es : Array (Int × Value)) (t : SetTable) (xs : List Int) : Prop where
  el : ∀ e ∈ es.toList, ∃ i tk, e = (hashInt i, Value.int i tk)
  pm : (es.toList.map intE).Perm xs
  srt : xs.Pairwise (· < ·)
  dom : ∀ i ∈ xs, 0 ≤ i ∧ i < 32
  tab : Tab ld t
  siz : t.place.size = es.size
  good : Good t
theorem lt_nodup {xs : List Int} (h : xs.Pairwise (· < ·)) : xs.Nodup := h.imp fun h e => by omega
theorem small_len {xs : List Int} (h : xs.Pairwise (· < ·)) (d : ∀ i ∈ xs, 0 ≤ i ∧ i < 32) : xs.length ≤ 32 := by
  have := nodup_sub (l := xs) (l' := (List.range 32).map (fun (n : Nat) => (n : Int))) (lt_nodup h) fun x hx => by
    have := d x hx
    exact List.mem_map.mpr ⟨x.toNat, List.mem_range.mpr (by omega), by omega⟩
  simpa using this
section
variable {ld : Bool} {es : Array (Int × Value)} {t : SetTable} {xs : List Int}
theorem SetG.size (S : SetG ld es t xs) : es.size = xs.length := by
  have := S.pm.length_eq
  simpa using this
theorem SetG.le (S : SetG ld es t xs) : xs.length ≤ 32 := small_len S.srt S.dom
theorem SetG.scan (S : SetG ld es t xs) : es.size < scanBound := by rw [S.size, show scanBound = 4096 from rfl]; have := S.le; omega
theorem SetG.line (S : SetG ld es t xs) : es.size ≤ sizeLine := fits_of_scanBound S.scan
theorem Good.fits (g : Good t) {n : Nat} (h : t.place.size = n) : t.fits n = true := by
  have := g.room
  have h2 : t.fill ≤ t.mask := by omega
  unfold SetTable.fits
  simp [h, h2]
theorem SetG.fits (S : SetG ld es t xs) : t.fits es.size = true := S.good.fits S.siz
theorem SetG.elems {prog : Program} {w : World} (S : SetG ld es t xs) : ElemsOf (PySem.intKind prog w) es.toList := fun e he => by
  obtain ⟨i, tk, rfl⟩ := S.el e he
  exact ⟨⟨i, by simp [PySem.intKind, Value.isInt], rfl⟩, rfl⟩
theorem SetG.mem (S : SetG ld es t xs) {e : Int × Value} (he : e ∈ es.toList) : ∃ i tk, i ∈ xs ∧ e = (hashInt i, .int i tk) := by
  obtain ⟨i, tk, rfl⟩ := S.el e he
  exact ⟨i, tk, S.pm.mem_iff.mp (List.mem_map.mpr ⟨_, he, rfl⟩), rfl⟩
theorem SetG.has (S : SetG ld es t xs) (i : Int) : (∃ e ∈ es.toList, Value.isInt i e.2 = true) ↔ i ∈ xs := by
  constructor
  · rintro ⟨e, he, hi⟩
    obtain ⟨j, tk, hj, rfl⟩ := S.mem he
    obtain ⟨tk', hv⟩ := Value.isInt_shape hi
    cases hv; exact hj
  · intro h
    obtain ⟨e, he, h2⟩ := List.mem_map.mp (S.pm.mem_iff.mpr h)
    obtain ⟨j, tk, rfl⟩ := S.el e he
    have : j = i := h2
    subst this
    exact ⟨_, he, by simp [Value.isInt]⟩
theorem good_fresh (a b : Nat) (ld : Bool) : Good (.fresh a b ld) := ⟨rfl, (by decide : 7 ∈ masks), (by decide : 0 * 5 < 7 * 3)⟩
theorem SetG.empty (a b : Nat) (ld : Bool) : SetG ld #[] (.fresh a b ld) [] := ⟨fun e he => by simp at he, List.Perm.refl _, .nil, fun i hi => by simp at hi, Tab.fresh a b ld, rfl, good_fresh a b ld⟩
theorem SetG.perm {es' : Array (Int × Value)} {t' : SetTable} (S : SetG ld es t xs) (p : es'.toList.Perm es.toList) (T : Tab ld t') (z : t'.place.size = es'.size) (g : Good t') : SetG ld es' t' xs :=
  ⟨fun e he => S.el e (p.mem_iff.mp he), (p.map _).trans S.pm, S.srt, S.dom, T, z, g⟩
end
theorem grown_ok : ∀ n, n < 33 → SetTable.sizeAbove (SetTable.grown n) - 1 ∈ masks ∧ n ≤ SetTable.sizeAbove (SetTable.grown n) - 1 ∧ n * 5 < (SetTable.sizeAbove (SetTable.grown n) - 1) * 3 := by decide +kernel
theorem room_ok : ∀ n, n < 33 → SetTable.sizeAbove (n * 2) - 1 ∈ masks ∧ n ≤ SetTable.sizeAbove (n * 2) - 1 ∧ n * 5 < (SetTable.sizeAbove (n * 2) - 1) * 3 ∧ SetTable.sizeAbove (n * 2) ≤ 128 := by decide +kernel
theorem keys_hash : ∀ {l : List (Int × Value)}, (∀ e ∈ l, ∃ i tk, e = (hashInt i, Value.int i tk)) → l.map (·.1) = (l.map intE).map hashInt
  | [], _ => rfl
  | e :: l, h => by
    obtain ⟨i, tk, rfl⟩ := h e List.mem_cons_self
    rw [List.map_cons, List.map_cons, List.map_cons, keys_hash fun x hx => h x (List.mem_cons_of_mem _ hx)]; rfl
/-- all elements laid anew, in a table of another mask -/
theorem lay_all {ld pl : Bool} {m fi mv : Nat} (hm : m ∈ masks) {es : Array (Int × Value)} (hel : ∀ e ∈ es.toList, ∃ i tk, e = (hashInt i, Value.int i tk)) (hd : ∀ i ∈ es.toList.map intE, 0 ≤ i ∧ i < 32) (hk : es.size ≤ m) (hr : es.size * 5 < m * 3) (hp : pl = true) :
    ∃ t order, SetTable.laid m fi mv ld pl (es.map (·.1)) = some (t, order) ∧ coversAll order es.size = true ∧ (order.filterMap (es[·]?)).toList.Perm es.toList ∧ Tab ld t ∧ t.place.size = (order.filterMap (es[·]?)).size ∧ Good t ∧ t.dummies = #[] ∧ t.mask = m := by
  have hl : (es.toList.map intE).length = es.size := by rw [List.length_map, Array.length_toList]
  obtain ⟨t, order, e, p, z, dm, em, ep⟩ := laid_ok (fi := fi) (mv := mv) (led := ld) (pl := pl) hm (hs := es.map (·.1)) (is := es.toList.map intE) (by rw [Array.toList_map]; exact keys_hash hel) (by rw [hl]; exact hk) hd
  rw [hl] at p z
  have hp2 : (order.filterMap (es[·]?)).toList.Perm es.toList := by
    rw [Array.toList_filterMap]
    exact (p.filterMap _).trans (by rw [filterMap_getElem?_range])
  refine ⟨t, order, e, List.isPerm_iff.mpr p, hp2, Tab.laid e, ?_, ⟨ep.trans hp, em ▸ hm, ?_⟩, dm, em⟩
  · rw [z, ← Array.length_toList, ← Array.length_toList, hp2.length_eq]
  · unfold SetTable.fill; rw [z, dm, em]; simpa using hr
theorem relay_good {ld : Bool} {t : SetTable} (hT : Tab ld t) (hpl : t.plain = true) {es : Array (Int × Value)} (hel : ∀ e ∈ es.toList, ∃ i tk, e = (hashInt i, Value.int i tk)) (hd : ∀ i ∈ es.toList.map intE, 0 ≤ i ∧ i < 32) (hk : es.size ≤ 32) :
    ∃ es' t', relayAll t es (SetTable.grown es.size) = (es', t', false) ∧ es'.toList.Perm es.toList ∧ Tab ld t' ∧ t'.place.size = es'.size ∧ Good t' := by
  obtain ⟨g1, g2, g3⟩ := grown_ok es.size (by omega)
  obtain ⟨t', order, e, c, p, T, z, g, _, _⟩ := lay_all (ld := ld) (pl := t.plain) (fi := t.finger) (mv := t.movedTo (SetTable.sizeAbove (SetTable.grown es.size) - 1)) g1 hel hd g2 g3 hpl
  refine ⟨_, t', ?_, p, T, z, g⟩
  unfold relayAll SetTable.relaid
  rw [hT.led, e]
  dsimp only
  rw [c, g.fits z]; rfl
section
variable {prog : Program} {w : World} {A : Around} {E : Value → Shared → Prop} {s : Shared}
theorem hgw {b : Bool} (hb : b = false) {Q : Unit → Shared → Prop} (h : Q () s) : wpAny (model prog w) A (match b with | true => rule "set.scan.the-table-gave-way" | false => pure ()) Q E s := by subst hb; exact wpAny_pure h
/-- an int is put in -/
theorem setAddG {a : Addr} {o : Obj} {es : Array (Int × Value)} {ep : Nat} {t : SetTable} {ld : Bool} {xs : List Int} {i : Int} {tk : Tok} {Q : Bool → Shared → Prop} (ho : s.heap.get? a = some o) (hd : o.data = .set es ep t) (S : SetG ld es t xs) (hi : 0 ≤ i ∧ i < 32)
    (h : ∀ h' es' ep' t', SetG ld es' t' (insI i xs) → h'.get? a = some { o with data := .set es' ep' t' } → Heap.SameBut a s.heap h' → Q (decide (i ∉ xs)) { s with heap := h' }) :
    wpAny (model prog w) A (setAddHashed a (.int i tk) (hashInt i)) Q E s := by
  have hf := S.fits
  have hkey : (PySem.intKind prog w).is i (.int i tk) = true := by simp [PySem.intKind, Value.isInt]
  have hel : ElemsOf (PySem.intKind prog w) es.toList := S.elems
  unfold setAddHashed setAddHashedIn
  refine wpAny_holding (wpAny_bind (wpAny_setState_of ho hd hf ?_))
  dsimp only
  rw [byScan_of (knd := PySem.intKind prog w) (by rfl) S.scan hel]
  simp only [↓reduceIte]
  unfold setAddByScan
  refine wpAny_bind ?_
  refine wpAny_bind (wpAny_rule ?_)
  refine wpAny_bind (wpAny_setScan_of (knd := PySem.intKind prog w) (k := i) hkey ho hd hf hel ?_)
  cases hr : List.findIdx? (fun e => (PySem.intKind prog w).is i e.2) es.toList with
  | some j =>
    dsimp only
    obtain ⟨hj, hpj, _⟩ := List.findIdx?_eq_some_iff_getElem.mp hr
    have hm : i ∈ xs := (S.has i).mp ⟨es.toList[j], List.getElem_mem hj, hpj⟩
    refine wpAny_pure (wpAny_pure ?_)
    have := h s.heap es ep t (by rw [insI_old S.srt hm]; exact S) (by rw [ho, ← hd]) (Heap.SameBut.refl a s.heap)
    simpa [hm] using this
  | none =>
    dsimp only
    have hm : i ∉ xs := fun hm => by
      obtain ⟨e, he, hp⟩ := (S.has i).mpr hm
      have := List.findIdx?_eq_none_iff.mp hr e he
      have h2 : (PySem.intKind prog w).is i e.2 = true := hp
      rw [h2] at this; cases this
    obtain ⟨t1, p, wd, e, hpl, hmk, hsz, hw1, hw2⟩ := lay_good S.good S.siz hi (.int i tk)
    have hT1 : Tab ld t1 := by have := S.tab.layNew es (hashInt i) (.int i tk); rw [e] at this; exact this
    have hperm : (SetTable.insertAt es p (hashInt i, .int i tk)).toList.Perm (es.toList ++ [(hashInt i, .int i tk)]) := by
      have := SetTable.insertAt_perm es p (hashInt i, .int i tk)
      rwa [Array.toList_push] at this
    have hs1 : (SetTable.insertAt es p (hashInt i, .int i tk)).size = es.size + 1 := insertAt_size ..
    rw [e]
    generalize SetTable.insertAt es p (hashInt i, .int i tk) = es1 at hperm hs1
    have hins : (insI i xs).length ≤ 32 := small_len (insI_sorted S.srt) fun j hj => by
      rcases mem_insI.mp hj with rfl | hj
      · exact hi
      · exact S.dom j hj
    rw [insI_new hm, ← S.size] at hins
    have hz1 : es1.size ≤ sizeLine := by rw [hs1, sizeLine_eq]; omega
    have el1 : ∀ e ∈ es1.toList, ∃ i tk, e = (hashInt i, Value.int i tk) := fun e he => by
      rcases List.mem_append.mp (hperm.mem_iff.mp he) with he | he
      · exact S.el e he
      · exact ⟨i, tk, List.mem_singleton.mp he⟩
    have pins : ∀ {l : List Int}, i ∉ l → (insI i l).Perm (l ++ [i]) := by
      intro l
      induction l with
      | nil => intro _; exact List.Perm.refl _
      | cons b l ih =>
        intro hn
        have hb : i ≠ b := fun q => hn (q ▸ List.mem_cons_self)
        have hl : i ∉ l := fun q => hn (List.mem_cons_of_mem _ q)
        rw [insI]
        split
        · exact List.perm_append_comm (l₁ := [i])
        · first | exact (ih hl).cons b | (split <;> first | exact absurd ‹i = b› hb | exact (ih hl).cons b)
    have pm1 : (es1.toList.map intE).Perm (insI i xs) := ((hperm.map intE).trans (by rw [List.map_append]; exact S.pm.append_right _)).trans (pins hm).symm
    have dom1 : ∀ j ∈ insI i xs, 0 ≤ j ∧ j < 32 := fun j hj => by
      rcases mem_insI.mp hj with rfl | hj
      · exact hi
      · exact S.dom j hj
    have hr0 := S.good.room
    refine wpAny_bind (hgw rfl ?_)
    dsimp only
    rw [if_pos hpl]
    rw [hashByValue_scannable 8 (by rfl)]
    refine wpAny_bind (wpAny_pure ?_)
    simp only [show plainKind (Value.int i tk) = true from rfl, if_true]
    refine wpAny_bind (wpAny_storeSet_of ho hd ?_ hz1)
    have hg : (s.heap.update a (Obj.putSet es1 t1)).get? a = some { o with data := .set es1 (ep + 1) t1 } := by
      have := Heap.get?_update_self (Obj.putSet es1 t1) ho (by rw [putSet_of es1 t1 hd]; rfl)
      rw [putSet_of es1 t1 hd] at this; exact this
    have hsb := Heap.SameBut.update s.heap a (Obj.putSet es1 t1)
    split
    · obtain ⟨es2, t2, e2, p2, T2, z2, g2⟩ := relay_good hT1 hpl el1 (fun j hj => dom1 j (pm1.mem_iff.mp hj)) (by rw [hs1]; exact hins)
      rw [e2]
      have hs2 : es2.size = es1.size := by rw [← Array.length_toList, p2.length_eq, Array.length_toList]
      refine wpAny_bind (hgw rfl ?_)
      refine wpAny_bind (wpAny_storeSet_of (s := { s with heap := s.heap.update a (Obj.putSet es1 t1) }) hg rfl ?_ (by rw [hs2]; exact hz1))
      have hg2 : ((s.heap.update a (Obj.putSet es1 t1)).update a (Obj.putSet es2 t2)).get? a = some { o with data := .set es2 (ep + 1 + 1) t2 } := by
        have := Heap.get?_update_self (Obj.putSet es2 t2) hg (by rw [putSet_of es2 t2 rfl]; rfl)
        rw [putSet_of es2 t2 rfl] at this; exact this
      refine wpAny_pure (wpAny_pure ?_)
      have := h _ es2 _ t2 ⟨fun e he => el1 e (p2.mem_iff.mp he), (p2.map _).trans pm1, insI_sorted S.srt, dom1, T2, z2, g2⟩ hg2 (hsb.trans (Heap.SameBut.update _ a _))
      simpa [hm] using this
    · rename_i hnf
      refine wpAny_pure (wpAny_pure ?_)
      have room1 : t1.fill * 5 < t1.mask * 3 := by
        cases wd with
        | true => rw [hw1 rfl, hmk]; exact hr0
        | false =>
          have : ¬ (t1.fill * 5 ≥ t1.mask * 3) := by simpa [SetTable.tooFull] using hnf
          omega
      have := h _ es1 _ t1 ⟨el1, pm1, insI_sorted S.srt, dom1, hT1, by rw [hsz, hs1], ⟨hpl, hmk ▸ S.good.mask, room1⟩⟩ hg hsb
      simpa [hm] using this
theorem setFindG {a : Addr} {o : Obj} {es : Array (Int × Value)} {ep : Nat} {t : SetTable} {ld : Bool} {xs : List Int} {i : Int} {tk : Tok} {Q : Option Nat → Shared → Prop} (ho : s.heap.get? a = some o) (hd : o.data = .set es ep t) (S : SetG ld es t xs)
    (h : ∀ r : Option Nat, (∀ j, r = some j → ∃ hj : j < es.toList.length, Value.isInt i es.toList[j].2 = true) → r.isSome = decide (i ∈ xs) → Q r s) : wpAny (model prog w) A (setFind a (.int i tk) (hashInt i)) Q E s := by
  have hf := S.fits
  have hkey : (PySem.intKind prog w).is i (.int i tk) = true := by simp [PySem.intKind, Value.isInt]
  have hel : ElemsOf (PySem.intKind prog w) es.toList := S.elems
  unfold setFind setFindIn
  refine wpAny_bind (wpAny_setState_of ho hd hf ?_)
  dsimp only
  rw [byScan_of (knd := PySem.intKind prog w) (by rfl) S.scan hel]
  simp only [↓reduceIte]
  refine wpAny_bind (wpAny_rule ?_)
  refine wpAny_bind (wpAny_setScan_of (knd := PySem.intKind prog w) (k := i) hkey ho hd hf hel ?_)
  cases hr : List.findIdx? (fun e => (PySem.intKind prog w).is i e.2) es.toList with
  | some j =>
    dsimp only
    obtain ⟨hj, hpj, _⟩ := List.findIdx?_eq_some_iff_getElem.mp hr
    have hm : i ∈ xs := (S.has i).mp ⟨es.toList[j], List.getElem_mem hj, hpj⟩
    refine wpAny_pure (h _ (fun j' e => ?_) (by simp [hm]))
    rw [Nat.zero_add] at e
    cases e
    exact ⟨hj, hpj⟩
  | none =>
    dsimp only
    have hm : i ∉ xs := fun hm => by
      obtain ⟨e, he, hp⟩ := (S.has i).mpr hm
      have := List.findIdx?_eq_none_iff.mp hr e he
      have h2 : (PySem.intKind prog w).is i e.2 = true := hp
      rw [h2] at this; cases this
    exact wpAny_pure (h _ (fun j' e => by cases e) (by simp [hm]))
theorem nodup_eraseIdx : ∀ {l : List Int} {j : Nat} (hj : j < l.length), l.Nodup → l.eraseIdx j = l.filter (· != l[j])
  | b :: l, 0, hj, n => by
    rw [List.nodup_cons] at n
    simp only [List.eraseIdx_cons_zero, List.getElem_cons_zero, List.filter_cons, bne_self_eq_false, Bool.false_eq_true, if_false]
    refine (List.filter_eq_self.mpr fun x hx => ?_).symm
    have : x ≠ b := fun e => n.1 (e ▸ hx)
    simpa using this
  | b :: l, j + 1, hj, n => by
    rw [List.nodup_cons] at n
    have hj' : j < l.length := by simpa using hj
    simp only [List.eraseIdx_cons_succ, List.getElem_cons_succ, List.filter_cons]
    have : b ≠ l[j] := fun e => n.1 (e ▸ List.getElem_mem hj')
    rw [nodup_eraseIdx hj' n.2, if_pos (by simpa using this)]
theorem map_erase {α β : Type} (f : α → β) : ∀ (l : List α) (n : Nat), (l.eraseIdx n).map f = (l.map f).eraseIdx n
  | [], _ => rfl
  | _ :: _, 0 => rfl
  | a :: l, n + 1 => congrArg (f a :: ·) (map_erase f l n)
/-- an int is taken out -/
theorem setDiscG {a : Addr} {o : Obj} {es : Array (Int × Value)} {ep : Nat} {t : SetTable} {ld : Bool} {xs : List Int} {i : Int} {tk : Tok} {Q : Bool → Shared → Prop} (ho : s.heap.get? a = some o) (hd : o.data = .set es ep t) (S : SetG ld es t xs)
    (h0 : i ∉ xs → Q false s)
    (h1 : i ∈ xs → ∀ h' es' ep' t', SetG ld es' t' (xs.filter (· != i)) → h'.get? a = some { o with data := .set es' ep' t' } → Heap.SameBut a s.heap h' → Q true { s with heap := h' }) :
    wpAny (model prog w) A (setDiscardHashed a (.int i tk) (hashInt i)) Q E s := by
  unfold setDiscardHashed
  refine wpAny_bind (setFindG ho hd S fun r hr hs => ?_)
  cases r with
  | none =>
    have hm : i ∉ xs := by simpa using hs
    exact wpAny_pure (h0 hm)
  | some j =>
    have hm : i ∈ xs := by simpa using hs
    obtain ⟨hj, hp⟩ := hr j rfl
    have hje : j < es.size := by simpa using hj
    dsimp only
    refine wpAny_bind (wpAny_setState_of ho hd S.fits ?_)
    dsimp only
    have hze : (SetTable.eraseAt es j).size = es.size - 1 := eraseAt_size es hje
    have hz1 : (SetTable.eraseAt es j).size ≤ sizeLine := by have := S.line; rw [hze]; omega
    refine wpAny_bind (wpAny_storeSet_of ho hd ?_ hz1)
    refine wpAny_bind (wpAny_point (wpAny_pure ?_))
    have hg : (s.heap.update a (Obj.putSet (SetTable.eraseAt es j) (t.drop j))).get? a = some { o with data := .set (SetTable.eraseAt es j) (ep + 1) (t.drop j) } := by
      have := Heap.get?_update_self (Obj.putSet (SetTable.eraseAt es j) (t.drop j)) ho (by rw [putSet_of _ _ hd]; rfl)
      rw [putSet_of _ _ hd] at this; exact this
    refine h1 hm _ _ _ _ ?_ hg (Heap.SameBut.update s.heap a _)
    have hjt : j < t.place.size := by rw [S.siz]; exact hje
    have hdrop : t.drop j = { t with place := SetTable.eraseAt t.place j, dummies := SetTable.insertAt t.dummies (SetTable.below t.dummies t.place[j]) t.place[j] } := by
      unfold SetTable.drop
      rw [Array.getElem?_eq_getElem hjt]
    have hpj : (t.drop j).place = SetTable.eraseAt t.place j := by rw [hdrop]
    have sub : (SetTable.eraseAt es j).toList.Sublist es.toList := by rw [eraseAt_list]; exact List.eraseIdx_sublist ..
    refine ⟨fun e he => S.el e (sub.subset he), ?_, S.srt.filter _, fun k hk => S.dom k (List.mem_filter.mp hk).1, ⟨?_, by rw [hdrop]; exact S.tab.led⟩, ?_, ⟨by rw [hdrop]; exact S.good.plain, by rw [hdrop]; exact S.good.mask, ?_⟩⟩
    · rw [eraseAt_list]
      have hl : j < (es.toList.map intE).length := by simpa using hje
      have e1 : (es.toList.eraseIdx j).map intE = (es.toList.map intE).eraseIdx j := map_erase ..
      rw [e1, nodup_eraseIdx hl (S.pm.nodup_iff.mpr (lt_nodup S.srt))]
      have e2 : (es.toList.map intE)[j] = i := by
        rw [List.getElem_map]
        obtain ⟨k, tk', e3⟩ := S.el _ (List.getElem_mem hj)
        rw [e3] at hp ⊢
        obtain ⟨tk'', hv⟩ := Value.isInt_shape hp
        cases hv; rfl
      rw [e2]
      exact S.pm.filter _
    · unfold Rise
      rw [hpj, eraseAt_list]
      exact S.tab.rise.sublist (List.eraseIdx_sublist ..)
    · rw [hpj, eraseAt_size _ hjt, hze, S.siz]
    · have : (t.drop j).fill = t.fill := by
        unfold SetTable.fill
        rw [hdrop]
        dsimp only
        rw [eraseAt_size _ hjt, insertAt_size]
        omega
      rw [this, hdrop]
      exact S.good.room
/-- put in, or taken out if it is there -/
noncomputable def flipI (i : Int) (xs : List Int) : List Int := if i ∈ xs then xs.filter (· != i) else insI i xs
theorem setFlipG {a : Addr} {o : Obj} {es : Array (Int × Value)} {ep : Nat} {t : SetTable} {ld : Bool} {xs : List Int} {i : Int} {tk : Tok} {Q : Unit → Shared → Prop} (ho : s.heap.get? a = some o) (hd : o.data = .set es ep t) (S : SetG ld es t xs) (hi : 0 ≤ i ∧ i < 32)
    (h : ∀ h' es' ep' t', SetG ld es' t' (flipI i xs) → h'.get? a = some { o with data := .set es' ep' t' } → Heap.SameBut a s.heap h' → Q () { s with heap := h' }) :
    wpAny (model prog w) A (holding [.int i tk] do if !(← setDiscardHashed a (.int i tk) (hashInt i)) then let _ ← setAddHashed a (.int i tk) (hashInt i)) Q E s := by
  refine wpAny_holding (wpAny_bind (setDiscG ho hd S (fun hm => ?_) fun hm h' es' ep' t' S' hg hsb => ?_))
  · simp only [Bool.not_false, if_true]
    refine wpAny_bind (setAddG ho hd S hi fun h' es' ep' t' S' hg hsb => wpAny_pure ?_)
    exact h h' es' ep' t' (by unfold flipI; rw [if_neg hm]; exact S') hg hsb
  · simp only [Bool.not_true, Bool.false_eq_true, if_false]
    exact wpAny_pure (h h' es' ep' t' (by unfold flipI; rw [if_pos hm]; exact S') hg hsb)
end
end Mine
end
section
open PySem PySem.W PyProof.Rows
set_option linter.unusedVariables false
set_option linter.unusedSectionVars false
set_option maxRecDepth 100000
namespace Mine
abbrev ldW (w : World) : Bool := !w.params.followText "set-order"
noncomputable def setName (fz : Bool) : String := if fz = true then "frozenset" else "set"
/-- a set's object -/
noncomputable def IsS (h : Heap) (a : Addr) (fz ld : Bool) (xs : List Int) : Prop := ∃ o es ep t, h.get? a = some o ∧ o.cls = .type (setName fz) ∧ o.dict = none ∧ o.data = .set es ep t ∧ SetG ld es t xs
/- plain: rows of ints that rise -/
theorem sorted_ext : ∀ {xs ys : List Int}, xs.Pairwise (· < ·) → ys.Pairwise (· < ·) → (∀ i, i ∈ xs ↔ i ∈ ys) → xs = ys
  | [], [], _, _, _ => rfl
  | [], y :: ys, _, _, h => by have := (h y).mpr List.mem_cons_self; simp at this
  | x :: xs, [], _, _, h => by have := (h x).mp List.mem_cons_self; simp at this
  | x :: xs, y :: ys, hx, hy, h => by
    rw [List.pairwise_cons] at hx hy
    have hxy : x = y := by
      rcases List.mem_cons.mp ((h x).mp List.mem_cons_self) with e | e
      · exact e
      · rcases List.mem_cons.mp ((h y).mpr List.mem_cons_self) with e2 | e2
        · exact e2.symm
        · have := hx.1 _ e2; have := hy.1 _ e; omega
    subst hxy
    congr 1
    refine sorted_ext hx.2 hy.2 fun i => ?_
    constructor
    · intro hi
      rcases List.mem_cons.mp ((h i).mp (List.mem_cons_of_mem _ hi)) with e | e
      · have := hx.1 _ hi; omega
      · exact e
    · intro hi
      rcases List.mem_cons.mp ((h i).mpr (List.mem_cons_of_mem _ hi)) with e | e
      · have := hy.1 _ hi; omega
      · exact e
theorem flip_mem {i j : Int} {xs : List Int} : j ∈ flipI i xs ↔ (j ∈ xs ∧ j ≠ i) ∨ (j = i ∧ i ∉ xs) := by
  unfold flipI
  split
  · rename_i h
    rw [List.mem_filter]
    constructor
    · rintro ⟨a, b⟩; exact .inl ⟨a, by simpa using b⟩
    · rintro (⟨a, b⟩ | ⟨a, b⟩)
      · exact ⟨a, by simpa using b⟩
      · exact absurd h b
  · rename_i h
    rw [mem_insI]
    constructor
    · rintro (a | a)
      · exact .inr ⟨a, h⟩
      · exact .inl ⟨a, fun e => h (e ▸ a)⟩
    · rintro (⟨a, b⟩ | ⟨a, b⟩)
      · exact .inr a
      · exact .inl a
theorem flip_sorted {i : Int} {xs : List Int} (h : xs.Pairwise (· < ·)) : (flipI i xs).Pairwise (· < ·) := by
  unfold flipI
  split
  · exact h.filter _
  · exact insI_sorted h
/-- the things that are in one of two rows alone -/
noncomputable def symI (xs ys : List Int) : List Int := ys.foldl (fun a i => flipI i a) xs
theorem fold_sorted : ∀ {ys xs : List Int}, xs.Pairwise (· < ·) → (symI xs ys).Pairwise (· < ·)
  | [], _, h => h
  | y :: ys, xs, h => fold_sorted (ys := ys) (flip_sorted (i := y) h)
theorem fold_mem {j : Int} : ∀ {ys xs : List Int}, ys.Nodup → (j ∈ symI xs ys ↔ (j ∈ xs ∧ j ∉ ys) ∨ (j ∉ xs ∧ j ∈ ys))
  | [], xs, _ => by simp [symI]
  | y :: ys, xs, n => by
    rw [List.nodup_cons] at n
    have ih := fold_mem (j := j) (ys := ys) (xs := flipI y xs) n.2
    have e : symI xs (y :: ys) = symI (flipI y xs) ys := rfl
    rw [e, ih, flip_mem, List.mem_cons]
    by_cases h1 : j = y
    · subst h1
      simp [n.1]
    · simp [h1]
theorem sym_perm {xs ys zs : List Int} (h : xs.Pairwise (· < ·)) (n : ys.Nodup) (p : zs.Perm ys) : symI xs zs = symI xs ys := by
  refine sorted_ext (fold_sorted h) (fold_sorted h) fun i => ?_
  rw [fold_mem n, fold_mem (p.nodup_iff.mpr n), p.mem_iff]
theorem erase_perm {α : Type} : ∀ {l : List α} {i : Nat} (h : i < l.length), (l[i] :: l.eraseIdx i).Perm l
  | b :: l, 0, h => List.Perm.refl _
  | b :: l, i + 1, h => by
    simp only [List.getElem_cons_succ, List.eraseIdx_cons_succ]
    exact (List.Perm.swap ..).trans ((erase_perm (by simpa using h)).cons b)
theorem pick_go_perm {α : Type} (f : Nat → Nat) : ∀ (n k : Nat) (left : List α) (out : Array α), left.length = n → (pickOrder.go f n k left out).toList.Perm (out.toList ++ left)
  | 0, k, left, out, h => by
    have : left = [] := List.eq_nil_of_length_eq_zero h
    subst this
    rw [pickOrder.go, List.append_nil]
  | n + 1, k, left, out, h => by
    rw [pickOrder.go]
    have hl : f k % left.length < left.length := Nat.mod_lt _ (by omega)
    rw [List.getElem?_eq_getElem hl]
    dsimp only
    refine (pick_go_perm f n (k + 1) _ _ (by rw [List.length_eraseIdx_of_lt hl]; omega)).trans ?_
    rw [Array.toList_push, List.append_assoc]
    exact (erase_perm hl).append_left _
theorem pick_perm {α : Type} (f : Nat → Nat) (xs : Array α) : (pickOrder f xs).toList.Perm xs.toList := by
  unfold pickOrder
  exact pick_go_perm f xs.size 0 xs.toList #[] (by simp)
section
variable {prog : Program} {w : World} {A : Around} {E : Value → Shared → Prop} {s : Shared} {a : Addr} {o : Obj} {es : Array (Int × Value)} {ep : Nat} {t : SetTable} {xs ys : List Int}
/-- in what row a set is gone over -/
theorem walk_ok (ho : s.heap.get? a = some o) (hd : o.data = .set es ep t) (S : SetG (ldW w) es t xs) {Q : Array (Int × Value) → Shared → Prop} (h : ∀ l : Array (Int × Value), l.toList.Perm es.toList → Q l s) :
    wpAny (model prog w) A (setWalk a) Q E s := by
  unfold setWalk
  refine wpAny_bind (wpAny_setState_of ho hd S.fits ?_)
  dsimp only
  refine wpAny_bind (setByText ?_)
  cases hb : w.params.followText "set-order" with
  | true =>
    simp only [if_true]
    exact wpAny_bind (wpAny_askSetting (wpAny_pure (h _ (pick_perm _ _))))
  | false =>
    simp only [Bool.false_eq_true, if_false]
    have hdr : ¬ ((!t.plain && decide (es.size > 1)) = true) := by rw [S.good.plain]; simp
    have hld : ¬ ((!t.led && decide (es.size > 1)) = true) := by rw [S.tab.led]; simp [ldW, hb]
    show wpAny _ _ (if (!t.plain && decide (es.size > 1)) = true then _ else _) _ _ _
    rw [if_neg hdr]
    refine wpAny_bind (m := if (!t.led && decide (es.size > 1)) = true then unsupported _ else pure ()) ?_
    rw [if_neg hld]
    exact wpAny_pure (wpAny_pure (h _ (List.Perm.refl _)))
theorem unseen_ok {others : List Addr} {filled : Option Addr} (ho : s.heap.get? a = some o) (hd : o.data = .set es ep t) (S : SetG (ldW w) es t xs) {Q : Array (Int × Value) → Shared → Prop} (h : ∀ l : Array (Int × Value), l.toList.Perm es.toList → Q l s) :
    wpAny (model prog w) A (setWalkUnseen a others filled) Q E s := by
  unfold setWalkUnseen
  refine wpAny_bind (wpAny_setState_of ho hd S.fits ?_)
  dsimp only
  refine wpAny_bind (setByText ?_)
  have e : (w.params.followText "set-order" || t.led && t.plain || decide (es.size ≤ 1)) = true := by
    rw [S.good.plain, S.tab.led]
    unfold ldW
    cases w.params.followText "set-order" <;> rfl
  rw [if_pos e]
  first | exact walk_ok ho hd S h | exact wpAny_bind (walk_ok ho hd S fun l hl => wpAny_pure (h l hl))
/-- all of a row are put in or taken out -/
theorem flips_ok {id : String} {b : Addr} {ob : Obj} {eb : Array (Int × Value)} {epb : Nat} {tb : SetTable} {ld : Bool} (hab : a ≠ b) (ho : s.heap.get? a = some o) (hd : o.data = .set es ep t) (S : SetG ld es t xs) (hob : s.heap.get? b = some ob) (hdb : ob.data = .set eb epb tb) (hf : tb.fits eb.size = true)
    (l : Array (Int × Value)) (hl : ∀ e ∈ l.toList, ∃ i tk, e = (hashInt i, Value.int i tk) ∧ 0 ≤ i ∧ i < 32) {Q : PUnit → Shared → Prop}
    (h : ∀ h' es' ep' t', SetG ld es' t' (symI xs (l.toList.map intE)) → h'.get? a = some { o with data := .set es' ep' t' } → Heap.SameBut a s.heap h' → Q PUnit.unit { s with heap := h' }) :
    wpAny (model prog w) A (forIn l PUnit.unit fun (hx : Int × Value) (_ : PUnit) => do
      holding [hx.2] do if !(← setDiscardHashed a hx.2 hx.1) then let _ ← setAddHashed a hx.2 hx.1
      Builtin.Frozenset.unchanged id b epb
      pure (ForInStep.yield PUnit.unit)) Q E s := by
  refine wpAny_forIn_array' _ (fun rest _ s' => ∃ h' es' ep' t' cur, s' = { s with heap := h' } ∧ SetG ld es' t' cur ∧ h'.get? a = some { o with data := .set es' ep' t' } ∧ Heap.SameBut a s.heap h' ∧ symI cur (rest.map intE) = symI xs (l.toList.map intE) ∧ ∀ e ∈ rest, e ∈ l.toList) Q ?_ ?_ l PUnit.unit
    ⟨s.heap, es, ep, t, xs, rfl, S, by rw [ho, ← hd], Heap.SameBut.refl a s.heap, rfl, fun e he => he⟩
  · rintro x rest _ s' ⟨h', es', ep', t', cur, rfl, S', hg, hsb, hsy, hin⟩
    obtain ⟨i, tk, rfl, hi⟩ := hl x (hin x List.mem_cons_self)
    dsimp only
    refine wpAny_bind (setFlipG (s := { s with heap := h' }) hg rfl S' hi fun h2 es2 ep2 t2 S2 hg2 hsb2 => ?_)
    have hob2 : h2.get? b = some ob := ((hsb2.2 b (Ne.symm hab)).trans (hsb.2 b (Ne.symm hab))).trans hob
    refine wpAny_bind ?_
    unfold Builtin.Frozenset.unchanged
    refine wpAny_bind (wpAny_setEpoch_of (s := { s with heap := h2 }) hob2 hdb hf ?_)
    simp only [bne_self_eq_false, Bool.false_eq_true, if_false]
    refine wpAny_pure (wpAny_pure ?_)
    exact ⟨h2, es2, ep2, t2, flipI i cur, rfl, S2, hg2, hsb.trans hsb2, hsy, fun e he => hin e (List.mem_cons_of_mem _ he)⟩
  · rintro _ s' ⟨h', es', ep', t', cur, rfl, S', hg, hsb, hsy, _⟩
    have : cur = symI xs (l.toList.map intE) := hsy
    subst this
    exact h h' es' ep' t' S' hg hsb
theorem SetG.shapes {ld : Bool} (S : SetG ld es t xs) {l : List (Int × Value)} (p : l.Perm es.toList) : ∀ e ∈ l, ∃ i tk, e = (hashInt i, Value.int i tk) ∧ 0 ≤ i ∧ i < 32 := fun e he => by
  obtain ⟨i, tk, hi, q⟩ := S.mem (p.mem_iff.mp he)
  exact ⟨i, tk, q, S.dom i hi⟩
theorem sub_fz_set : isSubtype (.type "frozenset") (.type "set") = pure false := by rw [isSubtype_type]; kernel_rfl
theorem sub_fz_fz : isSubtype (.type "frozenset") (.type "frozenset") = pure true := by rw [isSubtype_type]; kernel_rfl
theorem sub_set_fz : isSubtype (.type "set") (.type "frozenset") = pure false := by rw [isSubtype_type]; kernel_rfl
theorem orW {M : Model} {x y : Sem Bool} {Q : Bool → Shared → Prop} (h : wpAny M A x (fun b s' => if b = true then Q true s' else wpAny M A y Q E s') E s) : wpAny M A (x <||> y) Q E s := by
  show wpAny M A (x >>= fun b => match toBool b with | true => pure b | false => y) Q E s
  refine wpAny_bind (wpAny_mono h (fun b s' h' => ?_) fun _ _ e => e)
  cases b with
  | true => exact wpAny_pure (by simpa using h')
  | false => exact (show wpAny M A y Q E s' by simpa using h')
theorem isAny_ok {M : Model} {fz ld : Bool} (hs : IsS s.heap a fz ld xs) {Q : Bool → Shared → Prop} (h : Q true s) : wpAny M A (Builtin.Frozenset.isAnySet (.ref a)) Q E s := by
  obtain ⟨o, es, ep, t, e, c, _⟩ := hs
  have hT : s.TypeIs (.ref a) (setName fz) := ⟨o, e, c⟩
  unfold Builtin.Frozenset.isAnySet
  cases fz with
  | false =>
    refine orW (wpAny_isInstance hT sub_set_self ?_)
    rw [if_pos rfl]; exact h
  | true =>
    refine orW (wpAny_isInstance hT sub_fz_set ?_)
    rw [if_neg (by decide)]
    exact wpAny_isInstance hT sub_fz_fz h
/-- the things of one set alone -/
theorem sdu_ok {id : String} {b : Addr} {fz fz' : Bool} (hab : a ≠ b) (ha : IsS s.heap a fz (ldW w) xs) (hb : IsS s.heap b fz' (ldW w) ys) {Q : Unit → Shared → Prop}
    (h : ∀ h', IsS h' a fz (ldW w) (symI xs ys) → Heap.SameBut a s.heap h' → Q () { s with heap := h' }) :
    wpAny (model prog w) A (Builtin.Frozenset.symmetricDifferenceUpdate id a (.ref b)) Q E s := by
  have hb' := hb
  obtain ⟨o, es, ep, t, ho, hc, hn, hd, S⟩ := ha
  obtain ⟨ob, eb, epb, tb, hob, hcb, hnb, hdb, Sb⟩ := hb
  have hT : s.TypeIs (.ref b) (setName fz') := ⟨ob, hob, hcb⟩
  unfold Builtin.Frozenset.symmetricDifferenceUpdate
  have hne : (Value.ref b == Value.ref a) = false := by
    rw [beq_eq_false_iff_ne]; intro e; cases e; exact hab rfl
  rw [if_neg (by rw [hne]; exact Bool.false_ne_true)]
  refine wpAny_bind (wpAny_typeOf hT ?_)
  have hnd : (Value.type (setName fz') == Value.type "dict") = false := by cases fz' <;> decide
  rw [if_neg (by rw [hnd]; exact Bool.false_ne_true)]
  refine wpAny_bind (isAny_ok hb' ?_)
  simp only [if_true]
  refine wpAny_bind (wpAny_pure ?_)
  unfold Builtin.Frozenset.addrOf
  refine wpAny_bind (wpAny_pure ?_)
  refine wpAny_bind (wpAny_setEpoch_of hob hdb Sb.fits ?_)
  refine wpAny_holding ?_
  refine wpAny_bind (unseen_ok hob hdb Sb fun l hl => ?_)
  have F := flips_ok (prog := prog) (w := w) (A := A) (E := E) (s := s) (id := id) (epb := epb) (Q := Q) hab ho hd S hob hdb Sb.fits l (Sb.shapes hl) fun h' es' ep' t' S' hg hsb => ?_
  · exact wpAny_bind (wpAny_mono F (fun _ s' q => wpAny_pure q) fun _ _ q => q)
  · refine h h' ⟨_, es', ep', t', hg, hc, hn, rfl, ?_⟩ hsb
    have p : (l.toList.map intE).Perm ys := (hl.map _).trans Sb.pm
    rw [sym_perm S.srt (lt_nodup Sb.srt) p] at S'
    exact S'
end
end Mine
end
section
open PySem PySem.W PyProof.Rows
set_option linter.unusedVariables false
set_option linter.unusedSectionVars false
set_option maxRecDepth 100000
namespace Mine
section
variable {prog : Program} {w : World} {A : Around} {E : Value → Shared → Prop} {s : Shared} {a : Addr} {o : Obj} {es : Array (Int × Value)} {ep : Nat} {t : SetTable} {xs ys : List Int}
theorem put_get (ho : s.heap.get? a = some o) (hd : o.data = .set es ep t) (es' : Array (Int × Value)) (t' : SetTable) : (s.heap.update a (Obj.putSet es' t')).get? a = some { o with data := .set es' (ep + 1) t' } := by
  have := Heap.get?_update_self (Obj.putSet es' t') ho (by rw [putSet_of es' t' hd]; rfl)
  rw [putSet_of es' t' hd] at this; exact this
/-- the set is emptied -/
theorem clear_ok (ho : s.heap.get? a = some o) (hd : o.data = .set es ep t) (S : SetG (ldW w) es t xs) {Q : Unit → Shared → Prop}
    (h : ∀ h' ep' t', SetG (ldW w) #[] t' [] → h'.get? a = some { o with data := .set #[] ep' t' } → Heap.SameBut a s.heap h' → Q () { s with heap := h' }) : wpAny (model prog w) A (Builtin.Frozenset.clearAll a) Q E s := by
  unfold Builtin.Frozenset.clearAll setClear
  refine wpAny_bind (wpAny_bind ?_)
  have kn : wpAny (model prog w) A (setDeathsKnown a) (fun b s' => b = true ∧ s' = s) E s := by
    unfold setDeathsKnown
    refine wpAny_bind (wpAny_setState_of ho hd S.fits ?_)
    dsimp only
    refine wpAny_bind (setByText (wpAny_pure ⟨?_, rfl⟩))
    rw [S.good.plain, S.tab.led]
    unfold ldW
    cases w.params.followText "set-order" <;> rfl
  refine wpAny_mono kn (fun b s' hb => ?_) fun _ _ q => q
  obtain ⟨rfl, rfl⟩ := hb
  simp only [if_true]
  unfold setItems
  refine wpAny_bind (wpAny_bind (walk_ok ho hd S fun l hl => wpAny_pure ?_))
  refine wpAny_bind (wpAny_pure ?_)
  refine wpAny_bind (wpAny_setState_of ho hd S.fits ?_)
  dsimp only
  refine wpAny_bind (setByText ?_)
  refine wpAny_bind (wpAny_storeSet_of ho hd ?_ (by rw [sizeLine_eq]; exact Nat.zero_le _))
  refine wpAny_pure ?_
  refine wpAny_letGo ?_
  have l1 : (!w.params.followText "set-order" && (t.led || t.finger == 0)) = ldW w := by
    rw [S.tab.led]
    unfold ldW
    cases w.params.followText "set-order" <;> rfl
  have p1 : (t.plain || t.finger == 0) = true := by rw [S.good.plain]; rfl
  have g1 : Good (t.cleared (!w.params.followText "set-order" && (t.led || t.finger == 0))) := ⟨p1, (by decide : 7 ∈ masks), (by decide : 0 * 5 < 7 * 3)⟩
  exact h _ _ _ ⟨fun e he => by simp at he, List.Perm.refl _, .nil, fun i hi => by simp at hi, ⟨rise_empty, l1⟩, rfl, g1⟩ (put_get ho hd _ _) (Heap.SameBut.update ..)
/-- room for n more in a new set -/
theorem room_wp {fi mv n : Nat} {ld : Bool} (hle : n ≤ 32) (ho : s.heap.get? a = some o) (hd : o.data = .set #[] ep (.fresh fi mv ld)) {Q : Unit → Shared → Prop}
    (h : ∀ (h1 : Heap) (ep1 : Nat) (t1 : SetTable), h1.get? a = some { o with data := .set #[] ep1 t1 } → Heap.SameBut a s.heap h1 → t1.place.size = 0 → t1.dummies = #[] → Tab ld t1 → Good t1 → n ≤ t1.mask → n * 5 < t1.mask * 3 → Q () { s with heap := h1 }) :
    wpAny (model prog w) A (setRoomFor a n) Q E s := by
  have S0 := SetG.empty fi mv ld
  unfold setRoomFor
  refine wpAny_bind (wpAny_setState_of ho hd S0.fits ?_)
  dsimp only
  have e0 : (SetTable.fresh fi mv ld).roomFor n = if (0 + n) * 5 ≥ 7 * 3 then some ((0 + n) * 2) else none := rfl
  rw [e0, Nat.zero_add]
  by_cases hn : n * 5 ≥ 7 * 3
  · rw [if_pos hn]
    dsimp only
    obtain ⟨r1, r2, r3, r4⟩ := room_ok n (by omega)
    unfold setRelay
    refine wpAny_bind (wpAny_setState_of ho hd S0.fits ?_)
    dsimp only
    have hsz : ¬ SetTable.sizeAbove (n * 2) > sizeLine := by rw [sizeLine_eq]; omega
    rw [if_neg hsz]
    try refine wpAny_bind (wpAny_pure ?_)
    obtain ⟨t2, order, e, c, p, T, z, g, dm, mk⟩ := lay_all (ld := ld) (pl := true) (fi := fi) (mv := (SetTable.fresh fi mv ld).movedTo (SetTable.sizeAbove (n * 2) - 1)) r1 (es := #[]) S0.el (fun i hi => by simp at hi) (Nat.zero_le _) (show (#[] : Array (Int × Value)).size * 5 < _ by
      rw [show (#[] : Array (Int × Value)).size = 0 from rfl]; omega) rfl
    have er : (SetTable.fresh fi mv ld).relaid ((#[] : Array (Int × Value)).map (·.1)) (n * 2) = some (t2, order) := e
    rw [er]
    have hs0 : (order.filterMap ((#[] : Array (Int × Value))[·]?)).size = 0 := by
      have := p.length_eq
      simpa using this
    show wpAny _ _ ((if ((order.filterMap ((#[] : Array (Int × Value))[·]?)).size != (#[] : Array (Int × Value)).size) = true then (unsupported "internal:set-table-lost-an-element" >>= fun _ => pure (order.filterMap ((#[] : Array (Int × Value))[·]?), t2)) else pure (order.filterMap ((#[] : Array (Int × Value))[·]?), t2)) >>= _) _ _ _
    have hes : order.filterMap ((#[] : Array (Int × Value))[·]?) = #[] := Array.eq_empty_of_size_eq_zero hs0
    rw [hes] at z ⊢
    rw [if_neg (by simp)]
    refine wpAny_bind (wpAny_pure ?_)
    dsimp only
    refine wpAny_storeSet_of ho hd (h _ _ t2 (put_get ho hd _ _) (Heap.SameBut.update ..) z dm T g (mk ▸ r2) (mk ▸ r3)) (by rw [sizeLine_eq]; exact Nat.zero_le _)
  · rw [if_neg hn]
    exact wpAny_pure (h s.heap ep _ (by rw [ho, ← hd]) (Heap.SameBut.refl a s.heap) rfl rfl S0.tab S0.good (by show n ≤ 7; omega) (by show n * 5 < 7 * 3; omega))
/-- another set's things into a new set -/
theorem merge_ok {id : String} {b : Addr} {fz fz' : Bool} {fi mv : Nat} (hab : a ≠ b) (ho : s.heap.get? a = some o) (hc : o.cls = .type (setName fz)) (hn : o.dict = none) (hd : o.data = .set #[] ep (.fresh fi mv (ldW w))) (hb : IsS s.heap b fz' (ldW w) ys) {Q : Unit → Shared → Prop}
    (h : ∀ h', IsS h' a fz (ldW w) ys → Heap.SameBut a s.heap h' → Q () { s with heap := h' }) : wpAny (model prog w) A (Builtin.Frozenset.merge id a b) Q E s := by
  obtain ⟨ob, eb, epb, tb, hob, hcb, hnb, hdb, Sb⟩ := hb
  have S0 := SetG.empty fi mv (ldW w)
  unfold Builtin.Frozenset.merge
  refine wpAny_bind (wpAny_setEpoch_of hob hdb Sb.fits ?_)
  unfold setMerge
  have hne : (a == b) = false := by simpa using hab
  rw [if_neg (by rw [hne]; exact Bool.false_ne_true)]
  refine wpAny_bind (wpAny_setState_of hob hdb Sb.fits ?_)
  dsimp only
  by_cases he : eb.isEmpty = true
  · rw [if_pos he]
    have hy : ys = [] := by
      have : eb.size = 0 := by simpa using he
      rw [Sb.size] at this
      exact List.eq_nil_of_length_eq_zero this
    subst hy
    exact wpAny_pure (h s.heap ⟨o, #[], ep, _, ho, hc, hn, hd, S0⟩ (Heap.SameBut.refl a s.heap))
  rw [if_neg he]
  have hle : eb.size ≤ 32 := by rw [Sb.size]; exact Sb.le
  have hdom : ∀ i ∈ eb.toList.map intE, 0 ≤ i ∧ i < 32 := fun i hi => Sb.dom i (Sb.pm.mem_iff.mp hi)
  refine wpAny_bind (room_wp hle ho hd fun h1 ep1 t1 hg hsb z1 d1 T1 g1 k1 r1 => ?_)
  refine wpAny_bind (wpAny_setState_of (s := { s with heap := h1 }) hg rfl (g1.fits (by rw [z1]; rfl)) ?_)
  dsimp only
  have fin : ∀ es' t', SetG (ldW w) es' t' ys → Q () { s with heap := h1.update a (Obj.putSet es' t') } := fun es' t' S' =>
    h _ ⟨_, es', _, t', put_get (s := { s with heap := h1 }) hg rfl es' t', hc, hn, rfl, S'⟩ (hsb.trans (Heap.SameBut.update ..))
  have hfill : t1.fill = 0 := by unfold SetTable.fill; rw [z1, d1]; rfl
  have hld : (t1.led && tb.led) = ldW w := by rw [T1.led, Sb.tab.led]; exact Bool.and_self _
  have hpl : (t1.plain && tb.plain) = true := by rw [g1.plain, Sb.good.plain]; rfl
  have hroad : t1.road tb = .slotForSlot ∨ t1.road tb = .clean := by
    unfold SetTable.road
    rw [hfill]
    simp only [bne_self_eq_false, Bool.false_eq_true, if_false]
    split
    · exact .inl rfl
    · exact .inr rfl
  rcases hroad with hr | hr
  · rw [hr]
    dsimp only
    refine wpAny_storeSet_of (s := { s with heap := h1 }) hg rfl (fin _ _ ?_) Sb.line
    exact Sb.perm (List.Perm.refl _) ⟨Sb.tab.rise, hld⟩ Sb.siz ⟨hpl, Sb.good.mask, Sb.good.room⟩
  · rw [hr]
    dsimp only
    obtain ⟨t2, order, e, c, p, T, z, g, _, _⟩ := lay_all (ld := t1.led && tb.led) (pl := t1.plain && tb.plain) (fi := t1.finger) (mv := t1.moves) g1.mask Sb.el hdom k1 r1 hpl
    rw [e]
    have hsz : (order.filterMap (eb[·]?)).size = eb.size := by rw [← Array.length_toList, p.length_eq, Array.length_toList]
    show wpAny _ _ ((if ((order.filterMap (eb[·]?)).size != eb.size) = true then (unsupported "internal:set-table-lost-an-element" >>= fun _ => pure (order.filterMap (eb[·]?), t2)) else pure (order.filterMap (eb[·]?), t2)) >>= _) _ _ _
    rw [if_neg (by rw [hsz]; simp)]
    refine wpAny_bind (wpAny_pure ?_)
    dsimp only
    refine wpAny_storeSet_of (s := { s with heap := h1 }) hg rfl (fin _ _ (Sb.perm p (hld ▸ T) z g)) (by rw [hsz]; exact Sb.line)
end
end Mine
end
section
open PySem PySem.W PyProof.Rows
set_option linter.unusedVariables false
set_option linter.unusedSectionVars false
set_option maxRecDepth 100000
namespace Mine
noncomputable def setObj (T : String) (ld : Bool) : Obj := { cls := .type T, dict := none, data := .set #[] 0 (.fresh 0 0 ld) }
section
variable {prog : Program} {w : World} {A : Around} {E : Value → Shared → Prop} {s : Shared} {a : Addr} {xs ys : List Int}
theorem newSet_T {T : String} {Q : Value → Shared → Prop} (h : Q (.ref s.heap.objs.size) { s with heap := s.heap.push (setObj T (ldW w)) }) : wpAny (model prog w) A (newSet (.type T)) Q E s := by
  unfold newSet
  refine wpAny_bind (setByText ?_)
  exact wpAny_bind (wpAny_alloc (wpAny_pure h))
theorem setObj_at (h : Heap) (fz ld : Bool) : IsS (h.push (setObj (setName fz) ld)) h.objs.size fz ld [] := ⟨_, _, _, _, Heap.get?_push_size _ rfl, rfl, rfl, rfl, SetG.empty 0 0 ld⟩
theorem IsS.old {h h' : Heap} {b : Addr} {fz ld : Bool} (x : IsS h b fz ld ys) (k : ∀ o, h.get? b = some o → h'.get? b = some o) : IsS h' b fz ld ys := let ⟨o, es, ep, t, e, r⟩ := x; ⟨o, es, ep, t, k o e, r⟩
theorem IsS.lt {h : Heap} {b : Addr} {fz ld : Bool} (x : IsS h b fz ld ys) : b < h.objs.size := let ⟨_, _, _, _, e, _⟩ := x; Heap.lt_size e
/-- all things of a set into a new one -/
theorem up_set {id : String} {T : Bool} {b : Addr} {fz' : Bool} (hb : IsS s.heap b fz' (ldW w) ys) {Q : Unit → Shared → Prop}
    (h : ∀ h', IsS h' s.heap.objs.size T (ldW w) ys → (∀ b o, s.heap.get? b = some o → h'.get? b = some o) → Q () { s with heap := h' }) :
    wpAny (model prog w) A (Builtin.Frozenset.updateFrom id s.heap.objs.size (.ref b)) Q E { s with heap := s.heap.push (setObj (setName T) (ldW w)) } := by
  have hb1 : IsS (s.heap.push (setObj (setName T) (ldW w))) b fz' (ldW w) ys := hb.old fun o e => Heap.get?_push_of_some _ e
  have hlt := hb.lt
  unfold Builtin.Frozenset.updateFrom
  refine wpAny_bind (isAny_ok (s := { s with heap := s.heap.push (setObj (setName T) (ldW w)) }) hb1 ?_)
  simp only [if_true]
  unfold Builtin.Frozenset.addrOf
  refine wpAny_bind (wpAny_pure ?_)
  refine merge_ok (s := { s with heap := s.heap.push (setObj (setName T) (ldW w)) }) (fz := T) (Nat.ne_of_gt hlt) (Heap.get?_push_size _ rfl) rfl rfl rfl hb1 fun h' h1 h2 => ?_
  refine h h' h1 fun b' o e => (h2.2 b' (fun q => ?_)).trans (Heap.get?_push_of_some _ e)
  have := Heap.lt_size e
  exact Nat.lt_irrefl _ (q ▸ this)
/- a list -/
theorem upd_loop {R : Result → Shared → Prop} {I : Addr} {fp wr : List Addr} {G : Array GenState → Array GenState → Prop} {n : Nat} {P : Nat → Value → Prop} {St : Nat → Shared → Prop} {fz : Bool}
    (W : WalksS prog w A.in1 I fp wr G n P St) (S : Addr) (hSf : S ∉ fp) (val : Nat → Int) (hval : ∀ i v, P i v → ∃ t, v = .int (val i) t) (hd : ∀ i, i < n → 0 ≤ val i ∧ val i < 32) :
    ∀ (k i : Nat) (s : Shared) (cur : List Int), n - i = k → i ≤ n → St i s → IsS s.heap S fz (ldW w) cur →
      (∀ s', Moved (S :: wr) G s s' → IsS s'.heap S fz (ldW w) (((List.range' i (n - i)).map val).foldl (fun a x => insI x a) cur) → R (.ok (.ret .none)) s') →
      codeAny (model prog w) A (.builtin "set.update.loop" ⟨[.ref S, .ref I], []⟩) R s := by
  have hSw : S ∉ wr := fun h => hSf (W.sub _ h)
  have hsub : ∀ b ∈ wr, b ∈ S :: wr := fun b hb => List.mem_cons_of_mem _ hb
  intro k
  induction k with
  | zero =>
    intro i s cur hk hi hst hS hR
    have hin : i = n := by omega
    subst hin
    refine codeAny_builtin F.entry_set_update_loop ?_
    rw [Around.under_plainId F.plain_set_update_loop _]
    show wpAny _ A.in1 (pyNext (.ref I) >>= _) _ _ s
    refine wpAny_bind (W.done s _ _ hst fun s' hm => ?_)
    show wpAny _ A.in1 (ret Value.none) _ _ s'
    refine wpAny_pure (hR s' (hm.mono hsub) ?_)
    rw [Nat.sub_self]
    exact hS.old fun o e => hm.heap S o hSw e
  | succ k ih =>
    intro i s cur hk hi hst hS hR
    have hlt : i < n := by omega
    refine codeAny_builtin F.entry_set_update_loop ?_
    rw [Around.under_plainId F.plain_set_update_loop _]
    show wpAny _ A.in1 (pyNext (.ref I) >>= _) _ _ s
    refine wpAny_bind (W.item i s _ _ hlt hst fun v s' hP hst' hm => ?_)
    obtain ⟨t, rfl⟩ := hval i v hP
    have hS' : IsS s'.heap S fz (ldW w) cur := hS.old fun o e => hm.heap S o hSw e
    show wpAny _ A.in1 (holding [Value.int (val i) t] (setAdd S (.int (val i) t)) >>= _) _ _ s'
    refine wpAny_bind (wpAny_holding ?_)
    unfold setAdd
    refine wpAny_holding ?_
    refine wpAny_bind ((intKind prog w).pyHash (k := val i) (intKind_is _ _ _ _) ?_)
    obtain ⟨o, es, ep, tb, ho, hc, hn, hdt, SG⟩ := hS'
    refine setAddG (s := { s' with toks := s'.toks + 1 }) ho hdt SG (hd i hlt) fun h' es' ep' t' SG' hg hsb => ?_
    refine wpAny_pure ⟨plainId_quiet F.plain_set_update_loop _, ih (i + 1) _ (insI (val i) cur) (by omega) hlt (W.frame _ s' _ _ hst' (Nat.le_succ _) fun b hb o e => ?_) ⟨_, es', ep', t', hg, hc, hn, rfl, SG'⟩ fun s'' hm'' hS'' => ?_⟩
    · rw [hsb.2 b (fun h : b = S => hSf (by rw [← h]; exact hb))]; exact e
    · refine hR s'' (Moved.trans W.gtrans ((hm.mono hsub).then_heap (Nat.le_succ _) fun b o hb e => ?_) hm'') ?_
      · rw [hsb.2 b (fun h : b = S => hb (by rw [h]; exact List.mem_cons_self))]; exact e
      · have e : n - i = (n - (i + 1)) + 1 := by omega
        rw [e, List.range'_succ, List.map_cons, List.foldl_cons]
        exact hS''
theorem ints_at_map : ∀ {vs : List Value} {ns : List Int}, IntsAre vs ns → (List.range' 0 vs.length).map (fun i => ns.getD i 0) = ns
  | vs, ns, h => by
    have hl := IntsAre.length h
    refine List.ext_getElem (by simp [hl]) fun i h1 h2 => ?_
    simp [List.getD_eq_getElem?_getD, List.getElem?_eq_getElem h2]
/-- all ints of a list into a new set -/
theorem up_list {id : String} {T : Bool} {l : Addr} {vs : List Value} {ns : List Int} (hh : A.handled = none) (hl : s.heap.IsList l (List.toArray vs)) (hi : IntsAre vs ns) (hd : ∀ i ∈ ns, 0 ≤ i ∧ i < 32) {Q : Unit → Shared → Prop}
    (h : ∀ h' tk, IsS h' s.heap.objs.size T (ldW w) (distI ns) → (∀ b o, s.heap.get? b = some o → h'.get? b = some o) → Q () { s with heap := h', toks := tk }) :
    wpAny (model prog w) A (Builtin.Frozenset.updateFrom id s.heap.objs.size (.ref l)) Q E { s with heap := s.heap.push (setObj (setName T) (ldW w)) } := by
  have hvn : vs.length = ns.length := IntsAre.length hi
  obtain ⟨ol, hol, hcl, nl, hdl⟩ := hl
  have hl1 : (s.heap.push (setObj (setName T) (ldW w))).IsList l (List.toArray vs) := ⟨ol, Heap.get?_push_of_some _ hol, hcl, nl, hdl⟩
  have hT : Shared.TypeIs { s with heap := s.heap.push (setObj (setName T) (ldW w)) } (.ref l) "list" := ⟨ol, Heap.get?_push_of_some _ hol, hcl⟩
  have hlS : l < s.heap.objs.size := Heap.lt_size hol
  unfold Builtin.Frozenset.updateFrom Builtin.Frozenset.isAnySet
  refine wpAny_bind (orW (wpAny_isInstance hT F.sub_list_set ?_))
  rw [if_neg (by decide)]
  refine wpAny_isInstance hT F.sub_list_frozenset ?_
  simp only [Bool.false_eq_true, if_false]
  refine wpAny_bind (wpAny_typeOf hT ?_)
  have hnd : (Value.type "list" == Value.type "dict") = false := by decide
  rw [if_neg (by rw [hnd]; exact Bool.false_ne_true)]
  refine wpAny_bind (wpAny_pyIter_list hl1 ?_)
  refine wpAny_bind (wpAny_runValue ?_)
  have hh3 : A.in1.handled = none := by simp [hh]
  have hneI : l ≠ (s.heap.push (setObj (setName T) (ldW w))).objs.size := by
    rw [Heap.size_push]; exact Nat.ne_of_lt (Nat.lt_succ_of_lt hlS)
  have hSf : s.heap.objs.size ∉ [(s.heap.push (setObj (setName T) (ldW w))).objs.size, l] := by
    rw [Heap.size_push]; simp only [List.mem_cons, List.mem_singleton, List.not_mem_nil, or_false, not_or]
    exact ⟨Nat.ne_of_lt (Nat.lt_succ_self _), Nat.ne_of_gt hlS⟩
  have hval : ∀ (i : Nat) (v : Value), (List.toArray vs)[i]? = some v → ∃ t, v = .int ((fun i => ns.getD i 0) i) t := fun i v hv =>
    IntsAre.int_at hi i v (by simpa using hv)
  have hdm : ∀ i, i < (List.toArray vs).size → 0 ≤ (fun i => ns.getD i 0) i ∧ (fun i => ns.getD i 0) i < 32 := fun i h => by
    have hin : i < ns.length := by rw [← hvn]; simpa using h
    have : ns.getD i 0 = ns[i] := by rw [List.getD_eq_getElem?_getD, List.getElem?_eq_getElem hin]; rfl
    show 0 ≤ ns.getD i 0 ∧ ns.getD i 0 < 32
    rw [this]
    exact hd _ (List.getElem_mem hin)
  have U := upd_loop (A := A) (R := wants (fun _ s' => ∃ h' tk, s' = { s with heap := h', toks := tk } ∧ Q () s') E) (fz := T) ((Walks.list (prog := prog) (w := w) hh3 (s.heap.push (setObj (setName T) (ldW w))).objs.size l hneI (List.toArray vs)).toS) s.heap.objs.size hSf (fun i => ns.getD i 0) hval hdm ((List.toArray vs).size - 0) 0
    { s with heap := (s.heap.push (setObj (setName T) (ldW w))).push { cls := .type "list_iterator", data := .fields #[.ref l, .int 0 0] } } [] rfl (Nat.zero_le _) ⟨⟨_, Heap.get?_push_size _ rfl, rfl, rfl⟩, (hl1.push _)⟩ ((setObj_at s.heap T (ldW w)).old fun o e => Heap.get?_push_of_some _ e) ?_
  · refine codeAny_mono U fun r s' hr => ?_
    cases r with
    | error e => exact hr
    | ok f =>
      cases f with
      | ret v => obtain ⟨h', tk, rfl, q⟩ := hr; exact wpAny_pure q
      | _ => exact hr
  · intro s' hm hS'
    obtain ⟨h', g', d', tk', os'⟩ := s'
    have eg : g' = s.gens := hm.gens
    have ed : d' = s.drawn := hm.drawn
    have eo : os' = s.os := hm.os
    subst eg; subst ed; subst eo
    refine ⟨h', tk', rfl, ?_⟩
    refine h h' tk' ?_ fun b o e => ?_
    · have e2 := ints_at_map hi
      have e3 : (List.toArray vs).size - 0 = vs.length := by simp
      rw [e3, e2] at hS'
      exact hS'
    · have hb := Heap.lt_size e
      refine hm.heap b o ?_ (Heap.get?_push_of_some _ (Heap.get?_push_of_some _ e))
      simp only [List.mem_cons, List.mem_singleton, List.not_mem_nil, or_false, not_or]
      exact ⟨Nat.ne_of_lt hb, by rw [Heap.size_push]; exact Nat.ne_of_lt (Nat.lt_succ_of_lt hb)⟩
end
end Mine
end
section
open PySem PySem.W PyProof.Rows
set_option linter.unusedVariables false
set_option linter.unusedSectionVars false
set_option maxRecDepth 100000
namespace Mine
theorem mro_fz : mroOf (.type "frozenset") = pure [.type "frozenset", .type "object"] := by rw [mroOf_type]; kernel_rfl
theorem lookup_fz_new : typeLookup (.type "frozenset") "__new__" = pure (some (.builtin "frozenset.__new__")) := by rw [typeLookup_type, builtinLookup_eq_fast]; kernel_rfl
theorem slot_fz_init : Slot "frozenset" "__init__" "object.__init__" :=
  .of (owner := "object") (n := "__init__") (by rw [typeLookup_type, builtinLookup_eq_fast]; kernel_rfl) (by decide +kernel) (by decide +kernel) (by decide +kernel)
    (by first | exact .inl (by decide +kernel) | exact .inr (by decide +kernel)) (by rw [isSubtype_type]; kernel_rfl)
theorem called_fz : TypeCalled "frozenset" "frozenset.__new__" "object.__init__" :=
  ⟨by decide +kernel, by decide +kernel, ⟨_, _, mro_fz⟩, madeBy_type mro_fz lookup_fz_new (by decide +kernel), by decide +kernel, by rw [isSubtype_type]; kernel_rfl, slot_fz_init⟩
theorem typeCall_fz (a : Value) : checkTypeCall "frozenset" ⟨[a], []⟩ = pure () := by kernel_rfl
theorem newCall_fz (a : Value) : checkBuiltinCall "frozenset.__new__" ⟨[.type "frozenset", a], []⟩ = pure () := by kernel_rfl
theorem entry_fz_new : entryFor table "frozenset.__new__" = some Builtin.«frozenset.__new__» := entryFor_of_tree (by kernel_rfl)
theorem plain_fz_new : plainId "frozenset.__new__" = true := by decide +kernel
section
variable {prog : Program} {w : World} {A : Around} {E : Value → Shared → Prop} {s : Shared} {a : Addr} {xs ys : List Int}
theorem code_set_newL {as : List Value} (hcn : checkBuiltinCall "set.__new__" ⟨.type "set" :: as, []⟩ = pure ()) {Q₁ : Value → Shared → Prop}
    (h : Q₁ (.ref s.heap.objs.size) { s with heap := s.heap.push (setObj "set" (ldW w)) }) :
    codeAny (model prog w) A (.call (.builtin "set.__new__") ⟨.type "set" :: as, []⟩) (wants Q₁ E) s := by
  refine codeAny_of_tree ?_
  show wpAny _ A.in1 (do checkBuiltinCall "set.__new__" ⟨.type "set" :: as, []⟩; again (.builtin "set.__new__" ⟨.type "set" :: as, []⟩)) _ _ s
  refine wpAny_bind (wpAny_of_eq hcn (wpAny_pure ⟨plainId_quiet F.plain_set_new _, codeAny_builtin F.entry_set_new ?_⟩))
  rw [Around.under_plainId F.plain_set_new _]
  unfold Builtin.«set.__new__» Builtin.Frozenset.newClass
  have hsub := sub_set_self
  generalize hN : newSet = N
  obtain ⟨hp, g, d, tk, os⟩ := s
  dsimp only
  wp_walk
  subst hN
  refine newSet_T ?_
  first | exact wpAny_pure h | exact wpAny_pure (wpAny_pure h)
theorem called_setL {as : List Value} {R : Heap → Prop} {Q : Value → Shared → Prop} (hct : checkTypeCall "set" ⟨as, []⟩ = pure ()) (hcn : checkBuiltinCall "set.__new__" ⟨.type "set" :: as, []⟩ = pure ())
    (hci : ∀ (M : Model) (A : Around) (E : Value → Shared → Prop) (s : Shared) (self : Value) (Q : Unit → Shared → Prop), s.TypeIs self "set" → Q () s → wpAny M A (checkBuiltinCall "set.__init__" ⟨self :: as, []⟩) Q E s)
    (hin : ∀ A' : Around, A'.handled = A.handled → wpAny (model prog w) A' (Builtin.«set.__init__» ⟨.ref s.heap.objs.size :: as, []⟩) (fun fin s' => fin = .done (.ret .none) ∧ ∃ h' tk, s' = { s with heap := h', toks := tk } ∧ R h') E { s with heap := s.heap.push (setObj "set" (ldW w)) })
    (h : ∀ h' tk, R h' → Q (.ref s.heap.objs.size) { s with heap := h', toks := tk }) : wpAny (model prog w) A (call (.type "set") as) Q E s := by
  obtain ⟨c, tl, hmro⟩ := F.called_set.mro
  have hmade := F.called_set.made
  have hsub := F.called_set.sub
  refine wpAny_call (codeAny_of_tree ?_)
  show wpAny _ _ (callAny (.type "set") _) _ _ _
  refine wpAny_pure ⟨Code.quiet_builtin _ (by decide +kernel), codeAny_builtin F.entry_type_call ?_⟩
  rw [Around.under_plain (weight_type_call_type "set" as []) rfl]
  have h1 := F.called_set.notType
  have h2 := F.called_set.canCreate
  repeat (any_goals (first | assumption | wp_step))
  refine codeAny_mono (code_set_newL hcn (E := E) (Q₁ := fun obj s₁ => obj = .ref s.heap.objs.size ∧ s₁ = { s with heap := s.heap.push (setObj "set" (ldW w)) }) ⟨rfl, rfl⟩) fun r s₁ hr => ?_
  cases r with
  | error e => exact hr
  | ok fl =>
    cases fl with
    | ret obj =>
      obtain ⟨rfl, rfl⟩ := hr
      have hS : (s.heap.push (setObj "set" (ldW w))).get? s.heap.objs.size = some (setObj "set" (ldW w)) := Heap.get?_push_size _ rfl
      have hT : Shared.TypeIs { s with heap := s.heap.push (setObj "set" (ldW w)) } (.ref s.heap.objs.size) "set" := ⟨_, hS, rfl⟩
      have hli := F.called_set.init.lookup
      have hbi := F.called_set.init.bind (.ref s.heap.objs.size)
      repeat (any_goals (first | assumption | wp_step))
      refine codeAny_mono (codeAny_call_builtin (R := wants (fun r s₂ => r = .none ∧ ∃ h' tk, s₂ = { s with heap := h', toks := tk } ∧ R h') E) F.called_set.init.plain F.entry_set_init (hci _ _ _ _ _ _ hT ?_)) fun r₂ s₂ hr₂ => ?_
      · refine wpAny_mono (hin _ (by simp)) (fun fin s' hf => ?_) fun _ _ q => q
        obtain ⟨rfl, h', tk, rfl, hr⟩ := hf
        exact ⟨rfl, h', tk, rfl, hr⟩
      · cases r₂ with
        | error e => exact hr₂
        | ok fl₂ =>
          cases fl₂ with
          | ret r =>
            obtain ⟨rfl, h', tk, rfl, hr⟩ := hr₂
            have hq : Q (.ref s.heap.objs.size) { s with heap := h', toks := tk } := h _ _ hr
            clear hin hci h hr
            repeat (any_goals (first | assumption | wp_step))
          | _ => exact hr₂.elim
    | _ => exact hr.elim
end
end Mine
end
section
open PySem PySem.W PyProof.Rows
set_option linter.unusedVariables false
set_option linter.unusedSectionVars false
set_option maxRecDepth 100000
namespace Mine
section
variable {prog : Program} {w : World} {A : Around} {E : Value → Shared → Prop} {s : Shared} {a : Addr} {xs ys : List Int}
/-- set() -/
theorem set_nil {Q : Value → Shared → Prop} (h : ∀ h' tk, IsS h' s.heap.objs.size false (ldW w) [] → (∀ b o, s.heap.get? b = some o → h'.get? b = some o) → Q (.ref s.heap.objs.size) { s with heap := h', toks := tk }) :
    wpAny (model prog w) A (call (.type "set") []) Q E s := by
  refine called_setL (R := fun h' => IsS h' s.heap.objs.size false (ldW w) [] ∧ ∀ b o, s.heap.get? b = some o → h'.get? b = some o) F.typeCall_set_0 F.newCall_set_0 (fun M A E s self Q hT hQ => check_set_init hT hQ) (fun A' hA => ?_) fun h' tk ⟨a, b⟩ => h h' tk a b
  have S0 := SetG.empty 0 0 (ldW w)
  have hget : (s.heap.push (setObj "set" (ldW w))).get? s.heap.objs.size = some (setObj "set" (ldW w)) := Heap.get?_push_size _ rfl
  have hT : Shared.TypeIs { s with heap := s.heap.push (setObj "set" (ldW w)) } (.ref s.heap.objs.size) "set" := ⟨_, hget, rfl⟩
  unfold Builtin.«set.__init__» noKeywords
  generalize hSS : setUsed = SS
  generalize hCC : Builtin.Frozenset.clearAll = CC
  wp_walk
  subst hSS
  unfold setUsed
  refine wpAny_bind (wpAny_setState_of (s := { s with heap := s.heap.push (setObj "set" (ldW w)) }) hget rfl S0.fits (wpAny_pure ?_))
  show wpAny _ _ (ret Value.none) _ _ _
  refine wpAny_pure ⟨rfl, _, s.toks, rfl, setObj_at s.heap false (ldW w), fun b o e => Heap.get?_push_of_some _ e⟩
/-- set(x) -/
theorem set_one {v : Value} {R : Heap → Prop} {Q : Value → Shared → Prop}
    (hin : ∀ A' : Around, A'.handled = A.handled → wpAny (model prog w) A' (Builtin.Frozenset.updateFrom "set.__init__" s.heap.objs.size v) (fun _ s' => ∃ h' tk, s' = { s with heap := h', toks := tk } ∧ R h') E { s with heap := s.heap.push (setObj (setName false) (ldW w)) })
    (h : ∀ h' tk, R h' → Q (.ref s.heap.objs.size) { s with heap := h', toks := tk }) : wpAny (model prog w) A (call (.type "set") [v]) Q E s := by
  refine called_setL (R := R) (F.typeCall_set_1 v) (F.newCall_set_1 v) (fun M A E s self Q hT hQ => check_set_init_1 hT hQ) (fun A' hA => ?_) h
  have S0 := SetG.empty 0 0 (ldW w)
  have hget : (s.heap.push (setObj "set" (ldW w))).get? s.heap.objs.size = some (setObj "set" (ldW w)) := Heap.get?_push_size _ rfl
  have hT : Shared.TypeIs { s with heap := s.heap.push (setObj "set" (ldW w)) } (.ref s.heap.objs.size) "set" := ⟨_, hget, rfl⟩
  have hi := hin A' hA
  clear hin h
  unfold Builtin.«set.__init__» noKeywords
  generalize hSS : setUsed = SS
  generalize hCC : Builtin.Frozenset.clearAll = CC
  generalize hUU : Builtin.Frozenset.updateFrom = UU at hi ⊢
  wp_walk
  subst hSS
  unfold setUsed
  refine wpAny_bind (wpAny_setState_of (s := { s with heap := s.heap.push (setObj "set" (ldW w)) }) hget rfl S0.fits (wpAny_pure ?_))
  show wpAny _ _ (UU "set.__init__" s.heap.objs.size v >>= fun _ => ret Value.none) _ _ _
  refine wpAny_bind (wpAny_mono hi (fun _ s' q => ?_) fun _ _ q => q)
  exact wpAny_pure ⟨rfl, q⟩
theorem set_list {l : Addr} {vs : List Value} {ns : List Int} (hh : A.handled = none) (hl : s.heap.IsList l (List.toArray vs)) (hi : IntsAre vs ns) (hd : ∀ i ∈ ns, 0 ≤ i ∧ i < 32) {Q : Value → Shared → Prop}
    (h : ∀ h' tk, IsS h' s.heap.objs.size false (ldW w) (distI ns) → (∀ b o, s.heap.get? b = some o → h'.get? b = some o) → Q (.ref s.heap.objs.size) { s with heap := h', toks := tk }) : wpAny (model prog w) A (call (.type "set") [.ref l]) Q E s :=
  set_one (R := fun h' => IsS h' s.heap.objs.size false (ldW w) (distI ns) ∧ ∀ b o, s.heap.get? b = some o → h'.get? b = some o) (fun A' hA => up_list (T := false) (hA.trans hh) hl hi hd fun h' tk h1 h2 => ⟨h', tk, rfl, h1, h2⟩) fun h' tk ⟨h1, h2⟩ => h h' tk h1 h2
theorem set_set {b : Addr} {fz : Bool} (hb : IsS s.heap b fz (ldW w) ys) {Q : Value → Shared → Prop}
    (h : ∀ h' tk, IsS h' s.heap.objs.size false (ldW w) ys → (∀ b o, s.heap.get? b = some o → h'.get? b = some o) → Q (.ref s.heap.objs.size) { s with heap := h', toks := tk }) : wpAny (model prog w) A (call (.type "set") [.ref b]) Q E s :=
  set_one (R := fun h' => IsS h' s.heap.objs.size false (ldW w) ys ∧ ∀ b o, s.heap.get? b = some o → h'.get? b = some o) (fun A' hA => up_set (T := false) hb fun h' h1 h2 => ⟨h', s.toks, rfl, h1, h2⟩) fun h' tk ⟨h1, h2⟩ => h h' tk h1 h2
/-- frozenset(list) -/
theorem fz_list {l : Addr} {vs : List Value} {ns : List Int} (hh : A.handled = none) (hl : s.heap.IsList l (List.toArray vs)) (hi : IntsAre vs ns) (hd : ∀ i ∈ ns, 0 ≤ i ∧ i < 32) {Q : Value → Shared → Prop}
    (h : ∀ h' tk, IsS h' s.heap.objs.size true (ldW w) (distI ns) → (∀ b o, s.heap.get? b = some o → h'.get? b = some o) → Q (.ref s.heap.objs.size) { s with heap := h', toks := tk }) : wpAny (model prog w) A (call (.type "frozenset") [.ref l]) Q E s := by
  refine callType_codes (Q₁ := fun obj s₁ => s₁.TypeIs obj "frozenset" ∧ Q obj s₁) called_fz (typeCall_fz _) F.entry_object_init (codeAny_of_tree ?_) fun obj s₁ h₁ =>
    ⟨h₁.1, F.args_object_init_2 obj _, object_init_meets called_fz.init.lookup called_fz.made (by decide) prog w A.in1 _ s₁ ⟨h₁.1, rfl, h₁.2⟩⟩
  show wpAny _ A.in1.in1 (do checkBuiltinCall "frozenset.__new__" ⟨[.type "frozenset", .ref l], []⟩; again (.builtin "frozenset.__new__" ⟨[.type "frozenset", .ref l], []⟩)) _ _ s
  refine wpAny_bind (wpAny_of_eq (newCall_fz _) (wpAny_pure ⟨plainId_quiet plain_fz_new _, codeAny_builtin entry_fz_new ?_⟩))
  rw [Around.under_plainId plain_fz_new _]
  have U := fun (A' : Around) (hA : A'.handled = A.handled) => up_list (prog := prog) (A := A') (E := E) (s := s) (id := "frozenset.__new__") (T := true) (Q := fun _ s' => ∃ h' tk, s' = { s with heap := h', toks := tk } ∧ IsS h' s.heap.objs.size true (ldW w) (distI ns) ∧ ∀ b o, s.heap.get? b = some o → h'.get? b = some o) (hA.trans hh) hl hi hd fun h' tk h1 h2 => ⟨h', tk, rfl, h1, h2⟩
  obtain ⟨ol, hol, hcl, nl, hdl⟩ := hl
  have hT : s.TypeIs (.ref l) "list" := ⟨ol, hol, hcl⟩
  have hsub := sub_fz_fz
  have hinit := slot_fz_init.lookup
  unfold Builtin.«frozenset.__new__» Builtin.Frozenset.newClass
  generalize hNN : Builtin.Frozenset.newFrom = NN
  wp_walk
  subst hNN
  unfold Builtin.Frozenset.newFrom
  refine wpAny_bind (newSet_T ?_)
  unfold Builtin.Frozenset.addrOf
  refine wpAny_bind (wpAny_pure ?_)
  refine wpAny_bind (wpAny_holding (wpAny_mono (U _ (by simp)) (fun _ s' q => ?_) fun _ _ q => q))
  obtain ⟨h', tk, rfl, q1, q2⟩ := q
  refine wpAny_pure (wpAny_pure ⟨?_, h h' tk q1 q2⟩)
  obtain ⟨o, _, _, _, e, c, _⟩ := q1
  exact ⟨o, e, c⟩
end
end Mine
end
section
open PySem PySem.W PyProof.Rows
set_option linter.unusedVariables false
set_option linter.unusedSectionVars false
set_option maxRecDepth 100000
namespace Mine
theorem IsS.ty {s : Shared} {a : Addr} {fz ld : Bool} {xs : List Int} (x : IsS s.heap a fz ld xs) : s.TypeIs (.ref a) (setName fz) := let ⟨o, es, ep, t, e, c, _, _, _⟩ := x; ⟨o, e, c⟩
theorem entry_set_eqL : entryFor table "set.__eq__" = some Builtin.«frozenset.__eq__» :=
  entryFor_alias (id' := "frozenset.__eq__") (by rw [fastTable_eq_tree]; kernel_rfl) rfl (by decide +kernel) (by rw [fastTable_eq_tree]; kernel_rfl)
theorem entry_set_neL : entryFor table "set.__ne__" = some Builtin.«frozenset.__ne__» :=
  entryFor_alias (id' := "frozenset.__ne__") (by rw [fastTable_eq_tree]; kernel_rfl) rfl (by decide +kernel) (by rw [fastTable_eq_tree]; kernel_rfl)
section
variable {prog : Program} {w : World} {A : Around} {E : Value → Shared → Prop} {s : Shared} {a b : Addr} {xs ys : List Int}
/-- an int in a set -/
theorem in_set {i : Int} {tk : Tok} {ld : Bool} (ha : IsS s.heap a false ld xs) {Q : Value → Shared → Prop} (h : Q (.bool (decide (i ∈ xs))) { s with toks := s.toks + 1 }) : wpAny (model prog w) A (compareOp .In (.int i tk) (.ref a)) Q E s := by
  have hT : s.TypeIs (.ref a) "set" := ha.ty
  obtain ⟨o, es, ep, t, ho, hc, hn, hd, S⟩ := ha
  show wpAny _ _ (do return .bool (← contains (.ref a) (.int i tk))) Q E s
  refine wpAny_bind ?_
  unfold contains
  try with_reducible refine wpAny_holding ?_
  refine wpAny_bind (wpAny_specialOf hT F.slot_set_contains.lookup ?_)
  show wpAny _ _ (if (some (Value.builtin "set.__contains__") == some Value.none) = true then _ else _) _ E s
  rw [if_neg (by rw [beq_builtin_none]; exact Bool.false_ne_true)]
  refine wpAny_bind (wpAny_callSpecialUnlessNone?_slot (name := Str.ofString "__contains__") hT F.slot_set_contains
    (wpAny_call_entry F.slot_set_contains hT entry_set_contains ?_ (F.args_set_contains_2 _ _)))
  unfold Builtin.«frozenset.__contains__» Builtin.Frozenset.oneOther
  simp only [List.isEmpty_nil, bind_assoc]
  unfold Builtin.Frozenset.addrOf Builtin.Frozenset.withSetAsKey setContains
  refine wpAny_bind (wpAny_pure ?_)
  try dsimp only
  refine wpAny_bind (wpAny_pure ?_)
  try dsimp only
  refine wpAny_bind (wpAny_tryCatch ?_)
  refine wpAny_holding ?_
  refine wpAny_bind ((intKind prog w).pyHash (k := i) (intKind_is _ _ _ _) ?_)
  refine wpAny_bind (setFindG (s := { s with toks := s.toks + 1 }) ho hd S fun r _ hr => ?_)
  refine wpAny_pure ?_
  show wpAny _ _ (ret (Value.bool r.isSome)) _ _ _
  rw [hr]
  exact wpAny_pure ⟨_, rfl, wpAny_truthy_bool (wpAny_pure h)⟩
/-- whether all of one are in the other -/
theorem subset_ok {id : String} {fz fz' ld ld' : Bool} (ha : IsS s.heap a fz ld xs) (hb : IsS s.heap b fz' ld' ys) {Q : Bool → Shared → Prop}
    (h : ∀ r : Bool, (r = true ↔ xs.length ≤ ys.length ∧ ∀ i ∈ xs, i ∈ ys) → Q r s) : wpAny (model prog w) A (Builtin.Frozenset.subsetOf id a b) Q E s := by
  obtain ⟨o, es, ep, t, ho, hc, hn, hd, S⟩ := ha
  obtain ⟨ob, eb, epb, tb, hob, hcb, hnb, hdb, Sb⟩ := hb
  unfold Builtin.Frozenset.subsetOf Builtin.Frozenset.sizeOf
  refine wpAny_bind (wpAny_bind (wpAny_setEntries_of ho hd S.fits (wpAny_pure ?_)))
  refine wpAny_bind (wpAny_bind (wpAny_setEntries_of hob hdb Sb.fits (wpAny_pure ?_)))
  by_cases hl : es.size > eb.size
  · rw [if_pos hl]
    refine wpAny_pure (h false (Iff.intro (fun z => by cases z) fun z => ?_))
    have := z.1
    rw [S.size, Sb.size] at hl; omega
  rw [if_neg hl]
  refine wpAny_bind (wpAny_setEpoch_of ho hd S.fits ?_)
  unfold Builtin.Frozenset.walkUnseen
  refine wpAny_bind (wpAny_bind (wpAny_setEntries_of ho hd S.fits ?_))
  refine wpAny_bind (wpAny_setEntries_of hob hdb Sb.fits ?_)
  have shp : ∀ e ∈ es.toList ++ eb.toList, ∃ i tk, e = (hashInt i, Value.int i tk) := fun e he => by
    rcases List.mem_append.mp he with he | he
    · exact S.el e he
    · exact Sb.el e he
  refine wpAny_bind (wpAny_forIn_list _ (fun rest b s' => s' = s ∧ b = ⟨none, PUnit.unit⟩ ∧ ∀ e ∈ rest, e ∈ es.toList ++ eb.toList) _ ?_ ?_ _ _ ⟨rfl, rfl, fun e he => he⟩)
  · rintro e rest _ s' ⟨rfl, rfl, hin⟩
    obtain ⟨i, tk, rfl⟩ := shp e (hin e List.mem_cons_self)
    dsimp only
    unfold Builtin.Frozenset.quietEq
    refine wpAny_bind (wpAny_pure ?_)
    simp only [Bool.not_true, Bool.false_eq_true, if_false]
    exact wpAny_pure ⟨rfl, rfl, fun e he => hin e (List.mem_cons_of_mem _ he)⟩
  · rintro _ s' ⟨rfl, rfl, _⟩
    refine wpAny_pure ?_
    refine wpAny_bind (wpAny_mono (wpAny_forIn_list _ (fun rest (b : Option Bool × Unit) s'' => s'' = s' ∧ b = ⟨none, PUnit.unit⟩ ∧ (∀ e ∈ rest, e ∈ es.toList) ∧ ∀ e ∈ es.toList, e ∈ rest ∨ intE e ∈ ys) (fun (b : Option Bool × Unit) s'' => s'' = s' ∧ ((b.fst = none ∧ ∀ i ∈ xs, i ∈ ys) ∨ (b.fst = some false ∧ ∃ i ∈ xs, i ∉ ys))) ?_ ?_ _ _ ⟨rfl, rfl, fun e he => he, fun e he => .inl he⟩) ?_ fun _ _ q => q)
    · rintro e rest _ s'' ⟨rfl, rfl, hin, hdone⟩
      obtain ⟨i, tk, hi, rfl⟩ := S.mem (hin e List.mem_cons_self)
      dsimp only
      refine wpAny_bind (wpAny_holding (setFindG hob hdb Sb fun r _ hr => ?_))
      cases r with
      | none =>
        simp only [Option.isNone_none, if_true]
        refine wpAny_pure ⟨rfl, .inr ⟨rfl, i, hi, ?_⟩⟩
        simpa using hr
      | some j =>
        simp only [Option.isNone_some, Bool.false_eq_true, if_false]
        unfold Builtin.Frozenset.unchanged
        refine wpAny_bind (wpAny_bind (wpAny_setEpoch_of ho hd S.fits ?_))
        simp only [bne_self_eq_false, Bool.false_eq_true, if_false]
        refine wpAny_pure (wpAny_pure ⟨rfl, rfl, fun e he => hin e (List.mem_cons_of_mem _ he), fun e he => ?_⟩)
        rcases hdone e he with q | q
        · rcases List.mem_cons.mp q with rfl | q
          · have h2 : i ∈ ys := by simpa using hr
            exact .inr h2
          · exact .inl q
        · exact .inr q
    · rintro _ s'' ⟨rfl, rfl, _, hdone⟩
      refine ⟨rfl, .inl ⟨rfl, fun i hi => ?_⟩⟩
      obtain ⟨e, he, h2⟩ := List.mem_map.mp (S.pm.mem_iff.mpr hi)
      rcases hdone e he with q | q
      · simp at q
      · exact h2 ▸ q
    · rintro ⟨bf, _⟩ s'' ⟨rfl, hb2⟩
      rcases hb2 with ⟨e, hall⟩ | ⟨e, i, hi, hni⟩
      · dsimp only at e
        subst e
        exact wpAny_pure (h true ⟨fun _ => ⟨by rw [S.size, Sb.size] at hl; omega, hall⟩, fun _ => rfl⟩)
      · dsimp only at e
        subst e
        exact wpAny_pure (h false (Iff.intro (fun z => by cases z) fun z => absurd (z.2 i hi) hni))
end
end Mine
end
section
open PySem PySem.W PyProof.Rows
set_option linter.unusedVariables false
set_option linter.unusedSectionVars false
set_option maxRecDepth 100000
namespace Mine
theorem IsS.srt {h : Heap} {a : Addr} {fz ld : Bool} {xs : List Int} (x : IsS h a fz ld xs) : xs.Pairwise (· < ·) := by
  obtain ⟨_, _, _, _, _, _, _, _, S⟩ := x
  exact S.srt
theorem IsS.dom {h : Heap} {a : Addr} {fz ld : Bool} {xs : List Int} (x : IsS h a fz ld xs) : ∀ i ∈ xs, 0 ≤ i ∧ i < 32 := by
  obtain ⟨_, _, _, _, _, _, _, _, S⟩ := x
  exact S.dom
theorem noI_fz_xor : typeLookup (.type "frozenset") (dunderI "xor") = pure none := by rw [typeLookup_type, builtinLookup_eq_fast]; kernel_rfl
theorem fills_fz_xor : fillsNumberSlot (.type "frozenset") "xor" = pure true := by kernel_rfl
theorem slot_fz_xor : Slot "frozenset" (dunder "xor") "frozenset.__xor__" :=
  .of (owner := "frozenset") (n := "__xor__") (by rw [typeLookup_type, builtinLookup_eq_fast]; kernel_rfl) (by decide +kernel) (by decide +kernel) (by decide +kernel)
    (by first | exact .inl (by decide +kernel) | exact .inr (by decide +kernel)) (by rw [isSubtype_type]; kernel_rfl)
theorem entry_fz_xor : entryFor table "frozenset.__xor__" = some Builtin.«frozenset.__xor__» := entryFor_of_tree (by kernel_rfl)
theorem args_fz_xor (a b : Value) : argsOk "frozenset.__xor__" ⟨[a, b], []⟩ := by unfold argsOk; kernel_rfl
theorem fillsI_set : fillsInplaceSlot (.type "set") "xor" false = pure true := by
  unfold fillsInplaceSlot
  show (typeLookup (.type "set") (dunderI "xor") >>= fun fi => pure (fi.isSome && !isSeqSlot fi)) = pure true
  rw [typeLookup_type, builtinLookup_eq_fast]; kernel_rfl
theorem fillsI_fz : fillsInplaceSlot (.type "frozenset") "xor" false = pure false := by
  unfold fillsInplaceSlot
  show (typeLookup (.type "frozenset") (dunderI "xor") >>= fun fi => pure (fi.isSome && !isSeqSlot fi)) = pure false
  rw [noI_fz_xor]; rfl
theorem ite_f0 {α : Type} {M : Model} {A : Around} {b : Bool} {x y : Sem α} {Q : α → Shared → Prop} {E : Value → Shared → Prop} {s : Shared} (hb : b = false) (h : wpAny M A y Q E s) : wpAny M A (if b = true then x else y) Q E s := by rw [hb]; exact h
theorem andW {M : Model} {A : Around} {E : Value → Shared → Prop} {s : Shared} {x y : Sem Bool} {Q : Bool → Shared → Prop} (h : wpAny M A x (fun b s' => if b = true then wpAny M A y Q E s' else Q false s') E s) : wpAny M A (x <&&> y) Q E s := by
  show wpAny M A (x >>= fun b => match toBool b with | true => y | false => pure b) Q E s
  refine wpAny_bind (wpAny_mono h (fun b s' h' => ?_) fun _ _ e => e)
  cases b with
  | true => exact (show wpAny M A y Q E s' by simpa using h')
  | false => exact wpAny_pure (by simpa using h')
theorem sub_eq {xs ys : List Int} (hx : xs.Pairwise (· < ·)) (hy : ys.Pairwise (· < ·)) (hl : xs.length = ys.length) (h : ∀ i ∈ xs, i ∈ ys) : xs = ys := by
  refine sorted_ext hx hy fun i => ⟨h i, fun hi => ?_⟩
  rcases Classical.em (i ∈ xs) with q | q
  · exact q
  · have := nodup_sub (l := i :: xs) (l' := ys) (List.nodup_cons.mpr ⟨q, lt_nodup hx⟩) fun j hj => by
      rcases List.mem_cons.mp hj with rfl | hj
      · exact hi
      · exact h j hj
    rw [List.length_cons] at this; omega
section
variable {prog : Program} {w : World} {A : Around} {E : Value → Shared → Prop} {s : Shared} {a b : Addr} {xs ys : List Int}
theorem eq_body {ld ld' : Bool} (ha : IsS s.heap a false ld xs) (hb : IsS s.heap b false ld' ys) {Q : Value → Shared → Prop} (h : Q (.bool (decide (xs = ys))) s) :
    wpAny (model prog w) A (Builtin.«frozenset.__eq__» ⟨[.ref a, .ref b], []⟩) (fun fin s' => ∃ v, fin = .done (.ret v) ∧ Q v s') E s := by
  have ha' := ha
  have hb' := hb
  obtain ⟨o, es, ep, t, ho, hc, hn, hd, S⟩ := ha'
  obtain ⟨ob, eb, epb, tb, hob, hcb, hnb, hdb, Sb⟩ := hb'
  refine wpAny_bind (m := Builtin.Frozenset.slot1 "__eq__" ⟨[.ref a, .ref b], []⟩) (wpAny_pure ?_)
  refine wpAny_bind (isAny_ok hb ?_)
  simp only [Bool.not_true, Bool.false_eq_true, if_false]
  unfold Builtin.Frozenset.addrOf Builtin.Frozenset.sizeOf
  refine wpAny_bind (wpAny_pure (wpAny_bind (wpAny_pure ?_)))
  refine wpAny_bind (wpAny_bind (wpAny_setEntries_of ho hd S.fits (wpAny_pure ?_)))
  refine wpAny_bind (wpAny_bind (wpAny_setEntries_of hob hdb Sb.fits (wpAny_pure ?_)))
  refine wpAny_bind ?_
  by_cases hl : es.size = eb.size
  · rw [if_neg (by simpa using hl)]
    refine wpAny_bind (andW (wpAny_isInstance ha.ty sub_set_fz ?_))
    rw [if_neg (by decide)]
    simp only [Bool.false_eq_true, if_false]
    refine subset_ok ha hb fun r hr => wpAny_pure ⟨_, rfl, ?_⟩
    have : r = decide (xs = ys) := by
      have e : r = true ↔ xs = ys := hr.trans ⟨fun ⟨_, z⟩ => sub_eq S.srt Sb.srt (by rw [← S.size, ← Sb.size]; exact hl) z, fun z => z ▸ ⟨Nat.le_refl _, fun i hi => hi⟩⟩
      cases r <;> simp_all
    rw [this]; exact h
  · rw [if_pos (by simpa using hl)]
    refine wpAny_pure (wpAny_pure ⟨_, rfl, ?_⟩)
    have : decide (xs = ys) = false := by
      rw [decide_eq_false_iff_not]
      rintro rfl
      exact hl (S.size.trans Sb.size.symm)
    rw [this] at h; exact h
theorem ne_body {ld ld' : Bool} (ha : IsS s.heap a false ld xs) (hb : IsS s.heap b false ld' ys) {Q : Value → Shared → Prop} (h : Q (.bool (!decide (xs = ys))) s) :
    wpAny (model prog w) A (Builtin.«frozenset.__ne__» ⟨[.ref a, .ref b], []⟩) (fun fin s' => ∃ v, fin = .done (.ret v) ∧ Q v s') E s := by
  have ha' := ha
  have hb' := hb
  obtain ⟨o, es, ep, t, ho, hc, hn, hd, S⟩ := ha'
  obtain ⟨ob, eb, epb, tb, hob, hcb, hnb, hdb, Sb⟩ := hb'
  refine wpAny_bind (m := Builtin.Frozenset.slot1 "__ne__" ⟨[.ref a, .ref b], []⟩) (wpAny_pure ?_)
  refine wpAny_bind (isAny_ok hb ?_)
  simp only [Bool.not_true, Bool.false_eq_true, if_false]
  unfold Builtin.Frozenset.addrOf Builtin.Frozenset.sizeOf
  refine wpAny_bind (wpAny_pure (wpAny_bind (wpAny_pure ?_)))
  refine wpAny_bind (wpAny_bind (wpAny_setEntries_of ho hd S.fits (wpAny_pure ?_)))
  refine wpAny_bind (wpAny_bind (wpAny_setEntries_of hob hdb Sb.fits (wpAny_pure ?_)))
  refine wpAny_bind ?_
  by_cases hl : es.size = eb.size
  · rw [if_neg (by simpa using hl)]
    refine wpAny_bind (andW (wpAny_isInstance ha.ty sub_set_fz ?_))
    rw [if_neg (by decide)]
    simp only [Bool.false_eq_true, if_false]
    refine subset_ok ha hb fun r hr => wpAny_pure ⟨_, rfl, ?_⟩
    have : r = decide (xs = ys) := by
      have e : r = true ↔ xs = ys := hr.trans ⟨fun ⟨_, z⟩ => sub_eq S.srt Sb.srt (by rw [← S.size, ← Sb.size]; exact hl) z, fun z => z ▸ ⟨Nat.le_refl _, fun i hi => hi⟩⟩
      cases r <;> simp_all
    rw [this]; exact h
  · rw [if_pos (by simpa using hl)]
    refine wpAny_pure (wpAny_pure ⟨_, rfl, ?_⟩)
    have : decide (xs = ys) = false := by
      rw [decide_eq_false_iff_not]
      rintro rfl
      exact hl (S.size.trans Sb.size.symm)
    rw [this] at h; exact h
theorem set_eq {ld ld' : Bool} (hu : A.units < cLine) (ha : IsS s.heap a false ld xs) (hb : IsS s.heap b false ld' ys) {Q : Value → Shared → Prop} (h : Q (.bool (decide (xs = ys))) s) : wpAny (model prog w) A (compareOp .Eq (.ref a) (.ref b)) Q E s := by
  show wpAny _ _ (richCompare .Eq _ _) _ _ _
  exact wpAny_richCompare_same_room (T := "set") ha.ty hb.ty F.slot_set_eq (wpAny_call_entry F.slot_set_eq ha.ty entry_set_eqL (eq_body ha hb ⟨(fun e => by cases e), h⟩) (F.args_set_eq_2 _ _)) hu
theorem set_ne {ld ld' : Bool} (hu : A.units < cLine) (ha : IsS s.heap a false ld xs) (hb : IsS s.heap b false ld' ys) {Q : Value → Shared → Prop} (h : Q (.bool (!decide (xs = ys))) s) : wpAny (model prog w) A (compareOp .NotEq (.ref a) (.ref b)) Q E s := by
  show wpAny _ _ (richCompare .NotEq _ _) _ _ _
  exact wpAny_richCompare_same_room (T := "set") ha.ty hb.ty F.slot_set_ne (wpAny_call_entry F.slot_set_ne ha.ty entry_set_neL (ne_body ha hb ⟨(fun e => by cases e), h⟩) (F.args_set_ne_2 _ _)) hu
/-- a set turned by another -/
theorem set_ixor {fz : Bool} (ha : IsS s.heap a false (ldW w) xs) (hb : IsS s.heap b fz (ldW w) ys) {Q : Value → Shared → Prop}
    (h : ∀ h', IsS h' a false (ldW w) (if a = b then [] else symI xs ys) → Heap.SameBut a s.heap h' → Q (.ref a) { s with heap := h' }) : wpAny (model prog w) A (inplaceOp .BitXor (.ref a) (.ref b)) Q E s := by
  unfold inplaceOp
  refine wpAny_holding ?_
  refine wpAny_bind (wpAny_typeOf ha.ty (wpAny_bind (wpAny_of_eq (show fillsInplaceSlot (.type (setName false)) Operator.BitXor.info.2 (Operator.BitXor == .Add) = pure true from fillsI_set) ?_)))
  simp only [if_true]
  simp only [tryMethod]
  refine wpAny_bind (wpAny_bind (wpAny_callSpecial?_slot (name := dunderI "xor") (show s.TypeIs (.ref a) "set" from ha.ty) F.slot_set_ixor (wpAny_call_entry F.slot_set_ixor (show s.TypeIs (.ref a) "set" from ha.ty) F.entry_set_ixor ?_ (F.args_set_ixor_2 _ _))))
  refine wpAny_bind (m := pure (Value.ref a, Value.ref b)) (wpAny_pure ?_)
  refine wpAny_bind (isAny_ok hb ?_)
  simp only [Bool.not_true, Bool.false_eq_true, if_false]
  unfold Builtin.Frozenset.addrOf
  refine wpAny_bind (wpAny_pure ?_)
  by_cases e : a = b
  · subst e
    rw [if_pos rfl] at h
    unfold Builtin.Frozenset.symmetricDifferenceUpdate
    rw [if_pos (by simp)]
    obtain ⟨o, es, ep, t, ho, hc, hn, hd, S⟩ := ha
    refine wpAny_bind (wpAny_bind (wpAny_rule (clear_ok ho hd S fun h' ep' t' S' hg hsb => ?_)))
    refine wpAny_pure ⟨_, rfl, wpAny_pure ?_⟩
    exact wpAny_bind (wpAny_rule (wpAny_pure (h h' ⟨_, _, _, _, hg, hc, hn, rfl, S'⟩ hsb)))
  · rw [if_neg e] at h
    refine wpAny_bind (sdu_ok e ha hb fun h' h1 h2 => ?_)
    refine wpAny_pure ⟨_, rfl, wpAny_pure ?_⟩
    exact wpAny_bind (wpAny_rule (wpAny_pure (h h' h1 h2)))
theorem sym_comm {xs ys : List Int} (hx : xs.Pairwise (· < ·)) (hy : ys.Pairwise (· < ·)) : symI xs ys = symI ys xs := by
  refine sorted_ext (fold_sorted hx) (fold_sorted hy) fun i => ?_
  rw [fold_mem (lt_nodup hy), fold_mem (lt_nodup hx)]
  constructor
  · rintro (⟨p, q⟩ | ⟨p, q⟩)
    · exact .inr ⟨q, p⟩
    · exact .inl ⟨q, p⟩
  · rintro (⟨p, q⟩ | ⟨p, q⟩)
    · exact .inr ⟨q, p⟩
    · exact .inl ⟨q, p⟩
/-- a frozenset and a set: a new frozenset -/
theorem fz_xor (ha : IsS s.heap a true (ldW w) xs) (hb : IsS s.heap b false (ldW w) ys) {Q : Value → Shared → Prop}
    (h : ∀ h', IsS h' s.heap.objs.size true (ldW w) (symI xs ys) → (∀ b o, s.heap.get? b = some o → h'.get? b = some o) → Q (.ref s.heap.objs.size) { s with heap := h' }) : wpAny (model prog w) A (inplaceOp .BitXor (.ref a) (.ref b)) Q E s := by
  have hTa : s.TypeIs (.ref a) "frozenset" := ha.ty
  have hTb : s.TypeIs (.ref b) "set" := hb.ty
  unfold inplaceOp
  refine wpAny_holding ?_
  refine wpAny_bind (wpAny_typeOf hTa (wpAny_bind (wpAny_of_eq (show fillsInplaceSlot (.type "frozenset") Operator.BitXor.info.2 (Operator.BitXor == .Add) = pure false from fillsI_fz) ?_)))
  simp only [Bool.false_eq_true, if_false]
  have e : Operator.BitXor.info.2 = "xor" := rfl
  rw [e]
  have hne : (Value.type "frozenset" == Value.type "set") = false := by decide
  have hpy : numberSlotInPython (.type "frozenset") "xor" = pure false := rfl
  refine wpAny_bind (wpAny_bind (wpAny_typeOf hTa (wpAny_bind (wpAny_typeOf hTb (wpAny_bind (wpAny_of_eq fills_fz_xor (ite_f0 hne (wpAny_bind (wpAny_of_eq F.fills_set_xor ?_)))))))))
  refine wpAny_bind (wpAny_of_eq sub_set_fz ?_)
  refine wpAny_bind (wpAny_of_eq hpy ?_)
  simp only [tryMethod]
  refine wpAny_bind (wpAny_bind (wpAny_callSpecial?_slot (name := dunder "xor") hTa slot_fz_xor (wpAny_call_entry slot_fz_xor hTa entry_fz_xor ?_ (args_fz_xor _ _))))
  refine wpAny_bind (m := pure (Value.ref a, Value.ref b)) (wpAny_pure ?_)
  refine wpAny_bind (andW (isAny_ok ha ?_))
  rw [if_pos rfl]
  refine isAny_ok hb ?_
  simp only [Bool.not_true, Bool.false_eq_true, if_false]
  unfold Builtin.Frozenset.addrOf
  refine wpAny_bind (wpAny_pure ?_)
  refine wpAny_bind ?_
  refine wpAny_bind (m := Builtin.Frozenset.baseOf a) ?_
  unfold Builtin.Frozenset.baseOf
  refine wpAny_bind (wpAny_isInstance hTa sub_fz_set ?_)
  simp only [Bool.false_eq_true, if_false]
  refine wpAny_pure ?_
  unfold Builtin.Frozenset.newFrom
  refine wpAny_bind (wpAny_bind (newSet_T ?_))
  unfold Builtin.Frozenset.addrOf
  refine wpAny_bind (wpAny_pure ?_)
  refine wpAny_bind (wpAny_holding (up_set (T := true) hb fun h1 g1 k1 => ?_))
  refine wpAny_pure ?_
  refine wpAny_bind (wpAny_pure ?_)
  have hna : s.heap.objs.size ≠ a := Nat.ne_of_gt ha.lt
  refine wpAny_bind (wpAny_holding (sdu_ok (s := { s with heap := h1 }) hna g1 (ha.old fun o e => k1 a o e) fun h2 g2 sb2 => ?_))
  refine wpAny_pure (wpAny_pure ⟨_, rfl, wpAny_pure ?_⟩)
  refine wpAny_pure (wpAny_pure ?_)
  rw [sym_comm hb.srt ha.srt] at g2
  exact h h2 g2 fun b' o e => (sb2.2 b' (fun q => Nat.lt_irrefl _ (q ▸ Heap.lt_size e))).trans (k1 b' o e)
end
end Mine
end
section
open PySem PySem.W PyProof.Rows PySem.Calls
set_option linter.unusedVariables false
set_option linter.unusedSectionVars false
set_option maxRecDepth 100000
namespace Mine
theorem slot_fz_iter : Slot "frozenset" "__iter__" "frozenset.__iter__" :=
  .of (owner := "frozenset") (n := "__iter__") (by rw [typeLookup_type, builtinLookup_eq_fast]; kernel_rfl) (by decide +kernel) (by decide +kernel) (by decide +kernel)
    (by first | exact .inl (by decide +kernel) | exact .inr (by decide +kernel)) (by rw [isSubtype_type]; kernel_rfl)
theorem entry_fz_iter : entryFor table "frozenset.__iter__" = some Builtin.«frozenset.__iter__» := entryFor_of_tree (by kernel_rfl)
theorem args_fz_iter (a : Value) : argsOk "frozenset.__iter__" ⟨[a], []⟩ := by unfold argsOk; kernel_rfl
theorem len_set_of : typeLookup (.type "set") "__len__" = pure (some (.builtin "set.__len__")) := by rw [typeLookup_type, builtinLookup_eq_fast]; kernel_rfl
theorem len_fz_of : typeLookup (.type "frozenset") "__len__" = pure (some (.builtin "frozenset.__len__")) := by rw [typeLookup_type, builtinLookup_eq_fast]; kernel_rfl
noncomputable def SetDt (h : Heap) (a : Addr) (es : Array (Int × Value)) (ep : Nat) (t : SetTable) : Prop := ∃ o, h.get? a = some o ∧ o.data = .set es ep t
noncomputable def ordOf (w : World) (a : Addr) (ep : Nat) (es : Array (Int × Value)) : Array (Int × Value) := if w.params.followText "set-order" = true then pickOrder (w.params.setOrder a ep) es else es
theorem ord_perm (w : World) (a : Addr) (ep : Nat) (es : Array (Int × Value)) : (ordOf w a ep es).toList.Perm es.toList := by
  unfold ordOf
  split
  · exact pick_perm _ _
  · exact List.Perm.refl _
theorem ord_size (w : World) (a : Addr) (ep : Nat) (es : Array (Int × Value)) : (ordOf w a ep es).size = es.size := by
  have := (ord_perm w a ep es).length_eq
  simpa using this
section
variable {prog : Program} {w : World} {A : Around} {E : Value → Shared → Prop} {s : Shared} {a I : Addr} {o : Obj} {es : Array (Int × Value)} {ep i slot : Nat} {t : SetTable} {xs ys : List Int}
theorem iter_S {fz : Bool} (hc : ∃ o, s.heap.get? a = some o ∧ o.cls = .type (setName fz) ∧ o.data = .set es ep t) (S : SetG (ldW w) es t xs) {Q : Value → Shared → Prop}
    (hQ : Q (.ref s.heap.objs.size) { s with heap := s.heap.push { cls := .type "set_iterator", data := .fields #[.int 0 0, .int 0 0, .ref a, .int es.size 0, .int ep 0] } }) :
    wpAny (model prog w) A (pyIter (.ref a)) Q E s := by
  obtain ⟨o, ho, hc, hd⟩ := hc
  have core : ∀ (A' : Around) (P : Fin → Shared → Prop), P (.done (.ret (.ref s.heap.objs.size))) { s with heap := s.heap.push { cls := .type "set_iterator", data := .fields #[.int 0 0, .int 0 0, .ref a, .int es.size 0, .int ep 0] } } → wpAny (model prog w) A' (Builtin.«frozenset.__iter__» ⟨[.ref a], []⟩) P E s := by
    intro A' P hP
    unfold Builtin.«frozenset.__iter__» Builtin.Frozenset.slot0 slotArgs
    simp only [List.isEmpty_nil, Bool.not_true, Bool.false_eq_true, ↓reduceIte, bind_assoc, List.length_nil, bne_self_eq_false]
    unfold Builtin.Frozenset.addrOf Builtin.Frozenset.sizeOf
    refine wpAny_bind (wpAny_pure ?_)
    try dsimp only
    refine wpAny_bind (wpAny_pure ?_)
    refine wpAny_bind (wpAny_bind (wpAny_setEntries_of ho hd S.fits (wpAny_pure ?_)))
    unfold setDrawn
    refine wpAny_bind (wpAny_bind (wpAny_setState_of ho hd S.fits ?_))
    dsimp only
    refine wpAny_bind (setByText (wpAny_pure ?_))
    have hdr : (!w.params.followText "set-order" && (!t.plain && decide (es.size > 1))) = false := by rw [S.good.plain]; simp
    show wpAny _ _ (if (!w.params.followText "set-order" && (!t.plain && decide (es.size > 1))) = true then _ else _) _ _ _
    rw [hdr]
    simp only [Bool.false_eq_true, if_false]
    refine wpAny_bind (wpAny_pure ?_)
    refine wpAny_bind (wpAny_setEpoch_of ho hd S.fits ?_)
    exact wpAny_bind (wpAny_newObj_type (wpAny_pure hP))
  cases fz with
  | false =>
    have hT : s.TypeIs (.ref a) "set" := ⟨o, ho, hc⟩
    exact wpAny_pyIter_slot hT F.slot_set_iter (wpAny_call_entry F.slot_set_iter hT entry_set_iter (core _ _ ⟨_, rfl, "set_iterator", _, ⟨_, Heap.get?_push_size _ rfl, rfl⟩, slot_seti_next.lookup, hQ⟩) (F.args_set_iter_1 _))
  | true =>
    have hT : s.TypeIs (.ref a) "frozenset" := ⟨o, ho, hc⟩
    exact wpAny_pyIter_slot hT slot_fz_iter (wpAny_call_entry slot_fz_iter hT entry_fz_iter (core _ _ ⟨_, rfl, "set_iterator", _, ⟨_, Heap.get?_push_size _ rfl, rfl⟩, slot_seti_next.lookup, hQ⟩) (args_fz_iter _))
theorem next_it (hoa : s.heap.get? a = some o) (hda : o.data = .set es ep t) (S : SetG (ldW w) es t xs) (hst : StandsAt w t slot i) {Q : Option (Value × Nat) → Shared → Prop}
    (h1 : i < es.size → ∀ e slot', (ordOf w a ep es)[i]? = some e → StandsAt w t slot' (i + 1) → Q (some (e.2, slot')) s) (h2 : es.size ≤ i → Q none s) : wpAny (model prog w) A (setNext a slot i ep) Q E s := by
  unfold setNext
  refine wpAny_bind (wpAny_setState_of hoa hda S.fits ?_)
  dsimp only
  refine wpAny_bind (setByText ?_)
  cases hb : w.params.followText "set-order" with
  | true =>
    have e1 : (ep != ep) = false := by simp
    simp only [if_true, e1, Bool.false_eq_true, if_false]
    unfold setWalk
    refine wpAny_bind (wpAny_bind (wpAny_setState_of hoa hda S.fits ?_))
    dsimp only
    refine wpAny_bind (setByText ?_)
    rw [hb]
    simp only [if_true]
    refine wpAny_bind (wpAny_askSetting (wpAny_pure (wpAny_pure ?_)))
    show Q (((pickOrder (w.params.setOrder a ep) es)[i]?).map fun e => (e.2, slot)) s
    have eo : ordOf w a ep es = pickOrder (w.params.setOrder a ep) es := by unfold ordOf; rw [if_pos hb]
    by_cases hi : i < es.size
    · have hp : i < (pickOrder (w.params.setOrder a ep) es).size := by rw [pick_size]; exact hi
      rw [Array.getElem?_eq_getElem hp]
      exact h1 hi _ _ (by rw [eo, Array.getElem?_eq_getElem hp]) (.inl hb)
    · rw [Array.getElem?_eq_none (by rw [pick_size]; omega)]
      exact h2 (by omega)
  | false =>
    simp only [Bool.false_eq_true, if_false]
    have hst : SetTable.below t.place slot = i := hst.resolve_left (by rw [hb]; simp)
    have hdr : ¬ ((!t.plain && decide (es.size > 1)) = true) := by rw [S.good.plain]; simp
    have hld : ¬ ((!t.led && !es.isEmpty) = true) := by rw [S.tab.led]; simp [ldW, hb]
    have eo : ordOf w a ep es = es := by unfold ordOf; rw [if_neg (by rw [hb]; simp)]
    show wpAny _ _ (if (!t.plain && decide (es.size > 1)) = true then _ else _) _ _ _
    rw [if_neg hdr]
    refine wpAny_bind (m := if (!t.led && !es.isEmpty) = true then unsupported _ else pure ()) ?_
    rw [if_neg hld]
    refine wpAny_pure (wpAny_pure ?_)
    rw [hst]
    by_cases hi : i < es.size
    · have hp : i < t.place.size := by rw [S.siz]; exact hi
      rw [Array.getElem?_eq_getElem hi, Array.getElem?_eq_getElem hp]
      exact h1 hi _ _ (by rw [eo, Array.getElem?_eq_getElem hi]; rfl) (.inr (below_next S.tab.rise hp))
    · rw [Array.getElem?_eq_none (by omega)]
      exact h2 (by omega)
theorem pyNext_it (hI : SetItAt s.heap I a i slot es.size ep) (hS : SetDt s.heap a es ep t) (S : SetG (ldW w) es t xs) (hst : StandsAt w t slot i) (hi : i < es.size) {Q : Option Value → Shared → Prop}
    (hQ : ∀ e slot' h', (ordOf w a ep es)[i]? = some e → SetItAt h' I a (i + 1) slot' es.size ep → StandsAt w t slot' (i + 1) → Heap.SameBut I s.heap h' → Q (some e.2) { s with heap := h' }) :
    wpAny (model prog w) A (pyNext (.ref I)) Q E s := by
  obtain ⟨o, ho, hc, hd⟩ := hI
  obtain ⟨oa, hoa, hda⟩ := hS
  have hT : s.TypeIs (.ref I) "set_iterator" := ⟨o, ho, hc⟩
  unfold pyNext
  refine wpAny_bind (wpAny_attempt (wpAny_callSpecial?_slot (name := Str.ofString "__next__") hT slot_seti_next
    (wpAny_call_entry slot_seti_next hT entry_seti_next ?_ (args_seti_next _))))
  unfold Builtin.«set_iterator.__next__» slotArgs
  simp only [List.isEmpty_nil, Bool.not_true, Bool.false_eq_true, ↓reduceIte, List.length_nil, bne_self_eq_false]
  refine wpAny_bind (wpAny_pure ?_)
  refine wpAny_bind (wpAny_fieldsOf ho hd ?_)
  dsimp only
  refine wpAny_bind (wpAny_setEntries_of hoa hda S.fits ?_)
  have e1 : (((es.size : Nat) : Int) != ((es.size : Nat) : Int)) = false := by simp
  rw [e1]
  simp only [Bool.false_eq_true, if_false, Int.toNat_natCast]
  refine wpAny_bind (next_it hoa hda S hst (fun _ e slot' he hs' => ?_) fun h => by omega)
  dsimp only
  refine wpAny_bind (wpAny_setField ho hd (by simp) ?_)
  have ho1 : (s.heap.update I (Obj.mapFields (·.setIfInBounds 0 (rawInt (slot' : Nat))))).get? I = some (Obj.mapFields (·.setIfInBounds 0 (rawInt (slot' : Nat))) o) := Heap.get?_update_self _ ho (Obj.isFreed_of_fields (Obj.data_mapFields hd _))
  have hd1 : (Obj.mapFields (·.setIfInBounds 0 (rawInt (slot' : Nat))) o).data = .fields #[.int slot' 0, .int i 0, .ref a, .int es.size 0, .int ep 0] := by rw [Obj.data_mapFields hd]; simp [rawInt]
  refine wpAny_bind (wpAny_setField (s := { s with heap := s.heap.update I (Obj.mapFields (·.setIfInBounds 0 (rawInt (slot' : Nat)))) }) ho1 hd1 (by simp) ?_)
  have ho2 := Heap.get?_update_self (Obj.mapFields (·.setIfInBounds 1 (rawInt ((i : Int) + 1)))) ho1 (Obj.isFreed_of_fields (Obj.data_mapFields hd1 _))
  have hd2 : (Obj.mapFields (·.setIfInBounds 1 (rawInt ((i : Int) + 1))) (Obj.mapFields (·.setIfInBounds 0 (rawInt (slot' : Nat))) o)).data = .fields #[.int slot' 0, .int ((i + 1 : Nat) : Int) 0, .ref a, .int es.size 0, .int ep 0] := by rw [Obj.data_mapFields hd1]; simp [rawInt]
  exact wpAny_pure ⟨_, rfl, wpAny_pure (hQ e slot' _ he ⟨_, ho2, ((Obj.cls_mapFields ..).trans (Obj.cls_mapFields ..)).trans hc, hd2⟩ hs' ((Heap.SameBut.update ..).trans (Heap.SameBut.update ..)))⟩
theorem pyNext_no (hh : A.handled = none) (hI : SetItAt s.heap I a es.size slot es.size ep) (hS : SetDt s.heap a es ep t) (S : SetG (ldW w) es t xs) (hst : StandsAt w t slot es.size) {Q : Option Value → Shared → Prop}
    (hQ : ∀ h', Heap.ExtBut I s.heap h' → Q none { s with heap := h' }) : wpAny (model prog w) A (pyNext (.ref I)) Q E s := by
  obtain ⟨o, ho, hc, hd⟩ := hI
  obtain ⟨oa, hoa, hda⟩ := hS
  have hT : s.TypeIs (.ref I) "set_iterator" := ⟨o, ho, hc⟩
  unfold pyNext
  refine wpAny_bind (wpAny_attempt (wpAny_callSpecial?_slot (name := Str.ofString "__next__") hT slot_seti_next
    (wpAny_call_entry slot_seti_next hT entry_seti_next ?_ (args_seti_next _))))
  unfold Builtin.«set_iterator.__next__» slotArgs
  simp only [List.isEmpty_nil, Bool.not_true, Bool.false_eq_true, ↓reduceIte, List.length_nil, bne_self_eq_false]
  refine wpAny_bind (wpAny_pure ?_)
  refine wpAny_bind (wpAny_fieldsOf ho hd ?_)
  dsimp only
  refine wpAny_bind (wpAny_setEntries_of hoa hda S.fits ?_)
  have e1 : (((es.size : Nat) : Int) != ((es.size : Nat) : Int)) = false := by simp
  rw [e1]
  simp only [Bool.false_eq_true, if_false, Int.toNat_natCast]
  refine wpAny_bind (next_it hoa hda S hst (fun h => absurd h (Nat.lt_irrefl _)) fun _ => ?_)
  dsimp only
  refine wpAny_bind (wpAny_setField ho hd (by simp) ?_)
  show wpAny _ _ (newExc (.type "StopIteration") [] >>= _) _ _ _
  refine wpAny_bind ?_
  simp only [newExc, newTuple]
  refine wpAny_bind (wpAny_newObj_type ?_ (by size_fits))
  refine wpAny_bind (m := firstArgMember _ _) (wpAny_of_eq (a := Value.none) (by first | rfl | (simp only [firstArgMember]; rfl)) ?_)
  refine wpAny_newObj_type ?_ (by size_fits)
  simp only [raiseNew]
  refine wpAny_bind (wpAny_handled ?_)
  rw [show A.in1.handled = none from hh]
  refine wpAny_bind (wpAny_pure (wpAny_throw ?_))
  refine wpAny_bind (wpAny_isInstance (T := "StopIteration") (b := true) ⟨_, Heap.get?_push_size _ rfl, rfl⟩ isSubtype_stop ?_)
  exact wpAny_pure (hQ _ (((Heap.SameBut.update ..).extBut.push _).push _))
theorem SetItAt.kept {h h' : Heap} {n : Nat} (x : SetItAt h I a i slot n ep) (k : ∀ o, h.get? I = some o → h'.get? I = some o) : SetItAt h' I a i slot n ep := let ⟨o, e, r⟩ := x; ⟨o, k o e, r⟩
theorem SetDt.kept {h h' : Heap} (x : SetDt h a es ep t) (k : ∀ o, h.get? a = some o → h'.get? a = some o) : SetDt h' a es ep t := let ⟨o, e, r⟩ := x; ⟨o, k o e, r⟩
/-- going over a set -/
theorem walks_set (hh : A.handled = none) (S : SetG (ldW w) es t xs) (hI : a ≠ I) :
    Walks prog w A I [I, a] [I] es.size (fun i v => ∃ e, (ordOf w a ep es)[i]? = some e ∧ v = e.2) (fun i h => (∃ slot, SetItAt h I a i slot es.size ep ∧ StandsAt w t slot i) ∧ SetDt h a es ep t) where
  sub := fun b hb => by simp at hb; simp [hb]
  frame := fun _ _ _ ⟨⟨sl, x, y⟩, z⟩ hk => ⟨⟨sl, x.kept fun o e => hk I (by simp) o e, y⟩, z.kept fun o e => hk a (by simp) o e⟩
  item := fun i s Q E hi ⟨⟨sl, x, y⟩, z⟩ hQ => pyNext_it x z S y hi fun e sl' h' he x' y' sb =>
    hQ _ h' s.toks ⟨e, he, rfl⟩ ⟨⟨sl', x', y'⟩, z.kept fun o e => (sb.2 a hI).trans e⟩ fun b o hb e => (sb.2 b (fun q => hb (by simp [q]))).trans e
  done := fun s Q E ⟨⟨sl, x, y⟩, z⟩ hQ => pyNext_no hh x z S y fun h' eb => hQ h' s.toks fun b o hb e => eb b o (fun q => hb (by simp [q])) e
  self := fun _ _ _ _ ⟨⟨sl, x, y⟩, z⟩ hQ => set_iterSelf x hQ
end
end Mine
end
section
open PySem PySem.W PyProof.Rows PySem.Calls
set_option linter.unusedVariables false
set_option linter.unusedSectionVars false
set_option maxRecDepth 100000
namespace Mine
section
variable {prog : Program} {w : World} {A : Around} {E : Value → Shared → Prop} {s : Shared} {a I : Addr} {o : Obj} {es : Array (Int × Value)} {ep i slot : Nat} {t : SetTable} {xs ys : List Int}
theorem wp_ite {α : Type} {M : Model} {c : Prop} [Decidable c] {x y : Sem α} {Q : α → Shared → Prop} (h1 : c → wpAny M A x Q E s) (h2 : ¬ c → wpAny M A y Q E s) : wpAny M A (if c then x else y) Q E s := by
  by_cases h : c
  · rw [if_pos h]; exact h1 h
  · rw [if_neg h]; exact h2 h
/-- a set's things as a list, in any row -/
theorem collect_S {fz : Bool} (hh : A.handled = none) (ha : IsS s.heap a fz (ldW w) xs) {Q : List Value → Shared → Prop}
    (hQ : ∀ h' tk vs ns, IntsAre vs ns → ns.Perm xs → (∀ b o, s.heap.get? b = some o → h'.get? b = some o) → s.heap.objs.size ≤ h'.objs.size → Q vs { s with heap := h', toks := tk }) :
    wpAny (model prog w) A (collect (.ref a)) Q E s := by
  have hsz32 : xs.length ≤ 32 := small_len ha.srt ha.dom
  have hTy := ha.ty
  have hlt := ha.lt
  obtain ⟨o, es, ep, t, ho, hc, hn, hd, S⟩ := ha
  unfold collect
  refine wpAny_bind (wpAny_runValue (codeAny_builtin F.entry_proto_collect ?_))
  rw [Around.under_plainId F.plain_proto_collect _]
  show wpAny _ A.in1 (newList [] >>= fun l => again (.builtin "list.__iadd__" ⟨[l, .ref a], []⟩)) _ _ s
  refine wpAny_bind (wpAny_newObj_type ?_)
  refine wpAny_pure ⟨plainId_quiet F.plain_list_iadd _, codeAny_builtin F.entry_list_iadd ?_⟩
  rw [Around.under_plainId F.plain_list_iadd _]
  generalize hL : s.heap.objs.size = L at hlt ⊢
  have hlt2 : @LT.lt Nat _ a L := hlt
  have haL : L ≠ a := Nat.ne_of_gt hlt
  have ho1 : (s.heap.push { cls := .type "list", data := .seq ([] : List Value).toArray }).get? a = some o := Heap.get?_push_of_some _ ho
  have hS₁ : (s.heap.push { cls := .type "list", data := .seq ([] : List Value).toArray }).get? L = some { cls := .type "list", data := .seq ([] : List Value).toArray } := by rw [← hL]; exact Heap.get?_push_size _ rfl
  have hz1 : (s.heap.push { cls := .type "list", data := .seq ([] : List Value).toArray }).objs.size = L + 1 := by rw [Heap.size_push, hL]
  have hold1 : ∀ b o, s.heap.get? b = some o → (s.heap.push { cls := .type "list", data := .seq ([] : List Value).toArray }).get? b = some o := fun b o e => Heap.get?_push_of_some _ e
  generalize s.heap.push { cls := .type "list", data := .seq ([] : List Value).toArray } = h1 at ho1 hS₁ hz1 hold1 ⊢
  have hT1 : Shared.TypeIs { s with heap := h1 } (.ref a) (setName fz) := ⟨o, ho1, hc⟩
  show wpAny _ A.in1 (Builtin.List.listExtendWith (.ref L) (.ref a) (.ref L)) _ _ _
  unfold Builtin.List.listExtendWith
  refine wpAny_bind (wpAny_typeOf hT1 ?_)
  have hsame : Builtin.List.listSameRef (.ref L) (.ref a) = false := by simp [Builtin.List.listSameRef, haL]
  have h2 : (Value.type (setName fz) == Value.type "list") = false := by cases fz <;> decide
  have h3 : (Value.type (setName fz) == Value.type "tuple") = false := by cases fz <;> decide
  simp only [hsame, h2, h3, Bool.or_false, Bool.false_eq_true, if_false]
  refine wpAny_bind (iter_S (s := { s with heap := h1 }) (fz := fz) ⟨o, ho1, hc, hd⟩ S ?_)
  refine wpAny_bind (wpAny_holding ?_)
  generalize hh2 : h1.push { cls := .type "set_iterator", data := .fields #[.int 0 0, .int 0 0, .ref a, .int es.size 0, .int ep 0] } = h2'
  have hI2 : SetItAt h2' (L + 1) a 0 0 es.size ep := by rw [← hh2, ← hz1]; exact ⟨_, Heap.get?_push_size _ rfl, rfl, rfl⟩
  have ho2 : h2'.get? a = some o := by rw [← hh2]; exact Heap.get?_push_of_some _ ho1
  have hS2 : h2'.get? L = some { cls := .type "list", data := .seq ([] : List Value).toArray } := by rw [← hh2]; exact Heap.get?_push_of_some _ hS₁
  have hz2 : h2'.objs.size = L + 1 + 1 := by rw [← hh2, Heap.size_push, hz1]
  have hold2 : ∀ b o, s.heap.get? b = some o → h2'.get? b = some o := fun b o e => by rw [← hh2]; exact Heap.get?_push_of_some _ (hold1 b o e)
  have hT2 : Shared.TypeIs { s with heap := h2' } (.ref a) (setName fz) := ⟨o, ho2, hc⟩
  have hint : ∀ {Q' : Bool → Shared → Prop}, Q' false { s with heap := h2' } → wpAny (model prog w) A.in1 (Builtin.List.listLengthHint (.ref a)) Q' E { s with heap := h2' } := by
    intro Q' hq
    unfold Builtin.List.listLengthHint
    cases fz with
    | false =>
      refine wpAny_bind (wpAny_specialOf hT2 len_set_of ?_)
      generalize hid : ("set.__len__" : String) = id0
      wp_delta
      rw [show splitId id0 = some ("set", "__len__") from by subst hid; decide +kernel]
      subst hid
      refine wpAny_bind (wpAny_isInstance (b := true) hT2 sub_set_self ?_)
      rw [if_neg (by decide)]
      exact wp_ite (fun _ => wpAny_bind (wpAny_typeOf hT2 (wpAny_pure hq))) fun hns => (hns (by decide +kernel)).elim
    | true =>
      refine wpAny_bind (wpAny_specialOf hT2 len_fz_of ?_)
      generalize hid : ("frozenset.__len__" : String) = id0
      wp_delta
      rw [show splitId id0 = some ("frozenset", "__len__") from by subst hid; decide +kernel]
      subst hid
      refine wpAny_bind (wpAny_isInstance (b := true) hT2 sub_fz_fz ?_)
      rw [if_neg (by decide)]
      exact wp_ite (fun _ => wpAny_bind (wpAny_typeOf hT2 (wpAny_pure hq))) fun hns => (hns (by decide +kernel)).elim
  refine hint ?_
  refine wp_ite (fun _ => ?_) fun hns => (hns (by cases fz <;> decide +kernel)).elim
  show wpAny _ A.in1 (rule "list.extend.makes-room" >>= fun _ => Builtin.List.listTouch (.ref L) >>= fun _ =>
    again (.builtin "list.extend.loop" ⟨[.ref L, .ref h1.objs.size, .ref L], []⟩)) _ _ _
  rw [hz1]
  refine wpAny_bind (wpAny_rule ?_)
  refine wpAny_bind ?_
  show wpAny _ A.in1 (updateSeq L (·.push .none) >>= fun _ => updateSeq L (·.pop)) _ _ _
  refine wpAny_bind (wpAny_updateSeq hS2 rfl ?_)
  have hS3 := Heap.get?_update_self (Obj.mapSeq (·.push Value.none)) hS2 rfl
  refine wpAny_updateSeq hS3 rfl ?_
  have hS4 := Heap.get?_update_self (Obj.mapSeq (·.pop)) hS3 rfl
  have oth : ∀ b o, b ≠ L → h2'.get? b = some o → ((h2'.update L (Obj.mapSeq (·.push Value.none))).update L (Obj.mapSeq (·.pop))).get? b = some o :=
    fun b o hb e => (Heap.get?_update_other _ _ (Ne.symm hb)).trans ((Heap.get?_update_other _ _ (Ne.symm hb)).trans e)
  have hz4 : ((h2'.update L (Obj.mapSeq (·.push Value.none))).update L (Obj.mapSeq (·.pop))).objs.size = L + 1 + 1 := by rw [Heap.size_update, Heap.size_update, hz2]
  generalize (h2'.update L (Obj.mapSeq (·.push Value.none))).update L (Obj.mapSeq (·.pop)) = h4 at hS4 oth hz4 ⊢
  have haI : a ≠ L + 1 := Nat.ne_of_lt (Nat.lt_succ_of_lt hlt2)
  have hSf : L ∉ [L + 1, a] := by
    simp only [List.mem_cons, List.not_mem_nil, or_false, not_or]
    exact ⟨by omega, haL⟩
  have W := (walks_set (prog := prog) (A := A.in1) (ep := ep) (I := L + 1) (by simp [hh]) S haI).toS
  refine wpAny_pure ⟨plainId_quiet F.plain_extend_loop _, codeAny_extend_loopS (A := A) W (by rw [S.size, sizeLine_eq]; omega) L hSf (.ref L) es.size 0 { s with heap := h4 } _ _ (by omega) (Nat.zero_le _)
    ⟨⟨0, hI2.kept fun o e => oth _ _ (by omega) e, .inr (below_zero S.tab.rise)⟩, ⟨o, oth _ _ (Ne.symm haL) ho2, hd⟩⟩ hS4 (ItemsOf.nil _) fun s' acc' c' hm hS' hacc => ?_⟩
  show wpAny _ A (load L >>= _) _ _ s'
  refine wpAny_bind (wpAny_load hS' ?_)
  obtain ⟨h', g', d', tk', os'⟩ := s'
  have eg : g' = s.gens := hm.gens
  have ed : d' = s.drawn := hm.drawn
  have eo : os' = s.os := hm.os
  subst eg; subst ed; subst eo
  refine wpAny_pure ?_
  -- what the list holds
  have hsz : acc'.size = es.size := hacc.1
  have hlist : acc'.toList = (ordOf w a ep es).toList.map (·.2) := by
    refine List.ext_getElem (by rw [List.length_map, Array.length_toList, Array.length_toList, hsz, ord_size]) fun i q1 q2 => ?_
    have hi : i < acc'.size := by simpa using q1
    obtain ⟨e, he, hv⟩ := hacc.2 i acc'[i] (Array.getElem?_eq_getElem hi)
    have ho : i < (ordOf w a ep es).size := by rw [ord_size, ← hsz]; exact hi
    rw [Array.getElem?_eq_getElem ho] at he
    cases he
    simp only [Array.getElem_toList, List.getElem_map]
    exact hv
  have hperm := ord_perm w a ep es
  have hint2 : ∀ l : List (Int × Value), (∀ e ∈ l, ∃ i tk, e = (hashInt i, Value.int i tk)) → IntsAre (l.map (·.2)) (l.map intE) := by
    intro l
    induction l with
    | nil => intro _; exact .nil
    | cons e l ih =>
      intro hl
      obtain ⟨i, tk, rfl⟩ := hl e List.mem_cons_self
      exact .cons i tk (ih fun x hx => hl x (List.mem_cons_of_mem _ hx))
  rw [hlist]
  refine hQ h' tk' _ ((ordOf w a ep es).toList.map intE) (hint2 _ fun e he => S.el e (hperm.mem_iff.mp he)) ((hperm.map _).trans S.pm) (fun b o e => ?_) ?_
  · have hb : @LT.lt Nat _ b L := by rw [← hL]; exact Heap.lt_size e
    refine hm.heap b o ?_ (oth b o (by omega) (hold2 b o e))
    simp only [List.mem_cons, List.not_mem_nil, or_false, not_or]
    exact ⟨Nat.ne_of_lt hb, Nat.ne_of_lt (Nat.lt_succ_of_lt hb)⟩
  · have := Heap.lt_size hS'
    rw [hL]
    exact Nat.le_of_lt this
end
end Mine
end
section
open PySem PySem.W PyProof.Rows PySem.Calls
set_option linter.unusedVariables false
set_option linter.unusedSectionVars false
set_option maxRecDepth 100000
namespace Mine
theorem le_strict : ∀ {xs : List Int}, xs.Pairwise (· ≤ ·) → xs.Nodup → xs.Pairwise (· < ·)
  | [], _, _ => .nil
  | x :: xs, h, n => by
    rw [List.pairwise_cons] at h ⊢
    rw [List.nodup_cons] at n
    refine ⟨fun y hy => ?_, le_strict h.2 n.2⟩
    have h1 := h.1 y hy
    have h2 : x ≠ y := fun e => n.1 (e ▸ hy)
    omega
section
variable {prog : Program} {w : World} {A : Around} {E : Value → Shared → Prop} {s : Shared} {a : Addr} {xs : List Int}
theorem sorted_S {fz : Bool} (hh : A.handled = none) (ha : IsS s.heap a fz (ldW w) xs) {Q : Value → Shared → Prop}
    (hQ : ∀ h' tk b out e, h'.get? b = some (seqObj "list" out e) → s.heap.get? b = none → IntsAre out.toList xs → (∀ b o, s.heap.get? b = some o → h'.get? b = some o) → Q (.ref b) { s with heap := h', toks := tk }) :
    wpAny (model prog w) A (call (.builtin "sorted") [.ref a]) Q E s := by
  have h32 : xs.length ≤ 32 := small_len ha.srt ha.dom
  have hsrt := ha.srt
  refine Calls.call_function_entry kind_sorted plain_sorted entry_sorted (args_sorted1 _) ?_
  unfold Builtin.«sorted»
  refine wpAny_bind (m := checkCount "sorted" 1 1 _) (wpAny_pure ?_)
  refine wpAny_bind (collect_S (by simp [hh]) ha fun h1 tk vs ns hI hp hk hsz => ?_)
  refine wpAny_bind (wpAny_newList ?_ (by rw [sizeLine_eq]; have := IntsAre.length hI; have := hp.length_eq; omega))
  have hv64 : vs.length < 64 := by have := IntsAre.length hI; have := hp.length_eq; omega
  have hoL : (h1.push (seqObj "list" vs.toArray 0)).get? h1.objs.size = some (seqObj "list" vs.toArray 0) := Heap.get?_push_size _ rfl
  show wpAny _ _ _ _ _ { s with heap := h1.push (seqObj "list" vs.toArray 0), toks := tk }
  refine wpAny_bind (wpAny_holding (wpAny_call_entry (s := { s with heap := h1.push (seqObj "list" vs.toArray 0), toks := tk }) slot_list_sort ⟨_, hoL, rfl⟩ entry_list_sort (list_sort_tree (s := { s with heap := h1.push (seqObj "list" vs.toArray 0), toks := tk }) hoL hI hv64 fun out ns' a1 a2 a3 => ⟨_, rfl, ?_⟩) (args_list_sort _)))
  obtain ⟨e, he⟩ := sortedHeap_at (out := out) hoL
  have hn : ns' = xs := by
    have p := a2.trans hp
    exact sorted_ext (le_strict a3 (p.nodup_iff.mpr (lt_nodup hsrt))) hsrt fun i => p.mem_iff
  subst hn
  refine wpAny_pure ⟨_, rfl, hQ _ tk h1.objs.size out e he ?_ a1 fun b o eb => ?_⟩
  · cases q : s.heap.get? h1.objs.size with
    | none => rfl
    | some o => exact absurd (Heap.lt_size (hk _ _ q)) (Nat.lt_irrefl _)
  · have h2 := hk b o eb
    have hb := Heap.lt_size h2
    rw [sortedHeap_old (Nat.ne_of_lt hb) (by rw [Heap.size_push]; exact Nat.lt_succ_of_lt hb)]
    exact Heap.get?_push_of_some _ h2
end
end Mine
end
section
open PySem PySem.W PyProof.Rows PySem.Calls
namespace Mine
set_option linter.unusedVariables false
set_option maxRecDepth 100000
/- a dict that is gone over, its keys unknown -/
section
variable {prog : Program} {w : World} {A : Around} {E : Value → Shared → Prop} {s : Shared} {d I : Addr} {es : Array DictEntry} {ep i : Nat}
/- a dict of int keys is filled -/
end
end Mine
end
section
open PySem PySem.W PyProof.Rows
namespace Mine

/-- kinds of iterators -/
inductive IK where
  | list | tuple | range
deriving DecidableEq, Inhabited

/-- plain values -/
inductive AV where
  | none
  | bool (b : Bool)
  | int (i : Int)
  | float (x : UInt64)
  | str (s : Str)
  | bytes (b : Array UInt8)
  | type (n : String)
  | range (a b s : Int)
  | tup (xs : List AV)
  | lst (xs : List AV)
  | set (fz ld : Bool) (xs : List Int)
  | ptr (n : Nat)
  | itr (k : IK) (xs : List AV)
  | fn (id : String)
  | dict (n : Nat)
  | sm (ld : Bool) (n : Nat)
  | bag (xs : List Int)
  | any
deriving Inhabited

/-- what can turn -/
inductive MO where
  | lst (xs : List AV)
  | itr (k : IK) (xs : List AV)
  | set (ld : Bool) (xs : List Int)
deriving Inhabited

/-- what is seen -/
structure Vw where
  r : Addr → Value → Data → Prop
  m : Nat → Option Addr
structure Vw.Le (R R' : Vw) : Prop where
  r : ∀ a c d, R.r a c d → R'.r a c d
  m : ∀ n a, R.m n = some a → R'.m n = some a
theorem Vw.Le.trans {R R' R'' : Vw} (a : R.Le R') (b : R'.Le R'') : R.Le R'' := ⟨fun _ _ _ h => b.r _ _ _ (a.r _ _ _ h), fun _ _ h => b.m _ _ (a.m _ _ h)⟩

mutual
noncomputable def Rep (R : Vw) : Value → AV → Prop
  | v, .none => v = .none
  | v, .bool b => v = .bool b
  | v, .int i => ∃ t, v = .int i t
  | v, .float x => ∃ t, v = .float x t
  | v, .str s => ∃ t, v = .str s t
  | v, .bytes b => ∃ t, v = .bytes b t
  | v, .type n => v = .type n
  | v, .fn n => v = .builtin n
  | _, .any => True
  | v, .dict n => ∃ a es ep, v = .ref a ∧ R.r a (.type "dict") (.dict es ep) ∧ es.size = n ∧ (a == sysModules) = false
  | v, .sm ld n => ∃ a es ep t, v = .ref a ∧ R.r a (.type "set") (.set es ep t) ∧ es.size = n ∧ SetIt ld es t
  | v, .ptr n => ∃ a, R.m n = some a ∧ v = .ref a
  | _, .itr _ _ => False
  | v, .range a b s => ∃ r ta tb ts, v = .ref r ∧ R.r r (.type "range") (.fields #[.int a ta, .int b tb, .int s ts])
  | v, .set fz ld xs => ∃ a es ep t, v = .ref a ∧ R.r a (.type (setName fz)) (.set es ep t) ∧ SetG ld es t xs
  | v, .bag xs => ∃ (ns : List Int) (a : Addr) (vs : List Value) (n : Nat), ns.Perm xs ∧ ns.length ≤ 1048576 ∧ v = .ref a ∧ R.r a (.type "list") (.seq (List.toArray vs) n) ∧ IntsAre vs ns
  | v, .tup xs => xs.length ≤ 1048576 ∧ ∃ a vs n, v = .ref a ∧ R.r a (.type "tuple") (.seq (List.toArray vs) n) ∧ RepL R vs xs
  | v, .lst xs => xs.length ≤ 1048576 ∧ ∃ a vs n, v = .ref a ∧ R.r a (.type "list") (.seq (List.toArray vs) n) ∧ RepL R vs xs
noncomputable def RepL (R : Vw) : List Value → List AV → Prop
  | [], [] => True
  | v :: vs, x :: xs => Rep R v x ∧ RepL R vs xs
  | [], _ :: _ => False
  | _ :: _, [] => False
end

mutual
theorem Rep.mono {R R' : Vw} (h : R.Le R') : ∀ {x : AV} {v : Value}, Rep R v x → Rep R' v x
  | .none, _, r => by simpa [Rep] using r
  | .bool _, _, r => by simpa [Rep] using r
  | .int _, _, r => by simpa [Rep] using r
  | .float _, _, r => by simpa [Rep] using r
  | .str _, _, r => by simpa [Rep] using r
  | .bytes _, _, r => by simpa [Rep] using r
  | .type _, _, r => by simpa [Rep] using r
  | .fn _, _, r => by simpa [Rep] using r
  | .any, _, _ => by simp [Rep]
  | .dict _, _, r => by
    simp only [Rep] at r ⊢
    obtain ⟨a, es, ep, e, k, q⟩ := r
    exact ⟨a, es, ep, e, h.r _ _ _ k, q⟩
  | .sm _ _, _, r => by
    simp only [Rep] at r ⊢
    obtain ⟨a, es, ep, t, e, k, q⟩ := r
    exact ⟨a, es, ep, t, e, h.r _ _ _ k, q⟩
  | .itr _ _, _, r => by simp [Rep] at r
  | .ptr _, _, r => by
    simp only [Rep] at r ⊢
    obtain ⟨a, e, q⟩ := r
    exact ⟨a, h.m _ _ e, q⟩
  | .range _ _ _, _, r => by
    simp only [Rep] at r ⊢
    obtain ⟨r, ta, tb, ts, e, k⟩ := r
    exact ⟨r, ta, tb, ts, e, h.r _ _ _ k⟩
  | .set _ _ _, _, r => by
    simp only [Rep] at r ⊢
    obtain ⟨a, es, ep, t, e, k, q⟩ := r
    exact ⟨a, es, ep, t, e, h.r _ _ _ k, q⟩
  | .bag _, _, r => by
    simp only [Rep] at r ⊢
    obtain ⟨ns, a, vs, n, p, z, e, k, q⟩ := r
    exact ⟨ns, a, vs, n, p, z, e, h.r _ _ _ k, q⟩
  | .tup xs, _, r => by
    simp only [Rep] at r ⊢
    obtain ⟨z, a, vs, n, e, k, l⟩ := r
    exact ⟨z, a, vs, n, e, h.r _ _ _ k, RepL.mono h l⟩
  | .lst xs, _, r => by
    simp only [Rep] at r ⊢
    obtain ⟨z, a, vs, n, e, k, l⟩ := r
    exact ⟨z, a, vs, n, e, h.r _ _ _ k, RepL.mono h l⟩
theorem RepL.mono {R R' : Vw} (h : R.Le R') : ∀ {xs : List AV} {vs : List Value}, RepL R vs xs → RepL R' vs xs
  | [], [], _ => by simp [RepL]
  | [], _ :: _, r => by simp [RepL] at r
  | _ :: _, [], r => by simp [RepL] at r
  | x :: xs, v :: vs, r => by
    simp only [RepL] at r ⊢
    exact ⟨Rep.mono h r.1, RepL.mono h r.2⟩
end

theorem RepL.length {R : Vw} : ∀ {xs : List AV} {vs : List Value}, RepL R vs xs → vs.length = xs.length
  | [], [], _ => rfl
  | [], _ :: _, r => by simp [RepL] at r
  | _ :: _, [], r => by simp [RepL] at r
  | x :: xs, v :: vs, r => by
    simp only [RepL] at r
    simp [RepL.length r.2]
theorem RepL.get {R : Vw} : ∀ {xs : List AV} {vs : List Value} {i : Nat} {x : AV}, RepL R vs xs → xs[i]? = some x → ∃ v, vs[i]? = some v ∧ Rep R v x
  | [], _, _, _, _, h => by simp at h
  | _ :: _, [], _, _, r, _ => by simp [RepL] at r
  | x :: xs, v :: vs, i, y, r, h => by
    simp only [RepL] at r
    cases i with
    | zero => simp at h; subst h; exact ⟨v, by simp, r.1⟩
    | succ i => simp at h ⊢; exact RepL.get r.2 h
theorem RepL.append {R : Vw} : ∀ {xs ys : List AV} {vs ws : List Value}, RepL R vs xs → RepL R ws ys → RepL R (vs ++ ws) (xs ++ ys)
  | [], _, [], _, _, r => by simpa using r
  | [], _, _ :: _, _, r, _ => by simp [RepL] at r
  | _ :: _, _, [], _, r, _ => by simp [RepL] at r
  | x :: xs, ys, v :: vs, ws, r, q => by
    simp only [RepL, List.cons_append] at r ⊢
    exact ⟨r.1, RepL.append r.2 q⟩
/-- what is hidden, and the things that can turn, by number -/
structure Hd where
  p : Addr → Prop
  m : Nat → Option Addr
  o : Nat → Option Addr
noncomputable def Hd.add (H : Hd) (q : Addr → Prop) : Hd := ⟨fun b => H.p b ∨ q b, H.m, H.o⟩

noncomputable def okC (c : Value) : Prop := c = .type "list" ∨ c = .type "tuple" ∨ c = .type "range" ∨ c = .type "set" ∨ c = .type "frozenset" ∨ c = .type "dict"
noncomputable def vis (h : Heap) (H : Hd) : Vw := ⟨fun a c d => ¬ H.p a ∧ ∃ o, h.get? a = some o ∧ o.cls = c ∧ o.data = d ∧ o.dict = none ∧ okC c ∧ ((∃ fs, d = .fields fs) → o.slots = #[]), H.m⟩
/-- a list's object -/
noncomputable def IsL (h : Heap) (a : Addr) (vs : List Value) : Prop := ∃ o n, h.get? a = some o ∧ o.cls = .type "list" ∧ o.data = .seq (List.toArray vs) n ∧ o.dict = none
theorem IsL.isList {h : Heap} {a : Addr} {vs : List Value} (x : IsL h a vs) : h.IsList a (List.toArray vs) := let ⟨o, n, e, c, d, _⟩ := x; ⟨o, e, c, n, d⟩
theorem IsL.at {h h' : Heap} {a : Addr} {vs : List Value} (x : IsL h a vs) (k : ∀ o, h.get? a = some o → ∃ sl, h'.get? a = some { o with slots := sl }) : IsL h' a vs := let ⟨o, n, e, c, d, f⟩ := x; let ⟨_, q⟩ := k o e; ⟨_, n, q, c, d, f⟩
theorem IsL.at' {h h' : Heap} {a : Addr} {vs : List Value} (x : IsL h a vs) (k : ∀ o, h.get? a = some o → h'.get? a = some o) : IsL h' a vs := let ⟨o, n, e, c, d, f⟩ := x; ⟨o, n, k o e, c, d, f⟩
noncomputable def IK.cls : IK → String
  | .list => "list_iterator" | .tuple => "tuple_iterator" | .range => "range_iterator"
/-- an iterator's object, with what it goes over -/
noncomputable def IsI (h : Heap) (R : Vw) (a : Addr) (k : IK) (xs : List AV) : Prop := ∃ o, h.get? a = some o ∧ o.cls = .type k.cls ∧ match k with
  | .list => (xs = [] ∧ ∃ t, o.data = .fields #[.none, .int t 0]) ∨ ∃ l vs n i, o.data = .fields #[.ref l, .int (i : Nat) 0] ∧ R.r l (.type "list") (.seq (List.toArray vs) n) ∧ vs.length ≤ 1048576 ∧ RepL R (vs.drop i) xs
  | .tuple => (xs = [] ∧ ∃ t, o.data = .fields #[.none, .int t 0]) ∨ ∃ l vs n i, o.data = .fields #[.ref l, .int (i : Nat) 0] ∧ R.r l (.type "tuple") (.seq (List.toArray vs) n) ∧ vs.length ≤ 1048576 ∧ RepL R (vs.drop i) xs
  | .range => ∃ cur left st, IsRangeIter h a cur left st ∧ 0 ≤ left ∧ left ≤ 1048576 ∧ xs = (List.range left.toNat).map fun (i : Nat) => AV.int (cur + i * st)
noncomputable def RepM (h : Heap) (R : Vw) (a : Addr) : MO → Prop
  | .lst xs => xs.length ≤ 1048576 ∧ ∃ vs, IsL h a vs ∧ RepL R vs xs
  | .itr k xs => IsI h R a k xs
  | .set ld xs => IsS h a false ld xs

/-- kept, frames up to their slots -/
noncomputable def Kh (F : Addr → Prop) (h h' : Heap) : Prop := ∀ b o, h.get? b = some o → ((¬ F b ∨ ∃ fs, o.data = .fields fs) → h'.get? b = some o) ∧ ∃ sl, h'.get? b = some { o with slots := sl }
/-- kept, but for what is written -/
noncomputable def Kv (F W : Addr → Prop) (h h' : Heap) : Prop := ∀ b o, ¬ W b → h.get? b = some o → ((¬ F b ∨ ∃ fs, o.data = .fields fs) → h'.get? b = some o) ∧ ∃ sl, h'.get? b = some { o with slots := sl }

theorem Kh.of_keeps {F : Addr → Prop} {h h' : Heap} (k : ∀ b o, h.get? b = some o → h'.get? b = some o) : Kh F h h' := fun b o e => ⟨fun _ => k b o e, o.slots, k b o e⟩
theorem Kh.refl (F : Addr → Prop) (h : Heap) : Kh F h h := Kh.of_keeps fun _ _ e => e
theorem Kh.trans {F : Addr → Prop} {h₁ h₂ h₃ : Heap} (x : Kh F h₁ h₂) (y : Kh F h₂ h₃) : Kh F h₁ h₃ := fun b o e =>
  ⟨fun n => (y b o ((x b o e).1 n)).1 n, by obtain ⟨sl, e₂⟩ := (x b o e).2; obtain ⟨sl', e₃⟩ := (y b _ e₂).2; exact ⟨sl', e₃⟩⟩
theorem Kh.ns {F : Addr → Prop} {h h' : Heap} (x : Kh F h h') {a : Addr} {m : Str → Option Value} (n : h.Ns a m) : h'.Ns a m := by
  obtain ⟨o, es, ep, e, d, r⟩ := n
  obtain ⟨sl, q⟩ := (x a o e).2
  exact ⟨_, es, ep, q, d, r⟩
theorem Kh.cell {F : Addr → Prop} {h h' : Heap} (x : Kh F h h') {a : Addr} {v : Option Value} (n : h.IsCell a v) : h'.IsCell a v := by
  obtain ⟨o, e, d⟩ := n
  obtain ⟨sl, q⟩ := (x a o e).2
  exact ⟨_, q, d⟩
theorem Kh.isL {F : Addr → Prop} {h h' : Heap} (x : Kh F h h') {a : Addr} {v : List Value} (n : IsL h a v) : IsL h' a v := n.at fun o e => (x a o e).2
theorem Kv.refl (F W : Addr → Prop) (h : Heap) : Kv F W h h := fun _ o _ e => ⟨fun _ => e, o.slots, e⟩
theorem Kv.trans {F W : Addr → Prop} {h₁ h₂ h₃ : Heap} (x : Kv F W h₁ h₂) (y : Kv F W h₂ h₃) : Kv F W h₁ h₃ := fun b o w e =>
  ⟨fun n => (y b o w ((x b o w e).1 n)).1 n, by obtain ⟨sl, e₂⟩ := (x b o w e).2; obtain ⟨sl', e₃⟩ := (y b _ w e₂).2; exact ⟨sl', e₃⟩⟩
theorem Kh.kv {F W : Addr → Prop} {h h' : Heap} (k : Kh F h h') : Kv F W h h' := fun b o _ e => k b o e
theorem Kv.kh {F W : Addr → Prop} {h h' : Heap} (k : Kv F W h h') (n : ∀ b o, h.get? b = some o → ¬ W b) : Kh F h h' := fun b o e => k b o (n b o e) e
theorem Kv.mono {F W W' : Addr → Prop} {h h' : Heap} (k : Kv F W h h') (w : ∀ b, W b → W' b) : Kv F W' h h' := fun b o n e => k b o (fun q => n (w b q)) e
theorem Kv.vis {F W : Addr → Prop} {H : Hd} {h h' : Heap} (x : Kv F W h h') (w : ∀ b, W b → H.p b) : (vis h H).Le (Mine.vis h' H) := ⟨by
  rintro a c d ⟨n, o, e, r1, r2, r3, r4, r5⟩
  by_cases hd : ∃ fs, d = .fields fs
  · exact ⟨n, o, (x a o (fun k => n (w a k)) e).1 (.inr (by rw [r2]; exact hd)), r1, r2, r3, r4, r5⟩
  · obtain ⟨sl, q⟩ := (x a o (fun k => n (w a k)) e).2
    exact ⟨n, _, q, r1, r2, r3, r4, fun z => absurd z hd⟩, fun _ _ e => e⟩
theorem Kv.of_sameBut {F W : Addr → Prop} {h h' : Heap} {a : Addr} (x : Heap.SameBut a h h') (w : W a) : Kv F W h h' := fun b o n e => by
  have : h'.get? b = some o := (x.2 b (fun q => n (q ▸ w))).trans e
  exact ⟨fun _ => this, o.slots, this⟩
theorem Kv.of_but {F W : Addr → Prop} {h h' : Heap} {a : Addr} (x : ∀ b o, b ≠ a → h.get? b = some o → h'.get? b = some o) (w : W a) : Kv F W h h' := fun b o n e => by
  have := x b o (fun q => n (q ▸ w)) e
  exact ⟨fun _ => this, o.slots, this⟩
theorem Kh.vis {F : Addr → Prop} {H : Hd} {h h' : Heap} (x : Kh F h h') : (vis h H).Le (Mine.vis h' H) := (x.kv (W := fun _ => False)).vis fun _ z => z.elim
theorem vis_hide {H H' : Hd} {h : Heap} (k : ∀ b, H.p b → H'.p b) (m : ∀ n a, H'.m n = some a → H.m n = some a) : (vis h H').Le (vis h H) := ⟨fun _ _ _ x => ⟨fun q => x.1 (k _ q), x.2⟩, m⟩

/-- iterators, sets and lists stay -/
theorem IsI.kv {F W : Addr → Prop} {h h' : Heap} {R R' : Vw} {a : Addr} {k : IK} {xs : List AV} (x : IsI h R a k xs) (kv : Kv F W h h') (hw : ¬ W a) (le : R.Le R') : IsI h' R' a k xs := by
  obtain ⟨o, e, c, r⟩ := x
  have fl : (∃ fs, o.data = .fields fs) → h'.get? a = some o := fun z => (kv a o hw e).1 (.inr z)
  cases k with
  | list =>
    rcases r with ⟨rfl, t, d⟩ | ⟨l, vs, n, i, d, v, z, q⟩
    · exact ⟨o, fl ⟨_, d⟩, c, .inl ⟨rfl, t, d⟩⟩
    · exact ⟨o, fl ⟨_, d⟩, c, .inr ⟨l, vs, n, i, d, le.r _ _ _ v, z, RepL.mono le q⟩⟩
  | tuple =>
    rcases r with ⟨rfl, t, d⟩ | ⟨l, vs, n, i, d, v, z, q⟩
    · exact ⟨o, fl ⟨_, d⟩, c, .inl ⟨rfl, t, d⟩⟩
    · exact ⟨o, fl ⟨_, d⟩, c, .inr ⟨l, vs, n, i, d, le.r _ _ _ v, z, RepL.mono le q⟩⟩
  | range =>
    obtain ⟨cur, left, st, it, z1, z2, q⟩ := r
    have e2 : h.get? a = _ := it
    rw [e] at e2
    cases e2
    exact ⟨_, fl ⟨_, rfl⟩, c, cur, left, st, fl ⟨_, rfl⟩, z1, z2, q⟩
theorem IsS.kv {F W : Addr → Prop} {h h' : Heap} {a : Addr} {fz ld : Bool} {xs : List Int} (x : IsS h a fz ld xs) (kv : Kv F W h h') (hw : ¬ W a) : IsS h' a fz ld xs := by
  obtain ⟨o, es, ep, t, e, c, dn, d, r⟩ := x
  obtain ⟨sl, q⟩ := (kv a o hw e).2
  exact ⟨_, es, ep, t, q, c, dn, d, r⟩
theorem RepM.kv {F W : Addr → Prop} {h h' : Heap} {R R' : Vw} {a : Addr} (kv : Kv F W h h') (hw : ¬ W a) (le : R.Le R') : ∀ {mo : MO}, RepM h R a mo → RepM h' R' a mo
  | .lst _, ⟨z, vs, l, r⟩ => ⟨z, vs, l.at fun o e => (kv a o hw e).2, RepL.mono le r⟩
  | .itr _ _, r => IsI.kv r kv hw le
  | .set _ _, r => IsS.kv r kv hw
/-- what can turn is no frame's part -/
theorem RepM.data {h : Heap} {R : Vw} {a : Addr} : ∀ {mo : MO}, RepM h R a mo → ∃ o, h.get? a = some o ∧ (∀ es ep, o.data ≠ .dict es ep) ∧ (∀ v, o.data ≠ .cell v) ∧ (∀ f, o.data ≠ .func f)
  | .lst _, ⟨_, _, ⟨o, n, e, _, d, _⟩, _⟩ => ⟨o, e, fun _ _ z => by (rw [d] at z; cases z), fun _ z => by (rw [d] at z; cases z), fun _ z => by (rw [d] at z; cases z)⟩
  | .set _ _, ⟨o, es, ep, t, e, _, _, d, _⟩ => ⟨o, e, fun _ _ z => by (rw [d] at z; cases z), fun _ z => by (rw [d] at z; cases z), fun _ z => by (rw [d] at z; cases z)⟩
  | .itr k _, r => by
    obtain ⟨o, e, _, r⟩ := r
    have : ∃ fs, o.data = .fields fs := by
      cases k with
      | list => rcases r with ⟨_, t, d⟩ | ⟨l, vs, n, i, d, _⟩ <;> exact ⟨_, d⟩
      | tuple => rcases r with ⟨_, t, d⟩ | ⟨l, vs, n, i, d, _⟩ <;> exact ⟨_, d⟩
      | range =>
        obtain ⟨cur, left, st, it, _⟩ := r
        have e2 : h.get? a = _ := it
        rw [e] at e2; cases e2
        exact ⟨_, rfl⟩
    obtain ⟨fs, d⟩ := this
    exact ⟨o, e, fun _ _ z => by (rw [d] at z; cases z), fun _ z => by (rw [d] at z; cases z), fun _ z => by (rw [d] at z; cases z)⟩

/-- what the law's run stands upon -/
structure Cx where
  prog : Program
  w : World
  h0 : Heap
  mg : Str → Option Value
  mb : Str → Option Value
  g : h0.Ns mainGlobals mg
  b : h0.Ns builtinsNs mb
  builtins : ∀ x : Str, x ≠ "__name__" → mb x = bootBuiltins x
  nolimit : h0.NoLimit

abbrev Cx.M (c : Cx) : Model := model c.prog c.w

/-- the frames' own addresses -/
noncomputable def FrA (A : Around) (b : Addr) : Prop := ∃ l, A.frames = some l ∧ b ∈ l.filterMap (·.frame)

/-- one state after another, nothing turned -/
noncomputable def Kp (A : Around) (s s' : Shared) : Prop := ∃ h' tk, s' = { s with heap := h', toks := tk } ∧ Kh (FrA A) s.heap h'
theorem Kp.refl (A : Around) (s : Shared) : Kp A s s := ⟨s.heap, s.toks, rfl, Kh.refl _ _⟩
theorem Kp.trans {A : Around} {s₁ s₂ s₃ : Shared} (x : Kp A s₁ s₂) (y : Kp A s₂ s₃) : Kp A s₁ s₃ := by
  obtain ⟨h, t, rfl, k⟩ := x
  obtain ⟨h', t', rfl, k'⟩ := y
  exact ⟨h', t', rfl, k.trans k'⟩
theorem Kp.kh {A : Around} {s s' : Shared} (x : Kp A s s') : Kh (FrA A) s.heap s'.heap := by
  obtain ⟨h, t, rfl, k⟩ := x
  exact k
theorem Kp.of {A : Around} {s : Shared} {h' : Heap} {tk : Nat} (k : ∀ b o, s.heap.get? b = some o → h'.get? b = some o) : Kp A s { s with heap := h', toks := tk } := ⟨h', tk, rfl, Kh.of_keeps k⟩
theorem Kp.toks {A : Around} {s : Shared} {tk : Nat} : Kp A s { s with toks := tk } := ⟨s.heap, tk, rfl, Kh.refl _ _⟩
/-- how a frame began: its heap, what was hidden, what of it may be written -/
structure FE where
  h : Heap
  H : Hd
  w : Addr → Prop

/-- a slot: a value, or a list that the frame alone holds -/
inductive Ent where
  | val (v : AV)
  | own (xs : List AV)
deriving Inhabited
noncomputable def RepE (h : Heap) (H : Hd) (i : Nat) (v : Value) : Ent → Prop
  | .val av => Rep (vis h H) v av
  | .own xs => xs.length ≤ 1048576 ∧ ∃ a vs, v = .ref a ∧ H.o i = some a ∧ IsL h a vs ∧ RepL (vis h H) vs xs
theorem RepE.mono {h h' : Heap} {H H' : Hd} {i : Nat} {v : Value} (le : (vis h H).Le (vis h' H')) (ho : ∀ a, H.o i = some a → H'.o i = some a) (hl : ∀ a vs, H.o i = some a → IsL h a vs → IsL h' a vs) : ∀ {t : Ent}, RepE h H i v t → RepE h' H' i v t
  | .val _, r => Rep.mono le r
  | .own _, ⟨z, a, vs, e, o, l, r⟩ => ⟨z, a, vs, e, ho a o, hl a vs o l, RepL.mono le r⟩

/-- a frame's state: slots, what can turn, from where on it may be written, how many there were -/
structure Fs where
  ρ : List (Option Ent)
  σ : List (Option MO)
  lo : Nat
  n0 : Nat

noncomputable def NV (h : Heap) (env : Env) (x : Str) (v : Value) : Prop :=
  (env.kindOf x = some .local ∧ ∃ m, h.Ns env.locals m ∧ m x = some v) ∨ (env.kindOf x = some .cell ∧ ∃ cc, env.cells.lookup x = some cc ∧ h.IsCell cc (some v))

theorem Ns_uniq {h : Heap} {a : Addr} {m m' : Str → Option Value} (x : h.Ns a m) (y : h.Ns a m') : m = m' := by
  obtain ⟨o, es, ep, e, d, _, r⟩ := x
  obtain ⟨o', es', ep', e', d', _, r'⟩ := y
  rw [e] at e'; cases e'
  rw [d] at d'; cases d'
  funext n
  rw [← r n, ← r' n]
theorem NV.kh {F : Addr → Prop} {h h' : Heap} {env : Env} {x : Str} {v : Value} (k : Kh F h h') (a : NV h env x v) : NV h' env x v := by
  rcases a with ⟨kk, m, n, e⟩ | ⟨kk, cc, n, e⟩
  · exact .inl ⟨kk, m, k.ns n, e⟩
  · exact .inr ⟨kk, cc, n, k.cell e⟩

/-- the things that can turn stand in the heap -/
structure Sto (σ : List (Option MO)) (H : Hd) (h : Heap) : Prop where
  at' : ∀ n mo, σ[n]? = some (some mo) → ∃ a, H.m n = some a ∧ RepM h (vis h H) a mo
  inj : ∀ n n' a, H.m n = some a → H.m n' = some a → n = n'
  lt : ∀ n a, H.m n = some a → n < σ.length
  hid : ∀ n a mo, σ[n]? = some (some mo) → H.m n = some a → H.p a
  al : ∀ n a, H.m n = some a → ∃ o, h.get? a = some o
  tot : ∀ n a, H.m n = some a → ∃ mo, σ[n]? = some (some mo)
theorem Sto.kh {F : Addr → Prop} {σ : List (Option MO)} {H : Hd} {h h' : Heap} (S : Sto σ H h) (k : Kh F h h') : Sto σ H h' :=
  ⟨fun n mo e => let ⟨a, q, r⟩ := S.at' n mo e; ⟨a, q, r.kv (k.kv (W := fun _ => False)) id k.vis⟩, S.inj, S.lt, S.hid, fun n a e => let ⟨_, q⟩ := S.al n a e; let ⟨_, q'⟩ := (k a _ q).2; ⟨_, q'⟩, S.tot⟩

/-- a frame -/
structure Fm (c : Cx) (F : Addr → Prop) (names : List Str) (env : Env) (st : Fs) (fe : FE) (H : Hd) (h : Heap) : Prop where
  keep : Kv F fe.w fe.h h
  wsub : ∀ b, fe.w b → fe.H.p b
  base : c.h0.StaysIn fe.h
  baseF : ∀ b, F b → c.h0.get? b = none
  basew : ∀ b, fe.w b → c.h0.get? b = none
  hle : ∀ b, fe.H.p b → H.p b
  mle : ∀ n a, fe.H.m n = some a → H.m n = some a
  mold : ∀ n a, n < st.n0 → H.m n = some a → fe.H.m n = some a
  mnew : ∀ n a, st.n0 ≤ n → H.m n = some a → fe.h.get? a = none
  mw : ∀ n a mo, n < st.n0 → st.lo ≤ n → st.σ[n]? = some (some mo) → H.m n = some a → fe.w a
  hlt : ∀ b, H.p b → ∃ o, h.get? b = some o
  felt : ∀ b, fe.H.p b → ∃ o, fe.h.get? b = some o
  wlt : ∀ b, fe.w b → ∃ o, fe.h.get? b = some o
  kind : env.scope.kind = .function
  glob : env.globals = mainGlobals
  bi : env.builtins = builtinsNs
  code : ∃ cd o vs, env.code = .ref cd ∧ c.h0.get? cd = some o ∧ o.data = .fields vs
  ns : ∃ m, h.Ns env.locals m
  hl : H.p env.locals
  lnew : fe.h.get? env.locals = none
  hc : ∀ x cc, env.kindOf x = some .cell → env.cells.lookup x = some cc → H.p cc ∧ fe.h.get? cc = none
  cl : ∀ x, env.kindOf x = some .cell → ∃ cc v, env.cells.lookup x = some cc ∧ h.IsCell cc v
  capart : ∀ x y cc, env.cells.lookup x = some cc → env.cells.lookup y = some cc → x = y
  vals : ∀ (i : Nat) x t, names[i]? = some x → st.ρ[i]? = some (some t) → ∃ v, NV h env x v ∧ RepE h H i v t
  own : ∀ i a, H.o i = some a → H.p a ∧ fe.h.get? a = none ∧ (∀ n, H.m n ≠ some a) ∧ ∃ vs, IsL h a vs
  oinj : ∀ i j a, H.o i = some a → H.o j = some a → i = j
  sto : Sto st.σ H h
  mh0 : ∀ n a, H.m n = some a → c.h0.get? a = none
  n0le : st.n0 ≤ st.σ.length

theorem Kv.nw {F W : Addr → Prop} {h h' : Heap} (k : Kv F W h h') (n : ∀ b, W b → ∃ o, h'.get? b = some o) {b : Addr} {o : Obj} (e : h.get? b = some o) : ∃ o', h'.get? b = some o' := by
  by_cases w : W b
  · exact n b w
  · obtain ⟨sl, q⟩ := (k b o w e).2; exact ⟨_, q⟩
theorem none_back {F : Addr → Prop} {h h' : Heap} (k : Kh F h h') {b : Addr} (e : h'.get? b = none) : h.get? b = none := by
  cases q : h.get? b with
  | none => rfl
  | some o => obtain ⟨sl, r⟩ := (k b o q).2; rw [e] at r; cases r

theorem Fm.step {c : Cx} {F : Addr → Prop} {names : List Str} {env : Env} {st : Fs} {fe : FE} {H : Hd} {h h' : Heap} (X : Fm c F names env st fe H h) (k : Kh F h h') : Fm c F names env st fe H h' where
  keep := X.keep.trans k.kv
  wsub := X.wsub
  base := X.base
  baseF := X.baseF
  basew := X.basew
  hle := X.hle
  mle := X.mle
  mold := X.mold
  mnew := X.mnew
  mw := X.mw
  hlt := fun b q => let ⟨o, e⟩ := X.hlt b q; let ⟨sl, e'⟩ := (k b o e).2; ⟨_, e'⟩
  felt := X.felt
  wlt := X.wlt
  kind := X.kind
  glob := X.glob
  bi := X.bi
  code := X.code
  ns := let ⟨m, n⟩ := X.ns; ⟨m, k.ns n⟩
  hl := X.hl
  lnew := X.lnew
  hc := X.hc
  cl := fun x q => let ⟨cc, v, e, n⟩ := X.cl x q; ⟨cc, v, e, k.cell n⟩
  capart := X.capart
  vals := fun i x t a b => let ⟨v, n, r⟩ := X.vals i x t a b; ⟨v, n.kh k, r.mono k.vis (fun _ e => e) fun a vs _ l => k.isL l⟩
  own := fun i a e => let ⟨p, q, r, vs, l⟩ := X.own i a e; ⟨p, q, r, vs, k.isL l⟩
  oinj := X.oinj
  sto := X.sto.kh k
  mh0 := X.mh0
  n0le := X.n0le
end Mine
end
section
open PySem PySem.W PyProof.Rows
namespace Mine

/-- the exceptions that are served -/
inductive EX where
  | zde | ofe | te | ve | ae
deriving DecidableEq, Inhabited
noncomputable def EX.name : EX → String
  | zde => "ZeroDivisionError" | ofe => "OverflowError" | te => "TypeError" | ve => "ValueError" | ae => "AttributeError"

inductive Res where
  | ok (v : AV)
  | exc (cls : EX)
  | stuck
deriving Inhabited

structure Rm (c : Cx) (q : Bool) (k : Nat) (A : Around) (h : Heap) : Prop where
  depth : A.depth + k < recursionLimit
  units : A.units + 8 * k < cLine
  hand : q = true → A.handled = none
  frames : ∃ l, A.frames = some l ∧ h.FunFrames c.h0 l

/-- frames' tables stay tables -/
noncomputable def Nf (h h' : Heap) : Prop := ∀ b o, h.get? b = some o → (∀ vs, o.data ≠ .fields vs) → ∃ o', h'.get? b = some o' ∧ ∀ vs, o'.data ≠ .fields vs
theorem Kh.nf {F : Addr → Prop} {h h' : Heap} (k : Kh F h h') : Nf h h' := fun b o e n => by
  obtain ⟨sl, q⟩ := (k b o e).2
  exact ⟨_, q, n⟩
theorem Nf.trans {h₁ h₂ h₃ : Heap} (x : Nf h₁ h₂) (y : Nf h₂ h₃) : Nf h₁ h₃ := fun b o e n => let ⟨o', e', n'⟩ := x b o e n; y b o' e' n'
theorem Nf.frames {h h' base : Heap} (k : Nf h h') : ∀ {l : List Env}, h.FunFrames base l → h'.FunFrames base l
  | [], _ => trivial
  | _ :: _, ⟨hk, ⟨L, o, hf, hn, ho, hd⟩, hr⟩ => by
    obtain ⟨o', e', n'⟩ := k L o ho hd
    exact ⟨hk, ⟨L, o', hf, hn, e', n'⟩, Nf.frames k hr⟩
theorem Rm.nf {c : Cx} {q : Bool} {k : Nat} {A : Around} {h h' : Heap} (X : Rm c q k A h) (n : Nf h h') : Rm c q k A h' :=
  ⟨X.depth, X.units, X.hand, let ⟨l, a, b⟩ := X.frames; ⟨l, a, n.frames b⟩⟩
theorem Rm.kp {c : Cx} {q : Bool} {k : Nat} {A : Around} {s s' : Shared} (X : Rm c q k A s.heap) (n : Kp A s s') : Rm c q k A s'.heap := X.nf n.kh.nf
theorem Fm.kp {c : Cx} {A : Around} {names : List Str} {env : Env} {st : Fs} {fe : FE} {H : Hd} {s s' : Shared} (X : Fm c (FrA A) names env st fe H s.heap) (k : Kp A s s') : Fm c (FrA A) names env st fe H s'.heap := X.step k.kh

/-- an exception that has come up from s to s' -/
noncomputable def Xp (A : Around) (s s' : Shared) (x : Value) (cls : EX) : Prop :=
  ∃ e a0, x = .ref e ∧ Kp A s s' ∧ s.heap.get? e = none ∧
    ((∃ ob vs, s'.heap.get? e = some ob ∧ ob.cls = .type cls.name ∧ ob.data = .fields vs ∧ vs[0]? = some a0 ∧ vs[1]? = some .none) ∨ s'.heap.TracedW s.heap e (.type cls.name) a0)

noncomputable def Post (q : Bool) (A : Around) (H : Hd) (r : Res) (s : Shared) (Q : Value → Shared → Prop) (E : Value → Shared → Prop) : Prop :=
  match r with
  | .ok av => ∀ v s', Kp A s s' → Rep (vis s'.heap H) v av → Q v s'
  | .exc cls => q = true ∧ ∀ x s', Xp A s s' x cls → E x s'
  | .stuck => False

/-- hidden things live -/
noncomputable def Live (H : Hd) (h : Heap) : Prop := ∀ b, H.p b → ∃ o, h.get? b = some o
theorem Live.kp {A : Around} {H : Hd} {s s' : Shared} (L : Live H s.heap) (k : Kp A s s') : Live H s'.heap := fun b q => by
  obtain ⟨o, e⟩ := L b q
  obtain ⟨sl, r⟩ := (k.kh b o e).2
  exact ⟨_, r⟩
theorem Live.fresh {H : Hd} {h : Heap} (L : Live H h) : ¬ H.p h.objs.size := fun q => by
  obtain ⟨o, e⟩ := L _ q
  exact absurd (Heap.lt_size e) (Nat.lt_irrefl _)
/-- a tree that comes to r -/
noncomputable def Tr (c : Cx) (q : Bool) (A : Around) (H : Hd) (t : Sem Value) (r : Res) (s : Shared) : Prop := ∀ Q E, Post q A H r s Q E → wpAny c.M A t Q E s
/-- a test that comes to b -/
noncomputable def TrB (c : Cx) (A : Around) (t : Sem Bool) (b : Bool) (s : Shared) : Prop := ∀ Q E, (∀ s', Kp A s s' → Q b s') → wpAny c.M A t Q E s

/-- the thing itself may be hidden -/
noncomputable def RepO (h : Heap) (H : Hd) (v : Value) : AV → Prop
  | .lst xs => xs.length ≤ 1048576 ∧ ∃ a vs, v = .ref a ∧ IsL h a vs ∧ RepL (vis h H) vs xs
  | .itr k xs => ∃ a, v = .ref a ∧ IsI h (vis h H) a k xs
  | .set fz ld xs => ∃ a, v = .ref a ∧ IsS h a fz ld xs
  | x => Rep (vis h H) v x
theorem RepO.of {h : Heap} {H : Hd} {v : Value} : ∀ {x : AV}, Rep (vis h H) v x → RepO h H v x
  | .lst xs, r => by
    simp only [Rep] at r
    obtain ⟨z, a, vs, n, e, ⟨_, o, q, k, d, f, _⟩, l⟩ := r
    exact ⟨z, a, vs, e, ⟨o, n, q, k, d, f⟩, l⟩
  | .set fz ld xs, r => by
    simp only [Rep] at r
    obtain ⟨a, es, ep, t, e, ⟨_, o, q, k, d, f, _⟩, l⟩ := r
    exact ⟨a, e, o, es, ep, t, q, k, f, d, l⟩
  | .itr _ _, r => by simp [Rep] at r
  | .none, r | .bool _, r | .int _, r | .float _, r | .str _, r | .bytes _, r | .type _, r | .range _ _ _, r | .tup _, r | .ptr _, r | .fn _, r | .dict _, r | .sm _ _, r | .bag _, r | .any, r => r
/-- what stands behind a number -/
noncomputable def deref (σ : List (Option MO)) : AV → AV
  | .ptr n => match σ[n]? with
    | some (some (.lst xs)) => .lst xs
    | some (some (.itr k xs)) => .itr k xs
    | some (some (.set ld xs)) => .set false ld xs
    | _ => .ptr n
  | x => x
theorem RepO.deref {h : Heap} {H : Hd} {σ : List (Option MO)} {v : Value} {x : AV} (S : Sto σ H h) (r : Rep (vis h H) v x) : RepO h H v (deref σ x) := by
  cases x with
  | ptr n =>
    simp only [Rep] at r
    obtain ⟨a, e, rfl⟩ := id r
    have ed : Mine.deref σ (.ptr n) = match σ[n]? with
      | some (some (.lst xs)) => .lst xs
      | some (some (.itr k xs)) => .itr k xs
      | some (some (.set ld xs)) => .set false ld xs
      | _ => .ptr n := rfl
    rw [ed]
    split
    · rename_i xs hs
      obtain ⟨b, q, z, vs, l, rr⟩ := S.at' _ _ hs
      have q' : H.m n = some a := e
      rw [q] at q'; cases q'
      exact ⟨z, _, vs, rfl, l, rr⟩
    · rename_i k xs hs
      obtain ⟨b, q, l⟩ := S.at' _ _ hs
      have q' : H.m n = some a := e
      rw [q] at q'; cases q'
      exact ⟨_, rfl, l⟩
    · rename_i ld xs hs
      obtain ⟨b, q, l⟩ := S.at' _ _ hs
      have q' : H.m n = some a := e
      rw [q] at q'; cases q'
      exact ⟨_, rfl, l⟩
    · exact RepO.of (x := .ptr n) (by simp only [Rep]; exact r)
  | _ => exact RepO.of r
theorem Tr.stuck {c : Cx} {q : Bool} {A : Around} {H : Hd} {t : Sem Value} {s : Shared} : Tr c q A H t .stuck s := fun _ _ P => P.elim
theorem NV.load {M : Model} {A : Around} {E : Value → Shared → Prop} {s : Shared} {env : Env} {x : Str} {v : Value} {Q : Value → Shared → Prop} (hk : env.scope.kind = .function) (n : NV s.heap env x v) (h : Q v s) : wpAny M A (loadName env x) Q E s := by
  rcases n with ⟨k, m, n, e⟩ | ⟨k, cc, n, e⟩
  · exact wpAny_loadName_local hk k n e h
  · exact wpAny_loadName_cell hk k n e h

section
variable {c : Cx} {q : Bool} {k : Nat} {A : Around} {s : Shared} {H : Hd}

theorem tr_const_int {env : Env} {i : Int} {kk pos} : Tr c q A H (eval (.Constant (.int i) kk pos) env) (.ok (.int i)) s := fun _ _ P => wpAny_Constant_int (P _ _ Kp.toks ⟨_, rfl⟩)
theorem tr_const_bool {env : Env} {b : Bool} {kk pos} : Tr c q A H (eval (.Constant (.bool b) kk pos) env) (.ok (.bool b)) s := fun _ _ P => wpAny_Constant_bool (P _ _ (Kp.refl _ _) rfl)
theorem tr_const_none {env : Env} {kk pos} : Tr c q A H (eval (.Constant .none kk pos) env) (.ok .none) s := fun _ _ P => wpAny_Constant_none (P _ _ (Kp.refl _ _) rfl)
theorem tr_const_str {env : Env} {x : Str} {kk pos} : Tr c q A H (eval (.Constant (.str x) kk pos) env) (.ok (.str x)) s := fun _ _ P => wpAny_Constant_str (P _ _ Kp.toks ⟨_, rfl⟩)

end
theorem rep_fresh_list {H : Hd} {s : Shared} {vs : List Value} {xs : List AV} (hL : Live H s.heap) (hz : xs.length ≤ 1048576) (r : RepL (vis s.heap H) vs xs) :
    Rep (vis (s.heap.push { cls := .type "list", data := .seq vs.toArray }) H) (.ref s.heap.objs.size) (.lst xs) := by
  simp only [Rep]
  exact ⟨hz, _, vs, _, rfl, ⟨hL.fresh, _, Heap.get?_push_size _ rfl, rfl, rfl, rfl, .inl rfl, fun _ => rfl⟩, RepL.mono (Kh.of_keeps (F := fun _ => False) fun b o e => Heap.get?_push_of_some _ e).vis r⟩
theorem rep_fresh_tup {H : Hd} {s : Shared} {vs : List Value} {xs : List AV} (hL : Live H s.heap) (hz : xs.length ≤ 1048576) (r : RepL (vis s.heap H) vs xs) :
    Rep (vis (s.heap.push { cls := .type "tuple", data := .seq vs.toArray }) H) (.ref s.heap.objs.size) (.tup xs) := by
  simp only [Rep]
  exact ⟨hz, _, vs, _, rfl, ⟨hL.fresh, _, Heap.get?_push_size _ rfl, rfl, rfl, rfl, .inr (.inl rfl), fun _ => rfl⟩, RepL.mono (Kh.of_keeps (F := fun _ => False) fun b o e => Heap.get?_push_of_some _ e).vis r⟩
theorem Kp.push {A : Around} {s : Shared} (o : Obj) : Kp A s { s with heap := s.heap.push o } := ⟨_, _, rfl, Kh.of_keeps fun _ _ e => Heap.get?_push_of_some _ e⟩
theorem line_ok {n : Nat} (h : n ≤ 1048576) : n ≤ sizeLine := by rw [show sizeLine = 16777216 from by decide]; omega
section
variable {c : Cx} {q : Bool} {A : Around} {s : Shared} {H : Hd}
theorem is_of {op : CmpOp} {va vb : Value} {b : Bool} (h : ∀ {E : Value → Shared → Prop} (Q' : Bool → Shared → Prop), Q' b s → wpAny c.M A (isSame va vb) Q' E s) (hop : op = .Is ∨ op = .IsNot) : Tr c q A H (compareOp op va vb) (.ok (.bool (if op = .Is then b else !b))) s := fun Q E P => by
  rcases hop with rfl | rfl
  · exact wpAny_bind (h _ (wpAny_pure (P _ _ (Kp.refl _ _) rfl)))
  · exact wpAny_bind (h _ (wpAny_pure (P _ _ (Kp.refl _ _) rfl)))
end
end Mine
end
section
open PySem PySem.W PyProof.Rows
namespace Mine
set_option maxRecDepth 100000

section
variable {c : Cx} {q : Bool} {k : Nat} {A : Around} {s : Shared} {H : Hd} {Q : Value → Shared → Prop} {E : Value → Shared → Prop}
theorem post_int {i : Int} (P : Post q A H (.ok (.int i)) s Q E) : (Made.int i).post Q s := P _ _ Kp.toks ⟨_, rfl⟩
theorem post_float {i : UInt64} (P : Post q A H (.ok (.float i)) s Q E) : (Made.float i).post Q s := P _ _ Kp.toks ⟨_, rfl⟩
theorem post_bool {b : Bool} (P : Post q A H (.ok (.bool b)) s Q E) : Q (.bool b) s := P _ _ (Kp.refl _ _) rfl
theorem post_raise {cls : EX} (hm : Rm c q k A s.heap) (P : Post q A H (.exc cls) s Q E) {Q' : Value → Shared → Prop} : raisesNew cls.name A (wants Q' E) s := by
  refine ⟨hm.hand P.1, fun h' tk e n => ?_⟩
  obtain ⟨ob, t, h1, h2, h3⟩ := n.there
  exact P.2 _ _ ⟨e, t, rfl, Kp.of n.keeps, n.new, .inl ⟨ob, _, h1, h2, h3, rfl, rfl⟩⟩
end

noncomputable def mulOk (a b : Int) : Bool := !(decide (Builtin.Int.intBits a > shortFactorBits) && decide (Builtin.Int.intBits b > shortFactorBits) && Builtin.Int.intTooBig (Builtin.Int.intBits a + Builtin.Int.intBits b))
theorem mulOk_iff {a b : Int} : mulOk a b = true ↔ IntMulOk a b := by
  unfold mulOk IntMulOk
  cases (decide (Builtin.Int.intBits a > shortFactorBits) && decide (Builtin.Int.intBits b > shortFactorBits) && Builtin.Int.intTooBig (Builtin.Int.intBits a + Builtin.Int.intBits b)) <;> simp

noncomputable def frac (a b : Int) : UInt64 := Float64.ofFrac (decide (a < 0) != decide (b < 0)) a.natAbs b.natAbs

noncomputable def intBin (op : Operator) (a b : Int) : Res := match op with
  | .Add => .ok (.int (a + b))
  | .Sub => .ok (.int (a - b))
  | .Mult => if mulOk a b = true then .ok (.int (a * b)) else .stuck
  | .FloorDiv => if (b == 0) = true then .exc .zde else if Builtin.divisionGoesByPylong a b = true then .stuck else .ok (.int (a.fdiv b))
  | .Mod => if (b == 0) = true then .exc .zde else .ok (.int (a.fmod b))
  | .Div => if (b == 0) = true then .exc .zde else if Float64.isInf (frac a b) = true then .exc .ofe else .ok (.float (frac a b))
  | .Pow => if b ≥ 0 then (if (b == 0) = true then .ok (.int 1) else if (a == 0 || a == 1) = true then .ok (.int a) else if (a == -1) = true then .ok (.int (if (b % 2 == 0) = true then 1 else -1))
      else if Builtin.Int.intTooBig (((Builtin.Int.intBits a : Nat) : Int) * b) = true then .stuck else .ok (.int (a ^ b.toNat))) else .stuck
  | _ => .stuck
section
variable {c : Cx} {q : Bool} {k : Nat} {A : Around} {s : Shared} {H : Hd}

theorem intBin_ok {op : Operator} {a b : Int} {t u : Tok} (hm : Rm c q k A s.heap) : Tr c q A H (binaryOp op (.int a t) (.int b u)) (intBin op a b) s := by
  intro Q E P
  cases op <;> simp only [intBin] at P <;> try exact P.elim
  · exact AutoIntOps.add_0 (post_int P)
  · exact AutoIntOps.sub_0 (post_int P)
  · split at P
    · rename_i h; exact AutoIntOps.mul_0 (post_int P) (mulOk_iff.mp h)
    · exact P.elim
  · refine AutoIntOpsIf.truediv ?_
    by_cases h : (b == 0) = true
    · rw [if_pos h] at P ⊢; exact post_raise hm P
    · rw [if_neg h] at P ⊢
      by_cases h2 : Float64.isInf (frac a b) = true
      · rw [if_pos h2] at P; rw [if_pos (by exact h2)]; exact post_raise hm P
      · rw [if_neg h2] at P; rw [if_neg (by exact h2)]; exact post_float P
  · refine AutoIntOpsIf.mod ?_
    split at P
    · rename_i h; rw [if_pos h]; exact post_raise hm P
    · rename_i h; rw [if_neg h]; exact post_int P
  · refine AutoIntOpsIf.pow ?_
    split at P
    · rename_i h; rw [if_pos h]
      split at P
      · rename_i h; rw [if_pos h]; exact post_int P
      · rename_i h; rw [if_neg h]
        split at P
        · rename_i h; rw [if_pos h]; exact post_int P
        · rename_i h; rw [if_neg h]
          split at P
          · rename_i h; rw [if_pos h]; exact post_int P
          · rename_i h; rw [if_neg h]
            split at P
            · exact P.elim
            · rename_i h; rw [if_neg h]; exact post_int P
    · exact P.elim
  · refine AutoIntOpsIf.floordiv ?_
    split at P
    · rename_i h; rw [if_pos h]; exact post_raise hm P
    · rename_i h; rw [if_neg h]
      split at P
      · exact P.elim
      · rename_i h; rw [if_neg h]; exact post_int P

end

/- in place: Div alone -/
section
variable {c : Cx} {q : Bool} {k : Nat} {A : Around} {s : Shared} {H : Hd}
end

/- comparing -/
section
variable {c : Cx} {q : Bool} {k : Nat} {A : Around} {s : Shared} {H : Hd}
noncomputable def plainCmp (op : CmpOp) (e : Bool) : Option Bool := match op with
  | .Is => some e
  | .IsNot => some (!e)
  | _ => none
theorem plainCmp_ok {op : CmpOp} {a b : Value} {r : Bool} (hp : plainIs a b = true) (h : plainCmp op (a == b) = some r) : Tr c q A H (compareOp op a b) (.ok (.bool r)) s := by
  intro Q E P
  cases op <;> simp only [plainCmp, Option.some.injEq, reduceCtorEq] at h <;> subst h
  · exact wpAny_is_plain hp (post_bool P)
  · exact wpAny_isNot_plain hp (post_bool P)
end
end Mine
end
section
open PySem PySem.W PyProof.Rows
namespace Mine
set_option maxRecDepth 100000

section
variable {M : Model} {A : Around} {E : Value → Shared → Prop} {s : Shared} {a b : Value} {T U nm idl idr : String}
/-- a call that declines -/
noncomputable def Declines (M : Model) (A : Around) (E : Value → Shared → Prop) (t : Sem Value) (s : Shared) : Prop := ∀ Q : Value → Shared → Prop, Q .notImplemented s → wpAny M A t Q E s

theorem try_declines {name : Str} {id : String} (hT : s.TypeIs a T) (hl : Slot T name id) (hc : Declines M A E (call (.builtin id) [a, b]) s) {Q : Option Value → Shared → Prop} (h : Q none s) : wpAny M A (tryMethod a name b) Q E s := by
  simp only [tryMethod]
  exact wpAny_bind (wpAny_callSpecial?_slot hT hl (hc _ (wpAny_pure h)))

theorem ite_f {α : Type} {b : Bool} {x y : Sem α} {Q : α → Shared → Prop} (hb : b = false) (h : wpAny M A y Q E s) : wpAny M A (if b = true then x else y) Q E s := by subst hb; exact h
theorem b1_none_l {Q : Option Value → Shared → Prop} (hTU : T ≠ U) (ha : s.TypeIs a T) (hb : s.TypeIs b U) (hfT : fillsNumberSlot (.type T) nm = pure true) (hfU : fillsNumberSlot (.type U) nm = pure false) (hl : Slot T (dunder nm) idl)
    (hc : Declines M A E (call (.builtin idl) [a, b]) s) (h : Q none s) : wpAny M A (binaryOp1 nm a b) Q E s := by
  have hne : (Value.type T == Value.type U) = false := by simpa using hTU
  refine wpAny_bind (wpAny_typeOf ha (wpAny_bind (wpAny_typeOf hb (wpAny_bind (wpAny_of_eq hfT (ite_f hne (wpAny_bind (wpAny_of_eq hfU ?_))))))))
  exact wpAny_bind (wpAny_pure (wpAny_bind (try_declines ha hl hc (wpAny_pure h))))
theorem b1_none_r {Q : Option Value → Shared → Prop} (hTU : T ≠ U) (ha : s.TypeIs a T) (hb : s.TypeIs b U) (hfT : fillsNumberSlot (.type T) nm = pure false) (hfU : fillsNumberSlot (.type U) nm = pure true) (hr : Slot U (dunderR nm) idr)
    (hc : Declines M A E (call (.builtin idr) [b, a]) s) (h : Q none s) : wpAny M A (binaryOp1 nm a b) Q E s := by
  have hne : (Value.type T == Value.type U) = false := by simpa using hTU
  refine wpAny_bind (wpAny_typeOf ha (wpAny_bind (wpAny_typeOf hb (wpAny_bind (wpAny_of_eq hfT (ite_f hne (wpAny_bind (wpAny_of_eq hfU ?_))))))))
  exact wpAny_bind (wpAny_pure (wpAny_bind (try_declines hb hr hc (wpAny_pure h))))
theorem b1_none_two {Q : Option Value → Shared → Prop} (hTU : T ≠ U) (ha : s.TypeIs a T) (hb : s.TypeIs b U) (hfT : fillsNumberSlot (.type T) nm = pure true) (hfU : fillsNumberSlot (.type U) nm = pure true) (hsub : isSubtype (.type U) (.type T) = pure false)
    (hl : Slot T (dunder nm) idl) (hr : Slot U (dunderR nm) idr)
    (hc : Declines M A E (call (.builtin idl) [a, b]) s) (hc' : Declines M A E (call (.builtin idr) [b, a]) s) (h : Q none s) : wpAny M A (binaryOp1 nm a b) Q E s := by
  have hne : (Value.type T == Value.type U) = false := by simpa using hTU
  refine wpAny_bind (wpAny_typeOf ha (wpAny_bind (wpAny_typeOf hb (wpAny_bind (wpAny_of_eq hfT (ite_f hne (wpAny_bind (wpAny_of_eq hfU ?_))))))))
  refine wpAny_bind (wpAny_of_eq hsub ?_)
  have hpy : numberSlotInPython (.type T) nm = pure false := rfl
  exact wpAny_bind (wpAny_of_eq hpy (wpAny_bind (try_declines ha hl hc (wpAny_bind (try_declines hb hr hc' (wpAny_pure h))))))

theorem inpl_te {op : Operator} {Q : Value → Shared → Prop} (hop : op = .Div ∨ op = .BitXor) (ha : s.TypeIs a T) (hb : s.TypeIs b U) (hnb : (Value.type T == Value.type "builtin_function_or_method") = false) (hnu : (Value.type U == Value.type "builtin_function_or_method") = false)
    (hi : ∀ Q' : Bool → Shared → Prop, Q' false s → wpAny M A (fillsInplaceSlot (.type T) op.info.2 (op == .Add)) Q' E s)
    (hb1 : ∀ Q' : Option Value → Shared → Prop, Q' none s → wpAny M A (binaryOp1 op.info.2 a b) Q' E s)
    (hm : ∀ sym, sym = "/=" ∨ sym = "^=" → ((s!"unsupported operand type(s) for {sym}: '{shownName T}' and '{shownName U}'" : String) : Str).length ≤ sizeLine)
    (h : raisesNew "TypeError" A (wants Q E) s) : wpAny M A (inplaceOp op a b) Q E s := by
  unfold inplaceOp
  refine wpAny_holding ?_
  refine wpAny_bind (wpAny_typeOf ha (wpAny_bind (hi _ ?_)))
  simp only [Bool.false_eq_true, if_false]
  refine wpAny_bind (hb1 _ ?_)
  simp only
  have fin : ∀ sym, sym = "/=" ∨ sym = "^=" → wpAny M A (binopTypeError sym a b : Sem Value) Q E s := by
    intro sym hs
    unfold binopTypeError
    refine wpAny_bind (wpAny_rule (wpAny_bind (wpAny_typeNameOf' ha hnb (wpAny_bind (wpAny_typeNameOf' hb hnu ?_)))))
    exact wpAny_raiseErrorMade plainExc_TypeError h.1 h.2 (hm sym hs)
  rcases hop with rfl | rfl
  · exact fin _ (.inl rfl)
  · exact fin _ (.inr rfl)
theorem inpl_te_plain {op : Operator} {Q : Value → Shared → Prop} (hop : op = .Div ∨ op = .BitXor) (ha : s.TypeIs a T) (hb : s.TypeIs b U) (hnb : (Value.type T == Value.type "builtin_function_or_method") = false) (hnu : (Value.type U == Value.type "builtin_function_or_method") = false)
    (hno : typeLookup (.type T) (dunderI op.info.2) = pure none)
    (hb1 : ∀ Q' : Option Value → Shared → Prop, Q' none s → wpAny M A (binaryOp1 op.info.2 a b) Q' E s)
    (hm : ∀ sym, sym = "/=" ∨ sym = "^=" → ((s!"unsupported operand type(s) for {sym}: '{shownName T}' and '{shownName U}'" : String) : Str).length ≤ sizeLine)
    (h : raisesNew "TypeError" A (wants Q E) s) : wpAny M A (inplaceOp op a b) Q E s := by
  refine inpl_te hop ha hb hnb hnu (fun Q' q => ?_) hb1 hm h
  refine wpAny_of_eq (a := false) ?_ q
  unfold fillsInplaceSlot
  show (typeLookup (.type T) (dunderI op.info.2) >>= fun fi => pure (fi.isSome && !isSeqSlot fi)) = pure false
  rw [hno]; rfl
end
section
variable {prog : Program} {w : World} {A : Around} {E : Value → Shared → Prop} {s : Shared}
theorem declines_at {T : String} {name : Str} {id : String} {B : Builtin} {a b : Value} {P : Shared → Prop} (slot : Slot T name id) (ha : s.TypeIs a T) (entry : entryFor table id = some B) (args : argsOk id ⟨[a, b], []⟩) (g : GivesAt P (B ⟨[a, b], []⟩) (.val .notImplemented)) (hP : P s) :
    Declines (model prog w) A E (call (.builtin id) [a, b]) s := fun _ h => call_givesAt slot ha entry args g hP h
end
/-- a thing that is no number -/
noncomputable def NoPrim (l : Addr) (s : Shared) : Prop := ∃ o, s.heap.get? l = some o ∧ ∀ v, o.data ≠ .prim v

theorem noF_list_xor : fillsNumberSlot (.type "list") "xor" = pure false := by kernel_rfl
theorem noF_none_xor : fillsNumberSlot (.type "NoneType") "xor" = pure false := by kernel_rfl
theorem noI_list_xor : typeLookup (.type "list") (dunderI "xor") = pure none := by rw [typeLookup_type, builtinLookup_eq_fast]; kernel_rfl
theorem noI_none_xor : typeLookup (.type "NoneType") (dunderI "xor") = pure none := by rw [typeLookup_type, builtinLookup_eq_fast]; kernel_rfl
theorem sub_int_set : isSubtype (.type "int") (.type "set") = pure false := by rw [isSubtype_type]; kernel_rfl
theorem sub_set_int : isSubtype (.type "set") (.type "int") = pure false := by rw [isSubtype_type]; kernel_rfl
theorem sub_int_frozenset : isSubtype (.type "int") (.type "frozenset") = pure false := by rw [isSubtype_type]; kernel_rfl
theorem sub_set_set : isSubtype (.type "set") (.type "set") = pure true := by rw [isSubtype_type]; kernel_rfl
theorem entry_set_xor : entryFor table "set.__xor__" = some Builtin.«frozenset.__xor__» := entryFor_alias (id' := "frozenset.__xor__") (by rw [fastTable_eq_tree]; kernel_rfl) rfl (by decide +kernel) (by rw [fastTable_eq_tree]; kernel_rfl)
theorem entry_set_rxor : entryFor table "set.__rxor__" = some Builtin.«frozenset.__rxor__» := entryFor_alias (id' := "frozenset.__rxor__") (by rw [fastTable_eq_tree]; kernel_rfl) rfl (by decide +kernel) (by rw [fastTable_eq_tree]; kernel_rfl)
theorem entry_int_rxor : entryFor table "int.__rxor__" = some Builtin.«int.__rxor__» := entryFor_of_tree (by kernel_rfl)

theorem xor_ref (a : Int) (t : Tok) (l : Addr) : GivesAt (NoPrim l) (Builtin.«int.__xor__» ⟨[.int a t, .ref l], []⟩) (.val .notImplemented) := by
  rintro prog w A R s ⟨⟨oc, od, odt, os⟩, ho, hd⟩ h
  unfold Builtin.«int.__xor__» Builtin.Int.intBinary
  have : ∀ v, odt ≠ .prim v := hd
  refine wpAny_bind ?_
  show wpAny _ _ (pure (Value.int a t, [Value.ref l])) _ _ s
  refine wpAny_pure ?_
  refine wpAny_bind ?_
  show wpAny _ _ (pure a) _ _ s
  refine wpAny_pure ?_
  refine wpAny_bind ?_
  show wpAny _ _ (load l >>= fun o => match o.data with
    | .prim (.int i _) => pure (some i)
    | _ => pure none) _ _ s
  refine wpAny_bind (wpAny_load ho ?_)
  split
  · rename_i i _ h2
    exact absurd h2 (this _)
  · exact wpAny_pure (wpAny_bind (wpAny_rule (wpAny_pure h)))
theorem rxor_ref (a : Int) (t : Tok) (l : Addr) : GivesAt (NoPrim l) (Builtin.«int.__rxor__» ⟨[.int a t, .ref l], []⟩) (.val .notImplemented) := by
  rintro prog w A R s ⟨⟨oc, od, odt, os⟩, ho, hd⟩ h
  unfold Builtin.«int.__rxor__» Builtin.Int.intBinary
  have : ∀ v, odt ≠ .prim v := hd
  refine wpAny_bind ?_
  show wpAny _ _ (pure (Value.int a t, [Value.ref l])) _ _ s
  refine wpAny_pure ?_
  refine wpAny_bind ?_
  show wpAny _ _ (pure a) _ _ s
  refine wpAny_pure ?_
  refine wpAny_bind ?_
  show wpAny _ _ (load l >>= fun o => match o.data with
    | .prim (.int i _) => pure (some i)
    | _ => pure none) _ _ s
  refine wpAny_bind (wpAny_load ho ?_)
  split
  · rename_i i _ h2
    exact absurd h2 (this _)
  · exact wpAny_pure (wpAny_bind (wpAny_rule (wpAny_pure h)))

theorem IsS.noPrim {s : Shared} {a : Addr} {fz : Bool} {ld : Bool} {xs : List Int} (x : IsS s.heap a fz ld xs) : NoPrim a s := let ⟨o, es, ep, t, e, _, _, d, _⟩ := x; ⟨o, e, fun v z => by rw [d] at z; cases z⟩
theorem IsS.typeIs {s : Shared} {a : Addr} {ld : Bool} {xs : List Int} (x : IsS s.heap a false ld xs) : s.TypeIs (.ref a) "set" := let ⟨o, es, ep, t, e, c, _, _, _⟩ := x; ⟨o, e, c⟩

section
variable {c : Cx} {q : Bool} {k : Nat} {A : Around} {s : Shared} {H : Hd}
theorem te_msg : ∀ T ∈ ["int", "str", "NoneType", "list", "set"], ∀ U ∈ ["int", "str", "NoneType", "list", "set"], ∀ sym, sym = "/=" ∨ sym = "^=" → ((s!"unsupported operand type(s) for {sym}: '{shownName T}' and '{shownName U}'" : String) : Str).length ≤ sizeLine := by
  intro T hT U hU sym hs
  rcases hs with rfl | rfl
  · revert T U; decide +kernel
  · revert T U; decide +kernel
/- a set and an int -/
theorem orM_wp {M : Model} {E : Value → Shared → Prop} {x y : Sem Bool} {Q : Bool → Shared → Prop} (h : wpAny M A x (fun b s' => if b = true then Q true s' else wpAny M A y Q E s') E s) : wpAny M A (x <||> y) Q E s := by
  show wpAny M A (x >>= fun b => match toBool b with | true => pure b | false => y) Q E s
  refine wpAny_bind (wpAny_mono h (fun b s' h' => ?_) fun _ _ e => e)
  cases b with
  | true => exact wpAny_pure (by simpa using h')
  | false => exact (show wpAny M A y Q E s' by simpa using h')
theorem andM_wp {M : Model} {E : Value → Shared → Prop} {x y : Sem Bool} {Q : Bool → Shared → Prop} (h : wpAny M A x (fun b s' => if b = true then wpAny M A y Q E s' else Q false s') E s) : wpAny M A (x <&&> y) Q E s := by
  show wpAny M A (x >>= fun b => match toBool b with | true => y | false => pure b) Q E s
  refine wpAny_bind (wpAny_mono h (fun b s' h' => ?_) fun _ _ e => e)
  cases b with
  | true => exact (show wpAny M A y Q E s' by simpa using h')
  | false => exact wpAny_pure (by simpa using h')
theorem anySet_int {M : Model} {E : Value → Shared → Prop} {a : Int} {t : Tok} {Q : Bool → Shared → Prop} (h : Q false s) : wpAny M A (Builtin.Frozenset.isAnySet (.int a t)) Q E s := by
  unfold Builtin.Frozenset.isAnySet
  refine orM_wp (wpAny_isInstance (typeIs_int s a t) sub_int_set ?_)
  rw [if_neg (by decide)]
  exact wpAny_isInstance (typeIs_int s a t) sub_int_frozenset h
theorem anySet_set {M : Model} {E : Value → Shared → Prop} {l : Addr} {ld : Bool} {xs : List Int} (hs : IsS s.heap l false ld xs) {Q : Bool → Shared → Prop} (h : Q true s) : wpAny M A (Builtin.Frozenset.isAnySet (.ref l)) Q E s := by
  unfold Builtin.Frozenset.isAnySet
  refine orM_wp (wpAny_isInstance hs.typeIs sub_set_set ?_)
  rw [if_pos rfl]
  exact h
theorem set_ixor_dec {E : Value → Shared → Prop} {a : Int} {t : Tok} {l : Addr} {ld : Bool} {xs : List Int} (hs : IsS s.heap l false ld xs) : Declines c.M A E (call (.builtin "set.__ixor__") [.ref l, .int a t]) s := fun Q h => by
  refine wpAny_call_entry F.slot_set_ixor hs.typeIs F.entry_set_ixor ?_ (F.args_set_ixor_2 _ _)
  refine wpAny_bind (m := pure (Value.ref l, Value.int a t)) (wpAny_pure ?_)
  refine wpAny_bind (anySet_int ?_)
  simp only [Bool.not_false, if_true]
  exact wpAny_bind (wpAny_rule (wpAny_pure ⟨_, rfl, h⟩))
theorem set_xor_dec {E : Value → Shared → Prop} {a : Int} {t : Tok} {l : Addr} {ld : Bool} {xs : List Int} (hs : IsS s.heap l false ld xs) : Declines c.M A E (call (.builtin "set.__xor__") [.ref l, .int a t]) s := fun Q h => by
  refine wpAny_call_entry F.slot_set_xor hs.typeIs entry_set_xor ?_ (F.args_set_xor_2 _ _)
  refine wpAny_bind (m := pure (Value.ref l, Value.int a t)) (wpAny_pure ?_)
  refine wpAny_bind (andM_wp (anySet_set hs ?_))
  rw [if_pos rfl]
  refine anySet_int ?_
  simp only [Bool.not_false, if_true]
  exact wpAny_bind (wpAny_rule (wpAny_pure ⟨_, rfl, h⟩))
theorem set_rxor_dec {E : Value → Shared → Prop} {a : Int} {t : Tok} {l : Addr} {ld : Bool} {xs : List Int} (hs : IsS s.heap l false ld xs) : Declines c.M A E (call (.builtin "set.__rxor__") [.ref l, .int a t]) s := fun Q h => by
  refine wpAny_call_entry F.slot_set_rxor hs.typeIs entry_set_rxor ?_ (F.args_set_rxor_2 _ _)
  refine wpAny_bind (m := pure (Value.ref l, Value.int a t)) (wpAny_pure ?_)
  refine wpAny_bind (andM_wp (anySet_int ?_))
  rw [if_neg (by decide)]
  simp only [Bool.not_false, if_true]
  exact wpAny_bind (wpAny_rule (wpAny_pure ⟨_, rfl, h⟩))
theorem int_set_dec {E : Value → Shared → Prop} {a : Int} {t : Tok} {l : Addr} {ld : Bool} {xs : List Int} (hs : IsS s.heap l false ld xs) : Declines c.M A E (call (.builtin "int.__xor__") [.int a t, .ref l]) s :=
  declines_at F.slot_int_xor (typeIs_int s a t) F.entry_int_xor (F.args_int_xor_2 _ _) (xor_ref a t l) hs.noPrim
theorem int_rset_dec {E : Value → Shared → Prop} {a : Int} {t : Tok} {l : Addr} {ld : Bool} {xs : List Int} (hs : IsS s.heap l false ld xs) : Declines c.M A E (call (.builtin "int.__rxor__") [.int a t, .ref l]) s :=
  declines_at F.slot_int_rxor (typeIs_int s a t) entry_int_rxor (F.args_int_rxor_2 _ _) (rxor_ref a t l) hs.noPrim
theorem b1_int_set {E : Value → Shared → Prop} {a : Int} {t : Tok} {l : Addr} {ld : Bool} {xs : List Int} (hs : IsS s.heap l false ld xs) {Q' : Option Value → Shared → Prop} (h : Q' none s) : wpAny c.M A (binaryOp1 "xor" (.int a t) (.ref l)) Q' E s :=
  b1_none_two (T := "int") (U := "set") (by decide) (typeIs_int s a t) hs.typeIs F.fills_int_xor F.fills_set_xor sub_set_int F.slot_int_xor F.slot_set_rxor (int_set_dec hs) (set_rxor_dec hs) h
theorem b1_set_int {E : Value → Shared → Prop} {a : Int} {t : Tok} {l : Addr} {ld : Bool} {xs : List Int} (hs : IsS s.heap l false ld xs) {Q' : Option Value → Shared → Prop} (h : Q' none s) : wpAny c.M A (binaryOp1 "xor" (.ref l) (.int a t)) Q' E s :=
  b1_none_two (T := "set") (U := "int") (by decide) hs.typeIs (typeIs_int s a t) F.fills_set_xor F.fills_int_xor sub_int_set F.slot_set_xor F.slot_int_rxor (set_xor_dec hs) (int_rset_dec hs) h
theorem te_msg_is : ∀ sym, sym = "/=" ∨ sym = "^=" → ((s!"unsupported operand type(s) for {sym}: '{shownName "int"}' and '{shownName "set"}'" : String) : Str).length ≤ sizeLine := te_msg "int" (by decide) "set" (by decide)
theorem te_msg_si : ((s!"unsupported operand type(s) for {"^="}: '{shownName "set"}' and '{shownName "int"}'" : String) : Str).length ≤ sizeLine := te_msg "set" (by decide) "int" (by decide) "^=" (.inr rfl)
theorem xor_te_iS {a : Int} {t : Tok} {l : Addr} {ld : Bool} {xs : List Int} (hm : Rm c q k A s.heap) (hs : IsS s.heap l false ld xs) : Tr c q A H (inplaceOp .BitXor (.int a t) (.ref l)) (.exc .te) s := by
  intro Q E P
  have pr := post_raise (Q' := Q) hm P
  have hb : ∀ Q' : Option Value → Shared → Prop, Q' none s → wpAny c.M A (binaryOp1 Operator.BitXor.info.2 (.int a t) (.ref l)) Q' E s := by
    intro Q' h
    have e : Operator.BitXor.info.2 = "xor" := rfl
    rw [e]
    exact b1_int_set hs h
  have ht := hs.typeIs
  exact inpl_te_plain (M := c.M) (A := A) (E := E) (s := s) (T := "int") (U := "set") (op := .BitXor) (Q := Q) (.inr rfl) (typeIs_int s a t) ht (by decide) (by decide) F.noI_int_xor hb te_msg_is pr
theorem fillsI_set_xor : fillsInplaceSlot (.type "set") "xor" false = pure true := by
  unfold fillsInplaceSlot
  show (typeLookup (.type "set") (dunderI "xor") >>= fun fi => pure (fi.isSome && !isSeqSlot fi)) = pure true
  rw [typeLookup_type, builtinLookup_eq_fast]; kernel_rfl
theorem xor_te_Si {a : Int} {t : Tok} {l : Addr} {ld : Bool} {xs : List Int} (hm : Rm c q k A s.heap) (hs : IsS s.heap l false ld xs) : Tr c q A H (inplaceOp .BitXor (.ref l) (.int a t)) (.exc .te) s := fun Q E P => by
  have pr := post_raise (Q' := Q) hm P
  unfold inplaceOp
  refine wpAny_holding ?_
  refine wpAny_bind (wpAny_typeOf hs.typeIs (wpAny_bind (wpAny_of_eq (show fillsInplaceSlot (.type "set") Operator.BitXor.info.2 (Operator.BitXor == .Add) = pure true from fillsI_set_xor) ?_)))
  simp only [if_true]
  refine wpAny_bind (try_declines hs.typeIs F.slot_set_ixor (set_ixor_dec hs) ?_)
  simp only
  have e : Operator.BitXor.info.2 = "xor" := rfl
  rw [e]
  refine wpAny_bind (b1_set_int hs ?_)
  simp only
  show wpAny _ _ (binopTypeError "^=" (.ref l) (.int a t) : Sem Value) Q E s
  unfold binopTypeError
  refine wpAny_bind (wpAny_rule (wpAny_bind (wpAny_typeNameOf' hs.typeIs (by decide) (wpAny_bind (wpAny_typeNameOf' (typeIs_int s a t) (by decide) ?_)))))
  exact wpAny_raiseErrorMade plainExc_TypeError pr.1 pr.2 te_msg_si

/- an int and a bool -/
end
end Mine
end
section
open PySem PySem.W PyProof.Rows
namespace Mine
set_option maxRecDepth 100000

noncomputable def asPart : AV → Option (Option Int)
  | .none => some none
  | .int i => some (some i)
  | _ => none
theorem asPart_ok {R : Vw} {v : Value} {x : AV} {p : Option Int} (h : asPart x = some p) (r : Rep R v x) : IsPart v p := by
  cases x <;> simp only [asPart, reduceCtorEq, Option.some.injEq] at h
  · subst h; simp only [Rep] at r; subst r; exact .none
  · subst h; simp only [Rep] at r; obtain ⟨t, rfl⟩ := r; exact .int _ _

noncomputable def pickL (xs : List AV) (lo hi st : Option Int) : List AV :=
  (sliceRange (sliceBounds lo hi st xs.length).1 (sliceBounds lo hi st xs.length).2.1 (sliceBounds lo hi st xs.length).2.2).filterMap (xs[·]?)

theorem RepL.pick {R : Vw} {vs : List Value} {xs : List AV} (r : RepL R vs xs) : ∀ is : List Nat, RepL R (is.filterMap (vs[·]?)) (is.filterMap (xs[·]?))
  | [] => by simp [RepL]
  | i :: is => by
    cases hx : xs[i]? with
    | none =>
      have hv : vs[i]? = none := by rw [List.getElem?_eq_none_iff] at hx ⊢; rw [r.length]; exact hx
      simp only [List.filterMap_cons, hx, hv]
      exact RepL.pick r is
    | some x =>
      obtain ⟨v, hv, q⟩ := r.get hx
      simp only [List.filterMap_cons, hx, hv, RepL]
      exact ⟨q, RepL.pick r is⟩

theorem IsL.typeIs {s : Shared} {a : Addr} {vs : List Value} (x : IsL s.heap a vs) : s.TypeIs (.ref a) "list" := x.isList.typeIs

noncomputable def ints? : List AV → Option (List Int)
  | [] => some []
  | .int i :: r => (ints? r).map (i :: ·)
  | _ :: _ => none

theorem ints_items {R : Vw} : ∀ {xs : List AV} {vs : List Value} {ns : List Int}, ints? xs = some ns → RepL R vs xs → ∃ ps : List (Int × Tok), vs.toArray = intItems ps.toArray ∧ ps.map (·.1) = ns
  | [], [], ns, h, _ => by simp [ints?] at h; subst h; exact ⟨[], by simp [intItems], rfl⟩
  | [], _ :: _, _, _, r => by simp [RepL] at r
  | _ :: _, [], _, _, r => by simp [RepL] at r
  | x :: xs, v :: vs, ns, h, r => by
    simp only [RepL] at r
    cases x <;> simp only [ints?, reduceCtorEq, Option.map_eq_some_iff] at h
    rename_i i
    obtain ⟨ms, h, rfl⟩ := h
    obtain ⟨ps, e1, e2⟩ := ints_items h r.2
    obtain ⟨r1, _⟩ := r
    simp only [Rep] at r1
    obtain ⟨t, rfl⟩ := r1
    refine ⟨(i, t) :: ps, ?_, by simp [e2]⟩
    have e3 : vs = ps.map fun p => Value.int p.1 p.2 := by have := congrArg Array.toList e1; simpa [intItems] using this
    rw [e3]; simp [intItems]

section
variable {c : Cx} {q : Bool} {k : Nat} {A : Around} {s : Shared} {H : Hd}
noncomputable def sliceL (xs : List AV) (a b z : AV) : Res := match asPart a, asPart b, asPart z with
  | some lo, some hi, some st => if st = some 0 then .stuck else .ok (.lst (pickL xs lo hi st))
  | _, _, _ => .stuck
theorem sliceL_ok {l r : Addr} {vs : List Value} {xs : List AV} {x y z : AV} {ux uy uz : Value} (hL : Live H s.heap) (hl : IsL s.heap l vs) (hz : xs.length ≤ 1048576) (rr : RepL (vis s.heap H) vs xs) (h1 : Rep (vis s.heap H) ux x) (h2 : Rep (vis s.heap H) uy y) (h3 : Rep (vis s.heap H) uz z)
    (hr : s.heap.get? r = some { cls := .type "slice", data := .fields #[ux, uy, uz] }) : Tr c q A H (getItem (.ref l) (.ref r)) (sliceL xs x y z) s := by
  intro Q E P
  unfold sliceL at P
  cases e1 : asPart x with
  | none => rw [e1] at P; exact P.elim
  | some lo =>
    cases e2 : asPart y with
    | none => rw [e1, e2] at P; exact P.elim
    | some hi =>
      cases e3 : asPart z with
      | none => rw [e1, e2, e3] at P; exact P.elim
      | some st =>
        rw [e1, e2, e3] at P
        simp only at P
        by_cases h0 : st = some 0
        · rw [if_pos h0] at P; exact P.elim
        · rw [if_neg h0] at P
          refine wpAny_getItem_list_slice hl.isList ⟨_, hr, rfl, rfl⟩ (asPart_ok e1 h1) (asPart_ok e2 h2) (asPart_ok e3 h3) h0 ?_ (by simp [rr.length]; exact line_ok hz)
          have e : slicePick vs.toArray lo hi st = ((sliceRange (sliceBounds lo hi st xs.length).1 (sliceBounds lo hi st xs.length).2.1 (sliceBounds lo hi st xs.length).2.2).filterMap (vs[·]?)).toArray := by
            unfold slicePick; simp [rr.length]
          have hsz := slicePick_size_le vs.toArray lo hi st
          rw [e]
          rw [e] at hsz
          have rp := rr.pick (sliceRange (sliceBounds lo hi st xs.length).1 (sliceBounds lo hi st xs.length).2.1 (sliceBounds lo hi st xs.length).2.2)
          refine P _ _ (Kp.push _) (rep_fresh_list hL ?_ rp)
          have := rp.length
          simp only [List.size_toArray, rr.length] at hsz
          show (List.filterMap _ _).length ≤ _
          rw [← this]; omega
end
end Mine
end
section
open PySem PySem.W PyProof.Rows
namespace Mine
open SeqAt
set_option maxRecDepth 100000

theorem no_some {α : Type} {P : Prop} {x : α} (h : (Option.none : Option α) = some x) : P := nomatch h
theorem no_true {P : Prop} (h : false = true) : P := nomatch h
noncomputable def AV.lst? : AV → Option (List AV) | .lst x => some x | _ => Option.none
noncomputable def AV.tup? : AV → Option (List AV) | .tup x => some x | _ => Option.none
noncomputable def AV.str? : AV → Option Str | .str x => some x | _ => Option.none
noncomputable def AV.bytes? : AV → Option (Array UInt8) | .bytes x => some x | _ => Option.none
noncomputable def AV.int? : AV → Option Int | .int x => some x | _ => Option.none
noncomputable def AV.type? : AV → Option String | .type x => some x | _ => Option.none
noncomputable def AV.none? : AV → Bool | .none => true | _ => false
theorem lst?_eq {a : AV} {x} : (h : a.lst? = some x) → a = .lst x := match a with | .lst _ => fun h => congrArg AV.lst (Option.some.inj h) | .none | .bool _ | .int _ | .float _ | .str _ | .bytes _ | .type _ | .range _ _ _ | .tup _ | .set _ _ _ | .ptr _ | .itr _ _ | .fn _ | .dict _ | .sm _ _ | .bag _ | .any => no_some
theorem tup?_eq {a : AV} {x} : (h : a.tup? = some x) → a = .tup x := match a with | .tup _ => fun h => congrArg AV.tup (Option.some.inj h) | .none | .bool _ | .int _ | .float _ | .str _ | .bytes _ | .type _ | .range _ _ _ | .lst _ | .set _ _ _ | .ptr _ | .itr _ _ | .fn _ | .dict _ | .sm _ _ | .bag _ | .any => no_some
theorem str?_eq {a : AV} {x} : (h : a.str? = some x) → a = .str x := match a with | .str _ => fun h => congrArg AV.str (Option.some.inj h) | .none | .bool _ | .int _ | .float _ | .bytes _ | .type _ | .range _ _ _ | .tup _ | .lst _ | .set _ _ _ | .ptr _ | .itr _ _ | .fn _ | .dict _ | .sm _ _ | .bag _ | .any => no_some
theorem bytes?_eq {a : AV} {x} : (h : a.bytes? = some x) → a = .bytes x := match a with | .bytes _ => fun h => congrArg AV.bytes (Option.some.inj h) | .none | .bool _ | .int _ | .float _ | .str _ | .type _ | .range _ _ _ | .tup _ | .lst _ | .set _ _ _ | .ptr _ | .itr _ _ | .fn _ | .dict _ | .sm _ _ | .bag _ | .any => no_some
theorem int?_eq {a : AV} {x} : (h : a.int? = some x) → a = .int x := match a with | .int _ => fun h => congrArg AV.int (Option.some.inj h) | .none | .bool _ | .float _ | .str _ | .bytes _ | .type _ | .range _ _ _ | .tup _ | .lst _ | .set _ _ _ | .ptr _ | .itr _ _ | .fn _ | .dict _ | .sm _ _ | .bag _ | .any => no_some
theorem type?_eq {a : AV} {x} : (h : a.type? = some x) → a = .type x := match a with | .type _ => fun h => congrArg AV.type (Option.some.inj h) | .none | .bool _ | .int _ | .float _ | .str _ | .bytes _ | .range _ _ _ | .tup _ | .lst _ | .set _ _ _ | .ptr _ | .itr _ _ | .fn _ | .dict _ | .sm _ _ | .bag _ | .any => no_some
theorem none?_eq {a : AV} : (h : a.none? = true) → a = .none := match a with | .none => fun _ => rfl | .bool _ | .int _ | .float _ | .str _ | .bytes _ | .type _ | .range _ _ _ | .tup _ | .lst _ | .set _ _ _ | .ptr _ | .itr _ _ | .fn _ | .dict _ | .sm _ _ | .bag _ | .any => no_true
noncomputable def two {α β : Type} (f : AV → Option α) (a b : AV) (g : α → α → β) (e : β) : β := match f a with
  | some x => (match f b with
    | some y => g x y
    | none => e)
  | none => e
theorem two_cases {α β : Type} {f : AV → Option α} {a b : AV} {g : α → α → β} {e : β} {P : β → Prop} (h1 : ∀ x y, f a = some x → f b = some y → P (g x y)) (h2 : P e) : P (two f a b g e) := by
  unfold two
  cases ha : f a with
  | none => exact h2
  | some x => cases hb : f b with
    | none => exact h2
    | some y => exact h1 x y ha hb
noncomputable def AV.bool? : AV → Option Bool | .bool x => some x | _ => Option.none
theorem bool?_eq {a : AV} {x} : (h : a.bool? = some x) → a = .bool x := match a with | .bool _ => fun h => congrArg AV.bool (Option.some.inj h) | .none | .int _ | .float _ | .str _ | .bytes _ | .type _ | .range _ _ _ | .tup _ | .lst _ | .set _ _ _ | .ptr _ | .itr _ _ | .fn _ | .dict _ | .sm _ _ | .bag _ | .any => no_some
/- equality -/
noncomputable def eqO (x y : AV) : Option Bool := two AV.str? x y (fun a b => some (a == b)) (two AV.bytes? x y (fun a b => some (a.toList == b.toList)) none)
noncomputable def eqS (x y : AV) : Option Bool := two AV.int? x y (fun a b => some (a == b)) (two AV.bool? x y (fun a b => some (a == b)) (if (x.none? && y.none?) = true then some true else eqO x y))
noncomputable def allZ (f : AV → AV → Option Bool) : List AV → List AV → Option Bool
  | x :: xs, y :: ys => match f x y with
    | some a => (allZ f xs ys).map (a && ·)
    | none => none
  | _, _ => some true
noncomputable def eqL (f : AV → AV → Option Bool) (xs ys : List AV) : Option Bool := if xs.length = ys.length then allZ f xs ys else some false
noncomputable def eqT (f : AV → AV → Option Bool) (xs ys : List AV) : Option Bool := (allZ f xs ys).map (· && xs.length == ys.length)
/-- items: classes by their names -/
noncomputable def itm (f : AV → AV → Option Bool) (x y : AV) : Option Bool := two AV.type? x y (fun a b => if a = b then some true else none) (f x y)
noncomputable def eqN : Nat → AV → AV → Option Bool
  | 0, x, y => eqS x y
  | n + 1, x, y => two AV.lst? x y (eqL (itm (eqN n))) (two AV.tup? x y (eqT (itm (eqN n))) (eqS x y))
structure EqB (A : Around) (s : Shared) (va vb : Value) (b : Bool) : Prop where
  rc : RcAt A s va vb b
  ne : RcNeAt A s va vb (!b)
  eq : EqAt A s va vb b
theorem EqAt.bytes_bytes {A : Around} {s : Shared} (a : Array UInt8) (t : Tok) (b : Array UInt8) (u : Tok) : EqAt A s (.bytes a t) (.bytes b u) (a.toList == b.toList) := fun prog w E Q h => by
  unfold eqBool
  refine wpAny_holding ?_
  refine wpAny_ite_split (fun hab => ?_) (fun _ => ?_)
  · have e : a = b := by have := eq_of_beq hab; injection this
    subst e
    exact wpAny_bind (wpAny_rule (wpAny_pure (by simpa using h)))
  · exact wpAny_bind ((eq_bytes (wpAny_truthy_bool h) : wpAny _ _ (compareOp .Eq _ _) _ _ _))
theorem EqAt.none_none {A : Around} {s : Shared} : EqAt A s .none .none true := EqAt.same _
theorem eqO_ok {A : Around} {s : Shared} {H : Hd} {x y : AV} {va vb : Value} {b : Bool} (h : eqO x y = some b) (ra : RepO s.heap H va x) (rb : RepO s.heap H vb y) : EqB A s va vb b := by
  revert h
  refine two_cases (P := fun r => r = some b → EqB A s va vb b) (fun a c ea ec h => ?_) (two_cases (P := fun r => r = some b → EqB A s va vb b) (fun a c ea ec h => ?_) nofun)
  · rw [str?_eq ea] at ra; rw [str?_eq ec] at rb
    obtain ⟨t, rfl⟩ := ra; obtain ⟨u, rfl⟩ := rb
    cases h; exact ⟨RcAt.str_str _ _ _ _, RcNeAt.str_str _ _ _ _, EqAt.str_str _ _ _ _⟩
  · rw [bytes?_eq ea] at ra; rw [bytes?_eq ec] at rb
    obtain ⟨t, rfl⟩ := ra; obtain ⟨u, rfl⟩ := rb
    cases h
    exact ⟨fun prog w E Q h => (eq_bytes h : wpAny _ _ (compareOp .Eq _ _) _ _ _), fun prog w E Q h => (ne_bytes h : wpAny _ _ (compareOp .NotEq _ _) _ _ _), EqAt.bytes_bytes _ _ _ _⟩
theorem eqS_ok {A : Around} {s : Shared} {H : Hd} {x y : AV} {va vb : Value} {b : Bool} (h : eqS x y = some b) (ra : RepO s.heap H va x) (rb : RepO s.heap H vb y) : EqB A s va vb b := by
  revert h
  refine two_cases (P := fun r => r = some b → EqB A s va vb b) (fun a c ea ec h => ?_) (two_cases (P := fun r => r = some b → EqB A s va vb b) (fun a c ea ec h => ?_) fun h => ?_)
  · rw [int?_eq ea] at ra; rw [int?_eq ec] at rb
    obtain ⟨t, rfl⟩ := ra; obtain ⟨u, rfl⟩ := rb
    cases h; exact ⟨RcAt.int_int _ _ _ _, RcNeAt.int_int _ _ _ _, EqAt.int_int _ _ _ _⟩
  · rw [bool?_eq ea] at ra; rw [bool?_eq ec] at rb
    cases ra; cases rb
    cases h; exact ⟨RcAt.bool_bool _ _, RcNeAt.bool_bool _ _, EqAt.bool_bool _ _⟩
  · split at h
    · rename_i hn
      have hn := Bool.and_eq_true_iff.mp hn
      rw [none?_eq hn.1] at ra; rw [none?_eq hn.2] at rb
      cases ra; cases rb
      cases h; exact ⟨RcAt.none_none, RcNeAt.none_none, EqAt.none_none⟩
    · exact eqO_ok h ra rb
theorem allZ_some {f : AV → AV → Option Bool} : ∀ {xs ys : List AV} {b : Bool}, allZ f xs ys = some b → ∃ e : Nat → Bool, (∀ (j : Nat) x y, xs[j]? = some x → ys[j]? = some y → f x y = some (e j)) ∧ b = (List.range (min xs.length ys.length)).all e
  | [], ys, b, h => by
    simp only [allZ, Option.some.injEq] at h
    exact ⟨fun _ => true, fun j x y hx => by simp at hx, by simp [← h]⟩
  | x :: xs, [], b, h => by
    simp only [allZ, Option.some.injEq] at h
    exact ⟨fun _ => true, fun j x y _ hy => by simp at hy, by simp [← h]⟩
  | x :: xs, y :: ys, b, h => by
    simp only [allZ] at h
    split at h
    · rename_i a ha
      simp only [Option.map_eq_some_iff] at h
      obtain ⟨c, hc, rfl⟩ := h
      obtain ⟨e, he, hb⟩ := allZ_some hc
      refine ⟨fun j => match j with | 0 => a | j + 1 => e j, fun j x' y' hx hy => ?_, ?_⟩
      · cases j with
        | zero => simp at hx hy; subst hx; subst hy; exact ha
        | succ j => simp at hx hy; exact he j x' y' hx hy
      · rw [hb, List.length_cons, List.length_cons, Nat.succ_min_succ, List.range_succ_eq_map, List.all_cons, List.all_map]; rfl
    · cases h
theorem vis_fun {h : Heap} {H : Hd} {a : Addr} {c c' : Value} {d d' : Data} (x : (vis h H).r a c d) (y : (vis h H).r a c' d') : c = c' ∧ d = d' := by
  obtain ⟨_, o, e, rfl, rfl, _⟩ := x
  obtain ⟨_, o', e', rfl, rfl, _⟩ := y
  rw [e] at e'; cases e'
  exact ⟨rfl, rfl⟩
theorem eqO_same {h : Heap} {H : Hd} {x y : AV} {v : Value} {b : Bool} (e : eqO x y = some b) (ra : Rep (vis h H) v x) (rb : Rep (vis h H) v y) : b = true := by
  revert e
  refine two_cases (P := fun r => r = some b → b = true) (fun a c ea ec e => ?_) (two_cases (P := fun r => r = some b → b = true) (fun a c ea ec e => ?_) nofun)
  · rw [str?_eq ea] at ra; rw [str?_eq ec] at rb
    obtain ⟨t, rfl⟩ := ra; obtain ⟨u, e2⟩ := rb; cases e2; cases e; exact beq_self_eq_true _
  · rw [bytes?_eq ea] at ra; rw [bytes?_eq ec] at rb
    obtain ⟨t, rfl⟩ := ra; obtain ⟨u, e2⟩ := rb; cases e2; cases e; exact beq_self_eq_true _
theorem eqS_same {h : Heap} {H : Hd} {x y : AV} {v : Value} {b : Bool} (e : eqS x y = some b) (ra : Rep (vis h H) v x) (rb : Rep (vis h H) v y) : b = true := by
  revert e
  refine two_cases (P := fun r => r = some b → b = true) (fun a c ea ec e => ?_) (two_cases (P := fun r => r = some b → b = true) (fun a c ea ec e => ?_) fun e => ?_)
  · rw [int?_eq ea] at ra; rw [int?_eq ec] at rb
    obtain ⟨t, rfl⟩ := ra; obtain ⟨u, e2⟩ := rb; cases e2; cases e; exact beq_self_eq_true _
  · rw [bool?_eq ea] at ra; rw [bool?_eq ec] at rb
    cases ra; cases rb; cases e; exact beq_self_eq_true _
  · split at e
    · cases e; rfl
    · exact eqO_same e ra rb
theorem allZ_same {h : Heap} {H : Hd} {f : AV → AV → Option Bool} (hf : ∀ x y v b, f x y = some b → Rep (vis h H) v x → Rep (vis h H) v y → b = true) : ∀ {xs ys : List AV} {vs : List Value} {b : Bool}, allZ f xs ys = some b → RepL (vis h H) vs xs → RepL (vis h H) vs ys → b = true
  | [], _, _, b, e, _, _ => by simp only [allZ, Option.some.injEq] at e; exact e.symm
  | _ :: _, [], _, b, e, _, _ => by simp only [allZ, Option.some.injEq] at e; exact e.symm
  | x :: xs, y :: ys, [], b, e, r, _ => by simp [RepL] at r
  | x :: xs, y :: ys, v :: vs, b, e, r, r' => by
    simp only [RepL] at r r'
    simp only [allZ] at e
    split at e
    · rename_i a ha
      simp only [Option.map_eq_some_iff] at e
      obtain ⟨c, hc, rfl⟩ := e
      rw [hf x y v a ha r.1 r'.1, allZ_same hf hc r.2 r'.2]; rfl
    · cases e
theorem eqL_same {h : Heap} {H : Hd} {f : AV → AV → Option Bool} (hf : ∀ x y v b, f x y = some b → Rep (vis h H) v x → Rep (vis h H) v y → b = true) {xs ys : List AV} {v : Value} {b : Bool} (e : eqL f xs ys = some b) (ra : Rep (vis h H) v (.lst xs)) (rb : Rep (vis h H) v (.lst ys)) : b = true := by
  simp only [Rep] at ra rb
  obtain ⟨_, a, vs, k, rfl, r1, l1⟩ := ra
  obtain ⟨_, a', vs', k', ea, r2, l2⟩ := rb
  cases ea
  have := (vis_fun r1 r2).2
  simp only [Data.seq.injEq] at this
  have hv : vs = vs' := congrArg Array.toList this.1
  subst hv
  rw [eqL, if_pos (l1.length.symm.trans l2.length)] at e
  exact allZ_same hf e l1 l2
theorem eqT_same {h : Heap} {H : Hd} {f : AV → AV → Option Bool} (hf : ∀ x y v b, f x y = some b → Rep (vis h H) v x → Rep (vis h H) v y → b = true) {xs ys : List AV} {v : Value} {b : Bool} (e : eqT f xs ys = some b) (ra : Rep (vis h H) v (.tup xs)) (rb : Rep (vis h H) v (.tup ys)) : b = true := by
  simp only [Rep] at ra rb
  obtain ⟨_, a, vs, k, rfl, r1, l1⟩ := ra
  obtain ⟨_, a', vs', k', ea, r2, l2⟩ := rb
  cases ea
  have := (vis_fun r1 r2).2
  simp only [Data.seq.injEq] at this
  have hv : vs = vs' := congrArg Array.toList this.1
  subst hv
  obtain ⟨c, hc, rfl⟩ := Option.map_eq_some_iff.mp e
  rw [allZ_same hf hc l1 l2, l1.length.symm.trans l2.length, Bool.true_and]; exact beq_self_eq_true _
theorem itm_same {h : Heap} {H : Hd} {f : AV → AV → Option Bool} (hf : ∀ x y v b, f x y = some b → Rep (vis h H) v x → Rep (vis h H) v y → b = true) : ∀ x y v b, itm f x y = some b → Rep (vis h H) v x → Rep (vis h H) v y → b = true := fun x y v b e ra rb => by
  revert e
  refine two_cases (P := fun r => r = some b → b = true) (fun a c _ _ e => ?_) fun e => hf x y v b e ra rb
  split at e
  · cases e; rfl
  · cases e
theorem eqN_same {h : Heap} {H : Hd} : ∀ (n : Nat) (x y : AV) (v : Value) (b : Bool), eqN n x y = some b → Rep (vis h H) v x → Rep (vis h H) v y → b = true
  | 0, x, y, v, b, e, ra, rb => eqS_same e ra rb
  | n + 1, x, y, v, b, e, ra, rb => by
    revert e
    refine two_cases (P := fun r => r = some b → b = true) (fun a c ea ec e => ?_) (two_cases (P := fun r => r = some b → b = true) (fun a c ea ec e => ?_) fun e => eqS_same e ra rb)
    · rw [lst?_eq ea] at ra; rw [lst?_eq ec] at rb
      exact eqL_same (itm_same (eqN_same n)) e ra rb
    · rw [tup?_eq ea] at ra; rw [tup?_eq ec] at rb
      exact eqT_same (itm_same (eqN_same n)) e ra rb
/-- what is known of the items of two rows -/
noncomputable def EqF (A : Around) (s : Shared) (H : Hd) (f : AV → AV → Option Bool) : Prop := ∀ x y va vb b, f x y = some b → Rep (vis s.heap H) va x → Rep (vis s.heap H) vb y → EqAt A s va vb b
theorem eq_items {A : Around} {s : Shared} {H : Hd} {f : AV → AV → Option Bool} (hf : EqF A s H f) {xs ys : List AV} {vs ws : List Value} (rl : RepL (vis s.heap H) vs xs) (rl' : RepL (vis s.heap H) ws ys) {e : Nat → Bool} (he : ∀ (j : Nat) x y, xs[j]? = some x → ys[j]? = some y → f x y = some (e j)) :
    ∀ j (h1 : j < vs.toArray.size) (h2 : j < ws.toArray.size), EqAt A s vs.toArray[j] ws.toArray[j] (e j) := fun j h1 h2 => by
  have h1' : j < vs.length := h1
  have h2' : j < ws.length := h2
  have e1 : xs[j]? = some (xs[j]'(by rw [← rl.length]; exact h1')) := List.getElem?_eq_getElem _
  have e2 : ys[j]? = some (ys[j]'(by rw [← rl'.length]; exact h2')) := List.getElem?_eq_getElem _
  obtain ⟨v, hv, rv⟩ := rl.get e1
  obtain ⟨v', hv', rv'⟩ := rl'.get e2
  rw [List.getElem?_eq_getElem h1'] at hv
  rw [List.getElem?_eq_getElem h2'] at hv'
  cases hv; cases hv'
  exact hf _ _ _ _ _ (he j _ _ e1 e2) rv rv'
abbrev EqR (A : Around) (s : Shared) (H : Hd) (x y : AV) (va vb : Value) (b : Bool) : Prop := RcAt A s va vb b ∧ RcNeAt A s va vb (!b) ∧ (Rep (vis s.heap H) va x → Rep (vis s.heap H) vb y → EqAt A s va vb b)
theorem eq_refs {A : Around} {s : Shared} {H : Hd} {x y : AV} {l l' : Addr} {b : Bool} (same : ∀ v, Rep (vis s.heap H) v x → Rep (vis s.heap H) v y → b = true) (g1 : RcAt A s (.ref l) (.ref l') b) (g2 : RcNeAt A s (.ref l) (.ref l') (!b)) : EqR A s H x y (.ref l) (.ref l') b := by
  refine ⟨g1, g2, fun r r' => ?_⟩
  by_cases hll : l = l'
  · subst hll
    rw [same _ r r']
    exact EqAt.same _
  · exact EqAt.of_refs hll g1
theorem eqL_ok {A : Around} {s : Shared} {H : Hd} {f : AV → AV → Option Bool} (hu : A.units < cLine) (hf : EqF A.in1 s H f) (hs : ∀ x y v b, f x y = some b → Rep (vis s.heap H) v x → Rep (vis s.heap H) v y → b = true) {xs ys : List AV} {va vb : Value} {b : Bool} (h : eqL f xs ys = some b) (ra : RepO s.heap H va (.lst xs)) (rb : RepO s.heap H vb (.lst ys)) : EqR A s H (.lst xs) (.lst ys) va vb b := by
  have same : ∀ v, Rep (vis s.heap H) v (.lst xs) → Rep (vis s.heap H) v (.lst ys) → b = true := fun v r r' => eqL_same hs h r r'
  obtain ⟨_, l, vs, rfl, hl, rl⟩ := ra
  obtain ⟨_, l', ws, rfl, hl', rl'⟩ := rb
  have n1 := rl.length
  have n2 := rl'.length
  unfold eqL at h
  split at h
  · rename_i hlen
    have hsz : vs.toArray.size = ws.toArray.size := (n1.trans hlen).trans n2.symm
    obtain ⟨e, he, rfl⟩ := allZ_some h
    have hm : min xs.length ys.length = vs.toArray.size := by rw [← hlen, Nat.min_self]; exact n1.symm
    rw [hm] at same ⊢
    have hE := eq_items hf rl rl' he
    exact eq_refs same (RcAt.lists hl.isList hl'.isList hsz hu hE) (RcNeAt.lists hl.isList hl'.isList hsz hu hE)
  · rename_i hlen
    cases h
    have hsz : (vs.toArray.size != ws.toArray.size) = true := bne_iff_ne.mpr fun z => hlen ((n1.symm.trans z).trans n2)
    exact eq_refs same (RcAt.lists_lengths hl.isList hl'.isList hsz hu) (RcNeAt.lists_lengths hl.isList hl'.isList hsz hu)
theorem eqT_ok {A : Around} {s : Shared} {H : Hd} {f : AV → AV → Option Bool} (hu : A.units < cLine) (hf : EqF A.in1 s H f) (hs : ∀ x y v b, f x y = some b → Rep (vis s.heap H) v x → Rep (vis s.heap H) v y → b = true) {xs ys : List AV} {va vb : Value} {b : Bool} (h : eqT f xs ys = some b) (ra : RepO s.heap H va (.tup xs)) (rb : RepO s.heap H vb (.tup ys)) : EqR A s H (.tup xs) (.tup ys) va vb b := by
  have same : ∀ v, Rep (vis s.heap H) v (.tup xs) → Rep (vis s.heap H) v (.tup ys) → b = true := fun v r r' => eqT_same hs h r r'
  have ra : Rep (vis s.heap H) va (.tup xs) := ra
  have rb : Rep (vis s.heap H) vb (.tup ys) := rb
  simp only [Rep] at ra rb
  obtain ⟨_, l, vs, k, rfl, ⟨_, o, e1, e2, e3, _⟩, rl⟩ := ra
  obtain ⟨_, l', ws, k', rfl, ⟨_, o', e1', e2', e3', _⟩, rl'⟩ := rb
  have hl : s.heap.IsTuple l vs.toArray := ⟨o, e1, e2, k, e3⟩
  have hl' : s.heap.IsTuple l' ws.toArray := ⟨o', e1', e2', k', e3'⟩
  obtain ⟨c, hc, rfl⟩ := Option.map_eq_some_iff.mp h
  obtain ⟨e, he, rfl⟩ := allZ_some hc
  have m1 : xs.length = vs.toArray.size := rl.length.symm
  have m2 : ys.length = ws.toArray.size := rl'.length.symm
  rw [m1, m2] at same ⊢
  have hE := eq_items hf rl rl' he
  exact eq_refs same (RcAt.tuples hl hl' hu hE) (RcNeAt.tuples hl hl' hu hE)
theorem itm_ok {A : Around} {s : Shared} {H : Hd} {f : AV → AV → Option Bool} (hf : EqF A s H f) : EqF A s H (itm f) := fun x y va vb b e ra rb => by
  revert e
  refine two_cases (P := fun r => r = some b → EqAt A s va vb b) (fun a c ea ec e => ?_) fun e => hf x y va vb b e ra rb
  rw [type?_eq ea] at ra; rw [type?_eq ec] at rb
  cases ra; cases rb
  split at e
  · rename_i h; cases e; subst h; exact EqAt.same _
  · cases e
theorem eqN_ok {s : Shared} {H : Hd} : ∀ (n : Nat) {A : Around} {x y : AV} {va vb : Value} {b : Bool}, A.units + n < cLine → eqN n x y = some b → RepO s.heap H va x → RepO s.heap H vb y → EqR A s H x y va vb b
  | 0, A, x, y, va, vb, b, _, h, ra, rb => let ⟨h1, h2, h3⟩ := eqS_ok (A := A) h ra rb; ⟨h1, h2, fun _ _ => h3⟩
  | n + 1, A, x, y, va, vb, b, hu, h, ra, rb => by
    have hf : EqF A.in1 s H (itm (eqN n)) := itm_ok fun x y va vb b e r r' => (eqN_ok n (A := A.in1) (by show A.units + 1 + n < cLine; omega) e (.of r) (.of r')).2.2 r r'
    have hu1 : A.units < cLine := by omega
    revert h
    refine two_cases (P := fun r => r = some b → EqR A s H x y va vb b) (fun a c ea ec h => ?_) (two_cases (P := fun r => r = some b → EqR A s H x y va vb b) (fun a c ea ec h => ?_) fun h => ?_)
    · have ea := lst?_eq ea; have ec := lst?_eq ec
      subst ea; subst ec
      exact eqL_ok hu1 hf (itm_same (eqN_same n)) h ra rb
    · have ea := tup?_eq ea; have ec := tup?_eq ec
      subst ea; subst ec
      exact eqT_ok hu1 hf (itm_same (eqN_same n)) h ra rb
    · obtain ⟨h1, h2, h3⟩ := eqS_ok (A := A) h ra rb
      exact ⟨h1, h2, fun _ _ => h3⟩
noncomputable def eqCmp (op : CmpOp) (x y : AV) : Option Bool := match op with
  | .Eq => eqN 3 x y
  | .NotEq => (eqN 3 x y).map (!·)
  | _ => none
theorem eqCmp_ok {c : Cx} {q : Bool} {k : Nat} {A : Around} {s : Shared} {H : Hd} {op : CmpOp} {x y : AV} {va vb : Value} {r : Bool} (hm : Rm c q (k + 1) A s.heap) (h : eqCmp op x y = some r) (ra : RepO s.heap H va x) (rb : RepO s.heap H vb y) : Tr c q A H (compareOp op va vb) (.ok (.bool r)) s := by
  have hu : A.units + 3 < cLine := by have := hm.units; omega
  cases op <;> simp only [eqCmp, reduceCtorEq] at h
  · exact fun Q E P => (eqN_ok 3 hu h ra rb).1 _ _ _ _ (P _ _ (Kp.refl _ _) rfl)
  · simp only [Option.map_eq_some_iff] at h
    obtain ⟨b, h, rfl⟩ := h
    exact fun Q E P => (eqN_ok 3 hu h ra rb).2.1 _ _ _ _ (P _ _ (Kp.refl _ _) rfl)

/- order -/
end Mine
end
section
open PySem PySem.W PyProof.Rows
namespace Mine
open SeqAt
set_option maxRecDepth 100000
end Mine
end
section
open PySem PySem.W PyProof.Rows
namespace Mine
set_option maxRecDepth 100000
section
variable {prog : Program} {w : World} {A : Around} {hp : Heap} {g : Array GenState} {d : Drawn} {tk : Nat} {os : OsState} {l : Addr} {vs : Array Value} {n : Nat} {sl : Array (Option Value)}
end
end Mine
end
section
open PySem PySem.W PyProof.Rows
namespace Mine
set_option maxRecDepth 100000
section
variable {c : Cx} {q : Bool} {k : Nat} {A : Around} {s : Shared} {H : Hd}
theorem truthL_ok {l : Addr} {vs : List Value} {xs : List AV} (hl : IsL s.heap l vs) (hz : xs.length ≤ 1048576) (rl : RepL (vis s.heap H) vs xs) : TrB c A (truthy (.ref l)) (!xs.isEmpty) s := fun Q E P => by
  refine wpAny_truthy_list hl.isList (by rw [List.size_toArray, rl.length]; omega) ?_
  have e : (!vs.toArray.isEmpty) = !xs.isEmpty := by
    have := rl.length
    cases vs with
    | nil => cases xs with
      | nil => rfl
      | cons _ _ => simp at this
    | cons _ _ => cases xs with
      | nil => simp at this
      | cons _ _ => simp
  rw [e]
  exact P _ Kp.toks
end
end Mine
end
section
open PySem PySem.W PyProof.Rows
namespace Mine

/-- built-ins by name -/
inductive BI where
  | len | sum | range | type | sorted | set | frozenset
deriving DecidableEq, Inhabited
noncomputable def BI.name : BI → String
  | len => "len" | sum => "sum" | range => "range" | type => "type"
  | sorted => "sorted" | set => "set" | frozenset => "frozenset"
/-- methods by name -/
inductive MI where
  | index | count | join | other
deriving DecidableEq, Inhabited
abbrev Store := List (Option MO)
/-- an operand: a value, or the list that a slot holds alone -/
inductive OV where
  | av (x : AV)
  | own (i : Nat)
deriving Inhabited
/-- what an expression comes to, with the things that can turn behind it -/
inductive ER where
  | ok (v : OV) (σ : Store)
  | exc (x : EX) (σ : Store)
  | stuck
deriving Inhabited

/-- methods that turn their thing -/
inductive EMI where
  | append | pop
deriving DecidableEq, Inhabited
/-- methods of a list that a slot holds alone -/
inductive OMI where
  | append | insert | remove
deriving DecidableEq, Inhabited
noncomputable def OMI.name : OMI → String
  | .append => "append" | .insert => "insert" | .remove => "remove"
/-- attributes of a class -/
inductive TA where
  | name_ | lengthHint
deriving DecidableEq, Inhabited
mutual
inductive PE where
  | const (v : AV)
  | name (i : Nat)
  | glob (b : BI)
  | bin (op : Operator) (l r : PE)
  | un (op : UnaryOp) (x : PE)
  | cmp (op : CmpOp) (l r : PE)
  | bop (op : BoolOp) (xs : PEs)
  | list (xs : PEs)
  | tup (xs : PEs)
  | sub (o i : PE)
  | slice (o a b s : PE)
  | call (f : Nat) (xs : PEs)
  | bcall (f : BI) (xs : PEs)
  | comp (caps : List Nat) (elt src : PE) (cond : PEs)
  | compS (caps : List Nat) (elt src : PE) (cond : PEs)
  | setd (x : PE)
  | ecall (f : BI) (xs : PEs)
inductive PEs where
  | nil
  | cons (e : PE) (es : PEs)
end

noncomputable def RepOL (h : Heap) (H : Hd) : List Value → List AV → Prop
  | [], [] => True
  | v :: vs, x :: xs => RepO h H v x ∧ RepOL h H vs xs
  | _, _ => False
/-- what an iterator over a value hands out -/
structure Itr (c : Cx) (A : Around) (I : Addr) (fp : Addr → Prop) (P : Nat → Value → Prop) (n : Nat) (St : Nat → Heap → Prop) : Prop where
  fld : ∀ i h, St i h → ∃ o fs, h.get? I = some o ∧ o.data = .fields fs ∧ ¬ okC o.cls
  nt : ∀ i h, St i h → ∃ o n, h.get? I = some o ∧ o.cls = .type n ∧ ["enumerate", "zip", "dict_itemiterator", "dict_reverseitemiterator", "odict_iterator", "itertools.zip_longest", "itertools.pairwise"].contains n = false
  frame : ∀ i h h', St i h → (∀ b o, fp b → h.get? b = some o → ((∃ fs, o.data = .fields fs) → h'.get? b = some o) ∧ ∃ sl, h'.get? b = some { o with slots := sl }) → St i h'
  item : ∀ i (s : Shared) (Q : Option Value → Shared → Prop) (E : Value → Shared → Prop), i < n → St i s.heap →
    (∀ v h' tk, P i v → St (i + 1) h' → (∀ b o, b ≠ I → s.heap.get? b = some o → h'.get? b = some o) → (∃ o, h'.get? I = some o) → Q (some v) { s with heap := h', toks := tk }) → wpAny c.M A (pyNext (.ref I)) Q E s
  done : ∀ (s : Shared) (Q : Option Value → Shared → Prop) (E : Value → Shared → Prop), St n s.heap →
    (∀ h' tk, (∀ b o, b ≠ I → s.heap.get? b = some o → h'.get? b = some o) → Q none { s with heap := h', toks := tk }) → wpAny c.M A (pyNext (.ref I)) Q E s
  self : ∀ i (s : Shared) (Q : Value → Shared → Prop) (E : Value → Shared → Prop), St i s.heap → Q (.ref I) s → wpAny c.M A (pyIter (.ref I)) Q E s

/-- the words that are served -/
structure OpsF where
  ld : Bool
  bin : Operator → AV → AV → Res
  inpl : Operator → AV → AV → Res
  un : UnaryOp → AV → Res
  cmp : CmpOp → AV → AV → Option Bool
  truth : AV → Option Bool
  idx : AV → AV → Res
  slice : AV → AV → AV → AV → Res
  bcall : BI → List AV → Res
  items : AV → Option (List AV)
  is_ : AV → AV → Option Bool
  ecall : BI → Store → Nat → List AV → ER
  ometh : OMI → List AV → List AV → Option (List AV)
  sitems : AV → Option (List Int)
  einpl : Operator → Store → Nat → AV → AV → ER

/-- where may be written -/
noncomputable def Wr (σ : Store) (H : Hd) (lo : Nat) (b : Addr) : Prop := ∃ n mo, lo ≤ n ∧ σ[n]? = some (some mo) ∧ H.m n = some b
/-- a step that turns what may be turned, and makes anew -/
structure Ss (A : Around) (lo : Nat) (σ : Store) (H : Hd) (s : Shared) (σ' : Store) (H' : Hd) (s' : Shared) : Prop where
  rest : ∃ h' tk, s' = { s with heap := h', toks := tk }
  kv : Kv (FrA A) (Wr σ H lo) s.heap s'.heap
  lv : ∀ b o, s.heap.get? b = some o → ∃ o', s'.heap.get? b = some o'
  nf : Nf s.heap s'.heap
  hp : ∀ b, H.p b → H'.p b
  hid : ∀ b, H'.p b → H.p b ∨ s.heap.get? b = none
  mx : ∀ n a, H.m n = some a → H'.m n = some a
  mn : ∀ n a, H'.m n = some a → H.m n = some a ∨ (σ.length ≤ n ∧ s.heap.get? a = none)
  o : H'.o = H.o
  sto : Sto σ' H' s'.heap
  live : Live H' s'.heap
  len : σ.length ≤ σ'.length
  rv : ∀ (n : Nat) mo, n < σ.length → σ'[n]? = some (some mo) → ∃ mo', σ[n]? = some (some mo')
  hm0 : ∀ n a, H.m n = some a → n < σ.length

theorem Ss.of_kp {A : Around} {lo : Nat} {σ : Store} {H : Hd} {s s' : Shared} (k : Kp A s s') (S : Sto σ H s.heap) (L : Live H s.heap) : Ss A lo σ H s σ H s' where
  rest := let ⟨h, t, e, _⟩ := k; ⟨h, t, e⟩
  kv := k.kh.kv
  lv := fun b o e => let ⟨_, q⟩ := (k.kh b o e).2; ⟨_, q⟩
  nf := k.kh.nf
  hp := fun _ z => z
  hid := fun _ z => .inl z
  mx := fun _ _ z => z
  mn := fun _ _ z => .inl z
  o := rfl
  sto := S.kh k.kh
  live := L.kp k
  len := Nat.le_refl _
  rv := fun n mo _ e => ⟨mo, e⟩
  hm0 := S.lt
theorem Ss.vis {A : Around} {lo : Nat} {σ σ' : Store} {H H' : Hd} {s s' : Shared} (x : Ss A lo σ H s σ' H' s') (S : Sto σ H s.heap) : (vis s.heap H).Le (Mine.vis s'.heap H') := ⟨by
  rintro a c d ⟨n, o, e, r⟩
  have hw : ∀ b, Wr σ H lo b → H.p b := fun b ⟨m, mo, _, e1, e2⟩ => S.hid m b mo e1 e2
  obtain ⟨_, o', e', r'⟩ := (x.kv.vis (H := H) hw).r a c d ⟨n, o, e, r⟩
  refine ⟨fun z => ?_, o', e', r'⟩
  rcases x.hid a z with z | z
  · exact n z
  · (rw [e] at z; cases z), x.mx⟩
theorem Ss.trans {A : Around} {lo : Nat} {σ σ₁ σ₂ : Store} {H H₁ H₂ : Hd} {s s₁ s₂ : Shared} (x : Ss A lo σ H s σ₁ H₁ s₁) (y : Ss A lo σ₁ H₁ s₁ σ₂ H₂ s₂) : Ss A lo σ H s σ₂ H₂ s₂ := by
  have dead : ∀ b, s₁.heap.get? b = none → s.heap.get? b = none := fun b z => by
    cases q : s.heap.get? b with
    | none => rfl
    | some o => obtain ⟨o', e'⟩ := x.lv b o q; rw [z] at e'; cases e'
  exact {
    rest := by
      obtain ⟨h, t, rfl⟩ := x.rest
      obtain ⟨h', t', rfl⟩ := y.rest
      exact ⟨h', t', rfl⟩
    kv := fun b o n e => by
      have n1 : ¬ Wr σ₁ H₁ lo b := fun ⟨m, mo, l1, e1, e2⟩ => by
        rcases x.mn m b e2 with e2 | ⟨_, e2⟩
        · have hm := x.sto.lt m b (x.mx m b e2)
          rcases Nat.lt_or_ge m σ.length with hl | hl
          · obtain ⟨mo', e3⟩ := x.rv m mo hl e1
            exact n ⟨m, mo', l1, e3, e2⟩
          · exact n (by
              rcases Classical.em (∃ mo', σ[m]? = some (some mo')) with ⟨mo', e3⟩ | e3
              · exact ⟨m, mo', l1, e3, e2⟩
              · exact absurd e2 (fun e2 => by
                  have := x.hm0 m b e2; omega))
        · rw [e] at e2; cases e2
      obtain ⟨p1, sl, p2⟩ := x.kv b o n e
      obtain ⟨q1, sl', q2⟩ := y.kv b _ n1 p2
      exact ⟨fun f => (y.kv b o n1 (p1 f)).1 f, sl', q2⟩
    lv := fun b o e => let ⟨o', e'⟩ := x.lv b o e; y.lv b o' e'
    nf := x.nf.trans y.nf
    hp := fun b z => y.hp b (x.hp b z)
    hid := fun b z => by
      rcases y.hid b z with z | z
      · exact x.hid b z
      · exact .inr (dead b z)
    mx := fun n a z => y.mx n a (x.mx n a z)
    mn := fun n a z => by
      rcases y.mn n a z with z | ⟨z1, z2⟩
      · exact x.mn n a z
      · exact .inr ⟨Nat.le_trans x.len z1, dead a z2⟩
    o := y.o.trans x.o
    sto := y.sto
    live := y.live
    len := Nat.le_trans x.len y.len
    hm0 := x.hm0
    rv := fun n mo hl e => by
      obtain ⟨mo', e'⟩ := y.rv n mo (Nat.lt_of_lt_of_le hl x.len) e
      exact x.rv n mo' hl e' }

/-- an operand's value -/
noncomputable def RepW (H : Hd) (R : Vw) (w : Value) : OV → Prop
  | .av x => Rep R w x
  | .own i => ∃ a, H.o i = some a ∧ w = .ref a
noncomputable def RepWL (H : Hd) (R : Vw) : List Value → List OV → Prop
  | [], [] => True
  | v :: vs, x :: xs => RepW H R v x ∧ RepWL H R vs xs
  | _, _ => False
theorem RepW.ss {A : Around} {lo : Nat} {σ σ' : Store} {H H' : Hd} {s s' : Shared} (x : Ss A lo σ H s σ' H' s') (S : Sto σ H s.heap) {w : Value} : ∀ {v : OV}, RepW H (vis s.heap H) w v → RepW H' (vis s'.heap H') w v
  | .av _, r => Rep.mono (x.vis S) r
  | .own i, ⟨a, e, q⟩ => ⟨a, by rw [x.o]; exact e, q⟩
noncomputable def PostE (q : Bool) (A : Around) (lo : Nat) (σ : Store) (H : Hd) (r : ER) (s : Shared) (Q E : Value → Shared → Prop) : Prop := match r with
  | .ok v σ' => ∀ w H' s', Ss A lo σ H s σ' H' s' → RepW H' (vis s'.heap H') w v → Q w s'
  | .exc x σ' => q = true ∧ ∀ e H' sr s', Ss A lo σ H s σ' H' sr → Xp A sr s' e x → E e s'
  | .stuck => False
theorem PostE.ss {q : Bool} {A : Around} {lo : Nat} {σ σ₁ : Store} {H H₁ : Hd} {r : ER} {s s₁ : Shared} {Q E : Value → Shared → Prop} (P : PostE q A lo σ H r s Q E) (x : Ss A lo σ H s σ₁ H₁ s₁) : PostE q A lo σ₁ H₁ r s₁ Q E := by
  cases r with
  | ok v σ' => exact fun w H' s' y r => P w H' s' (x.trans y) r
  | exc z σ' => exact ⟨P.1, fun e H' sr s' y X => P.2 e H' sr s' (x.trans y) X⟩
  | stuck => exact P
/-- a tree comes to r -/
noncomputable def Ev (c : Cx) (q : Bool) (A : Around) (lo : Nat) (σ : Store) (H : Hd) (t : Sem Value) (r : ER) (s : Shared) : Prop := ∀ Q E, PostE q A lo σ H r s Q E → wpAny c.M A t Q E s
noncomputable def EvB (c : Cx) (A : Around) (lo : Nat) (σ : Store) (H : Hd) (t : Sem Bool) (r : Option (Bool × Store)) (s : Shared) : Prop := ∀ b σ', r = some (b, σ') → ∀ Q E, (∀ H' s', Ss A lo σ H s σ' H' s' → Q b s') → wpAny c.M A t Q E s
noncomputable def EvL (c : Cx) (A : Around) (lo : Nat) (σ : Store) (H : Hd) (t : Sem (List Value)) (r : Option (List OV × Store)) (s : Shared) : Prop := ∀ xs σ', r = some (xs, σ') → ∀ Q E, (∀ vs H' s', Ss A lo σ H s σ' H' s' → RepWL H' (vis s'.heap H') vs xs → Q vs s') → wpAny c.M A t Q E s
theorem Ev.stuck {c : Cx} {q : Bool} {A : Around} {lo : Nat} {σ : Store} {H : Hd} {t : Sem Value} {s : Shared} : Ev c q A lo σ H t .stuck s := fun _ _ P => P.elim
noncomputable def ofRes : Res → Store → ER
  | .ok v, σ => .ok (.av v) σ
  | .exc x, σ => .exc x σ
  | .stuck, _ => .stuck
theorem Ev.of_tr {c : Cx} {q : Bool} {A : Around} {lo : Nat} {σ : Store} {H : Hd} {t : Sem Value} {r : Res} {s : Shared} (S : Sto σ H s.heap) (L : Live H s.heap) (X : Tr c q A H t r s) : Ev c q A lo σ H t (ofRes r σ) s := fun Q E P => by
  cases r with
  | ok v => exact X Q E fun w s' k r => P w H s' (.of_kp k S L) r
  | exc x => exact X Q E ⟨P.1, fun e s' Y => P.2 e H s s' (.of_kp (Kp.refl _ _) S L) Y⟩
  | stuck => exact P.elim
/-- nothing that was there is turned -/
theorem Ss.kp {A : Around} {lo : Nat} {σ σ' : Store} {H H' : Hd} {s s' : Shared} (x : Ss A lo σ H s σ' H' s') (hl : σ.length ≤ lo) : Kp A s s' := by
  obtain ⟨h', tk, e⟩ := x.rest
  refine ⟨h', tk, e, ?_⟩
  have := x.kv
  rw [e] at this
  refine this.kh fun b o _ ⟨n, mo, l1, l2, _⟩ => ?_
  rw [List.getElem?_eq_none (by omega)] at l2; cases l2
theorem Ev.pure {c : Cx} {q : Bool} {A : Around} {lo : Nat} {σ σ' : Store} {H : Hd} {t : Sem Value} {y : AV} {s : Shared} (X : Ev c q A lo σ H t (.ok (.av y) σ') s) (hl : σ.length ≤ lo) (hs : σ'.length = σ.length) : Tr c q A H t (.ok y) s := fun Q E P => X Q E fun w H' s' x r => by
  refine P w s' (x.kp hl) (Rep.mono (vis_hide x.hp fun n a e => ?_) r)
  rcases x.mn n a e with e | ⟨e1, _⟩
  · exact e
  · have := x.sto.lt n a e; omega
theorem EvB.pure {c : Cx} {A : Around} {lo : Nat} {σ σ' : Store} {H : Hd} {t : Sem Bool} {b : Bool} {s : Shared} (X : EvB c A lo σ H t (some (b, σ')) s) (hl : σ.length ≤ lo) : TrB c A t b s := fun Q E P => X b σ' rfl Q E fun H' s' x => P s' (x.kp hl)

structure OpsOk (c : Cx) (O : OpsF) : Prop where
  ld : O.ld = !c.w.params.followText "set-order"
  bin : ∀ {q k A} {s : Shared} {H op a b va vb}, Rm c q (k + 1) A s.heap → Live H s.heap → RepO s.heap H va a → RepO s.heap H vb b → Tr c q A H (binaryOp op va vb) (O.bin op a b) s
  inpl : ∀ {q k A} {s : Shared} {H op a b va vb}, Rm c q (k + 1) A s.heap → Live H s.heap → RepO s.heap H va a → RepO s.heap H vb b → Tr c q A H (inplaceOp op va vb) (O.inpl op a b) s
  un : ∀ {q k A} {s : Shared} {H op a va}, Rm c q (k + 1) A s.heap → Live H s.heap → RepO s.heap H va a → Tr c q A H (unaryOp op va) (O.un op a) s
  cmp : ∀ {q k A} {s : Shared} {H op a b va vb r}, Rm c q (k + 1) A s.heap → Live H s.heap → RepO s.heap H va a → RepO s.heap H vb b → O.cmp op a b = some r → Tr c q A H (compareOp op va vb) (.ok (.bool r)) s
  truth : ∀ {q k A} {s : Shared} {H a va r}, Rm c q (k + 1) A s.heap → Live H s.heap → RepO s.heap H va a → O.truth a = some r → TrB c A (truthy va) r s
  idx : ∀ {q k A} {s : Shared} {H a b va vb}, Rm c q (k + 1) A s.heap → Live H s.heap → RepO s.heap H va a → RepO s.heap H vb b → Tr c q A H (getItem va vb) (O.idx a b) s
  idxT : ∀ {s : Shared} {H a va b}, RepO s.heap H va a → O.idx a b ≠ .stuck → ∃ T id, s.TypeIs va T ∧ typeLookup (.type T) "__getitem__" = pure (some (.builtin id))
  slice : ∀ {q k A} {s : Shared} {H a x y z va r ux uy uz}, Rm c q (k + 1) A s.heap → Live H s.heap → RepO s.heap H va a → Rep (vis s.heap H) ux x → Rep (vis s.heap H) uy y → Rep (vis s.heap H) uz z →
    s.heap.get? r = some { cls := .type "slice", data := .fields #[ux, uy, uz] } → Tr c q A H (getItem va (.ref r)) (O.slice a x y z) s
  sliceT : ∀ {s : Shared} {H a va x y z}, RepO s.heap H va a → O.slice a x y z ≠ .stuck → ∃ T id, s.TypeIs va T ∧ typeLookup (.type T) "__getitem__" = pure (some (.builtin id))
  bcall : ∀ {q k A} {s : Shared} {H f v xs vs}, q = true → Rm c q (k + 1) A s.heap → c.h0.StaysIn s.heap → Live H s.heap → RepOL s.heap H vs xs → bootBuiltins (f.name : Str) = some v → Tr c q A H (PySem.call v vs) (O.bcall f xs) s
  itemsR : ∀ {a xs}, O.items a = some xs → (∀ n, a ≠ .ptr n) ∧ (∀ k ys, a ≠ .itr k ys) ∧ a ≠ .any
  ecall : ∀ {q k A} {s : Shared} {H lo σ f v xs vs}, q = true → Rm c q (k + 1) A s.heap → c.h0.StaysIn s.heap → Live H s.heap → Sto σ H s.heap → RepL (vis s.heap H) vs xs → bootBuiltins (f.name : Str) = some v → Ev c q A lo σ H (PySem.call v vs) (O.ecall f σ lo xs) s
  ometh : ∀ {q k A} {s : Shared} {H m D vs xs ws args xs'}, q = true → Rm c q (k + 1) A s.heap → Live H s.heap → IsL s.heap D vs → xs.length ≤ 1048576 → RepL (vis s.heap H) vs xs → RepL (vis s.heap H) ws args → O.ometh m xs args = some xs' → ∀ (Q E : Value → Shared → Prop),
    (∀ h' vs' tk, IsL h' D vs' → xs'.length ≤ 1048576 → RepL (vis s.heap H) vs' xs' → Heap.SameBut D s.heap h' → Q .none { s with heap := h', toks := tk }) → wpAny c.M A (PySem.call (.builtin ("list." ++ m.name)) (.ref D :: ws)) Q E s
  is_ : ∀ {q k A} {s : Shared} {H op a b va vb r σ}, Rm c q (k + 1) A s.heap → Sto σ H s.heap → Rep (vis s.heap H) va a → Rep (vis s.heap H) vb b → O.is_ a b = some r → (op = .Is ∨ op = .IsNot) → Tr c q A H (compareOp op va vb) (.ok (.bool (if op = .Is then r else !r))) s
  items : ∀ {q k A} {s : Shared} {H a va xs}, Rm c q (k + 1) A s.heap → q = true → Live H s.heap → RepO s.heap H va a → O.items a = some xs → ∀ Q E,
    (∀ I fp P St h' tk, (∀ b o, s.heap.get? b = some o → h'.get? b = some o) → s.heap.get? I = none → fp I → (∀ b, fp b → ∃ o, h'.get? b = some o) → (∀ b, fp b → b = I ∨ va = .ref b) → xs.length ≤ 1048576 → Itr c A I fp P xs.length St → St 0 h' →
      (∀ (i : Nat) v x, P i v → xs[i]? = some x → Rep (vis s.heap H) v x) → Q (.ref I) { s with heap := h', toks := tk }) → wpAny c.M A (pyIter va) Q E s
  sitems : ∀ {q k A} {s : Shared} {H a va xs}, Rm c q (k + 1) A s.heap → q = true → Live H s.heap → RepO s.heap H va a → O.sitems a = some xs → ∀ Q E,
    (∀ ys : List Int, ys.Perm xs → ∀ I fp P St h' tk, (∀ b o, s.heap.get? b = some o → h'.get? b = some o) → s.heap.get? I = none → fp I → (∀ b, fp b → ∃ o, h'.get? b = some o) → (∀ b, fp b → b = I ∨ va = .ref b) → ys.length ≤ 1048576 → Itr c A I fp P (ys.map AV.int).length St → St 0 h' →
      (∀ (i : Nat) v x, P i v → (ys.map AV.int)[i]? = some x → Rep (vis s.heap H) v x) → Q (.ref I) { s with heap := h', toks := tk }) → wpAny c.M A (pyIter va) Q E s
  einpl : ∀ {q k A} {s : Shared} {H lo σ op a b va vb}, q = true → Rm c q (k + 1) A s.heap → Live H s.heap → Sto σ H s.heap → Rep (vis s.heap H) va a → Rep (vis s.heap H) vb b → Ev c q A lo σ H (inplaceOp op va vb) (O.einpl op σ lo a b) s

noncomputable def FnObj (c : Cx) (f : Str) : Prop := ∃ a o fd, c.mg f = some (.ref a) ∧ c.h0.get? a = some o ∧ o.data = .func fd
/-- a def's contract -/
noncomputable def Calls (c : Cx) (k : Nat) (f : Str) (σ : Store) (lo : Nat) (args : List AV) (r : ER) : Prop :=
  ∀ A s H vs a, Rm c true k A s.heap → c.h0.StaysIn s.heap → Live H s.heap → Sto σ H s.heap → (∀ n a, H.m n = some a → c.h0.get? a = none) → RepL (vis s.heap H) vs args → c.mg f = some (.ref a) → Ev c true A lo σ H (call (.ref a) vs) r s
/-- the defs that may be called -/
abbrev Cal := Store → Nat → Nat → List AV → ER
structure CallsOk (c : Cx) (k : Nat) (call : Cal) (fname : Nat → Str) : Prop where
  ok : ∀ σ lo f args, call σ lo f args ≠ .stuck → Calls c k (fname f) σ lo args (call σ lo f args) ∧ FnObj c (fname f)

structure PR where
  v : ER
  t : Option (Bool × Store)

noncomputable def derefS (ρ : List (Option Ent)) (σ : Store) : OV → AV
  | .own i => match ρ[i]? with
    | some (some (.own xs)) => .lst xs
    | _ => .any
  | .av x => deref σ x
noncomputable def ER.bind : ER → (OV → Store → ER) → ER
  | .ok v σ, f => f v σ
  | .exc x σ, _ => .exc x σ
  | .stuck, _ => .stuck
noncomputable def ER.bindA : ER → (AV → Store → ER) → ER
  | .ok (.av v) σ, f => f v σ
  | .ok (.own _) _, _ => .stuck
  | .exc x σ, _ => .exc x σ
  | .stuck, _ => .stuck
noncomputable def ofB : Option Bool → Store → ER
  | some b, σ => .ok (.av (.bool b)) σ
  | none, _ => .stuck
noncomputable def ER.truth (tr : AV → Option Bool) (ρ : List (Option Ent)) : ER → Option (Bool × Store)
  | .ok v σ => (tr (derefS ρ σ v)).map fun b => (b, σ)
  | _ => none
noncomputable def PR.of (tr : AV → Option Bool) (ρ : List (Option Ent)) (r : ER) : PR := ⟨r, r.truth tr ρ⟩
noncomputable def plains : List OV → Option (List AV)
  | [] => some []
  | .av x :: r => (plains r).map (x :: ·)
  | .own _ :: _ => none
noncomputable def onL (x : Option (List OV × Store)) (f : List OV → Store → ER) : ER := match x with
  | some (l, σ) => f l σ
  | none => .stuck
noncomputable def onP (x : Option (List OV × Store)) (f : List AV → Store → ER) : ER := onL x fun l σ => match plains l with
  | some l => f l σ
  | none => .stuck
noncomputable def mapF (f : AV → Option (Option AV)) : List AV → Option (List AV)
  | [] => some []
  | x :: r => match f x with
    | some (some y) => (mapF f r).map (y :: ·)
    | some none => mapF f r
    | none => none
noncomputable def mask (caps : List Nat) (ρ : List (Option Ent)) : List (Option Ent) := ρ.mapIdx fun i e => if caps.contains i then e else none
noncomputable def elemF (n : Nat) : ER → Option AV
  | .ok (.av v) σ => if σ.length = n then some v else none
  | _ => none
noncomputable def compF (n : Nat) (t : Option (Bool × Store)) (e : ER) : Option (Option AV) := match t with
  | some (true, _) => (elemF n e).map some
  | some (false, _) => some none
  | none => none

/-- ints alone -/
noncomputable def intF : Option (Option AV) → Option (Option AV)
  | some (some (.int i)) => some (some (.int i))
  | some none => some none
  | _ => none
noncomputable def intsOf (ys : List AV) : List Int := ys.filterMap fun y => match y with | .int i => some i | _ => none
/-- the state within a comprehension -/
noncomputable def Fs.inner (st : Fs) (caps : List Nat) (x : AV) : Fs := ⟨mask caps st.ρ ++ [some (.val x)], st.σ, st.σ.length, st.n0⟩
abbrev Fs.at (st : Fs) (σ : Store) : Fs := { st with σ := σ }
noncomputable def slotV (st : Fs) (i : Nat) : ER := match st.ρ[i]? with
  | some (some (.val v)) => .ok (.av v) st.σ
  | some (some (.own _)) => .ok (.own i) st.σ
  | _ => .stuck
noncomputable def onItems (x : Option (List AV)) (f : List AV → ER) : ER := match x with
  | some l => f l
  | none => .stuck
section
variable (O : OpsF) (cal : Cal) (q : Bool)
mutual
noncomputable def pe (st : Fs) : PE → PR
  | .const v => .of O.truth st.ρ (.ok (.av v) st.σ)
  | .name i => .of O.truth st.ρ (slotV st i)
  | .glob b => .of O.truth st.ρ (.ok (.av (.type b.name)) st.σ)
  | .bin op l r => .of O.truth st.ρ ((pe st l).v.bind fun a σ₁ => (pe (st.at σ₁) r).v.bind fun b σ₂ => ofRes (O.bin op (derefS st.ρ σ₂ a) (derefS st.ρ σ₂ b)) σ₂)
  | .un op x => ⟨(pe st x).v.bind fun a σ₁ => ofRes (O.un op (derefS st.ρ σ₁ a)) σ₁, match op with | .Not => (pe st x).t.map fun p => (!p.1, p.2) | _ => ((pe st x).v.bind fun a σ₁ => ofRes (O.un op (derefS st.ρ σ₁ a)) σ₁).truth O.truth st.ρ⟩
  | .cmp op l r => .of O.truth st.ρ (match op with
    | .Is => (pe st l).v.bindA fun a σ₁ => (pe (st.at σ₁) r).v.bindA fun b σ₂ => ofB (O.is_ a b) σ₂
    | .IsNot => (pe st l).v.bindA fun a σ₁ => (pe (st.at σ₁) r).v.bindA fun b σ₂ => ofB ((O.is_ a b).map (!·)) σ₂
    | op => (pe st l).v.bind fun a σ₁ => (pe (st.at σ₁) r).v.bind fun b σ₂ => ofB (O.cmp op (derefS st.ρ σ₂ a) (derefS st.ρ σ₂ b)) σ₂)
  | .bop op xs => ⟨pbop st op xs, pall st op xs⟩
  | .list xs => .of O.truth st.ρ (onP (pes st xs) fun l σ₁ => if l.length ≤ 100 then .ok (.av (.lst l)) σ₁ else .stuck)
  | .tup xs => .of O.truth st.ρ (onP (pes st xs) fun l σ₁ => if l.length ≤ 100 then .ok (.av (.tup l)) σ₁ else .stuck)
  | .sub o i => .of O.truth st.ρ ((pe st o).v.bind fun a σ₁ => (pe (st.at σ₁) i).v.bind fun b σ₂ => ofRes (O.idx (derefS st.ρ σ₂ a) (derefS st.ρ σ₂ b)) σ₂)
  | .slice o a b s => .of O.truth st.ρ ((pe st o).v.bind fun v σ₁ => (pe (st.at σ₁) a).v.bindA fun x σ₂ => (pe (st.at σ₂) b).v.bindA fun y σ₃ => (pe (st.at σ₃) s).v.bindA fun z σ₄ => ofRes (O.slice (derefS st.ρ σ₄ v) x y z) σ₄)
  | .call f xs => .of O.truth st.ρ (match q with | true => onP (pes st xs) fun l σ₁ => cal σ₁ st.lo f l | false => .stuck)
  | .bcall f xs => .of O.truth st.ρ (match q with | true => onL (pes st xs) fun l σ₁ => ofRes (O.bcall f (l.map (derefS st.ρ σ₁))) σ₁ | false => .stuck)
  | .ecall f xs => .of O.truth st.ρ (match q with | true => onP (pes st xs) fun l σ₁ => O.ecall f σ₁ st.lo l | false => .stuck)
  | .comp caps elt src conds => .of O.truth st.ρ (match q with
    | true => (pe st src).v.bind fun a σ₁ => onItems (O.items (derefS st.ρ σ₁ a)) fun l =>
      onItems (mapF (fun x => compF σ₁.length (pall ((st.at σ₁).inner caps x) .And conds) (pe ((st.at σ₁).inner caps x) elt).v) l) fun ys => .ok (.av (.lst ys)) σ₁
    | false => .stuck)
  | .compS caps elt src conds => .of O.truth st.ρ (match q with
    | true => (pe st src).v.bind fun a σ₁ => (match O.sitems (derefS st.ρ σ₁ a) with
      | some l => onItems (mapF (fun x => intF (compF σ₁.length (pall ((st.at σ₁).inner caps x) .And conds) (pe ((st.at σ₁).inner caps x) elt).v)) (l.map AV.int)) fun ys => .ok (.av (.bag (intsOf ys))) σ₁
      | none => .stuck)
    | false => .stuck)
  | .setd x => .of O.truth st.ρ ((pe st x).v.bindA fun a σ₁ => match a with | .int i => (if 0 ≤ i ∧ i < 32 then .ok (.av (.set false O.ld [i])) σ₁ else .stuck) | _ => .stuck)
noncomputable def pes (st : Fs) : PEs → Option (List OV × Store)
  | .nil => some ([], st.σ)
  | .cons e es => match (pe st e).v with
    | .ok v σ₁ => (match pes (st.at σ₁) es with
      | some (l, σ₂) => some (v :: l, σ₂)
      | none => none)
    | _ => none
noncomputable def pall (st : Fs) (op : BoolOp) : PEs → Option (Bool × Store)
  | .nil => some (op == .And, st.σ)
  | .cons e es => match op, (pe st e).t with
    | .And, some (false, σ₁) => some (false, σ₁)
    | .Or, some (true, σ₁) => some (true, σ₁)
    | .And, some (true, σ₁) => pall (st.at σ₁) .And es
    | .Or, some (false, σ₁) => pall (st.at σ₁) .Or es
    | _, none => none
noncomputable def pbop (st : Fs) (op : BoolOp) : PEs → ER
  | .nil => .stuck
  | .cons e .nil => (pe st e).v
  | .cons e (.cons e' es) => (pe st e).v.bind fun v σ₁ => match op, O.truth (derefS st.ρ σ₁ v) with
    | .And, some false => .ok v σ₁
    | .Or, some true => .ok v σ₁
    | .And, some true => pbop (st.at σ₁) .And (.cons e' es)
    | .Or, some false => pbop (st.at σ₁) .Or (.cons e' es)
    | _, none => .stuck
end
end
/- equations -/
section
variable {O : OpsF} {cal : Cal} {q : Bool} {st : Fs}
theorem qe_const {v} : pe O cal q st (.const v) = .of O.truth st.ρ (.ok (.av v) st.σ) := rfl
theorem qe_name {i} : pe O cal q st (.name i) = .of O.truth st.ρ (slotV st i) := rfl
theorem qe_glob {b} : pe O cal q st (.glob b) = .of O.truth st.ρ (.ok (.av (.type b.name)) st.σ) := rfl
theorem qe_bin {op l r} : pe O cal q st (.bin op l r) = .of O.truth st.ρ ((pe O cal q st l).v.bind fun a σ₁ => (pe O cal q (st.at σ₁) r).v.bind fun b σ₂ => ofRes (O.bin op (derefS st.ρ σ₂ a) (derefS st.ρ σ₂ b)) σ₂) := rfl
theorem qe_un {op x} : pe O cal q st (.un op x) = ⟨(pe O cal q st x).v.bind fun a σ₁ => ofRes (O.un op (derefS st.ρ σ₁ a)) σ₁, match op with | .Not => (pe O cal q st x).t.map fun p => (!p.1, p.2) | _ => ((pe O cal q st x).v.bind fun a σ₁ => ofRes (O.un op (derefS st.ρ σ₁ a)) σ₁).truth O.truth st.ρ⟩ := rfl
theorem qe_cmp {op l r} : pe O cal q st (.cmp op l r) = .of O.truth st.ρ (match op with
    | .Is => (pe O cal q st l).v.bindA fun a σ₁ => (pe O cal q (st.at σ₁) r).v.bindA fun b σ₂ => ofB (O.is_ a b) σ₂
    | .IsNot => (pe O cal q st l).v.bindA fun a σ₁ => (pe O cal q (st.at σ₁) r).v.bindA fun b σ₂ => ofB ((O.is_ a b).map (!·)) σ₂
    | op => (pe O cal q st l).v.bind fun a σ₁ => (pe O cal q (st.at σ₁) r).v.bind fun b σ₂ => ofB (O.cmp op (derefS st.ρ σ₂ a) (derefS st.ρ σ₂ b)) σ₂) := rfl
theorem qe_bop {op xs} : pe O cal q st (.bop op xs) = ⟨pbop O cal q st op xs, pall O cal q st op xs⟩ := rfl
theorem qe_list {xs} : pe O cal q st (.list xs) = .of O.truth st.ρ (onP (pes O cal q st xs) fun l σ₁ => if l.length ≤ 100 then .ok (.av (.lst l)) σ₁ else .stuck) := rfl
theorem qe_tup {xs} : pe O cal q st (.tup xs) = .of O.truth st.ρ (onP (pes O cal q st xs) fun l σ₁ => if l.length ≤ 100 then .ok (.av (.tup l)) σ₁ else .stuck) := rfl
theorem qe_sub {o i} : pe O cal q st (.sub o i) = .of O.truth st.ρ ((pe O cal q st o).v.bind fun a σ₁ => (pe O cal q (st.at σ₁) i).v.bind fun b σ₂ => ofRes (O.idx (derefS st.ρ σ₂ a) (derefS st.ρ σ₂ b)) σ₂) := rfl
theorem qe_slice {o a b s} : pe O cal q st (.slice o a b s) = .of O.truth st.ρ ((pe O cal q st o).v.bind fun v σ₁ => (pe O cal q (st.at σ₁) a).v.bindA fun x σ₂ => (pe O cal q (st.at σ₂) b).v.bindA fun y σ₃ => (pe O cal q (st.at σ₃) s).v.bindA fun z σ₄ => ofRes (O.slice (derefS st.ρ σ₄ v) x y z) σ₄) := rfl
theorem qe_call {f xs} : pe O cal q st (.call f xs) = .of O.truth st.ρ (match q with | true => onP (pes O cal q st xs) fun l σ₁ => cal σ₁ st.lo f l | false => .stuck) := rfl
theorem qe_bcall {f xs} : pe O cal q st (.bcall f xs) = .of O.truth st.ρ (match q with | true => onL (pes O cal q st xs) fun l σ₁ => ofRes (O.bcall f (l.map (derefS st.ρ σ₁))) σ₁ | false => .stuck) := rfl
theorem qe_ecall {f xs} : pe O cal q st (.ecall f xs) = .of O.truth st.ρ (match q with | true => onP (pes O cal q st xs) fun l σ₁ => O.ecall f σ₁ st.lo l | false => .stuck) := rfl
theorem qe_comp {caps elt src conds} : pe O cal q st (.comp caps elt src conds) = .of O.truth st.ρ (match q with
    | true => (pe O cal q st src).v.bind fun a σ₁ => onItems (O.items (derefS st.ρ σ₁ a)) fun l =>
      onItems (mapF (fun x => compF σ₁.length (pall O cal q ((st.at σ₁).inner caps x) .And conds) (pe O cal q ((st.at σ₁).inner caps x) elt).v) l) fun ys => .ok (.av (.lst ys)) σ₁
    | false => .stuck) := rfl
theorem qe_compS {caps elt src conds} : pe O cal q st (.compS caps elt src conds) = .of O.truth st.ρ (match q with
    | true => (pe O cal q st src).v.bind fun a σ₁ => (match O.sitems (derefS st.ρ σ₁ a) with
      | some l => onItems (mapF (fun x => intF (compF σ₁.length (pall O cal q ((st.at σ₁).inner caps x) .And conds) (pe O cal q ((st.at σ₁).inner caps x) elt).v)) (l.map AV.int)) fun ys => .ok (.av (.bag (intsOf ys))) σ₁
      | none => .stuck)
    | false => .stuck) := rfl
theorem qe_setd {x} : pe O cal q st (.setd x) = .of O.truth st.ρ ((pe O cal q st x).v.bindA fun a σ₁ => match a with | .int i => (if 0 ≤ i ∧ i < 32 then .ok (.av (.set false O.ld [i])) σ₁ else .stuck) | _ => .stuck) := rfl
theorem qes_nil : pes O cal q st .nil = some ([], st.σ) := rfl
theorem qes_cons {e es} : pes O cal q st (.cons e es) = match (pe O cal q st e).v with
    | .ok v σ₁ => (match pes O cal q (st.at σ₁) es with
      | some (l, σ₂) => some (v :: l, σ₂)
      | none => none)
    | _ => none := rfl
end
/- equations end -/
end Mine
end
section
open PySem PySem.W PyProof.Rows
namespace Mine

theorem closure_ok {env : Env} : ∀ (names : List (Str × NameKind)) (acc : List (Str × Addr)), (∀ y, (y, NameKind.free) ∈ names → (env.cells.lookup y).isSome = true) →
    ∃ cl, (forIn names acc fun (p : Str × NameKind) (cs : List (Str × Addr)) => (if (p.2 == NameKind.free) = true then do let a ← cellOf env p.1; pure (ForInStep.yield ((p.1, a) :: cs)) else pure (ForInStep.yield cs) : Sem (ForInStep (List (Str × Addr))))) = pure cl ∧
      (∀ y cc, cl.lookup y = some cc → env.cells.lookup y = some cc ∨ acc.lookup y = some cc) ∧ (∀ y, (y, NameKind.free) ∈ names ∨ (∃ cc, acc.lookup y = some cc ∧ env.cells.lookup y = some cc) → cl.lookup y = env.cells.lookup y)
  | [], acc, _ => ⟨acc, by rw [List.forIn_nil], fun _ _ e => .inr e, fun y h => by
      rcases h with h | ⟨cc, a, b⟩
      · cases h
      · rw [a, b]⟩
  | (n, kd) :: r, acc, h => by
    rw [List.forIn_cons]
    by_cases hk : (kd == NameKind.free) = true
    · have hkf : kd = .free := by simpa using hk
      subst hkf
      obtain ⟨a, ha⟩ := Option.isSome_iff_exists.mp (h n (List.mem_cons_self ..))
      obtain ⟨cl, e, p1, p2⟩ := closure_ok r ((n, a) :: acc) fun y hy => h y (List.mem_cons_of_mem _ hy)
      refine ⟨cl, ?_, fun y cc q => ?_, fun y hy => ?_⟩
      · simp only [beq_self_eq_true, if_true]
        have : cellOf env n = pure a := by unfold cellOf; rw [ha]
        rw [this]
        simpa using e
      · rcases p1 y cc q with q | q
        · exact .inl q
        · rw [List.lookup_cons] at q
          cases hb : y == n with
          | true => rw [hb] at q; cases q; rw [beq_iff_eq.mp hb]; exact .inl ha
          | false => rw [hb] at q; exact .inr q
      · refine p2 y ?_
        by_cases hyn : y = n
        · subst hyn; exact .inr ⟨a, by simp, ha⟩
        · rcases hy with hy | ⟨cc, q1, q2⟩
          · rcases List.mem_cons.mp hy with e' | hy
            · cases e'; exact absurd rfl hyn
            · exact .inl hy
          · refine .inr ⟨cc, ?_, q2⟩
            rw [List.lookup_cons]
            have : (y == n) = false := by simpa using hyn
            rw [this]; exact q1
    · obtain ⟨cl, e, p1, p2⟩ := closure_ok r acc fun y hy => h y (List.mem_cons_of_mem _ hy)
      refine ⟨cl, ?_, p1, fun y hy => p2 y ?_⟩
      · rw [if_neg hk]; simpa using e
      · rcases hy with hy | hy
        · rcases List.mem_cons.mp hy with e' | hy
          · cases e'; exact absurd rfl hk
          · exact .inl hy
        · exact .inr hy
theorem closureFor_ok {env : Env} {scope : Scope} (h : ∀ y, (y, NameKind.free) ∈ scope.names → (env.cells.lookup y).isSome = true) :
    ∃ cl, closureFor scope env = pure cl ∧ (∀ y cc, cl.lookup y = some cc → env.cells.lookup y = some cc) ∧ (∀ y, (y, NameKind.free) ∈ scope.names → cl.lookup y = env.cells.lookup y) := by
  obtain ⟨cl, e, p1, p2⟩ := closure_ok scope.names [] h
  refine ⟨cl, ?_, fun y cc q => (p1 y cc q).elim id fun q => by simp at q, fun y hy => p2 y (.inl hy)⟩
  unfold closureFor
  simp only [bind_pure_comp] at e ⊢
  first
    | (rw [← e]; done)
    | (simpa using e)

/-- the tests of a comprehension -/
abbrev testsOf (ifs : List Expr) (env : Env) : Sem Bool := forIn ifs true fun c r => if r = true then do let ok ← isTrue c env (eval c env); pure (ForInStep.yield ok) else pure (ForInStep.yield r)

end Mine
end
section
open PySem PySem.W PyProof.Rows
namespace Mine

theorem lookup_relabel_free {env : Env} (hk : env.scope.kind = .function) : ∀ {names : List (Str × NameKind)} {x : Str}, names.lookup x = some .free → env.kindOf x = some .cell →
    (names.map fun (n, k) => if (k == NameKind.free && env.scope.kind == .function && env.kindOf n == some .cell) then (n, NameKind.cell) else (n, k)).lookup x = some .cell
  | [], _, h, _ => by simp at h
  | (n, k) :: r, x, h, hc => by
    have ih := @lookup_relabel_free env hk r x
    show List.lookup x ((if (k == NameKind.free && env.scope.kind == .function && env.kindOf n == some .cell) = true then (n, NameKind.cell) else (n, k)) :: _) = _
    cases hx : x == n with
    | true =>
      simp only [List.lookup_cons, hx] at h
      cases h
      have e : x = n := beq_iff_eq.mp hx
      subst e
      have : (NameKind.free == NameKind.free && env.scope.kind == .function && env.kindOf x == some .cell) = true := by rw [hk, hc]; decide
      rw [if_pos this]
      simp [List.lookup_cons]
    | false =>
      simp only [List.lookup_cons, hx] at h
      by_cases hcc : (k == NameKind.free && env.scope.kind == .function && env.kindOf n == some .cell) = true
      · rw [if_pos hcc]; simp only [List.lookup_cons, hx]; exact ih h hc
      · rw [if_neg hcc]; simp only [List.lookup_cons, hx]; exact ih h hc
theorem lookup_relabel_cell {env : Env} : ∀ {names : List (Str × NameKind)} {x : Str}, (∀ y ∈ names, y.2 ≠ .cell) →
    (names.map fun (n, k) => if (k == NameKind.free && env.scope.kind == .function && env.kindOf n == some .cell) then (n, NameKind.cell) else (n, k)).lookup x = some .cell → (x, NameKind.free) ∈ names ∧ env.kindOf x = some .cell
  | [], _, _, h => by simp at h
  | (n, k) :: r, x, hno, h => by
    have ih := @lookup_relabel_cell env r x fun y hy => hno y (List.mem_cons_of_mem _ hy)
    have h : List.lookup x ((if (k == NameKind.free && env.scope.kind == .function && env.kindOf n == some .cell) = true then (n, NameKind.cell) else (n, k)) :: (r.map fun (n, k) => if (k == NameKind.free && env.scope.kind == .function && env.kindOf n == some .cell) then (n, NameKind.cell) else (n, k))) = some .cell := h
    cases hx : x == n with
    | true =>
      have e : x = n := beq_iff_eq.mp hx
      subst e
      by_cases hcc : (k == NameKind.free && env.scope.kind == .function && env.kindOf x == some .cell) = true
      · simp only [Bool.and_eq_true, beq_iff_eq] at hcc
        obtain ⟨⟨h1, _⟩, h3⟩ := hcc
        subst h1
        exact ⟨List.mem_cons_self .., h3⟩
      · rw [if_neg hcc] at h
        simp only [List.lookup_cons, hx] at h
        cases h
        exact absurd rfl (hno (x, NameKind.cell) (List.mem_cons_self ..))
    | false =>
      have : List.lookup x (r.map fun (n, k) => if (k == NameKind.free && env.scope.kind == .function && env.kindOf n == some .cell) then (n, NameKind.cell) else (n, k)) = some .cell := by
        by_cases hcc : (k == NameKind.free && env.scope.kind == .function && env.kindOf n == some .cell) = true
        · rw [if_pos hcc] at h; simpa only [List.lookup_cons, hx] using h
        · rw [if_neg hcc] at h; simpa only [List.lookup_cons, hx] using h
      exact ⟨List.mem_cons_of_mem _ (ih this).1, (ih this).2⟩

theorem vis_new {Fr : Addr → Prop} {H H₃ : Hd} {h h₂ : Heap} (k : Kh Fr h h₂) (hN : ∀ b, H₃.p b → H.p b ∨ h.get? b = none) (hM : ∀ n a, H.m n = some a → H₃.m n = some a) : (vis h H).Le (vis h₂ H₃) := ⟨by
  rintro a c d ⟨n, o, e, r⟩
  obtain ⟨_, o', e', r'⟩ := (k.vis (H := H)).r a c d ⟨n, o, e, r⟩
  refine ⟨fun z => ?_, o', e', r'⟩
  rcases hN a z with z | z
  · exact n z
  · (rw [e] at z; cases z), hM⟩
theorem Sto.new {Fr : Addr → Prop} {σ : Store} {H H₃ : Hd} {h h₂ : Heap} (S : Sto σ H h) (k : Kh Fr h h₂) (hH : ∀ b, H.p b → H₃.p b) (hN : ∀ b, H₃.p b → H.p b ∨ h.get? b = none) (hM : H₃.m = H.m) : Sto σ H₃ h₂ where
  at' := fun n mo e => let ⟨a, q, r⟩ := S.at' n mo e; ⟨a, by rw [hM]; exact q, r.kv (k.kv (W := fun _ => False)) id (vis_new k hN fun n a e => by rw [hM]; exact e)⟩
  inj := fun n n' a e e' => S.inj n n' a (by rw [← hM]; exact e) (by rw [← hM]; exact e')
  lt := fun n a e => S.lt n a (by rw [← hM]; exact e)
  hid := fun n a mo q e => hH a (S.hid n a mo q (by rw [← hM]; exact e))
  al := fun n a e => let ⟨_, q⟩ := S.al n a (by rw [← hM]; exact e); let ⟨_, q'⟩ := (k a _ q).2; ⟨_, q'⟩
  tot := fun n a e => S.tot n a (by rw [← hM]; exact e)

theorem mask_get {caps : List Nat} {ρ : List (Option Ent)} {i : Nat} {t : Ent} (h : (mask caps ρ)[i]? = some (some t)) : i ∈ caps ∧ ρ[i]? = some (some t) := by
  unfold mask at h
  rw [List.getElem?_mapIdx] at h
  cases q : ρ[i]? with
  | none => rw [q] at h; simp at h
  | some e =>
    rw [q] at h
    simp only [Option.map_some, Option.some.injEq] at h
    split at h
    · rename_i hc
      exact ⟨by simpa using hc, by rw [h]⟩
    · cases h
theorem mask_length {caps : List Nat} {ρ : List (Option Ent)} : (mask caps ρ).length = ρ.length := by simp [mask]

structure CompOk (names : List Str) (env : Env) (scope : Scope) (x : Str) (caps : List Nat) : Prop where
  cell : ∀ y ∈ scope.names, y.2 ≠ .cell
  kind : scope.kind = .function
  loc : ∀ y ∈ scope.names, y.2 = .local → scope.names.lookup y.1 = some .local
  var : scope.names.lookup x = some .local
  free : ∀ y, (y, NameKind.free) ∈ scope.names → env.kindOf y = some .cell
  cap : ∀ i ∈ caps, ∀ y, names[i]? = some y → scope.names.lookup y = some .free

theorem comp_fm {c : Cx} {Fr : Addr → Prop} {names : List Str} {env cenv : Env} {st : Fs} {fe : FE} {H H₃ : Hd} {h h₂ : Heap} {scope : Scope} {x : Str} {caps : List Nat} {m : Str → Option Value} {v : Value} {item : AV}
    (F : Fm c Fr names env st fe H h) (hlen : st.ρ.length = names.length) (K : CompOk names env scope x caps) (k : Kh Fr h h₂) (hH : ∀ b, H.p b → H₃.p b) (hN : ∀ b, H₃.p b → H.p b ∨ h.get? b = none) (hM : H₃.m = H.m) (hO : H₃.o = H.o) (hL : Live H₃ h₂)
    (hC : h₂.Ns cenv.locals m) (hCH : H₃.p cenv.locals) (hCn : h.get? cenv.locals = none) (hmx : m x = some v) (hr : Rep (vis h₂ H₃) v item) (hsc : cenv.scope = relabel scope env) (hg : cenv.globals = env.globals) (hb : cenv.builtins = env.builtins) (hcd : cenv.code = env.code)
    (hcl1 : ∀ y cc, cenv.cells.lookup y = some cc → env.cells.lookup y = some cc) (hcl2 : ∀ y, (y, NameKind.free) ∈ scope.names → cenv.cells.lookup y = env.cells.lookup y) :
    Fm c Fr (names ++ [x]) cenv (st.inner caps item) fe H₃ h₂ := by
  have kx : cenv.kindOf x = some .local := by
    show cenv.scope.names.lookup x = some .local
    rw [hsc]; exact lookup_relabel_local K.var
  have kc : ∀ y, scope.names.lookup y = some .free → cenv.kindOf y = some .cell := fun y hy => by
    show cenv.scope.names.lookup y = some .cell
    rw [hsc]; exact lookup_relabel_free F.kind hy (K.free y (mem_of_lookup hy))
  have get : ∀ (i : Nat) y t, (names ++ [x])[i]? = some y → (mask caps st.ρ ++ [some (Ent.val item)])[i]? = some (some t) → (i = names.length ∧ y = x ∧ t = .val item) ∨ (i < names.length ∧ names[i]? = some y ∧ i ∈ caps ∧ st.ρ[i]? = some (some t)) := by
    intro i y t h1 h2
    by_cases hi : i < names.length
    · rw [List.getElem?_append_left hi] at h1
      rw [List.getElem?_append_left (by rw [mask_length, hlen]; exact hi)] at h2
      exact .inr ⟨hi, h1, mask_get h2⟩
    · have hge : names.length ≤ i := Nat.le_of_not_lt hi
      rw [List.getElem?_append_right hge] at h1
      rw [List.getElem?_append_right (by rw [mask_length, hlen]; exact hge), mask_length, hlen] at h2
      cases hz : i - names.length with
      | zero => rw [hz] at h1 h2; simp at h1 h2; exact .inl ⟨by omega, h1.symm, h2.symm⟩
      | succ n => rw [hz] at h1; simp at h1
  have kn : ∀ {b}, h₂.get? b = none → fe.h.get? b = none → True := fun _ _ => trivial
  exact {
    keep := F.keep.trans k.kv
    wsub := F.wsub
    base := F.base
    baseF := F.baseF
    basew := F.basew
    hle := fun b q => hH b (F.hle b q)
    mle := fun n a e => by rw [hM]; exact F.mle n a e
    mold := fun n a l e => F.mold n a l (by rw [← hM]; exact e)
    mnew := fun n a l e => F.mnew n a l (by rw [← hM]; exact e)
    mw := fun n a mo l l' q e => absurd (Nat.lt_of_lt_of_le l F.n0le) (Nat.not_lt.mpr l')
    hlt := hL
    felt := F.felt
    wlt := F.wlt
    kind := by rw [hsc]; exact K.kind
    glob := hg.trans F.glob
    bi := hb.trans F.bi
    code := by rw [hcd]; exact F.code
    ns := ⟨m, hC⟩
    hl := hCH
    lnew := by
      cases e : fe.h.get? cenv.locals with
      | none => rfl
      | some o =>
        exfalso
        by_cases hw : fe.w cenv.locals
        · obtain ⟨o', e'⟩ := F.hlt _ (F.hle _ (F.wsub _ hw))
          rw [hCn] at e'; cases e'
        · obtain ⟨sl, e'⟩ := (F.keep _ o hw e).2
          rw [hCn] at e'; cases e'
    hc := fun y cc qk q => by
      have qk : cenv.scope.names.lookup y = some .cell := qk
      rw [hsc] at qk
      obtain ⟨_, q2⟩ := lookup_relabel_cell K.cell qk
      obtain ⟨a, b⟩ := F.hc y cc q2 (hcl1 y cc q)
      exact ⟨hH _ a, b⟩
    cl := fun y q => by
      have q : cenv.scope.names.lookup y = some .cell := q
      rw [hsc] at q
      obtain ⟨q1, q2⟩ := lookup_relabel_cell K.cell q
      obtain ⟨cc, w, e, n⟩ := F.cl y q2
      exact ⟨cc, w, (hcl2 y q1).trans e, k.cell n⟩
    capart := fun y z cc a b => F.capart y z cc (hcl1 y cc a) (hcl1 z cc b)
    vals := fun i y t h1 h2 => by
      rcases get i y t h1 h2 with ⟨_, rfl, rfl⟩ | ⟨_, n1, n2, n3⟩
      · exact ⟨v, .inl ⟨kx, m, hC, hmx⟩, hr⟩
      · obtain ⟨w, nv, r⟩ := F.vals i y t n1 n3
        have hfr := K.cap i n2 y n1
        have hcell := K.free y (mem_of_lookup hfr)
        rcases nv with ⟨q, _⟩ | ⟨q, cc, e, n⟩
        · rw [hcell] at q; cases q
        · exact ⟨w, .inr ⟨kc y hfr, cc, (hcl2 y (mem_of_lookup hfr)).trans e, k.cell n⟩, r.mono (vis_new k hN fun n a e => by rw [hM]; exact e) (fun a e => by rw [hO]; exact e) fun a vs _ l => k.isL l⟩
    own := fun i a e => by
      rw [hO] at e
      obtain ⟨p, q, r, vs, l⟩ := F.own i a e
      exact ⟨hH a p, q, fun n => by rw [hM]; exact r n, vs, k.isL l⟩
    oinj := fun i j a => by rw [hO]; exact F.oinj i j a
    sto := F.sto.new k hH hN hM
    mh0 := fun n a e => F.mh0 n a (by rw [← hM]; exact e)
    n0le := F.n0le }

theorem mapF_snoc {f : AV → Option (Option AV)} : ∀ {l : List AV} {ys : List AV} {x : AV}, mapF f l = some ys → mapF f (l ++ [x]) = match f x with | some (some y) => some (ys ++ [y]) | some none => some ys | none => none
  | [], ys, x, h => by
    simp only [mapF, Option.some.injEq] at h
    subst h
    simp only [List.nil_append, mapF]
    cases f x with
    | none => rfl
    | some r => cases r <;> rfl
  | z :: l, ys, x, h => by
    simp only [mapF, List.cons_append] at h ⊢
    cases hz : f z with
    | none => rw [hz] at h; cases h
    | some r =>
      rw [hz] at h
      cases r with
      | none => exact mapF_snoc h
      | some y =>
        simp only [Option.map_eq_some_iff] at h
        obtain ⟨ys', h1, rfl⟩ := h
        simp only [mapF_snoc h1]
        cases f x with
        | none => rfl
        | some r => cases r <;> rfl
theorem mapF_take {f : AV → Option (Option AV)} : ∀ {l : List AV} {ys : List AV} (j : Nat), mapF f l = some ys → ∃ zs, mapF f (l.take j) = some zs
  | _, _, 0, _ => ⟨[], by simp [mapF]⟩
  | [], _, _ + 1, _ => ⟨[], by simp [mapF]⟩
  | z :: l, ys, j + 1, h => by
    simp only [mapF, List.take_succ_cons] at h ⊢
    cases hz : f z with
    | none => rw [hz] at h; cases h
    | some r =>
      rw [hz] at h
      cases r with
      | none => exact mapF_take j h
      | some y =>
        simp only [Option.map_eq_some_iff] at h
        obtain ⟨ys', h1, _⟩ := h
        obtain ⟨zs, e⟩ := mapF_take j h1
        exact ⟨y :: zs, by simp [e]⟩
theorem mapF_length {f : AV → Option (Option AV)} : ∀ {l ys : List AV}, mapF f l = some ys → ys.length ≤ l.length
  | [], ys, h => by simp only [mapF, Option.some.injEq] at h; subst h; simp
  | z :: l, ys, h => by
    simp only [mapF] at h
    cases hz : f z with
    | none => rw [hz] at h; cases h
    | some r =>
      rw [hz] at h
      cases r with
      | none => have := mapF_length h; simp; omega
      | some y =>
        simp only [Option.map_eq_some_iff] at h
        obtain ⟨ys', h1, rfl⟩ := h
        have := mapF_length h1
        simp; omega
theorem mapF_step {f : AV → Option (Option AV)} {l ys : List AV} {j : Nat} {x : AV} {zs : List AV} (h : mapF f l = some ys) (hx : l[j]? = some x) (hz : mapF f (l.take j) = some zs) :
    (∃ y, f x = some (some y) ∧ mapF f (l.take (j + 1)) = some (zs ++ [y])) ∨ (f x = some none ∧ mapF f (l.take (j + 1)) = some zs) := by
  have e : l.take (j + 1) = l.take j ++ [x] := by rw [List.take_add_one, hx]; rfl
  obtain ⟨ws, hw⟩ := mapF_take (j + 1) h
  rw [e, mapF_snoc hz] at hw
  rw [e, mapF_snoc hz]
  cases hf : f x with
  | none => rw [hf] at hw; cases hw
  | some r =>
    cases r with
    | none => exact .inr ⟨rfl, rfl⟩
    | some y => exact .inl ⟨y, rfl, rfl⟩
end Mine
end
section
open PySem PySem.W PyProof.Rows
namespace Mine

theorem Fm.base' {c : Cx} {A : Around} {ns : List Str} {env : Env} {st : Fs} {fe : FE} {H : Hd} {h : Heap} (F : Fm c (FrA A) ns env st fe H h) : c.h0.StaysIn h := fun b o e => ((F.keep b o (fun f => by rw [F.basew b f] at e; cases e) (F.base b o e)).1 (.inl fun f => by rw [F.baseF b f] at e; cases e))
/-- what a turn of a comprehension does with an item -/
noncomputable def TurnOk (c : Cx) (q : Bool) (k : Nat) (A : Around) (names : List Str) (env : Env) (st : Fs) (fe : FE) (scope : Scope) (x : Str) (caps : List Nat) (elt : Expr) (ifs : List Expr) (f : AV → Option (Option AV)) : Prop :=
  ∀ item (s₃ : Shared) H₃ cenv, cenv.scope = relabel scope env → Rm c q k A s₃.heap → Fm c (FrA A) (names ++ [x]) cenv (st.inner caps item) fe H₃ s₃.heap →
    (∀ y, f item = some (some y) → TrB c A (testsOf ifs cenv) true s₃ ∧ ∀ s₄, Kp A s₃ s₄ → Tr c q A H₃ (eval elt cenv) (.ok y) s₄) ∧ (f item = some none → TrB c A (testsOf ifs cenv) false s₃)

theorem Kh.trans' {F W : Addr → Prop} {h₁ h₂ h₃ : Heap} (x : Kh F h₁ h₂) (y : Kv F W h₂ h₃) (n : ∀ b o, h₁.get? b = some o → ¬ W b) : Kh F h₁ h₃ := fun b o e =>
  ⟨fun z => (y b o (n b o e) ((x b o e).1 z)).1 z, by obtain ⟨sl, e₂⟩ := (x b o e).2; obtain ⟨sl', e₃⟩ := (y b _ (n b o e) e₂).2; exact ⟨sl', e₃⟩⟩

theorem list_appendL {prog : Program} {w : World} {A : Around} {E : Value → Shared → Prop} {s : Shared} {l : Addr} {items : List Value} {x : Value} {Q : Value → Shared → Prop} (hsz : (List.toArray items).size ≤ sizeLine) (hl : IsL s.heap l items)
    (hQ : ∀ h', IsL h' l (items ++ [x]) → Heap.SameBut l s.heap h' → Q .none { s with heap := h' }) :
    wpAny (model prog w) A (call (.builtin "list.append") [.ref l, x]) Q E s := by
  obtain ⟨o, n, ho, hc, hd, hn⟩ := id hl
  obtain ⟨n', hd'⟩ := Obj.data_mapSeq hd (·.push x)
  refine wpAny_call_entry slot_list_append hl.isList.typeIs entry_list_append ?_ (args_list_append _ _)
  show wpAny _ _ (updateSeq l (·.push x) >>= fun _ => ret .none) _ _ s
  refine wpAny_bind ?_
  refine wpAny_updateSeq ho hd (wpAny_pure ⟨.none, rfl, hQ _ ?_ (Heap.SameBut.update ..)⟩)
  refine ⟨_, n', Heap.get?_update_self _ ho (Obj.isFreed_of_seq hd'), (Obj.cls_mapSeq ..).trans hc, by rw [hd']; simp, ?_⟩
  obtain ⟨oc, od, odt, os⟩ := o
  simp only at hd hn ⊢
  subst hd
  exact hn

/-- what a turn puts to the heap of things -/
noncomputable def BodyOk (c : Cx) (A : Around) (H : Hd) (body : Addr → Sem Unit) (Inv : Heap → Hd → Addr → List AV → Prop) (y : AV) (s : Shared) : Prop :=
  ∀ (D : Addr) (zs : List AV) (Q : Unit → Shared → Prop) (E : Value → Shared → Prop), Inv s.heap H D zs → zs.length ≤ 1048576 → H.p D → ¬ FrA A D →
    (∀ s₅ h₆, Kp A s s₅ → Heap.SameBut D s₅.heap h₆ → Inv h₆ H D (zs ++ [y]) → Q () { s₅ with heap := h₆ }) → wpAny c.M A (body D) Q E s
noncomputable def TurnB (c : Cx) (q : Bool) (k : Nat) (A : Around) (names : List Str) (env : Env) (st : Fs) (fe : FE) (scope : Scope) (x : Str) (caps : List Nat) (ifs : List Expr) (body : Env → Addr → Sem Unit) (Inv : Heap → Hd → Addr → List AV → Prop) (f : AV → Option (Option AV)) : Prop :=
  ∀ item (s₃ : Shared) H₃ cenv, cenv.scope = relabel scope env → Rm c q k A s₃.heap → Fm c (FrA A) (names ++ [x]) cenv (st.inner caps item) fe H₃ s₃.heap →
    (∀ y, f item = some (some y) → TrB c A (testsOf ifs cenv) true s₃ ∧ ∀ s₄, Kp A s₃ s₄ → BodyOk c A H₃ (body cenv) Inv y s₄) ∧ (f item = some none → TrB c A (testsOf ifs cenv) false s₃)
/-- a comprehension's heap of things: how it is made, how a turn goes -/
structure AccOk (c : Cx) (A : Around) (ce target : Expr) (ifs : List Expr) (mk : Sem Value) (body : Env → Addr → Sem Unit) (Inv : Heap → Hd → Addr → List AV → Prop) : Prop where
  make : ∀ (s : Shared) (Q E : Value → Shared → Prop), c.h0.StaysIn s.heap → (∀ o : Obj, o.isFreed = false → (∀ h H, h.get? s.heap.objs.size = some o → Inv h H s.heap.objs.size []) → Q (.ref s.heap.objs.size) { s with heap := s.heap.push o }) → wpAny c.M A mk Q E s
  keep : ∀ h h' H D zs, Inv h H D zs → (∀ o, h.get? D = some o → h'.get? D = some o) → (vis h H).Le (vis h' H) → Inv h' H D zs
  live : ∀ h H D zs, Inv h H D zs → ∃ o, h.get? D = some o
  loop : ∀ (it : Value) (D : Addr) (env : Env) (R : Result → Shared → Prop) (s : Shared) (I : Nat → Shared → Prop), (∀ n s, I n s → wpAny c.M A (pyNext it) (fun r s₁ => match r with
      | none => R (.ok .next) s₁
      | some v => wpAny c.M A (assign target env v) (fun _ s₂ => wpAny c.M A (testsOf ifs env) (fun ok s₃ =>
          if ok = true then wpAny c.M A (body env D) (fun _ s₅ => ∃ m, m < n ∧ I m s₅) (notedBy c.M A env fun e s' => R (.error e) s') s₃
          else ∃ m, m < n ∧ I m s₃) (notedBy c.M A env fun e s' => R (.error e) s') s₂) (notedBy c.M A env fun e s' => R (.error e) s') s₁) (notedBy c.M A env fun e s' => R (.error e) s') s) →
    ∀ n, I n s → codeAny c.M A (.compLoop ce 0 it (.ref D) env) R s
  start : ∀ (it acc : Value) (env : Env) (R : Result → Shared → Prop) (s : Shared), codeAny c.M A (.compLoop ce 0 it acc env) R s →
    wpAny c.M A (pyIter it) (fun it' s' => codeAny c.M A (.compLoop ce 0 it' acc env) R s') (notedBy c.M A env fun x s' => R (.error x) s') s → codeAny c.M A (.compStart ce 0 it acc env) R s

theorem comp_gen {c : Cx} {q : Bool} {k : Nat} {A : Around} {s₁ s₂ : Shared} {H : Hd} {fe : FE} {names : List Str} {env : Env} {st : Fs} {ce : Expr} {x : Str} {px : Pos} {ifs : List Expr} {mk : Sem Value} {body : Env → Addr → Sem Unit} {Inv : Heap → Hd → Addr → List AV → Prop} {scope : Scope} {caps : List Nat}
    {cl : List (Str × Addr)} {I : Addr} {fp : Addr → Prop} {P : Nat → Value → Prop} {St : Nat → Heap → Prop} {l ys : List AV} {f : AV → Option (Option AV)} {E : Value → Shared → Prop} {RR : Value → Addr → Result → Shared → Prop}
    (hm : Rm c q k A s₁.heap) (F : Fm c (FrA A) names env st fe H s₁.heap) (hlen : st.ρ.length = names.length) (K : CompOk names env scope x caps)
    (hcl1 : ∀ y cc, cl.lookup y = some cc → env.cells.lookup y = some cc) (hcl2 : ∀ y, (y, NameKind.free) ∈ scope.names → cl.lookup y = env.cells.lookup y)
    (hs : ∃ h' tk, s₂ = { s₁ with heap := h', toks := tk }) (hk : ∀ b o, s₁.heap.get? b = some o → s₂.heap.get? b = some o) (hI : s₁.heap.get? I = none) (hIl : ∀ b, fp b → ∃ o, s₂.heap.get? b = some o) (hfI : fp I)
    (W : Itr c A I fp P l.length St) (hst : St 0 s₂.heap) (hsz : l.length ≤ 1048576) (hP : ∀ (i : Nat) v y, P i v → l[i]? = some y → Rep (vis s₁.heap H) v y)
    (hf : mapF f l = some ys) (K0 : AccOk c A ce (.Name x px) ifs mk body Inv) (T : TurnB c q k A names env st fe scope x caps ifs body Inv f)
    (hR : ∀ D C h' tk m', s₂.heap.get? D = none → s₂.heap.get? C = none → D ≠ C → h'.Ns C m' → Inv h' (H.add fun b => b = C ∨ b = D ∨ b = I) D ys → Kv (FrA A) (fun b => b = I) s₂.heap h' →
      RR (.ref D) C (.ok .next) { s₂ with heap := h', toks := tk }) :
    wpAny c.M A mk (fun acc s₃ => wpAny c.M A (newFunctionEnv scope env.globals cl [] env.qual none .none (some env)) (fun cenv s₄ =>
      codeAny c.M A (.compStart ce 0 (.ref I) acc { cenv with scope := relabel scope env }) (RR acc cenv.locals) s₄) E s₃) E s₂ := by
  refine K0.make _ _ _ (fun b o e => hk b o (F.base' b o e)) fun o0 hfr hinv0 => (wpAny_newFunctionEnv K.cell (by intro y hy; simp at hy) (fun h₁ hns₁ hsb₁ => ?_) K.kind)
  dsimp only at hns₁ hsb₁ ⊢
  generalize hD : s₂.heap.objs.size = D at hinv0 ⊢
  generalize hH2 : s₂.heap.push o0 = H2 at hns₁ hsb₁ ⊢
  generalize hC : H2.objs.size = C at hns₁ hsb₁ ⊢
  have hCD : C = D + 1 := by rw [← hC, ← hH2, Heap.size_push, hD]
  have hDC : D ≠ C := by omega
  have hDn : s₂.heap.get? D = none := Heap.get?_none_of_le (by omega)
  have hCn : s₂.heap.get? C = none := Heap.get?_none_of_le (by omega)
  have hnF : ¬ FrA A D := by
    rintro ⟨l, hl, hb⟩
    obtain ⟨l', hl', ff⟩ := hm.frames
    rw [hl] at hl'; cases hl'
    obtain ⟨_, o, e, _⟩ := ff.mem hb
    have := hk _ _ e
    rw [hDn] at this; cases this
  have hDn₁ : s₁.heap.get? D = none := by
    cases e : s₁.heap.get? D with
    | none => rfl
    | some o => have := hk _ _ e; rw [hDn] at this; cases this
  have hCn₁ : s₁.heap.get? C = none := by
    cases e : s₁.heap.get? C with
    | none => rfl
    | some o => have := hk _ _ e; rw [hCn] at this; cases this
  have old : ∀ b o, s₂.heap.get? b = some o → h₁.get? b = some o := fun b o e => by
    have e1 : H2.get? b = some o := by rw [← hH2]; exact Heap.get?_push_of_some _ e
    refine hsb₁.extBut b o (fun q => ?_) (Heap.get?_push_of_some _ e1)
    rw [q, hCn] at e; cases e
  have hacc : h₁.get? D = some o0 := by
    have e1 : H2.get? D = some o0 := by rw [← hH2, ← hD]; exact Heap.get?_push_size _ hfr
    exact hsb₁.extBut _ _ hDC (Heap.get?_push_of_some _ e1)
  obtain ⟨hI0, tkI, rfl⟩ := hs
  dsimp only at *
  obtain ⟨oI, hoI⟩ := hIl I hfI
  have hIC : I ≠ C := fun q => by rw [q, hCn] at hoI; cases hoI
  have hID : I ≠ D := fun q => by rw [q, hDn] at hoI; cases hoI
  have fpC : ∀ b, fp b → b ≠ C ∧ b ≠ D := fun b hb => by
    obtain ⟨o, ho⟩ := hIl b hb
    exact ⟨fun q => by (rw [q, hCn] at ho; cases ho), fun q => by (rw [q, hDn] at ho; cases ho)⟩
  generalize hH3 : (H.add fun b => b = C ∨ b = D ∨ b = I) = H₃
  have hM3 : H₃.m = H.m := by rw [← hH3]; rfl
  have hO3 : H₃.o = H.o := by rw [← hH3]; rfl
  have hHH : ∀ b, H.p b → H₃.p b := fun b z => by rw [← hH3]; exact .inl z
  have hW3 : ∀ b, (b = C ∨ b = D ∨ b = I) → H₃.p b := fun b z => by rw [← hH3]; exact .inr z
  have hHN : ∀ b, H₃.p b → H.p b ∨ s₁.heap.get? b = none := fun b z => by
    rw [← hH3] at z
    rcases z with z | z | z | z
    · exact .inl z
    · exact .inr (z ▸ hCn₁)
    · exact .inr (z ▸ hDn₁)
    · exact .inr (z ▸ hI)
  have hkH1 : Kh (FrA A) s₁.heap h₁ := Kh.of_keeps fun b o e => old b o (hk b o e)
  have hst₁ : St 0 h₁ := W.frame _ _ _ hst fun b o _ e => ⟨fun _ => old b o e, o.slots, old b o e⟩
  have loop : ∀ s₃ : Shared, s₃ = { s₁ with heap := h₁, toks := tkI + ([] : List (Str × Value)).length } →
      codeAny c.M A (.compLoop ce 0 (.ref I) (.ref D) (compEnvC scope cl C env)) (RR (.ref D) C) s₃ := by
    rintro s₃ rfl
    refine K0.loop _ _ _ _ _ (fun n s' => ∃ h' tk m' j zs, s' = { s₁ with heap := h', toks := tk } ∧ St j h' ∧ j ≤ l.length ∧ n = l.length + 1 - j ∧ Inv h' H₃ D zs ∧ mapF f (l.take j) = some zs ∧
      h'.Ns C m' ∧ Kv (FrA A) (fun b => b = C ∨ b = D ∨ b = I) h₁ h' ∧ (∃ o, h'.get? I = some o)) ?_ (l.length + 1)
      ⟨h₁, _, _, 0, [], rfl, hst₁, Nat.zero_le _, rfl, hinv0 _ _ hacc, by simp [mapF], hns₁, Kv.refl _ _ _, oI, old _ _ hoI⟩
    rintro n s' ⟨h', tk, m', j, zs, rfl, hst', hj, rfl, hD', hzs, hC', hkv, hoI'⟩
    by_cases hlt : j < l.length
    · obtain ⟨item, hit⟩ : ∃ y, l[j]? = some y := ⟨l[j], by simp [hlt]⟩
      refine W.item j _ _ _ hlt hst' fun v h₂ tk₂ hPv hst₂ hk₂ hI₂ => ?_
      dsimp only
      obtain ⟨oI₂, hoI₂⟩ := hI₂
      have kv₂ : Kv (FrA A) (fun b => b = C ∨ b = D ∨ b = I) h' h₂ := Kv.of_but hk₂ (.inr (.inr rfl))
      obtain ⟨oC, esC, epC, hoC, rC⟩ := hC'
      have hC₂ : h₂.Ns C m' := ⟨oC, esC, epC, hk₂ C oC (Ne.symm hIC) hoC, rC⟩
      have hD₂ : Inv h₂ H₃ D zs := K0.keep _ _ _ _ _ hD' (fun o e => hk₂ D o (Ne.symm hID) e) (kv₂.vis hW3)
      refine wpAny_assign_Name (wpAny_storeName_local (env := compEnvC scope cl C env) (lookup_relabel_local K.var) hC₂ (fun h₃ hn₃ hs₃ => ?_) (by simp [compEnvC, relabel, K.kind]))
      have kv₃ : Kv (FrA A) (fun b => b = C ∨ b = D ∨ b = I) h₂ h₃ := Kv.of_sameBut hs₃ (.inl rfl)
      have kv13 := (hkv.trans kv₂).trans kv₃
      have kh₃ : Kh (FrA A) s₁.heap h₃ := hkH1.trans' kv13 fun b o e => by
        rintro (z | z | z)
        · rw [z, hCn₁] at e; cases e
        · rw [z, hDn₁] at e; cases e
        · rw [z, hI] at e; cases e
      have hD₃ : Inv h₃ H₃ D zs := K0.keep _ _ _ _ _ hD₂ (fun o e => hs₃.extBut D o hDC e) (kv₃.vis hW3)
      have hst₃ : St (j + 1) h₃ := W.frame _ _ _ hst₂ fun b o hb e => ⟨fun _ => hs₃.extBut b o (fpC b hb).1 e, o.slots, hs₃.extBut b o (fpC b hb).1 e⟩
      have hoI₃ : h₃.get? I = some oI₂ := hs₃.extBut I oI₂ hIC hoI₂
      have live₃ : Live H₃ h₃ := fun b z => by
        rw [← hH3] at z
        rcases z with z | rfl | rfl | rfl
        · obtain ⟨o, e⟩ := F.hlt b z
          obtain ⟨sl, e'⟩ := (kh₃ b o e).2
          exact ⟨_, e'⟩
        · obtain ⟨o, _, _, e, _⟩ := hn₃; exact ⟨o, e⟩
        · exact K0.live _ _ _ _ hD₃
        · exact ⟨_, hoI₃⟩
      have F₃ : Fm c (FrA A) (names ++ [x]) (compEnvC scope cl C env) (st.inner caps item) fe H₃ h₃ :=
        comp_fm F hlen K kh₃ hHH hHN hM3 hO3 live₃ hn₃ (hW3 C (.inl rfl)) hCn₁ (by simp) (Rep.mono (vis_new kh₃ hHN fun n a e => by rw [hM3]; exact e) (hP j v item hPv hit)) rfl rfl rfl rfl hcl1 hcl2
      have hm₃ : Rm c q k A h₃ := hm.nf kh₃.nf
      have TT := T item { s₁ with heap := h₃, toks := tk₂ + 1 } H₃ (compEnvC scope cl C env) rfl hm₃ F₃
      rcases mapF_step hf hit hzs with ⟨y, hy, hzs'⟩ | ⟨hy, hzs'⟩
      · obtain ⟨t1, t2⟩ := TT.1 y hy
        refine t1 _ _ fun s₄ k₄ => ?_
        simp only [if_true]
        have hvl : zs.length ≤ 1048576 := by
          have e2 := mapF_length hzs
          have e3 : (l.take j).length ≤ l.length := by rw [List.length_take]; omega
          omega
        obtain ⟨h₄, tk₄, e₄, kh₄⟩ := id k₄
        subst e₄
        have hD₄ : Inv h₄ H₃ D zs := K0.keep _ _ _ _ _ hD₃ (fun o e => (kh₄ D o e).1 (.inl hnF)) kh₄.vis
        refine t2 _ k₄ D zs _ _ hD₄ hvl (hW3 D (.inr (.inl rfl))) hnF fun s₅ h₆ k₅ hs₆ hl₆ => ?_
        have k35 := k₄.trans k₅
        obtain ⟨h₅, tk₅, e₅, kh₅⟩ := k35
        subst e₅
        have kv56 : Kv (FrA A) (fun b => b = C ∨ b = D ∨ b = I) h₅ h₆ := Kv.of_sameBut hs₆ (.inr (.inl rfl))
        refine ⟨l.length + 1 - (j + 1), by omega, h₆, tk₅, (fun z => if z = x then some v else m' z), j + 1, zs ++ [y], rfl, ?_, hlt, rfl, hl₆, hzs', ?_, ((kv13.trans kh₅.kv).trans kv56), ?_⟩
        · refine W.frame _ _ _ hst₃ fun b o hb e => ⟨fun hf => hs₆.extBut b _ (fpC b hb).2 ((kh₅ b o e).1 (.inr hf)), ?_⟩
          obtain ⟨sl, e'⟩ := (kh₅ b o e).2
          exact ⟨sl, hs₆.extBut b _ (fpC b hb).2 e'⟩
        · exact (kh₅.ns hn₃).sameBut hs₆ (Ne.symm hDC)
        · obtain ⟨sl, e'⟩ := (kh₅ I _ hoI₃).2
          exact ⟨_, hs₆.extBut I _ hID e'⟩
      · refine TT.2 hy _ _ fun s₄ k₄ => ?_
        simp only [Bool.false_eq_true, if_false]
        obtain ⟨h₄, tk₄, rfl, kh₄⟩ := k₄
        refine ⟨l.length + 1 - (j + 1), by omega, h₄, tk₄, (fun z => if z = x then some v else m' z), j + 1, zs, rfl, ?_, hlt, rfl, K0.keep _ _ _ _ _ hD₃ (fun o e => (kh₄ D o e).1 (.inl hnF)) kh₄.vis, hzs', kh₄.ns hn₃, kv13.trans kh₄.kv, ?_⟩
        · exact W.frame _ _ _ hst₃ fun b o hb e => ⟨fun hf => (kh₄ b o e).1 (.inr hf), (kh₄ b o e).2⟩
        · obtain ⟨sl, e'⟩ := (kh₄ I _ hoI₃).2
          exact ⟨_, e'⟩
    · have hjl : j = l.length := by omega
      subst hjl
      refine W.done _ _ _ hst' fun h₂ tk₂ hk₂ => ?_
      have kv₂ : Kv (FrA A) (fun b => b = C ∨ b = D ∨ b = I) h' h₂ := Kv.of_but hk₂ (.inr (.inr rfl))
      rw [List.take_length, hf] at hzs
      cases hzs
      obtain ⟨oC, esC, epC, hoC, rC⟩ := hC'
      refine hR D C h₂ tk₂ m' hDn hCn hDC ⟨oC, esC, epC, hk₂ C oC (Ne.symm hIC) hoC, rC⟩ ?_ ?_
      · rw [hH3]; exact K0.keep _ _ _ _ _ hD' (fun o e => hk₂ D o (Ne.symm hID) e) (kv₂.vis hW3)
      · intro b o nb e
        have e1 := old b o e
        have nC : ¬ (b = C ∨ b = D ∨ b = I) := by
          rintro (z | z | z)
          · rw [z, hCn] at e; cases e
          · rw [z, hDn] at e; cases e
          · exact nb z
        exact (hkv.trans kv₂) b o nC e1
  exact K0.start _ _ _ _ _ (loop _ rfl) (W.self 0 _ _ _ hst₁ (loop _ rfl))

/-- the list's heap of things -/
noncomputable def InvL (h : Heap) (H : Hd) (D : Addr) (zs : List AV) : Prop := ∃ vs, IsL h D vs ∧ RepL (vis h H) vs zs
theorem acc_list {c : Cx} {A : Around} {elt iter : Expr} {x : Str} {px : Pos} {ifs : List Expr} {scope : Scope} {pos : Pos} :
    AccOk c A (.ListComp elt [⟨.Name x px, iter, ifs, 0⟩] scope pos) (.Name x px) ifs (newList []) (fun env D => do let _ ← call (.builtin "list.append") [.ref D, ← eval elt env]) InvL where
  make := fun s Q E _ h => wpAny_newObj_type (h _ rfl fun h H e => ⟨[], ⟨_, _, e, rfl, rfl, rfl⟩, trivial⟩)
  keep := fun h h' H D zs ⟨vs, a, b⟩ e v => ⟨vs, a.at' e, RepL.mono v b⟩
  live := fun h H D zs ⟨vs, ⟨o, _, e, _⟩, _⟩ => ⟨o, e⟩
  loop := fun it D env R s I turn n h => by
    refine codeAny_loop rfl I (fun n s hI => ?_) n h
    show wpAny _ A ((compTurn (.ListComp elt [⟨.Name x px, iter, ifs, 0⟩] scope pos) 0 it (.ref D) env).onRaise (fun x => do noteFrame x env; theTreesLotGoes x)) _ _ s
    refine wpAny_noted ?_
    rw [compTurn_list]
    refine wpAny_bind (wpAny_standAt (wpAny_bind (wpAny_mono (turn n s hI) (fun r s₁ h₁ => ?_) fun _ _ h' => h')))
    cases r with
    | none => exact wpAny_pure h₁
    | some v =>
      refine wpAny_bind (wpAny_of_eq (rfl : letOwnedTupleGo (.Name x px) it v = pure ()) ?_)
      refine wpAny_bind (wpAny_mono h₁ (fun _ s₂ h₂ => wpAny_bind (wpAny_mono h₂ (fun ok s₃ h₃ => ?_) fun _ _ h' => h')) fun _ _ h' => h')
      cases ok with
      | false => exact wpAny_pure ⟨rfl, h₃⟩
      | true => exact wpAny_bind (wpAny_mono h₃ (fun _ s₅ h₅ => wpAny_pure ⟨rfl, h₅⟩) fun _ _ h' => h')
  start := fun it acc env R s h0 h => codeAny_compStart_list h0 h
theorem turn_list {c : Cx} {q : Bool} {k : Nat} {A : Around} {names : List Str} {env : Env} {st : Fs} {fe : FE} {scope : Scope} {x : Str} {caps : List Nat} {elt : Expr} {ifs : List Expr} {f : AV → Option (Option AV)}
    (T : TurnOk c q k A names env st fe scope x caps elt ifs f) : TurnB c q k A names env st fe scope x caps ifs (fun env D => do let _ ← call (.builtin "list.append") [.ref D, ← eval elt env]) InvL f := fun item s₃ H₃ cenv e hm F => by
  obtain ⟨t1, t2⟩ := T item s₃ H₃ cenv e hm F
  refine ⟨fun y hy => ⟨(t1 y hy).1, fun s₄ k₄ D zs Q E ⟨vs, hl, hr⟩ hz hp hn K => ?_⟩, t2⟩
  refine wpAny_bind ((t1 y hy).2 s₄ k₄ _ _ fun yv s₅ k₅ ry => ?_)
  obtain ⟨h₅, tk₅, rfl, kh₅⟩ := id k₅
  have hz' : (List.toArray vs).size ≤ sizeLine := by
    have := hr.length
    rw [List.size_toArray, show sizeLine = 16777216 from by decide]
    omega
  refine wpAny_bind (list_appendL hz' (kh₅.isL hl) fun h₆ hl₆ hs₆ => wpAny_pure ?_)
  have kvis : (vis h₅ H₃).Le (vis h₆ H₃) := (Kv.of_sameBut (F := FrA A) (W := fun b => b = D) hs₆ rfl).vis fun b z => z ▸ hp
  exact K _ h₆ k₅ hs₆ ⟨vs ++ [yv], hl₆, RepL.append (RepL.mono (kh₅.vis.trans kvis) hr) (by simp only [RepL]; exact ⟨Rep.mono kvis ry, trivial⟩)⟩
theorem comp_core {c : Cx} {q : Bool} {k : Nat} {A : Around} {s₁ s₂ : Shared} {H : Hd} {fe : FE} {names : List Str} {env : Env} {st : Fs} {elt iter : Expr} {x : Str} {px pos : Pos} {ifs : List Expr} {scope : Scope} {caps : List Nat}
    {cl : List (Str × Addr)} {I : Addr} {fp : Addr → Prop} {P : Nat → Value → Prop} {St : Nat → Heap → Prop} {l ys : List AV} {f : AV → Option (Option AV)} {E : Value → Shared → Prop} {RR : Value → Addr → Result → Shared → Prop}
    (hm : Rm c q k A s₁.heap) (F : Fm c (FrA A) names env st fe H s₁.heap) (hlen : st.ρ.length = names.length) (K : CompOk names env scope x caps)
    (hcl1 : ∀ y cc, cl.lookup y = some cc → env.cells.lookup y = some cc) (hcl2 : ∀ y, (y, NameKind.free) ∈ scope.names → cl.lookup y = env.cells.lookup y)
    (hs : ∃ h' tk, s₂ = { s₁ with heap := h', toks := tk }) (hk : ∀ b o, s₁.heap.get? b = some o → s₂.heap.get? b = some o) (hI : s₁.heap.get? I = none) (hIl : ∀ b, fp b → ∃ o, s₂.heap.get? b = some o) (hfI : fp I)
    (W : Itr c A I fp P l.length St) (hst : St 0 s₂.heap) (hsz : l.length ≤ 1048576) (hP : ∀ (i : Nat) v y, P i v → l[i]? = some y → Rep (vis s₁.heap H) v y)
    (hf : mapF f l = some ys) (T : TurnOk c q k A names env st fe scope x caps elt ifs f)
    (hR : ∀ D C h' tk m' vs, s₂.heap.get? D = none → s₂.heap.get? C = none → D ≠ C → h'.Ns C m' → IsL h' D vs → RepL (vis h' (H.add fun b => b = C ∨ b = D ∨ b = I)) vs ys → Kv (FrA A) (fun b => b = I) s₂.heap h' →
      RR (.ref D) C (.ok .next) { s₂ with heap := h', toks := tk }) :
    wpAny c.M A (newList []) (fun acc s₃ => wpAny c.M A (newFunctionEnv scope env.globals cl [] env.qual none .none (some env)) (fun cenv s₄ =>
      codeAny c.M A (.compStart (.ListComp elt [⟨.Name x px, iter, ifs, 0⟩] scope pos) 0 (.ref I) acc { cenv with scope := relabel scope env }) (RR acc cenv.locals) s₄) E s₃) E s₂ :=
  comp_gen hm F hlen K hcl1 hcl2 hs hk hI hIl hfI W hst hsz hP hf acc_list (turn_list T) fun D C h' tk m' a b d e ⟨vs, hl, hr⟩ kv => hR D C h' tk m' vs a b d e hl hr kv
end Mine
end
section
open PySem PySem.W PyProof.Rows
namespace Mine

noncomputable def encC : AV → Const → Bool
  | .int i, .int j => i == j
  | .bool a, .bool b => a == b
  | .none, .none => true
  | .str s, .str t => s == t
  | _, _ => false

noncomputable def BI.isTy : BI → Bool
  | .range | .type | .set | .frozenset => true
  | _ => false
theorem BI.boot_ty : ∀ {b : BI}, b.isTy = true → bootBuiltins (Str.ofString b.name) = some (.type b.name)
  | .range, _ => PyProof.Rows.Boot.«range»
  | .type, _ => PyProof.Rows.Boot.«type»
  | .set, _ => PyProof.Rows.Boot.«set»
  | .frozenset, _ => PyProof.Rows.Boot.«frozenset»
noncomputable def BI.val (b : BI) : Value := if b.isTy then .type b.name else .builtin b.name
theorem BI.boot : ∀ (b : BI), bootBuiltins (Str.ofString b.name) = some b.val
  | .range => PyProof.Rows.Boot.«range»
  | .type => PyProof.Rows.Boot.«type»
  | .set => PyProof.Rows.Boot.«set»
  | .frozenset => PyProof.Rows.Boot.«frozenset»
  | .len => PyProof.Rows.Boot.«len»
  | .sum => PyProof.Rows.Boot.«sum»
  | .sorted => PyProof.Rows.Boot.«sorted»

noncomputable def isGlob (ks : List (Str × NameKind)) (x : Str) : Bool := ks.lookup x == some NameKind.globalImplicit && !(x == ("__debug__" : Str)) && !(x == ("__name__" : Str))

noncomputable def relab (ks : List (Str × NameKind)) (names : List (Str × NameKind)) : List (Str × NameKind) :=
  names.map fun p => if (p.2 == NameKind.free && ks.lookup p.1 == some NameKind.cell) then (p.1, NameKind.cell) else (p.1, p.2)

noncomputable def compOkB (ks : List (Str × NameKind)) (ns : List Str) (scope : Scope) (x : Str) (caps : List Nat) : Bool :=
  scope.names.all (fun y => !(y.2 == .cell)) && scope.kind == .function && scope.names.all (fun y => !(y.2 == .local) || scope.names.lookup y.1 == some .local) && scope.names.lookup x == some .local &&
  scope.names.all (fun y => !(y.2 == .free) || ks.lookup y.1 == some .cell) && caps.all (fun i => match ns[i]? with | some y => scope.names.lookup y == some .free | none => true)

/-- what is looked at of an expression -/
structure EH where
  cst : Const → Bool := fun _ => false
  name : Str → Bool := fun _ => false
  bin : Expr → Operator → Expr → Bool := fun _ _ _ => false
  un : UnaryOp → Expr → Bool := fun _ _ => false
  cmp : Expr → List CmpOp → List Expr → Bool := fun _ _ _ => false
  bop : BoolOp → List Expr → Bool := fun _ _ => false
  ife : Expr → Expr → Expr → Bool := fun _ _ _ => false
  list : List Expr → Bool := fun _ => false
  tup : List Expr → Nat → Pos → Bool := fun _ _ _ => false
  sub : Expr → Expr → Bool := fun _ _ => false
  slice : Option Expr → Option Expr → Option Expr → Bool := fun _ _ _ => false
  call : Expr → List Expr → List Keyword → Pos → Bool := fun _ _ _ _ => false
  attr : Expr → Str → Pos → Bool := fun _ _ _ => false
  comp : Expr → List Comprehension → Scope → Bool := fun _ _ _ => false
  set : List Expr → Nat → Bool := fun _ _ => false
  scomp : Expr → List Comprehension → Scope → Bool := fun _ _ _ => false
  dcomp : Expr → Expr → List Comprehension → Scope → Bool := fun _ _ _ _ => false
noncomputable def onE (h : EH) : Expr → Bool
  | .Constant c _ _ => h.cst c
  | .Name x _ => h.name x
  | .BinOp l o r _ => h.bin l o r
  | .UnaryOp o x _ => h.un o x
  | .Compare l o r _ => h.cmp l o r
  | .BoolOp o l _ => h.bop o l
  | .IfExp t a b _ => h.ife t a b
  | .List l _ => h.list l
  | .Tuple l k p => h.tup l k p
  | .Subscript o i _ => h.sub o i
  | .Slice a b c _ => h.slice a b c
  | .Call f a k p => h.call f a k p
  | .Attribute o n p => h.attr o n p
  | .ListComp e g s _ => h.comp e g s
  | .Set l k _ => h.set l k
  | .SetComp e g s _ => h.scomp e g s
  | .DictComp k v g s _ => h.dcomp k v g s
  | _ => false
noncomputable def one? {α : Type} (l : List α) (f : α → Bool) : Bool := match l with
  | [x] => f x
  | _ => false
noncomputable def nil? {α : Type} (l : List α) (b : Bool) : Bool := match l with
  | [] => b
  | _ => false
theorem one?_eq {α : Type} {l : List α} {f : α → Bool} (h : one? l f = true) : ∃ x, l = [x] ∧ f x = true := by
  rcases l with _ | ⟨x, _ | ⟨y, r⟩⟩
  · cases h
  · exact ⟨x, rfl, h⟩
  · cases h
theorem nil?_eq {α : Type} {l : List α} {b : Bool} (h : nil? l b = true) : l = [] ∧ b = true := by
  cases l with
  | nil => exact ⟨rfl, h⟩
  | cons _ _ => cases h
section
variable {ex : Expr}
theorem onE_elim {h : EH} {P : Expr → Prop} {ex : Expr} (he : onE h ex = true) (h0 : ∀ c k p, h.cst c = true → P (.Constant c k p)) (h1 : ∀ x p, h.name x = true → P (.Name x p)) (h2 : ∀ l o r p, h.bin l o r = true → P (.BinOp l o r p)) (h3 : ∀ o x p, h.un o x = true → P (.UnaryOp o x p)) (h4 : ∀ l o r p, h.cmp l o r = true → P (.Compare l o r p)) (h5 : ∀ o l p, h.bop o l = true → P (.BoolOp o l p)) (h6 : ∀ t a b p, h.ife t a b = true → P (.IfExp t a b p)) (h7 : ∀ l p, h.list l = true → P (.List l p)) (h8 : ∀ l k p, h.tup l k p = true → P (.Tuple l k p)) (h9 : ∀ o i p, h.sub o i = true → P (.Subscript o i p)) (h10 : ∀ a b c p, h.slice a b c = true → P (.Slice a b c p)) (h11 : ∀ g a k p, h.call g a k p = true → P (.Call g a k p)) (h12 : ∀ o n p, h.attr o n p = true → P (.Attribute o n p)) (h13 : ∀ e g s p, h.comp e g s = true → P (.ListComp e g s p)) (h14 : ∀ l k p, h.set l k = true → P (.Set l k p)) (h15 : ∀ e g s p, h.scomp e g s = true → P (.SetComp e g s p)) (h16 : ∀ k v g s p, h.dcomp k v g s = true → P (.DictComp k v g s p)) : P ex := by
  cases ex with
  | Constant c k p => exact h0 c k p he
  | Name x p => exact h1 x p he
  | BinOp l o r p => exact h2 l o r p he
  | UnaryOp o x p => exact h3 o x p he
  | Compare l o r p => exact h4 l o r p he
  | BoolOp o l p => exact h5 o l p he
  | IfExp t a b p => exact h6 t a b p he
  | List l p => exact h7 l p he
  | Tuple l k p => exact h8 l k p he
  | Subscript o i p => exact h9 o i p he
  | Slice a b c p => exact h10 a b c p he
  | Call g a k p => exact h11 g a k p he
  | Attribute o n p => exact h12 o n p he
  | ListComp e g s p => exact h13 e g s p he
  | Set l k p => exact h14 l k p he
  | SetComp e g s p => exact h15 e g s p he
  | DictComp k v g s p => exact h16 k v g s p he
  | _ => exact (Bool.false_ne_true he).elim
theorem onE_cst {f} (h : onE { cst := f } ex = true) : ∃ c k p, ex = .Constant c k p ∧ f c = true :=
  onE_elim (P := fun ex => ∃ c k p, ex = .Constant c k p ∧ f c = true) h (fun c k p z => ⟨c, k, p, rfl, z⟩) (fun _ _ z => (Bool.false_ne_true z).elim) (fun _ _ _ _ z => (Bool.false_ne_true z).elim) (fun _ _ _ z => (Bool.false_ne_true z).elim) (fun _ _ _ _ z => (Bool.false_ne_true z).elim) (fun _ _ _ z => (Bool.false_ne_true z).elim) (fun _ _ _ _ z => (Bool.false_ne_true z).elim) (fun _ _ z => (Bool.false_ne_true z).elim) (fun _ _ _ z => (Bool.false_ne_true z).elim) (fun _ _ _ z => (Bool.false_ne_true z).elim) (fun _ _ _ _ z => (Bool.false_ne_true z).elim) (fun _ _ _ _ z => (Bool.false_ne_true z).elim) (fun _ _ _ z => (Bool.false_ne_true z).elim) (fun _ _ _ _ z => (Bool.false_ne_true z).elim) (fun _ _ _ z => (Bool.false_ne_true z).elim) (fun _ _ _ _ z => (Bool.false_ne_true z).elim) (fun _ _ _ _ _ z => (Bool.false_ne_true z).elim)
theorem onE_name {f} (h : onE { name := f } ex = true) : ∃ x p, ex = .Name x p ∧ f x = true :=
  onE_elim (P := fun ex => ∃ x p, ex = .Name x p ∧ f x = true) h (fun _ _ _ z => (Bool.false_ne_true z).elim) (fun x p z => ⟨x, p, rfl, z⟩) (fun _ _ _ _ z => (Bool.false_ne_true z).elim) (fun _ _ _ z => (Bool.false_ne_true z).elim) (fun _ _ _ _ z => (Bool.false_ne_true z).elim) (fun _ _ _ z => (Bool.false_ne_true z).elim) (fun _ _ _ _ z => (Bool.false_ne_true z).elim) (fun _ _ z => (Bool.false_ne_true z).elim) (fun _ _ _ z => (Bool.false_ne_true z).elim) (fun _ _ _ z => (Bool.false_ne_true z).elim) (fun _ _ _ _ z => (Bool.false_ne_true z).elim) (fun _ _ _ _ z => (Bool.false_ne_true z).elim) (fun _ _ _ z => (Bool.false_ne_true z).elim) (fun _ _ _ _ z => (Bool.false_ne_true z).elim) (fun _ _ _ z => (Bool.false_ne_true z).elim) (fun _ _ _ _ z => (Bool.false_ne_true z).elim) (fun _ _ _ _ _ z => (Bool.false_ne_true z).elim)
theorem onE_bin {f} (h : onE { bin := f } ex = true) : ∃ l o r p, ex = .BinOp l o r p ∧ f l o r = true :=
  onE_elim (P := fun ex => ∃ l o r p, ex = .BinOp l o r p ∧ f l o r = true) h (fun _ _ _ z => (Bool.false_ne_true z).elim) (fun _ _ z => (Bool.false_ne_true z).elim) (fun l o r p z => ⟨l, o, r, p, rfl, z⟩) (fun _ _ _ z => (Bool.false_ne_true z).elim) (fun _ _ _ _ z => (Bool.false_ne_true z).elim) (fun _ _ _ z => (Bool.false_ne_true z).elim) (fun _ _ _ _ z => (Bool.false_ne_true z).elim) (fun _ _ z => (Bool.false_ne_true z).elim) (fun _ _ _ z => (Bool.false_ne_true z).elim) (fun _ _ _ z => (Bool.false_ne_true z).elim) (fun _ _ _ _ z => (Bool.false_ne_true z).elim) (fun _ _ _ _ z => (Bool.false_ne_true z).elim) (fun _ _ _ z => (Bool.false_ne_true z).elim) (fun _ _ _ _ z => (Bool.false_ne_true z).elim) (fun _ _ _ z => (Bool.false_ne_true z).elim) (fun _ _ _ _ z => (Bool.false_ne_true z).elim) (fun _ _ _ _ _ z => (Bool.false_ne_true z).elim)
theorem onE_un {f} (h : onE { un := f } ex = true) : ∃ o x p, ex = .UnaryOp o x p ∧ f o x = true :=
  onE_elim (P := fun ex => ∃ o x p, ex = .UnaryOp o x p ∧ f o x = true) h (fun _ _ _ z => (Bool.false_ne_true z).elim) (fun _ _ z => (Bool.false_ne_true z).elim) (fun _ _ _ _ z => (Bool.false_ne_true z).elim) (fun o x p z => ⟨o, x, p, rfl, z⟩) (fun _ _ _ _ z => (Bool.false_ne_true z).elim) (fun _ _ _ z => (Bool.false_ne_true z).elim) (fun _ _ _ _ z => (Bool.false_ne_true z).elim) (fun _ _ z => (Bool.false_ne_true z).elim) (fun _ _ _ z => (Bool.false_ne_true z).elim) (fun _ _ _ z => (Bool.false_ne_true z).elim) (fun _ _ _ _ z => (Bool.false_ne_true z).elim) (fun _ _ _ _ z => (Bool.false_ne_true z).elim) (fun _ _ _ z => (Bool.false_ne_true z).elim) (fun _ _ _ _ z => (Bool.false_ne_true z).elim) (fun _ _ _ z => (Bool.false_ne_true z).elim) (fun _ _ _ _ z => (Bool.false_ne_true z).elim) (fun _ _ _ _ _ z => (Bool.false_ne_true z).elim)
theorem onE_cmp {f} (h : onE { cmp := f } ex = true) : ∃ l o r p, ex = .Compare l o r p ∧ f l o r = true :=
  onE_elim (P := fun ex => ∃ l o r p, ex = .Compare l o r p ∧ f l o r = true) h (fun _ _ _ z => (Bool.false_ne_true z).elim) (fun _ _ z => (Bool.false_ne_true z).elim) (fun _ _ _ _ z => (Bool.false_ne_true z).elim) (fun _ _ _ z => (Bool.false_ne_true z).elim) (fun l o r p z => ⟨l, o, r, p, rfl, z⟩) (fun _ _ _ z => (Bool.false_ne_true z).elim) (fun _ _ _ _ z => (Bool.false_ne_true z).elim) (fun _ _ z => (Bool.false_ne_true z).elim) (fun _ _ _ z => (Bool.false_ne_true z).elim) (fun _ _ _ z => (Bool.false_ne_true z).elim) (fun _ _ _ _ z => (Bool.false_ne_true z).elim) (fun _ _ _ _ z => (Bool.false_ne_true z).elim) (fun _ _ _ z => (Bool.false_ne_true z).elim) (fun _ _ _ _ z => (Bool.false_ne_true z).elim) (fun _ _ _ z => (Bool.false_ne_true z).elim) (fun _ _ _ _ z => (Bool.false_ne_true z).elim) (fun _ _ _ _ _ z => (Bool.false_ne_true z).elim)
theorem onE_bop {f} (h : onE { bop := f } ex = true) : ∃ o l p, ex = .BoolOp o l p ∧ f o l = true :=
  onE_elim (P := fun ex => ∃ o l p, ex = .BoolOp o l p ∧ f o l = true) h (fun _ _ _ z => (Bool.false_ne_true z).elim) (fun _ _ z => (Bool.false_ne_true z).elim) (fun _ _ _ _ z => (Bool.false_ne_true z).elim) (fun _ _ _ z => (Bool.false_ne_true z).elim) (fun _ _ _ _ z => (Bool.false_ne_true z).elim) (fun o l p z => ⟨o, l, p, rfl, z⟩) (fun _ _ _ _ z => (Bool.false_ne_true z).elim) (fun _ _ z => (Bool.false_ne_true z).elim) (fun _ _ _ z => (Bool.false_ne_true z).elim) (fun _ _ _ z => (Bool.false_ne_true z).elim) (fun _ _ _ _ z => (Bool.false_ne_true z).elim) (fun _ _ _ _ z => (Bool.false_ne_true z).elim) (fun _ _ _ z => (Bool.false_ne_true z).elim) (fun _ _ _ _ z => (Bool.false_ne_true z).elim) (fun _ _ _ z => (Bool.false_ne_true z).elim) (fun _ _ _ _ z => (Bool.false_ne_true z).elim) (fun _ _ _ _ _ z => (Bool.false_ne_true z).elim)
theorem onE_list {f} (h : onE { list := f } ex = true) : ∃ l p, ex = .List l p ∧ f l = true :=
  onE_elim (P := fun ex => ∃ l p, ex = .List l p ∧ f l = true) h (fun _ _ _ z => (Bool.false_ne_true z).elim) (fun _ _ z => (Bool.false_ne_true z).elim) (fun _ _ _ _ z => (Bool.false_ne_true z).elim) (fun _ _ _ z => (Bool.false_ne_true z).elim) (fun _ _ _ _ z => (Bool.false_ne_true z).elim) (fun _ _ _ z => (Bool.false_ne_true z).elim) (fun _ _ _ _ z => (Bool.false_ne_true z).elim) (fun l p z => ⟨l, p, rfl, z⟩) (fun _ _ _ z => (Bool.false_ne_true z).elim) (fun _ _ _ z => (Bool.false_ne_true z).elim) (fun _ _ _ _ z => (Bool.false_ne_true z).elim) (fun _ _ _ _ z => (Bool.false_ne_true z).elim) (fun _ _ _ z => (Bool.false_ne_true z).elim) (fun _ _ _ _ z => (Bool.false_ne_true z).elim) (fun _ _ _ z => (Bool.false_ne_true z).elim) (fun _ _ _ _ z => (Bool.false_ne_true z).elim) (fun _ _ _ _ _ z => (Bool.false_ne_true z).elim)
theorem onE_tup {f} (h : onE { tup := f } ex = true) : ∃ l k p, ex = .Tuple l k p ∧ f l k p = true :=
  onE_elim (P := fun ex => ∃ l k p, ex = .Tuple l k p ∧ f l k p = true) h (fun _ _ _ z => (Bool.false_ne_true z).elim) (fun _ _ z => (Bool.false_ne_true z).elim) (fun _ _ _ _ z => (Bool.false_ne_true z).elim) (fun _ _ _ z => (Bool.false_ne_true z).elim) (fun _ _ _ _ z => (Bool.false_ne_true z).elim) (fun _ _ _ z => (Bool.false_ne_true z).elim) (fun _ _ _ _ z => (Bool.false_ne_true z).elim) (fun _ _ z => (Bool.false_ne_true z).elim) (fun l k p z => ⟨l, k, p, rfl, z⟩) (fun _ _ _ z => (Bool.false_ne_true z).elim) (fun _ _ _ _ z => (Bool.false_ne_true z).elim) (fun _ _ _ _ z => (Bool.false_ne_true z).elim) (fun _ _ _ z => (Bool.false_ne_true z).elim) (fun _ _ _ _ z => (Bool.false_ne_true z).elim) (fun _ _ _ z => (Bool.false_ne_true z).elim) (fun _ _ _ _ z => (Bool.false_ne_true z).elim) (fun _ _ _ _ _ z => (Bool.false_ne_true z).elim)
theorem onE_sub {f} (h : onE { sub := f } ex = true) : ∃ o i p, ex = .Subscript o i p ∧ f o i = true :=
  onE_elim (P := fun ex => ∃ o i p, ex = .Subscript o i p ∧ f o i = true) h (fun _ _ _ z => (Bool.false_ne_true z).elim) (fun _ _ z => (Bool.false_ne_true z).elim) (fun _ _ _ _ z => (Bool.false_ne_true z).elim) (fun _ _ _ z => (Bool.false_ne_true z).elim) (fun _ _ _ _ z => (Bool.false_ne_true z).elim) (fun _ _ _ z => (Bool.false_ne_true z).elim) (fun _ _ _ _ z => (Bool.false_ne_true z).elim) (fun _ _ z => (Bool.false_ne_true z).elim) (fun _ _ _ z => (Bool.false_ne_true z).elim) (fun o i p z => ⟨o, i, p, rfl, z⟩) (fun _ _ _ _ z => (Bool.false_ne_true z).elim) (fun _ _ _ _ z => (Bool.false_ne_true z).elim) (fun _ _ _ z => (Bool.false_ne_true z).elim) (fun _ _ _ _ z => (Bool.false_ne_true z).elim) (fun _ _ _ z => (Bool.false_ne_true z).elim) (fun _ _ _ _ z => (Bool.false_ne_true z).elim) (fun _ _ _ _ _ z => (Bool.false_ne_true z).elim)
theorem onE_slice {f} (h : onE { slice := f } ex = true) : ∃ a b c p, ex = .Slice a b c p ∧ f a b c = true :=
  onE_elim (P := fun ex => ∃ a b c p, ex = .Slice a b c p ∧ f a b c = true) h (fun _ _ _ z => (Bool.false_ne_true z).elim) (fun _ _ z => (Bool.false_ne_true z).elim) (fun _ _ _ _ z => (Bool.false_ne_true z).elim) (fun _ _ _ z => (Bool.false_ne_true z).elim) (fun _ _ _ _ z => (Bool.false_ne_true z).elim) (fun _ _ _ z => (Bool.false_ne_true z).elim) (fun _ _ _ _ z => (Bool.false_ne_true z).elim) (fun _ _ z => (Bool.false_ne_true z).elim) (fun _ _ _ z => (Bool.false_ne_true z).elim) (fun _ _ _ z => (Bool.false_ne_true z).elim) (fun a b c p z => ⟨a, b, c, p, rfl, z⟩) (fun _ _ _ _ z => (Bool.false_ne_true z).elim) (fun _ _ _ z => (Bool.false_ne_true z).elim) (fun _ _ _ _ z => (Bool.false_ne_true z).elim) (fun _ _ _ z => (Bool.false_ne_true z).elim) (fun _ _ _ _ z => (Bool.false_ne_true z).elim) (fun _ _ _ _ _ z => (Bool.false_ne_true z).elim)
theorem onE_call {f} (h : onE { call := f } ex = true) : ∃ g a k p, ex = .Call g a k p ∧ f g a k p = true :=
  onE_elim (P := fun ex => ∃ g a k p, ex = .Call g a k p ∧ f g a k p = true) h (fun _ _ _ z => (Bool.false_ne_true z).elim) (fun _ _ z => (Bool.false_ne_true z).elim) (fun _ _ _ _ z => (Bool.false_ne_true z).elim) (fun _ _ _ z => (Bool.false_ne_true z).elim) (fun _ _ _ _ z => (Bool.false_ne_true z).elim) (fun _ _ _ z => (Bool.false_ne_true z).elim) (fun _ _ _ _ z => (Bool.false_ne_true z).elim) (fun _ _ z => (Bool.false_ne_true z).elim) (fun _ _ _ z => (Bool.false_ne_true z).elim) (fun _ _ _ z => (Bool.false_ne_true z).elim) (fun _ _ _ _ z => (Bool.false_ne_true z).elim) (fun g a k p z => ⟨g, a, k, p, rfl, z⟩) (fun _ _ _ z => (Bool.false_ne_true z).elim) (fun _ _ _ _ z => (Bool.false_ne_true z).elim) (fun _ _ _ z => (Bool.false_ne_true z).elim) (fun _ _ _ _ z => (Bool.false_ne_true z).elim) (fun _ _ _ _ _ z => (Bool.false_ne_true z).elim)
theorem onE_attr {f} (h : onE { attr := f } ex = true) : ∃ o n p, ex = .Attribute o n p ∧ f o n p = true :=
  onE_elim (P := fun ex => ∃ o n p, ex = .Attribute o n p ∧ f o n p = true) h (fun _ _ _ z => (Bool.false_ne_true z).elim) (fun _ _ z => (Bool.false_ne_true z).elim) (fun _ _ _ _ z => (Bool.false_ne_true z).elim) (fun _ _ _ z => (Bool.false_ne_true z).elim) (fun _ _ _ _ z => (Bool.false_ne_true z).elim) (fun _ _ _ z => (Bool.false_ne_true z).elim) (fun _ _ _ _ z => (Bool.false_ne_true z).elim) (fun _ _ z => (Bool.false_ne_true z).elim) (fun _ _ _ z => (Bool.false_ne_true z).elim) (fun _ _ _ z => (Bool.false_ne_true z).elim) (fun _ _ _ _ z => (Bool.false_ne_true z).elim) (fun _ _ _ _ z => (Bool.false_ne_true z).elim) (fun o n p z => ⟨o, n, p, rfl, z⟩) (fun _ _ _ _ z => (Bool.false_ne_true z).elim) (fun _ _ _ z => (Bool.false_ne_true z).elim) (fun _ _ _ _ z => (Bool.false_ne_true z).elim) (fun _ _ _ _ _ z => (Bool.false_ne_true z).elim)
theorem onE_comp {f} (h : onE { comp := f } ex = true) : ∃ e g s p, ex = .ListComp e g s p ∧ f e g s = true :=
  onE_elim (P := fun ex => ∃ e g s p, ex = .ListComp e g s p ∧ f e g s = true) h (fun _ _ _ z => (Bool.false_ne_true z).elim) (fun _ _ z => (Bool.false_ne_true z).elim) (fun _ _ _ _ z => (Bool.false_ne_true z).elim) (fun _ _ _ z => (Bool.false_ne_true z).elim) (fun _ _ _ _ z => (Bool.false_ne_true z).elim) (fun _ _ _ z => (Bool.false_ne_true z).elim) (fun _ _ _ _ z => (Bool.false_ne_true z).elim) (fun _ _ z => (Bool.false_ne_true z).elim) (fun _ _ _ z => (Bool.false_ne_true z).elim) (fun _ _ _ z => (Bool.false_ne_true z).elim) (fun _ _ _ _ z => (Bool.false_ne_true z).elim) (fun _ _ _ _ z => (Bool.false_ne_true z).elim) (fun _ _ _ z => (Bool.false_ne_true z).elim) (fun e g s p z => ⟨e, g, s, p, rfl, z⟩) (fun _ _ _ z => (Bool.false_ne_true z).elim) (fun _ _ _ _ z => (Bool.false_ne_true z).elim) (fun _ _ _ _ _ z => (Bool.false_ne_true z).elim)
theorem onE_set {f} (h : onE { set := f } ex = true) : ∃ l k p, ex = .Set l k p ∧ f l k = true :=
  onE_elim (P := fun ex => ∃ l k p, ex = .Set l k p ∧ f l k = true) h (fun _ _ _ z => (Bool.false_ne_true z).elim) (fun _ _ z => (Bool.false_ne_true z).elim) (fun _ _ _ _ z => (Bool.false_ne_true z).elim) (fun _ _ _ z => (Bool.false_ne_true z).elim) (fun _ _ _ _ z => (Bool.false_ne_true z).elim) (fun _ _ _ z => (Bool.false_ne_true z).elim) (fun _ _ _ _ z => (Bool.false_ne_true z).elim) (fun _ _ z => (Bool.false_ne_true z).elim) (fun _ _ _ z => (Bool.false_ne_true z).elim) (fun _ _ _ z => (Bool.false_ne_true z).elim) (fun _ _ _ _ z => (Bool.false_ne_true z).elim) (fun _ _ _ _ z => (Bool.false_ne_true z).elim) (fun _ _ _ z => (Bool.false_ne_true z).elim) (fun _ _ _ _ z => (Bool.false_ne_true z).elim) (fun l k p z => ⟨l, k, p, rfl, z⟩) (fun _ _ _ _ z => (Bool.false_ne_true z).elim) (fun _ _ _ _ _ z => (Bool.false_ne_true z).elim)
/-- a call of a name, no keywords -/
noncomputable def onNC (ex : Expr) (f : Str → List Expr → Bool) : Bool := onE { call := fun g es ks _ => onE { name := fun x => nil? ks (f x es) } g } ex
theorem onNC_eq {f} (h : onNC ex f = true) : ∃ x px es p, ex = .Call (.Name x px) es [] p ∧ f x es = true := by
  obtain ⟨g, es, ks, p, rfl, h⟩ := onE_call h
  obtain ⟨x, px, rfl, h⟩ := onE_name h
  obtain ⟨rfl, h⟩ := nil?_eq h
  exact ⟨x, px, es, p, rfl, h⟩
/-- a method's call, no keywords -/
noncomputable def onMC (ex : Expr) (f : Expr → Str → Pos → List Expr → Pos → Bool) : Bool := onE { call := fun g es ks p => onE { attr := fun o n ap => nil? ks (f o n ap es p) } g } ex
theorem onMC_eq {f} (h : onMC ex f = true) : ∃ o n ap es p, ex = .Call (.Attribute o n ap) es [] p ∧ f o n ap es p = true := by
  obtain ⟨g, es, ks, p, rfl, h⟩ := onE_call h
  obtain ⟨o, n, ap, rfl, h⟩ := onE_attr h
  obtain ⟨rfl, h⟩ := nil?_eq h
  exact ⟨o, n, ap, es, p, rfl, h⟩
/-- a comparison of two -/
noncomputable def onC1 (ex : Expr) (f : Expr → CmpOp → Expr → Bool) : Bool := onE { cmp := fun l os rs => one? os fun o => one? rs fun r => f l o r } ex
theorem onC1_eq {f} (h : onC1 ex f = true) : ∃ l o r p, ex = .Compare l [o] [r] p ∧ f l o r = true := by
  obtain ⟨l, os, rs, p, rfl, h⟩ := onE_cmp h
  obtain ⟨o, rfl, h⟩ := one?_eq h
  obtain ⟨r, rfl, h⟩ := one?_eq h
  exact ⟨l, o, r, p, rfl, h⟩
end

/-- a comprehension over one row -/
noncomputable def onLC (ex : Expr) (f : Expr → Str → Expr → List Expr → Scope → Bool) : Bool := onE { comp := fun e gs sc => one? gs fun g => onE { name := fun x => g.is_async == 0 && f e x g.iter g.ifs sc } g.target } ex
theorem onLC_eq {ex : Expr} {f} (h : onLC ex f = true) : ∃ e x px it ifs sc p, ex = .ListComp e [⟨.Name x px, it, ifs, 0⟩] sc p ∧ f e x it ifs sc = true := by
  obtain ⟨e, gs, sc, p, rfl, h⟩ := onE_comp h
  obtain ⟨⟨tg, it, ifs, as⟩, rfl, h⟩ := one?_eq h
  obtain ⟨x, px, e2, h⟩ := onE_name h
  rw [Bool.and_eq_true] at h
  obtain ⟨h1, h⟩ := h
  have h1 := eq_of_beq h1
  simp only at h1 e2
  subst h1; subst e2
  exact ⟨e, x, px, it, ifs, sc, p, rfl, h⟩
noncomputable def isSetd : PE → Bool
  | .setd _ => true
  | _ => false
noncomputable def isNone' : PE → Bool
  | .const .none => true
  | _ => false
section
variable (frees : List Str) (fname : Nat → Str)
mutual
noncomputable def encE (ks : List (Str × NameKind)) (ns : List Str) : PE → Expr → Bool
  | .const v, ex => onE { cst := encC v } ex
  | .name i, ex => onE { name := fun x => ns[i]? == some x && !(x == ("__debug__" : Str)) } ex
  | .glob b, ex => onE { name := fun x => b.isTy && x == Str.ofString b.name && isGlob ks x && frees.contains x } ex
  | .bin op l r, ex => onE { bin := fun l' op' r' => op == op' && encE ks ns l l' && encE ks ns r r' } ex
  | .un op x, ex => onE { un := fun op' x' => op == op' && encE ks ns x x' } ex
  | .cmp op l r, ex => onC1 ex fun l' op' r' => op == op' && encE ks ns l l' && encE ks ns r r' && !(behindInMarks op r')
  | .bop op xs, ex => onE { bop := fun op' xs' => op == op' && encEs ks ns xs xs' } ex
  | .list xs, ex => onE { list := fun es => encEs ks ns xs es } ex
  | .tup xs, ex => onE { tup := fun es _ _ => encEs ks ns xs es } ex
  | .sub o i, ex => onE { sub := fun o' i' => encE ks ns o o' && encE ks ns i i' } ex
  | .slice o a b s, ex => onE { sub := fun o' sl => onE { slice := fun a' b' s' => encE ks ns o o' && (match a' with | some e => encE ks ns a e | none => isNone' a) && (match b' with | some e => encE ks ns b e | none => isNone' b) && (match s' with | some e => encE ks ns s e | none => isNone' s) } sl } ex
  | .call f xs, ex => onNC ex fun x es => x == fname f && isGlob ks x && encEs ks ns xs es
  | .bcall f xs, ex => onNC ex fun x es => x == Str.ofString f.name && isGlob ks x && frees.contains x && encEs ks ns xs es
  | .ecall f xs, ex => onNC ex fun x es => x == Str.ofString f.name && isGlob ks x && frees.contains x && encEs ks ns xs es
  | .comp caps elt src conds, ex => onLC ex fun e' x it ifs scope => encE ks ns src it && !(isSetd src) && compOkB ks ns scope x caps && encE (relab ks scope.names) (ns ++ [x]) elt e' && encEs (relab ks scope.names) (ns ++ [x]) conds ifs
  | .compS caps elt src conds, ex => onLC ex fun e' x it ifs scope => encE ks ns src it && !(isSetd src) && compOkB ks ns scope x caps && encE (relab ks scope.names) (ns ++ [x]) elt e' && encEs (relab ks scope.names) (ns ++ [x]) conds ifs
  | .setd x, ex => onE { set := fun es k => one? es fun e => k == 0 && encE ks ns x e } ex
noncomputable def encEs (ks : List (Str × NameKind)) (ns : List Str) : PEs → List Expr → Bool
  | .nil, es => (match es with | [] => true | _ => false)
  | .cons p ps, es => (match es with | e :: r => encE ks ns p e && encEs ks ns ps r | _ => false)
end
end
theorem encC_cases {v : AV} {c : Const} (h : encC v c = true) : (∃ i, v = .int i ∧ c = .int i) ∨ (∃ b, v = .bool b ∧ c = .bool b) ∨ (v = .none ∧ c = .none) ∨ ∃ s, v = .str s ∧ c = .str s := by
  unfold encC at h
  split at h
  · exact .inl ⟨_, rfl, by rw [eq_of_beq h]⟩
  · exact .inr (.inl ⟨_, rfl, by rw [eq_of_beq h]⟩)
  · exact .inr (.inr (.inl ⟨rfl, rfl⟩))
  · exact .inr (.inr (.inr ⟨_, rfl, by rw [eq_of_beq h]⟩))
  · cases h
theorem isNone'_eq {p : PE} (h : isNone' p = true) : p = .const .none := by
  unfold isNone' at h
  split at h
  · rfl
  · cases h

theorem compOk_of {ks : List (Str × NameKind)} {ns : List Str} {scope : Scope} {x : Str} {caps : List Nat} {env : Env} (hks : env.scope.names = ks) (h : compOkB ks ns scope x caps = true) : CompOk ns env scope x caps := by
  simp only [compOkB, Bool.and_eq_true, List.all_eq_true, Bool.not_eq_true', beq_eq_false_iff_ne, beq_iff_eq, Bool.or_eq_true] at h
  obtain ⟨⟨⟨⟨⟨h1, h2⟩, h3⟩, h4⟩, h5⟩, h6⟩ := h
  refine ⟨h1, h2, fun y hy e => (h3 y hy).resolve_left fun n => n e, h4, fun y hy => ?_, fun i hi y hy => ?_⟩
  · have := (h5 _ hy).resolve_left fun n => n rfl
    show env.scope.names.lookup y = some .cell
    rw [hks]; exact this
  · have := h6 i hi
    rw [hy] at this
    exact beq_iff_eq.mp this

theorem relab_eq {ks : List (Str × NameKind)} {scope : Scope} {env : Env} (hks : env.scope.names = ks) (hk : env.scope.kind = .function) : (relabel scope env).names = relab ks scope.names := by
  unfold relabel relab
  simp only [hk]
  refine List.map_congr_left fun p _ => ?_
  obtain ⟨n, k⟩ := p
  have : env.kindOf n = ks.lookup n := by rw [← hks]; rfl
  simp [this]

/- equations -/
section
variable {frees : List Str} {fname : Nat → Str} {ks : List (Str × NameKind)} {ns : List Str}
theorem ec_const {v ex} : encE frees fname ks ns (.const v) ex = onE { cst := encC v } ex := rfl
theorem ec_name {i ex} : encE frees fname ks ns (.name i) ex = onE { name := fun x => ns[i]? == some x && !(x == ("__debug__" : Str)) } ex := rfl
theorem ec_glob {b ex} : encE frees fname ks ns (.glob b) ex = onE { name := fun x => b.isTy && x == Str.ofString b.name && isGlob ks x && frees.contains x } ex := rfl
theorem ec_bin {op l r ex} : encE frees fname ks ns (.bin op l r) ex = onE { bin := fun l' op' r' => op == op' && encE frees fname ks ns l l' && encE frees fname ks ns r r' } ex := rfl
theorem ec_un {op x ex} : encE frees fname ks ns (.un op x) ex = onE { un := fun op' x' => op == op' && encE frees fname ks ns x x' } ex := rfl
theorem ec_cmp {op l r ex} : encE frees fname ks ns (.cmp op l r) ex = onC1 ex fun l' op' r' => op == op' && encE frees fname ks ns l l' && encE frees fname ks ns r r' && !(behindInMarks op r') := rfl
theorem ec_bop {op xs ex} : encE frees fname ks ns (.bop op xs) ex = onE { bop := fun op' xs' => op == op' && encEs frees fname ks ns xs xs' } ex := rfl
theorem ec_list {xs ex} : encE frees fname ks ns (.list xs) ex = onE { list := fun es => encEs frees fname ks ns xs es } ex := rfl
theorem ec_tup {xs ex} : encE frees fname ks ns (.tup xs) ex = onE { tup := fun es _ _ => encEs frees fname ks ns xs es } ex := rfl
theorem ec_sub {o i ex} : encE frees fname ks ns (.sub o i) ex = onE { sub := fun o' i' => encE frees fname ks ns o o' && encE frees fname ks ns i i' } ex := rfl
theorem ec_slice {o a b s ex} : encE frees fname ks ns (.slice o a b s) ex = onE { sub := fun o' sl => onE { slice := fun a' b' s' => encE frees fname ks ns o o' && (match a' with | some e => encE frees fname ks ns a e | none => isNone' a) && (match b' with | some e => encE frees fname ks ns b e | none => isNone' b) && (match s' with | some e => encE frees fname ks ns s e | none => isNone' s) } sl } ex := rfl
theorem ec_call {f xs ex} : encE frees fname ks ns (.call f xs) ex = onNC ex fun x es => x == fname f && isGlob ks x && encEs frees fname ks ns xs es := rfl
theorem ec_bcall {f xs ex} : encE frees fname ks ns (.bcall f xs) ex = onNC ex fun x es => x == Str.ofString f.name && isGlob ks x && frees.contains x && encEs frees fname ks ns xs es := rfl
theorem ec_ecall {f xs ex} : encE frees fname ks ns (.ecall f xs) ex = onNC ex fun x es => x == Str.ofString f.name && isGlob ks x && frees.contains x && encEs frees fname ks ns xs es := rfl
theorem ec_comp {caps elt src conds ex} : encE frees fname ks ns (.comp caps elt src conds) ex = onLC ex fun e' x it ifs scope => encE frees fname ks ns src it && !(isSetd src) && compOkB ks ns scope x caps && encE frees fname (relab ks scope.names) (ns ++ [x]) elt e' && encEs frees fname (relab ks scope.names) (ns ++ [x]) conds ifs := rfl
theorem ec_compS {caps elt src conds ex} : encE frees fname ks ns (.compS caps elt src conds) ex = onLC ex fun e' x it ifs scope => encE frees fname ks ns src it && !(isSetd src) && compOkB ks ns scope x caps && encE frees fname (relab ks scope.names) (ns ++ [x]) elt e' && encEs frees fname (relab ks scope.names) (ns ++ [x]) conds ifs := rfl
theorem ec_setd {x ex} : encE frees fname ks ns (.setd x) ex = onE { set := fun es k => one? es fun e => k == 0 && encE frees fname ks ns x e } ex := rfl
theorem ecs_nil {es} : encEs frees fname ks ns (.nil) es = (match es with | [] => true | _ => false) := rfl
theorem ecs_cons {p ps es} : encEs frees fname ks ns (.cons p ps) es = (match es with | e :: r => encE frees fname ks ns p e && encEs frees fname ks ns ps r | _ => false) := rfl
end
/- equations end -/
end Mine
end
section
open PySem PySem.W PyProof.Rows
namespace Mine

theorem Fm.ss {c : Cx} {A : Around} {ns : List Str} {env : Env} {st : Fs} {fe : FE} {H H' : Hd} {s s' : Shared} {σ' : Store} (F : Fm c (FrA A) ns env st fe H s.heap) (X : Ss A st.lo st.σ H s σ' H' s') : Fm c (FrA A) ns env (st.at σ') fe H' s'.heap := by
  have wr : ∀ b, Wr st.σ H st.lo b → ∃ o, s.heap.get? b = some o ∧ (∀ es ep, o.data ≠ .dict es ep) ∧ (∀ v, o.data ≠ .cell v) := fun b ⟨n, mo, _, e1, e2⟩ => by
    obtain ⟨a, e3, r⟩ := F.sto.at' n mo e1
    rw [e2] at e3; cases e3
    obtain ⟨o, e, d1, d2, _⟩ := r.data
    exact ⟨o, e, d1, d2⟩
  have nsk : ∀ {a m}, s.heap.Ns a m → s'.heap.Ns a m := fun {a m} n => by
    obtain ⟨o, es, ep, e, d, r⟩ := n
    have nw : ¬ Wr st.σ H st.lo a := fun w => by
      obtain ⟨o', e', d', _⟩ := wr a w
      rw [e] at e'; cases e'
      exact d' _ _ d
    obtain ⟨sl, q⟩ := (X.kv a o nw e).2
    exact ⟨_, es, ep, q, d, r⟩
  have clk : ∀ {a v}, s.heap.IsCell a v → s'.heap.IsCell a v := fun {a v} n => by
    obtain ⟨o, e, d⟩ := n
    have nw : ¬ Wr st.σ H st.lo a := fun w => by
      obtain ⟨o', e', _, d'⟩ := wr a w
      rw [e] at e'; cases e'
      exact d' _ d
    obtain ⟨sl, q⟩ := (X.kv a o nw e).2
    exact ⟨_, q, d⟩
  have nvk : ∀ {x v}, NV s.heap env x v → NV s'.heap env x v := fun {x v} n => by
    rcases n with ⟨k1, m, n, e⟩ | ⟨k1, cc, e, n⟩
    · exact .inl ⟨k1, m, nsk n, e⟩
    · exact .inr ⟨k1, cc, e, clk n⟩
  have ownk : ∀ i a vs, H.o i = some a → IsL s.heap a vs → IsL s'.heap a vs := fun i a vs e l => l.at fun o e' => (X.kv a o (fun ⟨n, _, _, _, e2⟩ => (F.own i a e).2.2.1 n e2) e').2
  have fes : ∀ b o, fe.h.get? b = some o → ∃ o', s.heap.get? b = some o' := fun b o e => F.keep.nw (fun b w => F.hlt b (F.hle b (F.wsub b w))) e
  exact {
    keep := fun b o n e => by
      obtain ⟨p1, sl, p2⟩ := F.keep b o n e
      have nw : ¬ Wr st.σ H st.lo b := fun ⟨m, mo, l1, e1, e2⟩ => by
        rcases Nat.lt_or_ge m st.n0 with hl | hl
        · exact n (F.mw m b mo hl l1 e1 e2)
        · rw [F.mnew m b hl e2] at e; cases e
      obtain ⟨q1, sl', q2⟩ := X.kv b _ nw p2
      exact ⟨fun f => (X.kv b o nw (p1 f)).1 f, sl', q2⟩
    wsub := F.wsub
    base := F.base
    baseF := F.baseF
    basew := F.basew
    hle := fun b q => X.hp b (F.hle b q)
    mle := fun n a e => X.mx n a (F.mle n a e)
    mold := fun n a l e => by
      rcases X.mn n a e with e | ⟨z, _⟩
      · exact F.mold n a l e
      · exact absurd (Nat.lt_of_lt_of_le l F.n0le) (Nat.not_lt.mpr z)
    mnew := fun n a l e => by
      rcases X.mn n a e with e | ⟨_, z⟩
      · exact F.mnew n a l e
      · cases q : fe.h.get? a with
        | none => rfl
        | some o => obtain ⟨o', e'⟩ := fes a o q; rw [z] at e'; cases e'
    mw := fun n a mo l l' q e => by
      have hl := Nat.lt_of_lt_of_le l F.n0le
      obtain ⟨mo', q'⟩ := X.rv n mo hl q
      rcases X.mn n a e with e | ⟨z, _⟩
      · exact F.mw n a mo' l l' q' e
      · exact absurd hl (Nat.not_lt.mpr z)
    hlt := X.live
    felt := F.felt
    wlt := F.wlt
    kind := F.kind
    glob := F.glob
    bi := F.bi
    code := F.code
    ns := let ⟨m, n⟩ := F.ns; ⟨m, nsk n⟩
    hl := X.hp _ F.hl
    lnew := F.lnew
    hc := fun x cc a b => ⟨X.hp _ (F.hc x cc a b).1, (F.hc x cc a b).2⟩
    cl := fun x q => let ⟨cc, v, e, n⟩ := F.cl x q; ⟨cc, v, e, clk n⟩
    capart := F.capart
    vals := fun i x t a b => let ⟨v, n, r⟩ := F.vals i x t a b; ⟨v, nvk n, r.mono (X.vis F.sto) (fun a e => by rw [X.o]; exact e) fun a vs e l => ownk i a vs e l⟩
    own := fun i a e => by
      rw [X.o] at e
      obtain ⟨p, q, r, vs, l⟩ := F.own i a e
      refine ⟨X.hp a p, q, fun n z => ?_, vs, ownk i a vs e l⟩
      rcases X.mn n a z with z | ⟨_, z⟩
      · exact r n z
      · obtain ⟨o, _, e', _⟩ := l; rw [z] at e'; cases e'
    oinj := fun i j a => by rw [X.o]; exact F.oinj i j a
    sto := X.sto
    mh0 := fun n a e => by
      rcases X.mn n a e with e | ⟨_, z⟩
      · exact F.mh0 n a e
      · cases q : c.h0.get? a with
        | none => rfl
        | some o => obtain ⟨o', e'⟩ := fes a o (F.base a o q); rw [z] at e'; cases e'
    n0le := Nat.le_trans F.n0le X.len }

theorem RepO.derefS {c : Cx} {Fr : Addr → Prop} {ns : List Str} {env : Env} {st : Fs} {fe : FE} {H : Hd} {h : Heap} (F : Fm c Fr ns env st fe H h) (hlen : st.ρ.length = ns.length) {w : Value} : ∀ {v : OV}, RepW H (vis h H) w v → RepO h H w (derefS st.ρ st.σ v)
  | .av x, r => RepO.deref F.sto r
  | .own i, ⟨a, e, q⟩ => by
    unfold Mine.derefS
    dsimp only
    split
    · rename_i xs hs
      have hi : i < ns.length := by
        rcases Nat.lt_or_ge i st.ρ.length with h | h
        · omega
        · rw [List.getElem?_eq_none h] at hs; cases hs
      obtain ⟨v, n, z, a', vs, e', o', l, r⟩ := F.vals i _ _ (List.getElem?_eq_getElem hi) hs
      rw [e] at o'; cases o'
      exact ⟨z, a, vs, q, l, r⟩
    · simp [RepO, Rep]
theorem RepOL.derefS {c : Cx} {Fr : Addr → Prop} {ns : List Str} {env : Env} {st : Fs} {fe : FE} {H : Hd} {h : Heap} (F : Fm c Fr ns env st fe H h) (hlen : st.ρ.length = ns.length) : ∀ {ws : List Value} {vs : List OV}, RepWL H (vis h H) ws vs → RepOL h H ws (vs.map (Mine.derefS st.ρ st.σ))
  | [], [], _ => trivial
  | [], _ :: _, r => r.elim
  | _ :: _, [], r => r.elim
  | _ :: _, _ :: _, r => ⟨RepO.derefS F hlen r.1, RepOL.derefS F hlen r.2⟩
theorem plains_rep {H : Hd} {R : Vw} : ∀ {vs : List OV} {ws : List Value} {xs : List AV}, RepWL H R ws vs → plains vs = some xs → RepL R ws xs
  | [], [], xs, _, h => by simp only [plains, Option.some.injEq] at h; subst h; simp [RepL]
  | [], _ :: _, _, r, _ => r.elim
  | _ :: _, [], _, r, _ => r.elim
  | .av x :: vs, w :: ws, xs, r, h => by
    simp only [plains, Option.map_eq_some_iff] at h
    obtain ⟨ys, h1, rfl⟩ := h
    simp only [RepL]
    exact ⟨r.1, plains_rep r.2 h1⟩
  | .own _ :: _, _ :: _, _, _, h => by simp [plains] at h

/-- an expression comes to what is told of it -/
structure PrOk (c : Cx) (q : Bool) (A : Around) (lo : Nat) (σ : Store) (H : Hd) (ex : Expr) (env : Env) (p : PR) (s : Shared) : Prop where
  v : Ev c q A lo σ H (eval ex env) p.v s
  t : EvB c A lo σ H (isTrue ex env (eval ex env)) p.t s

section
variable {c : Cx} {q : Bool} {k : Nat} {A : Around} {lo : Nat} {σ : Store} {H : Hd} {s : Shared}

theorem Ev.bindK {t : Sem Value} {r : ER} {f : OV → Store → ER} {Q E Q' : Value → Shared → Prop} (X : Ev c q A lo σ H t r s) (P : PostE q A lo σ H (r.bind f) s Q E)
    (h : ∀ v σ₁, r = .ok v σ₁ → ∀ w H₁ s₁, Ss A lo σ H s σ₁ H₁ s₁ → RepW H₁ (vis s₁.heap H₁) w v → PostE q A lo σ₁ H₁ (f v σ₁) s₁ Q E → Q' w s₁) : wpAny c.M A t Q' E s := by
  cases r with
  | ok v σ₁ => exact X _ _ fun w H₁ s₁ x r => h v σ₁ rfl w H₁ s₁ x r (P.ss x)
  | exc x σ₁ => exact X _ _ P
  | stuck => exact P.elim
theorem Ev.bindAK {t : Sem Value} {r : ER} {f : AV → Store → ER} {Q E Q' : Value → Shared → Prop} (X : Ev c q A lo σ H t r s) (P : PostE q A lo σ H (r.bindA f) s Q E)
    (h : ∀ v σ₁, r = .ok (.av v) σ₁ → ∀ w H₁ s₁, Ss A lo σ H s σ₁ H₁ s₁ → Rep (vis s₁.heap H₁) w v → PostE q A lo σ₁ H₁ (f v σ₁) s₁ Q E → Q' w s₁) : wpAny c.M A t Q' E s := by
  cases r with
  | ok v σ₁ =>
    cases v with
    | av v => exact X _ _ fun w H₁ s₁ x r => h v σ₁ rfl w H₁ s₁ x r (PostE.ss (r := f v σ₁) P x)
    | own i => exact P.elim
  | exc x σ₁ => exact X _ _ P
  | stuck => exact P.elim
theorem EvL.onK {t : Sem (List Value)} {r : Option (List OV × Store)} {f : List OV → Store → ER} {Q E : Value → Shared → Prop} {Q' : List Value → Shared → Prop} (X : EvL c A lo σ H t r s) (P : PostE q A lo σ H (onL r f) s Q E)
    (h : ∀ l σ₁, r = some (l, σ₁) → ∀ ws H₁ s₁, Ss A lo σ H s σ₁ H₁ s₁ → RepWL H₁ (vis s₁.heap H₁) ws l → PostE q A lo σ₁ H₁ (f l σ₁) s₁ Q E → Q' ws s₁) : wpAny c.M A t Q' E s := by
  cases r with
  | none => exact P.elim
  | some p =>
    obtain ⟨l, σ₁⟩ := p
    exact X l σ₁ rfl _ _ fun ws H₁ s₁ x r => h l σ₁ rfl ws H₁ s₁ x r (PostE.ss (r := f l σ₁) P x)
theorem EvL.onPK {t : Sem (List Value)} {r : Option (List OV × Store)} {f : List AV → Store → ER} {Q E : Value → Shared → Prop} {Q' : List Value → Shared → Prop} (X : EvL c A lo σ H t r s) (P : PostE q A lo σ H (onP r f) s Q E)
    (h : ∀ l σ₁ ol, r = some (ol, σ₁) → plains ol = some l → ∀ ws H₁ s₁, Ss A lo σ H s σ₁ H₁ s₁ → RepL (vis s₁.heap H₁) ws l → PostE q A lo σ₁ H₁ (f l σ₁) s₁ Q E → Q' ws s₁) : wpAny c.M A t Q' E s := by
  refine X.onK P fun ol σ₁ e ws H₁ s₁ x rr P' => ?_
  cases hp : plains ol with
  | none => rw [hp] at P'; exact P'.elim
  | some l => rw [hp] at P'; exact h l σ₁ ol e hp ws H₁ s₁ x (plains_rep rr hp) P'
theorem starEach_cons {env : Env} {e : Expr} {es : List Expr} (h : ∀ x z, e ≠ .Starred x z) : starEach (e :: es) env = (false, eval e env) :: starEach es env := by
  cases e <;> first | rfl | exact absurd rfl (h _ _)
/-- a pure end -/
theorem PostE.res {r : Res} {Q E : Value → Shared → Prop} (P : PostE q A lo σ H (ofRes r σ) s Q E) (S : Sto σ H s.heap) (L : Live H s.heap) : Post q A H r s Q E := by
  cases r with
  | ok v => exact fun w s' k r => P w H s' (.of_kp k S L) r
  | exc x => exact ⟨P.1, fun e s' X => P.2 e H s s' (.of_kp (Kp.refl _ _) S L) X⟩
  | stuck => exact P
end

section
variable {c : Cx} {O : OpsF} (OK : OpsOk c O) {q : Bool} {k : Nat} {A : Around} {H : Hd} {env : Env} {s : Shared} {ns : List Str} {st : Fs} {fe : FE}
include OK
theorem isT_value {ex : Expr} {r : ER} (hm : Rm c q (k + 1) A s.heap) (F : Fm c (FrA A) ns env st fe H s.heap) (hlen : st.ρ.length = ns.length) (X : Ev c q A st.lo st.σ H (eval ex env) r s)
    (he : isTrue ex env (eval ex env) = (do let v ← eval ex env; standAt ex.pos; holding [v] (truthy v))) : EvB c A st.lo st.σ H (isTrue ex env (eval ex env)) (r.truth O.truth st.ρ) s := fun b σ' ht Q E P => by
  cases r with
  | exc _ _ => cases ht
  | stuck => cases ht
  | ok v σ₁ =>
    simp only [ER.truth, Option.map_eq_some_iff, Prod.mk.injEq] at ht
    obtain ⟨b', ht, rfl, rfl⟩ := ht
    refine wpAny_isTrue_value (X _ _ fun w H₁ s₁ x r₁ => ?_) he
    have F₁ := F.ss x
    exact OK.truth (hm.nf x.nf) F₁.hlt (RepO.derefS F₁ hlen r₁) ht _ _ fun s₂ k₂ => P H₁ s₂ (x.trans (.of_kp k₂ F₁.sto F₁.hlt))
theorem prOk_of {ex : Expr} {r : ER} (hm : Rm c q (k + 1) A s.heap) (F : Fm c (FrA A) ns env st fe H s.heap) (hlen : st.ρ.length = ns.length) (X : Ev c q A st.lo st.σ H (eval ex env) r s)
    (he : isTrue ex env (eval ex env) = (do let v ← eval ex env; standAt ex.pos; holding [v] (truthy v))) : PrOk c q A st.lo st.σ H ex env (.of O.truth st.ρ r) s := ⟨X, isT_value OK hm F hlen X he⟩
end
end Mine
end
section
open PySem PySem.W PyProof.Rows
namespace Mine

/-- more is hidden -/
theorem Fm.hide {c : Cx} {Fr : Addr → Prop} {ns : List Str} {env : Env} {st : Fs} {fe : FE} {H H₂ : Hd} {h h₂ : Heap} (F : Fm c Fr ns env st fe H h) (kk : Kh Fr h h₂) (hH : ∀ b, H.p b → H₂.p b) (hN : ∀ b, H₂.p b → H.p b ∨ h.get? b = none) (hM : H₂.m = H.m) (hO : H₂.o = H.o) (hL : Live H₂ h₂) : Fm c Fr ns env st fe H₂ h₂ :=
  let G := F.step kk
  { keep := G.keep, wsub := G.wsub, base := G.base, baseF := G.baseF, basew := G.basew, hle := fun b z => hH b (F.hle b z)
    mle := fun n a e => by rw [hM]; exact F.mle n a e
    mold := fun n a l e => F.mold n a l (by rw [← hM]; exact e)
    mnew := fun n a l e => F.mnew n a l (by rw [← hM]; exact e)
    mw := fun n a mo l l' q e => F.mw n a mo l l' q (by rw [← hM]; exact e)
    hlt := hL, felt := G.felt, wlt := G.wlt, kind := G.kind, glob := G.glob, bi := G.bi, code := G.code, ns := G.ns, hl := hH _ G.hl, lnew := G.lnew
    hc := fun x cc y z => ⟨hH _ (G.hc x cc y z).1, (G.hc x cc y z).2⟩, cl := G.cl, capart := G.capart
    vals := fun i x t a b => let ⟨v, n, r⟩ := F.vals i x t a b; ⟨v, n.kh kk, r.mono (vis_new kk hN fun n a e => by rw [hM]; exact e) (fun a e => by rw [hO]; exact e) fun a vs _ l => kk.isL l⟩
    own := fun i a e => by
      rw [hO] at e
      obtain ⟨p, q, r, vs, l⟩ := F.own i a e
      exact ⟨hH a p, q, fun n => by rw [hM]; exact r n, vs, kk.isL l⟩
    oinj := fun i j a => by rw [hO]; exact F.oinj i j a
    sto := F.sto.new kk hH hN hM
    mh0 := fun n a e => F.mh0 n a (by rw [← hM]; exact e)
    n0le := F.n0le }

section
variable {c : Cx} {O : OpsF} (OK : OpsOk c O) {q : Bool} {k : Nat} {A : Around} {H : Hd} {env : Env} {ns : List Str} {st : Fs} {fe : FE} {s : Shared}

theorem stays_ns {a b : Heap} (k : a.StaysIn b) {d : Addr} {m : Str → Option Value} (n : a.Ns d m) : b.Ns d m := let ⟨o, es, ep, e, r⟩ := n; ⟨o, es, ep, k _ _ e, r⟩

theorem ld_glob {x : Str} {pos : Pos} {v : Value} {Q E : Value → Shared → Prop} (F : Fm c (FrA A) ns env st fe H s.heap) (hk : env.kindOf x = some .globalImplicit) (hd : (x == ("__debug__" : Str)) = false) (hv : c.mg x = some v) (h : Q v s) :
    wpAny c.M A (eval (.Name x pos) env) Q E s :=
  Calls.Name_function_global F.kind hk (Calls.loadGlobal_global (by rw [F.glob]; exact stays_ns F.base' c.g) hv h) hd
theorem ld_boot {x : Str} {pos : Pos} {v : Value} {Q E : Value → Shared → Prop} (F : Fm c (FrA A) ns env st fe H s.heap) (hk : env.kindOf x = some .globalImplicit) (hd : (x == ("__debug__" : Str)) = false) (hn : x ≠ "__name__") (hf : c.mg x = none) (hv : bootBuiltins x = some v) (h : Q v s) :
    wpAny c.M A (eval (.Name x pos) env) Q E s :=
  Calls.Name_function_global F.kind hk (Calls.loadGlobal_builtin (by rw [F.glob]; exact stays_ns F.base' c.g) hf (by rw [F.bi]; exact stays_ns F.base' c.b) ((c.builtins x hn).trans hv) h) hd

include OK
theorem ev_listcomp {elt iter : Expr} {x : Str} {px pos : Pos} {ifs : List Expr} {scope : Scope} {caps : List Nat} {r : ER} {f : Store → AV → Option (Option AV)} (hq : q = true) (hm : Rm c q (k + 1) A s.heap) (F : Fm c (FrA A) ns env st fe H s.heap) (hlen : st.ρ.length = ns.length)
    (K : CompOk ns env scope x caps) (hs : ∀ x, foldedSetIterable iter env x = pure x) (X : Ev c q A st.lo st.σ H (eval iter env) r s) (T : ∀ σ₁, TurnOk c q (k + 1) A ns env (st.at σ₁) fe scope x caps elt ifs (f σ₁)) :
    Ev c q A st.lo st.σ H (eval (.ListComp elt [⟨.Name x px, iter, ifs, 0⟩] scope pos) env) (r.bind fun a σ₁ => onItems (O.items (derefS st.ρ σ₁ a)) fun l => onItems (mapF (f σ₁) l) fun ys => .ok (.av (.lst ys)) σ₁) s := fun Q E P => by
  obtain ⟨cl, hclos, hcl1, hcl2⟩ := closureFor_ok (env := env) (scope := scope) fun y hy => by
    obtain ⟨cc, _, e, _⟩ := F.cl y (K.free y hy)
    rw [e]; rfl
  rw [eval_ListComp]
  refine wpAny_comprehension_free (use := none) rfl hs hclos K.kind K.loc (X.bindK P fun a σ₁ hr xv H₁ s₁ x₁ r₁ P₁ => ?_)
  have F₁ := F.ss x₁
  have hm₁ := hm.nf x₁.nf
  cases hit : O.items (derefS st.ρ σ₁ a) with
  | none => rw [hit] at P₁; exact P₁.elim
  | some l =>
  rw [hit] at P₁
  simp only [onItems] at P₁
  cases hf : mapF (f σ₁) l with
  | none => rw [hf] at P₁; exact P₁.elim
  | some ys =>
  rw [hf] at P₁
  refine OK.items hm₁ hq F₁.hlt (RepO.derefS F₁ hlen r₁) hit _ _ fun I fp PP St h' tk hk hI hfI hl _ hsz W hst hP => ?_
  refine comp_core (RR := fun acc C => compPost c.M A E none Q acc C) (s₁ := s₁) (st := st.at σ₁) hm₁ F₁ hlen K hcl1 hcl2 ⟨_, _, rfl⟩ hk hI hl hfI W hst hsz hP hf (T σ₁) ?_
  intro D C h'' tk' m' vs hD hC hDC hn hl hr hkv
  refine ⟨m', hn, fun h₃ hs₃ => P₁ _ H₁ _ (.of_kp ⟨h₃, tk', rfl, ?_⟩ F₁.sto F₁.hlt) ?_⟩
  · have k1 : Kh (FrA A) s₁.heap h'' := (Kh.of_keeps hk).trans' hkv fun b o e z => by rw [z, hI] at e; cases e
    refine k1.trans' (Kv.of_sameBut (W := fun b => b = C) hs₃ rfl) fun b o e z => ?_
    have := hk b o e
    rw [z, hC] at this; cases this
  · simp only [RepW, Rep]
    have hl₃ : IsL h₃ D vs := hl.at' fun o e => hs₃.extBut D o hDC e
    obtain ⟨o, n, e, c1, d1, f1⟩ := hl₃
    refine ⟨Nat.le_trans (mapF_length hf) hsz, D, vs, n, rfl, ⟨fun z => ?_, o, e, c1, d1, f1, .inl rfl, fun ⟨_, z⟩ => by cases z⟩, ?_⟩
    · obtain ⟨o', e'⟩ := F₁.hlt D z
      have := hk D o' e'
      rw [hD] at this; cases this
    · have r2 := RepL.mono ((Kv.of_sameBut (F := FrA A) (W := fun b => b = C) hs₃ rfl).vis (H := H₁.add fun b => b = C ∨ b = D ∨ b = I) fun b z => .inr (.inl z)) hr
      exact RepL.mono (vis_hide (H := H₁) (H' := H₁.add fun b => b = C ∨ b = D ∨ b = I) (fun b z => .inl z) fun n a e => e) r2
end
/-- behind a thing made anew, hidden while the rest is reckoned, and filled -/
theorem fresh_ss {c : Cx} {A : Around} {ns : List Str} {env : Env} {st : Fs} {fe : FE} {H H₁ : Hd} {s s₁ s₂ : Shared} {hp : Heap} {a : Addr} {σ₁ : Store} (F : Fm c (FrA A) ns env st fe H s.heap) (k0 : Kp A s { s with heap := hp }) (hnew : s.heap.get? a = none) (ea : ∃ o, hp.get? a = some o)
    (x₁ : Ss A st.lo st.σ (H.add fun b => b = a) { s with heap := hp } σ₁ H₁ s₁) (hr : ∃ h' tk, s₂ = { s₁ with heap := h', toks := tk }) (hs : ∀ b o, b ≠ a → s₁.heap.get? b = some o → s₂.heap.get? b = some o) : Ss A st.lo st.σ H s σ₁ ⟨fun b => H₁.p b ∧ b ≠ a, H₁.m, H₁.o⟩ s₂ := by
  have hnH : ¬ H.p a := fun z => by
    obtain ⟨o', e'⟩ := F.hlt _ z
    rw [hnew] at e'; cases e'
  have nea : ∀ {b o}, s.heap.get? b = some o → b ≠ a := fun {b o} e z => by rw [z, hnew] at e; cases e
  have live1 : ∀ n b mo, σ₁[n]? = some (some mo) → H₁.m n = some b → b ≠ a := fun n b mo e1 e2 z => by
    subst z
    rcases x₁.mn n b e2 with e | ⟨_, e⟩
    · obtain ⟨mo', e3⟩ := x₁.rv n mo (x₁.hm0 n b e) e1
      exact hnH (F.sto.hid n b mo' e3 e)
    · obtain ⟨o, e'⟩ := ea
      have e : hp.get? b = none := e
      rw [e'] at e; cases e
  have le : (vis s₁.heap H₁).Le (vis s₂.heap ⟨fun b => H₁.p b ∧ b ≠ a, H₁.m, H₁.o⟩) := ⟨by
    rintro x c d ⟨n, o, e, r⟩
    refine ⟨fun z => n z.1, o, hs x o (fun z => n (z ▸ x₁.hp a (.inr rfl))) e, r⟩, fun _ _ e => e⟩
  have kv2 : Kv (FrA A) (fun b => b = a) s₁.heap s₂.heap := Kv.of_but (fun b o n e => hs b o n e) rfl
  exact {
    rest := by
      obtain ⟨h', tk, rfl⟩ := hr
      obtain ⟨h'', tk', rfl⟩ := x₁.rest
      exact ⟨h', tk, rfl⟩
    kv := fun b o n e => by
      have nb := nea e
      obtain ⟨p1, sl, p2⟩ := k0.kh b o e
      obtain ⟨q1, sl', q2⟩ := x₁.kv b _ n p2
      exact ⟨fun f => hs b _ nb ((x₁.kv b o n (p1 f)).1 f), sl', hs b _ nb q2⟩
    lv := fun b o e => by
      obtain ⟨_, sl, p2⟩ := k0.kh b o e
      obtain ⟨o', e'⟩ := x₁.lv b _ p2
      exact ⟨o', hs b o' (nea e) e'⟩
    nf := fun b o e nf => by
      obtain ⟨o', e', n'⟩ := (k0.kh.nf.trans x₁.nf) b o e nf
      exact ⟨o', hs b o' (nea e) e', n'⟩
    hp := fun b z => ⟨x₁.hp b (.inl z), fun y => hnH (y ▸ z)⟩
    hid := fun b z => by
      rcases x₁.hid b z.1 with y | y
      · exact .inl (y.resolve_right z.2)
      · exact .inr (none_back k0.kh y)
    mx := fun n b e => x₁.mx n b e
    mn := fun n b e => (x₁.mn n b e).imp id fun ⟨y, z⟩ => ⟨y, none_back k0.kh z⟩
    o := x₁.o
    sto := ⟨fun n mo e => by
        obtain ⟨b, e1, r⟩ := x₁.sto.at' n mo e
        exact ⟨b, e1, r.kv kv2 (live1 n b mo e e1) le⟩, x₁.sto.inj, x₁.sto.lt, fun n b mo e e1 => ⟨x₁.sto.hid n b mo e e1, live1 n b mo e e1⟩, fun n b e => by
        obtain ⟨o, e'⟩ := x₁.sto.al n b e
        refine ⟨o, hs b o (fun z => ?_) e'⟩
        subst z
        rcases x₁.mn n b e with e | ⟨_, e⟩
        · obtain ⟨o', e''⟩ := F.sto.al n b e
          rw [hnew] at e''; cases e''
        · obtain ⟨o', e''⟩ := ea
          have e : hp.get? b = none := e
          (rw [e''] at e; cases e), x₁.sto.tot⟩
    live := fun b z => by
      obtain ⟨o, e⟩ := x₁.live b z.1
      exact ⟨o, hs b o z.2 e⟩
    len := x₁.len
    rv := x₁.rv
    hm0 := fun n b e => x₁.hm0 n b e }

/-- a display of one thing -/
theorem display_one {prog : Program} {w : World} {A : Around} {E : Value → Shared → Prop} {s : Shared} {b : Bool} {t : Sem Value} {Q : Value → Shared → Prop}
    (h : wpAny (model prog w) A t (fun v s' => wpAny (model prog w) A (setAdd s.heap.objs.size v) (fun _ s'' => Q (.ref s.heap.objs.size) s'') E s') E { s with heap := s.heap.push (setObj "set" (ldW w)) }) :
    wpAny (model prog w) A (setDisplay .oneByOne b [(false, t)]) Q E s := by
  unfold setDisplay
  rw [if_neg (by decide)]
  refine wpAny_bind (newSet_T ?_)
  dsimp only
  refine wpAny_bind (wpAny_holding ?_)
  refine wpAny_bind (m := evalAll [t]) ?_
  show wpAny _ _ (t >>= fun v => holding [v] (evalAll []) >>= fun r => pure (v :: r)) _ _ _
  refine wpAny_bind (wpAny_mono h (fun v s' h' => ?_) fun _ _ e => e)
  refine wpAny_bind (wpAny_holding (wpAny_pure (wpAny_pure ?_)))
  refine wpAny_bind (wpAny_holding ?_)
  refine wpAny_bind ?_
  rw [List.forIn_cons]
  refine wpAny_bind (wpAny_bind (wpAny_mono h' (fun _ s2 h2 => wpAny_pure ?_) fun _ _ e => e))
  dsimp only
  rw [List.forIn_nil]
  refine wpAny_pure ?_
  rw [if_neg (by decide)]
  refine wpAny_pure ?_
  refine wpAny_bind (m := forIn (m := Sem) ([] : List (Bool × Sem Value)) PUnit.unit _) ?_
  rw [List.forIn_nil]
  exact wpAny_pure (wpAny_pure (wpAny_pure h2))

section
variable {c : Cx} {q : Bool} {k : Nat} {A : Around} {H : Hd} {env : Env} {ns : List Str} {st : Fs} {fe : FE} {s : Shared}
theorem ev_setd {x : Expr} {pos : Pos} {r : ER} (hm : Rm c q (k + 1) A s.heap) (F : Fm c (FrA A) ns env st fe H s.heap) (hx : ∀ y z, x ≠ .Starred y z) (X : ∀ s' H', Kp A s s' → Fm c (FrA A) ns env st fe H' s'.heap → Ev c q A st.lo st.σ H' (eval x env) r s') :
    Ev c q A st.lo st.σ H (eval (.Set [x] 0 pos) env) (r.bindA fun a σ₁ => match a with | .int i => (if 0 ≤ i ∧ i < 32 then .ok (.av (.set false (ldW c.w) [i])) σ₁ else .stuck) | _ => .stuck) s := fun Q E P => by
  rw [arm_eval_Set]
  refine wpAny_bind (wpAny_standAt ?_)
  have main : ∀ (Q' : Bool → Shared → Prop), (∀ b, Q' b s) → wpAny c.M A (inMainModule env) Q' E s := fun Q' h => by
    obtain ⟨cd, o, vs, e, ho, hd⟩ := F.code
    unfold inMainModule
    rw [e]
    split
    · exact wpAny_pure (h _)
    · refine wpAny_bind (wpAny_fieldsOf (F.base' cd o ho) hd ?_)
      split
      · exact wpAny_bind (wpAny_askSetting (wpAny_pure (h _)))
      · exact wpAny_pure (h _)
  refine wpAny_bind (main _ fun b => ?_)
  have hst : starEach [x] env = [(false, eval x env)] := by rw [starEach_cons hx]; rfl
  rw [hst]
  have road : displayRoad 0 [x] = .oneByOne := by simp [displayRoad]
  rw [road]
  refine display_one (t := do let v ← eval x env; standAt pos; pure v) ?_
  have k0 : Kp A s { s with heap := s.heap.push (setObj "set" (ldW c.w)) } := Kp.push _
  have hnew : s.heap.get? s.heap.objs.size = none := Heap.get?_none_of_le (Nat.le_refl _)
  generalize ha : s.heap.objs.size = a at hnew ⊢
  have hnF : ¬ FrA A a := by
    rintro ⟨l, hl, hb⟩
    obtain ⟨l', hl', ff⟩ := hm.frames
    rw [hl] at hl'; cases hl'
    obtain ⟨_, o, e, _⟩ := ff.mem hb
    rw [hnew] at e; cases e
  have hnH : ¬ H.p a := fun z => by
    obtain ⟨o', e'⟩ := F.hlt _ z
    rw [hnew] at e'; cases e'
  have ea : (s.heap.push (setObj "set" (ldW c.w))).get? a = some (setObj "set" (ldW c.w)) := by rw [← ha]; exact Heap.get?_push_size _ rfl
  generalize hs0 : s.heap.push (setObj "set" (ldW c.w)) = hp at k0 ea ⊢
  have F0 : Fm c (FrA A) ns env st fe (H.add fun b => b = a) hp := F.hide k0.kh (fun b z => .inl z) (fun b z => z.imp id fun (z : b = a) => z ▸ hnew) rfl rfl fun b z => by
    rcases z with z | z
    · obtain ⟨o, e⟩ := F.hlt b z
      obtain ⟨sl, e'⟩ := (k0.kh b o e).2
      exact ⟨_, e'⟩
    · exact ⟨_, z ▸ ea⟩
  refine wpAny_bind ?_
  have X0 := X { s with heap := hp } (H.add fun b => b = a) k0 F0
  -- an exception
  cases hr : r with
  | stuck => rw [hr] at P; exact P.elim
  | exc z σ₁ =>
    rw [hr] at P X0
    refine X0 _ _ ⟨P.1, fun e H' sr s' x₁ Y => P.2 e ⟨fun b => H'.p b ∧ b ≠ a, H'.m, H'.o⟩ sr s' ?_ Y⟩
    exact fresh_ss F k0 hnew ⟨_, ea⟩ x₁ ⟨_, _, rfl⟩ fun b o _ e => e
  | ok v σ₁ =>
  rw [hr] at P X0
  cases v with
  | own i => exact P.elim
  | av av =>
  refine X0 _ _ fun v H₁ s₁ x₁ r₁ => wpAny_bind (wpAny_standAt (wpAny_pure ?_))
  simp only [ER.bindA] at P
  split at P
  case h_2 => exact P.elim
  rename_i i
  split at P
  case isFalse => exact P.elim
  rename_i hi
  simp only [RepW, Rep] at r₁
  obtain ⟨t, rfl⟩ := r₁
  have hnW : ¬ Wr st.σ (H.add fun b => b = a) st.lo a := fun ⟨n, mo, _, e1, e2⟩ => hnH (F.sto.hid n _ mo e1 e2)
  have e1 : s₁.heap.get? a = some (setObj "set" (ldW c.w)) := (x₁.kv _ _ hnW ea).1 (.inl hnF)
  unfold setAdd
  refine wpAny_holding (wpAny_bind ((PySem.intKind c.prog c.w).pyHash (k := i) (by simp [PySem.intKind, Value.isInt]) ?_))
  refine setAddG (s := { s₁ with toks := s₁.toks + 1 }) e1 rfl (SetG.empty 0 0 (ldW c.w)) hi fun h₂ es' ep' t' S2 hg hsb => ?_
  refine P _ ⟨fun b => H₁.p b ∧ b ≠ a, H₁.m, H₁.o⟩ _ (fresh_ss F k0 hnew ⟨_, ea⟩ x₁ ⟨_, _, rfl⟩ fun b o nb e => (hsb.2 b nb).trans e) ?_
  simp only [RepW, Rep]
  exact ⟨_, es', ep', t', rfl, ⟨fun z => z.2 rfl, _, hg, rfl, rfl, rfl, .inr (.inr (.inr (.inl rfl))), fun _ => rfl⟩, S2⟩
end
end Mine
end
section
open PySem PySem.W PyProof.Rows
namespace Mine

theorem encE_notStar {frees : List Str} {fname : Nat → Str} {ks : List (Str × NameKind)} {ns : List Str} {p : PE} {ex : Expr} (h : encE frees fname ks ns p ex = true) : ∀ x z, ex ≠ .Starred x z := by
  rintro x z rfl
  cases p <;> exact Bool.false_ne_true h
theorem encE_notSet {frees : List Str} {fname : Nat → Str} {ks : List (Str × NameKind)} {ns : List Str} {p : PE} {ex : Expr} (h : encE frees fname ks ns p ex = true) (hs : isSetd p = false) (env : Env) : ∀ x, foldedSetIterable ex env x = pure x := by
  intro x
  cases ex <;> first | rfl | (cases p <;> first | exact (Bool.false_ne_true h).elim | exact (Bool.false_ne_true hs.symm).elim)
theorem encE_notSlice {frees : List Str} {fname : Nat → Str} {ks : List (Str × NameKind)} {ns : List Str} {p : PE} {ex : Expr} (h : encE frees fname ks ns p ex = true) : ∀ a b z w, ex ≠ .Slice a b z w := by
  rintro a b z w rfl
  cases p <;> exact Bool.false_ne_true h
theorem subscripted_plain {ex : Expr} (h : ∀ a b z w, ex ≠ .Slice a b z w) (o i : Value) : subscripted ex false o i = operate [o, i] (getItem o i) := by
  cases ex <;> first | rfl | exact absurd rfl (h _ _ _ _)
theorem isGlob_of {ks : List (Str × NameKind)} {x : Str} {env : Env} (hks : env.scope.names = ks) (h : isGlob ks x = true) : env.kindOf x = some .globalImplicit ∧ (x == ("__debug__" : Str)) = false ∧ x ≠ "__name__" := by
  simp only [isGlob, Bool.and_eq_true, Bool.not_eq_true', beq_iff_eq] at h
  refine ⟨?_, h.1.2, by simpa using h.2⟩
  show env.scope.names.lookup x = _
  rw [hks]; exact h.1.1

theorem Rm.down {c : Cx} {q : Bool} {k : Nat} {A : Around} {h : Heap} (X : Rm c q (k + 1) A h) : Rm c q k A h := ⟨by have := X.depth; omega, by have := X.units; omega, X.hand, X.frames⟩
theorem pes_nil {frees : List Str} {fname : Nat → Str} {ks : List (Str × NameKind)} {ns : List Str} {ps : PEs} (h : encEs frees fname ks ns ps [] = true) : ps = .nil := by
  cases ps with
  | nil => rfl
  | cons _ _ => simp [ecs_nil, ecs_cons] at h
theorem encEs_head {frees : List Str} {fname : Nat → Str} {ks : List (Str × NameKind)} {ns : List Str} {ps : PEs} {e : Expr} {es : List Expr} (h : encEs frees fname ks ns ps (e :: es) = true) : ∀ x z, e ≠ .Starred x z := by
  cases ps with
  | nil => simp [ecs_nil, ecs_cons] at h
  | cons p ps => simp only [ecs_nil, ecs_cons, Bool.and_eq_true] at h; exact encE_notStar h.1
theorem star_plain {frees : List Str} {fname : Nat → Str} {ks : List (Str × NameKind)} {ns : List Str} {pos : Pos} {env : Env} : ∀ {ps : PEs} {es : List Expr}, encEs frees fname ks ns ps es = true → (backTo pos (starEach es env)).any (·.1) = false
  | _, [], _ => rfl
  | .nil, _ :: _, h => by simp [ecs_nil, ecs_cons] at h
  | .cons p ps, e :: es, h => by
    have h' := h
    simp only [ecs_nil, ecs_cons, Bool.and_eq_true] at h
    rw [starEach_cons (encEs_head h')]
    show (false || (backTo pos (starEach es env)).any (·.1)) = false
    rw [star_plain h.2]; rfl

/-- a thing that can turn is taken up -/
noncomputable def Hd.put (H : Hd) (n : Nat) (a : Addr) : Hd := ⟨fun b => H.p b ∨ b = a, fun i => if i = n then some a else H.m i, H.o⟩
theorem vis_put {Fr : Addr → Prop} {H : Hd} {h h' : Heap} {n : Nat} {a : Addr} (k : Kh Fr h h') (hnew : h.get? a = none) (hn : H.m n = none) : (vis h H).Le (vis h' (H.put n a)) :=
  vis_new k (fun b z => z.imp id fun (z : b = a) => z ▸ hnew) fun i b e => by
    show (if i = n then some a else H.m i) = some b
    rw [if_neg (fun z => by rw [z, hn] at e; cases e)]; exact e
theorem adopt_ss {A : Around} {lo : Nat} {σ : Store} {H : Hd} {s s' : Shared} {a : Addr} {mo : MO} (S : Sto σ H s.heap) (L : Live H s.heap) (k : Kp A s s') (hnew : s.heap.get? a = none) (r : RepM s'.heap (vis s'.heap (H.put σ.length a)) a mo) :
    Ss A lo σ H s (σ ++ [some mo]) (H.put σ.length a) s' := by
  have hn : H.m σ.length = none := by
    cases e : H.m σ.length with
    | none => rfl
    | some b => have := S.lt _ _ e; omega
  have le := vis_put (H := H) (n := σ.length) k.kh hnew hn
  have mget : ∀ i b, (H.put σ.length a).m i = some b → (i = σ.length ∧ b = a) ∨ (i ≠ σ.length ∧ H.m i = some b) := fun i b e => by
    have e : (if i = σ.length then some a else H.m i) = some b := e
    split at e
    · cases e; exact .inl ⟨by assumption, rfl⟩
    · exact .inr ⟨by assumption, e⟩
  have mold : ∀ i b, H.m i = some b → (H.put σ.length a).m i = some b := fun i b e => le.m i b e
  have olda : ∀ i b mo, σ[i]? = some (some mo) → H.m i = some b → b ≠ a := fun i b mo e1 e2 z => by
    subst z
    obtain ⟨o, e⟩ := L b (S.hid i b mo e1 e2)
    rw [hnew] at e; cases e
  obtain ⟨oa, ea, _⟩ := r.data
  exact {
    rest := let ⟨h, t, e, _⟩ := k; ⟨h, t, e⟩
    kv := k.kh.kv
    lv := fun b o e => let ⟨_, q⟩ := (k.kh b o e).2; ⟨_, q⟩
    nf := k.kh.nf
    hp := fun b z => .inl z
    hid := fun b z => z.imp id fun (z : b = a) => z ▸ hnew
    mx := mold
    mn := fun i b e => by
      rcases mget i b e with ⟨rfl, rfl⟩ | ⟨_, e⟩
      · exact .inr ⟨Nat.le_refl _, hnew⟩
      · exact .inl e
    o := rfl
    sto := ⟨fun i mo' e => by
        rcases Nat.lt_or_ge i σ.length with hl | hl
        · rw [List.getElem?_append_left hl] at e
          obtain ⟨b, e1, r1⟩ := S.at' i mo' e
          exact ⟨b, mold i b e1, r1.kv (k.kh.kv (W := fun _ => False)) id le⟩
        · rw [List.getElem?_append_right hl] at e
          have hi : i = σ.length := by
            rcases Nat.lt_or_ge (i - σ.length) 1 with h | h
            · omega
            · rw [List.getElem?_eq_none (by simpa using h)] at e; cases e
          subst hi
          simp at e
          subst e
          exact ⟨a, if_pos rfl, r⟩, fun i j b e1 e2 => by
        rcases mget i b e1 with ⟨rfl, rfl⟩ | ⟨n1, f1⟩ <;> rcases mget j b e2 with ⟨rfl, e3⟩ | ⟨n2, f2⟩
        · rfl
        · obtain ⟨o, e⟩ := S.al j b f2; rw [hnew] at e; cases e
        · obtain ⟨o, e⟩ := S.al i b f1; rw [e3, hnew] at e; cases e
        · exact S.inj i j b f1 f2, fun i b e => by
        rw [List.length_append]
        rcases mget i b e with ⟨rfl, _⟩ | ⟨_, e⟩
        · simp
        · have := S.lt i b e; simp; omega, fun i b mo' e e1 => by
        rcases mget i b e1 with ⟨_, rfl⟩ | ⟨n1, e1⟩
        · exact .inr rfl
        · have hl := S.lt i b e1
          rw [List.getElem?_append_left hl] at e
          exact .inl (S.hid i b mo' e e1), fun i b e => by
        rcases mget i b e with ⟨_, rfl⟩ | ⟨_, e⟩
        · exact ⟨oa, ea⟩
        · obtain ⟨o, e'⟩ := S.al i b e
          obtain ⟨sl, e''⟩ := (k.kh b o e').2
          exact ⟨_, e''⟩, fun i b e => by
        rcases mget i b e with ⟨rfl, _⟩ | ⟨_, e⟩
        · exact ⟨mo, by simp⟩
        · obtain ⟨mo', e'⟩ := S.tot i b e
          exact ⟨mo', by rw [List.getElem?_append_left (S.lt i b e)]; exact e'⟩⟩
    live := fun b z => by
      rcases z with z | z
      · exact L.kp k b z
      · exact ⟨oa, z ▸ ea⟩
    len := by simp
    rv := fun i mo' hl e => by rw [List.getElem?_append_left hl] at e; exact ⟨mo', e⟩
    hm0 := S.lt }

end Mine
end
section
open PySem PySem.W PyProof.Rows
namespace Mine
set_option linter.unusedVariables false
/- comprehensions that make sets and dicts -/
section
variable {prog : Program} {w : World} {A : Around} {E : Value → Shared → Prop} {R : Result → Shared → Prop} {s : Shared}
end
section
variable {c : Cx} {A : Around}
end
section
variable {c : Cx} {O : OpsF} (OK : OpsOk c O) {q : Bool} {k : Nat} {A : Around} {H : Hd} {env : Env} {ns : List Str} {st : Fs} {fe : FE} {s : Shared}
include OK
end
end Mine
end
section
open PySem PySem.W PyProof.Rows
set_option linter.unusedVariables false
set_option linter.unusedSectionVars false
namespace Mine
theorem mapF_int {f : AV → Option (Option AV)} : ∀ {l ys : List AV}, mapF (fun x => intF (f x)) l = some ys → mapF f l = some ys ∧ ys = (intsOf ys).map AV.int
  | [], ys, h => by
    simp only [mapF, Option.some.injEq] at h
    subst h; exact ⟨rfl, rfl⟩
  | x :: l, ys, h => by
    rw [mapF] at h ⊢
    cases hf : f x with
    | none => rw [hf] at h; simp [intF] at h
    | some r =>
      rw [hf] at h
      cases r with
      | none => exact mapF_int h
      | some y =>
        cases y with
        | int i =>
          have h : (mapF (fun x => intF (f x)) l).map (AV.int i :: ·) = some ys := h
          dsimp only
          cases hr : mapF (fun x => intF (f x)) l with
          | none => rw [hr] at h; cases h
          | some zs =>
            rw [hr] at h
            simp only [Option.map_some, Option.some.injEq] at h
            subst h
            obtain ⟨h1, h2⟩ := mapF_int hr
            rw [h1]
            exact ⟨rfl, congrArg (AV.int i :: ·) h2⟩
        | _ => cases h
theorem mapF_perm {f : AV → Option (Option AV)} {l l' : List AV} (p : l'.Perm l) : ∀ {ys : List AV}, mapF f l = some ys → ∃ ys', mapF f l' = some ys' ∧ ys'.Perm ys := by
  induction p with
  | nil => intro ys h; exact ⟨ys, h, List.Perm.refl _⟩
  | cons x p ih =>
    intro ys h
    rw [mapF] at h ⊢
    cases hf : f x with
    | none => rw [hf] at h; cases h
    | some r =>
      rw [hf] at h
      cases r with
      | none => exact ih h
      | some y =>
        dsimp only at h ⊢
        rename_i l₁ l₂
        cases hr : mapF f l₂ with
        | none => rw [hr] at h; cases h
        | some zs =>
          rw [hr] at h
          simp only [Option.map_some, Option.some.injEq] at h
          subst h
          obtain ⟨zs', e, q⟩ := ih hr
          exact ⟨y :: zs', by rw [e]; rfl, q.cons y⟩
  | swap x y l =>
    intro ys h
    rw [mapF, mapF] at h ⊢
    cases hx : f x with
    | none => rw [hx] at h; cases h
    | some rx =>
      cases hy : f y with
      | none =>
        rw [hx, hy] at h
        cases rx <;> cases h
      | some ry =>
        rw [hx, hy] at h
        cases rx <;> cases ry <;> dsimp only at h ⊢
        · exact ⟨ys, h, List.Perm.refl _⟩
        · exact ⟨ys, h, List.Perm.refl _⟩
        · exact ⟨ys, h, List.Perm.refl _⟩
        · rename_i a b
          cases hr : mapF f l with
          | none => rw [hr] at h; cases h
          | some zs =>
            rw [hr] at h
            simp only [Option.map_some, Option.some.injEq] at h
            subst h
            exact ⟨_, rfl, List.Perm.swap ..⟩
  | trans p₁ p₂ ih₁ ih₂ =>
    intro ys h
    obtain ⟨y2, e2, q2⟩ := ih₂ h
    obtain ⟨y1, e1, q1⟩ := ih₁ e2
    exact ⟨y1, e1, q1.trans q2⟩
theorem perm_ints {ys' ys : List AV} (p : ys'.Perm ys) : (intsOf ys').Perm (intsOf ys) := p.filterMap _
theorem ints_repL {R : Vw} : ∀ {vs : List Value} {ns : List Int}, RepL R vs (ns.map AV.int) → IntsAre vs ns
  | [], [], _ => .nil
  | [], _ :: _, r => by simp [RepL] at r
  | _ :: _, [], r => by simp [RepL] at r
  | v :: vs, n :: ns, r => by
    simp only [List.map_cons, RepL, Rep] at r
    obtain ⟨⟨t, rfl⟩, r⟩ := r
    exact .cons n t (ints_repL r)
section
variable {c : Cx} {q : Bool} {k : Nat} {A : Around} {H : Hd} {env : Env} {ns : List Str} {st : Fs} {fe : FE} {s : Shared} {O : OpsF} (OK : OpsOk c O)
include OK
/-- a comprehension over a set: a list in any row -/
theorem ev_compS {elt iter : Expr} {x : Str} {px pos : Pos} {ifs : List Expr} {scope : Scope} {caps : List Nat} {r : ER} {f : Store → AV → Option (Option AV)} (hq : q = true) (hm : Rm c q (k + 1) A s.heap) (F : Fm c (FrA A) ns env st fe H s.heap) (hlen : st.ρ.length = ns.length)
    (K : CompOk ns env scope x caps) (hs : ∀ x, foldedSetIterable iter env x = pure x) (X : Ev c q A st.lo st.σ H (eval iter env) r s) (T : ∀ σ₁, TurnOk c q (k + 1) A ns env (st.at σ₁) fe scope x caps elt ifs (f σ₁)) :
    Ev c q A st.lo st.σ H (eval (.ListComp elt [⟨.Name x px, iter, ifs, 0⟩] scope pos) env) (r.bind fun a σ₁ => match O.sitems (derefS st.ρ σ₁ a) with
      | some l => onItems (mapF (fun x => intF (f σ₁ x)) (l.map AV.int)) fun ys => .ok (.av (.bag (intsOf ys))) σ₁
      | none => .stuck) s := fun Q E P => by
  obtain ⟨cl, hclos, hcl1, hcl2⟩ := closureFor_ok (env := env) (scope := scope) fun y hy => by
    obtain ⟨cc, _, e, _⟩ := F.cl y (K.free y hy)
    rw [e]; rfl
  rw [eval_ListComp]
  refine wpAny_comprehension_free (use := none) rfl hs hclos K.kind K.loc (X.bindK P fun a σ₁ hr xv H₁ s₁ x₁ r₁ P₁ => ?_)
  have F₁ := F.ss x₁
  have hm₁ := hm.nf x₁.nf
  cases hit : O.sitems (derefS st.ρ σ₁ a) with
  | none => rw [hit] at P₁; exact P₁.elim
  | some l =>
  rw [hit] at P₁
  simp only [onItems] at P₁
  cases hf : mapF (fun x => intF (f σ₁ x)) (l.map AV.int) with
  | none => rw [hf] at P₁; exact P₁.elim
  | some ys =>
  rw [hf] at P₁
  refine OK.sitems hm₁ hq F₁.hlt (RepO.derefS F₁ hlen r₁) hit _ _ fun ls hperm I fp PP St h' tk hk hI hfI hl _ hsz W hst hP => ?_
  obtain ⟨hf1, hf2⟩ := mapF_int hf
  obtain ⟨ys', hf', py⟩ := mapF_perm (hperm.map AV.int) hf1
  have hys' : ys' = (intsOf ys').map AV.int := by
    have hall : ∀ zs : List AV, (∀ z ∈ zs, ∃ i, z = AV.int i) → zs = (intsOf zs).map AV.int := by
      intro zs
      induction zs with
      | nil => intro _; rfl
      | cons z zs ih =>
        intro h
        obtain ⟨i, rfl⟩ := h z List.mem_cons_self
        exact congrArg (AV.int i :: ·) (ih fun w hw => h w (List.mem_cons_of_mem _ hw))
    refine hall ys' fun z hz => ?_
    have h2 := py.mem_iff.mp hz
    rw [hf2] at h2
    obtain ⟨i, _, e⟩ := List.mem_map.mp h2
    exact ⟨i, e.symm⟩
  refine comp_core (RR := fun acc C => compPost c.M A E none Q acc C) (s₁ := s₁) (st := st.at σ₁) hm₁ F₁ hlen K hcl1 hcl2 ⟨_, _, rfl⟩ hk hI hl hfI W hst (by rw [List.length_map]; exact hsz) hP hf' (T σ₁) ?_
  intro D C h'' tk' m' vs hD hC hDC hn hl hr hkv
  refine ⟨m', hn, fun h₃ hs₃ => P₁ _ H₁ _ (.of_kp ⟨h₃, tk', rfl, ?_⟩ F₁.sto F₁.hlt) ?_⟩
  · have k1 : Kh (FrA A) s₁.heap h'' := (Kh.of_keeps hk).trans' hkv fun b o e z => by rw [z, hI] at e; cases e
    refine k1.trans' (Kv.of_sameBut (W := fun b => b = C) hs₃ rfl) fun b o e z => ?_
    have := hk b o e
    rw [z, hC] at this; cases this
  · simp only [RepW, Rep]
    have hl₃ : IsL h₃ D vs := hl.at' fun o e => hs₃.extBut D o hDC e
    obtain ⟨o, n, e, c1, d1, f1⟩ := hl₃
    rw [hys'] at hr
    have hlen1 := mapF_length hf'
    rw [List.length_map] at hlen1
    have hl2 : (intsOf ys').length = ys'.length := by
      have := congrArg List.length hys'
      rw [List.length_map] at this
      exact this.symm
    refine ⟨intsOf ys', D, vs, n, perm_ints py, by omega, rfl, ⟨fun z => ?_, o, e, c1, d1, f1, .inl rfl, fun ⟨_, z⟩ => by cases z⟩, ints_repL hr⟩
    obtain ⟨o', e'⟩ := F₁.hlt D z
    have := hk D o' e'
    rw [hD] at this; cases this
end
end Mine
end
section
open PySem PySem.W PyProof.Rows
set_option maxHeartbeats 2000000
set_option linter.unusedVariables false
set_option linter.unusedSectionVars false
namespace Mine

theorem star_all {frees : List Str} {fname : Nat → Str} {ks : List (Str × NameKind)} {ns : List Str} {pos : Pos} {env : Env} {ps : PEs} {es : List Expr} (h : encEs frees fname ks ns ps es = true) (hl : es.length < 20) :
    ((backTo pos (starEach es env)).all (fun x => !x.1) && (backToKw pos (keywordEach [] env)).all (fun x => x.1.isSome) && decide (es.length + ([] : List Keyword).length + (if ([] : List Keyword).isEmpty then 0 else 1) < 30)) = true := by
  have h1 := star_plain (pos := pos) (env := env) h
  have h2 : (backTo pos (starEach es env)).all (fun x => !x.1) = true := by
    rw [List.all_eq_true]
    intro x hx
    rw [List.any_eq_false] at h1
    have := h1 x hx
    simpa using this
  rw [h2]
  simp [keywordEach, backToKw]
  omega

theorem emeth_plain : PlainAttrs "list" := PySem.F.plainAttrs_list
theorem comp_turn {c : Cx} {O : OpsF} {cal : Cal} {k : Nat} {elt : PE} {conds : PEs} {q : Bool} {ns : List Str} {st : Fs} {env : Env} {A : Around} {fe : FE} {scope : Scope} {x : Str} {caps : List Nat} {e' : Expr} {ifs : List Expr} {ks' : List (Str × NameKind)} (hk : (relabel scope env).names = ks') (hlen : st.ρ.length = ns.length)
    (Ie : ∀ {cenv : Env} {s : Shared} {H : Hd} {st' : Fs}, cenv.scope.names = ks' → Rm c q (k + 1) A s.heap → Fm c (FrA A) (ns ++ [x]) cenv st' fe H s.heap → st'.ρ.length = (ns ++ [x]).length → PrOk c q A st'.lo st'.σ H e' cenv (pe O cal q st' elt) s)
    (Ic : ∀ {cenv : Env} {s : Shared} {H : Hd} {st' : Fs}, cenv.scope.names = ks' → Rm c q (k + 1) A s.heap → Fm c (FrA A) (ns ++ [x]) cenv st' fe H s.heap → st'.ρ.length = (ns ++ [x]).length → EvB c A st'.lo st'.σ H (testsOf ifs cenv) (pall O cal q st' .And conds) s) :
    TurnOk c q (k + 1) A ns env st fe scope x caps e' ifs (fun x => compF st.σ.length (pall O cal q (st.inner caps x) .And conds) (pe O cal q (st.inner caps x) elt).v) := by
  intro item s₃ H₃ cenv hsc hm₃ F₃
  have hks' : cenv.scope.names = ks' := by rw [hsc]; exact hk
  have hlen' : (st.inner caps item).ρ.length = (ns ++ [x]).length := by simp [Fs.inner, mask_length, hlen]
  refine ⟨fun y hy => ?_, fun hn => ?_⟩
  · unfold compF at hy
    dsimp only at hy
    split at hy
    · rename_i σt ht
      have T := Ic hks' hm₃ F₃ hlen'
      rw [ht] at T
      refine ⟨T.pure (Nat.le_refl _), fun s₄ k₄ => ?_⟩
      have Y := (Ie hks' (hm₃.kp k₄) (F₃.kp k₄) hlen').v
      unfold elemF at hy
      split at hy
      · rename_i v σ' hv
        split at hy
        · rename_i hl
          simp only [Option.map_some, Option.some.injEq] at hy
          subst hy
          rw [hv] at Y
          exact Y.pure (Nat.le_refl _) hl
        · cases hy
      · cases hy
    · cases hy
    · cases hy
  · unfold compF at hn
    dsimp only at hn
    split at hn
    · simp only [Option.map_eq_some_iff] at hn
      obtain ⟨_, _, hn⟩ := hn
      cases hn
    · rename_i σt ht
      have T := Ic hks' hm₃ F₃ hlen'
      rw [ht] at T
      exact T.pure (Nat.le_refl _)
    · cases hn

/-- a comparison of two -/
theorem prOk_cmp {O : OpsF} {k : Nat} {c : Cx} (OK : OpsOk c O) {q : Bool} {ns : List Str} {st : Fs} {env : Env} {A : Around} {s : Shared} {fe : FE} {H : Hd} {op : CmpOp} {l' r' : Expr} {pos : Pos} {R : ER} (hm : Rm c q (k + 1) A s.heap) (F : Fm c (FrA A) ns env st fe H s.heap) (hlen : st.ρ.length = ns.length) (h3 : behindInMarks op r' = false)
    (core : ∀ (Q Q' : Value → Shared → Prop) (E : Value → Shared → Prop), PostE q A st.lo st.σ H R s Q E → (∀ t σ' H' s', R = .ok (.av (.bool t)) σ' → Ss A st.lo st.σ H s σ' H' s' → Q' (.bool t) s') → wpAny c.M A (eval l' env) (fun va s₁ => wpAny c.M A (eval r' env) (fun vb s₂ => wpAny c.M A (compareOp op va vb) Q' E s₂) E s₁) E s) :
    PrOk c q A st.lo st.σ H (.Compare l' [op] [r'] pos) env (.of O.truth st.ρ R) s := by
  have T : Ev c q A st.lo st.σ H (eval (.Compare l' [op] [r'] pos) env) R s := fun Q E P => wpAny_Compare1 (core Q Q E P fun t σ' H' s' e x => by subst e; exact P _ H' s' x (by simp [RepW, Rep])) h3
  refine ⟨T, fun b σ' hb Q E P => ?_⟩
  cases R with
  | exc _ _ => cases hb
  | stuck => cases hb
  | ok v σ₁ =>
    simp only [PR.of, ER.truth, Option.map_eq_some_iff, Prod.mk.injEq] at hb
    obtain ⟨b', hb, rfl, rfl⟩ := hb
    refine wpAny_isTrue_Compare1 (core (fun _ _ => True) _ E (fun _ _ _ _ _ => trivial) fun t σ'' H' s' e x => ?_) h3
    cases e
    have F' := F.ss x
    exact OK.truth (hm.nf x.nf) F'.hlt (a := .bool t) (by simp [RepO, Rep]) hb _ _ fun s'' k'' => P H' s'' (x.trans (.of_kp k'' F'.sto F'.hlt))

section
variable {c : Cx} {O : OpsF} (OK : OpsOk c O) {k : Nat} {cal : Cal} {fname : Nat → Str} (CO : CallsOk c k cal fname) {frees : List Str} (hfree : ∀ x ∈ frees, c.mg x = none)
include OK CO hfree

mutual
theorem pe_sound : ∀ (e : PE) {q : Bool} {ks : List (Str × NameKind)} {ns : List Str} {st : Fs} {ex : Expr} {env : Env} {A : Around} {s : Shared} {fe : FE} {H : Hd},
    encE frees fname ks ns e ex = true → env.scope.names = ks → Rm c q (k + 1) A s.heap → Fm c (FrA A) ns env st fe H s.heap → st.ρ.length = ns.length → PrOk c q A st.lo st.σ H ex env (pe O cal q st e) s
  | .const v, q, ks, ns, st, ex, env, A, s, fe, H, he, hks, hm, F, hlen => by
    rw [ec_const] at he
    obtain ⟨c', kk, pos, rfl, hz⟩ := onE_cst he
    replace he := hz; clear hz
    rw [qe_const]
    refine prOk_of OK hm F hlen ?_ rfl
    have T : Tr c q A H (eval (.Constant c' kk pos) env) (.ok v) s := by
      rcases encC_cases he with ⟨i, rfl, rfl⟩ | ⟨b, rfl, rfl⟩ | ⟨rfl, rfl⟩ | ⟨x, rfl, rfl⟩
      · exact tr_const_int
      · exact tr_const_bool
      · exact tr_const_none
      · exact tr_const_str
    exact Ev.of_tr F.sto F.hlt T
  | .name i, q, ks, ns, st, ex, env, A, s, fe, H, he, hks, hm, F, hlen => by
    rw [ec_name] at he
    obtain ⟨x, pos, rfl, hz⟩ := onE_name he
    replace he := hz; clear hz
    simp only [Bool.and_eq_true, beq_iff_eq, Bool.not_eq_true'] at he
    rw [qe_name]
    refine prOk_of OK hm F hlen ?_ rfl
    unfold slotV
    split
    · rename_i v hv
      obtain ⟨w, n, r⟩ := F.vals i x _ he.1 hv
      exact fun Q E P => wpAny_Name (n.load F.kind (P _ H s (.of_kp (Kp.refl _ _) F.sto F.hlt) r)) he.2
    · rename_i xs hv
      obtain ⟨w, n, z, a, vs, e, o, _⟩ := F.vals i x _ he.1 hv
      exact fun Q E P => wpAny_Name (n.load F.kind (P _ H s (.of_kp (Kp.refl _ _) F.sto F.hlt) ⟨a, o, e⟩)) he.2
    · exact Ev.stuck
  | .glob b, q, ks, ns, st, ex, env, A, s, fe, H, he, hks, hm, F, hlen => by
    rw [ec_glob] at he
    obtain ⟨x, pos, rfl, hz⟩ := onE_name he
    replace he := hz; clear hz
    simp only [Bool.and_eq_true, beq_iff_eq, List.contains_iff_mem] at he
    obtain ⟨⟨⟨h1, h2⟩, h3⟩, h4⟩ := he
    obtain ⟨g1, g2, g3⟩ := isGlob_of hks h3
    rw [qe_glob]
    refine prOk_of OK hm F hlen ?_ rfl
    exact fun Q E P => ld_boot F g1 g2 g3 (hfree x h4) (by rw [h2]; exact BI.boot_ty h1) (P _ H s (.of_kp (Kp.refl _ _) F.sto F.hlt) (by simp [RepW, Rep]))
  | .bin op l r, q, ks, ns, st, ex, env, A, s, fe, H, he, hks, hm, F, hlen => by
    rw [ec_bin] at he
    obtain ⟨l', op', r', pos, rfl, hz⟩ := onE_bin he
    replace he := hz; clear hz
    simp only [Bool.and_eq_true, beq_iff_eq] at he
    obtain ⟨⟨rfl, h1⟩, h2⟩ := he
    rw [qe_bin]
    refine prOk_of OK hm F hlen ?_ rfl
    intro Q E P
    refine wpAny_BinOp ((pe_sound l h1 hks hm F hlen).v.bindK P fun a σ₁ _ va H₁ s₁ x₁ r₁ P₁ => ?_)
    have F₁ := F.ss x₁
    refine (pe_sound r h2 hks (hm.nf x₁.nf) F₁ hlen).v.bindK P₁ fun b σ₂ _ vb H₂ s₂ x₂ r₂ P₂ => ?_
    have F₂ := F₁.ss x₂
    exact OK.bin ((hm.nf x₁.nf).nf x₂.nf) F₂.hlt (RepO.derefS F₂ hlen (r₁.ss x₂ F₁.sto)) (RepO.derefS F₂ hlen r₂) _ _ (P₂.res F₂.sto F₂.hlt)
  | .un op x, q, ks, ns, st, ex, env, A, s, fe, H, he, hks, hm, F, hlen => by
    rw [ec_un] at he
    obtain ⟨op', x', pos, rfl, hz⟩ := onE_un he
    replace he := hz; clear hz
    simp only [Bool.and_eq_true, beq_iff_eq] at he
    obtain ⟨rfl, h1⟩ := he
    rw [qe_un]
    have I := pe_sound x h1 hks hm F hlen
    have T : Ev c q A st.lo st.σ H (eval (.UnaryOp op x' pos) env) ((pe O cal q st x).v.bind fun a σ₁ => ofRes (O.un op (derefS st.ρ σ₁ a)) σ₁) s := by
      intro Q E P
      refine wpAny_UnaryOp (I.v.bindK P fun a σ₁ _ va H₁ s₁ x₁ r₁ P₁ => ?_)
      have F₁ := F.ss x₁
      exact OK.un (hm.nf x₁.nf) F₁.hlt (RepO.derefS F₁ hlen r₁) _ _ (P₁.res F₁.sto F₁.hlt)
    refine ⟨T, ?_⟩
    cases op with
    | Not =>
      intro b σ' hb Q E P
      simp only [Option.map_eq_some_iff, Prod.mk.injEq] at hb
      obtain ⟨⟨b', σ''⟩, hb', rfl, rfl⟩ := hb
      exact wpAny_isTrue_Not (I.t b' _ hb' _ _ P)
    | Invert => exact isT_value OK hm F hlen T rfl
    | UAdd => exact isT_value OK hm F hlen T rfl
    | USub => exact isT_value OK hm F hlen T rfl
  | .cmp op l r, q, ks, ns, st, ex, env, A, s, fe, H, he, hks, hm, F, hlen => by
    rw [ec_cmp] at he
    obtain ⟨l', op', r', pos, rfl, hz⟩ := onC1_eq he
    replace he := hz; clear hz
    all_goals
      simp only [Bool.and_eq_true, beq_iff_eq, Bool.not_eq_true'] at he
      obtain ⟨⟨⟨rfl, h1⟩, h2⟩, h3⟩ := he
      rw [qe_cmp]
      have fin := fun (R : ER) => prOk_cmp OK (R := R) (l' := l') (r' := r') (op := op) (env := env) (pos := pos) hm F hlen h3
      have isCase : (op = .Is ∨ op = .IsNot) → PrOk c q A st.lo st.σ H (.Compare l' [op] [r'] pos) env (.of O.truth st.ρ ((pe O cal q st l).v.bindA fun a σ₁ => (pe O cal q (st.at σ₁) r).v.bindA fun b σ₂ => ofB ((O.is_ a b).map fun z => if op = .Is then z else !z) σ₂)) s := fun hop => by
        refine fin _ fun Q Q' E P h => (pe_sound l h1 hks hm F hlen).v.bindAK P fun a σ₁ e₁ va H₁ s₁ x₁ r₁ P₁ => ?_
        have F₁ := F.ss x₁
        refine (pe_sound r h2 hks (hm.nf x₁.nf) F₁ hlen).v.bindAK P₁ fun b σ₂ e₂ vb H₂ s₂ x₂ r₂ P₂ => ?_
        have F₂ := F₁.ss x₂
        have x12 := x₁.trans x₂
        cases hc : O.is_ a b with
        | none => rw [hc] at P₂; exact P₂.elim
        | some t =>
          refine OK.is_ (hm.nf x12.nf) F₂.sto (Rep.mono (x₂.vis F₁.sto) r₁) r₂ hc hop _ _ fun v s₃ k₃ r₃ => ?_
          simp only [Rep] at r₃
          subst r₃
          exact h _ σ₂ H₂ s₃ (by simp only [e₁, ER.bindA, e₂, hc, Option.map_some, ofB]) (x12.trans (.of_kp k₃ F₂.sto F₂.hlt))
      have cmpCase : PrOk c q A st.lo st.σ H (.Compare l' [op] [r'] pos) env (.of O.truth st.ρ ((pe O cal q st l).v.bind fun a σ₁ => (pe O cal q (st.at σ₁) r).v.bind fun b σ₂ => ofB (O.cmp op (derefS st.ρ σ₂ a) (derefS st.ρ σ₂ b)) σ₂)) s := by
        refine fin _ fun Q Q' E P h => (pe_sound l h1 hks hm F hlen).v.bindK P fun a σ₁ e₁ va H₁ s₁ x₁ r₁ P₁ => ?_
        have F₁ := F.ss x₁
        refine (pe_sound r h2 hks (hm.nf x₁.nf) F₁ hlen).v.bindK P₁ fun b σ₂ e₂ vb H₂ s₂ x₂ r₂ P₂ => ?_
        have F₂ := F₁.ss x₂
        have x12 := x₁.trans x₂
        cases hc : O.cmp op (derefS st.ρ σ₂ a) (derefS st.ρ σ₂ b) with
        | none => rw [hc] at P₂; exact P₂.elim
        | some t =>
          refine OK.cmp (hm.nf x12.nf) F₂.hlt (RepO.derefS F₂ hlen (r₁.ss x₂ F₁.sto)) (RepO.derefS F₂ hlen r₂) hc _ _ fun v s₃ k₃ r₃ => ?_
          simp only [Rep] at r₃
          subst r₃
          exact h _ σ₂ H₂ s₃ (by simp only [e₁, ER.bind, e₂, hc, ofB]) (x12.trans (.of_kp k₃ F₂.sto F₂.hlt))
      cases op
      case Is => exact (by simpa using isCase (.inl rfl))
      case IsNot => exact (by simpa using isCase (.inr rfl))
      all_goals exact cmpCase
  | .bop op xs, q, ks, ns, st, ex, env, A, s, fe, H, he, hks, hm, F, hlen => by
    rw [ec_bop] at he
    obtain ⟨op', xs', pos, rfl, hz⟩ := onE_bop he
    replace he := hz; clear hz
    simp only [Bool.and_eq_true, beq_iff_eq] at he
    obtain ⟨rfl, h1⟩ := he
    rw [qe_bop]
    exact ⟨fun Q E P => pbop_sound xs h1 hks hm F hlen Q E P, fun b σ' hb Q E P => wpAny_isTrue_BoolOp (pall_sound xs h1 hks hm F hlen b σ' hb _ _ P)⟩
  | .list xs, q, ks, ns, st, ex, env, A, s, fe, H, he, hks, hm, F, hlen => by
    rw [ec_list] at he
    obtain ⟨es, pos, rfl, hz⟩ := onE_list he
    replace he := hz; clear hz
    rw [qe_list]
    refine prOk_of OK hm F hlen ?_ rfl
    intro Q E P
    refine wpAny_List_spliced ((pes_sound xs he hks hm F hlen).onPK P fun l σ₁ _ _ _ vs H₁ s₁ x₁ r₁ P₁ => ?_)
    split at P₁
    · rename_i hl
      have F₁ := F.ss x₁
      exact ⟨by rw [r₁.length]; exact line_ok (by omega), P₁ _ H₁ _ (.of_kp (Kp.push _) F₁.sto F₁.hlt) (rep_fresh_list F₁.hlt (by omega) r₁)⟩
    · exact P₁.elim
  | .tup xs, q, ks, ns, st, ex, env, A, s, fe, H, he, hks, hm, F, hlen => by
    rw [ec_tup] at he
    obtain ⟨es, kk, pos, rfl, hz⟩ := onE_tup he
    replace he := hz; clear hz
    rw [qe_tup]
    refine prOk_of OK hm F hlen ?_ rfl
    intro Q E P
    refine wpAny_Tuple_spliced ((pes_sound xs he hks hm F hlen).onPK P fun l σ₁ _ _ _ vs H₁ s₁ x₁ r₁ P₁ => ?_)
    split at P₁
    · rename_i hl
      have F₁ := F.ss x₁
      exact ⟨by rw [r₁.length]; exact line_ok (by omega), P₁ _ H₁ _ (.of_kp (Kp.push _) F₁.sto F₁.hlt) (rep_fresh_tup F₁.hlt (by omega) r₁)⟩
    · exact P₁.elim
  | .sub o i, q, ks, ns, st, ex, env, A, s, fe, H, he, hks, hm, F, hlen => by
    rw [ec_sub] at he
    obtain ⟨o', i', pos, rfl, hz⟩ := onE_sub he
    replace he := hz; clear hz
    simp only [Bool.and_eq_true] at he
    obtain ⟨h1, h2⟩ := he
    rw [qe_sub]
    refine prOk_of OK hm F hlen ?_ rfl
    intro Q E P
    refine Subscript_ ((pe_sound o h1 hks hm F hlen).v.bindK P fun a σ₁ _ va H₁ s₁ x₁ r₁ P₁ => ?_)
    have F₁ := F.ss x₁
    refine (pe_sound i h2 hks (hm.nf x₁.nf) F₁ hlen).v.bindK P₁ fun b σ₂ _ vb H₂ s₂ x₂ r₂ P₂ => ?_
    have F₂ := F₁.ss x₂
    have ra := RepO.derefS F₂ hlen (r₁.ss x₂ F₁.sto)
    have hne : O.idx (derefS st.ρ σ₂ a) (derefS st.ρ σ₂ b) ≠ .stuck := fun z => by rw [z] at P₂; exact P₂
    obtain ⟨T, id, hT, hid⟩ := OK.idxT ra hne
    exact tail_any hT hid (OK.idx ((hm.nf x₁.nf).nf x₂.nf) F₂.hlt ra (RepO.derefS F₂ hlen r₂) _ _ (P₂.res F₂.sto F₂.hlt)) (subscripted_plain (encE_notSlice h2) _ _)
  | .slice o a b sp, q, ks, ns, st, ex, env, A, s, fe, H, he, hks, hm, F, hlen => by
    rw [ec_slice] at he
    obtain ⟨o', sl', pos, rfl, hz⟩ := onE_sub he
    replace he := hz; clear hz
    obtain ⟨a', b', s', p', rfl, hz⟩ := onE_slice he
    replace he := hz; clear hz
    simp only [Bool.and_eq_true] at he
    obtain ⟨⟨⟨h1, h2⟩, h3⟩, h4⟩ := he
    rw [qe_slice]
    refine prOk_of OK hm F hlen ?_ rfl
    have part : ∀ (p : PE) (x : Option Expr) (st₁ : Fs) (H₁ : Hd) (s₁ : Shared), (∀ e, encE frees fname ks ns p e = true → Ev c q A st₁.lo st₁.σ H₁ (eval e env) (pe O cal q st₁ p).v s₁) → (match x with | some e => encE frees fname ks ns p e | none => isNone' p) = true → Fm c (FrA A) ns env st₁ fe H₁ s₁.heap →
        Ev c q A st₁.lo st₁.σ H₁ (evalPart x env) (pe O cal q st₁ p).v s₁ := by
      intro p x st₁ H₁ s₁ I hx F₁ Q E P
      cases x with
      | none =>
        have hx := isNone'_eq hx
        subst hx
        simp only [qe_const, PR.of] at P
        exact wpAny_evalPart_none (P _ H₁ s₁ (.of_kp (Kp.refl _ _) F₁.sto F₁.hlt) (by simp [RepW, Rep]))
      | some e => exact wpAny_evalPart_some (I e hx _ _ P)
    intro Q E P
    refine Subscript_ ((pe_sound o h1 hks hm F hlen).v.bindK P fun ov σ₁ _ va H₁ s₁ x₁ r₁ P₁ => wpAny_Slice ?_)
    have F₁ := F.ss x₁
    have m₁ := hm.nf x₁.nf
    refine (part a a' (st.at σ₁) H₁ s₁ (fun e he => (pe_sound a he hks m₁ F₁ hlen).v) h2 F₁).bindAK P₁ fun av σ₂ _ wa H₂ s₂ x₂ ra P₂ => ?_
    have F₂ := F₁.ss x₂
    have m₂ := m₁.nf x₂.nf
    refine (part b b' (st.at σ₂) H₂ s₂ (fun e he => (pe_sound b he hks m₂ F₂ hlen).v) h3 F₂).bindAK P₂ fun bv σ₃ _ wb H₃ s₃ x₃ rb P₃ => ?_
    have F₃ := F₂.ss x₃
    have m₃ := m₂.nf x₃.nf
    refine (part sp s' (st.at σ₃) H₃ s₃ (fun e he => (pe_sound sp he hks m₃ F₃ hlen).v) h4 F₃).bindAK P₃ fun sv σ₄ _ ws H₄ s₄ x₄ rs P₄ => ?_
    have F₄ := F₃.ss x₄
    have k5 : Kp A s₄ { s₄ with heap := s₄.heap.push { cls := .type "slice", data := .fields #[wa, wb, ws] } } := Kp.push _
    have x₅ : Ss A st.lo σ₄ H₄ s₄ σ₄ H₄ _ := .of_kp k5 F₄.sto F₄.hlt
    have F₅ := F₄.ss x₅
    have ro := RepO.derefS F₅ hlen ((((r₁.ss x₂ F₁.sto).ss x₃ F₂.sto).ss x₄ F₃.sto).ss x₅ F₄.sto)
    have hne : O.slice (derefS st.ρ σ₄ ov) av bv sv ≠ .stuck := fun z => by rw [z] at P₄; exact P₄
    obtain ⟨T, id, hT, hid⟩ := OK.sliceT ro hne
    refine tail_any (ops := ?_) hT hid (OK.slice (((m₃.nf x₄.nf).nf x₅.nf)) F₅.hlt ro (Rep.mono (((x₃.vis F₂.sto).trans (x₄.vis F₃.sto)).trans (x₅.vis F₄.sto)) ra) (Rep.mono ((x₄.vis F₃.sto).trans (x₅.vis F₄.sto)) rb) (Rep.mono (x₅.vis F₄.sto) rs) (Heap.get?_push_size _ rfl) _ _ ((P₄.ss x₅).res F₅.sto F₅.hlt)) ?_
    · exact match s' with | none => [.ref s₄.heap.objs.size, va] | some _ => [va, .ref s₄.heap.objs.size]
    · cases s' <;> rfl
  | .call f xs, q, ks, ns, st, ex, env, A, s, fe, H, he, hks, hm, F, hlen => by
    rw [ec_call] at he
    obtain ⟨x, px, es, pos, rfl, hz⟩ := onNC_eq he
    replace he := hz; clear hz
    simp only [Bool.and_eq_true, beq_iff_eq] at he
    obtain ⟨⟨h1, h2⟩, h3⟩ := he
    subst h1
    obtain ⟨g1, g2, _⟩ := isGlob_of hks h2
    rw [qe_call]
    refine prOk_of OK hm F hlen ?_ rfl
    cases q with
    | false => exact Ev.stuck
    | true =>
      intro Q E P
      obtain ⟨ol, σ₁, l, hpes, hpl⟩ : ∃ ol σ₁ l, pes O cal true st xs = some (ol, σ₁) ∧ plains ol = some l := by
        cases h : pes O cal true st xs with
        | none => simp only [onP, onL, h] at P; exact P.elim
        | some p =>
          cases hl : plains p.1 with
          | none => simp only [onP, onL, h, hl] at P; exact P.elim
          | some l => exact ⟨p.1, p.2, l, rfl, hl⟩
      have hne : cal σ₁ st.lo f l ≠ .stuck := fun z => by
        simp only [onP, onL, hpes, hpl, z] at P; exact P
      obtain ⟨hc, fa, fo, fd, hg, ho, hd⟩ := CO.ok σ₁ st.lo f l hne
      refine wpAny_Call_NameR (ld_glob F g1 g2 hg ?_)
      refine Calls.callWith_function (o := fo) (fd := fd) ?_
      have fin : wpAny c.M A (spliced (backTo pos (starEach es env))) (fun vs s₁ => (s₁.heap.get? fa = some fo ∧ fo.data = .func fd) ∧ wpAny c.M A (PySem.call (.ref fa) ([] ++ vs) []) Q E s₁) E s :=
        (pes_sound xs h3 hks hm F hlen).onPK P fun l' σ₁' ol' e1 e2 vs H₁ s₁ x₁ r₁ P₁ => by
          rw [hpes] at e1; cases e1
          rw [hpl] at e2; cases e2
          have F₁ := F.ss x₁
          exact ⟨⟨F₁.base' fa fo ho, hd⟩, hc A s₁ H₁ vs fa (hm.nf x₁.nf).down F₁.base' F₁.hlt F₁.sto F₁.mh0 r₁ hg _ _ P₁⟩
      cases es with
      | nil => exact PySem.evalArgs_none (by
          have := pes_nil h3
          subst this
          rw [qes_nil] at hpes
          cases hpes
          simp only [plains] at hpl
          cases hpl
          simp only [onP, onL, qes_nil, plains] at P
          exact ⟨⟨F.base' fa fo ho, hd⟩, hc A s H [] fa hm.down F.base' F.hlt F.sto F.mh0 (by simp [RepL]) hg _ _ P⟩)
      | cons e es =>
        have hst : starEach (e :: es) env = (false, eval e env) :: starEach es env := starEach_cons (encEs_head h3)
        rw [hst] at fin ⊢
        exact Calls.evalArgs_plain fin
  | .bcall f xs, q, ks, ns, st, ex, env, A, s, fe, H, he, hks, hm, F, hlen => by
    rw [ec_bcall] at he
    obtain ⟨x, px, es, pos, rfl, hz⟩ := onNC_eq he
    replace he := hz; clear hz
    simp only [Bool.and_eq_true, beq_iff_eq, List.contains_iff_mem] at he
    obtain ⟨⟨⟨h1, h2⟩, h3⟩, h4⟩ := he
    obtain ⟨g1, g2, g3⟩ := isGlob_of hks h2
    have hb := BI.boot f
    rw [← h1] at hb
    rw [qe_bcall]
    refine prOk_of OK hm F hlen ?_ rfl
    have hq : q = true ∨ q = false := by cases q <;> simp
    rcases hq with hq | hq
    case inr => rw [hq]; exact Ev.stuck
    intro Q E P
    have P : PostE q A st.lo st.σ H (onL (pes O cal q st xs) fun l σ₁ => ofRes (O.bcall f (l.map (derefS st.ρ σ₁))) σ₁) s Q E := by rw [hq] at P ⊢; exact P
    refine wpAny_Call_NameR (ld_boot F g1 g2 g3 (hfree x h3) hb ?_)
    have S : wpAny c.M A (spliced (backTo pos (starEach es env))) (fun vs s' => wpAny c.M A (PySem.call f.val ([] ++ vs) []) Q E s') E s :=
      (pes_sound xs h4 hks hm F hlen).onK P fun l σ₁ _ vs H₁ s₁ x₁ r₁ P₁ => by
        have F₁ := F.ss x₁
        exact OK.bcall hq (hm.nf x₁.nf) F₁.base' F₁.hlt (RepOL.derefS F₁ hlen r₁) (BI.boot f) _ _ (P₁.res F₁.sto F₁.hlt)
    have args : wpAny c.M A (evalArgs f.val true (backTo pos (starEach es env)) []) (fun a s₁ => wpAny c.M A (PySem.call f.val ([] ++ a.pos) a.kw) Q E s₁) E s := by
      cases es with
      | nil => exact PySem.evalArgs_none (by
          have := pes_nil h4
          subst this
          simp only [onL, qes_nil, List.map_nil] at P
          exact OK.bcall hq hm F.base' F.hlt (vs := []) (xs := []) trivial (BI.boot f) _ _ (P.res F.sto F.hlt))
      | cons e es =>
        have hst : starEach (e :: es) env = (false, eval e env) :: starEach es env := starEach_cons (encEs_head h4)
        rw [hst] at S ⊢
        exact Calls.evalArgs_plain S
    have plain := star_plain (pos := pos) (env := env) h4
    unfold BI.val at args ⊢
    split at args
    · rw [if_pos (by assumption)]; exact PySem.callWith_type plain args
    · rw [if_neg (by assumption)]; exact Calls.callWith_builtin plain args
  | .ecall f xs, q, ks, ns, st, ex, env, A, s, fe, H, he, hks, hm, F, hlen => by
    rw [ec_ecall] at he
    obtain ⟨x, px, es, pos, rfl, hz⟩ := onNC_eq he
    replace he := hz; clear hz
    simp only [Bool.and_eq_true, beq_iff_eq, List.contains_iff_mem] at he
    obtain ⟨⟨⟨h1, h2⟩, h3⟩, h4⟩ := he
    obtain ⟨g1, g2, g3⟩ := isGlob_of hks h2
    have hb := BI.boot f
    rw [← h1] at hb
    rw [qe_ecall]
    refine prOk_of OK hm F hlen ?_ rfl
    have hq : q = true ∨ q = false := by cases q <;> simp
    rcases hq with hq | hq
    case inr => rw [hq]; exact Ev.stuck
    intro Q E P
    have P : PostE q A st.lo st.σ H (onP (pes O cal q st xs) fun l σ₁ => O.ecall f σ₁ st.lo l) s Q E := by rw [hq] at P ⊢; exact P
    refine wpAny_Call_NameR (ld_boot F g1 g2 g3 (hfree x h3) hb ?_)
    have S : wpAny c.M A (spliced (backTo pos (starEach es env))) (fun vs s' => wpAny c.M A (PySem.call f.val ([] ++ vs) []) Q E s') E s :=
      (pes_sound xs h4 hks hm F hlen).onPK P fun l σ₁ _ _ _ vs H₁ s₁ x₁ r₁ P₁ => by
        have F₁ := F.ss x₁
        exact OK.ecall hq (hm.nf x₁.nf) F₁.base' F₁.hlt F₁.sto r₁ (BI.boot f) _ _ P₁
    have args : wpAny c.M A (evalArgs f.val true (backTo pos (starEach es env)) []) (fun a s₁ => wpAny c.M A (PySem.call f.val ([] ++ a.pos) a.kw) Q E s₁) E s := by
      cases es with
      | nil => exact PySem.evalArgs_none (by
          have := pes_nil h4
          subst this
          simp only [onP, onL, qes_nil, plains] at P
          exact OK.ecall hq hm F.base' F.hlt F.sto (by simp [RepL]) (BI.boot f) _ _ P)
      | cons e es =>
        have hst : starEach (e :: es) env = (false, eval e env) :: starEach es env := starEach_cons (encEs_head h4)
        rw [hst] at S ⊢
        exact Calls.evalArgs_plain S
    have plain := star_plain (pos := pos) (env := env) h4
    unfold BI.val at args ⊢
    split at args
    · rw [if_pos (by assumption)]; exact PySem.callWith_type plain args
    · rw [if_neg (by assumption)]; exact Calls.callWith_builtin plain args
  | .comp caps elt src conds, q, ks, ns, st, ex, env, A, s, fe, H, he, hks, hm, F, hlen => by
    rw [ec_comp] at he
    obtain ⟨e', x, px, it, ifs, scope, pos, rfl, hz⟩ := onLC_eq he
    replace he := hz; clear hz
    all_goals
      simp only [Bool.and_eq_true] at he
      obtain ⟨⟨⟨⟨h1, h0⟩, h2⟩, h3⟩, h4⟩ := he
      have h0 : isSetd src = false := by simpa using h0
      rw [qe_comp]
      refine prOk_of OK hm F hlen ?_ rfl
      cases q with
      | false => exact Ev.stuck
      | true =>
        exact ev_listcomp OK (f := fun σ₁ x => compF σ₁.length (pall O cal true ((st.at σ₁).inner caps x) .And conds) (pe O cal true ((st.at σ₁).inner caps x) elt).v) rfl hm F hlen (compOk_of hks h2) (encE_notSet h1 h0 env) (pe_sound src h1 hks hm F hlen).v fun σ₁ => comp_turn (relab_eq hks F.kind) hlen (fun a b c d => pe_sound elt h3 a b c d) (fun a b c d => ptests_sound conds h4 a b c d)
  | .compS caps elt src conds, q, ks, ns, st, ex, env, A, s, fe, H, he, hks, hm, F, hlen => by
    rw [ec_compS] at he
    obtain ⟨e', x, px, it, ifs, scope, pos, rfl, hz⟩ := onLC_eq he
    replace he := hz; clear hz
    simp only [Bool.and_eq_true] at he
    obtain ⟨⟨⟨⟨h1, h0⟩, h2⟩, h3⟩, h4⟩ := he
    have h0 : isSetd src = false := by simpa using h0
    rw [qe_compS]
    refine prOk_of OK hm F hlen ?_ rfl
    cases q with
    | false => exact Ev.stuck
    | true =>
      exact ev_compS OK (f := fun σ₁ x => compF σ₁.length (pall O cal true ((st.at σ₁).inner caps x) .And conds) (pe O cal true ((st.at σ₁).inner caps x) elt).v) rfl hm F hlen (compOk_of hks h2) (encE_notSet h1 h0 env) (pe_sound src h1 hks hm F hlen).v fun σ₁ => comp_turn (relab_eq hks F.kind) hlen (fun a b c d => pe_sound elt h3 a b c d) (fun a b c d => ptests_sound conds h4 a b c d)
  | .setd x, q, ks, ns, st, ex, env, A, s, fe, H, he, hks, hm, F, hlen => by
    rw [ec_setd] at he
    obtain ⟨es', k', pos, rfl, hz⟩ := onE_set he
    replace he := hz; clear hz
    obtain ⟨e, rfl, hz⟩ := one?_eq he
    replace he := hz; clear hz
    simp only [Bool.and_eq_true, beq_iff_eq] at he
    obtain ⟨rfl, he⟩ := he
    rw [qe_setd, OK.ld]
    refine prOk_of OK hm F hlen ?_ rfl
    exact ev_setd hm F (encE_notStar he) fun s' H' k' F' => (pe_sound x he hks (hm.kp k') F' hlen).v
theorem pes_sound : ∀ (es : PEs) {q : Bool} {ks : List (Str × NameKind)} {ns : List Str} {st : Fs} {exs : List Expr} {env : Env} {A : Around} {s : Shared} {fe : FE} {H : Hd} {pos : Pos},
    encEs frees fname ks ns es exs = true → env.scope.names = ks → Rm c q (k + 1) A s.heap → Fm c (FrA A) ns env st fe H s.heap → st.ρ.length = ns.length → EvL c A st.lo st.σ H (spliced (backTo pos (starEach exs env))) (pes O cal q st es) s
  | .nil, q, ks, ns, st, exs, env, A, s, fe, H, pos, he, hks, hm, F, hlen => fun xs σ' hx Q E P => by
    cases exs with
    | nil =>
      simp only [qes_nil, qes_cons] at hx
      cases hx
      exact Calls.spliced_nil (P _ H s (.of_kp (Kp.refl _ _) F.sto F.hlt) trivial)
    | cons _ _ => simp [ecs_nil, ecs_cons] at he
  | .cons p ps, q, ks, ns, st, exs, env, A, s, fe, H, pos, he, hks, hm, F, hlen => fun xs σ' hx Q E P => by
    cases exs with
    | nil => simp [ecs_nil, ecs_cons] at he
    | cons e r =>
      have he' := he
      simp only [ecs_nil, ecs_cons, Bool.and_eq_true] at he
      simp only [qes_nil, qes_cons] at hx
      have I := (pe_sound p he.1 hks hm F hlen).v
      split at hx
      case h_2 => cases hx
      rename_i v σ₁ hv
      rw [hv] at I
      split at hx
      case h_2 => cases hx
      rename_i l σ₂ hl
      cases hx
      rw [starEach_cons (encE_notStar he.1)]
      show wpAny c.M A (spliced ((false, eval e env) :: backTo pos (starEach r env))) Q E s
      refine Calls.spliced_cons (I _ _ fun w H₁ s₁ x₁ r₁ => ?_)
      have F₁ := F.ss x₁
      exact pes_sound ps he.2 hks (hm.nf x₁.nf) F₁ hlen l _ hl _ _ fun ws H₂ s₂ x₂ r₂ => P _ H₂ s₂ (x₁.trans x₂) ⟨r₁.ss x₂ F₁.sto, r₂⟩
theorem pall_sound : ∀ (es : PEs) {q : Bool} {op : BoolOp} {ks : List (Str × NameKind)} {ns : List Str} {st : Fs} {exs : List Expr} {env : Env} {A : Around} {s : Shared} {fe : FE} {H : Hd},
    encEs frees fname ks ns es exs = true → env.scope.names = ks → Rm c q (k + 1) A s.heap → Fm c (FrA A) ns env st fe H s.heap → st.ρ.length = ns.length → EvB c A st.lo st.σ H (allTrue op exs env) (pall O cal q st op es) s
  | .nil, q, op, ks, ns, st, exs, env, A, s, fe, H, he, hks, hm, F, hlen => fun b σ' hx Q E P => by
    cases exs with
    | nil =>
      simp only [pall] at hx
      cases hx
      exact wpAny_pure (P H s (.of_kp (Kp.refl _ _) F.sto F.hlt))
    | cons _ _ => simp [ecs_nil, ecs_cons] at he
  | .cons p ps, q, op, ks, ns, st, exs, env, A, s, fe, H, he, hks, hm, F, hlen => fun b σ' hx Q E P => by
    cases exs with
    | nil => simp [ecs_nil, ecs_cons] at he
    | cons e r =>
      simp only [ecs_nil, ecs_cons, Bool.and_eq_true] at he
      simp only [pall] at hx
      have I := (pe_sound p he.1 hks hm F hlen).t
      cases op with
      | And =>
        refine wpAny_allTrue_And_cons ?_
        split at hx
        · rename_i σ₁ hv; cases hx; exact I _ _ hv _ _ fun H₁ s₁ x₁ => P H₁ s₁ x₁
        · rename_i h _; cases h
        · rename_i σ₁ hv; exact I _ _ hv _ _ fun H₁ s₁ x₁ => pall_sound ps he.2 hks (hm.nf x₁.nf) (F.ss x₁) hlen b σ' hx _ _ fun H₂ s₂ x₂ => P H₂ s₂ (x₁.trans x₂)
        · rename_i h _; cases h
        · cases hx
      | Or =>
        refine wpAny_allTrue_Or_cons ?_
        split at hx
        · rename_i h _; cases h
        · rename_i σ₁ hv; cases hx; exact I _ _ hv _ _ fun H₁ s₁ x₁ => P H₁ s₁ x₁
        · rename_i h _; cases h
        · rename_i σ₁ hv; exact I _ _ hv _ _ fun H₁ s₁ x₁ => pall_sound ps he.2 hks (hm.nf x₁.nf) (F.ss x₁) hlen b σ' hx _ _ fun H₂ s₂ x₂ => P H₂ s₂ (x₁.trans x₂)
        · cases hx
theorem ptests_sound : ∀ (es : PEs) {q : Bool} {ks : List (Str × NameKind)} {ns : List Str} {st : Fs} {exs : List Expr} {env : Env} {A : Around} {s : Shared} {fe : FE} {H : Hd},
    encEs frees fname ks ns es exs = true → env.scope.names = ks → Rm c q (k + 1) A s.heap → Fm c (FrA A) ns env st fe H s.heap → st.ρ.length = ns.length → EvB c A st.lo st.σ H (testsOf exs env) (pall O cal q st .And es) s
  | .nil, q, ks, ns, st, exs, env, A, s, fe, H, he, hks, hm, F, hlen => fun b σ' hx Q E P => by
    cases exs with
    | nil =>
      simp only [pall] at hx
      cases hx
      unfold testsOf
      rw [List.forIn_nil]
      exact wpAny_pure (P H s (.of_kp (Kp.refl _ _) F.sto F.hlt))
    | cons _ _ => simp [ecs_nil, ecs_cons] at he
  | .cons p ps, q, ks, ns, st, exs, env, A, s, fe, H, he, hks, hm, F, hlen => fun b σ' hx Q E P => by
    cases exs with
    | nil => simp [ecs_nil, ecs_cons] at he
    | cons e r =>
      simp only [ecs_nil, ecs_cons, Bool.and_eq_true] at he
      simp only [pall] at hx
      have I := (pe_sound p he.1 hks hm F hlen).t
      unfold testsOf
      rw [List.forIn_cons]
      simp only [if_true]
      split at hx
      · rename_i σ₁ hv
        cases hx
        refine wpAny_bind (wpAny_bind (I _ _ hv _ _ fun H₁ s₁ x₁ => wpAny_pure ?_))
        have skip : ∀ (l : List Expr), (forIn l false fun c r => if r = true then do let ok ← isTrue c env (eval c env); pure (ForInStep.yield ok) else pure (ForInStep.yield r) : Sem Bool) = pure false := by
          intro l
          induction l with
          | nil => rw [List.forIn_nil]
          | cons y l ih => rw [List.forIn_cons]; simpa using ih
        show wpAny c.M A (forIn r false _) _ _ _
        rw [skip]
        exact wpAny_pure (P H₁ s₁ x₁)
      · rename_i h _; cases h
      · rename_i σ₁ hv
        refine wpAny_bind (wpAny_bind (I _ _ hv _ _ fun H₁ s₁ x₁ => wpAny_pure ?_))
        exact ptests_sound ps he.2 hks (hm.nf x₁.nf) (F.ss x₁) hlen b σ' hx _ _ fun H₂ s₂ x₂ => P H₂ s₂ (x₁.trans x₂)
      · rename_i h _; cases h
      · cases hx
theorem pbop_sound : ∀ (es : PEs) {q : Bool} {op : BoolOp} {ks : List (Str × NameKind)} {ns : List Str} {st : Fs} {exs : List Expr} {env : Env} {A : Around} {s : Shared} {fe : FE} {H : Hd} {pos : Pos},
    encEs frees fname ks ns es exs = true → env.scope.names = ks → Rm c q (k + 1) A s.heap → Fm c (FrA A) ns env st fe H s.heap → st.ρ.length = ns.length → Ev c q A st.lo st.σ H (boolOp pos op (evalEach exs env)) (pbop O cal q st op es) s
  | .nil, q, op, ks, ns, st, exs, env, A, s, fe, H, pos, he, hks, hm, F, hlen => by
    simp only [pbop]; exact Ev.stuck
  | .cons p .nil, q, op, ks, ns, st, exs, env, A, s, fe, H, pos, he, hks, hm, F, hlen => by
    match exs, he with
    | [], he => simp [ecs_nil, ecs_cons] at he
    | [e], he =>
      simp only [ecs_nil, ecs_cons, Bool.and_eq_true] at he
      simp only [pbop]
      exact (pe_sound p he.1 hks hm F hlen).v
    | _ :: _ :: _, he => simp [ecs_nil, ecs_cons] at he
  | .cons p (.cons p' ps), q, op, ks, ns, st, exs, env, A, s, fe, H, pos, he, hks, hm, F, hlen => by
    match exs, he with
    | [], he => simp [ecs_nil, ecs_cons] at he
    | [e], he => simp [ecs_nil, ecs_cons] at he
    | e :: e' :: r, he =>
      have he' : encE frees fname ks ns p e = true ∧ encEs frees fname ks ns (.cons p' ps) (e' :: r) = true := by
        rw [ecs_cons] at he
        simpa only [Bool.and_eq_true] using he
      intro Q E P
      simp only [pbop] at P
      show wpAny c.M A (do
        let v ← eval e env
        standAt pos
        let t ← holding [v] (truthy v)
        match op, t with
        | .And, false | .Or, true => pure v
        | _, _ => boolOp pos op (evalEach (e' :: r) env)) Q E s
      refine wpAny_bind ((pe_sound p he'.1 hks hm F hlen).v.bindK P fun v σ₁ _ w H₁ s₁ x₁ r₁ P₁ => wpAny_bind (wpAny_standAt (wpAny_bind (wpAny_holding ?_))))
      have F₁ := F.ss x₁
      cases ht : O.truth (derefS st.ρ σ₁ v) with
      | none => rw [ht] at P₁; cases op <;> exact P₁.elim
      | some b =>
        rw [ht] at P₁
        refine OK.truth (hm.nf x₁.nf) F₁.hlt (RepO.derefS F₁ hlen r₁) ht _ _ fun s₂ k₂ => ?_
        have x₂ : Ss A st.lo σ₁ H₁ s₁ σ₁ H₁ s₂ := .of_kp k₂ F₁.sto F₁.hlt
        have F₂ := F₁.ss x₂
        cases op <;> cases b
        · exact wpAny_pure (P₁ _ H₁ s₂ x₂ (r₁.ss x₂ F₁.sto))
        · exact pbop_sound (.cons p' ps) he'.2 hks ((hm.nf x₁.nf).nf x₂.nf) F₂ hlen _ _ (P₁.ss x₂)
        · exact pbop_sound (.cons p' ps) he'.2 hks ((hm.nf x₁.nf).nf x₂.nf) F₂ hlen _ _ (P₁.ss x₂)
        · exact wpAny_pure (P₁ _ H₁ s₂ x₂ (r₁.ss x₂ F₁.sto))
end
end
end Mine
end
section
open PySem PySem.W PyProof.Rows
set_option linter.unusedVariables false
namespace Mine

theorem not_isL_ns {h : Heap} {a : Addr} {m : Str → Option Value} (n : h.Ns a m) (vs : List Value) : ¬ IsL h a vs := fun ⟨o, k, e, _, d, _⟩ => by
  obtain ⟨o', es, ep, e', d', _⟩ := n
  rw [e] at e'; cases e'
  rw [d] at d'; cases d'
theorem not_isL_cell {h : Heap} {a : Addr} {v : Option Value} (n : h.IsCell a v) (vs : List Value) : ¬ IsL h a vs := fun ⟨o, k, e, _, d, _⟩ => by
  obtain ⟨o', e', d'⟩ := n
  rw [e] at e'; cases e'
  rw [d] at d'; cases d'
theorem get_set {ρ : List (Option Ent)} {i j : Nat} {t u : Ent} (h : (ρ.set i (some t))[j]? = some (some u)) : (j = i ∧ u = t) ∨ (j ≠ i ∧ ρ[j]? = some (some u)) := by
  rw [List.getElem?_set] at h
  split at h
  · rename_i e
    split at h
    · simp only [Option.some.injEq] at h
      exact .inl ⟨e.symm, h.symm⟩
    · cases h
  · rename_i e
    exact .inr ⟨Ne.symm e, h⟩
/-- nothing else stands at that name -/
noncomputable def OneName (ns : List Str) (i : Nat) (x : Str) : Prop := ∀ j : Nat, ns[j]? = some x → j = i

/-- the store stays where one thing apart from it turns -/
theorem Sto.chg {σ : Store} {H H' : Hd} {h h' : Heap} {a : Addr} (S : Sto σ H h) (hk : ∀ b o, b ≠ a → h.get? b = some o → h'.get? b = some o) (na : ∀ n, H.m n ≠ some a) (le : (vis h H).Le (vis h' H')) (hm : H'.m = H.m) (hh : ∀ n b, H.m n = some b → H'.p b) : Sto σ H' h' where
  at' := fun n mo e => by
    obtain ⟨b, e1, r⟩ := S.at' n mo e
    exact ⟨b, by rw [hm]; exact e1, r.kv (Kv.of_but (F := fun _ => False) (W := fun b => b = a) hk rfl) (fun z => na n (z ▸ e1)) le⟩
  inj := fun n n' b e e' => S.inj n n' b (by rw [← hm]; exact e) (by rw [← hm]; exact e')
  lt := fun n b e => S.lt n b (by rw [← hm]; exact e)
  hid := fun n b mo _ e => hh n b (by rw [← hm]; exact e)
  al := fun n b e => by
    rw [hm] at e
    obtain ⟨o, e'⟩ := S.al n b e
    exact ⟨o, hk b o (fun z => na n (z ▸ e)) e'⟩
  tot := fun n b e => S.tot n b (by rw [← hm]; exact e)
theorem Sto.hidden {σ : Store} {H : Hd} {h : Heap} (S : Sto σ H h) {n : Nat} {b : Addr} (e : H.m n = some b) : H.p b := let ⟨mo, q⟩ := S.tot n b e; S.hid n b mo q e
theorem Sto.notNs {σ : Store} {H : Hd} {h : Heap} (S : Sto σ H h) {a : Addr} {m : Str → Option Value} (n : h.Ns a m) (i : Nat) : H.m i ≠ some a := fun e => by
  obtain ⟨mo, q⟩ := S.tot i a e
  obtain ⟨b, e1, r⟩ := S.at' i mo q
  rw [e] at e1; cases e1
  obtain ⟨o, e2, d, _⟩ := r.data
  obtain ⟨o', es, ep, e3, d', _⟩ := n
  rw [e2] at e3; cases e3
  exact d _ _ d'
theorem Sto.notCell {σ : Store} {H : Hd} {h : Heap} (S : Sto σ H h) {a : Addr} {v : Option Value} (n : h.IsCell a v) (i : Nat) : H.m i ≠ some a := fun e => by
  obtain ⟨mo, q⟩ := S.tot i a e
  obtain ⟨b, e1, r⟩ := S.at' i mo q
  rw [e] at e1; cases e1
  obtain ⟨o, e2, _, d, _⟩ := r.data
  obtain ⟨o', e3, d'⟩ := n
  rw [e2] at e3; cases e3
  exact d _ d'

/-- one thing that is not of the frame's beginning turns -/
theorem Fm.chg {c : Cx} {Fr : Addr → Prop} {ns : List Str} {env : Env} {st : Fs} {ρ' : List (Option Ent)} {fe : FE} {H H' : Hd} {h h' : Heap} {a : Addr} (F : Fm c Fr ns env st fe H h) (hk : ∀ b o, b ≠ a → h.get? b = some o → h'.get? b = some o) (hfe : fe.h.get? a = none)
    (hle : ∀ b, fe.H.p b → H'.p b) (hm : H'.m = H.m) (live : Live H' h') (hns : ∃ m, h'.Ns env.locals m) (hl : H'.p env.locals) (hc : ∀ x cc, env.kindOf x = some .cell → env.cells.lookup x = some cc → H'.p cc ∧ fe.h.get? cc = none)
    (hcl : ∀ x, env.kindOf x = some .cell → ∃ cc v, env.cells.lookup x = some cc ∧ h'.IsCell cc v) (vals : ∀ (i : Nat) x t, ns[i]? = some x → ρ'[i]? = some (some t) → ∃ v, NV h' env x v ∧ RepE h' H' i v t)
    (own : ∀ i a, H'.o i = some a → H'.p a ∧ fe.h.get? a = none ∧ (∀ n, H'.m n ≠ some a) ∧ ∃ vs, IsL h' a vs) (oinj : ∀ i j a, H'.o i = some a → H'.o j = some a → i = j) (sto : Sto st.σ H' h') : Fm c Fr ns env { st with ρ := ρ' } fe H' h' where
  keep := fun b o n e => by
    have hb : b ≠ a := fun z => by rw [z, hfe] at e; cases e
    obtain ⟨p1, sl, p2⟩ := F.keep b o n e
    exact ⟨fun f => hk b _ hb (p1 f), sl, hk b _ hb p2⟩
  wsub := F.wsub
  base := F.base
  baseF := F.baseF
  basew := F.basew
  hle := hle
  mle := fun n b e => by rw [hm]; exact F.mle n b e
  mold := fun n b l e => F.mold n b l (by rw [← hm]; exact e)
  mnew := fun n b l e => F.mnew n b l (by rw [← hm]; exact e)
  mw := fun n b mo l l' q e => F.mw n b mo l l' q (by rw [← hm]; exact e)
  hlt := live
  felt := F.felt
  wlt := F.wlt
  kind := F.kind
  glob := F.glob
  bi := F.bi
  code := F.code
  ns := hns
  hl := hl
  lnew := F.lnew
  hc := hc
  cl := hcl
  capart := F.capart
  vals := vals
  own := own
  oinj := oinj
  sto := sto
  mh0 := fun n b e => F.mh0 n b (by rw [← hm]; exact e)
  n0le := F.n0le

section
variable {c : Cx} {Fr : Addr → Prop} {ns : List Str} {env : Env} {st : Fs} {fe : FE} {H : Hd} {h h' : Heap}

/-- a slot is forgotten -/
theorem Fm.kill (F : Fm c Fr ns env st fe H h) (i : Nat) : Fm c Fr ns env { st with ρ := st.ρ.set i none } fe H h := { F with
  vals := fun j x t a b => F.vals j x t a (by
    have b : (st.ρ.set i none)[j]? = some (some t) := b
    rw [List.getElem?_set] at b
    split at b
    · split at b <;> simp at b
    · exact b) }

/-- a slot's table turns -/
theorem fm_store {i : Nat} {x : Str} {t : Ent} {v : Value} {a : Addr} (F : Fm c Fr ns env st fe H h) (hx : ns[i]? = some x) (hnd : OneName ns i x)
    (hs : Heap.SameBut a h h') (hH : H.p a) (hfe : fe.h.get? a = none) (hn : ∀ vs, ¬ IsL h a vs) (nm : ∀ n, H.m n ≠ some a) (hlive : ∃ o, h'.get? a = some o) (nx : NV h' env x v) (ny : ∀ y w, y ≠ x → NV h env y w → NV h' env y w) (hns : ∃ m, h'.Ns env.locals m)
    (hcl : ∀ x, env.kindOf x = some .cell → ∃ cc v, env.cells.lookup x = some cc ∧ h'.IsCell cc v) (r : RepE h H i v t) : Fm c Fr ns env { st with ρ := st.ρ.set i (some t) } fe H h' := by
  have hk : ∀ b o, b ≠ a → h.get? b = some o → h'.get? b = some o := fun b o n e => (hs.2 b n).trans e
  have le : (vis h H).Le (vis h' H) := (Kv.of_sameBut (F := fun _ => False) (W := fun b => b = a) hs rfl).vis fun b z => z ▸ hH
  have lk : ∀ {b vs}, IsL h b vs → IsL h' b vs := fun {b vs} l => l.at' fun o e => hk b o (fun z => hn vs (z ▸ l)) e
  refine F.chg (H' := H) hk hfe F.hle rfl (fun b q => ?_) hns F.hl F.hc hcl (fun j y u hj hu => ?_) (fun j b e => ?_) F.oinj (F.sto.chg hk nm le rfl fun n b e => F.sto.hidden e)
  · by_cases hb : b = a
    · rw [hb]; exact hlive
    · obtain ⟨o, e⟩ := F.hlt b q
      exact ⟨o, hk b o hb e⟩
  · rcases get_set hu with ⟨rfl, rfl⟩ | ⟨ne, hu⟩
    · rw [hx] at hj; cases hj
      exact ⟨v, nx, r.mono le (fun _ e => e) fun _ _ _ l => lk l⟩
    · obtain ⟨w, nw, rw'⟩ := F.vals j y u hj hu
      refine ⟨w, ny y w (fun z => ne ?_) nw, rw'.mono le (fun _ e => e) fun _ _ _ l => lk l⟩
      subst z; exact hnd j hj
  · obtain ⟨p, q, r, vs, l⟩ := F.own j b e
    exact ⟨p, q, r, vs, lk l⟩

/-- an own list turns -/
theorem fm_own {i : Nat} {a : Addr} {vs' : List Value} {xs' : List AV} (F : Fm c Fr ns env st fe H h) (ho : H.o i = some a) (hr : ∃ xs, st.ρ[i]? = some (some (.own xs))) (hs : Heap.SameBut a h h') (hl' : IsL h' a vs') (hz : xs'.length ≤ 1048576) (hv : RepL (vis h H) vs' xs') :
    Fm c Fr ns env { st with ρ := st.ρ.set i (some (.own xs')) } fe H h' := by
  obtain ⟨hH, hfe, nm, vs, hl⟩ := F.own i a ho
  have hk : ∀ b o, b ≠ a → h.get? b = some o → h'.get? b = some o := fun b o n e => (hs.2 b n).trans e
  have le : (vis h H).Le (vis h' H) := (Kv.of_sameBut (F := fun _ => False) (W := fun b => b = a) hs rfl).vis fun b z => z ▸ hH
  have nsk : ∀ {b m}, h.Ns b m → h'.Ns b m := fun {b m} n => by
    have hb : b ≠ a := fun z => not_isL_ns n vs (z ▸ hl)
    obtain ⟨o, es, ep, e, r⟩ := n
    exact ⟨o, es, ep, hk b o hb e, r⟩
  have clk : ∀ {b v}, h.IsCell b v → h'.IsCell b v := fun {b v} n => by
    have hb : b ≠ a := fun z => not_isL_cell n vs (z ▸ hl)
    obtain ⟨o, e, r⟩ := n
    exact ⟨o, hk b o hb e, r⟩
  have nvk : ∀ {x v}, NV h env x v → NV h' env x v := fun {x v} n => by
    rcases n with ⟨k1, m, n, e⟩ | ⟨k1, cc, e, n⟩
    · exact .inl ⟨k1, m, nsk n, e⟩
    · exact .inr ⟨k1, cc, e, clk n⟩
  refine F.chg (H' := H) hk hfe F.hle rfl (fun b q => ?_) (let ⟨m, n⟩ := F.ns; ⟨m, nsk n⟩) F.hl F.hc (fun x q => let ⟨cc, v, e, n⟩ := F.cl x q; ⟨cc, v, e, clk n⟩) (fun j y u hj hu => ?_) (fun j b e => ?_) F.oinj (F.sto.chg hk nm le rfl fun n b e => F.sto.hidden e)
  · by_cases hb : b = a
    · obtain ⟨o, _, e, _⟩ := hl'; exact ⟨o, hb ▸ e⟩
    · obtain ⟨o, e⟩ := F.hlt b q
      exact ⟨o, hk b o hb e⟩
  · rcases get_set hu with ⟨rfl, rfl⟩ | ⟨ne, hu⟩
    · obtain ⟨xs, hr⟩ := hr
      obtain ⟨w, nw, z, a', vs₀, e, o', _⟩ := F.vals j y _ hj hr
      rw [ho] at o'; cases o'
      exact ⟨w, nvk nw, hz, a, vs', e, ho, hl', RepL.mono le hv⟩
    · obtain ⟨w, nw, rw'⟩ := F.vals j y u hj hu
      refine ⟨w, nvk nw, rw'.mono le (fun _ e => e) fun b ws e l => l.at' fun o e' => hk b o (fun z => ne ?_) e'⟩
      subst z; exact F.oinj j i b e ho
  · by_cases hb : b = a
    · subst hb; exact ⟨hH, hfe, nm, vs', hl'⟩
    · obtain ⟨p, q, r, ws, l⟩ := F.own j b e
      exact ⟨p, q, r, ws, l.at' fun o e' => hk b o hb e'⟩

/-- an own list taken up -/
noncomputable def Hd.putO (H : Hd) (i : Nat) (a : Addr) : Hd := ⟨fun b => H.p b ∨ b = a, H.m, fun j => if j = i then some a else H.o j⟩
theorem Fm.putO {i : Nat} {a : Addr} {vs : List Value} (F : Fm c Fr ns env st fe H h) (k : Kh Fr h h') (hnew : h.get? a = none) (hl : IsL h' a vs) : Fm c Fr ns env { st with ρ := st.ρ.set i none } fe (H.putO i a) h' := by
  have G := (F.kill i).step k
  have hN : ∀ b, (H.putO i a).p b → H.p b ∨ h.get? b = none := fun b z => z.imp id fun (z : b = a) => z ▸ hnew
  have le : (vis h H).Le (vis h' (H.putO i a)) := vis_new k hN fun _ _ e => e
  have og : ∀ j b, (H.putO i a).o j = some b → (j = i ∧ b = a) ∨ (j ≠ i ∧ H.o j = some b) := fun j b e => by
    have e : (if j = i then some a else H.o j) = some b := e
    split at e
    · cases e; exact .inl ⟨by assumption, rfl⟩
    · exact .inr ⟨by assumption, e⟩
  have nma : ∀ n, H.m n ≠ some a := fun n e => by
    obtain ⟨o, e'⟩ := F.sto.al n a e
    rw [hnew] at e'; cases e'
  have noa : ∀ j, H.o j ≠ some a := fun j e => by
    obtain ⟨_, _, _, ws, o, _, e', _⟩ := F.own j a e
    rw [hnew] at e'; cases e'
  have fen : fe.h.get? a = none := by
    cases q : fe.h.get? a with
    | none => rfl
    | some o =>
      obtain ⟨o', e'⟩ := F.keep.nw (fun b w => F.hlt b (F.hle b (F.wsub b w))) q
      rw [hnew] at e'; cases e'
  exact { G with
    hle := fun b z => .inl (F.hle b z)
    mle := F.mle
    mold := F.mold
    mnew := F.mnew
    mw := F.mw
    hlt := fun b z => by
      rcases z with z | z
      · exact G.hlt b z
      · obtain ⟨o, _, e, _⟩ := hl; exact ⟨o, z ▸ e⟩
    hl := .inl G.hl
    hc := fun x cc y z => ⟨.inl (G.hc x cc y z).1, (G.hc x cc y z).2⟩
    vals := fun j x t hj ht => by
      have ht : (st.ρ.set i none)[j]? = some (some t) := ht
      have hji : j ≠ i := fun z => by
        subst z
        rw [List.getElem?_set] at ht
        simp at ht
      obtain ⟨v, n, r⟩ := F.vals j x t hj (by rw [List.getElem?_set_ne (Ne.symm hji)] at ht; exact ht)
      exact ⟨v, n.kh k, r.mono le (fun b e => by show (if j = i then some a else H.o j) = some b; rw [if_neg hji]; exact e) fun b ws _ l => k.isL l⟩
    own := fun j b e => by
      rcases og j b e with ⟨_, rfl⟩ | ⟨_, e⟩
      · exact ⟨.inr rfl, fen, nma, vs, hl⟩
      · obtain ⟨p, q, r, ws, l⟩ := G.own j b e
        exact ⟨.inl p, q, r, ws, l⟩
    oinj := fun j l b e e' => by
      rcases og j b e with ⟨h1, h2⟩ | ⟨h1, h2⟩ <;> rcases og l b e' with ⟨h3, h4⟩ | ⟨h3, h4⟩
      · rw [h1, h3]
      · subst h2; exact absurd h4 (noa l)
      · subst h4; exact absurd h2 (noa j)
      · exact F.oinj j l b h2 h4
    sto := F.sto.new k (fun b z => .inl z) hN rfl
    mh0 := F.mh0
    n0le := F.n0le }

/-- an own list is given away -/
theorem Fm.freeze {j : Nat} {y : Str} {ys : List AV} (F : Fm c Fr ns env st fe H h) (hy : ns[j]? = some y) (hr : st.ρ[j]? = some (some (.own ys))) :
    ∃ H', (∀ b, H'.p b → H.p b) ∧ H'.m = H.m ∧ Fm c Fr ns env { st with ρ := st.ρ.set j (some (.val (.lst ys))) } fe H' h := by
  obtain ⟨v, nv, z, a, vs, e, ho, l, r⟩ := F.vals j y _ hy hr
  subst e
  obtain ⟨hH, hfe, nm, _⟩ := F.own j a ho
  have hL : env.locals ≠ a := fun q => by
    obtain ⟨m, n⟩ := F.ns
    exact not_isL_ns n vs (q ▸ l)
  have hC : ∀ x cc, env.kindOf x = some .cell → env.cells.lookup x = some cc → cc ≠ a := fun x cc hk q w => by
    obtain ⟨cc', v', e', n'⟩ := F.cl x hk
    rw [q] at e'; cases e'
    exact not_isL_cell n' vs (w ▸ l)
  refine ⟨⟨fun b => H.p b ∧ b ≠ a, H.m, fun i => if i = j then none else H.o i⟩, fun b q => q.1, rfl, ?_⟩
  have le : (vis h H).Le (vis h ⟨fun b => H.p b ∧ b ≠ a, H.m, fun i => if i = j then none else H.o i⟩) := ⟨fun x cc d q => ⟨fun w => q.1 w.1, q.2⟩, fun _ _ e => e⟩
  refine F.chg (a := a) (fun b o _ e => e) hfe (fun b q => ⟨F.hle b q, fun w => by obtain ⟨o, e⟩ := F.felt b q; rw [w, hfe] at e; cases e⟩) rfl (fun b q => F.hlt b q.1) F.ns ⟨F.hl, hL⟩ (fun x cc y q => ⟨⟨(F.hc x cc y q).1, hC x cc y q⟩, (F.hc x cc y q).2⟩) F.cl (fun i x t h1 h2 => ?_) (fun i b e => ?_) (fun i i' b e e' => ?_)
    (F.sto.chg (a := a) (fun b o _ e => e) nm le rfl fun n b e => ⟨F.sto.hidden e, fun z => nm n (z ▸ e)⟩)
  · rcases get_set h2 with ⟨rfl, rfl⟩ | ⟨ne, h2⟩
    · rw [hy] at h1; cases h1
      refine ⟨_, nv, ?_⟩
      obtain ⟨o, n, e, c1, d1, f1⟩ := l
      simp only [RepE, Rep]
      exact ⟨z, a, vs, n, rfl, ⟨fun w => w.2 rfl, o, e, c1, d1, f1, .inl rfl, fun ⟨_, z⟩ => by cases z⟩, RepL.mono le r⟩
    · obtain ⟨w, nw, rw'⟩ := F.vals i x t h1 h2
      exact ⟨w, nw, rw'.mono le (fun b e => by show (if i = j then none else H.o i) = some b; rw [if_neg ne]; exact e) fun _ _ _ l => l⟩
  · have e : (if i = j then none else H.o i) = some b := e
    split at e
    · cases e
    · rename_i ne
      obtain ⟨p, q, r, ws, l⟩ := F.own i b e
      exact ⟨⟨p, fun w => ne (F.oinj i j b e (w ▸ ho))⟩, q, r, ws, l⟩
  · have e : (if i = j then none else H.o i) = some b := e
    have e' : (if i' = j then none else H.o i') = some b := e'
    split at e
    · cases e
    · split at e'
      · cases e'
      · exact F.oinj i i' b e e'

/-- a thing of another kind turns -/
theorem Fm.touchV {a : Addr} {o : Obj} {fs : Array Value} (F : Fm c Fr ns env st fe H h) (hk : ∀ b o, b ≠ a → h.get? b = some o → h'.get? b = some o)
    (hfe : fe.h.get? a = none) (ho : h.get? a = some o) (hd : o.data = .fields fs) (hcl : ¬ okC o.cls) (hl : ¬ H.p a) : Fm c Fr ns env st fe H h' := by
  have le : (vis h H).Le (vis h' H) := ⟨by
    rintro x cc d ⟨n, o', e, r⟩
    refine ⟨n, o', hk x o' (fun z => ?_) e, r⟩
    rw [z, ho] at e; cases e
    exact hcl (r.1 ▸ r.2.2.2.1), fun _ _ e => e⟩
  have nsk : ∀ {b m}, h.Ns b m → h'.Ns b m := fun {b m} n => by
    obtain ⟨ob, es, ep, e, d, r⟩ := n
    refine ⟨ob, es, ep, hk b ob (fun z => ?_) e, d, r⟩
    rw [z, ho] at e; cases e; rw [hd] at d; cases d
  have clk : ∀ {b v}, h.IsCell b v → h'.IsCell b v := fun {b v} n => by
    obtain ⟨ob, e, d⟩ := n
    refine ⟨ob, hk b ob (fun z => ?_) e, d⟩
    rw [z, ho] at e; cases e; rw [hd] at d; cases d
  have lk : ∀ {b vs}, IsL h b vs → IsL h' b vs := fun {b vs} n => by
    obtain ⟨ob, m, e, c1, d, r⟩ := n
    refine ⟨ob, m, hk b ob (fun z => ?_) e, c1, d, r⟩
    rw [z, ho] at e; cases e; rw [hd] at d; cases d
  have nvk : ∀ {x v}, NV h env x v → NV h' env x v := fun {x v} n => by
    rcases n with ⟨k1, m, n, e⟩ | ⟨k1, cc, e, n⟩
    · exact .inl ⟨k1, m, nsk n, e⟩
    · exact .inr ⟨k1, cc, e, clk n⟩
  exact F.chg (H' := H) (ρ' := st.ρ) hk hfe F.hle rfl (fun b z => by
      have hb : b ≠ a := fun y => hl (y ▸ z)
      obtain ⟨o', e⟩ := F.hlt b z; exact ⟨o', hk b o' hb e⟩) (let ⟨m, n⟩ := F.ns; ⟨m, nsk n⟩) F.hl F.hc (fun x z => let ⟨cc, v, e, n⟩ := F.cl x z; ⟨cc, v, e, clk n⟩)
    (fun i x t h1 h2 => let ⟨v, n, r⟩ := F.vals i x t h1 h2; ⟨v, nvk n, r.mono le (fun _ e => e) fun _ _ _ l => lk l⟩) (fun i b e => let ⟨p, q, r, ws, l⟩ := F.own i b e; ⟨p, q, r, ws, lk l⟩) F.oinj
    (F.sto.chg hk (fun n e => hl (F.sto.hidden e)) le rfl fun n b e => F.sto.hidden e)

/-- a hidden thing that is no part of the frame is let go -/
theorem Fm.drop {a : Addr} (F : Fm c Fr ns env st fe (H.add fun b => b = a) h) (hk : ∀ b o, b ≠ a → h.get? b = some o → h'.get? b = some o)
    (hfe : fe.h.get? a = none) (hL : env.locals ≠ a) (hC : ∀ x cc, env.kindOf x = some .cell → env.cells.lookup x = some cc → cc ≠ a) (hnl : ∀ vs, ¬ IsL h a vs) (hle : ∀ b, fe.H.p b → H.p b) (hH : ¬ H.p a) (nm : ∀ n, H.m n ≠ some a) : Fm c Fr ns env st fe H h' := by
  have le : (vis h (H.add fun b => b = a)).Le (vis h' H) := ⟨by
    rintro x cc d ⟨n, o, e, r⟩
    exact ⟨fun z => n (.inl z), o, hk x o (fun z => n (.inr z)) e, r⟩, fun _ _ e => e⟩
  have nsk : ∀ {m}, h.Ns env.locals m → h'.Ns env.locals m := fun {m} n => by
    obtain ⟨ob, es, ep, e, d, r⟩ := n
    exact ⟨ob, es, ep, hk _ ob hL e, d, r⟩
  have clk : ∀ {x b v}, env.kindOf x = some .cell → env.cells.lookup x = some b → h.IsCell b v → h'.IsCell b v := fun {x b v} qk q n => by
    obtain ⟨ob, e, d⟩ := n
    exact ⟨ob, hk b ob (hC x b qk q) e, d⟩
  have lk : ∀ {b vs}, IsL h b vs → IsL h' b vs := fun {b vs} n => n.at' fun o e => hk b o (fun z => hnl vs (z ▸ n)) e
  have nvk : ∀ {x v}, NV h env x v → NV h' env x v := fun {x v} n => by
    rcases n with ⟨k1, m, n, e⟩ | ⟨k1, cc, e, n⟩
    · exact .inl ⟨k1, m, nsk n, e⟩
    · exact .inr ⟨k1, cc, e, clk k1 e n⟩
  exact F.chg (H' := H) (ρ' := st.ρ) hk hfe hle rfl (fun b z => by
      have hb : b ≠ a := fun y => hH (y ▸ z)
      obtain ⟨o', e⟩ := F.hlt b (.inl z); exact ⟨o', hk b o' hb e⟩) (let ⟨m, n⟩ := F.ns; ⟨m, nsk n⟩) (F.hl.resolve_right hL) (fun x cc y z => ⟨(F.hc x cc y z).1.resolve_right (hC x cc y z), (F.hc x cc y z).2⟩) (fun x z => let ⟨cc, v, e, n⟩ := F.cl x z; ⟨cc, v, e, clk z e n⟩)
    (fun i x t h1 h2 => let ⟨v, n, r⟩ := F.vals i x t h1 h2; ⟨v, nvk n, r.mono le (fun _ e => e) fun _ _ _ l => lk l⟩) (fun i b e => let ⟨p, q, r, ws, l⟩ := F.own i b e; ⟨p.resolve_right fun z => hnl ws (z ▸ l), q, r, ws, lk l⟩) F.oinj
    (F.sto.chg hk nm le rfl fun n b e => (F.sto.hidden e).resolve_right fun z => nm n (z ▸ e))
end

section
variable {c : Cx} {q : Bool} {k : Nat} {A : Around} {H : Hd} {env : Env} {ns : List Str} {st : Fs} {fe : FE} {s : Shared}

theorem wp_store {i : Nat} {x : Str} {v : Value} {t : Ent} {Q : Unit → Shared → Prop} {E : Value → Shared → Prop} (F : Fm c (FrA A) ns env st fe H s.heap) (hx : ns[i]? = some x) (hnd : OneName ns i x) (hk : env.kindOf x = some .local ∨ env.kindOf x = some .cell)
    (r : RepE s.heap H i v t)
    (h : ∀ h' tk, Fm c (FrA A) ns env { st with ρ := st.ρ.set i (some t) } fe H h' → Kv (FrA A) H.p s.heap h' → Nf s.heap h' → (∃ a, (a = env.locals ∨ ∃ y, env.kindOf y = some .cell ∧ env.cells.lookup y = some a) ∧ Heap.SameBut a s.heap h') → Q () { s with heap := h', toks := tk }) : wpAny c.M A (storeName env x v) Q E s := by
  rcases hk with hk | hk
  · obtain ⟨m, hm⟩ := F.ns
    refine wpAny_storeName_local hk hm (fun h' hn hs => ?_) (by rw [F.kind]; rfl)
    refine h h' _ (fm_store (v := v) F hx hnd hs F.hl F.lnew (not_isL_ns hm) (F.sto.notNs hm) (let ⟨o, _, _, e, _⟩ := hn; ⟨o, e⟩) (.inl ⟨hk, _, hn, by simp⟩) ?_ ⟨_, hn⟩ ?_ r) (Kv.of_sameBut hs F.hl) ?_ ⟨_, .inl rfl, hs⟩
    · rintro y w hy (⟨ky, m', n', e'⟩ | ⟨ky, cc, ec, n'⟩)
      · rw [Ns_uniq hm n'] at hn
        exact .inl ⟨ky, _, hn, by simp [hy, e']⟩
      · refine .inr ⟨ky, cc, ec, n'.sameBut hs fun z => ?_⟩
        obtain ⟨o, e, d⟩ := n'
        obtain ⟨o', _, _, e', d', _⟩ := hm
        rw [z, e'] at e; cases e; rw [d'] at d; cases d
    · intro y hy
      obtain ⟨cc, w, ec, n'⟩ := F.cl y hy
      refine ⟨cc, w, ec, n'.sameBut hs fun z => ?_⟩
      obtain ⟨o, e, d⟩ := n'
      obtain ⟨o', _, _, e', d', _⟩ := hm
      rw [z, e'] at e; cases e; rw [d'] at d; cases d
    · intro b o e nf
      by_cases hb : b = env.locals
      · obtain ⟨o', _, _, e', d', _⟩ := hn
        exact ⟨o', hb ▸ e', fun vs z => by rw [d'] at z; cases z⟩
      · exact ⟨o, (hs.2 b hb).trans e, nf⟩
  · obtain ⟨cc, v₀, hc, hcell⟩ := F.cl x hk
    obtain ⟨m, hm⟩ := F.ns
    refine wpAny_storeName_cell F.kind hk hc hcell fun h' hv hs => ?_
    have hLc : env.locals ≠ cc := fun z => by
      obtain ⟨o, e, d⟩ := hcell
      obtain ⟨o', _, _, e', d', _⟩ := hm
      rw [← z, e'] at e; cases e; rw [d'] at d; cases d
    refine h h' s.toks (fm_store (v := v) F hx hnd hs (F.hc x cc hk hc).1 (F.hc x cc hk hc).2 (not_isL_cell hcell) (F.sto.notCell hcell) (let ⟨o, e, _⟩ := hv; ⟨o, e⟩) (.inr ⟨hk, cc, hc, hv⟩) ?_ ⟨m, hm.sameBut hs hLc⟩ ?_ r) (Kv.of_sameBut hs (F.hc x cc hk hc).1) ?_ ⟨_, .inr ⟨x, hk, hc⟩, hs⟩
    · rintro y w hy (⟨ky, m', n', e'⟩ | ⟨ky, cy, ey, n'⟩)
      · exact .inl ⟨ky, m', n'.sameBut hs hLc, e'⟩
      · exact .inr ⟨ky, cy, ey, n'.sameBut hs fun z => hy (F.capart y x cc (z ▸ ey) hc)⟩
    · intro y hy
      obtain ⟨cy, w, ey, n'⟩ := F.cl y hy
      by_cases hyx : y = x
      · subst hyx; exact ⟨cc, _, hc, hv⟩
      · exact ⟨cy, w, ey, n'.sameBut hs fun z => hyx (F.capart y x cc (z ▸ ey) hc)⟩
    · intro b o e nf
      by_cases hb : b = cc
      · obtain ⟨o', e', d'⟩ := hv
        exact ⟨o', hb ▸ e', fun vs z => by rw [d'] at z; cases z⟩
      · exact ⟨o, (hs.2 b hb).trans e, nf⟩
end
end Mine
end
section
open PySem PySem.W PyProof.Rows
set_option linter.unusedVariables false
namespace Mine

mutual
inductive PS where
  | expr (e : PE)
  | assign (i : Nat) (e : PE)
  | ownl (i : Nat) (xs : PEs)
  | eaug (i : Nat) (op : Operator) (e : PE)
  | ometh (i : Nat) (m : OMI) (xs : PEs) (fz : Option Nat)
  | ite (t : PE) (a b : PSs)
  | for_ (i : Nat) (src : PE) (body : PSs)
  | ret (e : PE)
  | retOwn (i : Nat)
  | brk
  | cont
  | try_ (body : PSs) (hs : PHs)
inductive PSs where
  | nil
  | cons (s : PS) (r : PSs)
  | frz (i : Nat) (r : PSs)
inductive PHs where
  | nil
  | cons (x : EX) (body : PSs) (r : PHs)
end

inductive FR where
  | next (st : Fs)
  | brk (st : Fs)
  | cont (st : Fs)
  | ret (v : AV) (σ : Store)
  | exc (x : EX) (st : Fs)
  | stuck

noncomputable def forF (f : AV → Fs → FR) : List AV → Fs → FR
  | [], st => .next st
  | x :: r, st => match f x st with
    | .next st' => forF f r st'
    | .cont st' => forF f r st'
    | .brk st' => .next st'
    | .ret v σ => .ret v σ
    | .exc _ _ => .stuck
    | .stuck => .stuck
abbrev Fs.set (st : Fs) (i : Nat) (t : Ent) : Fs := { st with ρ := st.ρ.set i (some t) }
/-- the result of an expression in a statement -/
noncomputable def resS (r : ER) (st : Fs) (f : AV → Fs → FR) : FR := match r with
  | .ok (.av v) σ => f v (st.at σ)
  | .ok (.own _) _ => .stuck
  | .exc x σ => .exc x (st.at σ)
  | .stuck => .stuck
noncomputable def ownOf (st : Fs) (i : Nat) : Option (List AV) := match st.ρ[i]? with
  | some (some (.own xs)) => some xs
  | _ => none
section
variable (O : OpsF) (cal : Cal)
noncomputable def omethF (st : Fs) (i : Nat) (m : OMI) (r : Option (List OV × Store)) : FR := match r with
  | some (ol, σ) => (match plains ol, ownOf st i with
    | some l, some xs => (match O.ometh m xs l with
      | some xs' => .next ((st.at σ).set i (.own xs'))
      | none => .stuck)
    | _, _ => .stuck)
  | none => .stuck
mutual
noncomputable def px (q : Bool) (st : Fs) : PS → FR
  | .expr e => resS (pe O cal q st e).v st fun _ st' => .next st'
  | .assign i e => resS (pe O cal q st e).v st fun v st' => .next (st'.set i (.val v))
  | .ownl i xs => match pes O cal q st xs with
    | some (ol, σ) => (match plains ol with
      | some l => if l.length ≤ 100 then .next ((st.at σ).set i (.own l)) else .stuck
      | none => .stuck)
    | none => .stuck
  | .eaug i op e => match q, slotV st i, (pe O cal q st e).v with
    | true, .ok (.av a) _, .ok (.av b) σ => resS (O.einpl op σ st.lo a b) st fun v st' => .next (st'.set i (.val v))
    | _, _, _ => .stuck
  | .ometh i m xs fz => match q with
    | true => (match fz with
      | none => omethF O st i m (pes O cal true st xs)
      | some j => (match ownOf st j with
        | some ys => omethF O (st.set j (.val (.lst ys))) i m (pes O cal true (st.set j (.val (.lst ys))) xs)
        | none => .stuck))
    | false => .stuck
  | .ite t a b => match (pe O cal q st t).t with
    | some (true, σ) => pxs q (st.at σ) a
    | some (false, σ) => pxs q (st.at σ) b
    | none => .stuck
  | .for_ i src body => match q, (pe O cal q st src).v with
    | true, .ok (.av v) σ => (match O.items v with | some l => forF (fun x st => pxs true (st.set i (.val x)) body) l (st.at σ) | none => .stuck)
    | _, _ => .stuck
  | .ret e => resS (pe O cal q st e).v st fun v st' => .ret v st'.σ
  | .retOwn i => match ownOf st i with
    | some xs => .ret (.lst xs) st.σ
    | none => .stuck
  | .brk => .brk st
  | .cont => .cont st
  | .try_ body hs => match q with
    | true => (match pxs true st body with
      | .exc x st' => phs x st' hs
      | r => r)
    | false => .stuck
noncomputable def pxs (q : Bool) (st : Fs) : PSs → FR
  | .nil => .next st
  | .cons s r => match px q st s with
    | .next st' => pxs q st' r
    | f => f
  | .frz i r => match ownOf st i with
    | some ys => pxs q (st.set i (.val (.lst ys))) r
    | none => .stuck
noncomputable def phs (x : EX) (st : Fs) : PHs → FR
  | .nil => .stuck
  | .cons y body r => if x = y then (match pxs false st body with | .exc _ _ => .stuck | f => f) else phs x st r
end
end

noncomputable def nameAt (ks : List (Str × NameKind)) (ns : List Str) (i : Nat) (x : Str) : Bool :=
  ns[i]? == some x && (ks.lookup x == some .local || ks.lookup x == some .cell) && (List.range ns.length).all fun j => j == i || !(ns[j]? == some x)
noncomputable def isComp : PE → Bool
  | .comp .. => true
  | .compS .. => true
  | _ => false
noncomputable def isSC : PE → Bool
  | .compS .. => true
  | _ => false
/-- what is looked at of a statement -/
structure SH where
  expr : Expr → Bool := fun _ => false
  assign : List Expr → Expr → Bool := fun _ _ => false
  aug : Expr → Operator → Expr → Bool := fun _ _ _ => false
  iff : Expr → List Stmt → List Stmt → Bool := fun _ _ _ => false
  fo : Expr → Expr → List Stmt → List Stmt → Bool := fun _ _ _ _ => false
  wh : Expr → List Stmt → List Stmt → Bool := fun _ _ _ => false
  ret : Option Expr → Bool := fun _ => false
  brk : Bool := false
  cont : Bool := false
  pass : Bool := false
  tr : List Stmt → List ExceptHandler → List Stmt → List Stmt → Bool := fun _ _ _ _ => false
  raise : Option Expr → Option Expr → Bool := fun _ _ => false
noncomputable def onS (h : SH) : Stmt → Bool
  | .Expr e _ => h.expr e
  | .Assign ts e _ => h.assign ts e
  | .AugAssign t o e _ => h.aug t o e
  | .If t a b _ => h.iff t a b
  | .For t i a b _ => h.fo t i a b
  | .While t a b _ => h.wh t a b
  | .Return e _ => h.ret e
  | .Break _ => h.brk
  | .Continue _ => h.cont
  | .Pass _ => h.pass
  | .Try a b c d _ => h.tr a b c d
  | .Raise a b _ => h.raise a b
  | _ => false
section
variable {sm : Stmt}
theorem onS_elim {h : SH} {P : Stmt → Prop} {sm : Stmt} (he : onS h sm = true) (h0 : ∀ e p, h.expr e = true → P (.Expr e p)) (h1 : ∀ ts e p, h.assign ts e = true → P (.Assign ts e p)) (h2 : ∀ t o e p, h.aug t o e = true → P (.AugAssign t o e p)) (h3 : ∀ t a b p, h.iff t a b = true → P (.If t a b p)) (h4 : ∀ t i a b p, h.fo t i a b = true → P (.For t i a b p)) (h5 : ∀ t a b p, h.wh t a b = true → P (.While t a b p)) (h6 : ∀ e p, h.ret e = true → P (.Return e p)) (h7 : ∀ p, h.brk = true → P (.Break p)) (h8 : ∀ p, h.cont = true → P (.Continue p)) (h9 : ∀ p, h.pass = true → P (.Pass p)) (h10 : ∀ a b c d p, h.tr a b c d = true → P (.Try a b c d p)) (h11 : ∀ a b p, h.raise a b = true → P (.Raise a b p)) : P sm := by
  cases sm with
  | Expr e p => exact h0 e p he
  | Assign ts e p => exact h1 ts e p he
  | AugAssign t o e p => exact h2 t o e p he
  | If t a b p => exact h3 t a b p he
  | For t i a b p => exact h4 t i a b p he
  | While t a b p => exact h5 t a b p he
  | Return e p => exact h6 e p he
  | Break p => exact h7 p he
  | Continue p => exact h8 p he
  | Pass p => exact h9 p he
  | Try a b c d p => exact h10 a b c d p he
  | Raise a b p => exact h11 a b p he
  | _ => exact (Bool.false_ne_true he).elim
theorem onS_expr {f} (h : onS { expr := f } sm = true) : ∃ e p, sm = .Expr e p ∧ f e = true :=
  onS_elim (P := fun sm => ∃ e p, sm = .Expr e p ∧ f e = true) h (fun e p z => ⟨e, p, rfl, z⟩) (fun _ _ _ z => (Bool.false_ne_true z).elim) (fun _ _ _ _ z => (Bool.false_ne_true z).elim) (fun _ _ _ _ z => (Bool.false_ne_true z).elim) (fun _ _ _ _ _ z => (Bool.false_ne_true z).elim) (fun _ _ _ _ z => (Bool.false_ne_true z).elim) (fun _ _ z => (Bool.false_ne_true z).elim) (fun _ z => (Bool.false_ne_true z).elim) (fun _ z => (Bool.false_ne_true z).elim) (fun _ z => (Bool.false_ne_true z).elim) (fun _ _ _ _ _ z => (Bool.false_ne_true z).elim) (fun _ _ _ z => (Bool.false_ne_true z).elim)
theorem onS_assign {f} (h : onS { assign := f } sm = true) : ∃ ts e p, sm = .Assign ts e p ∧ f ts e = true :=
  onS_elim (P := fun sm => ∃ ts e p, sm = .Assign ts e p ∧ f ts e = true) h (fun _ _ z => (Bool.false_ne_true z).elim) (fun ts e p z => ⟨ts, e, p, rfl, z⟩) (fun _ _ _ _ z => (Bool.false_ne_true z).elim) (fun _ _ _ _ z => (Bool.false_ne_true z).elim) (fun _ _ _ _ _ z => (Bool.false_ne_true z).elim) (fun _ _ _ _ z => (Bool.false_ne_true z).elim) (fun _ _ z => (Bool.false_ne_true z).elim) (fun _ z => (Bool.false_ne_true z).elim) (fun _ z => (Bool.false_ne_true z).elim) (fun _ z => (Bool.false_ne_true z).elim) (fun _ _ _ _ _ z => (Bool.false_ne_true z).elim) (fun _ _ _ z => (Bool.false_ne_true z).elim)
theorem onS_aug {f} (h : onS { aug := f } sm = true) : ∃ t o e p, sm = .AugAssign t o e p ∧ f t o e = true :=
  onS_elim (P := fun sm => ∃ t o e p, sm = .AugAssign t o e p ∧ f t o e = true) h (fun _ _ z => (Bool.false_ne_true z).elim) (fun _ _ _ z => (Bool.false_ne_true z).elim) (fun t o e p z => ⟨t, o, e, p, rfl, z⟩) (fun _ _ _ _ z => (Bool.false_ne_true z).elim) (fun _ _ _ _ _ z => (Bool.false_ne_true z).elim) (fun _ _ _ _ z => (Bool.false_ne_true z).elim) (fun _ _ z => (Bool.false_ne_true z).elim) (fun _ z => (Bool.false_ne_true z).elim) (fun _ z => (Bool.false_ne_true z).elim) (fun _ z => (Bool.false_ne_true z).elim) (fun _ _ _ _ _ z => (Bool.false_ne_true z).elim) (fun _ _ _ z => (Bool.false_ne_true z).elim)
theorem onS_iff {f} (h : onS { iff := f } sm = true) : ∃ t a b p, sm = .If t a b p ∧ f t a b = true :=
  onS_elim (P := fun sm => ∃ t a b p, sm = .If t a b p ∧ f t a b = true) h (fun _ _ z => (Bool.false_ne_true z).elim) (fun _ _ _ z => (Bool.false_ne_true z).elim) (fun _ _ _ _ z => (Bool.false_ne_true z).elim) (fun t a b p z => ⟨t, a, b, p, rfl, z⟩) (fun _ _ _ _ _ z => (Bool.false_ne_true z).elim) (fun _ _ _ _ z => (Bool.false_ne_true z).elim) (fun _ _ z => (Bool.false_ne_true z).elim) (fun _ z => (Bool.false_ne_true z).elim) (fun _ z => (Bool.false_ne_true z).elim) (fun _ z => (Bool.false_ne_true z).elim) (fun _ _ _ _ _ z => (Bool.false_ne_true z).elim) (fun _ _ _ z => (Bool.false_ne_true z).elim)
theorem onS_fo {f} (h : onS { fo := f } sm = true) : ∃ t i a b p, sm = .For t i a b p ∧ f t i a b = true :=
  onS_elim (P := fun sm => ∃ t i a b p, sm = .For t i a b p ∧ f t i a b = true) h (fun _ _ z => (Bool.false_ne_true z).elim) (fun _ _ _ z => (Bool.false_ne_true z).elim) (fun _ _ _ _ z => (Bool.false_ne_true z).elim) (fun _ _ _ _ z => (Bool.false_ne_true z).elim) (fun t i a b p z => ⟨t, i, a, b, p, rfl, z⟩) (fun _ _ _ _ z => (Bool.false_ne_true z).elim) (fun _ _ z => (Bool.false_ne_true z).elim) (fun _ z => (Bool.false_ne_true z).elim) (fun _ z => (Bool.false_ne_true z).elim) (fun _ z => (Bool.false_ne_true z).elim) (fun _ _ _ _ _ z => (Bool.false_ne_true z).elim) (fun _ _ _ z => (Bool.false_ne_true z).elim)
theorem onS_ret {f} (h : onS { ret := f } sm = true) : ∃ e p, sm = .Return e p ∧ f e = true :=
  onS_elim (P := fun sm => ∃ e p, sm = .Return e p ∧ f e = true) h (fun _ _ z => (Bool.false_ne_true z).elim) (fun _ _ _ z => (Bool.false_ne_true z).elim) (fun _ _ _ _ z => (Bool.false_ne_true z).elim) (fun _ _ _ _ z => (Bool.false_ne_true z).elim) (fun _ _ _ _ _ z => (Bool.false_ne_true z).elim) (fun _ _ _ _ z => (Bool.false_ne_true z).elim) (fun e p z => ⟨e, p, rfl, z⟩) (fun _ z => (Bool.false_ne_true z).elim) (fun _ z => (Bool.false_ne_true z).elim) (fun _ z => (Bool.false_ne_true z).elim) (fun _ _ _ _ _ z => (Bool.false_ne_true z).elim) (fun _ _ _ z => (Bool.false_ne_true z).elim)
theorem onS_brk (h : onS { brk := true } sm = true) : ∃ p, sm = .Break p :=
  onS_elim (P := fun sm => ∃ p, sm = .Break p) h (fun _ _ z => (Bool.false_ne_true z).elim) (fun _ _ _ z => (Bool.false_ne_true z).elim) (fun _ _ _ _ z => (Bool.false_ne_true z).elim) (fun _ _ _ _ z => (Bool.false_ne_true z).elim) (fun _ _ _ _ _ z => (Bool.false_ne_true z).elim) (fun _ _ _ _ z => (Bool.false_ne_true z).elim) (fun _ _ z => (Bool.false_ne_true z).elim) (fun p z => ⟨p, rfl⟩) (fun _ z => (Bool.false_ne_true z).elim) (fun _ z => (Bool.false_ne_true z).elim) (fun _ _ _ _ _ z => (Bool.false_ne_true z).elim) (fun _ _ _ z => (Bool.false_ne_true z).elim)
theorem onS_cont (h : onS { cont := true } sm = true) : ∃ p, sm = .Continue p :=
  onS_elim (P := fun sm => ∃ p, sm = .Continue p) h (fun _ _ z => (Bool.false_ne_true z).elim) (fun _ _ _ z => (Bool.false_ne_true z).elim) (fun _ _ _ _ z => (Bool.false_ne_true z).elim) (fun _ _ _ _ z => (Bool.false_ne_true z).elim) (fun _ _ _ _ _ z => (Bool.false_ne_true z).elim) (fun _ _ _ _ z => (Bool.false_ne_true z).elim) (fun _ _ z => (Bool.false_ne_true z).elim) (fun _ z => (Bool.false_ne_true z).elim) (fun p z => ⟨p, rfl⟩) (fun _ z => (Bool.false_ne_true z).elim) (fun _ _ _ _ _ z => (Bool.false_ne_true z).elim) (fun _ _ _ z => (Bool.false_ne_true z).elim)
theorem onS_tr {f} (h : onS { tr := f } sm = true) : ∃ a b c d p, sm = .Try a b c d p ∧ f a b c d = true :=
  onS_elim (P := fun sm => ∃ a b c d p, sm = .Try a b c d p ∧ f a b c d = true) h (fun _ _ z => (Bool.false_ne_true z).elim) (fun _ _ _ z => (Bool.false_ne_true z).elim) (fun _ _ _ _ z => (Bool.false_ne_true z).elim) (fun _ _ _ _ z => (Bool.false_ne_true z).elim) (fun _ _ _ _ _ z => (Bool.false_ne_true z).elim) (fun _ _ _ _ z => (Bool.false_ne_true z).elim) (fun _ _ z => (Bool.false_ne_true z).elim) (fun _ z => (Bool.false_ne_true z).elim) (fun _ z => (Bool.false_ne_true z).elim) (fun _ z => (Bool.false_ne_true z).elim) (fun a b c d p z => ⟨a, b, c, d, p, rfl, z⟩) (fun _ _ _ z => (Bool.false_ne_true z).elim)
/-- one name is assigned -/
noncomputable def onA1 (sm : Stmt) (f : Str → Expr → Bool) : Bool := onS { assign := fun ts e => one? ts fun t => onE { name := fun x => f x e } t } sm
theorem onA1_eq {f} (h : onA1 sm f = true) : ∃ x px e p, sm = .Assign [.Name x px] e p ∧ f x e = true := by
  obtain ⟨ts, e, p, rfl, h⟩ := onS_assign h
  obtain ⟨t, rfl, h⟩ := one?_eq h
  obtain ⟨x, px, rfl, h⟩ := onE_name h
  exact ⟨x, px, e, p, rfl, h⟩
end
noncomputable def opt? {α : Type} (l : Option α) (f : α → Bool) : Bool := match l with
  | some x => f x
  | none => false
theorem opt?_eq {α : Type} {l : Option α} {f : α → Bool} (h : opt? l f = true) : ∃ x, l = some x ∧ f x = true := by
  cases l with
  | some x => exact ⟨x, rfl, h⟩
  | none => cases h
noncomputable def non? {α : Type} (l : Option α) (b : Bool) : Bool := match l with
  | some _ => false
  | none => b
theorem non?_eq {α : Type} {l : Option α} {b : Bool} (h : non? l b = true) : l = none ∧ b = true := by
  cases l with
  | some x => cases h
  | none => exact ⟨rfl, h⟩
noncomputable def onHd (l : List ExceptHandler) (f : Str → List Stmt → List ExceptHandler → Bool) : Bool := match l with
  | [] => false
  | .ExceptHandler t n b _ :: r => opt? t fun t => non? n (onE { name := fun x => !b.isEmpty && f x b r } t)
theorem onHd_eq {l} {f} (h : onHd l f = true) : ∃ x px b₀ su p r, l = .ExceptHandler (some (.Name x px)) none (b₀ :: su) p :: r ∧ f x (b₀ :: su) r = true := by
  rcases l with _ | ⟨⟨t, n, b, p⟩, r⟩
  · cases h
  · obtain ⟨t, rfl, h⟩ := opt?_eq h
    obtain ⟨rfl, h⟩ := non?_eq h
    obtain ⟨x, px, rfl, h⟩ := onE_name h
    rcases b with _ | ⟨b₀, su⟩
    · cases h
    · exact ⟨x, px, b₀, su, p, r, rfl, h⟩

section
variable (frees : List Str) (fname : Nat → Str) (ks : List (Str × NameKind)) (ns : List Str)
mutual
noncomputable def encS : PS → Stmt → Bool
  | .expr e, st => onS { expr := fun ex => encE frees fname ks ns e ex && !(isComp e) } st
  | .assign i e, st => onA1 st fun x ex => nameAt ks ns i x && encE frees fname ks ns e ex && !(isSC e)
  | .ownl i xs, st => onA1 st fun x ex => onE { list := fun es => nameAt ks ns i x && encEs frees fname ks ns xs es } ex
  | .eaug i op e, st => onS { aug := fun t op' ex => onE { name := fun x => nameAt ks ns i x && !(x == ("__debug__" : Str)) && op == op' && encE frees fname ks ns e ex } t } st
  | .ometh i m xs _, st => onS { expr := fun ex => onMC ex fun o n apos es pos => onE { name := fun x => nameAt ks ns i x && !(x == ("__debug__" : Str)) && n == Str.ofString m.name && apos.endLine == pos.line && decide (es.length < 20) && !es.isEmpty && encEs frees fname ks ns xs es } o } st
  | .ite t a b, st => onS { iff := fun t' a' b' => encE frees fname ks ns t t' && encSs a a' && encSs b b' } st
  | .for_ i src body, st => onS { fo := fun t it body' els => onE { name := fun x => nil? els (nameAt ks ns i x && !(isSetd src) && encE frees fname ks ns src it && encSs body body') } t } st
  | .ret e, st => onS { ret := fun o => opt? o fun ex => encE frees fname ks ns e ex } st
  | .retOwn i, st => onS { ret := fun o => opt? o fun ex => onE { name := fun x => ns[i]? == some x && !(x == ("__debug__" : Str)) } ex } st
  | .brk, st => onS { brk := true } st
  | .cont, st => onS { cont := true } st
  | .try_ body hs, st => onS { tr := fun body' hs' els fin => nil? els (nil? fin (encSs body body' && encHs hs hs' && !hs'.isEmpty)) } st
noncomputable def encSs : PSs → List Stmt → Bool
  | .nil, l => (match l with | [] => true | _ => false)
  | .cons s r, l => (match l with | s' :: r' => encS s s' && encSs r r' | _ => false)
  | .frz _ r, l => encSs r l
noncomputable def encHs : PHs → List ExceptHandler → Bool
  | .nil, l => (match l with | [] => true | _ => false)
  | .cons y body r, l => onHd l fun x b r' => x == Str.ofString y.name && isGlob ks x && frees.contains x && encSs body b && encHs r r'
end
end
/- equations -/
section
variable {O : OpsF} {cal : Cal} {q : Bool} {st : Fs}
theorem qx_expr {e} : px O cal q st (.expr e) = resS (pe O cal q st e).v st fun _ st' => .next st' := rfl
theorem qx_assign {i e} : px O cal q st (.assign i e) = resS (pe O cal q st e).v st fun v st' => .next (st'.set i (.val v)) := rfl
theorem qx_ownl {i xs} : px O cal q st (.ownl i xs) = match pes O cal q st xs with
    | some (ol, σ) => (match plains ol with
      | some l => if l.length ≤ 100 then .next ((st.at σ).set i (.own l)) else .stuck
      | none => .stuck)
    | none => .stuck := rfl
theorem qx_eaug {i op e} : px O cal q st (.eaug i op e) = match q, slotV st i, (pe O cal q st e).v with
    | true, .ok (.av a) _, .ok (.av b) σ => resS (O.einpl op σ st.lo a b) st fun v st' => .next (st'.set i (.val v))
    | _, _, _ => .stuck := rfl
theorem qx_ometh {i m xs fz} : px O cal q st (.ometh i m xs fz) = match q with
    | true => (match fz with
      | none => omethF O st i m (pes O cal true st xs)
      | some j => (match ownOf st j with
        | some ys => omethF O (st.set j (.val (.lst ys))) i m (pes O cal true (st.set j (.val (.lst ys))) xs)
        | none => .stuck))
    | false => .stuck := rfl
theorem qx_ite {t a b} : px O cal q st (.ite t a b) = match (pe O cal q st t).t with
    | some (true, σ) => pxs O cal q (st.at σ) a
    | some (false, σ) => pxs O cal q (st.at σ) b
    | none => .stuck := rfl
theorem qx_for_ {i src body} : px O cal q st (.for_ i src body) = match q, (pe O cal q st src).v with
    | true, .ok (.av v) σ => (match O.items v with | some l => forF (fun x st => pxs O cal true (st.set i (.val x)) body) l (st.at σ) | none => .stuck)
    | _, _ => .stuck := rfl
theorem qx_ret {e} : px O cal q st (.ret e) = resS (pe O cal q st e).v st fun v st' => .ret v st'.σ := rfl
theorem qx_retOwn {i} : px O cal q st (.retOwn i) = match ownOf st i with
    | some xs => .ret (.lst xs) st.σ
    | none => .stuck := rfl
theorem qx_try_ {body hs} : px O cal q st (.try_ body hs) = match q with
    | true => (match pxs O cal true st body with
      | .exc x st' => phs O cal x st' hs
      | r => r)
    | false => .stuck := rfl
theorem qxs_nil : pxs O cal q st .nil = .next st := rfl
theorem qxs_cons {s r} : pxs O cal q st (.cons s r) = match px O cal q st s with
    | .next st' => pxs O cal q st' r
    | f => f := rfl
theorem qxs_frz {i r} : pxs O cal q st (.frz i r) = match ownOf st i with
    | some ys => pxs O cal q (st.set i (.val (.lst ys))) r
    | none => .stuck := rfl
theorem qh_nil {x₀ : EX} : phs O cal x₀ st .nil = .stuck := rfl
theorem qh_cons {x₀ : EX} {y body r} : phs O cal x₀ st (.cons y body r) = if x₀ = y then (match pxs O cal false st body with | .exc _ _ => .stuck | f => f) else phs O cal x₀ st r := rfl
end
section
variable {frees : List Str} {fname : Nat → Str} {ks : List (Str × NameKind)} {ns : List Str}
theorem es_expr {e st} : encS frees fname ks ns (.expr e) st = onS { expr := fun ex => encE frees fname ks ns e ex && !(isComp e) } st := rfl
theorem es_assign {i e st} : encS frees fname ks ns (.assign i e) st = onA1 st fun x ex => nameAt ks ns i x && encE frees fname ks ns e ex && !(isSC e) := rfl
theorem es_ownl {i xs st} : encS frees fname ks ns (.ownl i xs) st = onA1 st fun x ex => onE { list := fun es => nameAt ks ns i x && encEs frees fname ks ns xs es } ex := rfl
theorem es_eaug {i op e st} : encS frees fname ks ns (.eaug i op e) st = onS { aug := fun t op' ex => onE { name := fun x => nameAt ks ns i x && !(x == ("__debug__" : Str)) && op == op' && encE frees fname ks ns e ex } t } st := rfl
theorem es_ometh {i m xs u0 st} : encS frees fname ks ns (.ometh i m xs u0) st = onS { expr := fun ex => onMC ex fun o n apos es pos => onE { name := fun x => nameAt ks ns i x && !(x == ("__debug__" : Str)) && n == Str.ofString m.name && apos.endLine == pos.line && decide (es.length < 20) && !es.isEmpty && encEs frees fname ks ns xs es } o } st := rfl
theorem es_ite {t a b st} : encS frees fname ks ns (.ite t a b) st = onS { iff := fun t' a' b' => encE frees fname ks ns t t' && encSs frees fname ks ns a a' && encSs frees fname ks ns b b' } st := rfl
theorem es_for_ {i src body st} : encS frees fname ks ns (.for_ i src body) st = onS { fo := fun t it body' els => onE { name := fun x => nil? els (nameAt ks ns i x && !(isSetd src) && encE frees fname ks ns src it && encSs frees fname ks ns body body') } t } st := rfl
theorem es_ret {e st} : encS frees fname ks ns (.ret e) st = onS { ret := fun o => opt? o fun ex => encE frees fname ks ns e ex } st := rfl
theorem es_retOwn {i st} : encS frees fname ks ns (.retOwn i) st = onS { ret := fun o => opt? o fun ex => onE { name := fun x => ns[i]? == some x && !(x == ("__debug__" : Str)) } ex } st := rfl
theorem es_brk {st} : encS frees fname ks ns (.brk) st = onS { brk := true } st := rfl
theorem es_cont {st} : encS frees fname ks ns (.cont) st = onS { cont := true } st := rfl
theorem es_try_ {body hs st} : encS frees fname ks ns (.try_ body hs) st = onS { tr := fun body' hs' els fin => nil? els (nil? fin (encSs frees fname ks ns body body' && encHs frees fname ks ns hs hs' && !hs'.isEmpty)) } st := rfl
theorem ess_nil {l} : encSs frees fname ks ns (.nil) l = (match l with | [] => true | _ => false) := rfl
theorem ess_cons {s r l} : encSs frees fname ks ns (.cons s r) l = (match l with | s' :: r' => encS frees fname ks ns s s' && encSs frees fname ks ns r r' | _ => false) := rfl
theorem ess_frz {u0 r l} : encSs frees fname ks ns (.frz u0 r) l = encSs frees fname ks ns r l := rfl
theorem eh_nil {l} : encHs frees fname ks ns (.nil) l = (match l with | [] => true | _ => false) := rfl
theorem eh_cons {y body r l} : encHs frees fname ks ns (.cons y body r) l = onHd l fun x b r' => x == Str.ofString y.name && isGlob ks x && frees.contains x && encSs frees fname ks ns body b && encHs frees fname ks ns r r' := rfl
end
/- equations end -/
end Mine
end
section
open PySem PySem.W PyProof.Rows
set_option linter.unusedVariables false
set_option linter.unusedSectionVars false
namespace Mine

/-- the frame after some statements -/
structure Nx (c : Cx) (A : Around) (ns : List Str) (env : Env) (fe : FE) (st : Fs) (H : Hd) (s : Shared) (st' : Fs) (H' : Hd) (s' : Shared) : Prop where
  rest : ∃ h' tk, s' = { s with heap := h', toks := tk }
  lv : ∀ b o, s.heap.get? b = some o → ∃ o', s'.heap.get? b = some o'
  hid : ∀ b, H'.p b → H.p b ∨ s.heap.get? b = none
  kv : Kv (FrA A) H.p s.heap s'.heap
  nf : Nf s.heap s'.heap
  mx : ∀ n a, H.m n = some a → H'.m n = some a
  fm : Fm c (FrA A) ns env st' fe H' s'.heap
  len : st'.ρ.length = ns.length
  lo : st'.lo = st.lo
  n0 : st'.n0 = st.n0

section
variable {c : Cx} {A : Around} {ns : List Str} {env : Env} {fe : FE} {st st₁ st₂ : Fs} {H H₁ H₂ : Hd} {s s₁ s₂ : Shared}
theorem Nx.dead (x : Nx c A ns env fe st H s st₁ H₁ s₁) {b : Addr} (z : s₁.heap.get? b = none) : s.heap.get? b = none := by
  cases q : s.heap.get? b with
  | none => rfl
  | some o => obtain ⟨o', e'⟩ := x.lv b o q; rw [z] at e'; cases e'
theorem Nx.trans (x : Nx c A ns env fe st H s st₁ H₁ s₁) (y : Nx c A ns env fe st₁ H₁ s₁ st₂ H₂ s₂) : Nx c A ns env fe st H s st₂ H₂ s₂ where
  rest := by
    obtain ⟨h, t, rfl⟩ := x.rest
    obtain ⟨h', t', rfl⟩ := y.rest
    exact ⟨h', t', rfl⟩
  lv := fun b o e => let ⟨o', e'⟩ := x.lv b o e; y.lv b o' e'
  hid := fun b z => by
    rcases y.hid b z with z | z
    · exact x.hid b z
    · exact .inr (x.dead z)
  kv := fun b o n e => by
    have h1 : ¬ H₁.p b := fun z => by
      rcases x.hid b z with z | z
      · exact n z
      · rw [e] at z; cases z
    obtain ⟨p1, sl, p2⟩ := x.kv b o n e
    obtain ⟨q1, sl', q2⟩ := y.kv b _ h1 p2
    exact ⟨fun f => (y.kv b o h1 (p1 f)).1 f, sl', q2⟩
  nf := x.nf.trans y.nf
  mx := fun n a e => y.mx n a (x.mx n a e)
  fm := y.fm
  len := y.len
  lo := y.lo.trans x.lo
  n0 := y.n0.trans x.n0
theorem Nx.of_ss {σ' : Store} (F : Fm c (FrA A) ns env st fe H s.heap) (hlen : st.ρ.length = ns.length) (x : Ss A st.lo st.σ H s σ' H₁ s₁) : Nx c A ns env fe st H s (st.at σ') H₁ s₁ :=
  ⟨x.rest, x.lv, x.hid, x.kv.mono fun b ⟨n, mo, _, e1, e2⟩ => F.sto.hid n b mo e1 e2, x.nf, x.mx, F.ss x, hlen, rfl, rfl⟩
theorem Nx.of_kp (F : Fm c (FrA A) ns env st fe H s.heap) (hlen : st.ρ.length = ns.length) (k : Kp A s s₁) : Nx c A ns env fe st H s st H s₁ := .of_ss F hlen (.of_kp k F.sto F.hlt)
theorem Nx.vis (x : Nx c A ns env fe st H s st₁ H₁ s₁) : (vis s.heap H).Le (Mine.vis s₁.heap H₁) := ⟨by
  rintro b cc d ⟨nb, o, e, rr⟩
  obtain ⟨_, o₂, p2, rr₂⟩ := (x.kv.vis (H := H) fun _ z => z).r b cc d ⟨nb, o, e, rr⟩
  refine ⟨fun z => ?_, o₂, p2, rr₂⟩
  rcases x.hid b z with z | z
  · exact nb z
  · (rw [e] at z; cases z), x.mx⟩
end

/-- how the caller sees what has come back -/
noncomputable def retH (fe : FE) (n0 : Nat) (H' : Hd) : Hd := ⟨fun b => fe.H.p b ∨ ∃ n, n0 ≤ n ∧ H'.m n = some b, H'.m, fe.H.o⟩
/-- what comes back -/
structure Rt (c : Cx) (A : Around) (ns : List Str) (env : Env) (fe : FE) (st : Fs) (s : Shared) (σ' : Store) (w : Value) (v : AV) (s' : Shared) : Prop where
  rest : ∃ h' tk, s' = { s with heap := h', toks := tk }
  lv : ∀ b o, s.heap.get? b = some o → ∃ o', s'.heap.get? b = some o'
  nf : Nf s.heap s'.heap
  back : ∃ st' H', st'.σ = σ' ∧ st'.n0 = st.n0 ∧ st'.lo = st.lo ∧ Fm c (FrA A) ns env st' fe H' s'.heap ∧ Rep (vis s'.heap (retH fe st.n0 H')) w v

noncomputable def PostS (c : Cx) (q : Bool) (A : Around) (ns : List Str) (env : Env) (fe : FE) (st : Fs) (H : Hd) (fr : FR) (s : Shared) (Q : Flow → Shared → Prop) (E : Value → Shared → Prop) : Prop :=
  match fr with
  | .next st' => ∀ H' s', Nx c A ns env fe st H s st' H' s' → Q .next s'
  | .brk st' => ∀ H' s', Nx c A ns env fe st H s st' H' s' → Q .brk s'
  | .cont st' => ∀ H' s', Nx c A ns env fe st H s st' H' s' → Q .cont s'
  | .ret v σ' => ∀ w s', Rt c A ns env fe st s σ' w v s' → Q (.ret w) s'
  | .exc x st' => q = true ∧ ∀ H' sr e s', Nx c A ns env fe st H s st' H' sr → Xp A sr s' e x → E e s'
  | .stuck => False

section
variable {c : Cx} {q : Bool} {A : Around} {ns : List Str} {env : Env} {fe : FE} {st st₁ : Fs} {H H₁ : Hd} {s s₁ : Shared} {fr : FR} {Q : Flow → Shared → Prop} {E : Value → Shared → Prop}
theorem Rt.nx {s' : Shared} {σ' : Store} {w : Value} {v : AV} (y : Rt c A ns env fe st₁ s₁ σ' w v s') (x : Nx c A ns env fe st H s st₁ H₁ s₁) : Rt c A ns env fe st s σ' w v s' where
  rest := by
    obtain ⟨h, t, rfl⟩ := x.rest
    obtain ⟨h', t', rfl⟩ := y.rest
    exact ⟨h', t', rfl⟩
  lv := fun b o e => let ⟨o', e'⟩ := x.lv b o e; y.lv b o' e'
  nf := x.nf.trans y.nf
  back := by
    obtain ⟨st', H', h1, h2, h3, h4, h5⟩ := y.back
    exact ⟨st', H', h1, h2.trans x.n0, h3.trans x.lo, h4, by rw [← x.n0]; exact h5⟩
theorem PostS.nx (P : PostS c q A ns env fe st H fr s Q E) (x : Nx c A ns env fe st H s st₁ H₁ s₁) : PostS c q A ns env fe st₁ H₁ fr s₁ Q E := by
  cases fr with
  | next st' => exact fun H' s' y => P H' s' (x.trans y)
  | brk st' => exact fun H' s' y => P H' s' (x.trans y)
  | cont st' => exact fun H' s' y => P H' s' (x.trans y)
  | ret v σ => exact fun w s' y => P w s' (y.nx x)
  | exc x' st' => exact ⟨P.1, fun H' sr e s' y => P.2 H' sr e s' (x.trans y)⟩
  | stuck => exact P.elim
/-- a value comes back -/
theorem Fm.rt {w : Value} {v : AV} (F : Fm c (FrA A) ns env st fe H s.heap) (r : Rep (vis s.heap H) w v) : Rt c A ns env fe st s st.σ w v s :=
  ⟨⟨_, _, rfl⟩, fun b o e => ⟨o, e⟩, fun b o e n => ⟨o, e, n⟩, st, H, rfl, rfl, rfl, F, Rep.mono (vis_hide (H := retH fe st.n0 H) (H' := H) (fun b z => by
    rcases z with z | ⟨n, _, e⟩
    · exact F.hle b z
    · exact F.sto.hidden e) fun _ _ e => e) r⟩
/-- the result of an expression in a statement -/
theorem PostS.resK {r : ER} {f : AV → Fs → FR} {t : Sem Value} {Q' : Value → Shared → Prop} (F : Fm c (FrA A) ns env st fe H s.heap) (hlen : st.ρ.length = ns.length) (X : Ev c q A st.lo st.σ H t r s) (P : PostS c q A ns env fe st H (resS r st f) s Q E)
    (h : ∀ v σ₁, r = .ok (.av v) σ₁ → ∀ w H₁ s₁, Nx c A ns env fe st H s (st.at σ₁) H₁ s₁ → Rep (vis s₁.heap H₁) w v → PostS c q A ns env fe (st.at σ₁) H₁ (f v (st.at σ₁)) s₁ Q E → Q' w s₁) : wpAny c.M A t Q' E s := by
  cases r with
  | stuck => exact P.elim
  | exc x σ₁ => exact X _ _ ⟨P.1, fun e H' sr s' x Y => P.2 H' sr e s' (.of_ss F hlen x) Y⟩
  | ok v σ₁ =>
    cases v with
    | own i => exact P.elim
    | av v => exact X _ _ fun w H₁ s₁ x r => h v σ₁ rfl w H₁ s₁ (.of_ss F hlen x) r (PostS.nx (fr := f v (st.at σ₁)) P (.of_ss F hlen x))
end

/-- a statement does what is told -/
noncomputable def StOk (c : Cx) (q : Bool) (k : Nat) (ns : List Str) (env : Env) (st : Fs) (t : Sem Flow) (fr : FR) : Prop :=
  ∀ A s fe H, Rm c q (k + 1) A s.heap → (∃ outer, A.frames = some (env :: outer)) → Fm c (FrA A) ns env st fe H s.heap → st.ρ.length = ns.length → ∀ Q E, PostS c q A ns env fe st H fr s Q E → wpAny c.M A t Q E s

theorem nameAt_of {ks : List (Str × NameKind)} {ns : List Str} {i : Nat} {x : Str} {env : Env} (hks : env.scope.names = ks) (h : nameAt ks ns i x = true) :
    ns[i]? = some x ∧ (env.kindOf x = some .local ∨ env.kindOf x = some .cell) ∧ OneName ns i x := by
  simp only [nameAt, Bool.and_eq_true, Bool.or_eq_true, beq_iff_eq, List.all_eq_true, List.mem_range, Bool.not_eq_true', beq_eq_false_iff_ne] at h
  obtain ⟨⟨h1, h2⟩, h3⟩ := h
  refine ⟨h1, ?_, fun j hj => ?_⟩
  · show env.scope.names.lookup x = _ ∨ env.scope.names.lookup x = _
    rw [hks]; exact h2
  · have hlt : j < ns.length := by
      rcases Nat.lt_or_ge j ns.length with h | h
      · exact h
      · rw [List.getElem?_eq_none h] at hj; cases hj
    exact (h3 j hlt).resolve_right fun n => n hj

theorem swaps_no {e : PE} {frees : List Str} {fname : Nat → Str} {ks : List (Str × NameKind)} {ns : List Str} {ex : Expr} (h : encE frees fname ks ns e ex = true) (hc : isComp e = false) (t : Option Expr) (l : Nat) (env : Env) : swapsWith ex t l env = pure false := by
  cases ex <;> first | rfl | (cases e <;> first | exact (Bool.false_ne_true h).elim | exact (Bool.false_ne_true hc.symm).elim)

section
variable {c : Cx} {A : Around} {ns : List Str} {env : Env} {fe : FE} {st st₁ : Fs} {H H₁ : Hd} {s s₁ s₂ : Shared}

theorem nx_store {i : Nat} {x : Str} {v : Value} {av : AV} {Q : Unit → Shared → Prop} {E : Value → Shared → Prop} (N : Nx c A ns env fe st H s st₁ H₁ s₁) (hx : ns[i]? = some x) (hnd : OneName ns i x)
    (hk : env.kindOf x = some .local ∨ env.kindOf x = some .cell) (r : Rep (vis s₁.heap H₁) v av) (h : ∀ s', Nx c A ns env fe st H s (st₁.set i (.val av)) H₁ s' → Nx c A ns env fe st₁ H₁ s₁ (st₁.set i (.val av)) H₁ s' → Q () s') : wpAny c.M A (storeName env x v) Q E s₁ := by
  refine wp_store (t := .val av) N.fm hx hnd hk r fun h' tk F' kv nf _ => ?_
  have N₁ : Nx c A ns env fe st₁ H₁ s₁ (st₁.set i (.val av)) H₁ { s₁ with heap := h', toks := tk } := ⟨⟨_, _, rfl⟩, fun b o e => by
    by_cases hb : H₁.p b
    · exact F'.hlt b hb
    · obtain ⟨sl, q⟩ := (kv b o hb e).2; exact ⟨_, q⟩, fun _ z => .inl z, kv, nf, fun _ _ e => e, F', by simpa using N.len, rfl, rfl⟩
  exact h _ (N.trans N₁) N₁

theorem nx_own {i : Nat} {x : Str} {xs : List AV} {vs : List Value} {a : Addr} {Q : Unit → Shared → Prop} {E : Value → Shared → Prop} (N : Nx c A ns env fe st H s st₁ H₁ s₁) (k : Kp A s₁ s₂) (hx : ns[i]? = some x) (hnd : OneName ns i x)
    (hk : env.kindOf x = some .local ∨ env.kindOf x = some .cell) (hz : xs.length ≤ 1048576) (hnew : s₁.heap.get? a = none) (hl : IsL s₂.heap a vs) (r : RepL (vis s₁.heap H₁) vs xs)
    (h : ∀ H' s', Nx c A ns env fe st H s (st₁.set i (.own xs)) H' s' → Q () s') : wpAny c.M A (storeName env x (.ref a)) Q E s₂ := by
  have F₁ := N.fm.putO (i := i) k.kh hnew hl
  have hN : ∀ b, (H₁.putO i a).p b → H₁.p b ∨ s₁.heap.get? b = none := fun b z => z.imp id fun (z : b = a) => z ▸ hnew
  have N₁ : Nx c A ns env fe st₁ H₁ s₁ { st₁ with ρ := st₁.ρ.set i none } (H₁.putO i a) s₂ := ⟨let ⟨h, t, e, _⟩ := k; ⟨h, t, e⟩, fun b o e => let ⟨_, q⟩ := (k.kh b o e).2; ⟨_, q⟩, hN, k.kh.kv, k.kh.nf, fun _ _ e => e, F₁, by simpa using N.len, rfl, rfl⟩
  refine wp_store (t := .own xs) F₁ hx hnd hk ⟨hz, a, vs, rfl, if_pos rfl, hl, RepL.mono (vis_new k.kh hN fun _ _ e => e) r⟩ fun h' tk F' kv nf _ => ?_
  have e : ({ st₁ with ρ := st₁.ρ.set i none } : Fs).set i (.own xs) = st₁.set i (.own xs) := by simp [Fs.set]
  have F'' : Fm c (FrA A) ns env (st₁.set i (.own xs)) fe (H₁.putO i a) h' := by rw [← e]; exact F'
  refine h _ _ ((N.trans N₁).trans ⟨⟨_, _, rfl⟩, fun b o e => ?_, fun _ z => .inl z, kv, nf, fun _ _ e => e, F'', by simpa using N.len, rfl, rfl⟩)
  by_cases hb : (H₁.putO i a).p b
  · exact F''.hlt b hb
  · obtain ⟨sl, q⟩ := (kv b o hb e).2; exact ⟨_, q⟩

/-- an own list turned -/
theorem nx_turn {i : Nat} {a : Addr} {vs' : List Value} {xs xs' : List AV} {h' : Heap} {tk : Nat} (N : Nx c A ns env fe st H s st₁ H₁ s₁) (hr : st₁.ρ[i]? = some (some (.own xs))) (ho : H₁.o i = some a) (hl : IsL h' a vs') (hz : xs'.length ≤ 1048576) (r : RepL (vis s₁.heap H₁) vs' xs') (hs : Heap.SameBut a s₁.heap h') :
    Nx c A ns env fe st H s (st₁.set i (.own xs')) H₁ { s₁ with heap := h', toks := tk } := by
  have F₂ := fm_own N.fm ho ⟨xs, hr⟩ hs hl hz r
  obtain ⟨hH, _⟩ := N.fm.own i a ho
  refine N.trans ⟨⟨_, _, rfl⟩, fun b o e => ?_, fun _ z => .inl z, Kv.of_sameBut hs hH, fun b o e nf => ?_, fun _ _ e => e, F₂, by simpa using N.len, rfl, rfl⟩
  · by_cases hb : b = a
    · obtain ⟨o', _, e', _⟩ := hl; exact ⟨o', hb ▸ e'⟩
    · exact ⟨o, (hs.2 b hb).trans e⟩
  · by_cases hb : b = a
    · obtain ⟨o', _, e', _, d', _⟩ := hl; exact ⟨o', hb ▸ e', fun vs z => by rw [d'] at z; cases z⟩
    · exact ⟨o, (hs.2 b hb).trans e, nf⟩
end
end Mine
end
section
open PySem PySem.W PyProof.Rows PySem.Calls
namespace Mine
set_option maxRecDepth 100000
set_option linter.unusedVariables false
noncomputable def MO.isItr : MO → Bool
  | .itr _ _ => true
  | _ => false
theorem RepM.notFields {h : Heap} {R : Vw} {a : Addr} : ∀ {mo : MO}, mo.isItr = false → RepM h R a mo → ∃ o, h.get? a = some o ∧ ∀ vs, o.data ≠ .fields vs
  | .lst _, _, ⟨_, _, ⟨o, n, e, _, d, _⟩, _⟩ => ⟨o, e, fun _ z => by (rw [d] at z; cases z)⟩
  | .set _ _, _, ⟨o, es, ep, t, e, _, _, d, _⟩ => ⟨o, e, fun _ z => by (rw [d] at z; cases z)⟩
  | .itr _ _, h, _ => by cases h
theorem RepM.isFields {h : Heap} {R : Vw} {a : Addr} : ∀ {mo : MO}, mo.isItr = true → RepM h R a mo → ∃ o fs, h.get? a = some o ∧ o.data = .fields fs
  | .lst _, h, _ => by cases h
  | .set _ _, h, _ => by cases h
  | .itr k _, _, r => by
    obtain ⟨o, e, _, r⟩ := r
    cases k with
    | list => rcases r with ⟨_, t, d⟩ | ⟨l, vs, n, i, d, _⟩ <;> exact ⟨o, _, e, d⟩
    | tuple => rcases r with ⟨_, t, d⟩ | ⟨l, vs, n, i, d, _⟩ <;> exact ⟨o, _, e, d⟩
    | range =>
      obtain ⟨cur, left, st, it, _⟩ := r
      exact ⟨_, _, it, rfl⟩
/-- a thing of the store is written -/
theorem write_ss {A : Around} {lo : Nat} {σ : Store} {H : Hd} {s : Shared} {h' : Heap} {n : Nat} {a : Addr} {mo mo₀ : MO} {tk : Nat} (S : Sto σ H s.heap) (L : Live H s.heap) (hs : σ[n]? = some (some mo₀)) (hm : H.m n = some a) (hlo : lo ≤ n) (sb : Heap.SameBut a s.heap h') (r : RepM h' (vis h' H) a mo) (hk : mo.isItr = mo₀.isItr) :
    Ss A lo σ H s (σ.set n (some mo)) H { s with heap := h', toks := tk } := by
  have hn : n < σ.length := S.lt n a hm
  have le : (vis s.heap H).Le (vis h' H) := (Kv.of_sameBut (F := fun _ => False) (W := fun b => b = a) sb rfl).vis fun b z => z ▸ S.hidden hm
  have al : ∀ b o, s.heap.get? b = some o → ∃ o', h'.get? b = some o' := fun b o e => by
    by_cases hb : b = a
    · obtain ⟨o', e', _⟩ := r.data; exact ⟨o', hb ▸ e'⟩
    · exact ⟨o, (sb.2 b hb).trans e⟩
  have gs : ∀ (i : Nat) mo', (σ.set n (some mo))[i]? = some (some mo') → (i = n ∧ mo' = mo) ∨ (i ≠ n ∧ σ[i]? = some (some mo')) := fun i mo' e => by
    rw [List.getElem?_set] at e
    split at e
    · rename_i h
      subst h
      first
        | (simp at e; exact .inl ⟨rfl, e.symm⟩)
        | (split at e
           · simp at e; exact .inl ⟨rfl, e.symm⟩
           · cases e)
    · rename_i h; exact .inr ⟨Ne.symm h, e⟩
  exact {
    rest := ⟨h', tk, rfl⟩
    kv := Kv.of_sameBut sb ⟨n, mo₀, hlo, hs, hm⟩
    lv := al
    nf := fun b o e nf => by
      by_cases hb : b = a
      · subst hb
        obtain ⟨b', e1, r1⟩ := S.at' n _ hs
        rw [hm] at e1; cases e1
        cases hi : mo₀.isItr with
        | true =>
          obtain ⟨o', fs, e2, d2⟩ := r1.isFields hi
          rw [e] at e2; cases e2
          exact absurd d2 (nf _)
        | false => rw [hi] at hk; exact r.notFields hk
      · exact ⟨o, (sb.2 b hb).trans e, nf⟩
    hp := fun _ z => z
    hid := fun _ z => .inl z
    mx := fun _ _ z => z
    mn := fun _ _ z => .inl z
    o := rfl
    sto := ⟨fun i mo' e => by
        rcases gs i mo' e with ⟨rfl, rfl⟩ | ⟨ne, e⟩
        · exact ⟨a, hm, r⟩
        · obtain ⟨b, e1, r1⟩ := S.at' i mo' e
          exact ⟨b, e1, r1.kv (Kv.of_sameBut (F := fun _ => False) (W := fun b => b = a) sb rfl) (fun (z : b = a) => ne (S.inj i n b e1 (by rw [z]; exact hm))) le⟩, S.inj, fun i b e => by rw [List.length_set]; exact S.lt i b e, fun i b mo' _ e => S.hidden e, fun i b e => by
        obtain ⟨o, e'⟩ := S.al i b e; exact al b o e', fun i b e => by
        by_cases hi : i = n
        · subst hi; exact ⟨mo, by simp [hn]⟩
        · obtain ⟨mo', e'⟩ := S.tot i b e
          exact ⟨mo', by rw [List.getElem?_set_ne (Ne.symm hi)]; exact e'⟩⟩
    live := fun b z => by obtain ⟨o, e⟩ := L b z; exact al b o e
    len := by simp
    rv := fun i mo' _ e => by
      rcases gs i mo' e with ⟨rfl, _⟩ | ⟨_, e⟩
      · exact ⟨_, hs⟩
      · exact ⟨_, e⟩
    hm0 := S.lt }

section
variable {prog : Program} {w : World} {A : Around} {E : Value → Shared → Prop} {s : Shared}
end

noncomputable def rangeL (a b s : Int) : List AV := (List.range (Builtin.Range.rangeSize a b s).toNat).map fun (i : Nat) => .int (a + i * s)
section
variable {prog : Program} {w : World} {A : Around} {E : Value → Shared → Prop} {s : Shared}
end
section
variable {c : Cx} {A : Around} {s : Shared} {H : Hd} {lo : Nat} {σ : Store} {E : Value → Shared → Prop}
end

section
variable {prog : Program} {w : World} {A : Around} {E : Value → Shared → Prop} {s : Shared}
end
theorem rep1 {R : Vw} {vs : List Value} {x : AV} (r : RepL R vs [x]) : ∃ v, vs = [v] ∧ Rep R v x := by
  cases vs with
  | nil => simp [RepL] at r
  | cons v vs => cases vs with
    | nil => simp only [RepL] at r; exact ⟨v, rfl, r.1⟩
    | cons => simp [RepL] at r
section
variable {c : Cx} {k : Nat} {A : Around} {s : Shared} {H : Hd} {lo : Nat} {σ : Store} {vs : List Value}
end
end Mine
end
section
open PySem PySem.W PyProof.Rows PySem.Calls
namespace Mine
set_option maxRecDepth 100000
set_option linter.unusedVariables false
section
variable {c : Cx} {k : Nat} {A : Around} {s : Shared} {H : Hd}
/- what an iterator tells -/
/- a class's attribute -/
end
end Mine
end
section
open PySem PySem.W PyProof.Rows PySem.Calls
namespace Mine
set_option maxRecDepth 100000
set_option linter.unusedVariables false
section
variable {c : Cx} {q : Bool} {k : Nat} {A : Around} {s : Shared} {H : Hd}
end
end Mine
end
section
open PySem PySem.W PyProof.Rows PySem.Calls
namespace Mine
set_option maxRecDepth 100000
/- repetition -/
theorem ints_are {R : Vw} : ∀ {xs : List AV} {vs : List Value} {ns : List Int}, ints? xs = some ns → RepL R vs xs → IntsAre vs ns
  | [], [], ns, h, _ => by simp only [ints?, Option.some.injEq] at h; subst h; exact .nil
  | [], _ :: _, _, _, r => by simp [RepL] at r
  | _ :: _, [], _, _, r => by simp [RepL] at r
  | x :: xs, v :: vs, ns, h, r => by
    simp only [RepL] at r
    cases x <;> simp only [ints?, reduceCtorEq] at h
    rename_i i
    simp only [Option.map_eq_some_iff] at h
    obtain ⟨ms, h1, rfl⟩ := h
    obtain ⟨t, e⟩ := r.1
    subst e
    exact .cons i t (ints_are h1 r.2)
section
variable {c : Cx} {q : Bool} {k : Nat} {A : Around} {s : Shared} {H : Hd}
/- list(x) -/
theorem intsRep {R : Vw} : ∀ {vs : List Value} {ns : List Int}, IntsAre vs ns → RepL R vs (ns.map .int)
  | _, _, .nil => by simp [RepL]
  | _, _, .cons n t h => by simp only [List.map_cons, RepL]; exact ⟨⟨t, rfl⟩, intsRep h⟩
end
end Mine
end
section
open PySem PySem.W PyProof.Rows PySem.Calls
namespace Mine
set_option maxRecDepth 100000
set_option linter.unusedVariables false
/- isinstance, told no -/
section
variable {prog : Program} {w : World} {A : Around} {E : Value → Shared → Prop} {s : Shared} {v : Value} {T C : String} {P : Heap → Prop}
end
/- what is gone over -/
section
variable {c : Cx} {A : Around}
end
/- a class's attribute that is not there -/
section
variable {prog : Program} {w : World} {A : Around} {E : Value → Shared → Prop} {s : Shared} {T : String} {name : Str}
/-- the error as it is made -/
structure AeAt (h h' : Heap) (e : Addr) : Prop where
  keeps : ∀ b ob, h.get? b = some ob → h'.get? b = some ob
  new : h.get? e = none
  there : ∃ t, h'.get? e = some { cls := .type "AttributeError", data := .fields #[t, .none, .none, .none, .bool false, .none, unsetMember, unsetMember] }
end
section
variable {c : Cx} {A : Around} {s : Shared} {H : Hd}
end
end Mine
end
section
open PySem PySem.W PyProof.Rows
set_option linter.unusedVariables false
set_option linter.unusedSectionVars false
set_option maxRecDepth 100000
namespace Mine
/- words of sets -/
noncomputable def smallL (ns : List Int) : Bool := ns.all fun i => decide (0 ≤ i ∧ i < 32)
theorem smallL_ok {ns : List Int} (h : smallL ns = true) : ∀ i ∈ ns, 0 ≤ i ∧ i < 32 := fun i hi => by
  have := List.all_eq_true.mp h i hi
  simpa using this
noncomputable def s_set (ld : Bool) (σ : Store) : List AV → ER
  | [] => .ok (.av (.ptr σ.length)) (σ ++ [some (.set ld [])])
  | [a] => (match deref σ a with
    | .lst xs => (match ints? xs with
      | some ns => if smallL ns = true then .ok (.av (.ptr σ.length)) (σ ++ [some (.set ld (distI ns))]) else .stuck
      | none => .stuck)
    | .bag ns => if smallL ns = true then .ok (.av (.ptr σ.length)) (σ ++ [some (.set ld (distI ns))]) else .stuck
    | .set _ l xs => if l = ld then .ok (.av (.ptr σ.length)) (σ ++ [some (.set ld xs)]) else .stuck
    | _ => .stuck)
  | _ => .stuck
noncomputable def s_fz (ld : Bool) (σ : Store) : List AV → ER
  | [.lst xs] => (match ints? xs with
      | some ns => if smallL ns = true then .ok (.av (.set true ld (distI ns))) σ else .stuck
      | none => .stuck)
  | _ => .stuck
noncomputable def s_sorted (ld : Bool) (σ : Store) : List AV → ER
  | [a] => (match deref σ a with
    | .set _ l xs => if l = ld then .ok (.av (.lst (xs.map .int))) σ else .stuck
    | _ => .stuck)
  | _ => .stuck
noncomputable def s_items (ld : Bool) : AV → Option (List Int)
  | .set _ l xs => if l = ld then some xs else none
  | _ => none
noncomputable def isP (n : Nat) : AV → Bool
  | .ptr m => m == n
  | _ => false
noncomputable def s_xor (ld : Bool) (σ : Store) (lo : Nat) (a b : AV) : ER := match a with
  | .ptr n => (match σ[n]? with
    | some (some (.set l xs)) => (match deref σ b with
      | .set _ l' ys => if l = ld ∧ l' = ld ∧ lo ≤ n then .ok (.av (.ptr n)) (σ.set n (some (.set ld (if isP n b = true then [] else symI xs ys)))) else .stuck
      | .lst _ => .exc .te σ
      | .none => .exc .te σ
      | .int _ => .exc .te σ
      | _ => .stuck)
    | _ => .stuck)
  | .set true l xs => (match deref σ b with
    | .set false l' ys => if l = ld ∧ l' = ld then .ok (.av (.set true ld (symI xs ys))) σ else .stuck
    | _ => .stuck)
  | .lst _ => (match deref σ b with
    | .set false _ _ => .exc .te σ
    | _ => .stuck)
  | .none => (match deref σ b with
    | .set false _ _ => .exc .te σ
    | _ => .stuck)
  | .int _ => (match deref σ b with
    | .set false _ _ => .exc .te σ
    | _ => .stuck)
  | _ => .stuck
theorem dist_perm {l l' : List Int} (p : l.Perm l') : distI l = distI l' := sorted_ext (distI_sorted l) (distI_sorted l') fun i => by rw [mem_distI, mem_distI]; exact p.mem_iff
theorem sub_none_set : isSubtype (.type "NoneType") (.type "set") = pure false := by rw [isSubtype_type]; kernel_rfl
theorem sub_none_fz : isSubtype (.type "NoneType") (.type "frozenset") = pure false := by rw [isSubtype_type]; kernel_rfl
section
variable {c : Cx} {q : Bool} {k : Nat} {A : Around} {s : Shared} {H : Hd} {lo : Nat} {σ : Store} {vs : List Value}
theorem any_no {M : Model} {E : Value → Shared → Prop} {v : Value} {T : String} (hT : s.TypeIs v T) (h1 : isSubtype (.type T) (.type "set") = pure false) (h2 : isSubtype (.type T) (.type "frozenset") = pure false) {Q : Bool → Shared → Prop} (h : Q false s) : wpAny M A (Builtin.Frozenset.isAnySet v) Q E s := by
  unfold Builtin.Frozenset.isAnySet
  refine orW (wpAny_isInstance hT h1 ?_)
  rw [if_neg (by decide)]
  exact wpAny_isInstance hT h2 h
/- what has no ^ with a set -/
theorem ixor_no {E : Value → Shared → Prop} {v : Value} {T : String} (hT : s.TypeIs v T) (h1 : isSubtype (.type T) (.type "set") = pure false) (h2 : isSubtype (.type T) (.type "frozenset") = pure false) {l : Addr} {ld : Bool} {xs : List Int} (hs : IsS s.heap l false ld xs) : Declines c.M A E (call (.builtin "set.__ixor__") [.ref l, v]) s := fun Q h => by
  refine wpAny_call_entry F.slot_set_ixor hs.typeIs F.entry_set_ixor ?_ (F.args_set_ixor_2 _ _)
  refine wpAny_bind (m := pure (Value.ref l, v)) (wpAny_pure ?_)
  refine wpAny_bind (any_no hT h1 h2 ?_)
  simp only [Bool.not_false, if_true]
  exact wpAny_bind (wpAny_rule (wpAny_pure ⟨_, rfl, h⟩))
theorem xor_no {E : Value → Shared → Prop} {v : Value} {T : String} (hT : s.TypeIs v T) (h1 : isSubtype (.type T) (.type "set") = pure false) (h2 : isSubtype (.type T) (.type "frozenset") = pure false) {l : Addr} {ld : Bool} {xs : List Int} (hs : IsS s.heap l false ld xs) : Declines c.M A E (call (.builtin "set.__xor__") [.ref l, v]) s := fun Q h => by
  refine wpAny_call_entry F.slot_set_xor hs.typeIs entry_set_xor ?_ (F.args_set_xor_2 _ _)
  refine wpAny_bind (m := pure (Value.ref l, v)) (wpAny_pure ?_)
  refine wpAny_bind (andM_wp (anySet_set hs ?_))
  rw [if_pos rfl]
  refine any_no hT h1 h2 ?_
  simp only [Bool.not_false, if_true]
  exact wpAny_bind (wpAny_rule (wpAny_pure ⟨_, rfl, h⟩))
theorem rxor_no {E : Value → Shared → Prop} {v : Value} {T : String} (hT : s.TypeIs v T) (h1 : isSubtype (.type T) (.type "set") = pure false) (h2 : isSubtype (.type T) (.type "frozenset") = pure false) {l : Addr} {ld : Bool} {xs : List Int} (hs : IsS s.heap l false ld xs) : Declines c.M A E (call (.builtin "set.__rxor__") [.ref l, v]) s := fun Q h => by
  refine wpAny_call_entry F.slot_set_rxor hs.typeIs entry_set_rxor ?_ (F.args_set_rxor_2 _ _)
  refine wpAny_bind (m := pure (Value.ref l, v)) (wpAny_pure ?_)
  refine wpAny_bind (andM_wp (any_no hT h1 h2 ?_))
  rw [if_neg (by decide)]
  simp only [Bool.not_false, if_true]
  exact wpAny_bind (wpAny_rule (wpAny_pure ⟨_, rfl, h⟩))
/-- a set and a thing of another kind -/
theorem te_Sv {v : Value} {T : String} (hm : Rm c q k A s.heap) (hT : s.TypeIs v T) (hTs : "set" ≠ T) (hnb : (Value.type T == Value.type "builtin_function_or_method") = false) (h1 : isSubtype (.type T) (.type "set") = pure false) (h2 : isSubtype (.type T) (.type "frozenset") = pure false) (nf : fillsNumberSlot (.type T) "xor" = pure false)
    (hmsg : ((s!"unsupported operand type(s) for {"^="}: '{shownName "set"}' and '{shownName T}'" : String) : Str).length ≤ sizeLine) {l : Addr} {ld : Bool} {xs : List Int} (hs : IsS s.heap l false ld xs) : Tr c q A H (inplaceOp .BitXor (.ref l) v) (.exc .te) s := fun Q E P => by
  have pr := post_raise (Q' := Q) hm P
  unfold inplaceOp
  refine wpAny_holding ?_
  refine wpAny_bind (wpAny_typeOf hs.typeIs (wpAny_bind (wpAny_of_eq (show fillsInplaceSlot (.type "set") Operator.BitXor.info.2 (Operator.BitXor == .Add) = pure true from fillsI_set_xor) ?_)))
  simp only [if_true]
  refine wpAny_bind (try_declines hs.typeIs F.slot_set_ixor (ixor_no hT h1 h2 hs) ?_)
  simp only
  have e : Operator.BitXor.info.2 = "xor" := rfl
  rw [e]
  refine wpAny_bind (b1_none_l hTs hs.typeIs hT F.fills_set_xor nf F.slot_set_xor (xor_no hT h1 h2 hs) ?_)
  simp only
  show wpAny _ _ (binopTypeError "^=" (.ref l) v : Sem Value) Q E s
  unfold binopTypeError
  refine wpAny_bind (wpAny_rule (wpAny_bind (wpAny_typeNameOf' hs.typeIs (by decide) (wpAny_bind (wpAny_typeNameOf' hT hnb ?_)))))
  exact wpAny_raiseErrorMade plainExc_TypeError pr.1 pr.2 hmsg
theorem te_vS {v : Value} {T : String} (hm : Rm c q k A s.heap) (hT : s.TypeIs v T) (hTs : T ≠ "set") (hnb : (Value.type T == Value.type "builtin_function_or_method") = false) (h1 : isSubtype (.type T) (.type "set") = pure false) (h2 : isSubtype (.type T) (.type "frozenset") = pure false) (hno : typeLookup (.type T) (dunderI "xor") = pure none) (nf : fillsNumberSlot (.type T) "xor" = pure false)
    (hmsg : ∀ sym, sym = "/=" ∨ sym = "^=" → ((s!"unsupported operand type(s) for {sym}: '{shownName T}' and '{shownName "set"}'" : String) : Str).length ≤ sizeLine) {l : Addr} {ld : Bool} {xs : List Int} (hs : IsS s.heap l false ld xs) : Tr c q A H (inplaceOp .BitXor v (.ref l)) (.exc .te) s := fun Q E P => by
  have pr := post_raise (Q' := Q) hm P
  exact inpl_te_plain (T := T) (U := "set") (.inr rfl) hT hs.typeIs hnb (by decide) hno (fun Q' h => b1_none_r hTs hT hs.typeIs nf F.fills_set_xor F.slot_set_rxor (rxor_no hT h1 h2 hs) h) hmsg pr
/-- a thing made anew into the store -/
theorem adopt_set {mo : MO} {h' : Heap} {tk : Nat} (S : Sto σ H s.heap) (L : Live H s.heap) (hk : ∀ b o, s.heap.get? b = some o → h'.get? b = some o) (r : RepM h' (vis h' (H.put σ.length s.heap.objs.size)) s.heap.objs.size mo) {Q E : Value → Shared → Prop} (P : PostE q A lo σ H (.ok (.av (.ptr σ.length)) (σ ++ [some mo])) s Q E) : Q (.ref s.heap.objs.size) { s with heap := h', toks := tk } := by
  have hnew : s.heap.get? s.heap.objs.size = none := Heap.get?_none_of_le (Nat.le_refl _)
  refine P _ (H.put σ.length s.heap.objs.size) _ (adopt_ss S L (Kp.of hk) hnew r) ?_
  simp only [RepW, Rep]
  exact ⟨_, if_pos rfl, rfl⟩
theorem s_set_ok {xs : List AV} (hm : Rm c true (k + 1) A s.heap) (S : Sto σ H s.heap) (L : Live H s.heap) (r : RepL (vis s.heap H) vs xs) : Ev c true A lo σ H (PySem.call (.type "set") vs) (s_set (ldW c.w) σ xs) s := by
  have hh := hm.hand rfl
  unfold s_set
  split
  · have : vs = [] := by
      cases vs with
      | nil => rfl
      | cons => simp [RepL] at r
    subst this
    exact fun Q E P => set_nil fun h' tk h1 h2 => adopt_set (mo := .set (ldW c.w) []) S L h2 h1 P
  · rename_i a
    obtain ⟨v, rfl, rr⟩ := rep1 r
    have rd := RepO.deref S rr
    split
    · rename_i xs he
      rw [he] at rd
      split
      · rename_i ns hn
        split
        · rename_i hs
          obtain ⟨_, l, ws, rfl, hl, rl⟩ := rd
          exact fun Q E P => set_list hh hl.isList (ints_are hn rl) (smallL_ok hs) fun h' tk h1 h2 => adopt_set (mo := .set (ldW c.w) (distI ns)) S L h2 h1 P
        · exact Ev.stuck
      · exact Ev.stuck
    · rename_i ns he
      rw [he] at rd
      split
      · rename_i hs
        have rd : Rep (vis s.heap H) v (.bag ns) := rd
        simp only [Rep] at rd
        obtain ⟨ms, l, ws, n, p, _, rfl, ⟨_, o, e, hc, hd, _⟩, hi⟩ := rd
        exact fun Q E P => set_list hh ⟨o, e, hc, n, hd⟩ hi (fun i hi => smallL_ok hs i (p.mem_iff.mp hi)) fun h' tk h1 h2 => adopt_set (mo := .set (ldW c.w) (distI ns)) S L h2 (by rw [dist_perm p] at h1; exact h1) P
      · exact Ev.stuck
    · rename_i fz l xs he
      rw [he] at rd
      split
      · rename_i hl
        subst hl
        obtain ⟨b, rfl, hb⟩ := rd
        exact fun Q E P => set_set hb fun h' tk h1 h2 => adopt_set (mo := .set (ldW c.w) xs) S L h2 h1 P
      · exact Ev.stuck
    · exact Ev.stuck
  · exact Ev.stuck
theorem rep_set {h' : Heap} {fz ld : Bool} {xs : List Int} {a : Addr} (x : IsS h' a fz ld xs) (n : ¬ H.p a) (hsl : ∀ o, h'.get? a = some o → (∃ fs, o.data = .fields fs) → o.slots = #[]) : Rep (vis h' H) (.ref a) (.set fz ld xs) := by
  obtain ⟨o, es, ep, t, e, hc, hd, hdt, G⟩ := x
  simp only [Rep]
  refine ⟨a, es, ep, t, rfl, ⟨n, o, e, hc, hdt, hd, ?_, fun z => by obtain ⟨fs, z⟩ := z; cases z⟩, G⟩
  cases fz with
  | false => exact .inr (.inr (.inr (.inl rfl)))
  | true => exact .inr (.inr (.inr (.inr (.inl rfl))))
theorem s_fz_ok {xs : List AV} (hm : Rm c true (k + 1) A s.heap) (S : Sto σ H s.heap) (L : Live H s.heap) (r : RepL (vis s.heap H) vs xs) : Ev c true A lo σ H (PySem.call (.type "frozenset") vs) (s_fz (ldW c.w) σ xs) s := by
  have hh := hm.hand rfl
  unfold s_fz
  split
  · rename_i xs
    obtain ⟨v, rfl, rr⟩ := rep1 r
    split
    · rename_i ns hn
      split
      · rename_i hs
        simp only [Rep] at rr
        obtain ⟨z, l, ws, n, rfl, ⟨_, o, e, hc, hd, _⟩, rl⟩ := rr
        refine fun Q E P => fz_list hh ⟨o, e, hc, n, hd⟩ (ints_are hn rl) (smallL_ok hs) fun h' tk h1 h2 => ?_
        have k' : Kp A s { s with heap := h', toks := tk } := Kp.of h2
        refine P _ H _ (.of_kp k' S L) (rep_set h1 L.fresh fun o e z => ?_)
        obtain ⟨_, _, _, _, e', _, _, d, _⟩ := h1
        rw [e] at e'; cases e'
        obtain ⟨fs, z⟩ := z
        rw [d] at z; cases z
      · exact Ev.stuck
    · exact Ev.stuck
  · exact Ev.stuck
theorem s_sorted_ok {xs : List AV} (hm : Rm c true (k + 1) A s.heap) (S : Sto σ H s.heap) (L : Live H s.heap) (r : RepL (vis s.heap H) vs xs) : Ev c true A lo σ H (PySem.call (.builtin "sorted") vs) (s_sorted (ldW c.w) σ xs) s := by
  have hh := hm.hand rfl
  unfold s_sorted
  split
  · rename_i a
    obtain ⟨v, rfl, rr⟩ := rep1 r
    have rd := RepO.deref S rr
    split
    · rename_i fz l xs he
      rw [he] at rd
      split
      · rename_i hl
        subst hl
        obtain ⟨b, rfl, hb⟩ := rd
        have hle := small_len hb.srt hb.dom
        refine fun Q E P => sorted_S hh hb fun h' tk d out e hd hn hi hk => ?_
        have k' : Kp A s { s with heap := h', toks := tk } := Kp.of hk
        refine P _ H _ (.of_kp k' S L) ?_
        simp only [RepW, Rep]
        refine ⟨by rw [List.length_map]; omega, d, out.toList, e, rfl, ⟨fun z => ?_, _, hd, rfl, by simp [seqObj], rfl, .inl rfl, fun z => by simp [seqObj]⟩, intsRep hi⟩
        obtain ⟨o, ho⟩ := L _ z
        rw [hn] at ho; cases ho
      · exact Ev.stuck
    · exact Ev.stuck
  · exact Ev.stuck
/-- going over a set -/
theorem s_items_ok {a : AV} {va : Value} {xs : List Int} (hm : Rm c q (k + 1) A s.heap) (hq : q = true) (ra : RepO s.heap H va a) (h : s_items (ldW c.w) a = some xs) (Q E : Value → Shared → Prop)
    (K : ∀ ys : List Int, ys.Perm xs → ∀ I fp P St h' tk, (∀ b o, s.heap.get? b = some o → h'.get? b = some o) → s.heap.get? I = none → fp I → (∀ b, fp b → ∃ o, h'.get? b = some o) → (∀ b, fp b → b = I ∨ va = .ref b) → ys.length ≤ 1048576 → Itr c A I fp P (ys.map AV.int).length St → St 0 h' →
      (∀ (i : Nat) v x, P i v → (ys.map AV.int)[i]? = some x → Rep (vis s.heap H) v x) → Q (.ref I) { s with heap := h', toks := tk }) : wpAny c.M A (pyIter va) Q E s := by
  have hh := hm.hand hq
  unfold s_items at h
  split at h
  case h_2 => cases h
  rename_i fz l ys
  split at h
  case isFalse => cases h
  rename_i hl
  subst hl
  cases h
  obtain ⟨d, rfl, hd⟩ := ra
  have hle := small_len hd.srt hd.dom
  have hlt := hd.lt
  obtain ⟨o, es, ep, t, e, hc, hn, hdt, G⟩ := hd
  have hI : d ≠ s.heap.objs.size := Nat.ne_of_lt hlt
  have W := walks_set (prog := c.prog) (ep := ep) (A := A) hh G hI
  have hperm := ord_perm c.w d ep es
  refine iter_S (fz := fz) ⟨o, e, hc, hdt⟩ G ?_
  have hlen : (((ordOf c.w d ep es).toList.map intE).map AV.int).length = es.size := by rw [List.length_map, List.length_map, Array.length_toList, ord_size]
  refine K ((ordOf c.w d ep es).toList.map intE) ((hperm.map _).trans G.pm) s.heap.objs.size (fun b => b = s.heap.objs.size ∨ b = d) (fun i v => ∃ e, (ordOf c.w d ep es)[i]? = some e ∧ v = e.2) (fun i h => (∃ slot, SetItAt h s.heap.objs.size d i slot es.size ep ∧ StandsAt c.w t slot i) ∧ SetDt h d es ep t) _ s.toks (fun b o e => Heap.get?_push_of_some _ e) (Heap.get?_none_of_le (Nat.le_refl _)) (.inl rfl) (fun b hb => ?_) (fun b hb => hb.imp id fun x => by rw [x])
    (by rw [List.length_map] at hlen; rw [hlen, G.size]; omega) ?_ ⟨⟨0, ⟨_, Heap.get?_push_size _ rfl, rfl, rfl⟩, .inr (below_zero G.tab.rise)⟩, ⟨o, Heap.get?_push_of_some _ e, hdt⟩⟩ ?_
  · rcases hb with rfl | rfl
    · exact ⟨_, Heap.get?_push_size _ rfl⟩
    · exact ⟨o, Heap.get?_push_of_some _ e⟩
  · rw [hlen]
    exact {
      fld := fun i h ⟨⟨_, ⟨o, e, hc, hd⟩, _⟩, _⟩ => ⟨o, _, e, hd, by rw [hc]; unfold okC; decide +kernel⟩
      nt := fun i h ⟨⟨_, ⟨o, e, hc, hd⟩, _⟩, _⟩ => ⟨o, _, e, hc, by decide +kernel⟩
      frame := fun i h h' ⟨⟨sl, ⟨o, e, hc, hd⟩, hst⟩, ⟨o2, e2, hd2⟩⟩ fr => by
        refine ⟨⟨sl, ⟨o, (fr _ o (.inl rfl) e).1 ⟨_, hd⟩, hc, hd⟩, hst⟩, ?_⟩
        obtain ⟨sl, e3⟩ := (fr d o2 (.inr rfl) e2).2
        exact ⟨_, e3, hd2⟩
      item := fun i s' Q E hi st h => W.item i s' Q E hi st fun v h' tk hP st' hk => by
        obtain ⟨⟨_, ⟨oi, ei, _⟩, _⟩, _⟩ := id st'
        exact h v h' tk hP st' (fun b o hb e => hk b o (by simpa using hb) e) ⟨oi, ei⟩
      done := fun s' Q E st h => W.done s' Q E st fun h' tk hk => h h' tk fun b o hb e => hk b o (by simpa using hb) e
      self := fun i s' Q E st h => W.self i s' Q E st h }
  · rintro i v x ⟨e1, he1, rfl⟩ hx
    rw [List.getElem?_map, List.getElem?_map, Array.getElem?_toList, he1] at hx
    cases hx
    have hmem : e1 ∈ (ordOf c.w d ep es).toList := by
      have := Array.mem_of_getElem? he1
      simpa using this
    obtain ⟨j, tk, rfl⟩ := G.el e1 (hperm.mem_iff.mp hmem)
    exact ⟨tk, rfl⟩
end
end Mine
end
section
open PySem PySem.W PyProof.Rows
set_option linter.unusedVariables false
set_option linter.unusedSectionVars false
set_option maxRecDepth 100000
namespace Mine
section
variable {c : Cx} {q : Bool} {k : Nat} {A : Around} {s : Shared} {H : Hd} {lo : Nat} {σ : Store} {vs : List Value}
theorem teM_Sv : ∀ T ∈ ["int", "NoneType", "list"], ((s!"unsupported operand type(s) for {"^="}: '{shownName "set"}' and '{shownName T}'" : String) : Str).length ≤ sizeLine := by decide +kernel
theorem deref_set {σ : Store} {b : AV} {fz l : Bool} {ys : List Int} (h : deref σ b = .set fz l ys) : (∃ m, b = .ptr m) ∨ b = .set fz l ys := by
  cases b with
  | ptr m => exact .inl ⟨m, rfl⟩
  | _ => exact .inr h
theorem te_none {t : AV} (h : deref σ t = .none) {v : Value} (S : Sto σ H s.heap) (r : Rep (vis s.heap H) v t) : v = .none := by
  have := RepO.deref S r
  rw [h] at this
  exact this
theorem s_xor_ok {op : Operator} {a b : AV} {va vb : Value} (hop : op = .BitXor) (hm : Rm c true (k + 1) A s.heap) (S : Sto σ H s.heap) (L : Live H s.heap) (ra : Rep (vis s.heap H) va a) (rb : Rep (vis s.heap H) vb b) : Ev c true A lo σ H (inplaceOp op va vb) (s_xor (ldW c.w) σ lo a b) s := by
  subst hop
  have rd := RepO.deref S rb
  unfold s_xor
  split
  · rename_i n
    simp only [Rep] at ra
    obtain ⟨D, hD, rfl⟩ := ra
    have hD : H.m n = some D := hD
    split
    case h_2 => exact Ev.stuck
    rename_i l xs hs
    obtain ⟨D', hD', hx⟩ := S.at' n _ hs
    rw [hD] at hD'; cases hD'
    have hx : IsS s.heap D false l xs := hx
    split
    · rename_i fz l' ys he
      rw [he] at rd
      obtain ⟨B, rfl, hB⟩ := rd
      split
      case isFalse => exact Ev.stuck
      rename_i hc
      obtain ⟨rfl, rfl, hlo⟩ := hc
      have hiff : (if isP n b = true then ([] : List Int) else symI xs ys) = if D = B then [] else symI xs ys := by
        rcases deref_set he with ⟨m, rfl⟩ | rfl
        · simp only [Rep] at rb
          obtain ⟨B', hB', e⟩ := rb
          cases e
          have hB' : H.m m = some B := hB'
          by_cases hmn : m = n
          · subst hmn
            rw [hD] at hB'; cases hB'
            simp [isP]
          · have hne : D ≠ B := fun e => hmn (S.inj m n B hB' (e ▸ hD))
            rw [if_neg hne, if_neg (by simpa [isP] using hmn)]
        · simp only [Rep] at rb
          obtain ⟨B', es, ep, t, e, ⟨hn, _⟩, _⟩ := rb
          cases e
          have hne : D ≠ B := fun e => hn (e ▸ S.hid n D _ hs hD)
          rw [if_neg hne]; rfl
      rw [hiff]
      refine fun Q E P => set_ixor hx hB fun h' h1 h2 => P _ H _ (write_ss (mo := .set (ldW c.w) _) S L hs hD hlo h2 h1 rfl) ?_
      simp only [RepW, Rep]
      exact ⟨D, hD, rfl⟩
    · rename_i ys he
      rw [he] at rd
      obtain ⟨_, l2, ws, rfl, hl, _⟩ := rd
      exact Ev.of_tr S L (te_Sv hm hl.isList.typeIs (by decide) (by decide) F.sub_list_set F.sub_list_frozenset noF_list_xor (teM_Sv "list" (by decide)) hx)
    · rename_i he
      have := te_none he S rb
      subst this
      exact Ev.of_tr S L (te_Sv hm (T := "NoneType") (v := .none) (show s.TypeIs .none "NoneType" from rfl) (by decide) (by decide) sub_none_set sub_none_fz noF_none_xor (teM_Sv "NoneType" (by decide)) hx)
    · rename_i i he
      rw [he] at rd
      obtain ⟨t, rfl⟩ := rd
      exact Ev.of_tr S L (xor_te_Si hm hx)
    · exact Ev.stuck
  · rename_i l xs
    split
    · rename_i l' ys he
      rw [he] at rd
      obtain ⟨B, rfl, hB⟩ := rd
      split
      case isFalse => exact Ev.stuck
      rename_i hc
      obtain ⟨rfl, rfl⟩ := hc
      have ra : RepO s.heap H va (.set true (ldW c.w) xs) := RepO.of ra
      obtain ⟨D, rfl, hx⟩ := ra
      refine fun Q E P => fz_xor hx hB fun h' h1 h2 => ?_
      have k' : Kp A s { s with heap := h', toks := s.toks } := Kp.of h2
      refine P _ H _ (.of_kp k' S L) (rep_set h1 L.fresh fun o e z => ?_)
      obtain ⟨_, _, _, _, e', _, _, d, _⟩ := h1
      rw [e] at e'; cases e'
      obtain ⟨fs, z⟩ := z
      rw [d] at z; cases z
    · exact Ev.stuck
  · rename_i xs
    split
    · rename_i l' ys he
      rw [he] at rd
      obtain ⟨B, rfl, hB⟩ := rd
      have ra : RepO s.heap H va (.lst xs) := RepO.of ra
      obtain ⟨_, l2, ws, rfl, hl, _⟩ := ra
      exact Ev.of_tr S L (te_vS hm hl.isList.typeIs (by decide) (by decide) F.sub_list_set F.sub_list_frozenset noI_list_xor noF_list_xor (te_msg "list" (by decide) "set" (by decide)) hB)
    · exact Ev.stuck
  · split
    · rename_i l' ys he
      rw [he] at rd
      obtain ⟨B, rfl, hB⟩ := rd
      cases ra
      exact Ev.of_tr S L (te_vS hm (T := "NoneType") (v := .none) (show s.TypeIs .none "NoneType" from rfl) (by decide) (by decide) sub_none_set sub_none_fz noI_none_xor noF_none_xor (te_msg "NoneType" (by decide) "set" (by decide)) hB)
    · exact Ev.stuck
  · split
    · rename_i l' ys he
      rw [he] at rd
      obtain ⟨B, rfl, hB⟩ := rd
      obtain ⟨t, rfl⟩ := ra
      exact Ev.of_tr S L (xor_te_iS hm hB)
    · exact Ev.stuck
  · exact Ev.stuck
theorem RepM.notTup {h : Heap} {R : Vw} {a : Addr} : ∀ {mo : MO}, RepM h R a mo → ∃ o, h.get? a = some o ∧ o.cls ≠ .type "tuple"
  | .lst _, ⟨_, _, ⟨o, n, e, c, _⟩, _⟩ => ⟨o, e, by rw [c]; decide⟩
  | .set _ _, ⟨o, es, ep, t, e, c, _⟩ => ⟨o, e, by rw [c]; decide⟩
  | .itr k _, r => by
    obtain ⟨o, e, c, _⟩ := r
    exact ⟨o, e, by rw [c]; cases k <;> decide⟩
/- comparisons of sets -/
noncomputable def setCmp (op : CmpOp) : AV → AV → Option Bool
  | .int a, .set false _ ys => (match op with | .In => some (decide (a ∈ ys)) | _ => none)
  | .set false _ xs, .set false _ ys => (match op with | .Eq => some (decide (xs = ys)) | .NotEq => some (!decide (xs = ys)) | _ => none)
  | _, _ => none
theorem setCmp_ok {op : CmpOp} {a b : AV} {va vb : Value} {r : Bool} (hm : Rm c q (k + 1) A s.heap) (ra : RepO s.heap H va a) (rb : RepO s.heap H vb b) (h : setCmp op a b = some r) : Tr c q A H (compareOp op va vb) (.ok (.bool r)) s := by
  have hu : A.units < cLine := by have := hm.units; omega
  unfold setCmp at h
  split at h
  · split at h
    · cases h
      obtain ⟨t, rfl⟩ := ra
      obtain ⟨B, rfl, hB⟩ := rb
      exact fun Q E P => in_set hB (P _ _ Kp.toks rfl)
    · cases h
  · split at h
    · cases h
      obtain ⟨D, rfl, hD⟩ := ra
      obtain ⟨B, rfl, hB⟩ := rb
      exact fun Q E P => set_eq hu hD hB (P _ _ (Kp.refl _ _) rfl)
    · cases h
      obtain ⟨D, rfl, hD⟩ := ra
      obtain ⟨B, rfl, hB⟩ := rb
      exact fun Q E P => set_ne hu hD hB (P _ _ (Kp.refl _ _) rfl)
    · cases h
  · cases h
theorem len_S {v : Value} {l : Bool} {xs : List Int} (r : RepO s.heap H v (.set false l xs)) : Tr c q A H (PySem.call (.builtin "len") [v]) (.ok (.int xs.length)) s := fun Q E P => by
  obtain ⟨D, rfl, hD⟩ := r
  have hle := small_len hD.srt hD.dom
  obtain ⟨o, es, ep, t, e, hc, hn, hd, G⟩ := hD
  have hz := G.size
  rw [← hz] at P
  exact set_len ⟨o, e, hc, hd⟩ G.fits (by omega) (P _ _ Kp.toks ⟨_, rfl⟩)
end
end Mine
end
section
open PySem PySem.W PyProof.Rows
namespace Mine

theorem fly_kh {A : Around} {sr s' : Shared} {B h : Heap} {l : List Env} {base : Heap} (hk : Kp A sr s') (hfr : A.frames = some l) (ff : s'.heap.FunFrames base l)
    (hB : ∀ b o, s'.heap.get? b = some o → (∃ o', sr.heap.get? b = some o') → b ∉ l.filterMap (·.frame) → B.get? b = some o) (hst : B.StaysIn h) (hup : s'.heap.UpToSlots h) : Kh (FrA A) sr.heap h := fun b o e => by
  obtain ⟨p1, sl, p2⟩ := hk.kh b o e
  by_cases hb : b ∈ l.filterMap (·.frame)
  · obtain ⟨_, o', e', nf⟩ := ff.mem hb
    rw [p2] at e'; cases e'
    refine ⟨fun n => n.elim (fun n => absurd ⟨l, hfr, hb⟩ n) fun ⟨fs, z⟩ => absurd z (nf fs), ?_⟩
    obtain ⟨sl', q⟩ := hup b _ p2 nf
    exact ⟨sl', q⟩
  · have hF : ¬ FrA A b := fun ⟨l', e1, e2⟩ => by rw [hfr] at e1; cases e1; exact hb e2
    have := hst b o (hB b o (p1 (.inl hF)) ⟨o, e⟩ hb)
    exact ⟨fun _ => this, o.slots, this⟩

/-- an exception that the frame has taken note of -/
noncomputable def Fly (A : Around) (l : List Env) (sr : Shared) (e : Addr) (cls : EX) (s' : Shared) : Prop := ∃ B a0 h tk, s' = { sr with heap := h, toks := tk } ∧ Heap.FlyingW B l e (.type cls.name) a0 h ∧ Kh (FrA A) sr.heap h ∧ (∀ b o, h.get? b = some o → (∃ o', sr.heap.get? b = some o') → b ∉ l.filterMap (·.frame) → B.get? b = some o) ∧ (∀ b, b ∈ l.filterMap (·.frame) → ∃ o, h.get? b = some o ∧ ∀ vs, o.data ≠ .fields vs)

theorem note_land {c : Cx} {A : Around} {sr s' : Shared} {e : Addr} {cls : EX} {env : Env} {outer : List Env} {Lf : Addr} {Q : Unit → Shared → Prop} {E : Value → Shared → Prop} (X : Xp A sr s' (.ref e) cls) (hfr : A.frames = some (env :: outer)) (hf : env.frame = some Lf)
    (ff : s'.heap.FunFrames c.h0 (env :: outer)) (K : ∀ s₃, Fly A (env :: outer) sr e cls s₃ → Q () s₃) :
    wpAny c.M A (noteFrame (.ref e) env) (fun _ s₂ => wpAny c.M A (setFlight (.ref e) none) Q E s₂) E s' := by
  obtain ⟨e', a0, he', hkp, hen, hX⟩ := X
  cases he'
  have fin : ∀ (B : Heap), B.StaysIn s'.heap → B.get? e = none → (∀ b o, s'.heap.get? b = some o → (∃ o', sr.heap.get? b = some o') → b ∉ (env :: outer).filterMap (·.frame) → B.get? b = some o) →
      ∀ h₂, Heap.HeldW B (env :: outer) e (.type cls.name) a0 Lf h₂ → s'.heap.UpToSlots h₂ → wpAny c.M A (setFlight (.ref e) none) Q E { s' with heap := h₂ } := by
    intro B hB1 hB2 hB3 h₂ hh hu
    refine wpAny_landsW hh fun h₃ hfl hu₃ => K _ ?_
    have kh := fly_kh hkp hfr ff hB3 hfl.1 (hu.trans hu₃)
    obtain ⟨h', tk', rfl, kk⟩ := hkp
    refine ⟨B, a0, h₃, tk', rfl, hfl, kh, fun b o q1 q2 q3 => ?_, fun b hb => ?_⟩
    · obtain ⟨o', q2⟩ := q2
      have hF : ¬ FrA A b := fun ⟨l', e1, e2⟩ => by rw [hfr] at e1; cases e1; exact q3 e2
      have e1 := (kk b o' q2).1 (.inl hF)
      have e2 := hB3 b o' e1 ⟨o', q2⟩ q3
      have e3 := hfl.1 b o' e2
      rw [q1] at e3; cases e3; exact e2
    · obtain ⟨_, o, e1, nf⟩ := hfl.2.2.1.mem hb
      exact ⟨o, e1, nf⟩
  rcases hX with ⟨ob, vs, ho, hc, hd, hv0, hv1⟩ | ht
  · have hB0 : ∀ b o, s'.heap.get? b = some o → (∃ o', sr.heap.get? b = some o') → b ∉ (env :: outer).filterMap (·.frame) → (hideAll s'.heap (e :: (env :: outer).filterMap (·.frame))).get? b = some o := fun b o q1 q2 q3 => by
      refine hideAll_get _ q1 fun hm => ?_
      rcases List.mem_cons.mp hm with rfl | hm
      · obtain ⟨o', q2⟩ := q2; rw [hen] at q2; cases q2
      · exact q3 hm
    have hfB : s'.heap.FunFrames (hideAll s'.heap (e :: (env :: outer).filterMap (·.frame))) (env :: outer) := funFrames_hide ff fun v hv a ha => List.mem_cons_of_mem _ (List.mem_filterMap.mpr ⟨v, hv, ha⟩)
    unfold noteFrame
    simp only [hf]
    refine wpAny_bind (wpAny_field ho hd (x := .none) hv1 ?_)
    rw [if_neg (by decide)]
    refine wpAny_entryW (base := hideAll s'.heap (e :: (env :: outer).filterMap (·.frame))) hfr hfB hf ho (fun b o q => of_hideAll _ q) (hideAll_none _ (List.mem_cons_self ..)) hd (Array.getElem?_eq_some_iff.mp hv1).1 (a0 := a0) hv0 fun h₂ hN => ?_
    obtain ⟨k1, k2, k3, k4⟩ := hN
    rw [hc] at k3
    exact fin _ (fun b o q => of_hideAll _ q) (hideAll_none _ (List.mem_cons_self ..)) hB0 h₂ ⟨k1, hideAll_none _ (List.mem_cons_self ..), k2, k3⟩ k4
  · obtain ⟨oe, vs, T, oT, ts, he, hcl, hd, h1, hT, hTe, hoT, hdT, h3⟩ := ht
    have hB0 : ∀ b o, s'.heap.get? b = some o → (∃ o', sr.heap.get? b = some o') → b ∉ (env :: outer).filterMap (·.frame) → (hideAll s'.heap (e :: T :: (env :: outer).filterMap (·.frame))).get? b = some o := fun b o q1 q2 q3 => by
      obtain ⟨o', q2⟩ := q2
      refine hideAll_get _ q1 fun hm => ?_
      rcases List.mem_cons.mp hm with rfl | hm
      · rw [hen] at q2; cases q2
      · rcases List.mem_cons.mp hm with rfl | hm
        · rw [hT] at q2; cases q2
        · exact q3 hm
    have hfB : s'.heap.FunFrames (hideAll s'.heap (e :: T :: (env :: outer).filterMap (·.frame))) (env :: outer) := funFrames_hide ff fun v hv a ha => List.mem_cons_of_mem _ (List.mem_cons_of_mem _ (List.mem_filterMap.mpr ⟨v, hv, ha⟩))
    have hTB : (hideAll s'.heap (e :: T :: (env :: outer).filterMap (·.frame))).get? T = none := hideAll_none _ (List.mem_cons_of_mem _ (List.mem_cons_self ..))
    refine wpAny_noteFrame_onW (base := hideAll s'.heap (e :: T :: (env :: outer).filterMap (·.frame))) (a0 := a0) (cls := .type cls.name) hfr hfB hf ⟨oe, vs, T, oT, ts, he, hcl, hd, h1, hTB, hTe, hoT, hdT, h3⟩ (fun b o q => of_hideAll _ q) (hideAll_none _ (List.mem_cons_self ..)) fun h₂ hN => ?_
    obtain ⟨k1, k2, k3, k4⟩ := hN
    exact fin _ (fun b o q => of_hideAll _ q) (hideAll_none _ (List.mem_cons_self ..)) hB0 h₂ ⟨k1, hideAll_none _ (List.mem_cons_self ..), k2, k3⟩ k4

theorem EX.boot : ∀ (x : EX), bootBuiltins (Str.ofString x.name) = some (.type x.name)
  | .zde => by decide +kernel
  | .ofe => by decide +kernel
  | .te => by decide +kernel
  | .ve => by decide +kernel
  | .ae => by decide +kernel
theorem EX.sub : ∀ (x y : EX), isSubtype (.type x.name) (.type y.name) = pure (decide (x = y)) := by
  intro x y
  cases x <;> cases y <;> (rw [isSubtype_type]; kernel_rfl)
theorem EX.exc : ∀ (x : EX), isSubtype (.type x.name) (.type "BaseException") = pure true := by
  intro x
  cases x <;> (rw [isSubtype_type]; kernel_rfl)
theorem EX.notTup : ∀ (T : EX), isSubtype (.type ((Manifest.find? T.name).elim "type" fun x => x.metatype)) (.type "tuple") = pure false := by
  intro x
  cases x <;> (rw [isSubtype_type]; kernel_rfl)
end Mine
end
section
open PySem PySem.W PyProof.Rows
set_option linter.unusedVariables false
set_option linter.unusedSectionVars false
namespace Mine

section
variable {c : Cx} {O : OpsF} (OK : OpsOk c O) {k : Nat} {cal : Cal} {fname : Nat → Str} (CO : CallsOk c k cal fname) {frees : List Str} (hfree : ∀ x ∈ frees, c.mg x = none)

include OK CO hfree in
/-- x = e -/
theorem assign_val {A : Around} {s : Shared} {H : Hd} {fe : FE} {env : Env} {ks : List (Str × NameKind)} {ns : List Str} {st : Fs} {q : Bool} {e : PE} {ex : Expr} {i : Nat} {x : Str} {px' pos : Pos} {Q : Flow → Shared → Prop} {E : Value → Shared → Prop}
    (hks : env.scope.names = ks) (hm : Rm c q (k + 1) A s.heap) (F : Fm c (FrA A) ns env st fe H s.heap) (hlen : st.ρ.length = ns.length) (hx : nameAt ks ns i x = true) (he : encE frees fname ks ns e ex = true) (hsc : isSC e = false)
    (P : PostS c q A ns env fe st H (resS (pe O cal q st e).v st fun v st' => .next (st'.set i (.val v))) s Q E) : wpAny c.M A (exec (.Assign [.Name x px'] ex pos) env) Q E s := by
  obtain ⟨h1, h2, h3⟩ := nameAt_of hks hx
  have I := pe_sound OK CO hfree e he hks hm F hlen
  have plain : swapsWith ex (some (.Name x px')) pos.line env = pure false → wpAny c.M A (exec (.Assign [.Name x px'] ex pos) env) Q E s := fun hsw => by
    refine wpAny_Assign_Name (PostS.resK F hlen I.v P fun v σ₁ _ w H₁ s₁ N₁ r₁ P₁ => ?_) hsw
    exact nx_store N₁ h1 h3 h2 r₁ fun s' N N' => P₁ H₁ s' N'
  cases hc : isComp e with
  | false => exact plain (swaps_no he hc _ _ _)
  | true =>
    cases e <;> first | (simp [isComp] at hc; done) | (simp [isSC] at hsc; done) | skip
    rename_i caps elt src conds
    rw [ec_comp] at he
    obtain ⟨e', y, py, it, ifs, scope, pos', rfl, hz⟩ := onLC_eq he
    replace he := hz; clear hz
    all_goals
      have hsw : ∃ b, swapsWith (.ListComp e' [⟨.Name y py, it, ifs, 0⟩] scope pos') (some (.Name x px')) pos.line env = pure b := ⟨_, rfl⟩
      obtain ⟨b, hsw⟩ := hsw
      cases b with
      | false => exact plain hsw
      | true =>
        simp only [Bool.and_eq_true] at he
        obtain ⟨⟨⟨⟨e1, e0⟩, e2⟩, e3⟩, e4⟩ := he
        have e0 : isSetd src = false := by simpa using e0
        simp only [qe_comp, PR.of] at P
        cases q with
        | false => exact P.elim
        | true =>
          have X := (pe_sound OK CO hfree src e1 hks hm F hlen).v
          cases hl : (pe O cal true st src).v with
          | exc z σ₁ =>
            rw [hl] at P X
            rw [exec_Assign_Name_used _ _ _ _ hsw]
            have K := compOk_of (ns := ns) (caps := caps) hks e2
            obtain ⟨cl, hclos, hcl1, hcl2⟩ := closureFor_ok (env := env) (scope := scope) fun y hy => by
              obtain ⟨cc, _, e, _⟩ := F.cl y (K.free y hy)
              rw [e]; rfl
            refine wpAny_bind (wpAny_standAt (wpAny_bind ?_))
            show wpAny _ A (do let _ ← comprehension (.ListComp e' [⟨.Name y py, it, ifs, 0⟩] scope pos') scope env _ (newList []) false (eval it env) (some (assign (.Name x px') env))) _ _ s
            refine wpAny_bind (wpAny_mono (wpAny_comprehension_free (use := some (assign (.Name x px') env)) (Q := fun _ s' => Q .next s') rfl (encE_notSet e1 e0 env) hclos K.kind K.loc (X _ _ ⟨P.1, fun e H' sr s' x Y => P.2 H' sr e s' (.of_ss F hlen x) Y⟩)) (fun _ s' hq => wpAny_pure (wpAny_pure hq)) fun _ _ e => e)
          | stuck => rw [hl] at P; exact P.elim
          | ok a σ₁ =>
            rw [hl] at P X
            simp only [ER.bind] at P
            cases hi : O.items (derefS st.ρ σ₁ a) with
            | none => rw [hi] at P; exact P.elim
            | some l =>
              rw [hi] at P
              simp only [onItems] at P
              split at P
              · rename_i ys hf
                have K := compOk_of (ns := ns) (x := y) (caps := caps) hks e2
                have T : TurnOk c true (k + 1) A ns env (st.at σ₁) fe scope y caps e' ifs _ := comp_turn (O := O) (cal := cal) (elt := elt) (conds := conds) (relab_eq hks F.kind) hlen (fun a b c d => pe_sound OK CO hfree elt e3 a b c d) (fun a b c d => ptests_sound OK CO hfree conds e4 a b c d)
                obtain ⟨cl, hclos, hcl1, hcl2⟩ := closureFor_ok (env := env) (scope := scope) fun y hy => by
                  obtain ⟨cc, _, e, _⟩ := F.cl y (K.free y hy)
                  rw [e]; rfl
                rw [exec_Assign_Name_used _ _ _ _ hsw]
                refine wpAny_bind (wpAny_standAt (wpAny_bind ?_))
                show wpAny _ A (do let _ ← comprehension (.ListComp e' [⟨.Name y py, it, ifs, 0⟩] scope pos') scope env _ (newList []) false (eval it env) (some (assign (.Name x px') env))) _ _ s
                refine wpAny_bind (wpAny_mono (wpAny_comprehension_free (use := some (assign (.Name x px') env)) (Q := fun _ s' => Q .next s') rfl (encE_notSet e1 e0 env) hclos K.kind K.loc (X _ _ fun xv H₁ s₁ x₁ r₁ => ?_)) (fun _ s' hq => wpAny_pure (wpAny_pure hq)) fun _ _ e => e)
                have F₁ := F.ss x₁
                have N₁ := Nx.of_ss F hlen x₁
                refine OK.items (hm.nf x₁.nf) rfl F₁.hlt (RepO.derefS F₁ hlen r₁) hi _ _ fun I fp PP St h' tk hk hI hfI hl _ hsz W hst hP => ?_
                refine comp_core (RR := fun acc C => compPost c.M A E (some (assign (.Name x px') env)) (fun _ s' => Q .next s') acc C) (s₁ := s₁) (st := st.at σ₁) (hm.nf x₁.nf) F₁ hlen K hcl1 hcl2 ⟨_, _, rfl⟩ hk hI hl hfI W hst hsz hP hf T ?_
                intro D C h'' tk' m' vs hD hC hDC hn hl hr hkv
                have k2 : Kh (FrA A) s₁.heap h'' := (Kh.of_keeps hk).trans' hkv fun b o e z => by rw [z, hI] at e; cases e
                have kp2 : Kp A s₁ { s₁ with heap := h'', toks := tk' } := ⟨h'', tk', rfl, k2⟩
                have hDs : s₁.heap.get? D = none := none_back (Kh.of_keeps (F := fun _ => False) hk) hD
                have hCs : s₁.heap.get? C = none := none_back (Kh.of_keeps (F := fun _ => False) hk) hC
                show wpAny _ A (assign (.Name x px') env (.ref D)) _ _ _
                refine wpAny_assign_Name ?_
                obtain ⟨oC, esC, epC, eC, dC, rC⟩ := id hn
                have live : Live (H₁.add fun b => b = C) h'' := fun b z => by
                  rcases z with z | rfl
                  · obtain ⟨o, e⟩ := F₁.hlt b z
                    obtain ⟨sl, q⟩ := (k2 b o e).2
                    exact ⟨_, q⟩
                  · exact ⟨oC, eC⟩
                have FC := F₁.hide k2 (H₂ := H₁.add fun b => b = C) (fun b z => .inl z) (fun b z => z.imp id fun (z : b = C) => by rw [z]; exact hCs) rfl rfl live
                have rep : Rep (vis h'' (H₁.add fun b => b = C)) (.ref D) (.lst ys) := by
                  simp only [Rep]
                  obtain ⟨o, n, e, c1, d1, f1⟩ := hl
                  refine ⟨Nat.le_trans (mapF_length hf) hsz, D, vs, n, rfl, ⟨fun z => ?_, o, e, c1, d1, f1, .inl rfl, fun ⟨_, z⟩ => by cases z⟩, RepL.mono (vis_hide (H := H₁.add fun b => b = C) (H' := H₁.add fun b => b = C ∨ b = D ∨ b = I) (fun b z => z.elim .inl fun z => .inr (.inl z)) fun _ _ e => e) hr⟩
                  rcases z with z | z
                  · obtain ⟨o', e'⟩ := F₁.hlt D z
                    rw [hDs] at e'; cases e'
                  · exact hDC z
                have cellne : ∀ y cc, env.kindOf y = some .cell → env.cells.lookup y = some cc → cc ≠ C := fun y cc qk q z => by
                  obtain ⟨o', e'⟩ := F₁.hlt cc (F₁.hc y cc qk q).1
                  rw [z, hCs] at e'; cases e'
                have locne : env.locals ≠ C := fun z => by
                  obtain ⟨o', e'⟩ := F₁.hlt _ F₁.hl
                  rw [z, hCs] at e'; cases e'
                refine wp_store (t := .val (.lst ys)) FC h1 h3 h2 rep fun h₄ tk₄ F₄ kv₄ nf₄ ⟨sa, hsa, hsb⟩ => ?_
                have hCa : C ≠ sa := fun z => by
                  rcases hsa with q | ⟨y, qk, q⟩
                  · exact locne (q ▸ z.symm)
                  · exact cellne y sa qk q z.symm
                have hn₄ : h₄.Ns C m' := ⟨oC, esC, epC, (hsb.2 C hCa).trans eC, dC, rC⟩
                refine ⟨m', hn₄, fun h₅ hs₅ => P H₁ _ (N₁.trans ?_)⟩
                have nlC : ∀ vs, ¬ IsL h₄ C vs := not_isL_ns hn₄
                have hHC : ¬ H₁.p C := fun z => by
                  obtain ⟨o', e'⟩ := F₁.hlt C z
                  rw [hCs] at e'; cases e'
                have hfeC : fe.h.get? C = none := by
                  cases q : fe.h.get? C with
                  | none => rfl
                  | some o =>
                    obtain ⟨o', e'⟩ := F₁.keep.nw (fun b w => F₁.hlt b (F₁.hle b (F₁.wsub b w))) q
                    rw [hCs] at e'; cases e'
                have F₅ := F₄.drop (a := C) (h' := h₅) (fun b o hb e => (hs₅.2 b hb).trans e) hfeC locne cellne nlC F₁.hle hHC (fun n e => hHC (F₁.sto.hidden e))
                refine ⟨⟨h₅, tk₄, rfl⟩, fun b o e => ?_, fun b z => .inl z, fun b o nb e => ?_, fun b o e nf => ?_, fun _ _ e => e, F₅, by simpa using hlen, rfl, rfl⟩
                · have hb : b ≠ C := fun z => by rw [z, hCs] at e; cases e
                  by_cases hHb : H₁.p b
                  · exact F₅.hlt b hHb
                  · obtain ⟨sl, q⟩ := (k2 b o e).2
                    obtain ⟨sl', q'⟩ := (kv₄ b _ (fun z => z.elim hHb hb) q).2
                    exact ⟨_, (hs₅.2 b hb).trans q'⟩
                · have hb : b ≠ C := fun z => by rw [z, hCs] at e; cases e
                  obtain ⟨p1, sl, p2⟩ := k2 b o e
                  have nb' : ¬ (H₁.add fun b => b = C).p b := fun z => z.elim nb hb
                  refine ⟨fun f => (hs₅.2 b hb).trans ((kv₄ b o nb' (p1 f)).1 f), ?_⟩
                  obtain ⟨sl', q'⟩ := (kv₄ b _ nb' p2).2
                  exact ⟨sl', (hs₅.2 b hb).trans q'⟩
                · have hb : b ≠ C := fun z => by rw [z, hCs] at e; cases e
                  obtain ⟨o', e', n'⟩ := (k2.nf.trans nf₄) b o e nf
                  exact ⟨o', (hs₅.2 b hb).trans e', n'⟩
              · exact P.elim
end
end Mine
end
section
open PySem PySem.W PyProof.Rows
set_option linter.unusedVariables false
set_option linter.unusedSectionVars false
set_option maxHeartbeats 2000000
namespace Mine

theorem Nx.mark {c : Cx} {A : Around} {x : Option Value} {ns : List Str} {env : Env} {fe : FE} {st st' : Fs} {H H' : Hd} {s s' : Shared} (N : Nx c (A.mark x) ns env fe st H s st' H' s') : Nx c A ns env fe st H s st' H' s' := ⟨N.rest, N.lv, N.hid, N.kv, N.nf, N.mx, N.fm, N.len, N.lo, N.n0⟩
theorem Rt.mark {c : Cx} {A : Around} {x : Option Value} {ns : List Str} {env : Env} {fe : FE} {st : Fs} {s s' : Shared} {σ' : Store} {w : Value} {v : AV} (N : Rt c (A.mark x) ns env fe st s σ' w v s') : Rt c A ns env fe st s σ' w v s' := ⟨N.rest, N.lv, N.nf, N.back⟩

theorem rep_not_hidden {h : Heap} {H : Hd} {b : Addr} : ∀ {x : AV}, (∀ n, x ≠ .ptr n) → (∀ k ys, x ≠ .itr k ys) → x ≠ .any → Rep (vis h H) (.ref b) x → ¬ H.p b ∧ ∃ o, h.get? b = some o
  | .none, _, _, _, r => by simp [Rep] at r
  | .bool _, _, _, _, r => by simp [Rep] at r
  | .int _, _, _, _, r => by simp [Rep] at r
  | .float _, _, _, _, r => by simp [Rep] at r
  | .str _, _, _, _, r => by simp [Rep] at r
  | .bytes _, _, _, _, r => by simp [Rep] at r
  | .type _, _, _, _, r => by simp [Rep] at r
  | .fn _, _, _, _, r => by simp [Rep] at r
  | .ptr n, h, _, _, _ => absurd rfl (h n)
  | .itr k ys, _, h, _, _ => absurd rfl (h k ys)
  | .any, _, _, h, _ => absurd rfl h
  | .range _ _ _, _, _, _, r => by
    simp only [Rep] at r
    obtain ⟨_, _, _, _, e, v⟩ := r
    cases e; exact ⟨v.1, let ⟨o, q, _⟩ := v.2; ⟨o, q⟩⟩
  | .dict _, _, _, _, r => by
    simp only [Rep] at r
    obtain ⟨_, _, _, e, v, _⟩ := r
    cases e; exact ⟨v.1, let ⟨o, q, _⟩ := v.2; ⟨o, q⟩⟩
  | .bag _, _, _, _, r => by
    simp only [Rep] at r
    obtain ⟨_, _, _, _, _, _, e, v, _⟩ := r
    cases e; exact ⟨v.1, let ⟨o, q, _⟩ := v.2; ⟨o, q⟩⟩
  | .set _ _ _, _, _, _, r => by
    simp only [Rep] at r
    obtain ⟨_, _, _, _, e, v, _⟩ := r
    cases e; exact ⟨v.1, let ⟨o, q, _⟩ := v.2; ⟨o, q⟩⟩
  | .sm _ _, _, _, _, r => by
    simp only [Rep] at r
    obtain ⟨_, _, _, _, e, v, _⟩ := r
    cases e; exact ⟨v.1, let ⟨o, q, _⟩ := v.2; ⟨o, q⟩⟩
  | .tup _, _, _, _, r => by
    simp only [Rep] at r
    obtain ⟨_, _, _, _, e, v, _⟩ := r
    cases e; exact ⟨v.1, let ⟨o, q, _⟩ := v.2; ⟨o, q⟩⟩
  | .lst _, _, _, _, r => by
    simp only [Rep] at r
    obtain ⟨_, _, _, _, e, v, _⟩ := r
    cases e; exact ⟨v.1, let ⟨o, q, _⟩ := v.2; ⟨o, q⟩⟩

theorem ometh_slot : ∀ (m : OMI), Slot "list" (Str.ofString m.name) ("list." ++ m.name)
  | .append => slot_list_append
  | .insert => PySem.F.slot_list_insert
  | .remove => PySem.F.slot_list_remove
theorem ometh_type : ∀ (m : OMI), typeOf (.builtin ("list." ++ m.name)) = pure (.type "method_descriptor")
  | .append => by with_unfolding_all rfl
  | .insert => PySem.F.type_list_insert
  | .remove => PySem.F.type_list_remove

section
variable {c : Cx} {A : Around} {ns : List Str} {env : Env} {fe : FE} {H H₁ : Hd} {s s₁ : Shared}

end

theorem owned_go {M : Model} {A : Around} {E : Value → Shared → Prop} {s : Shared} {tgt : Expr} {I : Addr} {v : Value} {o : Obj} {n : String} {Q : Unit → Shared → Prop} (ho : s.heap.get? I = some o) (hc : o.cls = .type n)
    (hn : ["enumerate", "zip", "dict_itemiterator", "dict_reverseitemiterator", "odict_iterator", "itertools.zip_longest", "itertools.pairwise"].contains n = false) (h : Q () s) : wpAny M A (letOwnedTupleGo tgt (.ref I) v) Q E s := by
  have core : ∀ a, wpAny M A (do
      let o ← load I
      match o.cls, o.data with
      | .type n, .fields vs =>
        if ["enumerate", "zip", "dict_itemiterator", "dict_reverseitemiterator", "odict_iterator", "itertools.zip_longest", "itertools.pairwise"].contains n && vs[0]? == some (rawInt a) then
          rule "for.unpacks-the-owned-tuple"
          updateField I 0 .none
      | _, _ => pure () : Sem Unit) Q E s := fun a => by
    refine wpAny_bind (wpAny_load ho ?_)
    rw [hc]
    split
    · rename_i n' vs e1 e2
      cases e1
      rw [hn, Bool.false_and, if_neg (by decide)]
      exact wpAny_pure h
    · exact wpAny_pure h
  unfold letOwnedTupleGo
  cases tgt <;> first | exact wpAny_pure h | (cases v <;> first | exact wpAny_pure h | exact core _)

section
variable {c : Cx} {O : OpsF} (OK : OpsOk c O) {k : Nat}
include OK
/-- a loop -/
theorem for_core {A : Around} {s : Shared} {H : Hd} {fe : FE} {env : Env} {ns : List Str} {st : Fs} {v : AV} {σ : Store} {l : List AV} {tgt it : Expr} {body' : List Stmt} {pos : Pos} {f : AV → Fs → FR} {Q : Flow → Shared → Prop} {E : Value → Shared → Prop}
    (hm : Rm c true (k + 1) A s.heap) (F : Fm c (FrA A) ns env st fe H s.heap) (hlen : st.ρ.length = ns.length) (hns : ∀ x, foldedSetIterable it env x = pure x) (T : Ev c true A st.lo st.σ H (eval it env) (.ok (.av v) σ) s) (hi : O.items v = some l)
    (P : PostS c true A ns env fe st H (forF f l (st.at σ)) s Q E)
    (turn' : ∀ item w st' H' s', Nf s.heap s'.heap → Fm c (FrA A) ns env st' fe H' s'.heap → st'.ρ.length = ns.length → Rep (vis s'.heap H') w item → f item st' ≠ .stuck → ∀ (Q' : Unit → Shared → Prop) (E' : Value → Shared → Prop),
      (∀ st₃ H₃ s₃, Nx c A ns env fe st' H' s' st₃ H₃ s₃ → (∀ Q E, PostS c true A ns env fe st₃ H₃ (f item st') s₃ Q E → wpAny c.M A (execs body' env) Q E s₃) → Q' () s₃) → wpAny c.M A (assign tgt env w) Q' E' s') :
    wpAny c.M A (exec (.For tgt it body' [] pos) env) Q E s := by
  refine wpAny_For (T _ _ fun va H₁ s₁ x₁ r₁ => ?_) hns
  have N0 := Nx.of_ss F hlen x₁
  have F₁ := N0.fm
  have P₁ := P.nx N0
  have r₁ : Rep (vis s₁.heap H₁) va v := r₁
  refine OK.items (hm.nf x₁.nf) rfl F₁.hlt (.of r₁) hi _ _ fun I fp PP St h' tk hk hI hfI hl hfp hsz W hst hP => ?_
  have hIfe : fe.h.get? I = none := by
    cases q : fe.h.get? I with
    | none => rfl
    | some o =>
      obtain ⟨o', e'⟩ := F₁.keep.nw (fun b w => F₁.hlt b (F₁.hle b (F₁.wsub b w))) q
      rw [hI] at e'; cases e'
  have hHI : ¬ H₁.p I := fun z => by
    obtain ⟨o', e'⟩ := F₁.hlt I z
    rw [hI] at e'; cases e'
  have vnot : ∀ b, va = .ref b → ¬ H₁.p b ∧ ∃ o, s₁.heap.get? b = some o := fun b e => by
    subst e
    exact rep_not_hidden (OK.itemsR hi).1 (OK.itemsR hi).2.1 (OK.itemsR hi).2.2 r₁
  have kpI : Kp A s₁ { s₁ with heap := h', toks := tk } := ⟨h', tk, rfl, Kh.of_keeps hk⟩
  have N0 : Nx c A ns env fe (st.at σ) H₁ s₁ (st.at σ) H₁ { s₁ with heap := h', toks := tk } := Nx.of_kp F₁ hlen kpI
  refine codeAny_forLoop_any (fun m s' => ∃ j st' H', m = l.length + 1 - j ∧ j ≤ l.length ∧ Nx c A ns env fe (st.at σ) H₁ s₁ st' H' s' ∧ ¬ H'.p I ∧ St j s'.heap ∧
    PostS c true A ns env fe (st.at σ) H₁ (forF f (l.drop j) st') s₁ Q E) ?_ (l.length + 1)
    ⟨0, st.at σ, _, rfl, Nat.zero_le _, N0, hHI, hst, by simpa using P₁⟩
  rintro m s' ⟨j, st', H', rfl, hj, N, hHI', hst', P'⟩
  obtain ⟨oI, fsI, eI, dI, cI⟩ := W.fld j _ hst'
  obtain ⟨hs', ts', rfl⟩ := N.rest
  dsimp only at *
  have back : ∀ {h₂ tk₂}, (∀ b o, b ≠ I → hs'.get? b = some o → h₂.get? b = some o) → Nx c A ns env fe (st.at σ) H₁ s₁ st' H' { s₁ with heap := h₂, toks := tk₂ } := fun {h₂ tk₂} hk₂ => by
    have F₂ := N.fm.touchV (a := I) (h' := h₂) hk₂ hIfe eI dI cI hHI'
    exact ⟨⟨_, _, rfl⟩, fun b o e => by
      have hb : b ≠ I := fun z => by rw [z, hI] at e; cases e
      obtain ⟨o', e'⟩ := N.lv b o e
      exact ⟨o', hk₂ b o' hb e'⟩, N.hid, fun b o nb e => by
      have hb : b ≠ I := fun z => by rw [z, hI] at e; cases e
      obtain ⟨p1, sl, p2⟩ := N.kv b o nb e
      exact ⟨fun f => hk₂ b _ hb (p1 f), sl, hk₂ b _ hb p2⟩, fun b o e nf => by
      have hb : b ≠ I := fun z => by rw [z, hI] at e; cases e
      obtain ⟨o', e', n'⟩ := N.nf b o e nf
      exact ⟨o', hk₂ b o' hb e', n'⟩, N.mx, F₂, N.len, N.lo, N.n0⟩
  by_cases hlt : j < l.length
  · obtain ⟨item, hitem⟩ : ∃ y, l[j]? = some y := ⟨l[j], by simp [hlt]⟩
    have hdrop : l.drop j = item :: l.drop (j + 1) := by
      rw [List.drop_eq_getElem_cons hlt]
      have : l[j] = item := by rw [List.getElem?_eq_getElem hlt] at hitem; exact Option.some.inj hitem
      rw [this]
    rw [hdrop] at P'
    simp only [forF] at P'
    refine W.item j _ _ _ hlt hst' fun vi h₂ tk₂ hPv hst₂ hk₂ hI₂ => ?_
    dsimp only
    have N₂ := back (tk₂ := tk₂) hk₂
    obtain ⟨oI₂, fsI₂, eI₂, dI₂, cI₂⟩ := W.fld (j + 1) _ hst₂
    have rit : Rep (vis h₂ H') vi item := Rep.mono N₂.vis (hP j vi item hPv hitem)
    obtain ⟨oN, nN, eN, cN, hN⟩ := W.nt (j + 1) _ hst₂
    refine owned_go eN cN hN ?_
    refine turn' item vi st' H' { s₁ with heap := h₂, toks := tk₂ } (x₁.nf.trans N₂.nf) N₂.fm N₂.len rit (fun z => by rw [z] at P'; exact P') _ _ fun st₃ H₃ s₃ N₃ IH => ?_
    have N13 := N₂.trans N₃
    have nextI : ∀ st₄ H₄ s₄, Nx c A ns env fe st₃ H₃ s₃ st₄ H₄ s₄ → PostS c true A ns env fe (st.at σ) H₁ (forF f (l.drop (j + 1)) st₄) s₁ Q E →
        ∃ m, m < l.length + 1 - j ∧ ∃ j st' H', m = l.length + 1 - j ∧ j ≤ l.length ∧ Nx c A ns env fe (st.at σ) H₁ s₁ st' H' s₄ ∧ ¬ H'.p I ∧ St j s₄.heap ∧
          PostS c true A ns env fe (st.at σ) H₁ (forF f (l.drop j) st') s₁ Q E := by
      intro st₄ H₄ s₄ N₄ P₄
      have N24 := N₃.trans N₄
      refine ⟨l.length + 1 - (j + 1), by omega, j + 1, st₄, H₄, rfl, hlt, N13.trans N₄, fun z => ?_, W.frame _ _ _ hst₂ fun b o hb e => ?_, P₄⟩
      · rcases N24.hid I z with z | z
        · exact hHI' z
        · dsimp only at z; rw [eI₂] at z; cases z
      · have nb : ¬ H'.p b := fun z => ?_
        exact ⟨fun hf => (N24.kv b o nb e).1 (.inr hf), (N24.kv b o nb e).2⟩
        rcases hfp b hb with rfl | hv'
        · exact hHI' z
        · obtain ⟨q1, o', q2⟩ := vnot b hv'
          rcases N.hid b z with z | z
          · exact q1 z
          · rw [q2] at z; cases z
    cases hb : f item st' with
    | next st₄ => rw [hb] at IH P'; exact IH _ _ fun H₄ s₄ N₄ => nextI st₄ H₄ s₄ N₄ P'
    | cont st₄ => rw [hb] at IH P'; exact IH _ _ fun H₄ s₄ N₄ => nextI st₄ H₄ s₄ N₄ P'
    | brk st₄ => rw [hb] at IH P'; exact IH _ _ fun H₄ s₄ N₄ => P' _ _ (N13.trans N₄)
    | ret v σ' => rw [hb] at IH P'; exact IH _ _ (P'.nx (fr := .ret v σ') N13)
    | exc _ _ => rw [hb] at P'; exact P'.elim
    | stuck => rw [hb] at P'; exact P'.elim
  · have hjl : j = l.length := by omega
    subst hjl
    rw [List.drop_length] at P'
    simp only [forF] at P'
    exact W.done _ _ _ hst' fun h₂ tk₂ hk₂ => wpAny_execs_nil (P' H' _ (back hk₂))
end
end Mine
end
section
open PySem PySem.W PyProof.Rows
set_option linter.unusedVariables false
set_option linter.unusedSectionVars false
namespace Mine
section
variable {c : Cx} {k : Nat}
end
end Mine
end
section
open PySem PySem.W PyProof.Rows
set_option linter.unusedVariables false
set_option linter.unusedSectionVars false
set_option maxHeartbeats 4000000
namespace Mine

theorem ownOf_eq {st : Fs} {i : Nat} {xs : List AV} (h : ownOf st i = some xs) : st.ρ[i]? = some (some (.own xs)) := by
  unfold ownOf at h
  split at h
  · rename_i ys e; cases h; exact e
  · cases h

section
variable {c : Cx} {O : OpsF} (OK : OpsOk c O) {k : Nat} {cal : Cal} {fname : Nat → Str} (CO : CallsOk c k cal fname) {frees : List Str} (hfree : ∀ x ∈ frees, c.mg x = none)
include OK CO hfree

theorem ometh_ok {A : Around} {s : Shared} {H : Hd} {fe : FE} {env : Env} {ks : List (Str × NameKind)} {ns : List Str} {st : Fs} {xs : PEs} {m : OMI} {fz : Option Nat} {i : Nat} {sm : Stmt} {Q : Flow → Shared → Prop} {E : Value → Shared → Prop}
    (he : encS frees fname ks ns (.ometh i m xs fz) sm = true) (hks : env.scope.names = ks) (hm : Rm c true (k + 1) A s.heap) (F : Fm c (FrA A) ns env st fe H s.heap) (hlen : st.ρ.length = ns.length) (P : PostS c true A ns env fe st H (omethF O st i m (pes O cal true st xs)) s Q E) : wpAny c.M A (exec sm env) Q E s := by
  rw [es_ometh] at he
  obtain ⟨ex', pos, rfl, hz⟩ := onS_expr he
  replace he := hz; clear hz
  obtain ⟨o', n, apos, es, pos', rfl, hz⟩ := onMC_eq he
  replace he := hz; clear hz
  obtain ⟨x, px', rfl, hz⟩ := onE_name he
  replace he := hz; clear hz
  simp only [Bool.and_eq_true, Bool.not_eq_true', beq_iff_eq, decide_eq_true_eq] at he
  obtain ⟨⟨⟨⟨⟨⟨hx, hdb⟩, rfl⟩, hline⟩, hl20⟩, hemp⟩, hes⟩ := he
  obtain ⟨h1, h2, h3⟩ := nameAt_of hks hx
  refine wpAny_Expr_any ?_ (by unfold interactive; rw [F.kind]; rfl) rfl
  unfold omethF at P
  split at P
  case h_2 => exact P.elim
  rename_i ol σ hpes
  split at P
  case h_2 => exact P.elim
  rename_i l zs hpl hown
  split at P
  case h_2 => exact P.elim
  rename_i zs' hom
  have hρ := ownOf_eq hown
  obtain ⟨v, nv, hz, a, vs, rfl, ho, hisl, rr⟩ := F.vals i x _ h1 hρ
  obtain ⟨od, nd, ed, cd, dd, fd⟩ := id hisl
  refine wpAny_Call_method_lateS rfl (star_all hes hl20) (by simpa using hline) (wpAny_Name (nv.load F.kind ?_) hdb)
  have hTy : s.TypeIs (.ref a) "list" := hisl.isList.typeIs
  refine ⟨"list", "list." ++ m.name, emeth_plain, ometh_slot m, ometh_type m, hTy, fun b e => (by cases e; exact ⟨od, ed, fd⟩), ?_⟩
  refine Calls.callWith_builtin (star_plain (pos := pos') (env := env) hes) ?_
  cases es with
  | nil => simp at hemp
  | cons e es =>
    have hst : starEach (e :: es) env = (false, eval e env) :: starEach es env := starEach_cons (encEs_head hes)
    have S : wpAny c.M A (spliced (backTo pos' (starEach (e :: es) env))) (fun vs s' => wpAny c.M A (PySem.call (.builtin ("list." ++ m.name)) ([.ref a] ++ vs) []) (fun _ => Q .next) E s') E s := by
      refine pes_sound OK CO hfree xs hes hks hm F hlen ol σ hpes _ _ fun ws H₁ s₁ x₁ r₁ => ?_
      have N₁ := Nx.of_ss F hlen x₁
      have F₁ := N₁.fm
      obtain ⟨v', nv', _, a', vs', ev', ho', hisl', rr'⟩ := F₁.vals i x _ h1 hρ
      have ho1 : H₁.o i = some a := by rw [x₁.o]; exact ho
      rw [ho1] at ho'; cases ho'
      refine OK.ometh rfl (hm.nf x₁.nf) F₁.hlt hisl' hz rr' (plains_rep r₁ hpl) hom _ _ fun h' vs'' tk hl' hz' r' hs' => ?_
      exact P H₁ _ (nx_turn N₁ hρ ho1 hl' hz' r' hs')
    rw [hst] at S ⊢
    exact Calls.evalArgs_plain S

mutual
theorem px_sound : ∀ (p : PS) {q : Bool} {ks : List (Str × NameKind)} {ns : List Str} {st : Fs} {sm : Stmt} {env : Env}, encS frees fname ks ns p sm = true → env.scope.names = ks → env.frame = some env.locals → StOk c q k ns env st (exec sm env) (px O cal q st p)
  | .expr e, q, ks, ns, st, sm, env, he, hks, hef => fun A s fe H hm hA F hlen Q E P => by
    rw [es_expr] at he
    obtain ⟨ex, pos, rfl, hz⟩ := onS_expr he
    replace he := hz; clear hz
    simp only [Bool.and_eq_true, Bool.not_eq_true'] at he
    rw [qx_expr] at P
    refine wpAny_Expr_any ?_ (by unfold interactive; rw [F.kind]; rfl) (swaps_no he.1 he.2 _ _ _)
    exact PostS.resK F hlen (pe_sound OK CO hfree e he.1 hks hm F hlen).v P fun v σ₁ _ w H₁ s₁ N₁ _ P₁ => P₁ H₁ s₁ (Nx.of_kp N₁.fm N₁.len (Kp.refl _ _))
  | .assign i e, q, ks, ns, st, sm, env, he, hks, hef => fun A s fe H hm hA F hlen Q E P => by
    rw [es_assign] at he
    obtain ⟨x, px', ex, pos, rfl, hz⟩ := onA1_eq he
    replace he := hz; clear hz
    all_goals
      simp only [Bool.and_eq_true] at he
      rw [qx_assign] at P
      exact assign_val OK CO hfree hks hm F hlen he.1.1 he.1.2 (by simpa using he.2) P
  | .ownl i xs, q, ks, ns, st, sm, env, he, hks, hef => fun A s fe H hm hA F hlen Q E P => by
    rw [es_ownl] at he
    obtain ⟨x, px', ex', pos, rfl, hz⟩ := onA1_eq he
    replace he := hz; clear hz
    obtain ⟨es, pos', rfl, hz⟩ := onE_list he
    replace he := hz; clear hz
    all_goals
      simp only [Bool.and_eq_true] at he
      obtain ⟨h1, h2, h3⟩ := nameAt_of hks he.1
      rw [qx_ownl] at P
      split at P
      case h_2 => exact P.elim
      rename_i ol σ hpes
      split at P
      case h_2 => exact P.elim
      rename_i l hpl
      split at P
      case isFalse => exact P.elim
      rename_i hl100
      refine wpAny_Assign_Name ?_ rfl
      refine wpAny_List_spliced (pes_sound OK CO hfree xs he.2 hks hm F hlen ol σ hpes _ _ fun vs H₁ s₁ x₁ r₁ => ?_)
      have r₁ := plains_rep r₁ hpl
      refine ⟨by rw [r₁.length]; exact line_ok (by omega), ?_⟩
      exact nx_own (Nx.of_ss F hlen x₁) (Kp.push _) h1 h3 h2 (by omega) (Heap.get?_none_of_le (Nat.le_refl _)) ⟨_, _, Heap.get?_push_size _ rfl, rfl, rfl, rfl⟩ r₁ fun H' s' N => P H' s' N
  | .eaug i op e, q, ks, ns, st, sm, env, he, hks, hef => fun A s fe H hm hA F hlen Q E P => by
    rw [es_eaug] at he
    obtain ⟨t', op', ex, pos, rfl, hz⟩ := onS_aug he
    replace he := hz; clear hz
    obtain ⟨x, px', rfl, hz⟩ := onE_name he
    replace he := hz; clear hz
    simp only [Bool.and_eq_true, Bool.not_eq_true', beq_iff_eq] at he
    obtain ⟨⟨⟨hx, hdb⟩, rfl⟩, hex⟩ := he
    obtain ⟨h1, h2, h3⟩ := nameAt_of hks hx
    rw [qx_eaug] at P
    split at P
    case h_2 => exact P.elim
    rename_i a σ0 b σ hs hv
    have hρ : st.ρ[i]? = some (some (.val a)) := by
      unfold slotV at hs
      split at hs
      · rename_i v hv'; cases hs; exact hv'
      · cases hs
      · cases hs
    obtain ⟨v, nv, rv⟩ := F.vals i x _ h1 hρ
    have T := (pe_sound OK CO hfree e hex hks hm F hlen).v
    rw [hv] at T
    refine wpAny_AugAssign_Name (nv.load F.kind (T _ _ fun w H₁ s₁ x₁ r₁ => ?_))
    have N₁ := Nx.of_ss F hlen x₁
    have F₁ := N₁.fm
    have rv' : Rep (vis s₁.heap H₁) v a := Rep.mono (x₁.vis F.sto) rv
    have U' := OK.einpl (op := op) (lo := st.lo) rfl (hm.nf x₁.nf) F₁.hlt F₁.sto rv' r₁
    have eS : ∀ (r : ER) (f : AV → Fs → FR), resS r st f = resS r (st.at σ) f := fun r f => by
      cases r with
      | ok v σ₂ => cases v <;> rfl
      | exc x σ₂ => rfl
      | stuck => rfl
    rw [eS] at P
    exact PostS.resK (st := st.at σ) F₁ hlen U' (P.nx N₁) fun v σ₂ _ w H₂ s₂ N₂ r₂ P₂ => nx_store N₂ h1 h3 h2 r₂ fun s' N N' => P₂ H₂ s' N'
  | .ometh i m xs fz, q, ks, ns, st, sm, env, he, hks, hef => fun A s fe H hm hA F hlen Q E P => by
    rw [qx_ometh] at P
    cases q with
    | false => exact P.elim
    | true =>
    cases fz with
    | none => exact ometh_ok OK CO hfree he hks hm F hlen P
    | some j =>
      simp only at P
      split at P
      · rename_i ys hj
        have hj := ownOf_eq hj
        obtain ⟨y, hy⟩ : ∃ y, ns[j]? = some y := by
          have : j < st.ρ.length := by
            rcases Nat.lt_or_ge j st.ρ.length with h | h
            · exact h
            · rw [List.getElem?_eq_none h] at hj; cases hj
          exact ⟨ns[j]'(by omega), by simp⟩
        obtain ⟨H', hH', hM', F'⟩ := F.freeze hy hj
        have N : Nx c A ns env fe st H s (st.set j (.val (.lst ys))) H' s := ⟨⟨_, _, rfl⟩, fun b o e => ⟨o, e⟩, fun b z => .inl (hH' b z), Kv.refl _ _ _, fun b o e nf => ⟨o, e, nf⟩, fun n a e => by rw [hM']; exact e, F', by simpa using hlen, rfl, rfl⟩
        exact ometh_ok OK CO hfree (fz := some j) he hks hm F' N.len (P.nx N)
      · exact P.elim
  | .ite t a b, q, ks, ns, st, sm, env, he, hks, hef => fun A s fe H hm hA F hlen Q E P => by
    rw [es_ite] at he
    obtain ⟨t', a', b', pos, rfl, hz⟩ := onS_iff he
    replace he := hz; clear hz
    simp only [Bool.and_eq_true] at he
    obtain ⟨⟨h1, h2⟩, h3⟩ := he
    have T := (pe_sound OK CO hfree t h1 hks hm F hlen).t
    rw [qx_ite] at P
    split at P
    · rename_i σ ht
      exact wpAny_If (T _ _ ht _ _ fun H₁ s₁ x₁ => pxs_sound a h2 hks hef A s₁ fe H₁ (hm.nf x₁.nf) hA (F.ss x₁) hlen Q E (P.nx (Nx.of_ss F hlen x₁)))
    · rename_i σ ht
      exact wpAny_If (T _ _ ht _ _ fun H₁ s₁ x₁ => pxs_sound b h3 hks hef A s₁ fe H₁ (hm.nf x₁.nf) hA (F.ss x₁) hlen Q E (P.nx (Nx.of_ss F hlen x₁)))
    · exact P.elim
  | .for_ i src body, q, ks, ns, st, sm, env, he, hks, hef => fun A s fe H hm hA F hlen Q E P => by
    rw [es_for_] at he
    obtain ⟨t', it, body', els, pos, rfl, hz⟩ := onS_fo he
    replace he := hz; clear hz
    obtain ⟨x, px', rfl, hz⟩ := onE_name he
    replace he := hz; clear hz
    obtain ⟨rfl, hz⟩ := nil?_eq he
    replace he := hz; clear hz
    all_goals
      simp only [Bool.and_eq_true, Bool.not_eq_true'] at he
      obtain ⟨⟨⟨hx, h0⟩, h4⟩, h5⟩ := he
      obtain ⟨h1, h2, h3⟩ := nameAt_of hks hx
      rw [qx_for_] at P
      split at P
      case h_2 => exact P.elim
      rename_i v σ hv
      have T := (pe_sound OK CO hfree src h4 hks hm F hlen).v
      rw [hv] at T
      split at P
      case h_2 => exact P.elim
      rename_i l hi
      refine for_core OK hm F hlen (encE_notSet h4 h0 env) T hi (f := fun x st => pxs O cal true (st.set i (.val x)) body) P ?_
      intro item w st' H' s' hnf F' hl' r _ Q' E' h
      refine wpAny_assign_Name (nx_store (Nx.of_kp F' hl' (Kp.refl _ _)) h1 h3 h2 r fun s₃ N13 N3 => ?_)
      exact h _ H' s₃ N3 fun Q E P => pxs_sound body h5 hks hef A s₃ fe H' (hm.nf (hnf.trans N3.nf)) hA N3.fm N3.len Q E P
  | .ret e, q, ks, ns, st, sm, env, he, hks, hef => fun A s fe H hm hA F hlen Q E P => by
    rw [es_ret] at he
    obtain ⟨o', pos, rfl, hz⟩ := onS_ret he
    replace he := hz; clear hz
    obtain ⟨ex, rfl, hz⟩ := opt?_eq he
    replace he := hz; clear hz
    rw [qx_ret] at P
    refine wpAny_Return_some (PostS.resK F hlen (pe_sound OK CO hfree e he hks hm F hlen).v P fun v σ₁ _ w H₁ s₁ N₁ r₁ P₁ => ?_)
    exact P₁ w s₁ (N₁.fm.rt r₁)
  | .retOwn i, q, ks, ns, st, sm, env, he, hks, hef => fun A s fe H hm hA F hlen Q E P => by
    rw [es_retOwn] at he
    obtain ⟨o', pos, rfl, hz⟩ := onS_ret he
    replace he := hz; clear hz
    obtain ⟨ex, rfl, hz⟩ := opt?_eq he
    replace he := hz; clear hz
    obtain ⟨x, px', rfl, hz⟩ := onE_name he
    replace he := hz; clear hz
    simp only [Bool.and_eq_true, Bool.not_eq_true', beq_iff_eq] at he
    rw [qx_retOwn] at P
    split at P
    case h_2 => exact P.elim
    rename_i xs hown
    obtain ⟨v, n, z, a, vs, rfl, ho, l, r⟩ := F.vals i x _ he.1 (ownOf_eq hown)
    obtain ⟨p, qq, nm, _⟩ := F.own i a ho
    refine wpAny_Return_some (wpAny_Name (n.load F.kind (P _ s ⟨⟨_, _, rfl⟩, fun b o e => ⟨o, e⟩, fun b o e n => ⟨o, e, n⟩, st, H, rfl, rfl, rfl, F, ?_⟩)) he.2)
    simp only [Rep]
    obtain ⟨o, n', e', c1, d1, f1⟩ := l
    refine ⟨z, a, vs, n', rfl, ⟨fun y => ?_, o, e', c1, d1, f1, .inl rfl, fun ⟨_, z⟩ => by cases z⟩, RepL.mono (vis_hide (H := retH fe st.n0 H) (H' := H) (fun b z => by
      rcases z with z | ⟨n, _, e⟩
      · exact F.hle b z
      · exact F.sto.hidden e) fun _ _ e => e) r⟩
    rcases y with y | ⟨m, _, e⟩
    · obtain ⟨o', e''⟩ := F.felt a y
      rw [qq] at e''; cases e''
    · exact nm m e
  | .brk, q, ks, ns, st, sm, env, he, hks, hef => fun A s fe H hm hA F hlen Q E P => by
    rw [es_brk] at he
    obtain ⟨pos, rfl⟩ := onS_brk he
    exact wpAny_Break (P _ _ (Nx.of_kp F hlen (Kp.refl _ _)))
  | .cont, q, ks, ns, st, sm, env, he, hks, hef => fun A s fe H hm hA F hlen Q E P => by
    rw [es_cont] at he
    obtain ⟨pos, rfl⟩ := onS_cont he
    exact wpAny_Continue (P _ _ (Nx.of_kp F hlen (Kp.refl _ _)))
  | .try_ body hs, q, ks, ns, st, sm, env, he, hks, hef => fun A s fe H hm hA F hlen Q E P => by
    rw [es_try_] at he
    obtain ⟨body', hs', els, fin, pos, rfl, hz⟩ := onS_tr he
    replace he := hz; clear hz
    obtain ⟨rfl, hz⟩ := nil?_eq he
    replace he := hz; clear hz
    obtain ⟨rfl, hz⟩ := nil?_eq he
    replace he := hz; clear hz
    all_goals
      simp only [Bool.and_eq_true] at he
      obtain ⟨⟨h1, h2⟩, h3⟩ := he
      rw [qx_try_] at P
      cases q with
      | false => exact P.elim
      | true =>
        simp only at P
        obtain ⟨outer, hA'⟩ := id hA
        have IH := pxs_sound body h1 hks hef (q := true) (st := st) A s fe H hm hA F hlen
        cases hs' with
        | nil => simp at h3
        | cons h0 hr =>
          refine wpAny_Try_except ?_
          cases hb : pxs O cal true st body with
          | exc x st' =>
            rw [hb] at P IH
            refine IH _ _ ⟨rfl, fun H' sr e s' N X => ?_⟩
            obtain ⟨ea, a0, rfl, hkp, _⟩ := id X
            have hm' := hm.nf N.nf
            obtain ⟨l, hl, ff⟩ := (hm'.kp hkp).frames
            rw [hA'] at hl; cases hl
            exact note_land X hA' hef ff fun s₃ fl => phs_sound hs h2 hks hef hm' hA' N.fm N.len fl (P.nx N)
          | next st' => rw [hb] at P IH; exact IH _ _ fun H' s' N => wpAny_execs_nil (P _ _ N)
          | brk st' => rw [hb] at P IH; exact IH _ _ P
          | cont st' => rw [hb] at P IH; exact IH _ _ P
          | ret v σ => rw [hb] at P IH; exact IH _ _ P
          | stuck => rw [hb] at P; exact P.elim
theorem pxs_sound : ∀ (p : PSs) {q : Bool} {ks : List (Str × NameKind)} {ns : List Str} {st : Fs} {sm : List Stmt} {env : Env}, encSs frees fname ks ns p sm = true → env.scope.names = ks → env.frame = some env.locals → StOk c q k ns env st (execs sm env) (pxs O cal q st p)
  | .nil, q, ks, ns, st, sm, env, he, hks, hef => fun A s fe H hm hA F hlen Q E P => by
    cases sm with
    | cons _ _ => simp [ess_nil, ess_cons, ess_frz] at he
    | nil => simp only [qxs_nil, qxs_cons, qxs_frz] at P; exact wpAny_execs_nil (P _ _ (Nx.of_kp F hlen (Kp.refl _ _)))
  | .cons p r, q, ks, ns, st, sm, env, he, hks, hef => fun A s fe H hm hA F hlen Q E P => by
    cases sm with
    | nil => simp [ess_nil, ess_cons, ess_frz] at he
    | cons sm rest =>
      simp only [ess_nil, ess_cons, ess_frz, Bool.and_eq_true] at he
      refine wpAny_execs_cons (px_sound p he.1 hks hef A s fe H hm hA F hlen _ _ ?_)
      simp only [qxs_nil, qxs_cons, qxs_frz] at P
      cases hp : px O cal q st p with
      | next st' => rw [hp] at P; exact fun H' s' N => pxs_sound r he.2 hks hef A s' fe H' (hm.nf N.nf) hA N.fm N.len Q E (P.nx N)
      | cont st' => rw [hp] at P; exact P
      | brk st' => rw [hp] at P; exact P
      | ret v σ => rw [hp] at P; exact P
      | exc x st' => rw [hp] at P; exact P
      | stuck => rw [hp] at P; exact P
  | .frz j r, q, ks, ns, st, sm, env, he, hks, hef => fun A s fe H hm hA F hlen Q E P => by
    simp only [ess_nil, ess_cons, ess_frz] at he
    simp only [qxs_nil, qxs_cons, qxs_frz] at P
    split at P
    · rename_i ys hj
      have hj := ownOf_eq hj
      obtain ⟨y, hy⟩ : ∃ y, ns[j]? = some y := by
        have : j < st.ρ.length := by
          rcases Nat.lt_or_ge j st.ρ.length with h | h
          · exact h
          · rw [List.getElem?_eq_none h] at hj; cases hj
        exact ⟨ns[j]'(by omega), by simp⟩
      obtain ⟨H', hH', hM', F'⟩ := F.freeze hy hj
      have N : Nx c A ns env fe st H s (st.set j (.val (.lst ys))) H' s := ⟨⟨_, _, rfl⟩, fun b o e => ⟨o, e⟩, fun b z => .inl (hH' b z), Kv.refl _ _ _, fun b o e nf => ⟨o, e, nf⟩, fun n a e => by rw [hM']; exact e, F', by simpa using hlen, rfl, rfl⟩
      exact pxs_sound r he hks hef A s fe H' hm hA F' N.len Q E (P.nx N)
    · exact P.elim
theorem phs_sound : ∀ (p : PHs) {x : EX} {ks : List (Str × NameKind)} {ns : List Str} {st : Fs} {hs : List ExceptHandler} {env : Env} {outer : List Env} {e : Addr} {A : Around} {s sr : Shared} {fe : FE} {H : Hd} {Q : Flow → Shared → Prop} {E : Value → Shared → Prop},
    encHs frees fname ks ns p hs = true → env.scope.names = ks → env.frame = some env.locals → Rm c true (k + 1) A sr.heap → A.frames = some (env :: outer) → Fm c (FrA A) ns env st fe H sr.heap → st.ρ.length = ns.length → Fly A (env :: outer) sr e x s →
    PostS c true A ns env fe st H (phs O cal x st p) sr Q E → wpAny c.M A (handleBy (.ref e) env hs) Q E s
  | .nil, x, ks, ns, st, hs, env, outer, e, A, s, sr, fe, H, Q, E, he, hks, hef, hm, hA, F, hlen, fl, P => P.elim
  | .cons y body r, x, ks, ns, st, hs, env, outer, e, A, s, sr, fe, H, Q, E, he, hks, hef, hm, hA, F, hlen, fl, P => by
    simp only [eh_nil, eh_cons] at he
    obtain ⟨z, pz, b₀, suite, pos, r', rfl, hz⟩ := onHd_eq he
    replace he := hz; clear hz
    all_goals
      simp only [Bool.and_eq_true, beq_iff_eq, List.contains_iff_mem] at he
      obtain ⟨⟨⟨⟨h1, h2⟩, h3⟩, h4⟩, h5⟩ := he
      subst h1
      obtain ⟨g1, g2, g3⟩ := isGlob_of hks h2
      obtain ⟨B, a0, h, tk, hs0, hfl, kh, hB, hfr⟩ := id fl
      have kp : Kp A sr s := ⟨h, tk, hs0, kh⟩
      have Fs := F.kp kp
      have Fs' : Fm c (FrA (A.mark (some (.ref e)))) ns env st fe H s.heap := Fs
      have hfls : Heap.FlyingW B (env :: outer) e (.type x.name) a0 s.heap := by rw [hs0]; exact hfl
      have hBs : ∀ b o, s.heap.get? b = some o → (∃ o', sr.heap.get? b = some o') → b ∉ (env :: outer).filterMap (·.frame) → B.get? b = some o := by rw [hs0]; exact hB
      obtain ⟨ob, hob, hobc⟩ := hfls.there
      refine wpAny_handleBy_builtin (X := x.name) (T := y.name) (b := decide (x = y)) (EX.exc y) (EX.notTup y) (EX.sub x y) (ld_boot Fs' g1 g2 g3 (hfree _ h3) (EX.boot y) ⟨rfl, ⟨ob, hob, hobc⟩, ?_⟩)
      simp only [qh_nil, qh_cons] at P
      by_cases hxy : x = y
      · rw [if_pos hxy] at P
        rw [if_pos (by simpa using hxy)]
        refine lands_againW hfls fun h₆ hfl₆ hsm₆ => ?_
        have kh₆ : Kh (FrA A) sr.heap h₆ := fly_kh kp hA hfls.2.2.1 hBs hfl₆.1 hsm₆
        have kp₆ : Kp A sr { s with heap := h₆ } := by rw [hs0]; exact ⟨h₆, tk, rfl, kh₆⟩
        have F₆ := F.kp kp₆
        have hm₆ := hm.kp kp₆
        have hmk : Rm c false (k + 1) (A.mark (some (.ref e))) h₆ := ⟨hm₆.depth, hm₆.units, fun q => by (cases q), hm₆.frames⟩
        have IH := pxs_sound body h4 hks hef (q := false) (st := st) (A.mark (some (.ref e))) { s with heap := h₆ } fe H hmk ⟨outer, hA⟩ F₆ hlen
        have Nk := Nx.of_kp F hlen kp₆
        have P' := P.nx Nk
        cases hb : pxs O cal false st body with
        | next st' => rw [hb] at P' IH; exact IH _ _ fun H' s' N => P' H' s' N.mark
        | brk st' => rw [hb] at P' IH; exact IH _ _ fun H' s' N => P' H' s' N.mark
        | cont st' => rw [hb] at P' IH; exact IH _ _ fun H' s' N => P' H' s' N.mark
        | ret v σ => rw [hb] at P' IH; exact IH _ _ fun w s' N => P' w s' N.mark
        | exc _ _ => rw [hb] at P'; exact P'.elim
        | stuck => rw [hb] at P'; exact P'.elim
      · rw [if_neg hxy] at P
        rw [if_neg (by simpa using hxy)]
        exact phs_sound r h5 hks hef hm hA F hlen fl P
end
end
end Mine
end
section
open PySem PySem.W PyProof.Rows
set_option linter.unusedVariables false
set_option linter.unusedSectionVars false
namespace Mine

theorem cellsFrom_keep : ∀ (names : List (Str × NameKind)) (n : Nat) (acc : List (Str × Addr)) (x : Str), (acc.lookup x).isSome = true → ((cellsFrom n names acc).lookup x).isSome = true
  | [], _, _, _, h => h
  | (m, kd) :: r, n, acc, x, h => by
    unfold cellsFrom
    split
    · refine cellsFrom_keep r _ _ x ?_
      rw [List.lookup_cons]
      cases hb : x == m with
      | true => rfl
      | false => exact h
    · exact cellsFrom_keep r _ _ x h
theorem cellsFrom_mem : ∀ (names : List (Str × NameKind)) (n : Nat) (acc : List (Str × Addr)) (x : Str), (x, NameKind.cell) ∈ names → ((cellsFrom n names acc).lookup x).isSome = true
  | [], _, _, _, h => by cases h
  | (m, kd) :: r, n, acc, x, h => by
    unfold cellsFrom
    rcases List.mem_cons.mp h with e | h
    · cases e
      rw [if_pos (by decide)]
      refine cellsFrom_keep r _ _ _ ?_
      simp [List.lookup_cons]
    · split
      · exact cellsFrom_mem r _ _ x h
      · exact cellsFrom_mem r _ _ x h

theorem bindL_out {kd : Str → Option NameKind} : ∀ (ns : List Str) (vs : List Value) (m : Str → Option Value) (x : Str), x ∉ ns → bindL kd (ns.zip vs) m x = m x
  | [], _, _, _, _ => rfl
  | _ :: _, [], _, _, _ => rfl
  | n :: ns, v :: vs, m, x, h => by
    simp only [List.zip_cons_cons, bindL]
    rw [bindL_out ns vs _ x fun q => h (List.mem_cons_of_mem _ q)]
    have : x ≠ n := fun q => h (q ▸ List.mem_cons_self ..)
    split <;> simp [this]
theorem bindL_in {kd : Str → Option NameKind} : ∀ (ns : List Str) (vs : List Value) (m : Str → Option Value) (i : Nat) (x : Str) (v : Value), ns.Nodup → ns[i]? = some x → vs[i]? = some v → kd x = some .local → bindL kd (ns.zip vs) m x = some v
  | [], _, _, _, _, _, _, h, _, _ => by simp at h
  | _ :: _, [], _, _, _, _, _, _, h, _ => by simp at h
  | n :: ns, w :: vs, m, i, x, v, nd, hx, hv, hk => by
    simp only [List.zip_cons_cons, bindL]
    cases i with
    | zero =>
      simp at hx hv
      subst hx; subst hv
      rw [bindL_out ns vs _ _ (List.nodup_cons.mp nd).1, if_pos hk]
      simp
    | succ i => simp at hx hv; exact bindL_in ns vs _ i x v (List.nodup_cons.mp nd).2 hx hv hk
theorem bindC_out {kd : Str → Option NameKind} : ∀ (ns : List Str) (vs : List Value) (m : Str → Option Value) (x : Str), x ∉ ns → bindC kd (ns.zip vs) m x = m x
  | [], _, _, _, _ => rfl
  | _ :: _, [], _, _, _ => rfl
  | n :: ns, v :: vs, m, x, h => by
    simp only [List.zip_cons_cons, bindC]
    rw [bindC_out ns vs _ x fun q => h (List.mem_cons_of_mem _ q)]
    have : x ≠ n := fun q => h (q ▸ List.mem_cons_self ..)
    split <;> simp [this]
theorem bindC_in {kd : Str → Option NameKind} : ∀ (ns : List Str) (vs : List Value) (m : Str → Option Value) (i : Nat) (x : Str) (v : Value), ns.Nodup → ns[i]? = some x → vs[i]? = some v → kd x ≠ some .local → bindC kd (ns.zip vs) m x = some v
  | [], _, _, _, _, _, _, h, _, _ => by simp at h
  | _ :: _, [], _, _, _, _, _, _, h, _ => by simp at h
  | n :: ns, w :: vs, m, i, x, v, nd, hx, hv, hk => by
    simp only [List.zip_cons_cons, bindC]
    cases i with
    | zero =>
      simp at hx hv
      subst hx; subst hv
      rw [bindC_out ns vs _ _ (List.nodup_cons.mp nd).1, if_neg hk]
      simp
    | succ i => simp at hx hv; exact bindC_in ns vs _ i x v (List.nodup_cons.mp nd).2 hx hv hk

/-- a def of the text; n values come in, the rest are its own -/
noncomputable def FnAt (c : Cx) (f : Str) (body : List Stmt) (scope : Scope) (ns : List Str) (np n : Nat) (xs : List AV) : Prop :=
  ∃ a o fd vs0, c.mg f = some (.ref a) ∧ c.h0.get? a = some o ∧ o.data = .func fd ∧ fd.body = .stmts body ∧ fd.scope = scope ∧ fd.globals = mainGlobals ∧ fd.closure = [] ∧ fd.builtins = builtinsNs ∧ fd.qualname = f ∧ c.h0.CodeRec fd.code f ∧
    (∀ R : Vw, RepL R vs0 xs) ∧ ∀ (s : Shared) vs, c.h0.StaysIn s.heap → vs.length = n → BindsTo s fd ⟨vs, []⟩ ((ns.take np).zip (vs ++ vs0))
theorem FnAt.obj {c : Cx} {f : Str} {body : List Stmt} {scope : Scope} {ns : List Str} {np n : Nat} {xs : List AV} (h : FnAt c f body scope ns np n xs) : FnObj c f := let ⟨a, o, fd, _, h1, h2, h3, _⟩ := h; ⟨a, o, fd, h1, h2, h3⟩
/-- a def is entered -/
theorem enter_def {prog : Program} {w : World} {A : Around} {R : Result → Shared → Prop} {s : Shared} {name : Str} {body : List Stmt} {scope : Scope} {fd : FuncData} {a : Addr} {o : Obj} {args : List Value} {binds : List (Str × Value)}
    (hroom : A.depth < recursionLimit) (ho : s.heap.get? a = some o) (hdata : o.data = .func fd) (hlim : s.heap.NoLimit) (hcd : s.heap.CodeRec fd.code name)
    (e1 : fd.body = .stmts body) (e2 : fd.scope = scope) (e3 : fd.globals = mainGlobals) (e4 : fd.closure = []) (e5 : fd.builtins = builtinsNs) (e6 : fd.qualname = name)
    (hbind : BindsTo s fd ⟨args, []⟩ binds)
    (hkind : ∀ x ∈ binds, scope.names.lookup x.1 = some .local ∨ (scope.names.lookup x.1 = some .cell ∧ ((cellsFrom (s.heap.objs.size + 1) scope.names []).lookup x.1).isSome = true))
    (h : ∀ h₁ tk, Fr s.heap s.heap.objs.size h₁ (bindL (envOfC name scope s.heap.objs.size a fd.code).kindOf binds fun _ => none) →
      Cl s.heap.objs.size (cellsFrom (s.heap.objs.size + 1) scope.names []) h₁ (bindC (envOfC name scope s.heap.objs.size a fd.code).kindOf binds fun _ => none) →
      wpAny (model prog w) (A.deeper (envOfC name scope s.heap.objs.size a fd.code)) (execs body (envOfC name scope s.heap.objs.size a fd.code))
        (fun f s' => R (.ok (.ret (match f with | .ret v => v | _ => .none))) s')
        (fun e s' => wpAny (model prog w) (A.deeper (envOfC name scope s.heap.objs.size a fd.code)) (leaving (envOfC name scope s.heap.objs.size a fd.code) e)
          (fun _ s'' => R (.error e) s'') (fun e' s'' => R (.error e') s'') s')
        { s with heap := h₁, toks := tk })
    (hco : scope.isCoroutine = false) (hgen : scope.isGenerator = false) (hk : scope.kind = .function) :
    codeAny (model prog w) A (.call (.ref a) ⟨args, []⟩) R s := by
  have ee : callEnvC fd s.heap.objs.size a = envOfC name scope s.heap.objs.size a fd.code := by
    subst e2; subst e6
    unfold callEnvC envOfC
    simp only [e3, e5]
    rfl
  rw [← ee] at h
  subst e2; subst e6
  refine codeAny_call_function hroom ho hdata hco hgen e1 hcd (hbind _ _ _ _ ?_)
  rw [e4]
  refine wpAny_newFunctionEnv_cells hk hkind fun env he s' x => ?_
  subst he
  refine ⟨hlim.keeps x.toInCall.keep, codeAny_func ?_⟩
  obtain ⟨h₁, tk, rfl, _⟩ := x.done
  have x' := x.toInCall
  exact h h₁ tk ⟨x'.ns, x'.keep, x'.fresh⟩ ⟨x.cell, x.apart, x.above⟩

noncomputable def fnRes : FR → ER
  | .ret v σ => .ok (.av v) σ
  | .next st => .ok (.av .none) st.σ
  | .exc x st => .exc x st.σ
  | _ => .stuck
noncomputable def rho0 (args : List AV) (n : Nat) : List (Option Ent) := args.map (fun a => some (.val a)) ++ List.replicate (n - args.length) none
/-- a def's beginning -/
noncomputable def st0 (args : List AV) (n : Nat) (σ : Store) (lo : Nat) : Fs := ⟨rho0 args n, σ, lo, σ.length⟩

/-- what is looked at of a def's text -/
noncomputable def fnOk (frees : List Str) (fname : Nat → Str) (scope : Scope) (ns : List Str) (np : Nat) (p : PSs) (body : List Stmt) : Bool :=
  scope.kind == .function && !scope.isGenerator && !scope.isCoroutine && encSs frees fname scope.names ns p body && decide ((ns.take np).Nodup) && decide (np ≤ ns.length) && (ns.take np).all (fun x => scope.names.lookup x == some .local || scope.names.lookup x == some .cell)

/-- what the caller gets -/
theorem ret_ss {c : Cx} {A A' : Around} {ns : List Str} {env : Env} {st' : Fs} {σ : Store} {lo : Nat} {H H' : Hd} {s s' : Shared} (S : Sto σ H s.heap) (F : Fm c (FrA A') ns env st' ⟨s.heap, H, Wr σ H lo⟩ H' s'.heap) (hn : st'.n0 = σ.length) (hF : ∀ b o, s.heap.get? b = some o → FrA A' b → FrA A b)
    (rest : ∃ h' tk, s' = { s with heap := h', toks := tk }) (lv : ∀ b o, s.heap.get? b = some o → ∃ o', s'.heap.get? b = some o') (nf : Nf s.heap s'.heap) : Ss A lo σ H s st'.σ (retH ⟨s.heap, H, Wr σ H lo⟩ σ.length H') s' := by
  have sub : ∀ b, (retH ⟨s.heap, H, Wr σ H lo⟩ σ.length H').p b → H'.p b := fun b z => by
    rcases z with z | ⟨n, _, e⟩
    · exact F.hle b z
    · exact F.sto.hidden e
  have old : ∀ n b, n < σ.length → H'.m n = some b → H.m n = some b := fun n b l e => F.mold n b (by rw [hn]; exact l) e
  exact {
    rest := rest
    kv := fun b o n e => by
      obtain ⟨p1, p2⟩ := F.keep b o n e
      exact ⟨fun f => p1 (f.imp (fun f z => f (hF b o e z)) id), p2⟩
    lv := lv
    nf := nf
    hp := fun b z => .inl z
    hid := fun b z => by
      rcases z with z | ⟨n, l, e⟩
      · exact .inl z
      · exact .inr (F.mnew n b (by rw [hn]; exact l) e)
    mx := fun n b e => F.mle n b e
    mn := fun n b e => by
      rcases Nat.lt_or_ge n σ.length with l | l
      · exact .inl (old n b l e)
      · exact .inr ⟨l, F.mnew n b (by rw [hn]; exact l) e⟩
    o := rfl
    sto := ⟨fun n mo e => by
        obtain ⟨b, e1, r⟩ := F.sto.at' n mo e
        exact ⟨b, e1, r.kv (Kv.refl (fun _ => False) (fun _ => False) _) id (vis_hide (H := retH ⟨s.heap, H, Wr σ H lo⟩ σ.length H') (H' := H') sub fun _ _ e => e)⟩, F.sto.inj, F.sto.lt, fun n b mo _ e => by
        rcases Nat.lt_or_ge n σ.length with l | l
        · exact .inl (S.hidden (old n b l e))
        · exact .inr ⟨n, l, e⟩, F.sto.al, F.sto.tot⟩
    live := fun b z => F.hlt b (sub b z)
    len := by have := F.n0le; omega
    rv := fun n mo l e => by
      obtain ⟨b, e1, _⟩ := F.sto.at' n mo e
      exact S.tot n b (old n b l e1)
    hm0 := S.lt }

section
variable {c : Cx} {O : OpsF} (OK : OpsOk c O) {k : Nat} {cal : Cal} {fname : Nat → Str} (CO : CallsOk c k cal fname) {frees : List Str} (hfree : ∀ x ∈ frees, c.mg x = none)
include OK CO hfree

theorem code_of {f : Str} {body : List Stmt} {scope : Scope} {ns : List Str} {np n : Nat} {p : PSs} {args xs : List AV} {σ : Store} {lo : Nat} (hf : FnAt c f body scope ns np n xs) (hok : fnOk frees fname scope ns np p body = true)
    (hargs : args.length = n) (hnp : n + xs.length = np) :
    ∀ {A : Around} {s : Shared} {H : Hd} {vs : List Value} {a : Addr} {Q E : Value → Shared → Prop}, Rm c true (k + 2) A s.heap → c.h0.StaysIn s.heap → Live H s.heap → Sto σ H s.heap → (∀ n a, H.m n = some a → c.h0.get? a = none) → RepL (vis s.heap H) vs args → c.mg f = some (.ref a) →
      PostE true A lo σ H (fnRes (pxs O cal true (st0 (args ++ xs) ns.length σ lo) p)) s Q E → codeAny c.M A (.call (.ref a) ⟨vs, []⟩) (fun r s' => match r with | .ok (.ret v) => Q v s' | .ok _ => False | .error e => E e s') s := by
  intro A s H vs a Q E hm hst hL S hm0 hr hmg P
  obtain ⟨a', o, fd, vs0, h1, h2, h3, e1, e2, e3, e4, e5, e6, hcr, hr0, hbind⟩ := hf
  rw [hmg] at h1; cases h1
  have hvl0 : vs.length = n := by rw [hr.length, hargs]
  have hbd := hbind s vs hst hvl0
  have hr := hr.append (hr0 (vis s.heap H))
  clear hbind hr0
  have hcr' := hcr
  generalize hcode : fd.code = code at hcr'
  have enter := fun (R : Result → Shared → Prop) hkind hh k3 k2 k1 => enter_def (A := A) (R := R) (w := c.w) (prog := c.prog) (by have := hm.depth; omega) (hst a o h2) h3 (c.nolimit.keeps hst) (hcr.keeps hst) e1 e2 e3 e4 e5 e6 hbd hkind hh k3 k2 k1
  rw [hcode] at enter
  clear hbd hcr
  have hargs : (args ++ xs).length = np := by rw [List.length_append, hargs, hnp]
  generalize args ++ xs = args at hr hargs P ⊢
  generalize hvv : vs ++ vs0 = vv at hr enter
  have h4 := hcr'
  simp only [fnOk, Bool.and_eq_true, beq_iff_eq, Bool.not_eq_true', decide_eq_true_eq, List.all_eq_true, Bool.or_eq_true] at hok
  obtain ⟨⟨⟨⟨⟨⟨k1, k2⟩, k3⟩, k4⟩, k5⟩, k6⟩, k7⟩ := hok
  have hvl : vv.length = np := by rw [hr.length, hargs]
  have hkind : ∀ x ∈ (ns.take np).zip vv, scope.names.lookup x.1 = some .local ∨ (scope.names.lookup x.1 = some .cell ∧ ((cellsFrom (s.heap.objs.size + 1) scope.names []).lookup x.1).isSome = true) := fun x hx => by
    rcases k7 x.1 (List.of_mem_zip hx).1 with h | h
    · exact .inl h
    · exact .inr ⟨h, cellsFrom_mem _ _ _ _ (mem_of_lookup h)⟩
  refine enter _ hkind (fun h₁ tk F₁ X₁ => ?_) k3 k2 k1
  generalize hEnv : envOfC f scope s.heap.objs.size a code = env at F₁ X₁ ⊢
  have eL : env.locals = s.heap.objs.size := by rw [← hEnv]; rfl
  have eS : env.scope = scope := by rw [← hEnv]; rfl
  have eC : env.cells = cellsFrom (s.heap.objs.size + 1) scope.names [] := by rw [← hEnv]; rfl
  have eF : env.frame = some env.locals := by rw [← hEnv]; rfl
  have eG : env.globals = mainGlobals := by rw [← hEnv]; rfl
  have eB : env.builtins = builtinsNs := by rw [← hEnv]; rfl
  have eCo : env.code = code := by rw [← hEnv]; rfl
  have eK : ∀ x, env.kindOf x = scope.names.lookup x := fun x => by show env.scope.names.lookup x = _; rw [eS]
  rw [← eC] at X₁
  rw [← eL] at F₁ X₁
  obtain ⟨l, hl, ff⟩ := hm.frames
  have dead : ∀ b, s.heap.objs.size ≤ b → s.heap.get? b = none := fun b hb => Heap.get?_none_of_le hb
  have deadL : s.heap.get? env.locals = none := dead _ (Nat.le_of_eq eL.symm)
  have deadC : ∀ x cc, env.cells.lookup x = some cc → s.heap.get? cc = none := fun x cc q => dead _ (by have := X₁.above x cc (mem_of_lookup q); rw [eL] at this; exact Nat.le_of_lt this)
  have h0L : c.h0.get? env.locals = none := by
    cases e : c.h0.get? env.locals with
    | none => rfl
    | some o' => have := hst _ _ e; rw [deadL] at this; cases this
  have hA' : (A.deeper env).frames = some (env :: l) := by show A.frames.map (env :: ·) = _; rw [hl]; rfl
  have ff' : h₁.FunFrames c.h0 (env :: l) := by
    refine ⟨by rw [eS, k1]; decide, ?_, (Kh.of_keeps (F := fun _ => False) F₁.keep).nf.frames ff⟩
    obtain ⟨oL, es, ep, e, d, _⟩ := F₁.ns
    exact ⟨env.locals, oL, eF, h0L, e, fun vs z => by rw [d] at z; cases z⟩
  have frs : ∀ b, FrA (A.deeper env) b → b = env.locals ∨ FrA A b := fun b ⟨l', e1, e2⟩ => by
    rw [hA'] at e1; cases e1
    rw [List.filterMap_cons, eF] at e2
    rcases List.mem_cons.mp e2 with e2 | e2
    · exact .inl e2
    · exact .inr ⟨l, hl, e2⟩
  have hFrL : FrA (A.deeper env) env.locals := ⟨_, hA', by rw [List.filterMap_cons, eF]; exact List.mem_cons_self ..⟩
  generalize hH0 : (⟨fun b => H.p b ∨ b = env.locals ∨ ∃ x, env.cells.lookup x = some b, H.m, fun _ => none⟩ : Hd) = H₀
  have p0 : ∀ b, H₀.p b ↔ (H.p b ∨ b = env.locals ∨ ∃ x, env.cells.lookup x = some b) := fun b => by rw [← hH0]
  have m0 : H₀.m = H.m := by rw [← hH0]
  have live : Live H₀ h₁ := fun b z => by
    rcases (p0 b).mp z with z | rfl | ⟨x, z⟩
    · obtain ⟨o', e⟩ := hL b z; exact ⟨o', F₁.keep b o' e⟩
    · obtain ⟨oL, es, ep, e, _⟩ := F₁.ns; exact ⟨oL, e⟩
    · obtain ⟨o', e, _⟩ := X₁.cell x b z; exact ⟨o', e⟩
  have hHN : ∀ b, H₀.p b → H.p b ∨ s.heap.get? b = none := fun b z => by
    rcases (p0 b).mp z with z | rfl | ⟨x, z⟩
    · exact .inl z
    · exact .inr deadL
    · exact .inr (deadC x b z)
  have kh1 : Kh (FrA (A.deeper env)) s.heap h₁ := Kh.of_keeps F₁.keep
  have hlen0 : (rho0 args ns.length).length = ns.length := by
    unfold rho0
    rw [List.length_append, List.length_map, List.length_replicate]
    omega
  have getv : ∀ (i : Nat) t, (rho0 args ns.length)[i]? = some (some t) → ∃ x, args[i]? = some x ∧ t = .val x := fun i t h => by
    unfold rho0 at h
    by_cases hi : i < args.length
    · rw [List.getElem?_append_left (by simpa using hi), List.getElem?_map] at h
      cases e : args[i]? with
      | none => rw [e] at h; cases h
      | some x => rw [e] at h; simp at h; exact ⟨x, rfl, h.symm⟩
    · rw [List.getElem?_append_right (by simpa using hi), List.getElem?_replicate] at h
      split at h <;> simp at h
  have F : Fm c (FrA (A.deeper env)) ns env (st0 args ns.length σ lo) ⟨s.heap, H, Wr σ H lo⟩ H₀ h₁ := {
    keep := kh1.kv
    wsub := fun b ⟨n, mo, _, e1, e2⟩ => S.hid n b mo e1 e2
    base := hst
    baseF := fun b z => by
      rcases frs b z with rfl | ⟨l', e1, e2⟩
      · exact h0L
      · rw [hl] at e1; cases e1
        exact (ff.mem e2).1
    basew := fun b ⟨n, mo, _, e1, e2⟩ => hm0 n b e2
    hle := fun b z => (p0 b).mpr (.inl z)
    mle := fun n b e => by rw [m0]; exact e
    mold := fun n b _ e => by rw [m0] at e; exact e
    mnew := fun n b l e => by
      rw [m0] at e
      exact absurd (S.lt n b e) (Nat.not_lt.mpr l)
    mw := fun n b mo _ l q e => ⟨n, mo, l, q, by rw [← m0]; exact e⟩
    hlt := live
    felt := hL
    wlt := fun b ⟨n, mo, _, e1, e2⟩ => S.al n b e2
    kind := by rw [eS]; exact k1
    glob := eG
    bi := eB
    code := let ⟨cd, o, vs, _, e, g, d, _⟩ := h4; ⟨cd, o, vs, eCo.trans e, g, d⟩
    ns := ⟨_, F₁.ns⟩
    hl := (p0 _).mpr (.inr (.inl rfl))
    lnew := deadL
    hc := fun x cc _ q => ⟨(p0 _).mpr (.inr (.inr ⟨x, q⟩)), deadC x cc q⟩
    cl := fun x q => by
      rw [eK] at q
      have := cellsFrom_mem scope.names (s.heap.objs.size + 1) [] x (mem_of_lookup q)
      rw [← eC] at this
      obtain ⟨cc, e⟩ := Option.isSome_iff_exists.mp this
      exact ⟨cc, _, e, X₁.cell x cc e⟩
    capart := fun x y cc h1 h2 => name_of_addr X₁.apart (mem_of_lookup h1) (mem_of_lookup h2)
    vals := fun i x t hx ht => by
      obtain ⟨av, hav, rfl⟩ := getv i t ht
      obtain ⟨v, hv, hrv⟩ := hr.get hav
      have hi : i < np := by
        rcases Nat.lt_or_ge i args.length with h | h
        · omega
        · rw [List.getElem?_eq_none h] at hav; cases hav
      have hx' : (ns.take np)[i]? = some x := by rw [List.getElem?_take, if_pos hi]; exact hx
      refine ⟨v, ?_, Rep.mono (vis_new (Kh.of_keeps (F := fun _ => False) F₁.keep) hHN fun n a e => by rw [m0]; exact e) hrv⟩
      rcases k7 x (List.mem_of_getElem? hx') with hk | hk
      · exact .inl ⟨by rw [eK]; exact hk, _, F₁.ns, bindL_in _ _ _ i x v k5 hx' hv (by rw [eK]; exact hk)⟩
      · have := cellsFrom_mem scope.names (s.heap.objs.size + 1) [] x (mem_of_lookup hk)
        rw [← eC] at this
        obtain ⟨cc, e⟩ := Option.isSome_iff_exists.mp this
        have hcell := X₁.cell x cc e
        rw [bindC_in _ _ _ i x v k5 hx' hv (by rw [eK, hk]; decide)] at hcell
        exact .inr ⟨by rw [eK]; exact hk, cc, e, hcell⟩
    own := fun i b e => by rw [← hH0] at e; cases e
    oinj := fun i j b e => by rw [← hH0] at e; cases e
    mh0 := fun n b e => hm0 n b (by rw [← m0]; exact e)
    sto := S.new kh1 (fun b z => (p0 b).mpr (.inl z)) hHN m0
    n0le := Nat.le_refl _ }
  have hm' : Rm c true (k + 1) (A.deeper env) h₁ := ⟨by have := hm.depth; show A.depth + 1 + (k + 1) < _; omega, by have := hm.units; show A.units + 3 + 8 * (k + 1) < _; omega, fun h => hm.hand h, ⟨_, hA', ff'⟩⟩
  have hF : ∀ b o, s.heap.get? b = some o → FrA (A.deeper env) b → FrA A b := fun b o e z => by
    rcases frs b z with rfl | z
    · rw [deadL] at e; cases e
    · exact z
  have ss : ∀ {st' : Fs} {H' : Hd} {s' : Shared}, Fm c (FrA (A.deeper env)) ns env st' ⟨s.heap, H, Wr σ H lo⟩ H' s'.heap → st'.n0 = σ.length → (∃ h' tk', s' = { s with heap := h', toks := tk' }) → (∀ b o, h₁.get? b = some o → ∃ o', s'.heap.get? b = some o') → Nf h₁ s'.heap → Ss A lo σ H s st'.σ (retH ⟨s.heap, H, Wr σ H lo⟩ σ.length H') s' :=
    fun {st' H' s'} F' hn rest lv nf => ret_ss S F' hn hF rest (fun b o e => lv b o (F₁.keep b o e)) (kh1.nf.trans nf)
  have S1 := pxs_sound OK CO hfree p k4 (by rw [eS]) eF (q := true) (st := st0 args ns.length σ lo) (A.deeper env) { s with heap := h₁, toks := tk } ⟨s.heap, H, Wr σ H lo⟩ _ hm' ⟨l, hA'⟩ F hlen0
  cases hp : pxs O cal true (st0 args ns.length σ lo) p with
  | ret v σ' =>
    rw [hp] at S1 P
    refine S1 _ _ fun w s' R => ?_
    obtain ⟨st', H', e1, e2, e3, F', r'⟩ := R.back
    subst e1
    exact P w _ s' (ss F' e2 (let ⟨h', t', e⟩ := R.rest; ⟨h', t', e⟩) R.lv R.nf) r'
  | next st' =>
    rw [hp] at S1 P
    exact S1 _ _ fun H' s' N => P _ _ s' (ss N.fm N.n0 (let ⟨h', t', e⟩ := N.rest; ⟨h', t', e⟩) N.lv N.nf) (by simp [RepW, Rep])
  | exc x st' =>
    rw [hp] at S1 P
    refine S1 _ _ ⟨rfl, fun H' sr e s' N X => ?_⟩
    obtain ⟨ea, a0, rfl, hkp, hdead, _⟩ := id X
    obtain ⟨l', hl', ff2⟩ := ((hm'.nf N.nf).kp hkp).frames
    rw [hA'] at hl'; cases hl'
    show wpAny c.M (A.deeper env) (noteFrame (.ref ea) env >>= fun _ => setFlight (.ref ea) none) _ _ s'
    refine wpAny_bind (note_land X hA' eF ff2 fun s₃ fl => ?_)
    obtain ⟨B, a1, h₃, tk₃, hs₃, hfl, kh₃, hB, hfr⟩ := fl
    -- the state at the raise, with the frame's slots as they are now
    obtain ⟨mL, oL, esL, epL, eLo, dLo, rLo⟩ := N.fm.ns
    obtain ⟨sl, eL3⟩ := (kh₃ env.locals oL eLo).2
    have fr : ({ oL with slots := sl } : Obj).isFreed = false := by
      have : ({ oL with slots := sl } : Obj).data = .dict esL epL := dLo
      unfold Obj.isFreed
      rw [this]
    have up : (sr.heap.update env.locals fun o => { o with slots := sl }).get? env.locals = some { oL with slots := sl } := Heap.get?_update_self _ eLo fr
    have ot : ∀ b, b ≠ env.locals → (sr.heap.update env.locals fun o => { o with slots := sl }).get? b = sr.heap.get? b := fun b hb => Heap.get?_update_other _ _ (Ne.symm hb)
    have khu : Kh (FrA (A.deeper env)) sr.heap (sr.heap.update env.locals fun o => { o with slots := sl }) := fun b o e => by
      by_cases hb : b = env.locals
      · subst hb
        rw [eLo] at e; cases e
        refine ⟨fun z => ?_, sl, up⟩
        rcases z with z | ⟨fs, z⟩
        · exact absurd hFrL z
        · rw [dLo] at z; cases z
      · exact ⟨fun _ => (ot b hb).trans e, o.slots, (ot b hb).trans e⟩
    have F2 := N.fm.step khu
    obtain ⟨hr', tr', er⟩ := N.rest
    have ss2 := ss (s' := { sr with heap := sr.heap.update env.locals fun o => { o with slots := sl } }) F2 N.n0 ⟨_, tr', by rw [er]⟩ (fun b o e => let ⟨o', e'⟩ := N.lv b o e; let ⟨_, e''⟩ := (khu b o' e').2; ⟨_, e''⟩) (N.nf.trans khu.nf)
    refine P.2 _ _ _ _ ss2 ⟨ea, a1, rfl, ⟨h₃, tk₃, by rw [hs₃], fun b o e => ?_⟩, ?_, .inr ?_⟩
    · by_cases hb : b = env.locals
      · subst hb
        have e : (sr.heap.update env.locals fun o => { o with slots := sl }).get? env.locals = some o := e
        rw [up] at e; cases e
        exact ⟨fun _ => eL3, sl, eL3⟩
      · have e : (sr.heap.update env.locals fun o => { o with slots := sl }).get? b = some o := e
        rw [ot b hb] at e
        obtain ⟨q1, q2⟩ := kh₃ b o e
        refine ⟨fun f => q1 (f.imp (fun f z => ?_) id), q2⟩
        rcases frs b z with z | z
        · exact hb z
        · exact f z
    · have : ea ≠ env.locals := fun z => by rw [z, eLo] at hdead; cases hdead
      show (sr.heap.update env.locals fun o => { o with slots := sl }).get? ea = none
      rw [ot ea this]; exact hdead
    · obtain ⟨_, _, _, oe, ws, T, oT, ts, he, hcl, hd, h1', hT, hTe, hoT, hdT, h3'⟩ := hfl
      rw [hs₃]
      refine ⟨oe, ws, T, oT, ts, he, hcl, hd, h1', ?_, hTe, hoT, hdT, h3'⟩
      have hTl : T ≠ env.locals := fun z => by
        have hoT : h₃.get? T = some oT := hoT
        rw [z, eL3] at hoT; cases hoT
        have hdT : oL.data = _ := hdT
        rw [dLo] at hdT; cases hdT
      show (sr.heap.update env.locals fun o => { o with slots := sl }).get? T = none
      rw [ot T hTl]
      cases e : sr.heap.get? T with
      | none => rfl
      | some o' =>
        exfalso
        by_cases hTf : T ∈ (env :: l).filterMap (·.frame)
        · obtain ⟨o2, e3, nf⟩ := hfr T hTf
          have hoT : h₃.get? T = some oT := hoT
          rw [hoT] at e3; cases e3
          exact nf _ hdT
        · have := hB T oT hoT ⟨_, e⟩ hTf
          rw [hT] at this; cases this
  | brk _ => rw [hp] at P; exact P.elim
  | cont _ => rw [hp] at P; exact P.elim
  | stuck => rw [hp] at P; exact P.elim

theorem calls_of {f : Str} {body : List Stmt} {scope : Scope} {ns : List Str} {np n : Nat} {p : PSs} {args xs : List AV} {σ : Store} {lo : Nat} (hf : FnAt c f body scope ns np n xs) (hok : fnOk frees fname scope ns np p body = true)
    (hargs : args.length = n) (hnp : n + xs.length = np) :
    Calls c (k + 2) f σ lo args (fnRes (pxs O cal true (st0 (args ++ xs) ns.length σ lo) p)) := by
  intro A s H vs a hm hst hL S hm0 hr hmg
  exact fun Q E P => wpAny_call (code_of OK CO hfree hf hok hargs hnp hm hst hL S hm0 hr hmg P)
end
end Mine
end
section
open PySem PySem.W PyProof.Rows
namespace Mine
set_option maxRecDepth 100000


noncomputable def itemsV : AV → Option (List AV)
  | .lst xs => some xs
  | .tup xs => some xs
  | .range a b s => if Builtin.Range.small a b s = true then (if (Builtin.Range.rangeSize a b s).toNat ≤ 1048576 then some (rangeL a b s) else none) else none
  | _ => none

/-- more things that are gone over; ld: how sets are led -/
noncomputable def itemsW (_ld : Bool) (a : AV) : Option (List AV) := itemsV a
section
variable {c : Cx} {A : Around}
theorem itr_list (hh : A.handled = none) {I l : Addr} {vs : List Value} (hI : l ≠ I) : Itr c A I (fun b => b = I ∨ b = l) (fun i v => vs[i]? = some v) vs.length (fun i h => h.IsListIter I l i ∧ h.IsList l vs.toArray) where
  fld := fun i h ⟨⟨o, e, hc, hd⟩, _⟩ => ⟨o, _, e, hd, by rw [hc]; unfold okC; decide +kernel⟩
  nt := fun i h ⟨⟨o, e, hc, hd⟩, _⟩ => ⟨o, _, e, hc, by decide +kernel⟩
  frame := fun i h h' ⟨⟨o, e, hc, hd⟩, ⟨o2, e2, hc2, n, hd2⟩⟩ fr => by
    refine ⟨⟨o, (fr I o (.inl rfl) e).1 ⟨_, hd⟩, hc, hd⟩, ?_⟩
    obtain ⟨sl, e3⟩ := (fr l o2 (.inr rfl) e2).2
    exact ⟨_, e3, hc2, n, hd2⟩
  item := fun i s Q E hi ⟨hit, hl⟩ h => by
    refine wpAny_pyNext_list_item hit hl (x := vs[i]) (by simp [hi]) fun h' hit' sb => ?_
    exact h _ h' s.toks (by simp [hi]) ⟨hit', hl.extBut (fun b o hb e => (sb.2 b hb).trans e) hI⟩ (fun b o hb e => (sb.2 b hb).trans e) (let ⟨o, e, _⟩ := hit'; ⟨o, e⟩)
  done := fun s Q E ⟨hit, hl⟩ h => wpAny_pyNext_list_end hh hit hl (by simp) fun h' eb => h h' s.toks fun b o hb e => eb b o hb e
  self := fun i s Q E ⟨hit, _⟩ h => wpAny_pyIter_listiter hit h

theorem itr_tup (hh : A.handled = none) {I l : Addr} {vs : List Value} (hI : l ≠ I) : Itr c A I (fun b => b = I ∨ b = l) (fun i v => vs[i]? = some v) vs.length (fun i h => h.IsTupleIter I l i ∧ h.IsTuple l vs.toArray) where
  fld := fun i h ⟨⟨o, e, hc, hd⟩, _⟩ => ⟨o, _, e, hd, by rw [hc]; unfold okC; decide +kernel⟩
  nt := fun i h ⟨⟨o, e, hc, hd⟩, _⟩ => ⟨o, _, e, hc, by decide +kernel⟩
  frame := fun i h h' ⟨⟨o, e, hc, hd⟩, ⟨o2, e2, hc2, n, hd2⟩⟩ fr => by
    refine ⟨⟨o, (fr I o (.inl rfl) e).1 ⟨_, hd⟩, hc, hd⟩, ?_⟩
    obtain ⟨sl, e3⟩ := (fr l o2 (.inr rfl) e2).2
    exact ⟨_, e3, hc2, n, hd2⟩
  item := fun i s Q E hi ⟨hit, hl⟩ h => by
    refine wpAny_pyNext_tuple_item hit hl (x := vs[i]) (by simp [hi]) fun h' hit' sb => ?_
    exact h _ h' s.toks (by simp [hi]) ⟨hit', hl.extBut (fun b o hb e => (sb.2 b hb).trans e) hI⟩ (fun b o hb e => (sb.2 b hb).trans e) (let ⟨o, e, _⟩ := hit'; ⟨o, e⟩)
  done := fun s Q E ⟨hit, hl⟩ h => wpAny_pyNext_tuple_end hh hit hl (by simp) fun h' eb => h h' s.toks fun b o hb e => eb b o hb e
  self := fun i s Q E ⟨hit, _⟩ h => wpAny_pyIter_tupleiter hit h

theorem itr_range (hh : A.handled = none) {I : Addr} {a b st : Int} (hs : 0 ≤ Builtin.Range.rangeSize a b st) : Itr c A I (fun b => b = I) (fun i v => ∃ t, v = .int (a + i * st) t) (Builtin.Range.rangeSize a b st).toNat
    (fun i h => IsRangeIter h I (a + i * st) (Builtin.Range.rangeSize a b st - i) st) where
  fld := fun i h hit => ⟨_, _, hit, rfl, by show ¬ okC (.type "range_iterator"); unfold okC; decide +kernel⟩
  nt := fun i h hit => ⟨_, _, hit, rfl, by decide +kernel⟩
  frame := fun i h h' hit fr => (fr I _ rfl hit).1 ⟨_, rfl⟩
  item := fun i s Q E hi hit h => by
    refine wpAny_pyNext_range_item hit (by omega) fun h' hit' sb => ?_
    refine h _ h' (s.toks + 1) ⟨_, rfl⟩ ?_ (fun b o hb e => (sb.2 b hb).trans e) ⟨_, hit'⟩
    have e1 : a + (i : Int) * st + st = a + ((i + 1 : Nat) : Int) * st := by rw [Int.natCast_add, Int.add_mul]; omega
    have e2 : Builtin.Range.rangeSize a b st - (i : Int) - 1 = Builtin.Range.rangeSize a b st - ((i + 1 : Nat) : Int) := by omega
    rw [e1, e2] at hit'
    exact hit'
  done := fun s Q E hit h => wpAny_pyNext_range_end hh hit (by omega) fun h' eb => h h' s.toks fun b o hb e => eb b o hb e
  self := fun i s Q E hit h => wpAny_pyIter_rangeiter hit h

theorem rangeSize_nonneg (a b s : Int) : 0 ≤ Builtin.Range.rangeSize a b s := by
  unfold Builtin.Range.rangeSize
  split
  · split
    · exact Int.add_nonneg (Int.ediv_nonneg (by omega) (by omega)) (by omega)
    · omega
  · split
    · exact Int.add_nonneg (Int.ediv_nonneg (by omega) (by omega)) (by omega)
    · omega

theorem itemsV_ref {a : AV} {xs : List AV} (h : itemsV a = some xs) : (∀ n, a ≠ .ptr n) ∧ (∀ k ys, a ≠ .itr k ys) ∧ a ≠ .any :=
  ⟨by rintro b rfl; simp [itemsV] at h, by rintro k ys rfl; simp [itemsV] at h, by rintro rfl; simp [itemsV] at h⟩

theorem itemsV_ok {q : Bool} {k : Nat} {s : Shared} {H : Hd} {a : AV} {va : Value} {xs : List AV} (hm : Rm c q (k + 1) A s.heap) (hq : q = true) (r : RepO s.heap H va a) (h : itemsV a = some xs) (Q E : Value → Shared → Prop)
    (K : ∀ I fp P St h' tk, (∀ b o, s.heap.get? b = some o → h'.get? b = some o) → s.heap.get? I = none → fp I → (∀ b, fp b → ∃ o, h'.get? b = some o) → (∀ b, fp b → b = I ∨ va = .ref b) → xs.length ≤ 1048576 → Itr c A I fp P xs.length St → St 0 h' →
      (∀ (i : Nat) v x, P i v → xs[i]? = some x → Rep (vis s.heap H) v x) → Q (.ref I) { s with heap := h', toks := tk }) : wpAny c.M A (pyIter va) Q E s := by
  have hh := hm.hand hq
  cases a <;> simp only [itemsV, reduceCtorEq] at h
  · rename_i a b st
    by_cases hsm : Builtin.Range.small a b st = true
    case neg => rw [if_neg hsm] at h; cases h
    rw [if_pos hsm] at h
    by_cases hsz : (Builtin.Range.rangeSize a b st).toNat ≤ 1048576
    case neg => rw [if_neg hsz] at h; cases h
    rw [if_pos hsz] at h
    cases h
    simp only [RepO, Rep] at r
    obtain ⟨r, ta, tb, ts, rfl, _, o, e, hc, hd, hdi, _, hsl⟩ := r
    have hr : IsRange s.heap r a b st ta tb ts := by
      show s.heap.get? r = _
      rw [e]; obtain ⟨c', d', da', sl'⟩ := o
      simp only at hc hd hdi hsl
      rw [hc, hd, hdi, hsl ⟨_, rfl⟩]
    refine wpAny_pyIter_range hr hsm ?_
    refine K s.heap.objs.size (fun b => b = s.heap.objs.size) (fun i v => ∃ t, v = .int (a + i * st) t) (fun i h => IsRangeIter h s.heap.objs.size (a + i * st) (Builtin.Range.rangeSize a b st - i) st) _ s.toks (fun b o e => Heap.get?_push_of_some _ e) (Heap.get?_none_of_le (Nat.le_refl _)) rfl (fun b hb => by subst hb; exact ⟨_, Heap.get?_push_size _ rfl⟩) (fun b hb => .inl hb) (by simpa [rangeL] using hsz)
      (by simp only [rangeL, List.length_map, List.length_range]; exact itr_range hh (rangeSize_nonneg a b st)) ?_ ?_
    · simp only [Int.natCast_zero, Int.zero_mul, Int.add_zero, Int.sub_zero]
      exact Heap.get?_push_size _ rfl
    · rintro i v x ⟨t, rfl⟩ hx
      simp only [rangeL, List.getElem?_map, Option.map_eq_some_iff] at hx
      obtain ⟨j, hj, rfl⟩ := hx
      obtain ⟨hj1, hj2⟩ := List.getElem?_eq_some_iff.mp hj
      simp at hj2
      subst hj2
      exact ⟨t, rfl⟩
  · cases h
    simp only [RepO, Rep] at r
    obtain ⟨hz, l, vs, n, rfl, ⟨_, o, e, hc, hd, _⟩, rl⟩ := r
    have ht : s.heap.IsTuple l vs.toArray := ⟨o, e, hc, n, hd⟩
    have hlt := Heap.lt_size e
    refine wpAny_pyIter_tuple ht ?_
    refine K s.heap.objs.size (fun b => b = s.heap.objs.size ∨ b = l) (fun i v => vs[i]? = some v) (fun i h => h.IsTupleIter s.heap.objs.size l i ∧ h.IsTuple l vs.toArray) _ s.toks (fun b o e => Heap.get?_push_of_some _ e) (Heap.get?_none_of_le (Nat.le_refl _)) (.inl rfl) (fun b hb => ?_) (fun b hb => hb.imp id fun x => by rw [x]) hz
      (by rw [← rl.length]; exact itr_tup hh (l := l) (vs := vs) (Nat.ne_of_lt hlt)) ⟨⟨_, Heap.get?_push_size _ rfl, rfl, rfl⟩, ht.push _⟩ ?_
    · rcases hb with rfl | rfl
      · exact ⟨_, Heap.get?_push_size _ rfl⟩
      · exact ⟨o, Heap.get?_push_of_some _ e⟩
    · intro i v x hv hx
      obtain ⟨v', hv', rv⟩ := rl.get hx
      rw [hv] at hv'; cases hv'; exact rv
  · cases h
    simp only [RepO] at r
    obtain ⟨hz, l, vs, rfl, hl, rl⟩ := r
    obtain ⟨o, n, e, hc, hd, _⟩ := id hl
    have hlt := Heap.lt_size e
    refine wpAny_pyIter_list hl.isList ?_
    refine K s.heap.objs.size (fun b => b = s.heap.objs.size ∨ b = l) (fun i v => vs[i]? = some v) (fun i h => h.IsListIter s.heap.objs.size l i ∧ h.IsList l vs.toArray) _ s.toks (fun b o e => Heap.get?_push_of_some _ e) (Heap.get?_none_of_le (Nat.le_refl _)) (.inl rfl) (fun b hb => ?_) (fun b hb => hb.imp id fun x => by rw [x]) hz
      (by rw [← rl.length]; exact itr_list hh (l := l) (vs := vs) (Nat.ne_of_lt hlt)) ⟨⟨_, Heap.get?_push_size _ rfl, rfl, rfl⟩, hl.isList.push _⟩ ?_
    · rcases hb with rfl | rfl
      · exact ⟨_, Heap.get?_push_size _ rfl⟩
      · exact ⟨o, Heap.get?_push_of_some _ e⟩
    · intro i v x hv hx
      obtain ⟨v', hv', rv⟩ := rl.get hx
      rw [hv] at hv'; cases hv'; exact rv
end

theorem itemsW_ref {ld : Bool} {a : AV} {xs : List AV} (h : itemsW ld a = some xs) : (∀ n, a ≠ .ptr n) ∧ (∀ k ys, a ≠ .itr k ys) ∧ a ≠ .any := itemsV_ref h
section
variable {c : Cx} {A : Around}
theorem itemsW_ok {ld q : Bool} {k : Nat} {s : Shared} {H : Hd} {a : AV} {va : Value} {xs : List AV} (hld : ld = !c.w.params.followText "set-order") (hm : Rm c q (k + 1) A s.heap) (hq : q = true) (r : RepO s.heap H va a) (h : itemsW ld a = some xs) (Q E : Value → Shared → Prop)
    (K : ∀ I fp P St h' tk, (∀ b o, s.heap.get? b = some o → h'.get? b = some o) → s.heap.get? I = none → fp I → (∀ b, fp b → ∃ o, h'.get? b = some o) → (∀ b, fp b → b = I ∨ va = .ref b) → xs.length ≤ 1048576 → Itr c A I fp P xs.length St → St 0 h' →
      (∀ (i : Nat) v x, P i v → xs[i]? = some x → Rep (vis s.heap H) v x) → Q (.ref I) { s with heap := h', toks := tk }) : wpAny c.M A (pyIter va) Q E s := itemsV_ok hm hq r h Q E K
end

theorem getItem_tupleI {prog : Program} {w : World} {A : Around} {E : Value → Shared → Prop} {s : Shared} {t : Addr} {items : Array Value} {i : Int} {u : Tok} {x : Value} {Q : Value → Shared → Prop} (ht : s.heap.IsTuple t items) (h0 : 0 ≤ i) (hi : i < 1048576) (hx : items[i.toNat]? = some x) (h : Q x s) : wpAny (model prog w) A (getItem (.ref t) (.int i u)) Q E s := by
  have hlt : i.toNat < items.size := by
    rcases Nat.lt_or_ge i.toNat items.size with h | h
    · exact h
    · rw [Array.getElem?_eq_none h] at hx; cases hx
  refine PyProof.Rows.getItem_tuple (j := i.toNat) ht (by omega) (by omega) ?_ hx h
  simp [seqIndex?, h0, hlt]
  omega
/- looks at plain values -/
/- the built-ins' calls -/
noncomputable def tyName : AV → Option String
  | .none => some "NoneType"
  | .bool _ => some "bool"
  | .int _ => some "int"
  | .float _ => some "float"
  | .str _ => some "str"
  | .bytes _ => some "bytes"
  | .lst _ => some "list"
  | .tup _ => some "tuple"
  | .range _ _ _ => some "range"
  | .itr k _ => some k.cls
  | .set fz _ _ => some (setName fz)
  | _ => none
theorem tyName_ok {s : Shared} {H : Hd} {v : Value} {x : AV} {T : String} (h : tyName x = some T) (r : RepO s.heap H v x) : s.TypeIs v T := by
  cases x with
  | none => cases h; cases r; rfl
  | bool => cases h; cases r; rfl
  | int => cases h; obtain ⟨t, rfl⟩ := r; rfl
  | float => cases h; obtain ⟨t, rfl⟩ := r; rfl
  | str => cases h; obtain ⟨t, rfl⟩ := r; rfl
  | bytes => cases h; obtain ⟨t, rfl⟩ := r; rfl
  | range => cases h; simp only [RepO, Rep] at r; obtain ⟨r, ta, tb, ts, rfl, _, o, e, hc, _⟩ := r; exact ⟨o, e, hc⟩
  | tup => cases h; simp only [RepO, Rep] at r; obtain ⟨_, l, vs, n, rfl, ⟨_, o, e, hc, _⟩, _⟩ := r; exact ⟨o, e, hc⟩
  | lst => cases h; obtain ⟨_, l, vs, rfl, hl, _⟩ := r; exact hl.typeIs
  | itr => cases h; obtain ⟨l, rfl, o, e, hc, _⟩ := r; exact ⟨o, e, hc⟩
  | set => cases h; obtain ⟨l, rfl, o, _, _, _, e, hc, _⟩ := r; exact ⟨o, e, hc⟩
  | _ => cases h
theorem cls_nb : ∀ k : IK, (Value.type k.cls == Value.type "builtin_function_or_method") = false
  | .list => by decide
  | .tuple => by decide
  | .range => by decide
theorem tyName_nb {x : AV} {T : String} (h : tyName x = some T) : (Value.type T == Value.type "builtin_function_or_method") = false := by
  cases x with
  | itr k _ => cases h; exact cls_nb k
  | set fz _ _ => cases h; cases fz <;> decide
  | _ => cases h <;> decide

theorem repOL1 {h : Heap} {H : Hd} {vs : List Value} {x : AV} (r : RepOL h H vs [x]) : ∃ v, vs = [v] ∧ RepO h H v x := by
  cases vs with
  | nil => exact r.elim
  | cons v vs => cases vs with
    | nil => exact ⟨v, rfl, r.1⟩
    | cons => exact r.2.elim
theorem rep_fresh_range {H : Hd} {s : Shared} {a b st : Int} {t u v : Tok} (hL : Live H s.heap) :
    Rep (vis (s.heap.push { cls := .type "range", data := .fields #[.int a t, .int b u, .int st v] }) H) (.ref s.heap.objs.size) (.range a b st) := by
  simp only [Rep]
  exact ⟨_, t, u, v, rfl, hL.fresh, _, Heap.get?_push_size _ rfl, rfl, rfl, rfl, .inr (.inr (.inl rfl)), fun _ => rfl⟩

section
variable {c : Cx} {q : Bool} {k : Nat} {A : Around} {s : Shared} {H : Hd} {Q E : Value → Shared → Prop}
theorem call_sum_ok {l : Addr} {vs : List Value} {xs : List AV} {ns : List Int} (hh : A.handled = none) (hl : IsL s.heap l vs) (rl : RepL (vis s.heap H) vs xs) (hn : ints? xs = some ns) (P : Post q A H (.ok (.int ns.sum)) s Q E) :
    wpAny c.M A (PySem.call (.builtin "sum") [.ref l]) Q E s := by
  obtain ⟨ps, e1, e2⟩ := ints_items hn rl
  have hl' := hl.isList
  rw [e1] at hl'
  refine sum_intListG hh hl' fun h' tk t' kp => ?_
  rw [preSum_eq, List.take_of_length_le (by simp)]
  have e3 : (ps.toArray.toList.map (·.1)).sum = ns.sum := by rw [← e2]
  rw [e3]
  exact P _ _ (Kp.of kp) ⟨t', rfl⟩
end

section
variable {c : Cx} {k : Nat} {A : Around} {s : Shared} {H : Hd} {vs : List Value}
/-- lengths of other things -/
noncomputable def lenV : AV → Res
  | .set false _ ys => .ok (.int ys.length)
  | _ => .stuck
noncomputable def b_len : List AV → Res
  | [.lst ys] => .ok (.int ys.length)
  | [x] => lenV x
  | _ => .stuck
theorem lenV_ok {x : AV} {v : Value} (hm : Rm c true (k + 1) A s.heap) (r : RepO s.heap H v x) : Tr c true A H (PySem.call (.builtin "len") [v]) (lenV x) s := by
  unfold lenV
  split
  · exact len_S r
  · exact Tr.stuck
theorem b_len_ok {xs : List AV} (hm : Rm c true (k + 1) A s.heap) (r : RepOL s.heap H vs xs) : Tr c true A H (PySem.call (.builtin "len") vs) (b_len xs) s := by
  unfold b_len
  split
  · obtain ⟨v, rfl, hz, l, ws, rfl, hl, rl⟩ := repOL1 r
    exact fun Q E P => PySem.Calls.call_len_list hl.isList (by simp [rl.length]; omega) (P _ _ Kp.toks ⟨_, by simp [rl.length]; rfl⟩)
  · obtain ⟨v, rfl, rv⟩ := repOL1 r
    exact lenV_ok hm rv
  · exact Tr.stuck
noncomputable def b_sum : List AV → Res
  | [.lst ys] => (match ints? ys with | some ns => .ok (.int ns.sum) | none => .stuck)
  | _ => .stuck
theorem b_sum_ok {xs : List AV} (hm : Rm c true (k + 1) A s.heap) (r : RepOL s.heap H vs xs) : Tr c true A H (PySem.call (.builtin "sum") vs) (b_sum xs) s := by
  unfold b_sum
  split
  · obtain ⟨v, rfl, hz, l, ws, rfl, hl, rl⟩ := repOL1 r
    split
    · rename_i ns hn; exact fun Q E P => call_sum_ok (hm.hand rfl) hl rl hn P
    · exact Tr.stuck
  · exact Tr.stuck
noncomputable def b_range : List AV → Res
  | [.int n] => .ok (.range 0 n 1)
  | _ => .stuck
theorem b_range_ok {xs : List AV} (hL : Live H s.heap) (r : RepOL s.heap H vs xs) : Tr c true A H (PySem.call (.type "range") vs) (b_range xs) s := by
  unfold b_range
  split
  · obtain ⟨v, rfl, t, rfl⟩ := repOL1 r
    exact fun Q E P => call_range_1 (P _ _ (Kp.of fun _ _ e => Heap.get?_push_of_some _ e) (rep_fresh_range hL))
  · exact Tr.stuck
noncomputable def b_type : List AV → Res
  | [x] => (match tyName x with | some T => .ok (.type T) | none => .stuck)
  | _ => .stuck
theorem b_type_ok {xs : List AV} (r : RepOL s.heap H vs xs) : Tr c true A H (PySem.call (.type "type") vs) (b_type xs) s := by
  unfold b_type
  split
  · obtain ⟨v, rfl, rr⟩ := repOL1 r
    split
    · rename_i T hT
      exact fun Q E P => call_type_of (tyName_ok hT rr) (tyName_nb hT) (P _ _ (Kp.refl _ _) rfl)
    · exact Tr.stuck
  · exact Tr.stuck
end
/-- the built-ins' calls -/
noncomputable def callB (f : BI) (xs : List AV) : Res := match f with
  | .len => b_len xs
  | .sum => b_sum xs
  | .range => b_range xs
  | .type => b_type xs
  | _ => .stuck
theorem callB_ok {c : Cx} {k : Nat} {A : Around} {s : Shared} {H : Hd} {f : BI} {v : Value} {xs : List AV} {vs : List Value} (hm : Rm c true (k + 1) A s.heap) (hL : Live H s.heap) (r : RepOL s.heap H vs xs) (hv : bootBuiltins (f.name : Str) = some v) :
    Tr c true A H (PySem.call v vs) (callB f xs) s := by
  have e : v = f.val := by have := BI.boot f; exact Option.some.inj (hv.symm.trans this)
  subst e
  cases f with
  | len => exact b_len_ok hm r
  | sum => exact b_sum_ok hm r
  | range => exact b_range_ok hL r
  | type => exact b_type_ok r
  | _ => exact Tr.stuck

/- the words together -/
noncomputable def addV (_a _b : AV) : Res := .stuck
noncomputable def modS (_a _b : AV) : Res := .stuck
noncomputable def opBin (op : Operator) (a b : AV) : Res := two AV.int? a b (intBin op) (match op with
  | .Add => addV a b
  | .Mod => modS a b
  | _ => .stuck)
noncomputable def opInpl (_op : Operator) (_x _y : AV) : Res := .stuck
noncomputable def opUn (op : UnaryOp) : AV → Res
  | .int a => match op with | .USub => .ok (.int (-a)) | _ => .stuck
  | _ => .stuck
noncomputable def inCmp (op : CmpOp) (a : Int) (ns : List Int) : Option Bool := match op with
  | .In => some (ns.any (· == a))
  | .NotIn => some (!(ns.any (· == a)))
  | _ => none
noncomputable def inV (op : CmpOp) : AV → AV → Option Bool
  | .int a, .lst ys => (match ints? ys with | some ns => inCmp op a ns | none => none)
  | _, _ => none
noncomputable def orS (a b : Option Bool) : Option Bool := match a with
  | some r => some r
  | none => b
theorem orS_ok {a b : Option Bool} {r : Bool} {P : Prop} (h : orS a b = some r) (h1 : a = some r → P) (h2 : b = some r → P) : P := by
  cases a with
  | some x => exact h1 h
  | none => exact h2 h
noncomputable def opCmp (op : CmpOp) (x y : AV) : Option Bool := match op with
  | .Eq => orS (setCmp .Eq x y) (eqCmp .Eq x y)
  | .NotEq => orS (setCmp .NotEq x y) (eqCmp .NotEq x y)
  | .In => orS (setCmp .In x y) (inV .In x y)
  | _ => none
noncomputable def opTruth : AV → Option Bool
  | .bool b => some b
  | .int a => some (a != 0)
  | .none => some false
  | .lst xs => some (!xs.isEmpty)
  | _ => none
noncomputable def opIdx : AV → AV → Res
  | .tup xs, .int i => if 0 ≤ i then (match xs[i.toNat]? with | some x => .ok x | none => .stuck) else .stuck
  | _, _ => .stuck
noncomputable def opSlice : AV → AV → AV → AV → Res
  | .lst xs, a, b, z => sliceL xs a b z
  | _, _, _, _ => .stuck
noncomputable def noneIs : AV → Option Bool
  | .none => some true
  | .lst _ => some false
  | .int _ => some false
  | _ => none
noncomputable def AV.ptr? : AV → Option Nat
  | .ptr n => some n
  | _ => Option.none
theorem ptr?_eq {a : AV} {n : Nat} (h : a.ptr? = some n) : a = .ptr n := by
  cases a with
  | ptr m => exact congrArg AV.ptr (Option.some.inj h)
  | _ => cases h
noncomputable def opIs (a b : AV) : Option Bool := two AV.ptr? a b (fun x y => some (x == y)) (two AV.type? a b (fun x y => some (x == y)) (if b.none? = true then noneIs a else none))
noncomputable def opOmeth (m : OMI) (xs args : List AV) : Option (List AV) := match m, args with
  | .append, [x] => if xs.length < 1000000 then some (xs ++ [x]) else none
  | _, _ => none

noncomputable def callE (ld : Bool) (f : BI) (σ : Store) (lo : Nat) (xs : List AV) : ER := match f with
  | .set => s_set ld σ xs
  | .frozenset => s_fz ld σ xs
  | .sorted => s_sorted ld σ xs
  | _ => .stuck
noncomputable def ops (ld : Bool) : OpsF where
  ld := ld
  bin := opBin
  inpl := opInpl
  un := opUn
  cmp := opCmp
  truth := opTruth
  idx := opIdx
  slice := opSlice
  bcall := callB
  items := itemsW ld
  is_ := opIs
  ecall := callE ld
  ometh := opOmeth
  sitems := s_items ld
  einpl := fun op σ lo a b => match op with
    | .BitXor => s_xor ld σ lo a b
    | _ => .stuck

section
variable {c : Cx} {q : Bool} {k : Nat} {A : Around} {s : Shared} {H : Hd}
theorem addV_ok {a b : AV} {va vb : Value} (_hL : Live H s.heap) (_ra : RepO s.heap H va a) (_rb : RepO s.heap H vb b) : Tr c q A H (binaryOp .Add va vb) (addV a b) s := Tr.stuck
theorem modS_ok {a b : AV} {va vb : Value} (ra : RepO s.heap H va a) (rb : RepO s.heap H vb b) : Tr c q A H (binaryOp .Mod va vb) (modS a b) s := Tr.stuck
theorem opBin_ok {op : Operator} {a b : AV} {va vb : Value} (hm : Rm c q (k + 1) A s.heap) (hL : Live H s.heap) (ra : RepO s.heap H va a) (rb : RepO s.heap H vb b) : Tr c q A H (binaryOp op va vb) (opBin op a b) s := by
  refine two_cases (P := fun r => Tr c q A H (binaryOp op va vb) r s) (fun x y ea eb => ?_) ?_
  · rw [int?_eq ea] at ra; rw [int?_eq eb] at rb
    obtain ⟨t, rfl⟩ := ra; obtain ⟨u, rfl⟩ := rb; exact intBin_ok hm
  · cases op with
    | Add => exact addV_ok hL ra rb
    | Mod => exact modS_ok ra rb
    | _ => exact Tr.stuck
theorem opInpl_ok {op : Operator} {a b : AV} {va vb : Value} (hm : Rm c q (k + 1) A s.heap) (ra : RepO s.heap H va a) (rb : RepO s.heap H vb b) : Tr c q A H (inplaceOp op va vb) (opInpl op a b) s := Tr.stuck
theorem opUn_ok {op : UnaryOp} {a : AV} {va : Value} (ra : RepO s.heap H va a) : Tr c q A H (unaryOp op va) (opUn op a) s := by
  unfold opUn
  split
  · obtain ⟨t, rfl⟩ := ra
    split
    · exact fun Q E P => PySem.P.neg_int (P _ _ Kp.toks ⟨_, rfl⟩)
    · exact Tr.stuck
  · exact Tr.stuck
theorem type_beq (x y : String) : (Value.type x == Value.type y) = (x == y) := by
  by_cases hxy : x = y
  · subst hxy; simp
  · rw [beq_eq_false_iff_ne.mpr hxy, beq_eq_false_iff_ne.mpr (fun z => hxy (by injection z))]
theorem inV_ok {op : CmpOp} {a b : AV} {va vb : Value} {r : Bool} (ra : RepO s.heap H va a) (rb : RepO s.heap H vb b) (h : inV op a b = some r) : Tr c q A H (compareOp op va vb) (.ok (.bool r)) s := by
  unfold inV at h
  split at h
  · split at h
    · rename_i ns hn
      obtain ⟨t, rfl⟩ := ra
      obtain ⟨hz, l, vs, rfl, hl, rl⟩ := rb
      intro Q E P
      cases op <;> simp only [inCmp, Option.some.injEq, reduceCtorEq] at h <;> subst h
      · exact PyProof.Rows.in_list_ints hl.isList (ints_are hn rl) (post_bool P)
      · exact PyProof.Rows.notin_list_ints hl.isList (ints_are hn rl) (post_bool P)
    · cases h
  · cases h
theorem opCmp_ok {op : CmpOp} {a b : AV} {va vb : Value} {r : Bool} (hm : Rm c q (k + 1) A s.heap) (ra : RepO s.heap H va a) (rb : RepO s.heap H vb b) (h : opCmp op a b = some r) : Tr c q A H (compareOp op va vb) (.ok (.bool r)) s := by
  cases op with
  | Eq => exact orS_ok h (fun h => setCmp_ok hm ra rb h) fun h => eqCmp_ok hm h ra rb
  | NotEq => exact orS_ok h (fun h => setCmp_ok hm ra rb h) fun h => eqCmp_ok hm h ra rb
  | In => exact orS_ok h (fun h => setCmp_ok hm ra rb h) fun h => inV_ok ra rb h
  | _ => cases h
theorem opTruth_ok {a : AV} {va : Value} {r : Bool} (ra : RepO s.heap H va a) (h : opTruth a = some r) : TrB c A (truthy va) r s := by
  unfold opTruth at h
  split at h
  · cases h; cases ra; exact fun Q E P => wpAny_truthy_bool (P _ (Kp.refl _ _))
  · cases h; obtain ⟨t, rfl⟩ := ra; exact fun Q E P => PySem.P.truthy_int (P _ (Kp.refl _ _))
  · cases h; cases ra; exact fun Q E P => truthy_none (P _ (Kp.refl _ _))
  · cases h; obtain ⟨hz, l, vs, rfl, hl, rl⟩ := ra; exact truthL_ok hl hz rl
  · cases h
theorem opIdx_ok {a b : AV} {va vb : Value} (ra : RepO s.heap H va a) (rb : RepO s.heap H vb b) : Tr c q A H (getItem va vb) (opIdx a b) s := by
  unfold opIdx
  split
  · rename_i xs i
    have ra : Rep (vis s.heap H) va (.tup xs) := ra
    simp only [Rep] at ra
    obtain ⟨hz, l, vs, n, rfl, ⟨_, ⟨oc, od, odt, os⟩, e, hc, hd, hdi, _⟩, rl⟩ := ra
    obtain ⟨u, rfl⟩ := rb
    split
    · rename_i h0
      split
      · rename_i x hx
        intro Q E P
        obtain ⟨v, hv, rv⟩ := rl.get hx
        have hlt : i.toNat < xs.length := by obtain ⟨h, _⟩ := List.getElem?_eq_some_iff.mp hx; exact h
        have hsz : vs.toArray.size = xs.length := by rw [List.size_toArray, rl.length]
        exact getItem_tupleI ⟨_, e, hc, n, hd⟩ h0 (by omega) (by simpa using hv) (P _ _ (Kp.refl _ _) rv)
      · exact Tr.stuck
    · exact Tr.stuck
  · exact Tr.stuck
theorem opIdx_ty {a b : AV} {va : Value} (ra : RepO s.heap H va a) (h : opIdx a b ≠ .stuck) : ∃ T id, s.TypeIs va T ∧ typeLookup (.type T) "__getitem__" = pure (some (.builtin id)) := by
  unfold opIdx at h
  split at h
  · rename_i xs i
    have ra : Rep (vis s.heap H) va (.tup xs) := ra
    simp only [Rep] at ra
    obtain ⟨hz, l, vs, n, rfl, ⟨_, o, e, hc, _⟩, rl⟩ := ra
    exact ⟨"tuple", _, ⟨o, e, hc⟩, F.slot_tuple_getitem.lookup⟩
  · exact absurd rfl h
theorem opSlice_ok {a x y z : AV} {va : Value} {r : Addr} {ux uy uz : Value} (hL : Live H s.heap) (ra : RepO s.heap H va a) (h1 : Rep (vis s.heap H) ux x) (h2 : Rep (vis s.heap H) uy y) (h3 : Rep (vis s.heap H) uz z)
    (hr : s.heap.get? r = some { cls := .type "slice", data := .fields #[ux, uy, uz] }) : Tr c q A H (getItem va (.ref r)) (opSlice a x y z) s := by
  unfold opSlice
  split
  · obtain ⟨hz, l, vs, rfl, hl, rl⟩ := ra
    exact sliceL_ok hL hl hz rl h1 h2 h3 hr
  · exact Tr.stuck
theorem opSlice_ty {a x y z : AV} {va : Value} (ra : RepO s.heap H va a) (h : opSlice a x y z ≠ .stuck) : ∃ T id, s.TypeIs va T ∧ typeLookup (.type T) "__getitem__" = pure (some (.builtin id)) := by
  unfold opSlice at h
  split at h
  · obtain ⟨hz, l, vs, rfl, hl, rl⟩ := ra
    exact ⟨"list", _, hl.typeIs, list_getitem_lookup⟩
  · exact absurd rfl h
theorem opIs_ok {op : CmpOp} {a b : AV} {va vb : Value} {r : Bool} {σ : Store} (S : Sto σ H s.heap) (ra : Rep (vis s.heap H) va a) (rb : Rep (vis s.heap H) vb b) (h : opIs a b = some r) (hop : op = .Is ∨ op = .IsNot) : Tr c q A H (compareOp op va vb) (.ok (.bool (if op = .Is then r else !r))) s := by
  revert h
  refine two_cases (P := fun o => o = some r → Tr c q A H (compareOp op va vb) (.ok (.bool (if op = .Is then r else !r))) s) (fun x y ea eb h => ?_) ?_
  · rw [ptr?_eq ea] at ra; rw [ptr?_eq eb] at rb
    cases h
    simp only [Rep] at ra rb
    obtain ⟨D, hD, rfl⟩ := ra
    obtain ⟨B, hB, rfl⟩ := rb
    have hD : H.m x = some D := hD
    have hB : H.m y = some B := hB
    by_cases q : x = y
    · subst q
      rw [hD] at hB
      cases hB
      exact is_of (b := (x == x)) (fun Q' hq => by rw [beq_self_eq_true] at hq; exact wpAny_isSame_ref_self hq) hop
    · have hne : D ≠ B := fun e => q (S.inj x y B (e ▸ hD) hB)
      have hf : (x == y) = false := by simpa using q
      obtain ⟨mo, e1⟩ := S.tot x D hD
      obtain ⟨D', e2, r1⟩ := S.at' x mo e1
      rw [hD] at e2; cases e2
      obtain ⟨oD, e3, c3⟩ := r1.notTup
      obtain ⟨oB, e4⟩ := S.al y B hB
      exact is_of (b := (x == y)) (fun Q' hq => by rw [hf] at hq; exact wpAny_isSame_ref_other hne e3 e4 c3 hq) hop
  refine two_cases (P := fun o => o = some r → Tr c q A H (compareOp op va vb) (.ok (.bool (if op = .Is then r else !r))) s) (fun x y ea eb h => ?_) fun h => ?_
  · rw [type?_eq ea] at ra; rw [type?_eq eb] at rb
    cases h
    simp only [Rep] at ra rb
    subst ra; subst rb
    rcases hop with rfl | rfl
    · rw [if_pos rfl]
      refine plainCmp_ok rfl ?_
      rw [type_beq]; rfl
    · rw [if_neg (by decide)]
      refine plainCmp_ok rfl ?_
      rw [type_beq]; rfl
  · split at h
    · rename_i hb
      rw [none?_eq hb] at rb
      simp only [Rep] at rb
      subst rb
      cases a with
      | none => cases h; cases ra; exact is_of (b := true) (fun Q' hq => wpAny_of_eq (rfl : isSame .none .none = pure true) hq) hop
      | lst xs =>
        cases h
        simp only [Rep] at ra
        obtain ⟨_, l, vs, n, rfl, _⟩ := ra
        exact is_of (b := false) (fun Q' hq => wpAny_of_eq (rfl : isSame (.ref l) .none = pure false) hq) hop
      | int i => cases h; obtain ⟨t, rfl⟩ := ra; exact is_of (b := false) (fun Q' hq => wpAny_of_eq (rfl : isSame (.int _ t) .none = pure false) hq) hop
      | _ => cases h
    · cases h
theorem opOmeth_ok {m : OMI} {D : Addr} {vs : List Value} {xs : List AV} {ws : List Value} {args xs' : List AV} (hl : IsL s.heap D vs) (hz : xs.length ≤ 1048576) (r : RepL (vis s.heap H) vs xs) (ra : RepL (vis s.heap H) ws args) (h : opOmeth m xs args = some xs') (Q E : Value → Shared → Prop)
    (K : ∀ h' vs' tk, IsL h' D vs' → xs'.length ≤ 1048576 → RepL (vis s.heap H) vs' xs' → Heap.SameBut D s.heap h' → Q .none { s with heap := h', toks := tk }) : wpAny c.M A (PySem.call (.builtin ("list." ++ m.name)) (.ref D :: ws)) Q E s := by
  unfold opOmeth at h
  split at h
  · rename_i x
    split at h
    · rename_i hlt
      cases h
      obtain ⟨w, rfl, rw⟩ : ∃ w, ws = [w] ∧ Rep (vis s.heap H) w x := by
        rcases ws with _ | ⟨w, _ | ⟨w', ws⟩⟩
        · simp [RepL] at ra
        · simp only [RepL] at ra; exact ⟨w, rfl, ra.1⟩
        · simp [RepL] at ra
      exact list_appendL (by rw [List.size_toArray, r.length]; exact line_ok (by omega)) hl fun h' l' sb => K h' _ s.toks l' (by simp; omega) (r.append (by simp only [RepL]; exact ⟨rw, trivial⟩)) sb
    · cases h
  · cases h
theorem callE_ok {f : BI} {v : Value} {lo : Nat} {σ : Store} {xs : List AV} {vs : List Value} (hm : Rm c true (k + 1) A s.heap) (hL : Live H s.heap) (S : Sto σ H s.heap) (r : RepL (vis s.heap H) vs xs) (hv : bootBuiltins (f.name : Str) = some v) : Ev c true A lo σ H (PySem.call v vs) (callE (ldW c.w) f σ lo xs) s := by
  have e : v = f.val := by have := BI.boot f; exact Option.some.inj (hv.symm.trans this)
  subst e
  cases f with
  | set => exact s_set_ok hm S hL r
  | frozenset => exact s_fz_ok hm S hL r
  | sorted => exact s_sorted_ok hm S hL r
  | _ => exact Ev.stuck
end
noncomputable def Cx.ld (c : Cx) : Bool := !c.w.params.followText "set-order"
theorem ops_ok (c : Cx) : OpsOk c (ops c.ld) where
  ld := rfl
  bin := fun hm hL ra rb => opBin_ok hm hL ra rb
  inpl := fun hm _ ra rb => opInpl_ok hm ra rb
  un := fun _ _ ra => opUn_ok ra
  cmp := fun hm _ ra rb h => opCmp_ok hm ra rb h
  truth := fun _ _ ra h => opTruth_ok ra h
  idx := fun _ _ ra rb => opIdx_ok ra rb
  idxT := fun ra h => opIdx_ty ra h
  slice := fun _ hL ra h1 h2 h3 hr => opSlice_ok hL ra h1 h2 h3 hr
  sliceT := fun ra h => opSlice_ty ra h
  bcall := fun hq hm _ hL r hv => by subst hq; exact callB_ok hm hL r hv
  itemsR := fun h => itemsW_ref (ld := c.ld) h
  items := fun hm hq _ ra h Q E K => itemsW_ok rfl hm hq ra h Q E K
  ecall := fun hq hm _ hL S r hv => by subst hq; exact callE_ok hm hL S r hv
  ometh := fun _ _ _ hl hz r ra h Q E K => opOmeth_ok hl hz r ra h Q E K
  is_ := fun _ S ra rb h hop => opIs_ok S ra rb h hop
  sitems := fun hm hq _ ra h Q E K => s_items_ok hm hq ra h Q E K
  einpl := fun {q k A s H lo σ op a b va vb} hq hm hL S ra rb => by
    subst hq
    cases op with
    | BitXor => exact s_xor_ok rfl hm S hL ra rb
    | _ => exact Ev.stuck
theorem ops_einpl {ld : Bool} (σ : Store) (lo : Nat) (a b : AV) : (ops ld).einpl .BitXor σ lo a b = s_xor ld σ lo a b := rfl
end Mine
end
section
open PySem PySem.W PyProof.Rows
namespace Mine
set_option maxRecDepth 100000
/-- a def's plain names are bound to what is given -/
noncomputable def BindOk (xs : List Str) : Prop := ∀ (f : Str) (body : List Stmt) (scope : Scope) (pm code doc : Value) (as : List Arg) (vs : List Value), as.map (·.arg) = xs → vs.length = xs.length → bindArgs (PySem.Calls.docDef f ⟨[], as, none, [], [], none, []⟩ body scope pm code doc) ⟨vs, []⟩ = pure (xs.zip vs)
theorem args_nil {as : List Arg} (h : as.map (·.arg) = []) : as = [] := by cases as with | nil => rfl | cons _ _ => cases h
theorem args_cons {as : List Arg} {x : Str} {xs : List Str} (h : as.map (·.arg) = x :: xs) : ∃ a p r, as = ⟨x, a, p⟩ :: r ∧ r.map (·.arg) = xs := by
  cases as with
  | nil => cases h
  | cons y r =>
    obtain ⟨h1, h2⟩ := List.cons.inj h
    cases y with
    | mk n a p => exact ⟨a, p, r, by rw [show n = x from h1], h2⟩
theorem len_cons {vs : List Value} {n : Nat} (h : vs.length = n + 1) : ∃ v r, vs = v :: r ∧ r.length = n := by
  cases vs with
  | nil => cases h
  | cons v r => exact ⟨v, r, rfl, Nat.succ.inj h⟩
theorem bindOk1 {x : Str} (h : ∀ f body scope pm code doc a p v, bindArgs (PySem.Calls.docDef f ⟨[], [⟨x, a, p⟩], none, [], [], none, []⟩ body scope pm code doc) ⟨[v], []⟩ = pure [(x, v)]) : BindOk [x] := fun f body scope pm code doc as vs ha hv => by
  obtain ⟨a, p, r0, rfl, ha1⟩ := args_cons ha
  obtain ⟨v, ws0, rfl, hv1⟩ := len_cons hv
  rw [args_nil ha1, List.length_eq_zero_iff.mp hv1]
  exact h ..
theorem bindOk2 {x y : Str} (h : ∀ f body scope pm code doc a p b q v w, bindArgs (PySem.Calls.docDef f ⟨[], [⟨x, a, p⟩, ⟨y, b, q⟩], none, [], [], none, []⟩ body scope pm code doc) ⟨[v, w], []⟩ = pure [(x, v), (y, w)]) : BindOk [x, y] := fun f body scope pm code doc as vs ha hv => by
  obtain ⟨a, p, r0, rfl, ha1⟩ := args_cons ha
  obtain ⟨b, q, r1, rfl, ha2⟩ := args_cons ha1
  obtain ⟨v, ws0, rfl, hv1⟩ := len_cons hv
  obtain ⟨w, ws1, rfl, hv2⟩ := len_cons hv1
  rw [args_nil ha2, List.length_eq_zero_iff.mp hv2]
  exact h ..
noncomputable def plainParams (a : Arguments) (xs : List Str) : Bool := a.posonlyargs.isEmpty && a.vararg.isNone && a.kwonlyargs.isEmpty && a.kw_defaults.isEmpty && a.kwarg.isNone && a.defaults.isEmpty && a.args.map (·.arg) == xs
/-- a def of the text, looked at -/
noncomputable def defOk (p : Program) (frees : List Str) (fname : Nat → Str) (f : Str) (ns : List Str) (np : Nat) (q : PSs) : Bool := match (recsOf p).find? (fun d => d.name == f) with
  | some d => fnOk frees fname d.scope ns np q d.body && plainParams d.params (ns.take np)
  | none => false
noncomputable def freesOk (p : Program) (loose : List Str) (frees : List Str) : Bool := frees.all fun x => !startupNames.contains x && !loose.contains x && !((recsOf p).map (·.name)).contains x && !((litsOf p).map (·.1)).contains x && !((clssOf p loose).map (·.name)).contains x

theorem frees_of {p : Program} {loose : List Str} {mean : ExcName → Option Value} {mg mb : Str → Option Value} {h : Heap} (T : Top p loose mean mg mb h) {frees : List Str} (hf : freesOk p loose frees = true) : ∀ x ∈ frees, mg x = none := fun x hx => by
  have := List.all_eq_true.mp hf x hx
  simp only [Bool.and_eq_true, Bool.not_eq_true'] at this
  obtain ⟨⟨⟨⟨h1, h2⟩, h3⟩, h4⟩, h5⟩ := this
  exact T.free x (fun z => by rw [List.contains_iff_mem.mpr z] at h1; cases h1) (fun z => by rw [List.contains_iff_mem.mpr z] at h2; cases h2) (fun z => by rw [List.contains_iff_mem.mpr z] at h3; cases h3)
    (fun z => by rw [List.contains_iff_mem.mpr z] at h4; cases h4) (fun z => by rw [List.contains_iff_mem.mpr z] at h5; cases h5)

/-- what a def's text says, ready for calls_of; the last xs may be left out -/
structure DefAt (c : Cx) (frees : List Str) (fname : Nat → Str) (f : Str) (ns : List Str) (np n : Nat) (xs : List AV) (q : PSs) : Prop where
  all : ∃ body scope, FnAt c f body scope ns np n xs ∧ fnOk frees fname scope ns np q body = true
  len : n + xs.length = np
abbrev DefIs (c : Cx) (frees : List Str) (fname : Nat → Str) (f : Str) (ns : List Str) (np : Nat) (q : PSs) : Prop := DefAt c frees fname f ns np np [] q

theorem def_of {prog : Program} {w : World} {p : Program} {loose : List Str} {mean : ExcName → Option Value} {mg mb : Str → Option Value} {h : Heap} (T : Top p loose mean mg mb h) {frees : List Str} {fname : Nat → Str} {f : Str} {ns : List Str} {np : Nat} {q : PSs}
    (hd : defOk p frees fname f ns np q = true) (hb : BindOk (ns.take np)) : DefIs ⟨prog, w, h, mg, mb, T.g, T.b, T.builtins, T.nolimit⟩ frees fname f ns np q := by
  refine ⟨?_, rfl⟩
  unfold defOk at hd
  cases e : (recsOf p).find? (fun d => d.name == f) with
  | none => rw [e] at hd; cases hd
  | some d =>
    rw [e] at hd
    simp only [Bool.and_eq_true] at hd
    obtain ⟨h1, h2⟩ := hd
    have hn : d.name = f := by have := List.find?_some e; simpa using this
    have hm := List.mem_of_find?_eq_some e
    subst hn
    obtain ⟨a, o, pm, code, doc, f1, f2, f3, f4⟩ := T.fn d hm
    refine ⟨d.body, d.scope, ⟨a, o, _, [], f1, f2, f3, rfl, rfl, rfl, rfl, rfl, rfl, f4, fun R => by simp [RepL], fun s vs _ hl => .of_eq ?_⟩, h1⟩
    rw [List.append_nil]
    unfold plainParams at h2
    simp only [Bool.and_eq_true, List.isEmpty_iff, Option.isNone_iff_eq_none, beq_iff_eq] at h2
    obtain ⟨⟨⟨⟨⟨⟨a1, a2⟩, a3⟩, a4⟩, a5⟩, a6⟩, a7⟩ := h2
    have hp : d.params = ⟨[], d.params.args, none, [], [], none, []⟩ := by
      rcases hq : d.params with ⟨x1, x2, x3, x4, x5, x6, x7⟩
      rw [hq] at a1 a2 a3 a4 a5 a6
      simp only at a1 a2 a3 a4 a5 a6
      rw [a1, a2, a3, a4, a5, a6]
    simp only [fnOk, Bool.and_eq_true, decide_eq_true_eq] at h1
    rw [hp]
    exact hb _ _ _ _ _ _ _ _ a7 (by rw [List.length_take, Nat.min_eq_left h1.1.2]; exact hl)

section
variable {c : Cx} {O : OpsF} (OK : OpsOk c O) {k : Nat} {cal : Cal} {fname : Nat → Str} (CO : CallsOk c k cal fname) {frees : List Str} (hfree : ∀ x ∈ frees, c.mg x = none)
include OK CO hfree
theorem DefAt.calls {f : Str} {ns : List Str} {np n : Nat} {p : PSs} {args xs : List AV} {σ : Store} {lo : Nat} (D : DefAt c frees fname f ns np n xs p) (hargs : args.length = n) : Calls c (k + 2) f σ lo args (fnRes (pxs O cal true (st0 (args ++ xs) ns.length σ lo) p)) := by
  obtain ⟨body, scope, h1, h2⟩ := D.all
  exact calls_of OK CO hfree h1 h2 hargs D.len
theorem DefAt.calls0 {f : Str} {ns : List Str} {np : Nat} {p : PSs} {args : List AV} {σ : Store} {lo : Nat} (D : DefIs c frees fname f ns np p) (hargs : args.length = np) : Calls c (k + 2) f σ lo args (fnRes (pxs O cal true (st0 args ns.length σ lo) p)) := by
  have := DefAt.calls OK CO hfree (σ := σ) (lo := lo) D hargs
  rwa [List.append_nil] at this
theorem DefAt.code {f : Str} {ns : List Str} {np : Nat} {p : PSs} {args : List AV} {σ : Store} {lo : Nat} (D : DefIs c frees fname f ns np p) (hargs : args.length = np)
    {A : Around} {s : Shared} {H : Hd} {vs : List Value} {a : Addr} {Q E : Value → Shared → Prop} (hm : Rm c true (k + 2) A s.heap) (hst : c.h0.StaysIn s.heap) (hL : Live H s.heap) (S : Sto σ H s.heap) (hm0 : ∀ n a, H.m n = some a → c.h0.get? a = none) (hr : RepL (vis s.heap H) vs args) (hmg : c.mg f = some (.ref a))
    (P : PostE true A lo σ H (fnRes (pxs O cal true (st0 args ns.length σ lo) p)) s Q E) : codeAny c.M A (.call (.ref a) ⟨vs, []⟩) (fun r s' => match r with | .ok (.ret v) => Q v s' | .ok _ => False | .error e => E e s') s := by
  obtain ⟨body, scope, h1, h2⟩ := D.all
  exact code_of OK CO hfree h1 h2 hargs rfl hm hst hL S hm0 hr hmg (by rw [List.append_nil]; exact P)
end
theorem DefAt.obj {c : Cx} {frees : List Str} {fname : Nat → Str} {f : Str} {ns : List Str} {np n : Nat} {xs : List AV} {q : PSs} (D : DefAt c frees fname f ns np n xs q) : FnObj c f := by
  obtain ⟨body, scope, h1, h2⟩ := D.all
  exact h1.obj

theorem Calls.mono {c : Cx} {k k' : Nat} {f : Str} {σ : Store} {lo : Nat} {args : List AV} {r : ER} (h : Calls c k f σ lo args r) (hk : k ≤ k') : Calls c k' f σ lo args r := fun A s H vs a hm => h A s H vs a ⟨by have := hm.depth; omega, by have := hm.units; omega, hm.hand, hm.frames⟩

/-- one more def may be called -/
noncomputable def ext (O : OpsF) (cal : Cal) (i np : Nat) (ns : List Str) (p : PSs) : Cal := fun σ lo f args => if f = i then (if args.length = np then fnRes (pxs O cal true (st0 args ns.length σ lo) p) else .stuck) else cal σ lo f args
theorem ext_hit {O : OpsF} {cal : Cal} {i np : Nat} {ns : List Str} {p : PSs} {σ : Store} {lo : Nat} {args : List AV} (h : args.length = np) : ext O cal i np ns p σ lo i args = fnRes (pxs O cal true (st0 args ns.length σ lo) p) := by
  unfold ext; rw [if_pos rfl, if_pos h]
theorem ext_ne {O : OpsF} {cal : Cal} {i np : Nat} {ns : List Str} {p : PSs} {σ : Store} {lo f : Nat} {args : List AV} (h : f ≠ i) : ext O cal i np ns p σ lo f args = cal σ lo f args := by
  unfold ext; rw [if_neg h]
theorem ext_ok {c : Cx} {O : OpsF} (OK : OpsOk c O) {k : Nat} {cal : Cal} {fname : Nat → Str} (CO : CallsOk c k cal fname) {frees : List Str} (hfree : ∀ x ∈ frees, c.mg x = none) {i np : Nat} {ns : List Str} {p : PSs} (D : DefIs c frees fname (fname i) ns np p) : CallsOk c (k + 2) (ext O cal i np ns p) fname := ⟨fun σ lo f args h => by
  by_cases hf : f = i
  · subst hf
    by_cases hl : args.length = np
    · rw [ext_hit hl]
      exact ⟨DefAt.calls0 OK CO hfree D hl, D.obj⟩
    · exact absurd (by unfold ext; rw [if_pos rfl, if_neg hl]) h
  · rw [ext_ne hf] at h ⊢
    obtain ⟨a, b⟩ := CO.ok σ lo f args h
    exact ⟨a.mono (by omega), b⟩⟩

/- what leaves no thing of the store behind -/
/-- nothing is hidden -/
noncomputable def H0 : Hd := ⟨fun _ => False, fun _ => none, fun _ => none⟩
theorem sto0 (h : Heap) : Sto [] H0 h where
  at' := fun n mo e => by simp at e
  inj := fun n n' a e => by cases e
  lt := fun n a e => by cases e
  hid := fun n a mo _ e => by cases e
  al := fun n a e => by cases e
  tot := fun n a e => by cases e
/-- the script as a value -/
theorem script_rep {h : Heap} {l : Addr} {vs : List Value} {ns : List Int} (hl : IsL h l vs) (hI : IntsAre vs ns) (hz : ns.length ≤ 1048576) : RepL (vis h H0) [.ref l] [.lst (ns.map .int)] := by
  obtain ⟨o, n, e, hc, hd, hdi⟩ := hl
  have : ∀ {vs : List Value} {ns : List Int}, IntsAre vs ns → RepL (vis h H0) vs (ns.map .int) := by
    intro vs ns hI
    induction hI with
    | nil => simp [RepL]
    | cons n t _ ih => simp only [List.map_cons, RepL, Rep]; exact ⟨⟨t, rfl⟩, ih⟩
  simp only [RepL, Rep, and_true]
  exact ⟨by simpa using hz, l, vs, n, rfl, ⟨(fun z => z : ¬ H0.p l), o, e, hc, hd, hdi, .inl rfl, fun ⟨fs, z⟩ => by cases z⟩, this hI⟩

/-- the top: a law that comes to True -/
theorem kp_top {s s' : Shared} (k : Kp callerA s s') : (∀ b o, s.heap.get? b = some o → s'.heap.get? b = some o) ∧ s'.os = s.os ∧ s'.gens = s.gens := by
  obtain ⟨h', tk, rfl, kh⟩ := k
  refine ⟨fun b o e => (kh b o e).1 (.inl ?_), rfl, rfl⟩
  rintro ⟨l, hl, hb⟩
  cases hl
  simp at hb

theorem isL_of_well {P : Params} {h : Heap} {l : Addr} {vs : List Value} {ys : List WData} {d : WData} (hL : h.IsList l vs.toArray) (w : Well P h (.ref l) d) (e : d = .list ys) : IsL h l vs := by
  cases w <;> try (cases e)
  rename_i vs' e _
  obtain ⟨o', e', hc', n', hd'⟩ := hL
  rw [e] at e'; cases e'
  exact ⟨_, _, e, rfl, hd', rfl⟩
end Mine
end
section
open PySem PySem.W PyProof.Rows
namespace Mine
set_option maxRecDepth 100000
section
variable {O : OpsF} {cal : Cal} {q : Bool} {st : Fs}
theorem pe_const {v : AV} : pe O cal q st (.const v) = .of O.truth st.ρ (.ok (.av v) st.σ) := rfl
theorem pe_name {i : Nat} : pe O cal q st (.name i) = .of O.truth st.ρ (slotV st i) := rfl
theorem pe_glob {b : BI} : pe O cal q st (.glob b) = .of O.truth st.ρ (.ok (.av (.type b.name)) st.σ) := rfl
theorem pe_bin {op : Operator} {l r : PE} : pe O cal q st (.bin op l r) = .of O.truth st.ρ ((pe O cal q st l).v.bind fun a σ₁ => (pe O cal q (st.at σ₁) r).v.bind fun b σ₂ => ofRes (O.bin op (derefS st.ρ σ₂ a) (derefS st.ρ σ₂ b)) σ₂) := rfl
theorem pe_not {x : PE} : pe O cal q st (.un .Not x) = ⟨(pe O cal q st x).v.bind fun a σ₁ => ofRes (O.un .Not (derefS st.ρ σ₁ a)) σ₁, (pe O cal q st x).t.map fun p => (!p.1, p.2)⟩ := rfl
theorem pe_neg {x : PE} : pe O cal q st (.un .USub x) = .of O.truth st.ρ ((pe O cal q st x).v.bind fun a σ₁ => ofRes (O.un .USub (derefS st.ρ σ₁ a)) σ₁) := rfl
theorem pe_is {l r : PE} : pe O cal q st (.cmp .Is l r) = .of O.truth st.ρ ((pe O cal q st l).v.bindA fun a σ₁ => (pe O cal q (st.at σ₁) r).v.bindA fun b σ₂ => ofB (O.is_ a b) σ₂) := rfl
theorem pe_isnot {l r : PE} : pe O cal q st (.cmp .IsNot l r) = .of O.truth st.ρ ((pe O cal q st l).v.bindA fun a σ₁ => (pe O cal q (st.at σ₁) r).v.bindA fun b σ₂ => ofB ((O.is_ a b).map (!·)) σ₂) := rfl
noncomputable def isIs : CmpOp → Bool
  | .Is => true
  | .IsNot => true
  | _ => false
theorem pe_cmp {op : CmpOp} {l r : PE} (h : isIs op = false) : pe O cal q st (.cmp op l r) = .of O.truth st.ρ ((pe O cal q st l).v.bind fun a σ₁ => (pe O cal q (st.at σ₁) r).v.bind fun b σ₂ => ofB (O.cmp op (derefS st.ρ σ₂ a) (derefS st.ρ σ₂ b)) σ₂) := by
  cases op <;> first | (cases h; done) | rfl
theorem pe_eq {l r : PE} : pe O cal q st (.cmp .Eq l r) = .of O.truth st.ρ ((pe O cal q st l).v.bind fun a σ₁ => (pe O cal q (st.at σ₁) r).v.bind fun b σ₂ => ofB (O.cmp .Eq (derefS st.ρ σ₂ a) (derefS st.ρ σ₂ b)) σ₂) := pe_cmp rfl
theorem pe_ne {l r : PE} : pe O cal q st (.cmp .NotEq l r) = .of O.truth st.ρ ((pe O cal q st l).v.bind fun a σ₁ => (pe O cal q (st.at σ₁) r).v.bind fun b σ₂ => ofB (O.cmp .NotEq (derefS st.ρ σ₂ a) (derefS st.ρ σ₂ b)) σ₂) := pe_cmp rfl
theorem pe_lt {l r : PE} : pe O cal q st (.cmp .Lt l r) = .of O.truth st.ρ ((pe O cal q st l).v.bind fun a σ₁ => (pe O cal q (st.at σ₁) r).v.bind fun b σ₂ => ofB (O.cmp .Lt (derefS st.ρ σ₂ a) (derefS st.ρ σ₂ b)) σ₂) := pe_cmp rfl
theorem pe_le {l r : PE} : pe O cal q st (.cmp .LtE l r) = .of O.truth st.ρ ((pe O cal q st l).v.bind fun a σ₁ => (pe O cal q (st.at σ₁) r).v.bind fun b σ₂ => ofB (O.cmp .LtE (derefS st.ρ σ₂ a) (derefS st.ρ σ₂ b)) σ₂) := pe_cmp rfl
theorem pe_gt {l r : PE} : pe O cal q st (.cmp .Gt l r) = .of O.truth st.ρ ((pe O cal q st l).v.bind fun a σ₁ => (pe O cal q (st.at σ₁) r).v.bind fun b σ₂ => ofB (O.cmp .Gt (derefS st.ρ σ₂ a) (derefS st.ρ σ₂ b)) σ₂) := pe_cmp rfl
theorem pe_ge {l r : PE} : pe O cal q st (.cmp .GtE l r) = .of O.truth st.ρ ((pe O cal q st l).v.bind fun a σ₁ => (pe O cal q (st.at σ₁) r).v.bind fun b σ₂ => ofB (O.cmp .GtE (derefS st.ρ σ₂ a) (derefS st.ρ σ₂ b)) σ₂) := pe_cmp rfl
theorem pe_in {l r : PE} : pe O cal q st (.cmp .In l r) = .of O.truth st.ρ ((pe O cal q st l).v.bind fun a σ₁ => (pe O cal q (st.at σ₁) r).v.bind fun b σ₂ => ofB (O.cmp .In (derefS st.ρ σ₂ a) (derefS st.ρ σ₂ b)) σ₂) := pe_cmp rfl
theorem pe_notin {l r : PE} : pe O cal q st (.cmp .NotIn l r) = .of O.truth st.ρ ((pe O cal q st l).v.bind fun a σ₁ => (pe O cal q (st.at σ₁) r).v.bind fun b σ₂ => ofB (O.cmp .NotIn (derefS st.ρ σ₂ a) (derefS st.ρ σ₂ b)) σ₂) := pe_cmp rfl
theorem pe_bop {op : BoolOp} {xs : PEs} : pe O cal q st (.bop op xs) = ⟨pbop O cal q st op xs, pall O cal q st op xs⟩ := rfl
theorem pe_list {xs : PEs} : pe O cal q st (.list xs) = .of O.truth st.ρ (onP (pes O cal q st xs) fun l σ₁ => if l.length ≤ 100 then .ok (.av (.lst l)) σ₁ else .stuck) := rfl
theorem pe_tup {xs : PEs} : pe O cal q st (.tup xs) = .of O.truth st.ρ (onP (pes O cal q st xs) fun l σ₁ => if l.length ≤ 100 then .ok (.av (.tup l)) σ₁ else .stuck) := rfl
theorem pe_sub {o i : PE} : pe O cal q st (.sub o i) = .of O.truth st.ρ ((pe O cal q st o).v.bind fun a σ₁ => (pe O cal q (st.at σ₁) i).v.bind fun b σ₂ => ofRes (O.idx (derefS st.ρ σ₂ a) (derefS st.ρ σ₂ b)) σ₂) := rfl
theorem pe_slice {o a b s : PE} : pe O cal q st (.slice o a b s) = .of O.truth st.ρ ((pe O cal q st o).v.bind fun v σ₁ => (pe O cal q (st.at σ₁) a).v.bindA fun x σ₂ => (pe O cal q (st.at σ₂) b).v.bindA fun y σ₃ => (pe O cal q (st.at σ₃) s).v.bindA fun z σ₄ => ofRes (O.slice (derefS st.ρ σ₄ v) x y z) σ₄) := rfl
theorem pe_call {f : Nat} {xs : PEs} : pe O cal true st (.call f xs) = .of O.truth st.ρ (onP (pes O cal true st xs) fun l σ₁ => cal σ₁ st.lo f l) := rfl
theorem pe_bcall {f : BI} {xs : PEs} : pe O cal true st (.bcall f xs) = .of O.truth st.ρ (onL (pes O cal true st xs) fun l σ₁ => ofRes (O.bcall f (l.map (derefS st.ρ σ₁))) σ₁) := rfl
theorem pe_ecall {f : BI} {xs : PEs} : pe O cal true st (.ecall f xs) = .of O.truth st.ρ (onP (pes O cal true st xs) fun l σ₁ => O.ecall f σ₁ st.lo l) := rfl
theorem pe_setd {x : PE} : pe O cal q st (.setd x) = .of O.truth st.ρ ((pe O cal q st x).v.bindA fun a σ₁ => match a with | .int i => (if 0 ≤ i ∧ i < 32 then .ok (.av (.set false O.ld [i])) σ₁ else .stuck) | _ => .stuck) := rfl
theorem pes_nil' : pes O cal q st .nil = some ([], st.σ) := rfl
theorem pes_cons {e : PE} {es : PEs} : pes O cal q st (.cons e es) = match (pe O cal q st e).v with
    | .ok v σ₁ => (match pes O cal q (st.at σ₁) es with
      | some (l, σ₂) => some (v :: l, σ₂)
      | none => none)
    | _ => none := rfl
theorem pr_v {tr : AV → Option Bool} {ρ : List (Option Ent)} {r : ER} : (PR.of tr ρ r).v = r := rfl
theorem pr_t {tr : AV → Option Bool} {ρ : List (Option Ent)} {r : ER} : (PR.of tr ρ r).t = r.truth tr ρ := rfl
theorem bind_ok {v : OV} {σ : Store} {f : OV → Store → ER} : (ER.ok v σ).bind f = f v σ := rfl
theorem bindA_ok {v : AV} {σ : Store} {f : AV → Store → ER} : (ER.ok (.av v) σ).bindA f = f v σ := rfl
theorem truth_ok {tr : AV → Option Bool} {ρ : List (Option Ent)} {v : OV} {σ : Store} : (ER.ok v σ).truth tr ρ = (tr (derefS ρ σ v)).map fun b => (b, σ) := rfl
theorem ofB_some {b : Bool} {σ : Store} : ofB (some b) σ = .ok (.av (.bool b)) σ := rfl
theorem ofRes_ok {v : AV} {σ : Store} : ofRes (.ok v) σ = .ok (.av v) σ := rfl
theorem ofRes_exc {v : EX} {σ : Store} : ofRes (.exc v) σ = .exc v σ := rfl
theorem onL_some {l : List OV} {σ : Store} {f : List OV → Store → ER} : onL (some (l, σ)) f = f l σ := rfl
theorem onP_some {l : List OV} {σ : Store} {f : List AV → Store → ER} : onP (some (l, σ)) f = match plains l with | some l => f l σ | none => .stuck := rfl
theorem plains_nil : plains [] = some [] := rfl
theorem plains_cons {x : AV} {r : List OV} : plains (.av x :: r) = (plains r).map (x :: ·) := rfl
theorem pall_and_nil : pall O cal q st .And .nil = some (true, st.σ) := by rw [pall]; rfl
theorem pall_or_nil : pall O cal q st .Or .nil = some (false, st.σ) := by rw [pall]; rfl
theorem pall_and_cons {e : PE} {es : PEs} : pall O cal q st .And (.cons e es) = match (pe O cal q st e).t with | some (false, σ₁) => some (false, σ₁) | some (true, σ₁) => pall O cal q (st.at σ₁) .And es | none => none := by
  rw [pall.eq_def]
  dsimp only
  cases (pe O cal q st e).t with
  | none => rfl
  | some p => obtain ⟨b, σ⟩ := p; cases b <;> rfl
theorem pall_or_cons {e : PE} {es : PEs} : pall O cal q st .Or (.cons e es) = match (pe O cal q st e).t with | some (true, σ₁) => some (true, σ₁) | some (false, σ₁) => pall O cal q (st.at σ₁) .Or es | none => none := by
  rw [pall.eq_def]
  dsimp only
  cases (pe O cal q st e).t with
  | none => rfl
  | some p => obtain ⟨b, σ⟩ := p; cases b <;> rfl
theorem pbop_one {op : BoolOp} {e : PE} : pbop O cal q st op (.cons e .nil) = (pe O cal q st e).v := by rw [pbop]
theorem pbop_and {e e' : PE} {es : PEs} : pbop O cal q st .And (.cons e (.cons e' es)) = (pe O cal q st e).v.bind fun v σ₁ => match O.truth (derefS st.ρ σ₁ v) with | some false => .ok v σ₁ | some true => pbop O cal q (st.at σ₁) .And (.cons e' es) | none => .stuck := by
  rw [pbop]
  congr 1
  funext v σ₁
  cases O.truth (derefS st.ρ σ₁ v) with
  | none => rfl
  | some b => cases b <;> rfl
theorem pbop_or {e e' : PE} {es : PEs} : pbop O cal q st .Or (.cons e (.cons e' es)) = (pe O cal q st e).v.bind fun v σ₁ => match O.truth (derefS st.ρ σ₁ v) with | some true => .ok v σ₁ | some false => pbop O cal q (st.at σ₁) .Or (.cons e' es) | none => .stuck := by
  rw [pbop]
  congr 1
  funext v σ₁
  cases O.truth (derefS st.ρ σ₁ v) with
  | none => rfl
  | some b => cases b <;> rfl
theorem pe_comp {caps : List Nat} {elt src : PE} {conds : PEs} {a : OV} {σ₁ : Store} {l ys : List AV} (h1 : (pe O cal true st src).v = .ok a σ₁) (h2 : O.items (derefS st.ρ σ₁ a) = some l)
    (h3 : mapF (fun x => compF σ₁.length (pall O cal true ((st.at σ₁).inner caps x) .And conds) (pe O cal true ((st.at σ₁).inner caps x) elt).v) l = some ys) : pe O cal true st (.comp caps elt src conds) = .of O.truth st.ρ (.ok (.av (.lst ys)) σ₁) := by
  rw [qe_comp, h1]
  simp only [ER.bind, h2, onItems, h3]
theorem pe_compS {caps : List Nat} {elt src : PE} {conds : PEs} {a : OV} {σ₁ : Store} {l : List Int} {ys : List AV} (h1 : (pe O cal true st src).v = .ok a σ₁) (h2 : O.sitems (derefS st.ρ σ₁ a) = some l)
    (h3 : mapF (fun x => intF (compF σ₁.length (pall O cal true ((st.at σ₁).inner caps x) .And conds) (pe O cal true ((st.at σ₁).inner caps x) elt).v)) (l.map AV.int) = some ys) : pe O cal true st (.compS caps elt src conds) = .of O.truth st.ρ (.ok (.av (.bag (intsOf ys))) σ₁) := by
  rw [qe_compS, h1]
  simp only [ER.bind, h2, onItems, h3]
end
theorem mapF_gen {α : Type} {f : AV → Option (Option AV)} {g : α → AV} {h : α → Option AV} : ∀ {l : List α}, (∀ j ∈ l, f (g j) = some (h j)) → mapF f (l.map g) = some (l.filterMap h)
  | [], _ => rfl
  | a :: l, k => by
    have ih := mapF_gen (f := f) (g := g) (h := h) (l := l) fun j hj => k j (List.mem_cons_of_mem _ hj)
    simp only [List.map_cons, mapF, k a (List.mem_cons_self ..), List.filterMap_cons]
    cases h a with
    | none => exact ih
    | some y => simp only [ih, Option.map_some]
theorem mapF_filter {α : Type} {f : AV → Option (Option AV)} {g h : α → AV} {p : α → Bool} {l : List α} (k : ∀ j ∈ l, f (g j) = some (if p j = true then some (h j) else none)) : mapF f (l.map g) = some ((l.filter p).map h) := by
  rw [mapF_gen (h := fun j => if p j = true then some (h j) else none) k]
  congr 1
  induction l with
  | nil => rfl
  | cons a l ih =>
    have ih := ih fun j hj => k j (List.mem_cons_of_mem _ hj)
    simp only [List.filterMap_cons, List.filter_cons]
    cases p a <;> simp [ih]
theorem compF_t {n : Nat} {σ : Store} {e : ER} {v : AV} {σ' : Store} (h : e = .ok (.av v) σ') (hn : σ'.length = n) : compF n (some (true, σ)) e = some (some v) := by
  subst h
  simp [compF, elemF, hn]
/- what holds of the end of a row of statements -/
section
variable {O : OpsF} {cal : Cal} {q : Bool} {st : Fs} {K : FR → Prop} {r : PSs}
noncomputable def thenK (O : OpsF) (cal : Cal) (q : Bool) (r : PSs) (K : FR → Prop) : FR → Prop
  | .next st' => K (pxs O cal q st' r)
  | f => K f
theorem thenK_next {st' : Fs} : thenK O cal q r K (.next st') = K (pxs O cal q st' r) := rfl
theorem pk_cons {s : PS} (h : thenK O cal q r K (px O cal q st s)) : K (pxs O cal q st (.cons s r)) := by
  rw [qxs_cons]
  revert h
  cases px O cal q st s <;> exact fun h => h
theorem pk_step {s : PS} {st' : Fs} (h : px O cal q st s = .next st') (k : K (pxs O cal q st' r)) : K (pxs O cal q st (.cons s r)) := by
  rw [qxs_cons, h]; exact k
theorem pk_nil (h : K (.next st)) : K (pxs O cal q st .nil) := by rw [qxs_nil]; exact h
theorem pk_assign {i : Nat} {e : PE} {v : AV} {σ : Store} (h : (pe O cal q st e).v = .ok (.av v) σ) (k : K (pxs O cal q ((st.at σ).set i (.val v)) r)) : K (pxs O cal q st (.cons (.assign i e) r)) := by
  refine pk_step ?_ k
  rw [qx_assign, h]; rfl
theorem pk_own {i : Nat} {xs : PEs} {ol : List OV} {ys : List AV} {σ : Store} (h : pes O cal q st xs = some (ol, σ)) (hp : plains ol = some ys) (hl : ys.length ≤ 100) (k : K (pxs O cal q ((st.at σ).set i (.own ys)) r)) : K (pxs O cal q st (.cons (.ownl i xs) r)) := by
  refine pk_step ?_ k
  rw [qx_ownl]; simp only [h, hp, hl, if_true]
theorem pk_eaug {i : Nat} {op : Operator} {e : PE} {a b v : AV} {σ' σ σ₂ : Store} (ha : slotV st i = .ok (.av a) σ') (hb : (pe O cal true st e).v = .ok (.av b) σ) (h : O.einpl op σ st.lo a b = .ok (.av v) σ₂) (k : K (pxs O cal true ((st.at σ₂).set i (.val v)) r)) : K (pxs O cal true st (.cons (.eaug i op e) r)) := by
  refine pk_step ?_ k
  rw [qx_eaug, ha, hb]; simp only [h]; rfl
theorem pk_ometh {i : Nat} {m : OMI} {es : PEs} {xs xs' l : List AV} {ol : List OV} {σ : Store} (hi : ownOf st i = some xs) (h : pes O cal true st es = some (ol, σ)) (hp : plains ol = some l) (hm : O.ometh m xs l = some xs') (k : K (pxs O cal true ((st.at σ).set i (.own xs')) r)) : K (pxs O cal true st (.cons (.ometh i m es none) r)) := by
  refine pk_step ?_ k
  rw [qx_ometh]; simp only [omethF, h, hp, hi, hm]
theorem pk_if {t : PE} {a b : PSs} {c : Bool} {σ : Store} (h : (pe O cal q st t).t = some (c, σ)) (k : if c = true then thenK O cal q r K (pxs O cal q (st.at σ) a) else thenK O cal q r K (pxs O cal q (st.at σ) b)) : K (pxs O cal q st (.cons (.ite t a b) r)) := by
  refine pk_cons ?_
  rw [qx_ite, h]
  cases c <;> simpa using k
theorem pk_if_f {t : PE} {a b : PSs} {σ : Store} (h : (pe O cal q st t).t = some (false, σ)) (k : thenK O cal q r K (pxs O cal q (st.at σ) b)) : K (pxs O cal q st (.cons (.ite t a b) r)) := pk_if h (by simpa using k)
/-- an if that is passed by -/
theorem pk_skip {t : PE} {a : PSs} {σ : Store} (h : (pe O cal q st t).t = some (false, σ)) (k : K (pxs O cal q (st.at σ) r)) : K (pxs O cal q st (.cons (.ite t a .nil) r)) := pk_if_f h (by rw [qxs_nil]; exact k)
theorem pk_ret {e : PE} {v : AV} {σ : Store} (h : (pe O cal q st e).v = .ok (.av v) σ) (k : K (.ret v σ)) : K (pxs O cal q st (.cons (.ret e) r)) := by
  refine pk_cons ?_
  rw [qx_ret, h]; exact k
theorem pk_retOwn {i : Nat} {xs : List AV} (h : ownOf st i = some xs) (k : K (.ret (.lst xs) st.σ)) : K (pxs O cal q st (.cons (.retOwn i) r)) := by
  refine pk_cons ?_
  rw [qx_retOwn]; simp only [h]; exact k
/-- what holds of a turn's end -/
noncomputable def loopK (I : Fs → Prop) (K : FR → Prop) : FR → Prop
  | .next st' => I st'
  | .cont st' => I st'
  | .brk st' => K (.next st')
  | .ret v σ => K (.ret v σ)
  | _ => False
theorem forF_inv {f : AV → Fs → FR} (I : Nat → Fs → Prop) : ∀ (l : List AV) (n : Nat) (st : Fs), I n st → (∀ j x st, l[j]? = some x → I (n + j) st → loopK (I (n + j + 1)) K (f x st)) → (∀ st, I (n + l.length) st → K (.next st)) → K (forF f l st)
  | [], n, st, h0, _, hd => hd st (by simpa using h0)
  | x :: l, n, st, h0, hs, hd => by
    have h1 := hs 0 x st (by simp) (by simpa using h0)
    have go : ∀ st', I (n + 0 + 1) st' → K (forF f l st') := fun st' h' => by
      refine forF_inv I l (n + 1) st' (by simpa using h') (fun j y st hj hI => ?_) (fun st hI => hd st ?_)
      · have := hs (j + 1) y st (by simpa using hj) (by rw [show n + (j + 1) = n + 1 + j by omega]; exact hI)
        rw [show n + (j + 1) + 1 = n + 1 + j + 1 by omega] at this
        exact this
      · rw [List.length_cons, show n + (l.length + 1) = n + 1 + l.length by omega]; exact hI
    rw [forF]
    revert h1
    cases f x st with
    | next st' => exact fun h => go st' h
    | cont st' => exact fun h => go st' h
    | brk st' => exact fun h => h
    | ret v σ => exact fun h => h
    | exc _ _ => exact fun h => h.elim
    | stuck => exact fun h => h.elim
theorem pk_for {i : Nat} {src : PE} {body : PSs} {v : AV} {σ : Store} {l : List AV} (I : Nat → Fs → Prop) (h : (pe O cal true st src).v = .ok (.av v) σ) (hi : O.items v = some l) (h0 : I 0 (st.at σ))
    (hs : ∀ j x st, l[j]? = some x → I j st → loopK (I (j + 1)) (thenK O cal true r K) (pxs O cal true (st.set i (.val x)) body)) (hd : ∀ st, I l.length st → K (pxs O cal true st r)) : K (pxs O cal true st (.cons (.for_ i src body) r)) := by
  refine pk_cons ?_
  have e : px O cal true st (.for_ i src body) = forF (fun x st => pxs O cal true (st.set i (.val x)) body) l (st.at σ) := by
    rw [qx_for_]
    simp only [h, hi]
  rw [e]
  refine forF_inv (K := thenK O cal true r K) I l 0 _ h0 (fun j x st hj hI => ?_) fun st hI => hd st (by simpa using hI)
  simp only [Nat.zero_add] at hI ⊢
  exact hs j x st hj hI
theorem pk_try {body : PSs} {hs : PHs} (k : (fun fr => match fr with | .exc x st' => thenK O cal true r K (phs O cal x st' hs) | f => thenK O cal true r K f) (pxs O cal true st body)) : K (pxs O cal true st (.cons (.try_ body hs) r)) := by
  refine pk_cons ?_
  rw [qx_try_]
  revert k
  cases pxs O cal true st body <;> exact fun k => k
/-- a def's result -/
noncomputable def Ends (v : ER) (fr : FR) : Prop := fnRes fr = v
end
section
variable {σ : Store} {ρ : List (Option Ent)}
theorem dS_av {x : AV} : derefS ρ σ (.av x) = deref σ x := rfl
theorem dr_none : deref σ .none = .none := rfl
theorem dr_bool {x : Bool} : deref σ (.bool x) = .bool x := rfl
theorem dr_int {x : Int} : deref σ (.int x) = .int x := rfl
theorem dr_str {x : Str} : deref σ (.str x) = .str x := rfl
theorem dr_type {x : String} : deref σ (.type x) = .type x := rfl
theorem dr_range {a b c : Int} : deref σ (.range a b c) = .range a b c := rfl
theorem dr_tup {x : List AV} : deref σ (.tup x) = .tup x := rfl
theorem dr_lst {x : List AV} : deref σ (.lst x) = .lst x := rfl
theorem dr_set {b l : Bool} {x : List Int} : deref σ (.set b l x) = .set b l x := rfl
end
/- numbers -/
theorem ints_map (l : List Int) : ints? (l.map .int) = some l := by
  induction l with
  | nil => rfl
  | cons a l ih => simp [ints?, ih]
theorem cb_sum {ys : List AV} {ns : List Int} (h : ints? ys = some ns) : callB .sum [.lst ys] = .ok (.int ns.sum) := by simp only [callB, b_sum, h]
noncomputable def pickI (xs : List Int) (lo hi st : Option Int) : List Int :=
  (sliceRange (sliceBounds lo hi st xs.length).1 (sliceBounds lo hi st xs.length).2.1 (sliceBounds lo hi st xs.length).2.2).filterMap (xs[·]?)
theorem pickL_ints (ns : List Int) (lo hi st : Option Int) : pickL (ns.map .int) lo hi st = (pickI ns lo hi st).map .int := by
  unfold pickL pickI
  rw [List.length_map, List.map_filterMap]
  congr 1
  funext i
  rw [List.getElem?_map]
theorem slice_step (ns : List Int) (k step : Int) (hs : step ≠ 0) : sliceL (ns.map .int) (.int k) .none (.int step) = .ok (.lst ((pickI ns (some k) none (some step)).map .int)) := by
  show (if some step = some 0 then Res.stuck else .ok (.lst (pickL (ns.map .int) (some k) none (some step)))) = _
  rw [if_neg (by simpa using hs), pickL_ints]
theorem range2_items (a : Int) (n : Nat) (h : n ≤ 1000) (h1 : -1000000 ≤ a) (h2 : a ≤ 1000000) : itemsV (.range a (a + n) 1) = some ((List.range n).map fun (i : Nat) => .int (a + i)) := by
  have hs : Builtin.Range.small a (a + n) 1 = true := small_one (by omega) (by omega) (by omega) (by omega)
  have hz : Builtin.Range.rangeSize a (a + n) 1 = n := by rw [rangeSize_one]; split <;> omega
  unfold itemsV
  simp only [hs, if_true, hz, Int.toNat_natCast]
  rw [if_pos (by omega)]
  unfold rangeL
  rw [hz]
  simp only [Int.toNat_natCast, Int.mul_one]
theorem range_items (n : Nat) (h : n ≤ 1000) : itemsV (.range 0 n 1) = some ((List.range n).map fun (i : Nat) => .int i) := by
  have := range2_items 0 n h (by omega) (by omega)
  simpa using this
theorem range_get {n j : Nat} {x : AV} (h : ((List.range n).map fun (i : Nat) => AV.int i)[j]? = some x) : j < n ∧ x = .int j := by
  rw [List.getElem?_map] at h
  by_cases hj : j < n
  · rw [List.getElem?_range hj] at h
    simp at h
    exact ⟨hj, h.symm⟩
  · rw [List.getElem?_eq_none (by simpa using hj)] at h
    cases h
end Mine
end
section
open PySem PySem.W PyProof.Rows
namespace Mine
set_option maxRecDepth 100000
/- the defs, by number: 0 ixor, 1 _law_edge, 2 _law_counted, 3 _law_cone, 4 _law_refused, 5 law -/
noncomputable def fname : Nat → Str
  | 0 => PySem.Str.ofString "ixor"
  | 1 => PySem.Str.ofString "_law_edge"
  | 2 => PySem.Str.ofString "_law_counted"
  | 3 => PySem.Str.ofString "_law_cone"
  | 4 => PySem.Str.ofString "_law_refused"
  | 5 => PySem.Str.ofString "law"
  | _ => PySem.Str.ofString ""
/- ixor; slots: 0 a, 1 b -/
noncomputable def ixor_ns : List Str := [PySem.Str.ofString "a", PySem.Str.ofString "b"]
noncomputable def ixor_p : PSs :=
 .cons (.eaug 0 .BitXor (.name 1))
 (.cons (.ret (.name 0)) .nil)
/- _law_edge; slots: 0 chain, 1 first, 2 out, 3 some, 4 i -/
noncomputable def law_edge_ns : List Str := [PySem.Str.ofString "chain", PySem.Str.ofString "first", PySem.Str.ofString "out", PySem.Str.ofString "some", PySem.Str.ofString "i"]
noncomputable def law_edge_b2 : PSs :=
 .cons (.ite (.cmp .Eq (.bin .Mod (.bin .FloorDiv (.name 3) (.bin .Pow (.const (.int 2)) (.name 4))) (.const (.int 2))) (.const (.int 1)))
 (.cons (.assign 2 (.call 0 (.cons (.name 2) (.cons (.setd (.bin .Sub (.name 3) (.bin .Pow (.const (.int 2)) (.name 4)))) .nil))))
 (.cons (.ite (.cmp .IsNot (.name 2) (.name 1))
 (.cons (.ret (.const .none)) .nil)
 (.nil)) .nil))
 (.nil)) .nil
noncomputable def law_edge_b1 : PSs :=
 .cons (.for_ 4 (.bcall .range (.cons (.const (.int 5)) .nil)) law_edge_b2) .nil
noncomputable def law_edge_p : PSs :=
 .cons (.assign 1 (.ecall .set (.nil)))
 (.cons (.assign 2 (.name 1))
 (.cons (.for_ 3 (.ecall .sorted (.cons (.name 0) .nil)) law_edge_b1)
 (.cons (.ret (.name 2)) .nil)))
/- _law_counted; slots: 0 chain, 1 out, 2 some, 3 more -/
noncomputable def law_counted_ns : List Str := [PySem.Str.ofString "chain", PySem.Str.ofString "out", PySem.Str.ofString "some", PySem.Str.ofString "more"]
noncomputable def law_counted_b1 : PSs :=
 .cons (.assign 3 (.comp [2] (.bin .Add (.name 2) (.bin .Pow (.const (.int 2)) (.name 4))) (.bcall .range (.cons (.const (.int 5)) .nil)) (.cons (.cmp .Eq (.bin .Mod (.bin .FloorDiv (.name 2) (.bin .Pow (.const (.int 2)) (.name 4))) (.const (.int 2))) (.const (.int 0))) .nil)))
 (.cons (.ite (.cmp .Eq (.bin .Mod (.bcall .len (.cons (.comp [0] (.name 4) (.name 3) (.cons (.cmp .In (.name 4) (.name 0)) .nil)) .nil)) (.const (.int 2))) (.const (.int 1)))
 (.cons (.ometh 1 .append (.cons (.name 2) .nil) none) .nil)
 (.nil)) .nil)
noncomputable def law_counted_p : PSs :=
 .cons (.ownl 1 (.nil))
 (.cons (.for_ 2 (.bcall .range (.cons (.const (.int 32)) .nil)) law_counted_b1)
 (.cons (.retOwn 1) .nil))
/- _law_cone; slots: 0 chain -/
noncomputable def law_cone_ns : List Str := [PySem.Str.ofString "chain"]
noncomputable def law_cone_p : PSs :=
 .cons (.ret (.ecall .set (.cons (.compS [] (.bin .Add (.name 1) (.const (.int 1))) (.name 0) (.cons (.cmp .Eq (.bin .Mod (.name 1) (.const (.int 2))) (.const (.int 0))) .nil)) .nil))) .nil
/- _law_refused; slots: 0 a, 1 b -/
noncomputable def law_refused_ns : List Str := [PySem.Str.ofString "a", PySem.Str.ofString "b"]
noncomputable def law_refused_p : PSs :=
 .cons (.try_ (.cons (.expr (.call 0 (.cons (.name 0) (.cons (.name 1) .nil)))) .nil) (.cons .te (.cons (.ret (.const (.bool true))) .nil) (.nil)))
 (.cons (.ret (.const (.bool false))) .nil)
/- law; slots: 0 script, 1 last, 2 last_edge, 3 k, 4 tells, 5 before, 6 chain, 7 edge, 8 none, 9 filled, 10 back, 11 whole, 12 both, 13 held, 14 edges, 15 fixed, 16 new, 17 bad -/
noncomputable def law_ns : List Str := [PySem.Str.ofString "script", PySem.Str.ofString "last", PySem.Str.ofString "last_edge", PySem.Str.ofString "k", PySem.Str.ofString "tells", PySem.Str.ofString "before", PySem.Str.ofString "chain", PySem.Str.ofString "edge", PySem.Str.ofString "none", PySem.Str.ofString "filled", PySem.Str.ofString "back", PySem.Str.ofString "whole", PySem.Str.ofString "both", PySem.Str.ofString "held", PySem.Str.ofString "edges", PySem.Str.ofString "fixed", PySem.Str.ofString "new", PySem.Str.ofString "bad"]
noncomputable def law_b2 : PSs :=
 .cons (.ite (.bop .Or (.cons (.un .Not (.call 4 (.cons (.name 6) (.cons (.name 17) .nil)))) (.cons (.un .Not (.call 4 (.cons (.name 17) (.cons (.name 6) .nil)))) .nil)))
 (.cons (.ret (.const (.bool false))) .nil)
 (.nil)) .nil
noncomputable def law_b1 : PSs :=
 .cons (.assign 4 (.bin .Add (.sub (.tup (.cons (.const (.int 1234567)) (.cons (.const (.int 987654321)) (.cons (.const (.int 2147483654)) (.cons (.const (.int 77)) .nil))))) (.name 3)) (.bcall .sum (.cons (.slice (.name 0) (.name 3) (.const .none) (.const (.int 4))) .nil))))
 (.cons (.assign 5 (.comp [4] (.name 18) (.bcall .range (.cons (.const (.int 32)) .nil)) (.cons (.cmp .Eq (.bin .Mod (.bin .FloorDiv (.name 4) (.bin .Pow (.const (.int 2)) (.name 18))) (.const (.int 2))) (.const (.int 1))) .nil)))
 (.cons (.assign 6 (.ecall .set (.cons (.name 5) .nil)))
 (.cons (.assign 7 (.call 1 (.cons (.name 6) .nil)))
 (.cons (.ite (.bop .Or (.cons (.cmp .IsNot (.bcall .type (.cons (.name 7) .nil)) (.glob .set)) (.cons (.cmp .NotEq (.ecall .sorted (.cons (.name 7) .nil)) (.call 2 (.cons (.name 6) .nil))) .nil)))
 (.cons (.ret (.const (.bool false))) .nil)
 (.nil))
 (.cons (.assign 8 (.call 1 (.cons (.name 7) .nil)))
 (.cons (.ite (.bop .Or (.cons (.cmp .IsNot (.bcall .type (.cons (.name 8) .nil)) (.glob .set)) (.cons (.cmp .NotEq (.bcall .len (.cons (.name 8) .nil)) (.const (.int 0))) .nil)))
 (.cons (.ret (.const (.bool false))) .nil)
 (.nil))
 (.cons (.assign 9 (.call 1 (.cons (.call 3 (.cons (.name 6) .nil)) .nil)))
 (.cons (.assign 10 (.call 3 (.cons (.name 7) .nil)))
 (.cons (.assign 11 (.call 0 (.cons (.name 9) (.cons (.name 10) .nil))))
 (.cons (.ite (.bop .Or (.cons (.cmp .IsNot (.name 11) (.name 9)) (.cons (.cmp .NotEq (.ecall .sorted (.cons (.name 11) .nil)) (.name 5)) (.cons (.cmp .NotEq (.name 10) (.call 3 (.cons (.name 7) .nil))) .nil))))
 (.cons (.ret (.const (.bool false))) .nil)
 (.nil))
 (.cons (.assign 12 (.ecall .set (.cons (.name 5) .nil)))
 (.cons (.assign 13 (.name 12))
 (.cons (.assign 12 (.call 0 (.cons (.name 12) (.cons (.name 1) .nil))))
 (.cons (.ite (.bop .Or (.cons (.cmp .IsNot (.name 12) (.name 13)) (.cons (.cmp .NotEq (.ecall .sorted (.cons (.name 12) .nil)) (.comp [1, 6] (.name 18) (.bcall .range (.cons (.const (.int 32)) .nil)) (.cons (.cmp .NotEq (.cmp .In (.name 18) (.name 6)) (.cmp .In (.name 18) (.name 1))) .nil))) .nil)))
 (.cons (.ret (.const (.bool false))) .nil)
 (.nil))
 (.cons (.assign 14 (.call 0 (.cons (.ecall .set (.cons (.name 7) .nil)) (.cons (.name 2) .nil))))
 (.cons (.ite (.bop .Or (.cons (.cmp .NotEq (.call 1 (.cons (.name 12) .nil)) (.name 14)) (.cons (.cmp .NotEq (.ecall .sorted (.cons (.name 2) .nil)) (.call 2 (.cons (.name 1) .nil))) .nil)))
 (.cons (.ret (.const (.bool false))) .nil)
 (.nil))
 (.cons (.assign 15 (.ecall .frozenset (.cons (.name 5) .nil)))
 (.cons (.assign 16 (.call 0 (.cons (.name 15) (.cons (.name 7) .nil))))
 (.cons (.ite (.bop .Or (.cons (.cmp .IsNot (.bcall .type (.cons (.name 16) .nil)) (.glob .frozenset)) (.cons (.cmp .NotEq (.ecall .sorted (.cons (.name 15) .nil)) (.name 5)) .nil)))
 (.cons (.ret (.const (.bool false))) .nil)
 (.nil))
 (.cons (.ite (.cmp .NotEq (.ecall .sorted (.cons (.name 16) .nil)) (.comp [6, 7] (.name 18) (.bcall .range (.cons (.const (.int 32)) .nil)) (.cons (.cmp .NotEq (.cmp .In (.name 18) (.name 6)) (.cmp .In (.name 18) (.name 7))) .nil)))
 (.cons (.ret (.const (.bool false))) .nil)
 (.nil))
 (.cons (.for_ 17 (.tup (.cons (.name 5) (.cons (.const .none) (.cons (.const (.int 5)) .nil)))) law_b2)
 (.cons (.ite (.bop .Or (.cons (.cmp .NotEq (.ecall .sorted (.cons (.name 6) .nil)) (.name 5)) (.cons (.cmp .NotEq (.ecall .sorted (.cons (.name 7) .nil)) (.call 2 (.cons (.name 6) .nil))) .nil)))
 (.cons (.ret (.const (.bool false))) .nil)
 (.nil))
 (.cons (.assign 12 (.call 0 (.cons (.name 12) (.cons (.name 12) .nil))))
 (.cons (.ite (.bop .Or (.cons (.cmp .IsNot (.name 12) (.name 13)) (.cons (.cmp .NotEq (.bcall .len (.cons (.name 12) .nil)) (.const (.int 0))) .nil)))
 (.cons (.ret (.const (.bool false))) .nil)
 (.nil))
 (.cons (.assign 1 (.name 6))
 (.cons (.assign 2 (.name 7)) .nil))))))))))))))))))))))))))
noncomputable def law_p : PSs :=
 .cons (.assign 1 (.ecall .set (.cons (.list (.cons (.const (.int 31)) .nil)) .nil)))
 (.cons (.assign 2 (.ecall .set (.cons (.list (.cons (.const (.int 30)) (.cons (.const (.int 29)) (.cons (.const (.int 27)) (.cons (.const (.int 23)) (.cons (.const (.int 15)) .nil)))))) .nil)))
 (.cons (.for_ 3 (.bcall .range (.cons (.const (.int 4)) .nil)) law_b1)
 (.cons (.ret (.const (.bool true))) .nil)))
noncomputable def frees : List Str := ["sorted", "range", "set", "len", "TypeError", "type", "frozenset", "sum"]
noncomputable def cal0 : Cal := fun _ _ _ _ => .stuck
theorem calls0 (c : Cx) (fname : Nat → Str) : CallsOk c 0 cal0 fname := ⟨fun _ _ _ _ h => absurd rfl h⟩
/-- level 1: ixor -/
noncomputable def cal1 (ld : Bool) : Cal := ext (ops ld) cal0 0 2 ixor_ns ixor_p
theorem cal1_hit {ld : Bool} (σ : Store) (lo : Nat) (args : List AV) (h : args.length = 2) : (cal1 ld) σ lo 0 args = fnRes (pxs (ops ld) cal0 true (st0 args ixor_ns.length σ lo) ixor_p) := ext_hit h
theorem calls1 {c : Cx} (hfree : ∀ x ∈ frees, c.mg x = none) (D0 : DefIs c frees fname (fname 0) ixor_ns 2 ixor_p) : CallsOk c 2 (cal1 c.ld) fname := ext_ok (ops_ok c) (calls0 c fname) hfree D0
/-- level 2: _law_counted -/
noncomputable def cal2 (ld : Bool) : Cal := ext (ops ld) (cal1 ld) 2 1 law_counted_ns law_counted_p
theorem cal2_hit {ld : Bool} (σ : Store) (lo : Nat) (args : List AV) (h : args.length = 1) : (cal2 ld) σ lo 2 args = fnRes (pxs (ops ld) (cal1 ld) true (st0 args law_counted_ns.length σ lo) law_counted_p) := ext_hit h
theorem cal2_0 {ld : Bool} (σ : Store) (lo : Nat) (args : List AV) : (cal2 ld) σ lo 0 args = (cal1 ld) σ lo 0 args := ext_ne (by decide)
theorem calls2 {c : Cx} (hfree : ∀ x ∈ frees, c.mg x = none) (D0 : DefIs c frees fname (fname 0) ixor_ns 2 ixor_p) (D2 : DefIs c frees fname (fname 2) law_counted_ns 1 law_counted_p) : CallsOk c 4 (cal2 c.ld) fname := ext_ok (ops_ok c) (calls1 hfree D0) hfree D2
/-- level 3: _law_refused -/
noncomputable def cal3 (ld : Bool) : Cal := ext (ops ld) (cal2 ld) 4 2 law_refused_ns law_refused_p
theorem cal3_hit {ld : Bool} (σ : Store) (lo : Nat) (args : List AV) (h : args.length = 2) : (cal3 ld) σ lo 4 args = fnRes (pxs (ops ld) (cal2 ld) true (st0 args law_refused_ns.length σ lo) law_refused_p) := ext_hit h
theorem cal3_0 {ld : Bool} (σ : Store) (lo : Nat) (args : List AV) : (cal3 ld) σ lo 0 args = (cal2 ld) σ lo 0 args := ext_ne (by decide)
theorem cal3_2 {ld : Bool} (σ : Store) (lo : Nat) (args : List AV) : (cal3 ld) σ lo 2 args = (cal2 ld) σ lo 2 args := ext_ne (by decide)
theorem calls3 {c : Cx} (hfree : ∀ x ∈ frees, c.mg x = none) (D0 : DefIs c frees fname (fname 0) ixor_ns 2 ixor_p) (D2 : DefIs c frees fname (fname 2) law_counted_ns 1 law_counted_p) (D4 : DefIs c frees fname (fname 4) law_refused_ns 2 law_refused_p) : CallsOk c 6 (cal3 c.ld) fname := ext_ok (ops_ok c) (calls2 hfree D0 D2) hfree D4
/-- level 4: _law_edge -/
noncomputable def cal4 (ld : Bool) : Cal := ext (ops ld) (cal3 ld) 1 1 law_edge_ns law_edge_p
theorem cal4_hit {ld : Bool} (σ : Store) (lo : Nat) (args : List AV) (h : args.length = 1) : (cal4 ld) σ lo 1 args = fnRes (pxs (ops ld) (cal3 ld) true (st0 args law_edge_ns.length σ lo) law_edge_p) := ext_hit h
theorem cal4_0 {ld : Bool} (σ : Store) (lo : Nat) (args : List AV) : (cal4 ld) σ lo 0 args = (cal3 ld) σ lo 0 args := ext_ne (by decide)
theorem cal4_2 {ld : Bool} (σ : Store) (lo : Nat) (args : List AV) : (cal4 ld) σ lo 2 args = (cal3 ld) σ lo 2 args := ext_ne (by decide)
theorem cal4_4 {ld : Bool} (σ : Store) (lo : Nat) (args : List AV) : (cal4 ld) σ lo 4 args = (cal3 ld) σ lo 4 args := ext_ne (by decide)
theorem calls4 {c : Cx} (hfree : ∀ x ∈ frees, c.mg x = none) (D0 : DefIs c frees fname (fname 0) ixor_ns 2 ixor_p) (D2 : DefIs c frees fname (fname 2) law_counted_ns 1 law_counted_p) (D4 : DefIs c frees fname (fname 4) law_refused_ns 2 law_refused_p) (D1 : DefIs c frees fname (fname 1) law_edge_ns 1 law_edge_p) : CallsOk c 8 (cal4 c.ld) fname := ext_ok (ops_ok c) (calls3 hfree D0 D2 D4) hfree D1
/-- level 5: _law_cone -/
noncomputable def cal5 (ld : Bool) : Cal := ext (ops ld) (cal4 ld) 3 1 law_cone_ns law_cone_p
theorem cal5_hit {ld : Bool} (σ : Store) (lo : Nat) (args : List AV) (h : args.length = 1) : (cal5 ld) σ lo 3 args = fnRes (pxs (ops ld) (cal4 ld) true (st0 args law_cone_ns.length σ lo) law_cone_p) := ext_hit h
theorem cal5_0 {ld : Bool} (σ : Store) (lo : Nat) (args : List AV) : (cal5 ld) σ lo 0 args = (cal4 ld) σ lo 0 args := ext_ne (by decide)
theorem cal5_2 {ld : Bool} (σ : Store) (lo : Nat) (args : List AV) : (cal5 ld) σ lo 2 args = (cal4 ld) σ lo 2 args := ext_ne (by decide)
theorem cal5_4 {ld : Bool} (σ : Store) (lo : Nat) (args : List AV) : (cal5 ld) σ lo 4 args = (cal4 ld) σ lo 4 args := ext_ne (by decide)
theorem cal5_1 {ld : Bool} (σ : Store) (lo : Nat) (args : List AV) : (cal5 ld) σ lo 1 args = (cal4 ld) σ lo 1 args := ext_ne (by decide)
theorem calls5 {c : Cx} (hfree : ∀ x ∈ frees, c.mg x = none) (D0 : DefIs c frees fname (fname 0) ixor_ns 2 ixor_p) (D2 : DefIs c frees fname (fname 2) law_counted_ns 1 law_counted_p) (D4 : DefIs c frees fname (fname 4) law_refused_ns 2 law_refused_p) (D1 : DefIs c frees fname (fname 1) law_edge_ns 1 law_edge_p) (D3 : DefIs c frees fname (fname 3) law_cone_ns 1 law_cone_p) : CallsOk c 10 (cal5 c.ld) fname := ext_ok (ops_ok c) (calls4 hfree D0 D2 D4 D1) hfree D3
noncomputable def lawRes (ld : Bool) (ns : List Int) : ER := fnRes (pxs (ops ld) (cal5 ld) true (st0 [.lst (ns.map .int)] law_ns.length [] 0) law_p)
noncomputable def textOk (p : Program) (loose : List Str) : Bool := freesOk p loose frees && defOk p frees fname (fname 0) ixor_ns 2 ixor_p && defOk p frees fname (fname 2) law_counted_ns 1 law_counted_p && defOk p frees fname (fname 4) law_refused_ns 2 law_refused_p && defOk p frees fname (fname 1) law_edge_ns 1 law_edge_p && defOk p frees fname (fname 3) law_cone_ns 1 law_cone_p && defOk p frees fname (fname 5) law_ns 1 law_p
theorem law_code {prog : Program} {w : World} {p : Program} {loose : List Str} {mean : ExcName → Option Value} {mg mb : Str → Option Value} {s : Shared} (T : Top p loose mean mg mb s.heap) (ht : textOk p loose = true) {ns : List Int} (hres : ∀ ld, ∃ σ, lawRes ld ns = .ok (.av (.bool true)) σ) (hz : ns.length ≤ 1048576)
    {l fa : Addr} {vs : List Value} (hl : IsL s.heap l vs) (hI : IntsAre vs ns) (hmg : mg (fname 5) = some (.ref fa)) {R : Result → Shared → Prop}
    (K : ∀ s', (∀ b o, s.heap.get? b = some o → s'.heap.get? b = some o) → s'.os = s.os → s'.gens = s.gens → R (.ok (.ret (.bool true))) s') : codeAny (model prog w) callerA (.call (.ref fa) ⟨[.ref l], []⟩) R s := by
  simp only [textOk, Bool.and_eq_true] at ht
  obtain ⟨⟨⟨⟨⟨⟨h1, hd0⟩, hd2⟩, hd4⟩, hd1⟩, hd3⟩, hd5⟩ := ht
  obtain ⟨σ', hres⟩ := hres (!w.params.followText "set-order")
  have hfree := frees_of T h1
  have D0 := def_of (prog := prog) (w := w) T hd0 (bindOk2 (by intros; kernel_rfl))
  have D2 := def_of (prog := prog) (w := w) T hd2 (bindOk1 (by intros; kernel_rfl))
  have D4 := def_of (prog := prog) (w := w) T hd4 (bindOk2 (by intros; kernel_rfl))
  have D1 := def_of (prog := prog) (w := w) T hd1 (bindOk1 (by intros; kernel_rfl))
  have D3 := def_of (prog := prog) (w := w) T hd3 (bindOk1 (by intros; kernel_rfl))
  have D5 := def_of (prog := prog) (w := w) T hd5 (bindOk1 (by intros; kernel_rfl))
  have rr := script_rep hl hI hz
  have := D5.code (ops_ok _) (calls5 hfree D0 D2 D4 D1 D3) hfree (args := [.lst (ns.map .int)]) (σ := []) (lo := 0) rfl (A := callerA) (s := s) (H := H0) (vs := [.ref l]) (a := fa)
    (Q := fun v s' => v = .bool true ∧ (∀ b o, s.heap.get? b = some o → s'.heap.get? b = some o) ∧ s'.os = s.os ∧ s'.gens = s.gens) (E := fun _ _ => False)
    ⟨by decide, by decide, fun _ => rfl, [], rfl, trivial⟩ (fun _ _ e => e) (fun _ z => z.elim) (sto0 _) (fun _ _ e => by cases e) rr hmg (by
      show PostE true callerA _ _ _ (lawRes (!w.params.followText "set-order") ns) s _ _
      rw [hres]
      exact fun v H' s' x r => ⟨r, kp_top (x.kp (Nat.le_refl _))⟩)
  refine codeAny_mono this fun r s' h => ?_
  match r, h with
  | .ok (.ret v), ⟨hv, h1, h2, h3⟩ => rw [hv]; exact K s' h1 h2 h3
end Mine
end
section
namespace Mine
set_option maxRecDepth 100000
set_option linter.unusedVariables false
/- chains as truth values at 0 .. 31 -/
noncomputable abbrev Ch := Nat → Bool
/-- the sum by exclusive or of f over 0 .. 31 -/
noncomputable def xs32 (f : Nat → Bool) : Bool := (List.range 32).foldl (fun b k => b ^^ f k) false
/-- what a table of truth values makes of a chain -/
noncomputable def lin (M : Nat → Nat → Bool) (p : Ch) : Ch := fun t => xs32 fun k => p k && M k t
noncomputable def xl (l : List Nat) (f : Nat → Bool) : Bool := l.foldl (fun b k => b ^^ f k) false
theorem xl_from (f : Nat → Bool) : ∀ (l : List Nat) (b : Bool), l.foldl (fun b k => b ^^ f k) b = (b ^^ xl l f)
  | [], b => by simp [xl]
  | k :: l, b => by
    have e : xl (k :: l) f = ((false ^^ f k) ^^ xl l f) := xl_from f l _
    rw [List.foldl_cons, xl_from f l, e, Bool.false_xor, Bool.xor_assoc]
theorem xl_cons (f : Nat → Bool) (k : Nat) (l : List Nat) : xl (k :: l) f = (f k ^^ xl l f) := by
  rw [xl, List.foldl_cons, xl_from, Bool.false_xor]
theorem xl_xor (f g : Nat → Bool) : ∀ l : List Nat, xl l (fun k => f k ^^ g k) = (xl l f ^^ xl l g)
  | [] => rfl
  | k :: l => by
    rw [xl_cons, xl_cons, xl_cons, xl_xor f g l]
    cases f k <;> cases g k <;> cases xl l f <;> cases xl l g <;> rfl
theorem xl_false : ∀ l : List Nat, xl l (fun _ => false) = false
  | [] => rfl
  | k :: l => by rw [xl_cons, xl_false l]; rfl
theorem xl_congr {f g : Nat → Bool} : ∀ {l : List Nat}, (∀ k ∈ l, f k = g k) → xl l f = xl l g
  | [], _ => rfl
  | k :: l, h => by rw [xl_cons, xl_cons, h k List.mem_cons_self, xl_congr fun j hj => h j (List.mem_cons_of_mem _ hj)]
theorem xl_and (b : Bool) (f : Nat → Bool) (l : List Nat) : xl l (fun k => b && f k) = (b && xl l f) := by
  cases b with
  | false => simp [xl_false]
  | true => simp
theorem xl_and' (b : Bool) (f : Nat → Bool) (l : List Nat) : xl l (fun k => f k && b) = (xl l f && b) := by
  cases b with
  | false => simp [xl_false]
  | true => simp
theorem xl_swap (f : Nat → Nat → Bool) (l' : List Nat) : ∀ l : List Nat, xl l (fun k => xl l' fun j => f k j) = xl l' fun j => xl l fun k => f k j
  | [] => (xl_false l').symm
  | k :: l => by
    rw [xl_cons, xl_swap f l' l, ← xl_xor]
    exact xl_congr fun j _ => (xl_cons (fun k => f k j) k l).symm
theorem lin_xl (M : Nat → Nat → Bool) (p : Ch) (t : Nat) : lin M p t = xl (List.range 32) fun k => p k && M k t := rfl
theorem xl_point {f : Nat → Bool} {t : Nat} : ∀ {l : List Nat}, l.Nodup → xl l (fun k => f k && (k == t)) = (l.contains t && f t)
  | [], _ => rfl
  | k :: l, n => by
    rw [List.nodup_cons] at n
    rw [xl_cons, xl_point n.2, List.contains_cons]
    by_cases h : k = t
    · subst h
      have : l.contains k = false := by simpa using n.1
      rw [this]; simp
    · have h1 : (k == t) = false := by simpa using h
      have h2 : (t == k) = false := by simpa using fun e : t = k => h e.symm
      rw [h1, h2]; simp
/-- two tables one behind the other -/
theorem lin_lin (M N : Nat → Nat → Bool) (p : Ch) (t : Nat) : lin N (lin M p) t = xs32 fun j => p j && xs32 fun k => M j k && N k t := by
  show xl (List.range 32) (fun k => (xl (List.range 32) fun j => p j && M j k) && N k t) = xl (List.range 32) fun j => p j && xl (List.range 32) fun k => M j k && N k t
  have e1 : xl (List.range 32) (fun k => (xl (List.range 32) fun j => p j && M j k) && N k t) = xl (List.range 32) fun k => xl (List.range 32) fun j => p j && (M j k && N k t) :=
    xl_congr fun k _ => by
      rw [← xl_and']
      exact xl_congr fun j _ => Bool.and_assoc ..
  rw [e1, xl_swap]
  exact xl_congr fun j _ => by rw [xl_and]
theorem lin_xor (M : Nat → Nat → Bool) (p q : Ch) (t : Nat) : lin M (fun k => p k ^^ q k) t = (lin M p t ^^ lin M q t) := by
  rw [lin_xl, lin_xl, lin_xl, ← xl_xor]
  exact xl_congr fun k _ => by cases p k <;> cases q k <;> cases M k t <;> rfl
/-- a thing's edges: how often t comes by leaving out one point of k -/
noncomputable def bitAt (k i : Nat) : Bool := k / 2 ^ i % 2 == 1
noncomputable def eM (k t : Nat) : Bool := (List.range 5).foldl (fun b i => b ^^ (bitAt k i && (k - 2 ^ i == t))) false
noncomputable def kM (k t : Nat) : Bool := k % 2 == 0 && k + 1 == t
noncomputable abbrev De : Ch → Ch := lin eM
noncomputable abbrev Ke : Ch → Ch := lin kM
theorem eM_eM : ∀ j, j < 32 → ∀ t, t < 32 → (xs32 fun k => eM j k && eM k t) = false := by decide +kernel
theorem cone_id : ∀ j, j < 32 → ∀ t, t < 32 → ((xs32 fun k => kM j k && eM k t) ^^ (xs32 fun k => eM j k && kM k t)) = (j == t) := by decide +kernel
theorem De_De (p : Ch) {t : Nat} (ht : t < 32) : De (De p) t = false := by
  show lin eM (lin eM p) t = false
  rw [lin_lin]
  have : xl (List.range 32) (fun j => p j && xs32 fun k => eM j k && eM k t) = xl (List.range 32) fun _ => false := xl_congr fun j hj => by
    rw [eM_eM j (List.mem_range.mp hj) t ht, Bool.and_false]
  exact this.trans (xl_false _)
theorem cone_ok (p : Ch) {t : Nat} (ht : t < 32) : (De (Ke p) t ^^ Ke (De p) t) = p t := by
  show (lin eM (lin kM p) t ^^ lin kM (lin eM p) t) = p t
  rw [lin_lin, lin_lin]
  show (xl (List.range 32) (fun j => p j && xs32 fun k => kM j k && eM k t) ^^ xl (List.range 32) fun j => p j && xs32 fun k => eM j k && kM k t) = _
  rw [← xl_xor]
  have : xl (List.range 32) (fun j => (p j && xs32 fun k => kM j k && eM k t) ^^ (p j && xs32 fun k => eM j k && kM k t)) = xl (List.range 32) fun j => p j && (j == t) := xl_congr fun j hj => by
    rw [← cone_id j (List.mem_range.mp hj) t ht]
    cases p j <;> simp
  rw [this, xl_point List.nodup_range]
  have : (List.range 32).contains t = true := by simpa using ht
  rw [this, Bool.true_and]
/- the law's way to count -/
noncomputable def more (t : Nat) : List Nat := ((List.range 5).filter fun i => !bitAt t i).map fun i => t + 2 ^ i
theorem more_is : ∀ t, t < 32 → (∀ k, k < 32 → (more t).contains k = eM k t) ∧ (more t).Nodup ∧ ∀ k ∈ more t, k < 32 := by decide +kernel
theorem odd_len (p : Ch) : ∀ l : List Nat, ((l.filter p).length % 2 == 1) = xl l p
  | [] => rfl
  | k :: l => by
    have ih := odd_len p l
    rw [xl_cons, ← ih, List.filter_cons]
    cases h : p k with
    | false => simp
    | true =>
      simp only [if_true, List.length_cons]
      rcases Nat.mod_two_eq_zero_or_one (l.filter p).length with e | e
      · have : ((l.filter p).length + 1) % 2 = 1 := by omega
        simp [e, this]
      · have : ((l.filter p).length + 1) % 2 = 0 := by omega
        simp [e, this]
theorem xl_list (p : Ch) : ∀ {l : List Nat}, l.Nodup → (∀ k ∈ l, k < 32) → xl l p = xl (List.range 32) fun k => p k && l.contains k
  | [], _, _ => by
    have : (fun k => p k && ([] : List Nat).contains k) = fun _ => false := by funext k; simp
    rw [this, xl_false]; rfl
  | a :: l, n, h => by
    rw [List.nodup_cons] at n
    have ih := xl_list p n.2 fun k hk => h k (List.mem_cons_of_mem _ hk)
    have ha := h a List.mem_cons_self
    have e : xl (List.range 32) (fun k => p k && (a :: l).contains k) = xl (List.range 32) fun k => (p k && (k == a)) ^^ (p k && l.contains k) := xl_congr fun k _ => by
      rw [List.contains_cons]
      by_cases hk : k = a
      · subst hk
        have : l.contains k = false := by simpa using n.1
        rw [this]; simp
      · have : (k == a) = false := by simpa using hk
        rw [this]; simp
    rw [xl_cons, e, xl_xor, xl_point List.nodup_range, ih]
    have : (List.range 32).contains a = true := by simpa using ha
    rw [this, Bool.true_and]
theorem counted_ok (p : Ch) {t : Nat} (ht : t < 32) : (((more t).filter p).length % 2 == 1) = De p t := by
  obtain ⟨h1, h2, h3⟩ := more_is t ht
  rw [odd_len, xl_list p h2 h3]
  exact xl_congr fun k hk => by rw [h1 k (List.mem_range.mp hk)]
/- chains as rising rows -/
noncomputable def toL (p : Ch) : List Int := ((List.range 32).filter p).map fun (n : Nat) => (n : Int)
theorem mem_toL {p : Ch} {i : Int} : i ∈ toL p ↔ ∃ n : Nat, n < 32 ∧ p n = true ∧ i = n := by
  unfold toL
  rw [List.mem_map]
  constructor
  · rintro ⟨n, h, rfl⟩
    rw [List.mem_filter, List.mem_range] at h
    exact ⟨n, h.1, h.2, rfl⟩
  · rintro ⟨n, h1, h2, rfl⟩
    exact ⟨n, List.mem_filter.mpr ⟨List.mem_range.mpr h1, h2⟩, rfl⟩
theorem nat_toL {p : Ch} {n : Nat} (h : n < 32) : ((n : Int) ∈ toL p) ↔ p n = true := by
  rw [mem_toL]
  constructor
  · rintro ⟨m, _, h2, e⟩
    have : n = m := by omega
    rw [this]; exact h2
  · intro hp; exact ⟨n, h, hp, rfl⟩
theorem toL_sorted (p : Ch) : (toL p).Pairwise (· < ·) := by
  unfold toL
  rw [List.pairwise_map]
  exact ((List.pairwise_lt_range).filter _).imp fun h => by omega
theorem toL_dom (p : Ch) : ∀ i ∈ toL p, 0 ≤ i ∧ i < 32 := fun i hi => by
  obtain ⟨n, h, _, rfl⟩ := mem_toL.mp hi
  omega
theorem toL_congr {p q : Ch} (h : ∀ n, n < 32 → p n = q n) : toL p = toL q := by
  unfold toL
  congr 1
  exact List.filter_congr fun n hn => h n (List.mem_range.mp hn)
/-- a rising row of small ints is one chain's -/
theorem toL_of {xs : List Int} {p : Ch} (h : xs.Pairwise (· < ·)) (m : ∀ i, i ∈ xs ↔ ∃ n : Nat, n < 32 ∧ p n = true ∧ i = n) : xs = toL p :=
  sorted_ext h (toL_sorted p) fun i => (m i).trans mem_toL.symm
theorem toL_sym (p q : Ch) : symI (toL p) (toL q) = toL fun n => p n ^^ q n := by
  refine toL_of (fold_sorted (toL_sorted p)) fun i => ?_
  rw [fold_mem (lt_nodup (toL_sorted q))]
  constructor
  · rintro (⟨a, b⟩ | ⟨a, b⟩)
    · obtain ⟨n, h1, h2, rfl⟩ := mem_toL.mp a
      have : q n = false := by
        cases hq : q n with
        | false => rfl
        | true => exact absurd ((nat_toL h1).mpr hq) b
      exact ⟨n, h1, by rw [h2, this]; rfl, rfl⟩
    · obtain ⟨n, h1, h2, rfl⟩ := mem_toL.mp b
      have : p n = false := by
        cases hq : p n with
        | false => rfl
        | true => exact absurd ((nat_toL h1).mpr hq) a
      exact ⟨n, h1, by rw [h2, this]; rfl, rfl⟩
  · rintro ⟨n, h1, h2, rfl⟩
    rw [nat_toL h1, nat_toL h1]
    cases hp : p n <;> cases hq : q n <;> first | (rw [hp, hq] at h2; cases h2; done) | simp
theorem toL_one {t : Nat} (h : t < 32) : ([(t : Int)] : List Int) = toL fun n => n == t := by
  refine toL_of (by simp) fun i => ?_
  rw [List.mem_singleton]
  constructor
  · rintro rfl; exact ⟨t, h, by simp, rfl⟩
  · rintro ⟨n, _, h2, rfl⟩
    have : n = t := by simpa using h2
    rw [this]
theorem toL_nil {p : Ch} (h : ∀ n, n < 32 → p n = false) : toL p = [] := by
  have : toL p = toL fun _ => false := toL_congr h
  rw [this]; rfl
/-- the cone's row -/
theorem cone_row (p : Ch) : distI ((toL p).filterMap fun i => if i % 2 = 0 then some (i + 1) else none) = toL (Ke p) := by
  refine toL_of (distI_sorted _) fun i => ?_
  rw [mem_distI, List.mem_filterMap]
  have key : ∀ t, t < 32 → ∀ k, k < 32 → kM k t = (k == t - 1 && (t % 2 == 1)) := by decide +kernel
  constructor
  · rintro ⟨j, hj, h⟩
    obtain ⟨n, h1, h2, rfl⟩ := mem_toL.mp hj
    split at h
    · rename_i he
      cases h
      have hn : n + 1 < 32 := by omega
      refine ⟨n + 1, hn, ?_, by omega⟩
      have : Ke p (n + 1) = xl (List.range 32) fun k => p k && (k == n) := xl_congr fun k hk => by
        rw [key (n + 1) hn k (List.mem_range.mp hk)]
        have : ((n + 1) % 2 == 1) = true := by have : (n + 1) % 2 = 1 := by omega
                                               simp [this]
        rw [this, Bool.and_true]; rfl
      rw [this, xl_point List.nodup_range]
      have : (List.range 32).contains n = true := by simpa using h1
      rw [this, h2]; rfl
    · cases h
  · rintro ⟨t, ht, h, rfl⟩
    by_cases ho : t % 2 = 1
    · have : Ke p t = xl (List.range 32) fun k => p k && (k == t - 1) := xl_congr fun k hk => by
        rw [key t ht k (List.mem_range.mp hk)]
        have : (t % 2 == 1) = true := by simp [ho]
        rw [this, Bool.and_true]
      rw [this, xl_point List.nodup_range] at h
      have hp : p (t - 1) = true := by
        rw [Bool.and_eq_true] at h
        exact h.2
      refine ⟨((t - 1 : Nat) : Int), mem_toL.mpr ⟨t - 1, by omega, hp, rfl⟩, ?_⟩
      rw [if_pos (by omega)]
      congr 1
      omega
    · have : Ke p t = xl (List.range 32) fun _ => false := xl_congr fun k hk => by
        rw [key t ht k (List.mem_range.mp hk)]
        have : (t % 2 == 1) = false := by simpa using ho
        rw [this, Bool.and_false, Bool.and_false]
      rw [this, xl_false] at h
      cases h
end Mine
end
section
open PySem PySem.W PyProof.Rows
namespace Mine
/- the words, for a name that stands for ops: nothing runs by itself -/
section
variable {O : OpsF} {ld : Bool} (h : O = ops ld)
include h
theorem o_bin : O.bin = opBin := by rw [h]; rfl
theorem o_cmp : O.cmp = opCmp := by rw [h]; rfl
theorem o_truth : O.truth = opTruth := by rw [h]; rfl
theorem o_idx : O.idx = opIdx := by rw [h]; rfl
theorem o_slice : O.slice = opSlice := by rw [h]; rfl
theorem o_bcall : O.bcall = callB := by rw [h]; rfl
theorem o_items : O.items = itemsW ld := by rw [h]; rfl
theorem o_is : O.is_ = opIs := by rw [h]; rfl
theorem o_ecall : O.ecall = callE ld := by rw [h]; rfl
theorem o_ometh : O.ometh = opOmeth := by rw [h]; rfl
end
end Mine
end
section
open PySem PySem.W PyProof.Rows
namespace Mine
set_option maxRecDepth 100000
set_option linter.unusedSimpArgs false
set_option linter.unusedSectionVars false
set_option linter.unusedVariables false
/-- a set in the store -/
noncomputable def At (ld : Bool) (σ : Store) (n : Nat) (p : Ch) : Prop := σ[n]? = some (some (.set ld (toL p)))
section
variable {ld : Bool} {σ : Store} {n m : Nat} {p q : Ch}
theorem At.lt (h : At ld σ n p) : n < σ.length := (List.getElem?_eq_some_iff.mp h).1
theorem At.app (h : At ld σ n p) (l : Store) : At ld (σ ++ l) n p := by
  unfold At
  rw [List.getElem?_append_left h.lt]; exact h
theorem At.put (ld : Bool) (σ : Store) (p : Ch) : At ld (σ ++ [some (MO.set ld (toL p))]) σ.length p := by
  unfold At
  rw [List.getElem?_append_right (Nat.le_refl _), Nat.sub_self]; rfl
theorem At.ne (h : At ld σ n p) (x : Option MO) (hm : m ≠ n) : At ld (σ.set m x) n p := by
  unfold At
  rw [List.getElem?_set_ne hm]; exact h
theorem At.eq (h : n < σ.length) : At ld (σ.set n (some (.set ld (toL p)))) n p := by
  unfold At
  rw [List.getElem?_set_self h]
theorem At.same (h : At ld σ n p) (e : toL p = toL q) : At ld σ n q := by unfold At; rw [← e]; exact h
theorem at_deref (h : At ld σ n p) : deref σ (.ptr n) = .set false ld (toL p) := by
  show (match σ[n]? with | some (some (.lst xs)) => AV.lst xs | some (some (.itr k xs)) => .itr k xs | some (some (.set ld xs)) => .set false ld xs | _ => .ptr n) = _
  rw [show σ[n]? = some (some (.set ld (toL p))) from h]
end
noncomputable abbrev cL (p : Ch) : List AV := (toL p).map .int
theorem ints_cL (xs : List Int) : ints? (xs.map AV.int) = some xs := by
  induction xs with
  | nil => rfl
  | cons a l ih => rw [List.map_cons, ints?, ih]; rfl
theorem small_toL (p : Ch) : smallL (toL p) = true := by
  unfold smallL
  rw [List.all_eq_true]
  intro i hi
  have := toL_dom p i hi
  simpa using this
theorem dist_toL (p : Ch) : distI (toL p) = toL p := sorted_ext (distI_sorted _) (toL_sorted p) fun i => mem_distI
section
variable {O : OpsF} {ld : Bool} (hO : O = ops ld) {σ : Store} {lo n m : Nat} {p q : Ch}
include hO
theorem w_new : O.ecall .set σ lo [] = .ok (.av (.ptr σ.length)) (σ ++ [some (MO.set ld (toL fun _ => false))]) := by rw [o_ecall hO]; rfl
theorem w_list : O.ecall .set σ lo [.lst (cL p)] = .ok (.av (.ptr σ.length)) (σ ++ [some (MO.set ld (toL p))]) := by
  rw [o_ecall hO]
  show (match ints? (cL p) with | some ns => if smallL ns = true then ER.ok (.av (.ptr σ.length)) (σ ++ [some (MO.set ld (distI ns))]) else .stuck | none => .stuck) = _
  rw [ints_cL]
  simp only [small_toL, if_true, dist_toL]
theorem w_bag {ns : List Int} (hs : smallL ns = true) (e : distI ns = toL p) : O.ecall .set σ lo [.bag ns] = .ok (.av (.ptr σ.length)) (σ ++ [some (MO.set ld (toL p))]) := by
  rw [o_ecall hO]
  show (if smallL ns = true then ER.ok (.av (.ptr σ.length)) (σ ++ [some (MO.set ld (distI ns))]) else .stuck) = _
  rw [if_pos hs, e]
theorem w_copy (h : At ld σ n p) : O.ecall .set σ lo [.ptr n] = .ok (.av (.ptr σ.length)) (σ ++ [some (MO.set ld (toL p))]) := by
  rw [o_ecall hO]
  show s_set ld σ [.ptr n] = _
  simp only [s_set, at_deref h, if_true]
theorem w_fz : O.ecall .frozenset σ lo [.lst (cL p)] = .ok (.av (.set true ld (toL p))) σ := by
  rw [o_ecall hO]
  show (match ints? (cL p) with | some ns => if smallL ns = true then ER.ok (.av (.set true ld (distI ns))) σ else .stuck | none => .stuck) = _
  rw [ints_cL]
  simp only [small_toL, if_true, dist_toL]
theorem w_sorted (h : At ld σ n p) : O.ecall .sorted σ lo [.ptr n] = .ok (.av (.lst (cL p))) σ := by
  rw [o_ecall hO]
  show s_sorted ld σ [.ptr n] = _
  simp only [s_sorted, at_deref h, if_true]
theorem w_sortF : O.ecall .sorted σ lo [.set true ld (toL p)] = .ok (.av (.lst (cL p))) σ := by
  rw [o_ecall hO]
  show (if ld = ld then ER.ok (.av (.lst (cL p))) σ else .stuck) = _
  rw [if_pos rfl]
theorem w_sitems (h : At ld σ n p) : O.sitems (deref σ (.ptr n)) = some (toL p) := by
  rw [at_deref h, hO]
  show (if ld = ld then some (toL p) else none) = _
  rw [if_pos rfl]
/- in place -/
theorem x_ss (h : At ld σ n p) (g : At ld σ m q) (hl : lo ≤ n) (hm : m ≠ n) : O.einpl .BitXor σ lo (.ptr n) (.ptr m) = .ok (.av (.ptr n)) (σ.set n (some (.set ld (toL fun t => p t ^^ q t)))) := by
  rw [hO, ops_einpl]
  unfold s_xor
  have e : σ[n]? = some (some (.set ld (toL p))) := h
  dsimp only
  rw [e, at_deref g]
  dsimp only
  rw [if_pos ⟨rfl, rfl, hl⟩, if_neg (by simpa [isP] using hm), toL_sym]
theorem x_self (h : At ld σ n p) (hl : lo ≤ n) : O.einpl .BitXor σ lo (.ptr n) (.ptr n) = .ok (.av (.ptr n)) (σ.set n (some (.set ld (toL fun _ => false)))) := by
  rw [hO, ops_einpl]
  unfold s_xor
  have e : σ[n]? = some (some (.set ld (toL p))) := h
  dsimp only
  rw [e, at_deref h]
  dsimp only
  rw [if_pos ⟨rfl, rfl, hl⟩, if_pos (by simp [isP])]
  rfl
theorem x_one (h : At ld σ n p) {t : Nat} (ht : t < 32) (hl : lo ≤ n) : O.einpl .BitXor σ lo (.ptr n) (.set false ld [(t : Int)]) = .ok (.av (.ptr n)) (σ.set n (some (.set ld (toL fun k => p k ^^ (k == t))))) := by
  rw [hO, ops_einpl]
  unfold s_xor
  have e : σ[n]? = some (some (.set ld (toL p))) := h
  have ed : deref σ (.set false ld [(t : Int)]) = .set false ld [(t : Int)] := rfl
  dsimp only
  rw [e, ed]
  dsimp only
  rw [if_pos ⟨rfl, rfl, hl⟩, if_neg (by simp [isP]), toL_one ht, toL_sym]
theorem x_fz (g : At ld σ m q) : O.einpl .BitXor σ lo (.set true ld (toL p)) (.ptr m) = .ok (.av (.set true ld (toL fun t => p t ^^ q t))) σ := by
  rw [hO, ops_einpl]
  unfold s_xor
  rw [at_deref g]
  dsimp only
  rw [if_pos ⟨rfl, rfl⟩, toL_sym]
/-- what has no ^ with a set -/
noncomputable def Odd4 (a : AV) : Prop := (∃ xs, a = .lst xs) ∨ a = .none ∨ ∃ i, a = .int i
theorem x_te1 (h : At ld σ n p) {b : AV} (hb : Odd4 b) : O.einpl .BitXor σ lo (.ptr n) b = .exc .te σ := by
  rw [hO, ops_einpl]
  have e : σ[n]? = some (some (.set ld (toL p))) := h
  rcases hb with ⟨xs, rfl⟩ | rfl | ⟨i, rfl⟩ <;> (unfold s_xor; dsimp only; rw [e]; rfl)
theorem x_te2 (h : At ld σ n p) {b : AV} (hb : Odd4 b) : O.einpl .BitXor σ lo b (.ptr n) = .exc .te σ := by
  rw [hO, ops_einpl]
  rcases hb with ⟨xs, rfl⟩ | rfl | ⟨i, rfl⟩ <;> (unfold s_xor; dsimp only; rw [at_deref h])
/- words of ints -/
theorem g_pow (i : Nat) (h : i < 33) : O.bin .Pow (.int 2) (.int (i : Int)) = .ok (.int ((2 ^ i : Nat) : Int)) := by
  rw [o_bin hO]
  have h1 : ∀ i, i < 33 → Builtin.Int.intTooBig (((Builtin.Int.intBits 2 : Nat) : Int) * (i : Nat)) = false := by decide +kernel
  show intBin .Pow 2 i = _
  unfold intBin
  dsimp only
  rw [if_pos (by omega)]
  by_cases h0 : i = 0
  · subst h0; rfl
  · rw [if_neg (by simpa using h0), if_neg (by decide), if_neg (by decide), if_neg (by rw [h1 i h]; decide)]
    congr 2
theorem g_fdiv (a : Int) (i : Nat) (h : i < 33) : O.bin .FloorDiv (.int a) (.int ((2 ^ i : Nat) : Int)) = .ok (.int (a.fdiv ((2 ^ i : Nat) : Int))) := by
  rw [o_bin hO]
  show intBin .FloorDiv a ((2 ^ i : Nat) : Int) = _
  unfold intBin
  dsimp only
  have h0 : 0 < 2 ^ i := Nat.two_pow_pos i
  rw [if_neg (by
    rw [beq_iff_eq]
    intro e
    have : 2 ^ i = 0 := by exact_mod_cast e
    omega)]
  have hb : ∀ i, i < 33 → decide ((if (((2 ^ i : Nat) : Int) == 0) = true then 0 else ((2 ^ i : Nat) : Int).natAbs.log2 / 30 + 1) > 300) = false := by decide +kernel
  have : Builtin.divisionGoesByPylong a ((2 ^ i : Nat) : Int) = false := by
    unfold Builtin.divisionGoesByPylong
    dsimp only
    rw [hb i h, Bool.false_and]
  rw [this]; rfl
theorem g_mod (a : Int) : O.bin .Mod (.int a) (.int 2) = .ok (.int (a.fmod 2)) := by rw [o_bin hO]; rfl
theorem g_add (a b : Int) : O.bin .Add (.int a) (.int b) = .ok (.int (a + b)) := by rw [o_bin hO]; rfl
theorem g_sub (a b : Int) : O.bin .Sub (.int a) (.int b) = .ok (.int (a - b)) := by rw [o_bin hO]; rfl
theorem g_eq (a b : Int) : O.cmp .Eq (.int a) (.int b) = some (a == b) := by rw [o_cmp hO]; rfl
theorem g_ne (a b : Int) : O.cmp .NotEq (.int a) (.int b) = some (!(a == b)) := by rw [o_cmp hO]; rfl
theorem g_range (n : Int) : O.bcall .range [.int n] = .ok (.range 0 n 1) := by rw [o_bcall hO]; rfl
theorem t_bool (b : Bool) : O.truth (.bool b) = some b := by rw [o_truth hO]; rfl
theorem w_in {t : Nat} (ht : t < 32) : O.cmp .In (.int (t : Int)) (.set false ld (toL p)) = some (p t) := by
  rw [o_cmp hO]
  show some (decide ((t : Int) ∈ toL p)) = _
  have := nat_toL (p := p) ht
  cases hp : p t <;> simp [this, hp]
theorem w_seteq : O.cmp .NotEq (.set false ld (toL p)) (.set false ld (toL q)) = some (!decide (toL p = toL q)) := by rw [o_cmp hO]; rfl
theorem w_items (xs : List AV) : O.items (.lst xs) = some xs := by rw [o_items hO]; rfl
end
theorem bit_int (k i : Nat) : (((k : Int).fdiv ((2 ^ i : Nat) : Int)).fmod 2 == 1) = bitAt k i := by
  have h1 : (k : Int).fdiv ((2 ^ i : Nat) : Int) = ((k / 2 ^ i : Nat) : Int) := by
    rw [Int.fdiv_eq_ediv_of_nonneg _ (Int.natCast_nonneg _)]; rfl
  have h2 : ((k / 2 ^ i : Nat) : Int).fmod 2 = ((k / 2 ^ i % 2 : Nat) : Int) := by
    rw [Int.fmod_eq_emod_of_nonneg _ (by omega)]; rfl
  rw [h1, h2]
  unfold bitAt
  rw [Bool.eq_iff_iff, beq_iff_eq, beq_iff_eq]
  omega
theorem range_nats (n : Nat) (h : n ≤ 1000) : ∀ {O : OpsF} {ld : Bool}, O = ops ld → O.items (.range 0 (n : Int) 1) = some ((List.range n).map fun (i : Nat) => AV.int (i : Int)) := by
  intro O ld hO
  rw [o_items hO]
  exact range_items n (by omega)
end Mine
end
section
open PySem PySem.W PyProof.Rows
namespace Mine
set_option maxRecDepth 100000
set_option linter.unusedSimpArgs false
set_option linter.unusedSectionVars false
set_option linter.unusedVariables false
/-- ixor -/
structure XorC (O : OpsF) (cal : Cal) : Prop where
  ok : ∀ {σ σ' : Store} {lo : Nat} {a b r : AV}, O.einpl .BitXor σ lo a b = .ok (.av r) σ' → cal σ lo 0 [a, b] = .ok (.av r) σ'
  te : ∀ {σ σ' : Store} {lo : Nat} {a b : AV}, O.einpl .BitXor σ lo a b = .exc .te σ' → cal σ lo 0 [a, b] = .exc .te σ'
section
variable {O : OpsF} {ld : Bool} (hO : O = ops ld) {cal : Cal}
theorem xor_ok {σ σ' : Store} {lo : Nat} {a b r : AV} (h : O.einpl .BitXor σ lo a b = .ok (.av r) σ') : fnRes (pxs O cal true (st0 [a, b] 2 σ lo) ixor_p) = .ok (.av r) σ' := by
  unfold ixor_p
  show Ends (.ok (.av r) σ') _
  refine pk_eaug (a := a) (b := b) (v := r) (σ' := σ) (σ := σ) (σ₂ := σ') rfl (by rw [pe_name]; rfl) h ?_
  refine pk_ret (v := r) (σ := σ') ?_ rfl
  rw [pe_name]; rfl
theorem xor_te {σ σ' : Store} {lo : Nat} {a b : AV} (h : O.einpl .BitXor σ lo a b = .exc .te σ') : fnRes (pxs O cal true (st0 [a, b] 2 σ lo) ixor_p) = .exc .te σ' := by
  unfold ixor_p
  show Ends (.exc .te σ') _
  refine pk_cons ?_
  rw [qx_eaug]
  have e1 : slotV (st0 [a, b] 2 σ lo) 0 = .ok (.av a) σ := rfl
  have e2 : (pe O cal true (st0 [a, b] 2 σ lo) (.name 1)).v = .ok (.av b) σ := by rw [pe_name]; rfl
  rw [e1, e2]
  dsimp only
  show thenK _ _ _ _ _ (resS (O.einpl .BitXor σ lo a b) _ _)
  rw [h]
  rfl
/-- _law_refused -/
theorem refused_ok (hX : XorC O cal) {σ : Store} {lo : Nat} {a b : AV} (h : O.einpl .BitXor σ lo a b = .exc .te σ) : fnRes (pxs O cal true (st0 [a, b] 2 σ lo) law_refused_p) = .ok (.av (.bool true)) σ := by
  unfold law_refused_p
  show Ends (.ok (.av (.bool true)) σ) _
  refine pk_try ?_
  have e1 : pxs O cal true (st0 [a, b] 2 σ lo) (.cons (.expr (.call 0 (.cons (.name 0) (.cons (.name 1) .nil)))) .nil) = .exc .te (st0 [a, b] 2 σ lo) := by
    rw [qxs_cons, qx_expr, pe_call]
    have e : pes O cal true (st0 [a, b] 2 σ lo) (.cons (.name 0) (.cons (.name 1) .nil)) = some ([.av a, .av b], σ) := rfl
    rw [e]
    show (match resS (cal σ lo 0 [a, b]) _ _ with | .next st' => _ | r => r) = _
    rw [hX.te h]
    rfl
  rw [e1]
  dsimp only
  rw [qh_cons, if_pos rfl]
  rfl
include hO
theorem is_ptr (n m : Nat) : O.is_ (.ptr n) (.ptr m) = some (n == m) := by rw [o_is hO]; rfl
theorem is_ty (x y : String) : O.is_ (.type x) (.type y) = some (x == y) := by rw [o_is hO]; rfl
theorem xl_take {f : Nat → Bool} {l : List Nat} {j k : Nat} (h : l[j]? = some k) : xl (l.take (j + 1)) f = (xl (l.take j) f ^^ f k) := by
  rw [List.take_succ, h, Option.toList_some]
  unfold xl
  rw [List.foldl_append, List.foldl_cons, List.foldl_nil]
theorem xl_range (f : Nat → Bool) (i : Nat) : xl (List.range (i + 1)) f = (xl (List.range i) f ^^ f i) := by
  unfold xl
  rw [List.range_succ, List.foldl_append, List.foldl_cons, List.foldl_nil]
omit hO in
theorem xl_filter (p f : Nat → Bool) : ∀ l : List Nat, xl (l.filter p) f = xl l fun k => p k && f k
  | [] => rfl
  | k :: l => by
    rw [xl_cons, List.filter_cons]
    cases h : p k with
    | true => rw [if_pos rfl, xl_cons, xl_filter p f l, Bool.true_and]
    | false => rw [if_neg (by decide), xl_filter p f l, Bool.false_and, Bool.false_xor]
omit hO in
theorem cL_map (p : Ch) : cL p = ((List.range 32).filter p).map fun (n : Nat) => AV.int (n : Int) := by
  show List.map AV.int (toL p) = _
  unfold toL
  rw [List.map_map]; rfl
omit hO in
theorem set_last (σ : Store) (x y : Option MO) : (σ ++ [x]).set σ.length y = σ ++ [y] := by
  rw [List.set_append_right _ _ (Nat.le_refl _), Nat.sub_self]; rfl
/-- what _law_edge's inner loop adds -/
noncomputable def gI (k t i : Nat) : Bool := bitAt k i && (k - 2 ^ i == t)
noncomputable abbrev eS (n : Nat) (σ : Store) (lo : Nat) (p : Ch) (e3 e4 : Option Ent) (ld : Bool) : Fs := ⟨[some (.val (.ptr n)), some (.val (.ptr σ.length)), some (.val (.ptr σ.length)), e3, e4], σ ++ [some (MO.set ld (toL p))], lo, σ.length⟩
theorem edge_in (hX : XorC O cal) {σ : Store} {lo n k i : Nat} (hlo : lo ≤ σ.length) (hk : k < 32) (hi : i < 5) {B : Ch} {e4 : Option Ent} {K : FR → Prop} :
    loopK (fun st' => ∃ e4, st' = eS n σ lo (fun t => B t ^^ xl (List.range (i + 1)) (gI k t)) (some (.val (.int (k : Int)))) e4 ld) K (pxs O cal true ((eS n σ lo (fun t => B t ^^ xl (List.range i) (gI k t)) (some (.val (.int (k : Int)))) e4 ld).set 4 (.val (.int (i : Int)))) law_edge_b2) := by
  unfold law_edge_b2
  dsimp only [Fs.at, Fs.set, List.set_cons_zero, List.set_cons_succ]
  have tb := t_bool (O := O) hO
  have b1 := g_pow hO i (by omega)
  have b2 := g_fdiv hO (k : Int) i (by omega)
  have b3 := g_mod hO ((k : Int).fdiv ((2 ^ i : Nat) : Int))
  have b4 := g_eq hO (((k : Int).fdiv ((2 ^ i : Nat) : Int)).fmod 2) 1
  rw [bit_int] at b4
  refine pk_if (c := bitAt k i) (σ := σ ++ [some (MO.set ld (toL fun t => B t ^^ xl (List.range i) (gI k t)))]) ?_ ?_
  · simp only [pe_const, pe_name, slotV, pe_glob, pe_bin, pe_not, pe_neg, pe_is, pe_isnot, pe_eq, pe_ne, pe_lt, pe_le, pe_gt, pe_ge, pe_in, pe_notin, pe_bop, pe_list, pe_tup, pe_sub, pe_slice, pe_call, pe_bcall, pe_setd, pe_ecall, pes_nil', pes_cons, pr_v, pr_t, bind_ok, bindA_ok, truth_ok, ofB_some, ofRes_ok, ofRes_exc, onL_some, onP_some, plains_nil, plains_cons, pall_and_nil, pall_or_nil, pall_and_cons, pall_or_cons, pbop_one, pbop_and, pbop_or, Option.map_some, List.map_cons, List.map_nil, List.getElem?_cons_zero, List.getElem?_cons_succ, dS_av, dr_none, dr_bool, dr_int, dr_str, dr_type, dr_range, dr_tup, dr_lst, dr_set, List.length_cons, List.length_nil, Bool.not_true, Bool.not_false, Nat.reduceAdd, Nat.reduceLeDiff, if_true, b1, b2, b3, b4, tb]
  cases hb : bitAt k i with
  | false =>
    rw [if_neg (by decide)]
    have e : toL (fun t => B t ^^ xl (List.range (i + 1)) (gI k t)) = toL fun t => B t ^^ xl (List.range i) (gI k t) := toL_congr fun t _ => by
      rw [xl_range hO]
      simp [gI, hb]
    rw [qxs_nil, thenK_next]
    refine pk_nil ⟨some (.val (.int (i : Int))), ?_⟩
    show Fs.mk _ _ _ _ = Fs.mk _ _ _ _
    rw [e]
  | true =>
    rw [if_pos rfl]
    have hp : 2 ^ i ≤ k := by
      have h1 : k / 2 ^ i % 2 = 1 := by simpa [bitAt] using hb
      rcases Nat.lt_or_ge k (2 ^ i) with h | h
      · rw [Nat.div_eq_of_lt h] at h1; omega
      · exact h
    have b5 := g_sub hO (k : Int) ((2 ^ i : Nat) : Int)
    rw [show (k : Int) - ((2 ^ i : Nat) : Int) = ((k - 2 ^ i : Nat) : Int) by omega] at b5
    have hr : 0 ≤ ((k - 2 ^ i : Nat) : Int) ∧ ((k - 2 ^ i : Nat) : Int) < 32 := ⟨Int.natCast_nonneg _, Int.ofNat_lt.mpr (Nat.lt_of_le_of_lt (Nat.sub_le ..) hk)⟩
    have A0 := At.put ld σ fun t => B t ^^ xl (List.range i) (gI k t)
    have x1 := hX.ok (x_one hO (lo := lo) A0 (t := k - 2 ^ i) (Nat.lt_of_le_of_lt (Nat.sub_le ..) hk) hlo)
    rw [set_last] at x1
    have e : toL (fun t => (B t ^^ xl (List.range i) (gI k t)) ^^ (t == k - 2 ^ i)) = toL fun t => B t ^^ xl (List.range (i + 1)) (gI k t) := toL_congr fun t _ => by
      rw [xl_range hO, ← Bool.xor_assoc]
      congr 1
      unfold gI
      rw [hb, Bool.true_and, Bool.eq_iff_iff, beq_iff_eq, beq_iff_eq]
      exact eq_comm
    rw [e] at x1
    have hld : O.ld = ld := by rw [hO]; rfl
    have body : ∀ K' : FR → Prop, (∀ st', st' = eS n σ lo (fun t => B t ^^ xl (List.range (i + 1)) (gI k t)) (some (.val (.int (k : Int)))) (some (.val (.int (i : Int)))) ld → K' (.next st')) → K' (pxs O cal true ⟨[some (.val (.ptr n)), some (.val (.ptr σ.length)), some (.val (.ptr σ.length)), some (.val (.int (k : Int))), some (.val (.int (i : Int)))], σ ++ [some (MO.set ld (toL fun t => B t ^^ xl (List.range i) (gI k t)))], lo, σ.length⟩
      (.cons (.assign 2 (.call 0 (.cons (.name 2) (.cons (.setd (.bin .Sub (.name 3) (.bin .Pow (.const (.int 2)) (.name 4)))) .nil)))) (.cons (.ite (.cmp .IsNot (.name 2) (.name 1)) (.cons (.ret (.const .none)) .nil) .nil) .nil))) := by
      intro K' hK'
      refine pk_assign (v := .ptr σ.length) (σ := σ ++ [some (MO.set ld (toL fun t => B t ^^ xl (List.range (i + 1)) (gI k t)))]) ?_ ?_
      · simp only [pe_const, pe_name, slotV, pe_glob, pe_bin, pe_not, pe_neg, pe_is, pe_isnot, pe_eq, pe_ne, pe_lt, pe_le, pe_gt, pe_ge, pe_in, pe_notin, pe_bop, pe_list, pe_tup, pe_sub, pe_slice, pe_call, pe_bcall, pe_setd, pe_ecall, pes_nil', pes_cons, pr_v, pr_t, bind_ok, bindA_ok, truth_ok, ofB_some, ofRes_ok, ofRes_exc, onL_some, onP_some, plains_nil, plains_cons, pall_and_nil, pall_or_nil, pall_and_cons, pall_or_cons, pbop_one, pbop_and, pbop_or, Option.map_some, List.map_cons, List.map_nil, List.getElem?_cons_zero, List.getElem?_cons_succ, dS_av, dr_none, dr_bool, dr_int, dr_str, dr_type, dr_range, dr_tup, dr_lst, dr_set, List.length_cons, List.length_nil, Bool.not_true, Bool.not_false, Nat.reduceAdd, Nat.reduceLeDiff, if_true, b1, b5, hr, and_self, hld, x1]
      dsimp only [Fs.at, Fs.set, List.set_cons_zero, List.set_cons_succ]
      refine pk_skip (σ := σ ++ [some (MO.set ld (toL fun t => B t ^^ xl (List.range (i + 1)) (gI k t)))]) ?_ (pk_nil (hK' _ rfl))
      simp only [pe_const, pe_name, slotV, pe_glob, pe_bin, pe_not, pe_neg, pe_is, pe_isnot, pe_eq, pe_ne, pe_lt, pe_le, pe_gt, pe_ge, pe_in, pe_notin, pe_bop, pe_list, pe_tup, pe_sub, pe_slice, pe_call, pe_bcall, pe_setd, pe_ecall, pes_nil', pes_cons, pr_v, pr_t, bind_ok, bindA_ok, truth_ok, ofB_some, ofRes_ok, ofRes_exc, onL_some, onP_some, plains_nil, plains_cons, pall_and_nil, pall_or_nil, pall_and_cons, pall_or_cons, pbop_one, pbop_and, pbop_or, Option.map_some, List.map_cons, List.map_nil, List.getElem?_cons_zero, List.getElem?_cons_succ, dS_av, dr_none, dr_bool, dr_int, dr_str, dr_type, dr_range, dr_tup, dr_lst, dr_set, List.length_cons, List.length_nil, Bool.not_true, Bool.not_false, Nat.reduceAdd, Nat.reduceLeDiff, if_true, is_ptr hO, beq_self_eq_true, tb]
    refine body _ fun st' hst => ?_
    rw [thenK_next, hst]
    exact pk_nil ⟨_, rfl⟩
theorem edge_out (hX : XorC O cal) {σ : Store} {lo n : Nat} (hlo : lo ≤ σ.length) {p : Ch} {j : Nat} {k : Nat} (hj : ((List.range 32).filter p)[j]? = some k) {e3 e4 : Option Ent} {K : FR → Prop} :
    loopK (fun st' => ∃ e3 e4, st' = eS n σ lo (fun t => xl (((List.range 32).filter p).take (j + 1)) fun k => eM k t) e3 e4 ld) K (pxs O cal true ((eS n σ lo (fun t => xl (((List.range 32).filter p).take j) fun k => eM k t) e3 e4 ld).set 3 (.val (.int (k : Int)))) law_edge_b1) := by
  have hk : k < 32 := by
    have := List.mem_of_getElem? hj
    exact List.mem_range.mp (List.mem_filter.mp this).1
  unfold law_edge_b1
  dsimp only [Fs.at, Fs.set, List.set_cons_zero, List.set_cons_succ]
  refine pk_for (v := .range 0 (5 : Nat) 1) (σ := σ ++ [some (MO.set ld (toL fun t => xl (((List.range 32).filter p).take j) fun k => eM k t))])
    (fun i st' => ∃ e4, st' = eS n σ lo (fun t => (xl (((List.range 32).filter p).take j) fun k => eM k t) ^^ xl (List.range i) (gI k t)) (some (.val (.int (k : Int)))) e4 ld) ?_ (range_nats 5 (by omega) hO) ⟨e4, ?_⟩ ?_ ?_
  · simp only [pe_const, pe_name, slotV, pe_glob, pe_bin, pe_not, pe_neg, pe_is, pe_isnot, pe_eq, pe_ne, pe_lt, pe_le, pe_gt, pe_ge, pe_in, pe_notin, pe_bop, pe_list, pe_tup, pe_sub, pe_slice, pe_call, pe_bcall, pe_setd, pe_ecall, pes_nil', pes_cons, pr_v, pr_t, bind_ok, bindA_ok, truth_ok, ofB_some, ofRes_ok, ofRes_exc, onL_some, onP_some, plains_nil, plains_cons, pall_and_nil, pall_or_nil, pall_and_cons, pall_or_cons, pbop_one, pbop_and, pbop_or, Option.map_some, List.map_cons, List.map_nil, List.getElem?_cons_zero, List.getElem?_cons_succ, dS_av, dr_none, dr_bool, dr_int, dr_str, dr_type, dr_range, dr_tup, dr_lst, dr_set, List.length_cons, List.length_nil, Bool.not_true, Bool.not_false, Nat.reduceAdd, Nat.reduceLeDiff, if_true, g_range hO]
    rfl
  · have e : toL (fun t => xl (((List.range 32).filter p).take j) fun k => eM k t) = toL fun t => (xl (((List.range 32).filter p).take j) fun k => eM k t) ^^ xl (List.range 0) (gI k t) := toL_congr fun t _ => (Bool.xor_false _).symm
    show Fs.mk _ _ _ _ = Fs.mk _ _ _ _
    rw [e]
  · rintro i x st' hx ⟨e4', rfl⟩
    obtain ⟨hi, rfl⟩ := range_get hx
    exact edge_in hO hX hlo hk hi
  · rintro st' ⟨e4', rfl⟩
    refine pk_nil ⟨some (.val (.int (k : Int))), e4', ?_⟩
    have e : toL (fun t => (xl (((List.range 32).filter p).take j) fun k => eM k t) ^^ xl (List.range ((List.range 5).map fun (i : Nat) => AV.int (i : Int)).length) (gI k t)) = toL fun t => xl (((List.range 32).filter p).take (j + 1)) fun k => eM k t := toL_congr fun t _ => by
      rw [xl_take hO hj]; rfl
    show Fs.mk _ _ _ _ = Fs.mk _ _ _ _
    rw [e]
/-- _law_edge -/
theorem edge_ok (hX : XorC O cal) {σ : Store} {lo n : Nat} {p : Ch} (h : At ld σ n p) (hlo : lo ≤ σ.length) : fnRes (pxs O cal true (st0 [.ptr n] 5 σ lo) law_edge_p) = .ok (.av (.ptr σ.length)) (σ ++ [some (MO.set ld (toL (De p)))]) := by
  unfold law_edge_p
  show Ends _ (pxs O cal true ⟨[some (.val (.ptr n)), none, none, none, none], σ, lo, σ.length⟩ _)
  refine pk_assign (v := .ptr σ.length) (σ := σ ++ [some (MO.set ld (toL fun _ => false))]) ?_ ?_
  · simp only [pe_const, pe_name, slotV, pe_glob, pe_bin, pe_not, pe_neg, pe_is, pe_isnot, pe_eq, pe_ne, pe_lt, pe_le, pe_gt, pe_ge, pe_in, pe_notin, pe_bop, pe_list, pe_tup, pe_sub, pe_slice, pe_call, pe_bcall, pe_setd, pe_ecall, pes_nil', pes_cons, pr_v, pr_t, bind_ok, bindA_ok, truth_ok, ofB_some, ofRes_ok, ofRes_exc, onL_some, onP_some, plains_nil, plains_cons, pall_and_nil, pall_or_nil, pall_and_cons, pall_or_cons, pbop_one, pbop_and, pbop_or, Option.map_some, List.map_cons, List.map_nil, List.getElem?_cons_zero, List.getElem?_cons_succ, dS_av, dr_none, dr_bool, dr_int, dr_str, dr_type, dr_range, dr_tup, dr_lst, dr_set, List.length_cons, List.length_nil, Bool.not_true, Bool.not_false, Nat.reduceAdd, Nat.reduceLeDiff, if_true, w_new hO]
  dsimp only [Fs.at, Fs.set, List.set_cons_zero, List.set_cons_succ]
  refine pk_assign (v := .ptr σ.length) (σ := σ ++ [some (MO.set ld (toL fun _ => false))]) ?_ ?_
  · simp only [pe_const, pe_name, slotV, pe_glob, pe_bin, pe_not, pe_neg, pe_is, pe_isnot, pe_eq, pe_ne, pe_lt, pe_le, pe_gt, pe_ge, pe_in, pe_notin, pe_bop, pe_list, pe_tup, pe_sub, pe_slice, pe_call, pe_bcall, pe_setd, pe_ecall, pes_nil', pes_cons, pr_v, pr_t, bind_ok, bindA_ok, truth_ok, ofB_some, ofRes_ok, ofRes_exc, onL_some, onP_some, plains_nil, plains_cons, pall_and_nil, pall_or_nil, pall_and_cons, pall_or_cons, pbop_one, pbop_and, pbop_or, Option.map_some, List.map_cons, List.map_nil, List.getElem?_cons_zero, List.getElem?_cons_succ, dS_av, dr_none, dr_bool, dr_int, dr_str, dr_type, dr_range, dr_tup, dr_lst, dr_set, List.length_cons, List.length_nil, Bool.not_true, Bool.not_false, Nat.reduceAdd, Nat.reduceLeDiff, if_true]
  dsimp only [Fs.at, Fs.set, List.set_cons_zero, List.set_cons_succ]
  have ws := w_sorted hO (lo := lo) (h.app [some (MO.set ld (toL fun _ => false))])
  refine pk_for (v := .lst (cL p)) (σ := σ ++ [some (MO.set ld (toL fun _ => false))]) (fun j st' => ∃ e3 e4, st' = eS n σ lo (fun t => xl (((List.range 32).filter p).take j) fun k => eM k t) e3 e4 ld) ?_ (w_items hO _) ⟨none, none, rfl⟩ ?_ ?_
  · simp only [pe_const, pe_name, slotV, pe_glob, pe_bin, pe_not, pe_neg, pe_is, pe_isnot, pe_eq, pe_ne, pe_lt, pe_le, pe_gt, pe_ge, pe_in, pe_notin, pe_bop, pe_list, pe_tup, pe_sub, pe_slice, pe_call, pe_bcall, pe_setd, pe_ecall, pes_nil', pes_cons, pr_v, pr_t, bind_ok, bindA_ok, truth_ok, ofB_some, ofRes_ok, ofRes_exc, onL_some, onP_some, plains_nil, plains_cons, pall_and_nil, pall_or_nil, pall_and_cons, pall_or_cons, pbop_one, pbop_and, pbop_or, Option.map_some, List.map_cons, List.map_nil, List.getElem?_cons_zero, List.getElem?_cons_succ, dS_av, dr_none, dr_bool, dr_int, dr_str, dr_type, dr_range, dr_tup, dr_lst, dr_set, List.length_cons, List.length_nil, Bool.not_true, Bool.not_false, Nat.reduceAdd, Nat.reduceLeDiff, if_true, ws]
  · rintro j x st' hx ⟨e3, e4, rfl⟩
    rw [cL_map, List.getElem?_map] at hx
    cases hk : ((List.range 32).filter p)[j]? with
    | none => rw [hk] at hx; cases hx
    | some k =>
      rw [hk] at hx
      cases hx
      exact edge_out hO hX hlo hk
  · rintro st' ⟨e3, e4, rfl⟩
    refine pk_ret (v := .ptr σ.length) (σ := σ ++ [some (MO.set ld (toL fun t => xl (((List.range 32).filter p).take (cL p).length) fun k => eM k t))]) ?_ ?_
    · simp only [pe_const, pe_name, slotV, pe_glob, pe_bin, pe_not, pe_neg, pe_is, pe_isnot, pe_eq, pe_ne, pe_lt, pe_le, pe_gt, pe_ge, pe_in, pe_notin, pe_bop, pe_list, pe_tup, pe_sub, pe_slice, pe_call, pe_bcall, pe_setd, pe_ecall, pes_nil', pes_cons, pr_v, pr_t, bind_ok, bindA_ok, truth_ok, ofB_some, ofRes_ok, ofRes_exc, onL_some, onP_some, plains_nil, plains_cons, pall_and_nil, pall_or_nil, pall_and_cons, pall_or_cons, pbop_one, pbop_and, pbop_or, Option.map_some, List.map_cons, List.map_nil, List.getElem?_cons_zero, List.getElem?_cons_succ, dS_av, dr_none, dr_bool, dr_int, dr_str, dr_type, dr_range, dr_tup, dr_lst, dr_set, List.length_cons, List.length_nil, Bool.not_true, Bool.not_false, Nat.reduceAdd, Nat.reduceLeDiff, if_true]
    have e : toL (fun t => xl (((List.range 32).filter p).take (cL p).length) fun k => eM k t) = toL (De p) := toL_congr fun t _ => by
      rw [cL_map, List.length_map, List.take_length, xl_filter]; rfl
    show ER.ok _ _ = ER.ok _ _
    rw [e]
end
end Mine
end
section
open PySem PySem.W PyProof.Rows
namespace Mine
set_option maxRecDepth 100000
set_option linter.unusedSimpArgs false
set_option linter.unusedSectionVars false
set_option linter.unusedVariables false
theorem bit_int0 (k i : Nat) : (((k : Int).fdiv ((2 ^ i : Nat) : Int)).fmod 2 == 0) = !bitAt k i := by
  have h1 : (k : Int).fdiv ((2 ^ i : Nat) : Int) = ((k / 2 ^ i : Nat) : Int) := by
    rw [Int.fdiv_eq_ediv_of_nonneg _ (Int.natCast_nonneg _)]; rfl
  have h2 : ((k / 2 ^ i : Nat) : Int).fmod 2 = ((k / 2 ^ i % 2 : Nat) : Int) := by
    rw [Int.fmod_eq_emod_of_nonneg _ (by omega)]; rfl
  rw [h1, h2]
  unfold bitAt
  rcases Nat.mod_two_eq_zero_or_one (k / 2 ^ i) with e | e <;> rw [e] <;> rfl
noncomputable abbrev nL (l : List Nat) : List AV := l.map fun (n : Nat) => AV.int (n : Int)
section
variable {O : OpsF} {ld : Bool} (hO : O = ops ld) {cal : Cal} {σ : Store} {lo n0 : Nat} {e0 e1 e2 e3 : Option Ent}
include hO
theorem c_more {t : Nat} (ht : t < 32) : (pe O cal true ⟨[e0, e1, some (.val (.int (t : Int))), e3], σ, lo, n0⟩ (.comp [2] (.bin .Add (.name 2) (.bin .Pow (.const (.int 2)) (.name 4))) (.bcall .range (.cons (.const (.int 5)) .nil)) (.cons (.cmp .Eq (.bin .Mod (.bin .FloorDiv (.name 2) (.bin .Pow (.const (.int 2)) (.name 4))) (.const (.int 2))) (.const (.int 0))) .nil))).v = .ok (.av (.lst (nL (more t)))) σ := by
  rw [pe_comp (a := .av (.range 0 (5 : Nat) 1)) (σ₁ := σ) (l := (List.range 5).map fun (i : Nat) => AV.int (i : Int)) (ys := nL (more t))]
  · rfl
  · simp only [pe_const, pe_name, slotV, pe_glob, pe_bin, pe_not, pe_neg, pe_is, pe_isnot, pe_eq, pe_ne, pe_lt, pe_le, pe_gt, pe_ge, pe_in, pe_notin, pe_bop, pe_list, pe_tup, pe_sub, pe_slice, pe_call, pe_bcall, pe_setd, pe_ecall, pes_nil', pes_cons, pr_v, pr_t, bind_ok, bindA_ok, truth_ok, ofB_some, ofRes_ok, ofRes_exc, onL_some, onP_some, plains_nil, plains_cons, pall_and_nil, pall_or_nil, pall_and_cons, pall_or_cons, pbop_one, pbop_and, pbop_or, Option.map_some, List.map_cons, List.map_nil, List.getElem?_cons_zero, List.getElem?_cons_succ, dS_av, dr_none, dr_bool, dr_int, dr_str, dr_type, dr_range, dr_tup, dr_lst, dr_set, List.length_cons, List.length_nil, Bool.not_true, Bool.not_false, Nat.reduceAdd, Nat.reduceLeDiff, if_true, g_range hO]
    rfl
  · exact range_nats 5 (by omega) hO
  · have em : nL (more t) = ((List.range 5).filter fun i => !bitAt t i).map fun i => AV.int ((t + 2 ^ i : Nat) : Int) := by
      unfold nL more
      rw [List.map_map]; rfl
    rw [em]
    refine mapF_filter fun i hi => ?_
    have hi5 := List.mem_range.mp hi
    have hin : Fs.inner (Fs.at ⟨[e0, e1, some (.val (.int (t : Int))), e3], σ, lo, n0⟩ σ) [2] (.int (i : Int)) = ⟨[none, none, some (.val (.int (t : Int))), none, some (.val (.int (i : Int)))], σ, σ.length, n0⟩ := rfl
    rw [hin]
    have b1 := g_pow hO i (by omega)
    have b2 := g_fdiv hO (t : Int) i (by omega)
    have b3 := g_mod hO ((t : Int).fdiv ((2 ^ i : Nat) : Int))
    have b4 := g_eq hO (((t : Int).fdiv ((2 ^ i : Nat) : Int)).fmod 2) 0
    rw [bit_int0] at b4
    have b5 := g_add hO (t : Int) ((2 ^ i : Nat) : Int)
    have tb := t_bool (O := O) hO
    have hc : pall O cal true ⟨[none, none, some (.val (.int (t : Int))), none, some (.val (.int (i : Int)))], σ, σ.length, n0⟩ .And (.cons (.cmp .Eq (.bin .Mod (.bin .FloorDiv (.name 2) (.bin .Pow (.const (.int 2)) (.name 4))) (.const (.int 2))) (.const (.int 0))) .nil) = some (!bitAt t i, σ) := by
      rw [pall_and_cons]
      simp only [pe_const, pe_name, slotV, pe_glob, pe_bin, pe_not, pe_neg, pe_is, pe_isnot, pe_eq, pe_ne, pe_lt, pe_le, pe_gt, pe_ge, pe_in, pe_notin, pe_bop, pe_list, pe_tup, pe_sub, pe_slice, pe_call, pe_bcall, pe_setd, pe_ecall, pes_nil', pes_cons, pr_v, pr_t, bind_ok, bindA_ok, truth_ok, ofB_some, ofRes_ok, ofRes_exc, onL_some, onP_some, plains_nil, plains_cons, pall_and_nil, pall_or_nil, pall_and_cons, pall_or_cons, pbop_one, pbop_and, pbop_or, Option.map_some, List.map_cons, List.map_nil, List.getElem?_cons_zero, List.getElem?_cons_succ, dS_av, dr_none, dr_bool, dr_int, dr_str, dr_type, dr_range, dr_tup, dr_lst, dr_set, List.length_cons, List.length_nil, Bool.not_true, Bool.not_false, Nat.reduceAdd, Nat.reduceLeDiff, if_true, b1, b2, b3, b4, tb]
      cases bitAt t i <;> simp only [Bool.not_true, Bool.not_false, pall_and_nil]
    rw [hc]
    cases bitAt t i with
    | true => rfl
    | false =>
      rw [Bool.not_false, if_pos rfl]
      refine compF_t (v := .int ((t + 2 ^ i : Nat) : Int)) (σ' := σ) ?_ rfl
      simp only [pe_const, pe_name, slotV, pe_glob, pe_bin, pe_not, pe_neg, pe_is, pe_isnot, pe_eq, pe_ne, pe_lt, pe_le, pe_gt, pe_ge, pe_in, pe_notin, pe_bop, pe_list, pe_tup, pe_sub, pe_slice, pe_call, pe_bcall, pe_setd, pe_ecall, pes_nil', pes_cons, pr_v, pr_t, bind_ok, bindA_ok, truth_ok, ofB_some, ofRes_ok, ofRes_exc, onL_some, onP_some, plains_nil, plains_cons, pall_and_nil, pall_or_nil, pall_and_cons, pall_or_cons, pbop_one, pbop_and, pbop_or, Option.map_some, List.map_cons, List.map_nil, List.getElem?_cons_zero, List.getElem?_cons_succ, dS_av, dr_none, dr_bool, dr_int, dr_str, dr_type, dr_range, dr_tup, dr_lst, dr_set, List.length_cons, List.length_nil, Bool.not_true, Bool.not_false, Nat.reduceAdd, Nat.reduceLeDiff, if_true, b1, b5]
      rfl
theorem c_have {n : Nat} {p : Ch} (h : At ld σ n p) {l : List Nat} (hl : ∀ k ∈ l, k < 32) : (pe O cal true ⟨[some (.val (.ptr n)), e1, e2, some (.val (.lst (nL l)))], σ, lo, n0⟩ (.comp [0] (.name 4) (.name 3) (.cons (.cmp .In (.name 4) (.name 0)) .nil))).v = .ok (.av (.lst (nL (l.filter p)))) σ := by
  rw [pe_comp (a := .av (.lst (nL l))) (σ₁ := σ) (l := nL l) (ys := nL (l.filter p))]
  · rfl
  · rfl
  · exact w_items hO _
  · refine mapF_filter fun i hi => ?_
    have hin : Fs.inner (Fs.at ⟨[some (.val (.ptr n)), e1, e2, some (.val (.lst (nL l)))], σ, lo, n0⟩ σ) [0] (.int (i : Int)) = ⟨[some (.val (.ptr n)), none, none, none, some (.val (.int (i : Int)))], σ, σ.length, n0⟩ := rfl
    rw [hin]
    have b1 := w_in hO (p := p) (hl i hi)
    have dd := at_deref h
    have tb := t_bool (O := O) hO
    have hc : pall O cal true ⟨[some (.val (.ptr n)), none, none, none, some (.val (.int (i : Int)))], σ, σ.length, n0⟩ .And (.cons (.cmp .In (.name 4) (.name 0)) .nil) = some (p i, σ) := by
      rw [pall_and_cons]
      simp only [pe_const, pe_name, slotV, pe_glob, pe_bin, pe_not, pe_neg, pe_is, pe_isnot, pe_eq, pe_ne, pe_lt, pe_le, pe_gt, pe_ge, pe_in, pe_notin, pe_bop, pe_list, pe_tup, pe_sub, pe_slice, pe_call, pe_bcall, pe_setd, pe_ecall, pes_nil', pes_cons, pr_v, pr_t, bind_ok, bindA_ok, truth_ok, ofB_some, ofRes_ok, ofRes_exc, onL_some, onP_some, plains_nil, plains_cons, pall_and_nil, pall_or_nil, pall_and_cons, pall_or_cons, pbop_one, pbop_and, pbop_or, Option.map_some, List.map_cons, List.map_nil, List.getElem?_cons_zero, List.getElem?_cons_succ, dS_av, dr_none, dr_bool, dr_int, dr_str, dr_type, dr_range, dr_tup, dr_lst, dr_set, List.length_cons, List.length_nil, Bool.not_true, Bool.not_false, Nat.reduceAdd, Nat.reduceLeDiff, if_true, dd, b1, tb]
      cases p i <;> simp only [pall_and_nil]
    rw [hc]
    cases p i with
    | false => rfl
    | true => exact compF_t (v := .int (i : Int)) (σ' := σ) rfl rfl
noncomputable abbrev cS (n : Nat) (l : List Nat) (e2 e3 : Option Ent) (σ : Store) (lo n0 : Nat) : Fs := ⟨[some (.val (.ptr n)), some (.own (nL l)), e2, e3], σ, lo, n0⟩
theorem cnt_turn {n : Nat} {p : Ch} (h : At ld σ n p) {t : Nat} (ht : t < 32) {l : List Nat} (hl : l.length ≤ 32) {K : FR → Prop} :
    loopK (fun st' => ∃ e2 e3, st' = cS n (if De p t = true then l ++ [t] else l) e2 e3 σ lo n0) K (pxs O cal true ((cS n l e2 e3 σ lo n0).set 2 (.val (.int (t : Int)))) law_counted_b1) := by
  unfold law_counted_b1
  dsimp only [Fs.at, Fs.set, List.set_cons_zero, List.set_cons_succ]
  refine pk_assign (c_more hO ht) ?_
  dsimp only [Fs.at, Fs.set, List.set_cons_zero, List.set_cons_succ]
  have hc := c_have hO (cal := cal) (lo := lo) (n0 := n0) (e1 := some (.own (nL l))) (e2 := some (.val (.int (t : Int)))) h (more_is t ht).2.2
  have b0 : O.bcall .len [.lst (nL ((more t).filter p))] = .ok (.int (((more t).filter p).length : Nat)) := by
    rw [o_bcall hO]
    show Res.ok (.int ((nL ((more t).filter p)).length : Nat)) = _
    rw [List.length_map]
  have b3 := g_mod hO ((((more t).filter p).length : Nat) : Int)
  have b4 := g_eq hO (((((more t).filter p).length : Nat) : Int).fmod 2) 1
  have e4 : (((((more t).filter p).length : Nat) : Int).fmod 2 == 1) = De p t := by
    rw [← counted_ok p ht, Int.fmod_eq_emod_of_nonneg _ (by omega), Bool.eq_iff_iff, beq_iff_eq, beq_iff_eq]
    omega
  rw [e4] at b4
  have tb := t_bool (O := O) hO
  refine pk_if (c := De p t) (σ := σ) ?_ ?_
  · simp only [pe_const, pe_name, slotV, pe_glob, pe_bin, pe_not, pe_neg, pe_is, pe_isnot, pe_eq, pe_ne, pe_lt, pe_le, pe_gt, pe_ge, pe_in, pe_notin, pe_bop, pe_list, pe_tup, pe_sub, pe_slice, pe_call, pe_bcall, pe_setd, pe_ecall, pes_nil', pes_cons, pr_v, pr_t, bind_ok, bindA_ok, truth_ok, ofB_some, ofRes_ok, ofRes_exc, onL_some, onP_some, plains_nil, plains_cons, pall_and_nil, pall_or_nil, pall_and_cons, pall_or_cons, pbop_one, pbop_and, pbop_or, Option.map_some, List.map_cons, List.map_nil, List.getElem?_cons_zero, List.getElem?_cons_succ, dS_av, dr_none, dr_bool, dr_int, dr_str, dr_type, dr_range, dr_tup, dr_lst, dr_set, List.length_cons, List.length_nil, Bool.not_true, Bool.not_false, Nat.reduceAdd, Nat.reduceLeDiff, if_true, hc, b0, b3, b4, tb]
  cases De p t with
  | false =>
    rw [if_neg (by decide), if_neg (by decide), qxs_nil, thenK_next]
    exact pk_nil ⟨_, _, rfl⟩
  | true =>
    rw [if_pos rfl, if_pos rfl]
    have ho : O.ometh .append (nL l) [.int (t : Int)] = some (nL (l ++ [t])) := by
      rw [o_ometh hO]
      show (if (nL l).length < 1000000 then some (nL l ++ [.int (t : Int)]) else none) = _
      rw [if_pos (by rw [List.length_map]; omega)]
      unfold nL
      rw [List.map_append]; rfl
    refine pk_ometh (K := thenK O cal true .nil _) (σ := σ) (xs := nL l) (xs' := nL (l ++ [t])) (ol := [.av (.int (t : Int))]) (l := [.int (t : Int)]) rfl rfl rfl ho ?_
    rw [qxs_nil, thenK_next]
    exact pk_nil ⟨_, _, rfl⟩
/-- _law_counted -/
theorem count_ok4 {n : Nat} {p : Ch} (h : At ld σ n p) : fnRes (pxs O cal true (st0 [.ptr n] 4 σ lo) law_counted_p) = .ok (.av (.lst (cL (De p)))) σ := by
  unfold law_counted_p
  show Ends _ (pxs O cal true ⟨[some (.val (.ptr n)), none, none, none], σ, lo, σ.length⟩ _)
  refine pk_own (ol := []) (ys := []) (σ := σ) rfl rfl (by decide) ?_
  dsimp only [Fs.at, Fs.set, List.set_cons_zero, List.set_cons_succ]
  have filt : ∀ j, (List.range (j + 1)).filter (De p) = if De p j = true then (List.range j).filter (De p) ++ [j] else (List.range j).filter (De p) := fun j => by
    rw [List.range_succ, List.filter_append]
    cases hj : De p j <;> simp [hj]
  refine pk_for (v := .range 0 (32 : Nat) 1) (σ := σ) (fun j st' => ∃ e2 e3, st' = cS n ((List.range j).filter (De p)) e2 e3 σ lo σ.length) ?_ (range_nats 32 (by omega) hO) ⟨none, none, rfl⟩ ?_ ?_
  · simp only [pe_const, pe_name, slotV, pe_glob, pe_bin, pe_not, pe_neg, pe_is, pe_isnot, pe_eq, pe_ne, pe_lt, pe_le, pe_gt, pe_ge, pe_in, pe_notin, pe_bop, pe_list, pe_tup, pe_sub, pe_slice, pe_call, pe_bcall, pe_setd, pe_ecall, pes_nil', pes_cons, pr_v, pr_t, bind_ok, bindA_ok, truth_ok, ofB_some, ofRes_ok, ofRes_exc, onL_some, onP_some, plains_nil, plains_cons, pall_and_nil, pall_or_nil, pall_and_cons, pall_or_cons, pbop_one, pbop_and, pbop_or, Option.map_some, List.map_cons, List.map_nil, List.getElem?_cons_zero, List.getElem?_cons_succ, dS_av, dr_none, dr_bool, dr_int, dr_str, dr_type, dr_range, dr_tup, dr_lst, dr_set, List.length_cons, List.length_nil, Bool.not_true, Bool.not_false, Nat.reduceAdd, Nat.reduceLeDiff, if_true, g_range hO]
    rfl
  · rintro j x st' hx ⟨e2, e3, rfl⟩
    obtain ⟨hj, rfl⟩ := range_get hx
    rw [filt j]
    exact cnt_turn hO h hj (by have := List.length_filter_le (De p) (List.range j); rw [List.length_range] at this; omega)
  · rintro st' ⟨e2, e3, rfl⟩
    refine pk_retOwn (xs := nL ((List.range ((List.range 32).map fun (i : Nat) => AV.int (i : Int)).length).filter (De p))) rfl ?_
    show ER.ok _ _ = ER.ok _ _
    rw [List.length_map, List.length_range, cL_map]
/-- _law_cone -/
theorem cone_ok4 {n : Nat} {p : Ch} (h : At ld σ n p) : fnRes (pxs O cal true (st0 [.ptr n] 1 σ lo) law_cone_p) = .ok (.av (.ptr σ.length)) (σ ++ [some (MO.set ld (toL (Ke p)))]) := by
  unfold law_cone_p
  show Ends _ (pxs O cal true ⟨[some (.val (.ptr n))], σ, lo, σ.length⟩ _)
  have hcs : (pe O cal true ⟨[some (.val (.ptr n))], σ, lo, σ.length⟩ (.compS [] (.bin .Add (.name 1) (.const (.int 1))) (.name 0) (.cons (.cmp .Eq (.bin .Mod (.name 1) (.const (.int 2))) (.const (.int 0))) .nil))).v = .ok (.av (.bag ((toL p).filterMap fun i => if i % 2 = 0 then some (i + 1) else none))) σ := by
    rw [pe_compS (a := .av (.ptr n)) (σ₁ := σ) (l := toL p) (ys := (toL p).filterMap fun i => if i % 2 = 0 then some (AV.int (i + 1)) else none)]
    · have : ∀ l : List Int, intsOf (l.filterMap fun i => if i % 2 = 0 then some (AV.int (i + 1)) else none) = l.filterMap fun i => if i % 2 = 0 then some (i + 1) else none := by
        intro l
        induction l with
        | nil => rfl
        | cons a l ih =>
          rw [List.filterMap_cons, List.filterMap_cons]
          by_cases ha : a % 2 = 0
          · rw [if_pos ha, if_pos ha]
            exact congrArg ((a + 1) :: ·) ih
          · rw [if_neg ha, if_neg ha]; exact ih
      rw [this]; rfl
    · rfl
    · exact w_sitems hO h
    · refine mapF_gen fun i hi => ?_
      have hin : Fs.inner (Fs.at ⟨[some (.val (.ptr n))], σ, lo, σ.length⟩ σ) [] (.int i) = ⟨[none, some (.val (.int i))], σ, σ.length, σ.length⟩ := rfl
      rw [hin]
      have b3 := g_mod hO i
      have b4 := g_eq hO (i.fmod 2) 0
      have b5 := g_add hO i 1
      have tb := t_bool (O := O) hO
      have hc : pall O cal true ⟨[none, some (.val (.int i))], σ, σ.length, σ.length⟩ .And (.cons (.cmp .Eq (.bin .Mod (.name 1) (.const (.int 2))) (.const (.int 0))) .nil) = some (i.fmod 2 == 0, σ) := by
        rw [pall_and_cons]
        simp only [pe_const, pe_name, slotV, pe_glob, pe_bin, pe_not, pe_neg, pe_is, pe_isnot, pe_eq, pe_ne, pe_lt, pe_le, pe_gt, pe_ge, pe_in, pe_notin, pe_bop, pe_list, pe_tup, pe_sub, pe_slice, pe_call, pe_bcall, pe_setd, pe_ecall, pes_nil', pes_cons, pr_v, pr_t, bind_ok, bindA_ok, truth_ok, ofB_some, ofRes_ok, ofRes_exc, onL_some, onP_some, plains_nil, plains_cons, pall_and_nil, pall_or_nil, pall_and_cons, pall_or_cons, pbop_one, pbop_and, pbop_or, Option.map_some, List.map_cons, List.map_nil, List.getElem?_cons_zero, List.getElem?_cons_succ, dS_av, dr_none, dr_bool, dr_int, dr_str, dr_type, dr_range, dr_tup, dr_lst, dr_set, List.length_cons, List.length_nil, Bool.not_true, Bool.not_false, Nat.reduceAdd, Nat.reduceLeDiff, if_true, b3, b4, tb]
        cases (i.fmod 2 == 0) <;> simp only [pall_and_nil]
      rw [hc, Int.fmod_eq_emod_of_nonneg _ (by omega)]
      by_cases hi2 : i % 2 = 0
      · have : (i % 2 == 0) = true := by simpa using hi2
        rw [this, if_pos hi2, compF_t (v := .int (i + 1)) (σ' := σ) (by simp only [pe_const, pe_name, slotV, pe_glob, pe_bin, pe_not, pe_neg, pe_is, pe_isnot, pe_eq, pe_ne, pe_lt, pe_le, pe_gt, pe_ge, pe_in, pe_notin, pe_bop, pe_list, pe_tup, pe_sub, pe_slice, pe_call, pe_bcall, pe_setd, pe_ecall, pes_nil', pes_cons, pr_v, pr_t, bind_ok, bindA_ok, truth_ok, ofB_some, ofRes_ok, ofRes_exc, onL_some, onP_some, plains_nil, plains_cons, pall_and_nil, pall_or_nil, pall_and_cons, pall_or_cons, pbop_one, pbop_and, pbop_or, Option.map_some, List.map_cons, List.map_nil, List.getElem?_cons_zero, List.getElem?_cons_succ, dS_av, dr_none, dr_bool, dr_int, dr_str, dr_type, dr_range, dr_tup, dr_lst, dr_set, List.length_cons, List.length_nil, Bool.not_true, Bool.not_false, Nat.reduceAdd, Nat.reduceLeDiff, if_true, b5]) rfl]
        rfl
      · have : (i % 2 == 0) = false := by simpa using hi2
        rw [this, if_neg hi2]; rfl
  have hsm : smallL ((toL p).filterMap fun i => if i % 2 = 0 then some (i + 1) else none) = true := by
    unfold smallL
    rw [List.all_eq_true]
    intro j hj
    obtain ⟨i, hi, h2⟩ := List.mem_filterMap.mp hj
    have := toL_dom p i hi
    split at h2
    · cases h2
      have : 0 ≤ i + 1 ∧ i + 1 < 32 := by omega
      simpa using this
    · cases h2
  have wb := w_bag hO (σ := σ) (lo := lo) hsm (cone_row p)
  refine pk_ret (v := .ptr σ.length) (σ := σ ++ [some (MO.set ld (toL (Ke p)))]) ?_ rfl
  simp only [pe_const, pe_name, slotV, pe_glob, pe_bin, pe_not, pe_neg, pe_is, pe_isnot, pe_eq, pe_ne, pe_lt, pe_le, pe_gt, pe_ge, pe_in, pe_notin, pe_bop, pe_list, pe_tup, pe_sub, pe_slice, pe_call, pe_bcall, pe_setd, pe_ecall, pes_nil', pes_cons, pr_v, pr_t, bind_ok, bindA_ok, truth_ok, ofB_some, ofRes_ok, ofRes_exc, onL_some, onP_some, plains_nil, plains_cons, pall_and_nil, pall_or_nil, pall_and_cons, pall_or_cons, pbop_one, pbop_and, pbop_or, Option.map_some, List.map_cons, List.map_nil, List.getElem?_cons_zero, List.getElem?_cons_succ, dS_av, dr_none, dr_bool, dr_int, dr_str, dr_type, dr_range, dr_tup, dr_lst, dr_set, List.length_cons, List.length_nil, Bool.not_true, Bool.not_false, Nat.reduceAdd, Nat.reduceLeDiff, if_true, hcs, wb]
end
end Mine
end
section
open PySem PySem.W PyProof.Rows
namespace Mine
set_option maxRecDepth 100000
set_option linter.unusedSimpArgs false
set_option linter.unusedSectionVars false
set_option linter.unusedVariables false
section
variable {O : OpsF} {ld : Bool} (hO : O = ops ld) {cal : Cal} {σ : Store} {lo n0 : Nat} {e0 e1 e2 e3 e4 e5 e6 e7 e8 e9 e10 e11 e12 e13 e14 e15 e16 e17 : Option Ent}
/-- a number's bits as a chain -/
noncomputable def bits (T : Int) : Ch := fun n => (T.fdiv ((2 ^ n : Nat) : Int)).fmod 2 == 1
include hO
theorem c_before (T : Int) : (pe O cal true ⟨[e0, e1, e2, e3, some (.val (.int T)), e5, e6, e7, e8, e9, e10, e11, e12, e13, e14, e15, e16, e17], σ, lo, n0⟩ (.comp [4] (.name 18) (.bcall .range (.cons (.const (.int 32)) .nil)) (.cons (.cmp .Eq (.bin .Mod (.bin .FloorDiv (.name 4) (.bin .Pow (.const (.int 2)) (.name 18))) (.const (.int 2))) (.const (.int 1))) .nil))).v = .ok (.av (.lst (cL (bits T)))) σ := by
  rw [pe_comp (a := .av (.range 0 (32 : Nat) 1)) (σ₁ := σ) (l := (List.range 32).map fun (i : Nat) => AV.int (i : Int)) (ys := cL (bits T))]
  · rfl
  · simp only [pe_const, pe_name, slotV, pe_glob, pe_bin, pe_not, pe_neg, pe_is, pe_isnot, pe_eq, pe_ne, pe_lt, pe_le, pe_gt, pe_ge, pe_in, pe_notin, pe_bop, pe_list, pe_tup, pe_sub, pe_slice, pe_call, pe_bcall, pe_setd, pe_ecall, pes_nil', pes_cons, pr_v, pr_t, bind_ok, bindA_ok, truth_ok, ofB_some, ofRes_ok, ofRes_exc, onL_some, onP_some, plains_nil, plains_cons, pall_and_nil, pall_or_nil, pall_and_cons, pall_or_cons, pbop_one, pbop_and, pbop_or, Option.map_some, List.map_cons, List.map_nil, List.getElem?_cons_zero, List.getElem?_cons_succ, dS_av, dr_none, dr_bool, dr_int, dr_str, dr_type, dr_range, dr_tup, dr_lst, dr_set, List.length_cons, List.length_nil, Bool.not_true, Bool.not_false, Nat.reduceAdd, Nat.reduceLeDiff, if_true, g_range hO]
    rfl
  · exact range_nats 32 (by omega) hO
  · rw [cL_map]
    refine mapF_filter fun i hi => ?_
    have hi5 := List.mem_range.mp hi
    have hin : Fs.inner (Fs.at ⟨[e0, e1, e2, e3, some (.val (.int T)), e5, e6, e7, e8, e9, e10, e11, e12, e13, e14, e15, e16, e17], σ, lo, n0⟩ σ) [4] (.int (i : Int)) = ⟨[none, none, none, none, some (.val (.int T)), none, none, none, none, none, none, none, none, none, none, none, none, none, some (.val (.int (i : Int)))], σ, σ.length, n0⟩ := by kernel_rfl
    rw [hin]
    have b1 := g_pow hO i (by omega)
    have b2 := g_fdiv hO T i (by omega)
    have b3 := g_mod hO (T.fdiv ((2 ^ i : Nat) : Int))
    have b4 : O.cmp .Eq (.int ((T.fdiv ((2 ^ i : Nat) : Int)).fmod 2)) (.int 1) = some (bits T i) := g_eq hO ((T.fdiv ((2 ^ i : Nat) : Int)).fmod 2) 1
    have tb := t_bool (O := O) hO
    have hc : pall O cal true ⟨[none, none, none, none, some (.val (.int T)), none, none, none, none, none, none, none, none, none, none, none, none, none, some (.val (.int (i : Int)))], σ, σ.length, n0⟩ .And (.cons (.cmp .Eq (.bin .Mod (.bin .FloorDiv (.name 4) (.bin .Pow (.const (.int 2)) (.name 18))) (.const (.int 2))) (.const (.int 1))) .nil) = some (bits T i, σ) := by
      rw [pall_and_cons]
      simp only [pe_const, pe_name, slotV, pe_glob, pe_bin, pe_not, pe_neg, pe_is, pe_isnot, pe_eq, pe_ne, pe_lt, pe_le, pe_gt, pe_ge, pe_in, pe_notin, pe_bop, pe_list, pe_tup, pe_sub, pe_slice, pe_call, pe_bcall, pe_setd, pe_ecall, pes_nil', pes_cons, pr_v, pr_t, bind_ok, bindA_ok, truth_ok, ofB_some, ofRes_ok, ofRes_exc, onL_some, onP_some, plains_nil, plains_cons, pall_and_nil, pall_or_nil, pall_and_cons, pall_or_cons, pbop_one, pbop_and, pbop_or, Option.map_some, List.map_cons, List.map_nil, List.getElem?_cons_zero, List.getElem?_cons_succ, dS_av, dr_none, dr_bool, dr_int, dr_str, dr_type, dr_range, dr_tup, dr_lst, dr_set, List.length_cons, List.length_nil, Bool.not_true, Bool.not_false, Nat.reduceAdd, Nat.reduceLeDiff, if_true, b1, b2, b3, b4, tb]
      cases bits T i <;> simp only [pall_and_nil]
    rw [hc]
    cases bits T i with
    | false => rfl
    | true => exact compF_t (v := .int (i : Int)) (σ' := σ) rfl rfl
theorem b_ne (a b : Bool) : O.cmp .NotEq (.bool a) (.bool b) = some (a ^^ b) := by rw [o_cmp hO]; cases a <;> cases b <;> rfl
theorem c_two1 {n m : Nat} {p q : Ch} (h : At ld σ n p) (g : At ld σ m q) : (pe O cal true ⟨[e0, some (.val (.ptr m)), e2, e3, e4, e5, some (.val (.ptr n)), e7, e8, e9, e10, e11, e12, e13, e14, e15, e16, e17], σ, lo, n0⟩ (.comp [1, 6] (.name 18) (.bcall .range (.cons (.const (.int 32)) .nil)) (.cons (.cmp .NotEq (.cmp .In (.name 18) (.name 6)) (.cmp .In (.name 18) (.name 1))) .nil))).v = .ok (.av (.lst (cL fun k => p k ^^ q k))) σ := by
  rw [pe_comp (a := .av (.range 0 (32 : Nat) 1)) (σ₁ := σ) (l := (List.range 32).map fun (i : Nat) => AV.int (i : Int)) (ys := cL fun k => p k ^^ q k)]
  · rfl
  · simp only [pe_const, pe_name, slotV, pe_glob, pe_bin, pe_not, pe_neg, pe_is, pe_isnot, pe_eq, pe_ne, pe_lt, pe_le, pe_gt, pe_ge, pe_in, pe_notin, pe_bop, pe_list, pe_tup, pe_sub, pe_slice, pe_call, pe_bcall, pe_setd, pe_ecall, pes_nil', pes_cons, pr_v, pr_t, bind_ok, bindA_ok, truth_ok, ofB_some, ofRes_ok, ofRes_exc, onL_some, onP_some, plains_nil, plains_cons, pall_and_nil, pall_or_nil, pall_and_cons, pall_or_cons, pbop_one, pbop_and, pbop_or, Option.map_some, List.map_cons, List.map_nil, List.getElem?_cons_zero, List.getElem?_cons_succ, dS_av, dr_none, dr_bool, dr_int, dr_str, dr_type, dr_range, dr_tup, dr_lst, dr_set, List.length_cons, List.length_nil, Bool.not_true, Bool.not_false, Nat.reduceAdd, Nat.reduceLeDiff, if_true, g_range hO]
    rfl
  · exact range_nats 32 (by omega) hO
  · rw [cL_map]
    refine mapF_filter fun i hi => ?_
    have hi5 := List.mem_range.mp hi
    have hin : Fs.inner (Fs.at ⟨[e0, some (.val (.ptr m)), e2, e3, e4, e5, some (.val (.ptr n)), e7, e8, e9, e10, e11, e12, e13, e14, e15, e16, e17], σ, lo, n0⟩ σ) [1, 6] (.int (i : Int)) = ⟨[none, some (.val (.ptr m)), none, none, none, none, some (.val (.ptr n)), none, none, none, none, none, none, none, none, none, none, none, some (.val (.int (i : Int)))], σ, σ.length, n0⟩ := by kernel_rfl
    rw [hin]
    have d1 := at_deref h
    have d2 := at_deref g
    have b1 := w_in hO (p := p) hi5
    have b2 := w_in hO (p := q) hi5
    have b3 := b_ne hO (p i) (q i)
    have tb := t_bool (O := O) hO
    have hc : pall O cal true ⟨[none, some (.val (.ptr m)), none, none, none, none, some (.val (.ptr n)), none, none, none, none, none, none, none, none, none, none, none, some (.val (.int (i : Int)))], σ, σ.length, n0⟩ .And (.cons (.cmp .NotEq (.cmp .In (.name 18) (.name 6)) (.cmp .In (.name 18) (.name 1))) .nil) = some (p i ^^ q i, σ) := by
      rw [pall_and_cons]
      simp only [pe_const, pe_name, slotV, pe_glob, pe_bin, pe_not, pe_neg, pe_is, pe_isnot, pe_eq, pe_ne, pe_lt, pe_le, pe_gt, pe_ge, pe_in, pe_notin, pe_bop, pe_list, pe_tup, pe_sub, pe_slice, pe_call, pe_bcall, pe_setd, pe_ecall, pes_nil', pes_cons, pr_v, pr_t, bind_ok, bindA_ok, truth_ok, ofB_some, ofRes_ok, ofRes_exc, onL_some, onP_some, plains_nil, plains_cons, pall_and_nil, pall_or_nil, pall_and_cons, pall_or_cons, pbop_one, pbop_and, pbop_or, Option.map_some, List.map_cons, List.map_nil, List.getElem?_cons_zero, List.getElem?_cons_succ, dS_av, dr_none, dr_bool, dr_int, dr_str, dr_type, dr_range, dr_tup, dr_lst, dr_set, List.length_cons, List.length_nil, Bool.not_true, Bool.not_false, Nat.reduceAdd, Nat.reduceLeDiff, if_true, d1, d2, b1, b2, b3, tb]
      cases (p i ^^ q i) <;> simp only [pall_and_nil]
    rw [hc]
    cases (p i ^^ q i) with
    | false => rfl
    | true => exact compF_t (v := .int (i : Int)) (σ' := σ) rfl rfl
theorem c_two7 {n m : Nat} {p q : Ch} (h : At ld σ n p) (g : At ld σ m q) : (pe O cal true ⟨[e0, e1, e2, e3, e4, e5, some (.val (.ptr n)), some (.val (.ptr m)), e8, e9, e10, e11, e12, e13, e14, e15, e16, e17], σ, lo, n0⟩ (.comp [6, 7] (.name 18) (.bcall .range (.cons (.const (.int 32)) .nil)) (.cons (.cmp .NotEq (.cmp .In (.name 18) (.name 6)) (.cmp .In (.name 18) (.name 7))) .nil))).v = .ok (.av (.lst (cL fun k => p k ^^ q k))) σ := by
  rw [pe_comp (a := .av (.range 0 (32 : Nat) 1)) (σ₁ := σ) (l := (List.range 32).map fun (i : Nat) => AV.int (i : Int)) (ys := cL fun k => p k ^^ q k)]
  · rfl
  · simp only [pe_const, pe_name, slotV, pe_glob, pe_bin, pe_not, pe_neg, pe_is, pe_isnot, pe_eq, pe_ne, pe_lt, pe_le, pe_gt, pe_ge, pe_in, pe_notin, pe_bop, pe_list, pe_tup, pe_sub, pe_slice, pe_call, pe_bcall, pe_setd, pe_ecall, pes_nil', pes_cons, pr_v, pr_t, bind_ok, bindA_ok, truth_ok, ofB_some, ofRes_ok, ofRes_exc, onL_some, onP_some, plains_nil, plains_cons, pall_and_nil, pall_or_nil, pall_and_cons, pall_or_cons, pbop_one, pbop_and, pbop_or, Option.map_some, List.map_cons, List.map_nil, List.getElem?_cons_zero, List.getElem?_cons_succ, dS_av, dr_none, dr_bool, dr_int, dr_str, dr_type, dr_range, dr_tup, dr_lst, dr_set, List.length_cons, List.length_nil, Bool.not_true, Bool.not_false, Nat.reduceAdd, Nat.reduceLeDiff, if_true, g_range hO]
    rfl
  · exact range_nats 32 (by omega) hO
  · rw [cL_map]
    refine mapF_filter fun i hi => ?_
    have hi5 := List.mem_range.mp hi
    have hin : Fs.inner (Fs.at ⟨[e0, e1, e2, e3, e4, e5, some (.val (.ptr n)), some (.val (.ptr m)), e8, e9, e10, e11, e12, e13, e14, e15, e16, e17], σ, lo, n0⟩ σ) [6, 7] (.int (i : Int)) = ⟨[none, none, none, none, none, none, some (.val (.ptr n)), some (.val (.ptr m)), none, none, none, none, none, none, none, none, none, none, some (.val (.int (i : Int)))], σ, σ.length, n0⟩ := by kernel_rfl
    rw [hin]
    have d1 := at_deref h
    have d2 := at_deref g
    have b1 := w_in hO (p := p) hi5
    have b2 := w_in hO (p := q) hi5
    have b3 := b_ne hO (p i) (q i)
    have tb := t_bool (O := O) hO
    have hc : pall O cal true ⟨[none, none, none, none, none, none, some (.val (.ptr n)), some (.val (.ptr m)), none, none, none, none, none, none, none, none, none, none, some (.val (.int (i : Int)))], σ, σ.length, n0⟩ .And (.cons (.cmp .NotEq (.cmp .In (.name 18) (.name 6)) (.cmp .In (.name 18) (.name 7))) .nil) = some (p i ^^ q i, σ) := by
      rw [pall_and_cons]
      simp only [pe_const, pe_name, slotV, pe_glob, pe_bin, pe_not, pe_neg, pe_is, pe_isnot, pe_eq, pe_ne, pe_lt, pe_le, pe_gt, pe_ge, pe_in, pe_notin, pe_bop, pe_list, pe_tup, pe_sub, pe_slice, pe_call, pe_bcall, pe_setd, pe_ecall, pes_nil', pes_cons, pr_v, pr_t, bind_ok, bindA_ok, truth_ok, ofB_some, ofRes_ok, ofRes_exc, onL_some, onP_some, plains_nil, plains_cons, pall_and_nil, pall_or_nil, pall_and_cons, pall_or_cons, pbop_one, pbop_and, pbop_or, Option.map_some, List.map_cons, List.map_nil, List.getElem?_cons_zero, List.getElem?_cons_succ, dS_av, dr_none, dr_bool, dr_int, dr_str, dr_type, dr_range, dr_tup, dr_lst, dr_set, List.length_cons, List.length_nil, Bool.not_true, Bool.not_false, Nat.reduceAdd, Nat.reduceLeDiff, if_true, d1, d2, b1, b2, b3, tb]
      cases (p i ^^ q i) <;> simp only [pall_and_nil]
    rw [hc]
    cases (p i ^^ q i) with
    | false => rfl
    | true => exact compF_t (v := .int (i : Int)) (σ' := σ) rfl rfl
theorem l_ne (p : Ch) : O.cmp .NotEq (.lst (cL p)) (.lst (cL p)) = some false := by
  rw [o_cmp hO]
  have hz : ∀ (n : Nat) (xs : List Int), allZ (itm (eqN n)) (xs.map AV.int) (xs.map AV.int) = some true := by
    intro n xs
    induction xs with
    | nil => rfl
    | cons x xs ih =>
      have e : itm (eqN n) (.int x) (.int x) = some true := by
        show eqN n (.int x) (.int x) = _
        have : eqN n (.int x) (.int x) = some (x == x) := by cases n <;> rfl
        rw [this, beq_self_eq_true]
      show (match itm (eqN n) (.int x) (.int x) with | some a => (allZ (itm (eqN n)) (xs.map AV.int) (xs.map AV.int)).map (a && ·) | none => none) = _
      rw [e, ih]; rfl
  show (eqN 3 (.lst (cL p)) (.lst (cL p))).map (!·) = _
  have : eqN 3 (.lst (cL p)) (.lst (cL p)) = if (cL p).length = (cL p).length then allZ (itm (eqN 2)) (cL p) (cL p) else some false := rfl
  rw [this, if_pos rfl, hz]; rfl
theorem w_type (fz : Bool) (xs : List Int) : O.bcall .type [.set fz ld xs] = .ok (.type (setName fz)) := by rw [o_bcall hO]; rfl
theorem w_len0 : O.bcall .len [.set false ld []] = .ok (.int 0) := by rw [o_bcall hO]; rfl
theorem w_tells (script : List Int) (k : Nat) (hk : k < 4) : ∃ T : Int, (pe O cal true ⟨[some (.val (.lst (script.map .int))), e1, e2, some (.val (.int (k : Int))), e4, e5, e6, e7, e8, e9, e10, e11, e12, e13, e14, e15, e16, e17], σ, lo, n0⟩
    (.bin .Add (.sub (.tup (.cons (.const (.int 1234567)) (.cons (.const (.int 987654321)) (.cons (.const (.int 2147483654)) (.cons (.const (.int 77)) .nil))))) (.name 3)) (.bcall .sum (.cons (.slice (.name 0) (.name 3) (.const .none) (.const (.int 4))) .nil)))).v = .ok (.av (.int T)) σ := by
  have h1 : O.slice (.lst (script.map .int)) (.int (k : Int)) .none (.int 4) = .ok (.lst ((pickI script (some (k : Int)) none (some 4)).map .int)) := by
    rw [o_slice hO]; exact slice_step script k 4 (by decide)
  have h2 : O.bcall .sum [.lst ((pickI script (some (k : Int)) none (some 4)).map .int)] = .ok (.int (pickI script (some (k : Int)) none (some 4)).sum) := by
    rw [o_bcall hO]; exact cb_sum (ints_map _)
  have h3 : ∃ c : Int, O.idx (.tup [.int 1234567, .int 987654321, .int 2147483654, .int 77]) (.int (k : Int)) = .ok (.int c) := by
    rw [o_idx hO]
    have : k = 0 ∨ k = 1 ∨ k = 2 ∨ k = 3 := by omega
    rcases this with rfl | rfl | rfl | rfl <;> exact ⟨_, rfl⟩
  obtain ⟨c, h3⟩ := h3
  have h4 := g_add hO c (pickI script (some (k : Int)) none (some 4)).sum
  refine ⟨c + (pickI script (some (k : Int)) none (some 4)).sum, ?_⟩
  simp only [pe_const, pe_name, slotV, pe_glob, pe_bin, pe_not, pe_neg, pe_is, pe_isnot, pe_eq, pe_ne, pe_lt, pe_le, pe_gt, pe_ge, pe_in, pe_notin, pe_bop, pe_list, pe_tup, pe_sub, pe_slice, pe_call, pe_bcall, pe_setd, pe_ecall, pes_nil', pes_cons, pr_v, pr_t, bind_ok, bindA_ok, truth_ok, ofB_some, ofRes_ok, ofRes_exc, onL_some, onP_some, plains_nil, plains_cons, pall_and_nil, pall_or_nil, pall_and_cons, pall_or_cons, pbop_one, pbop_and, pbop_or, Option.map_some, List.map_cons, List.map_nil, List.getElem?_cons_zero, List.getElem?_cons_succ, dS_av, dr_none, dr_bool, dr_int, dr_str, dr_type, dr_range, dr_tup, dr_lst, dr_set, List.length_cons, List.length_nil, Bool.not_true, Bool.not_false, Nat.reduceAdd, Nat.reduceLeDiff, if_true, h1, h2, h3, h4, Nat.le_refl]
end
end Mine
end
section
open PySem PySem.W PyProof.Rows
namespace Mine
set_option maxRecDepth 100000
set_option linter.unusedSimpArgs false
set_option linter.unusedSectionVars false
set_option linter.unusedVariables false
set_option maxHeartbeats 1000000
/-- what the law's defs do -/
structure LawC (O : OpsF) (ld : Bool) (cal : Cal) : Prop where
  x : XorC O cal
  edge : ∀ {σ : Store} {lo n : Nat} {p : Ch}, At ld σ n p → lo ≤ σ.length → cal σ lo 1 [.ptr n] = .ok (.av (.ptr σ.length)) (σ ++ [some (MO.set ld (toL (De p)))])
  cnt : ∀ {σ : Store} {lo n : Nat} {p : Ch}, At ld σ n p → cal σ lo 2 [.ptr n] = .ok (.av (.lst (cL (De p)))) σ
  cone : ∀ {σ : Store} {lo n : Nat} {p : Ch}, At ld σ n p → cal σ lo 3 [.ptr n] = .ok (.av (.ptr σ.length)) (σ ++ [some (MO.set ld (toL (Ke p)))])
  ref : ∀ {σ : Store} {lo : Nat} {a b : AV}, O.einpl .BitXor σ lo a b = .exc .te σ → cal σ lo 4 [a, b] = .ok (.av (.bool true)) σ
noncomputable def wI (ld : Bool) (script : List Int) (st : Fs) : Prop := ∃ (a b : Nat) (σ : Store) (q : Ch) (e3 e4 e5 e6 e7 e8 e9 e10 e11 e12 e13 e14 e15 e16 e17 : Option Ent), st = ⟨[some (.val (.lst (script.map .int))), some (.val (.ptr a)), some (.val (.ptr b)), e3, e4, e5, e6, e7, e8, e9, e10, e11, e12, e13, e14, e15, e16, e17], σ, 0, 0⟩ ∧ At ld σ a q ∧ At ld σ b (De q)
section
variable {O : OpsF} {ld : Bool} (hO : O = ops ld) {cal : Cal} (hC : LawC O ld cal)
include hO hC
theorem w_tyS (xs : List Int) : O.bcall .type [.set false ld xs] = .ok (.type "set") := w_type hO false xs
theorem w_tyF (xs : List Int) : O.bcall .type [.set true ld xs] = .ok (.type "frozenset") := w_type hO true xs
theorem turn {script : List Int} {k a b : Nat} {σ : Store} {q : Ch} (hk : k < 4) (ha : At ld σ a q) (hb : At ld σ b (De q)) {e3 e4 e5 e6 e7 e8 e9 e10 e11 e12 e13 e14 e15 e16 e17 : Option Ent} {K : FR → Prop} :
    loopK (wI ld script) K (pxs O cal true ((⟨[some (.val (.lst (script.map .int))), some (.val (.ptr a)), some (.val (.ptr b)), e3, e4, e5, e6, e7, e8, e9, e10, e11, e12, e13, e14, e15, e16, e17], σ, 0, 0⟩ : Fs).set 3 (.val (.int (k : Int)))) law_b1) := by
  unfold law_b1
  dsimp only [Fs.at, Fs.set, List.set_cons_zero, List.set_cons_succ]
  have tb := t_bool (O := O) hO
  have tS : O.is_ (.type "set") (.type (BI.name .set)) = some true := is_ty hO _ _
  have tF : O.is_ (.type "frozenset") (.type (BI.name .frozenset)) = some true := is_ty hO _ _
  have ip : ∀ n : Nat, O.is_ (.ptr n) (.ptr n) = some true := fun n => by rw [is_ptr hO, beq_self_eq_true]
  have ln := l_ne hO
  have tyS := w_tyS hO hC
  have tyF := w_tyF hO hC
  have len0 := w_len0 hO
  have ne0 : O.cmp .NotEq (.int 0) (.int 0) = some false := g_ne hO 0 0
  obtain ⟨T, hT⟩ := w_tells hO (cal := cal) (σ := σ) (lo := 0) (n0 := 0) (e1 := some (.val (.ptr a))) (e2 := some (.val (.ptr b))) (e4 := e4) (e5 := e5) (e6 := e6) (e7 := e7) (e8 := e8) (e9 := e9) (e10 := e10) (e11 := e11) (e12 := e12) (e13 := e13) (e14 := e14) (e15 := e15) (e16 := e16) (e17 := e17) script k hk
  refine pk_assign hT ?_
  dsimp only [Fs.at, Fs.set, List.set_cons_zero, List.set_cons_succ]
  refine pk_assign (c_before hO T) ?_
  dsimp only [Fs.at, Fs.set, List.set_cons_zero, List.set_cons_succ]
  generalize bits T = p
  -- chain
  have c3 := w_list hO (σ := σ) (lo := 0) (p := p)
  have hp := At.put ld σ p
  have al := ha.lt
  have bl := hb.lt
  replace ha := ha.app [some (MO.set ld (toL p))]
  replace hb := hb.app [some (MO.set ld (toL p))]
  have l1 : (σ ++ [some (MO.set ld (toL p))]).length = σ.length + 1 := by simp
  generalize σ ++ [some (MO.set ld (toL p))] = σ1 at c3 hp ha hb l1
  generalize σ.length = c at c3 hp l1 al bl
  refine pk_assign (v := .ptr c) (σ := σ1) ?_ ?_
  · simp only [pe_const, pe_name, slotV, pe_glob, pe_bin, pe_not, pe_neg, pe_is, pe_isnot, pe_eq, pe_ne, pe_lt, pe_le, pe_gt, pe_ge, pe_in, pe_notin, pe_bop, pe_list, pe_tup, pe_sub, pe_slice, pe_call, pe_bcall, pe_setd, pe_ecall, pes_nil', pes_cons, pr_v, pr_t, bind_ok, bindA_ok, truth_ok, ofB_some, ofRes_ok, ofRes_exc, onL_some, onP_some, plains_nil, plains_cons, pall_and_nil, pall_or_nil, pall_and_cons, pall_or_cons, pbop_one, pbop_and, pbop_or, Option.map_some, List.map_cons, List.map_nil, List.getElem?_cons_zero, List.getElem?_cons_succ, dS_av, dr_none, dr_bool, dr_int, dr_str, dr_type, dr_range, dr_tup, dr_lst, dr_set, List.length_cons, List.length_nil, Bool.not_true, Bool.not_false, Nat.reduceAdd, Nat.reduceLeDiff, if_true, c3]
  dsimp only [Fs.at, Fs.set, List.set_cons_zero, List.set_cons_succ]
  clear c3
  -- edge
  have c4 := hC.edge (lo := 0) hp (Nat.zero_le _)
  have hd := At.put ld σ1 (De p)
  replace hp := hp.app [some (MO.set ld (toL (De p)))]
  replace ha := ha.app [some (MO.set ld (toL (De p)))]
  replace hb := hb.app [some (MO.set ld (toL (De p)))]
  have l2 : (σ1 ++ [some (MO.set ld (toL (De p)))]).length = σ1.length + 1 := by simp
  generalize σ1 ++ [some (MO.set ld (toL (De p)))] = σ2 at c4 hp ha hb hd l2
  generalize σ1.length = e at c4 hd l1 l2
  refine pk_assign (v := .ptr e) (σ := σ2) ?_ ?_
  · simp only [pe_const, pe_name, slotV, pe_glob, pe_bin, pe_not, pe_neg, pe_is, pe_isnot, pe_eq, pe_ne, pe_lt, pe_le, pe_gt, pe_ge, pe_in, pe_notin, pe_bop, pe_list, pe_tup, pe_sub, pe_slice, pe_call, pe_bcall, pe_setd, pe_ecall, pes_nil', pes_cons, pr_v, pr_t, bind_ok, bindA_ok, truth_ok, ofB_some, ofRes_ok, ofRes_exc, onL_some, onP_some, plains_nil, plains_cons, pall_and_nil, pall_or_nil, pall_and_cons, pall_or_cons, pbop_one, pbop_and, pbop_or, Option.map_some, List.map_cons, List.map_nil, List.getElem?_cons_zero, List.getElem?_cons_succ, dS_av, dr_none, dr_bool, dr_int, dr_str, dr_type, dr_range, dr_tup, dr_lst, dr_set, List.length_cons, List.length_nil, Bool.not_true, Bool.not_false, Nat.reduceAdd, Nat.reduceLeDiff, if_true, c4]
  dsimp only [Fs.at, Fs.set, List.set_cons_zero, List.set_cons_succ]
  clear c4
  -- what the edge is
  have d1 := at_deref hd
  have s1 := w_sorted hO (lo := 0) hd
  have k1 := hC.cnt (lo := 0) hp
  refine pk_skip (σ := σ2) ?_ ?_
  · simp only [pe_const, pe_name, slotV, pe_glob, pe_bin, pe_not, pe_neg, pe_is, pe_isnot, pe_eq, pe_ne, pe_lt, pe_le, pe_gt, pe_ge, pe_in, pe_notin, pe_bop, pe_list, pe_tup, pe_sub, pe_slice, pe_call, pe_bcall, pe_setd, pe_ecall, pes_nil', pes_cons, pr_v, pr_t, bind_ok, bindA_ok, truth_ok, ofB_some, ofRes_ok, ofRes_exc, onL_some, onP_some, plains_nil, plains_cons, pall_and_nil, pall_or_nil, pall_and_cons, pall_or_cons, pbop_one, pbop_and, pbop_or, Option.map_some, List.map_cons, List.map_nil, List.getElem?_cons_zero, List.getElem?_cons_succ, dS_av, dr_none, dr_bool, dr_int, dr_str, dr_type, dr_range, dr_tup, dr_lst, dr_set, List.length_cons, List.length_nil, Bool.not_true, Bool.not_false, Nat.reduceAdd, Nat.reduceLeDiff, if_true, d1, tyS, tS, s1, k1, ln, tb]
  dsimp only [Fs.at, Fs.set, List.set_cons_zero, List.set_cons_succ]
  clear d1
  -- its edge
  have c5 := hC.edge (lo := 0) hd (Nat.zero_le _)
  have hz := At.put ld σ2 (De (De p))
  rw [toL_nil (p := De (De p)) fun n hn => De_De p hn] at c5
  replace hz := hz.same (toL_congr (q := fun _ => false) fun n hn => De_De p hn)
  rw [toL_nil (p := De (De p)) fun n hn => De_De p hn] at hz
  replace hp := hp.app [some (MO.set ld [])]
  replace hd := hd.app [some (MO.set ld [])]
  replace ha := ha.app [some (MO.set ld [])]
  replace hb := hb.app [some (MO.set ld [])]
  have l3 : (σ2 ++ [some (MO.set ld [])]).length = σ2.length + 1 := by simp
  generalize σ2 ++ [some (MO.set ld [])] = σ3 at c5 hp hd ha hb hz l3
  generalize σ2.length = z at c5 hz l2 l3
  refine pk_assign (v := .ptr z) (σ := σ3) ?_ ?_
  · simp only [pe_const, pe_name, slotV, pe_glob, pe_bin, pe_not, pe_neg, pe_is, pe_isnot, pe_eq, pe_ne, pe_lt, pe_le, pe_gt, pe_ge, pe_in, pe_notin, pe_bop, pe_list, pe_tup, pe_sub, pe_slice, pe_call, pe_bcall, pe_setd, pe_ecall, pes_nil', pes_cons, pr_v, pr_t, bind_ok, bindA_ok, truth_ok, ofB_some, ofRes_ok, ofRes_exc, onL_some, onP_some, plains_nil, plains_cons, pall_and_nil, pall_or_nil, pall_and_cons, pall_or_cons, pbop_one, pbop_and, pbop_or, Option.map_some, List.map_cons, List.map_nil, List.getElem?_cons_zero, List.getElem?_cons_succ, dS_av, dr_none, dr_bool, dr_int, dr_str, dr_type, dr_range, dr_tup, dr_lst, dr_set, List.length_cons, List.length_nil, Bool.not_true, Bool.not_false, Nat.reduceAdd, Nat.reduceLeDiff, if_true, c5]
  dsimp only [Fs.at, Fs.set, List.set_cons_zero, List.set_cons_succ]
  clear c5 s1 k1
  have d1 := at_deref hz
  rw [toL_nil (p := fun _ => false) fun n hn => rfl] at d1
  refine pk_skip (σ := σ3) ?_ ?_
  · simp only [pe_const, pe_name, slotV, pe_glob, pe_bin, pe_not, pe_neg, pe_is, pe_isnot, pe_eq, pe_ne, pe_lt, pe_le, pe_gt, pe_ge, pe_in, pe_notin, pe_bop, pe_list, pe_tup, pe_sub, pe_slice, pe_call, pe_bcall, pe_setd, pe_ecall, pes_nil', pes_cons, pr_v, pr_t, bind_ok, bindA_ok, truth_ok, ofB_some, ofRes_ok, ofRes_exc, onL_some, onP_some, plains_nil, plains_cons, pall_and_nil, pall_or_nil, pall_and_cons, pall_or_cons, pbop_one, pbop_and, pbop_or, Option.map_some, List.map_cons, List.map_nil, List.getElem?_cons_zero, List.getElem?_cons_succ, dS_av, dr_none, dr_bool, dr_int, dr_str, dr_type, dr_range, dr_tup, dr_lst, dr_set, List.length_cons, List.length_nil, Bool.not_true, Bool.not_false, Nat.reduceAdd, Nat.reduceLeDiff, if_true, d1, tyS, tS, len0, ne0, tb]
  dsimp only [Fs.at, Fs.set, List.set_cons_zero, List.set_cons_succ]
  clear d1 hz
  -- the cone's edge
  have c6 := hC.cone (lo := 0) hp
  have hk1 := At.put ld σ3 (Ke p)
  replace hp := hp.app [some (MO.set ld (toL (Ke p)))]
  replace hd := hd.app [some (MO.set ld (toL (Ke p)))]
  replace ha := ha.app [some (MO.set ld (toL (Ke p)))]
  replace hb := hb.app [some (MO.set ld (toL (Ke p)))]
  have l4 : (σ3 ++ [some (MO.set ld (toL (Ke p)))]).length = σ3.length + 1 := by simp
  generalize σ3 ++ [some (MO.set ld (toL (Ke p)))] = σ4 at c6 hp hd ha hb hk1 l4
  generalize σ3.length = u at c6 hk1 l3 l4
  have c7 := hC.edge (lo := 0) hk1 (Nat.zero_le _)
  have hf := At.put ld σ4 (De (Ke p))
  replace hp := hp.app [some (MO.set ld (toL (De (Ke p))))]
  replace hd := hd.app [some (MO.set ld (toL (De (Ke p))))]
  replace ha := ha.app [some (MO.set ld (toL (De (Ke p))))]
  replace hb := hb.app [some (MO.set ld (toL (De (Ke p))))]
  have l5 : (σ4 ++ [some (MO.set ld (toL (De (Ke p))))]).length = σ4.length + 1 := by simp
  generalize σ4 ++ [some (MO.set ld (toL (De (Ke p))))] = σ5 at c7 hp hd ha hb hf l5
  generalize σ4.length = f at c7 hf l4 l5
  refine pk_assign (v := .ptr f) (σ := σ5) ?_ ?_
  · simp only [pe_const, pe_name, slotV, pe_glob, pe_bin, pe_not, pe_neg, pe_is, pe_isnot, pe_eq, pe_ne, pe_lt, pe_le, pe_gt, pe_ge, pe_in, pe_notin, pe_bop, pe_list, pe_tup, pe_sub, pe_slice, pe_call, pe_bcall, pe_setd, pe_ecall, pes_nil', pes_cons, pr_v, pr_t, bind_ok, bindA_ok, truth_ok, ofB_some, ofRes_ok, ofRes_exc, onL_some, onP_some, plains_nil, plains_cons, pall_and_nil, pall_or_nil, pall_and_cons, pall_or_cons, pbop_one, pbop_and, pbop_or, Option.map_some, List.map_cons, List.map_nil, List.getElem?_cons_zero, List.getElem?_cons_succ, dS_av, dr_none, dr_bool, dr_int, dr_str, dr_type, dr_range, dr_tup, dr_lst, dr_set, List.length_cons, List.length_nil, Bool.not_true, Bool.not_false, Nat.reduceAdd, Nat.reduceLeDiff, if_true, c6, c7]
  dsimp only [Fs.at, Fs.set, List.set_cons_zero, List.set_cons_succ]
  clear c6 c7 hk1
  -- the edge's cone
  have c8 := hC.cone (lo := 0) hd
  have hg := At.put ld σ5 (Ke (De p))
  replace hp := hp.app [some (MO.set ld (toL (Ke (De p))))]
  replace hd := hd.app [some (MO.set ld (toL (Ke (De p))))]
  replace ha := ha.app [some (MO.set ld (toL (Ke (De p))))]
  replace hb := hb.app [some (MO.set ld (toL (Ke (De p))))]
  replace hf := hf.app [some (MO.set ld (toL (Ke (De p))))]
  have l6 : (σ5 ++ [some (MO.set ld (toL (Ke (De p))))]).length = σ5.length + 1 := by simp
  generalize σ5 ++ [some (MO.set ld (toL (Ke (De p))))] = σ6 at c8 hp hd ha hb hf hg l6
  generalize σ5.length = g at c8 hg l5 l6
  refine pk_assign (v := .ptr g) (σ := σ6) ?_ ?_
  · simp only [pe_const, pe_name, slotV, pe_glob, pe_bin, pe_not, pe_neg, pe_is, pe_isnot, pe_eq, pe_ne, pe_lt, pe_le, pe_gt, pe_ge, pe_in, pe_notin, pe_bop, pe_list, pe_tup, pe_sub, pe_slice, pe_call, pe_bcall, pe_setd, pe_ecall, pes_nil', pes_cons, pr_v, pr_t, bind_ok, bindA_ok, truth_ok, ofB_some, ofRes_ok, ofRes_exc, onL_some, onP_some, plains_nil, plains_cons, pall_and_nil, pall_or_nil, pall_and_cons, pall_or_cons, pbop_one, pbop_and, pbop_or, Option.map_some, List.map_cons, List.map_nil, List.getElem?_cons_zero, List.getElem?_cons_succ, dS_av, dr_none, dr_bool, dr_int, dr_str, dr_type, dr_range, dr_tup, dr_lst, dr_set, List.length_cons, List.length_nil, Bool.not_true, Bool.not_false, Nat.reduceAdd, Nat.reduceLeDiff, if_true, c8]
  dsimp only [Fs.at, Fs.set, List.set_cons_zero, List.set_cons_succ]
  clear c8
  -- together they are the chain
  have c9 := hC.x.ok (x_ss hO (lo := 0) hf hg (Nat.zero_le _) (by omega))
  rw [show toL (fun t => De (Ke p) t ^^ Ke (De p) t) = toL p from toL_congr fun n hn => cone_ok p hn] at c9
  have hw : At ld (σ6.set f (some (MO.set ld (toL p)))) f p := At.eq hf.lt
  replace hp := hp.ne (m := f) (some (MO.set ld (toL p))) (by omega)
  replace hd := hd.ne (m := f) (some (MO.set ld (toL p))) (by omega)
  replace ha := ha.ne (m := f) (some (MO.set ld (toL p))) (by omega)
  replace hb := hb.ne (m := f) (some (MO.set ld (toL p))) (by omega)
  replace hg := hg.ne (m := f) (some (MO.set ld (toL p))) (by omega)
  have l7 : (σ6.set f (some (MO.set ld (toL p)))).length = σ6.length := by simp
  generalize σ6.set f (some (MO.set ld (toL p))) = σ7 at c9 hp hd ha hb hg hw l7
  refine pk_assign (v := .ptr f) (σ := σ7) ?_ ?_
  · simp only [pe_const, pe_name, slotV, pe_glob, pe_bin, pe_not, pe_neg, pe_is, pe_isnot, pe_eq, pe_ne, pe_lt, pe_le, pe_gt, pe_ge, pe_in, pe_notin, pe_bop, pe_list, pe_tup, pe_sub, pe_slice, pe_call, pe_bcall, pe_setd, pe_ecall, pes_nil', pes_cons, pr_v, pr_t, bind_ok, bindA_ok, truth_ok, ofB_some, ofRes_ok, ofRes_exc, onL_some, onP_some, plains_nil, plains_cons, pall_and_nil, pall_or_nil, pall_and_cons, pall_or_cons, pbop_one, pbop_and, pbop_or, Option.map_some, List.map_cons, List.map_nil, List.getElem?_cons_zero, List.getElem?_cons_succ, dS_av, dr_none, dr_bool, dr_int, dr_str, dr_type, dr_range, dr_tup, dr_lst, dr_set, List.length_cons, List.length_nil, Bool.not_true, Bool.not_false, Nat.reduceAdd, Nat.reduceLeDiff, if_true, c9]
  dsimp only [Fs.at, Fs.set, List.set_cons_zero, List.set_cons_succ]
  clear c9 hf
  have s2 := w_sorted hO (lo := 0) hw
  have c10 := hC.cone (lo := 0) hd
  have hg2 := At.put ld σ7 (Ke (De p))
  replace hp := hp.app [some (MO.set ld (toL (Ke (De p))))]
  replace hd := hd.app [some (MO.set ld (toL (Ke (De p))))]
  replace ha := ha.app [some (MO.set ld (toL (Ke (De p))))]
  replace hb := hb.app [some (MO.set ld (toL (Ke (De p))))]
  replace hg := hg.app [some (MO.set ld (toL (Ke (De p))))]
  have l8 : (σ7 ++ [some (MO.set ld (toL (Ke (De p))))]).length = σ7.length + 1 := by simp
  generalize σ7 ++ [some (MO.set ld (toL (Ke (De p))))] = σ8 at c10 hp hd ha hb hg hg2 l8
  generalize σ7.length = g2 at c10 hg2 l7 l8
  have d1 := at_deref hg
  have d2 := at_deref hg2
  have n1 : O.cmp .NotEq (.set false ld (toL (Ke (De p)))) (.set false ld (toL (Ke (De p)))) = some false := by rw [w_seteq hO, decide_eq_true rfl]; rfl
  refine pk_skip (σ := σ8) ?_ ?_
  · simp only [pe_const, pe_name, slotV, pe_glob, pe_bin, pe_not, pe_neg, pe_is, pe_isnot, pe_eq, pe_ne, pe_lt, pe_le, pe_gt, pe_ge, pe_in, pe_notin, pe_bop, pe_list, pe_tup, pe_sub, pe_slice, pe_call, pe_bcall, pe_setd, pe_ecall, pes_nil', pes_cons, pr_v, pr_t, bind_ok, bindA_ok, truth_ok, ofB_some, ofRes_ok, ofRes_exc, onL_some, onP_some, plains_nil, plains_cons, pall_and_nil, pall_or_nil, pall_and_cons, pall_or_cons, pbop_one, pbop_and, pbop_or, Option.map_some, List.map_cons, List.map_nil, List.getElem?_cons_zero, List.getElem?_cons_succ, dS_av, dr_none, dr_bool, dr_int, dr_str, dr_type, dr_range, dr_tup, dr_lst, dr_set, List.length_cons, List.length_nil, Bool.not_true, Bool.not_false, Nat.reduceAdd, Nat.reduceLeDiff, if_true, ip, s2, ln, c10, d1, d2, n1, tb]
  dsimp only [Fs.at, Fs.set, List.set_cons_zero, List.set_cons_succ]
  clear s2 c10 d1 d2 n1 hg hg2 hw
  -- put together with the last one
  have c11 := w_list hO (σ := σ8) (lo := 0) (p := p)
  have hh := At.put ld σ8 p
  replace hp := hp.app [some (MO.set ld (toL p))]
  replace hd := hd.app [some (MO.set ld (toL p))]
  replace ha := ha.app [some (MO.set ld (toL p))]
  replace hb := hb.app [some (MO.set ld (toL p))]
  have l9 : (σ8 ++ [some (MO.set ld (toL p))]).length = σ8.length + 1 := by simp
  generalize σ8 ++ [some (MO.set ld (toL p))] = σ9 at c11 hp hd ha hb hh l9
  generalize σ8.length = h at c11 hh l8 l9
  refine pk_assign (v := .ptr h) (σ := σ9) ?_ ?_
  · simp only [pe_const, pe_name, slotV, pe_glob, pe_bin, pe_not, pe_neg, pe_is, pe_isnot, pe_eq, pe_ne, pe_lt, pe_le, pe_gt, pe_ge, pe_in, pe_notin, pe_bop, pe_list, pe_tup, pe_sub, pe_slice, pe_call, pe_bcall, pe_setd, pe_ecall, pes_nil', pes_cons, pr_v, pr_t, bind_ok, bindA_ok, truth_ok, ofB_some, ofRes_ok, ofRes_exc, onL_some, onP_some, plains_nil, plains_cons, pall_and_nil, pall_or_nil, pall_and_cons, pall_or_cons, pbop_one, pbop_and, pbop_or, Option.map_some, List.map_cons, List.map_nil, List.getElem?_cons_zero, List.getElem?_cons_succ, dS_av, dr_none, dr_bool, dr_int, dr_str, dr_type, dr_range, dr_tup, dr_lst, dr_set, List.length_cons, List.length_nil, Bool.not_true, Bool.not_false, Nat.reduceAdd, Nat.reduceLeDiff, if_true, c11]
  dsimp only [Fs.at, Fs.set, List.set_cons_zero, List.set_cons_succ]
  clear c11
  refine pk_assign (v := .ptr h) (σ := σ9) ?_ ?_
  · simp only [pe_const, pe_name, slotV, pe_glob, pe_bin, pe_not, pe_neg, pe_is, pe_isnot, pe_eq, pe_ne, pe_lt, pe_le, pe_gt, pe_ge, pe_in, pe_notin, pe_bop, pe_list, pe_tup, pe_sub, pe_slice, pe_call, pe_bcall, pe_setd, pe_ecall, pes_nil', pes_cons, pr_v, pr_t, bind_ok, bindA_ok, truth_ok, ofB_some, ofRes_ok, ofRes_exc, onL_some, onP_some, plains_nil, plains_cons, pall_and_nil, pall_or_nil, pall_and_cons, pall_or_cons, pbop_one, pbop_and, pbop_or, Option.map_some, List.map_cons, List.map_nil, List.getElem?_cons_zero, List.getElem?_cons_succ, dS_av, dr_none, dr_bool, dr_int, dr_str, dr_type, dr_range, dr_tup, dr_lst, dr_set, List.length_cons, List.length_nil, Bool.not_true, Bool.not_false, Nat.reduceAdd, Nat.reduceLeDiff, if_true]
  dsimp only [Fs.at, Fs.set, List.set_cons_zero, List.set_cons_succ]
  have c12 := hC.x.ok (x_ss hO (lo := 0) hh ha (Nat.zero_le _) (by omega))
  have hm : At ld (σ9.set h (some (MO.set ld (toL fun t => p t ^^ q t)))) h fun t => p t ^^ q t := At.eq hh.lt
  replace hp := hp.ne (m := h) (some (MO.set ld (toL fun t => p t ^^ q t))) (by omega)
  replace hd := hd.ne (m := h) (some (MO.set ld (toL fun t => p t ^^ q t))) (by omega)
  replace ha := ha.ne (m := h) (some (MO.set ld (toL fun t => p t ^^ q t))) (by omega)
  replace hb := hb.ne (m := h) (some (MO.set ld (toL fun t => p t ^^ q t))) (by omega)
  have l10 : (σ9.set h (some (MO.set ld (toL fun t => p t ^^ q t)))).length = σ9.length := by simp
  generalize σ9.set h (some (MO.set ld (toL fun t => p t ^^ q t))) = σ10 at c12 hp hd ha hb hm l10
  refine pk_assign (v := .ptr h) (σ := σ10) ?_ ?_
  · simp only [pe_const, pe_name, slotV, pe_glob, pe_bin, pe_not, pe_neg, pe_is, pe_isnot, pe_eq, pe_ne, pe_lt, pe_le, pe_gt, pe_ge, pe_in, pe_notin, pe_bop, pe_list, pe_tup, pe_sub, pe_slice, pe_call, pe_bcall, pe_setd, pe_ecall, pes_nil', pes_cons, pr_v, pr_t, bind_ok, bindA_ok, truth_ok, ofB_some, ofRes_ok, ofRes_exc, onL_some, onP_some, plains_nil, plains_cons, pall_and_nil, pall_or_nil, pall_and_cons, pall_or_cons, pbop_one, pbop_and, pbop_or, Option.map_some, List.map_cons, List.map_nil, List.getElem?_cons_zero, List.getElem?_cons_succ, dS_av, dr_none, dr_bool, dr_int, dr_str, dr_type, dr_range, dr_tup, dr_lst, dr_set, List.length_cons, List.length_nil, Bool.not_true, Bool.not_false, Nat.reduceAdd, Nat.reduceLeDiff, if_true, c12]
  dsimp only [Fs.at, Fs.set, List.set_cons_zero, List.set_cons_succ]
  clear c12 hh
  have s3 := w_sorted hO (lo := 0) hm
  refine pk_skip (σ := σ10) ?_ ?_
  · simp only [pe_const, pe_name, slotV, pe_glob, pe_bin, pe_not, pe_neg, pe_is, pe_isnot, pe_eq, pe_ne, pe_lt, pe_le, pe_gt, pe_ge, pe_in, pe_notin, pe_bop, pe_list, pe_tup, pe_sub, pe_slice, pe_call, pe_bcall, pe_setd, pe_ecall, pes_nil', pes_cons, pr_v, pr_t, bind_ok, bindA_ok, truth_ok, ofB_some, ofRes_ok, ofRes_exc, onL_some, onP_some, plains_nil, plains_cons, pall_and_nil, pall_or_nil, pall_and_cons, pall_or_cons, pbop_one, pbop_and, pbop_or, Option.map_some, List.map_cons, List.map_nil, List.getElem?_cons_zero, List.getElem?_cons_succ, dS_av, dr_none, dr_bool, dr_int, dr_str, dr_type, dr_range, dr_tup, dr_lst, dr_set, List.length_cons, List.length_nil, Bool.not_true, Bool.not_false, Nat.reduceAdd, Nat.reduceLeDiff, if_true, ip, s3, c_two1 hO hp ha, ln, tb]
  dsimp only [Fs.at, Fs.set, List.set_cons_zero, List.set_cons_succ]
  clear s3
  -- their edges
  have c13 := w_copy hO (lo := 0) hd
  have he := At.put ld σ10 (De p)
  replace hp := hp.app [some (MO.set ld (toL (De p)))]
  replace hd := hd.app [some (MO.set ld (toL (De p)))]
  replace ha := ha.app [some (MO.set ld (toL (De p)))]
  replace hb := hb.app [some (MO.set ld (toL (De p)))]
  replace hm := hm.app [some (MO.set ld (toL (De p)))]
  have l11 : (σ10 ++ [some (MO.set ld (toL (De p)))]).length = σ10.length + 1 := by simp
  generalize σ10 ++ [some (MO.set ld (toL (De p)))] = σ11 at c13 hp hd ha hb hm he l11
  generalize σ10.length = j at c13 he l10 l11
  have c14 := hC.x.ok (x_ss hO (lo := 0) he hb (Nat.zero_le _) (by omega))
  rw [show toL (fun t => De p t ^^ De q t) = toL (De fun t => p t ^^ q t) from toL_congr fun n _ => (lin_xor eM p q n).symm] at c14
  have hj : At ld (σ11.set j (some (MO.set ld (toL (De fun t => p t ^^ q t))))) j (De fun t => p t ^^ q t) := At.eq he.lt
  replace hp := hp.ne (m := j) (some (MO.set ld (toL (De fun t => p t ^^ q t)))) (by omega)
  replace hd := hd.ne (m := j) (some (MO.set ld (toL (De fun t => p t ^^ q t)))) (by omega)
  replace ha := ha.ne (m := j) (some (MO.set ld (toL (De fun t => p t ^^ q t)))) (by omega)
  replace hb := hb.ne (m := j) (some (MO.set ld (toL (De fun t => p t ^^ q t)))) (by omega)
  replace hm := hm.ne (m := j) (some (MO.set ld (toL (De fun t => p t ^^ q t)))) (by omega)
  have l12 : (σ11.set j (some (MO.set ld (toL (De fun t => p t ^^ q t))))).length = σ11.length := by simp
  generalize σ11.set j (some (MO.set ld (toL (De fun t => p t ^^ q t)))) = σ12 at c14 hp hd ha hb hm hj l12
  refine pk_assign (v := .ptr j) (σ := σ12) ?_ ?_
  · simp only [pe_const, pe_name, slotV, pe_glob, pe_bin, pe_not, pe_neg, pe_is, pe_isnot, pe_eq, pe_ne, pe_lt, pe_le, pe_gt, pe_ge, pe_in, pe_notin, pe_bop, pe_list, pe_tup, pe_sub, pe_slice, pe_call, pe_bcall, pe_setd, pe_ecall, pes_nil', pes_cons, pr_v, pr_t, bind_ok, bindA_ok, truth_ok, ofB_some, ofRes_ok, ofRes_exc, onL_some, onP_some, plains_nil, plains_cons, pall_and_nil, pall_or_nil, pall_and_cons, pall_or_cons, pbop_one, pbop_and, pbop_or, Option.map_some, List.map_cons, List.map_nil, List.getElem?_cons_zero, List.getElem?_cons_succ, dS_av, dr_none, dr_bool, dr_int, dr_str, dr_type, dr_range, dr_tup, dr_lst, dr_set, List.length_cons, List.length_nil, Bool.not_true, Bool.not_false, Nat.reduceAdd, Nat.reduceLeDiff, if_true, c13, c14]
  dsimp only [Fs.at, Fs.set, List.set_cons_zero, List.set_cons_succ]
  clear c13 c14 he
  have c15 := hC.edge (lo := 0) hm (Nat.zero_le _)
  have hi := At.put ld σ12 (De fun t => p t ^^ q t)
  replace hp := hp.app [some (MO.set ld (toL (De fun t => p t ^^ q t)))]
  replace hd := hd.app [some (MO.set ld (toL (De fun t => p t ^^ q t)))]
  replace ha := ha.app [some (MO.set ld (toL (De fun t => p t ^^ q t)))]
  replace hb := hb.app [some (MO.set ld (toL (De fun t => p t ^^ q t)))]
  replace hm := hm.app [some (MO.set ld (toL (De fun t => p t ^^ q t)))]
  replace hj := hj.app [some (MO.set ld (toL (De fun t => p t ^^ q t)))]
  have l13 : (σ12 ++ [some (MO.set ld (toL (De fun t => p t ^^ q t)))]).length = σ12.length + 1 := by simp
  generalize σ12 ++ [some (MO.set ld (toL (De fun t => p t ^^ q t)))] = σ13 at c15 hp hd ha hb hm hj hi l13
  generalize σ12.length = i at c15 hi l12 l13
  have d1 := at_deref hi
  have d2 := at_deref hj
  have n1 : O.cmp .NotEq (.set false ld (toL (De fun t => p t ^^ q t))) (.set false ld (toL (De fun t => p t ^^ q t))) = some false := by rw [w_seteq hO, decide_eq_true rfl]; rfl
  have s4 := w_sorted hO (lo := 0) hb
  have k2 := hC.cnt (lo := 0) ha
  refine pk_skip (σ := σ13) ?_ ?_
  · simp only [pe_const, pe_name, slotV, pe_glob, pe_bin, pe_not, pe_neg, pe_is, pe_isnot, pe_eq, pe_ne, pe_lt, pe_le, pe_gt, pe_ge, pe_in, pe_notin, pe_bop, pe_list, pe_tup, pe_sub, pe_slice, pe_call, pe_bcall, pe_setd, pe_ecall, pes_nil', pes_cons, pr_v, pr_t, bind_ok, bindA_ok, truth_ok, ofB_some, ofRes_ok, ofRes_exc, onL_some, onP_some, plains_nil, plains_cons, pall_and_nil, pall_or_nil, pall_and_cons, pall_or_cons, pbop_one, pbop_and, pbop_or, Option.map_some, List.map_cons, List.map_nil, List.getElem?_cons_zero, List.getElem?_cons_succ, dS_av, dr_none, dr_bool, dr_int, dr_str, dr_type, dr_range, dr_tup, dr_lst, dr_set, List.length_cons, List.length_nil, Bool.not_true, Bool.not_false, Nat.reduceAdd, Nat.reduceLeDiff, if_true, c15, d1, d2, n1, s4, k2, ln, tb]
  dsimp only [Fs.at, Fs.set, List.set_cons_zero, List.set_cons_succ]
  clear c15 d1 d2 n1 s4 k2 hi hj
  -- frozen
  have c16 := w_fz hO (σ := σ13) (lo := 0) (p := p)
  refine pk_assign (v := .set true ld (toL p)) (σ := σ13) ?_ ?_
  · simp only [pe_const, pe_name, slotV, pe_glob, pe_bin, pe_not, pe_neg, pe_is, pe_isnot, pe_eq, pe_ne, pe_lt, pe_le, pe_gt, pe_ge, pe_in, pe_notin, pe_bop, pe_list, pe_tup, pe_sub, pe_slice, pe_call, pe_bcall, pe_setd, pe_ecall, pes_nil', pes_cons, pr_v, pr_t, bind_ok, bindA_ok, truth_ok, ofB_some, ofRes_ok, ofRes_exc, onL_some, onP_some, plains_nil, plains_cons, pall_and_nil, pall_or_nil, pall_and_cons, pall_or_cons, pbop_one, pbop_and, pbop_or, Option.map_some, List.map_cons, List.map_nil, List.getElem?_cons_zero, List.getElem?_cons_succ, dS_av, dr_none, dr_bool, dr_int, dr_str, dr_type, dr_range, dr_tup, dr_lst, dr_set, List.length_cons, List.length_nil, Bool.not_true, Bool.not_false, Nat.reduceAdd, Nat.reduceLeDiff, if_true, c16]
  dsimp only [Fs.at, Fs.set, List.set_cons_zero, List.set_cons_succ]
  clear c16
  have c17 := hC.x.ok (x_fz hO (lo := 0) (p := p) hd)
  refine pk_assign (v := .set true ld (toL fun t => p t ^^ De p t)) (σ := σ13) ?_ ?_
  · simp only [pe_const, pe_name, slotV, pe_glob, pe_bin, pe_not, pe_neg, pe_is, pe_isnot, pe_eq, pe_ne, pe_lt, pe_le, pe_gt, pe_ge, pe_in, pe_notin, pe_bop, pe_list, pe_tup, pe_sub, pe_slice, pe_call, pe_bcall, pe_setd, pe_ecall, pes_nil', pes_cons, pr_v, pr_t, bind_ok, bindA_ok, truth_ok, ofB_some, ofRes_ok, ofRes_exc, onL_some, onP_some, plains_nil, plains_cons, pall_and_nil, pall_or_nil, pall_and_cons, pall_or_cons, pbop_one, pbop_and, pbop_or, Option.map_some, List.map_cons, List.map_nil, List.getElem?_cons_zero, List.getElem?_cons_succ, dS_av, dr_none, dr_bool, dr_int, dr_str, dr_type, dr_range, dr_tup, dr_lst, dr_set, List.length_cons, List.length_nil, Bool.not_true, Bool.not_false, Nat.reduceAdd, Nat.reduceLeDiff, if_true, c17]
  dsimp only [Fs.at, Fs.set, List.set_cons_zero, List.set_cons_succ]
  clear c17
  have s5 := w_sortF hO (σ := σ13) (lo := 0) (p := p)
  refine pk_skip (σ := σ13) ?_ ?_
  · simp only [pe_const, pe_name, slotV, pe_glob, pe_bin, pe_not, pe_neg, pe_is, pe_isnot, pe_eq, pe_ne, pe_lt, pe_le, pe_gt, pe_ge, pe_in, pe_notin, pe_bop, pe_list, pe_tup, pe_sub, pe_slice, pe_call, pe_bcall, pe_setd, pe_ecall, pes_nil', pes_cons, pr_v, pr_t, bind_ok, bindA_ok, truth_ok, ofB_some, ofRes_ok, ofRes_exc, onL_some, onP_some, plains_nil, plains_cons, pall_and_nil, pall_or_nil, pall_and_cons, pall_or_cons, pbop_one, pbop_and, pbop_or, Option.map_some, List.map_cons, List.map_nil, List.getElem?_cons_zero, List.getElem?_cons_succ, dS_av, dr_none, dr_bool, dr_int, dr_str, dr_type, dr_range, dr_tup, dr_lst, dr_set, List.length_cons, List.length_nil, Bool.not_true, Bool.not_false, Nat.reduceAdd, Nat.reduceLeDiff, if_true, tyF, tF, s5, ln, tb]
  dsimp only [Fs.at, Fs.set, List.set_cons_zero, List.set_cons_succ]
  clear s5
  have s6 := w_sortF hO (σ := σ13) (lo := 0) (p := fun t => p t ^^ De p t)
  refine pk_skip (σ := σ13) ?_ ?_
  · simp only [pe_const, pe_name, slotV, pe_glob, pe_bin, pe_not, pe_neg, pe_is, pe_isnot, pe_eq, pe_ne, pe_lt, pe_le, pe_gt, pe_ge, pe_in, pe_notin, pe_bop, pe_list, pe_tup, pe_sub, pe_slice, pe_call, pe_bcall, pe_setd, pe_ecall, pes_nil', pes_cons, pr_v, pr_t, bind_ok, bindA_ok, truth_ok, ofB_some, ofRes_ok, ofRes_exc, onL_some, onP_some, plains_nil, plains_cons, pall_and_nil, pall_or_nil, pall_and_cons, pall_or_cons, pbop_one, pbop_and, pbop_or, Option.map_some, List.map_cons, List.map_nil, List.getElem?_cons_zero, List.getElem?_cons_succ, dS_av, dr_none, dr_bool, dr_int, dr_str, dr_type, dr_range, dr_tup, dr_lst, dr_set, List.length_cons, List.length_nil, Bool.not_true, Bool.not_false, Nat.reduceAdd, Nat.reduceLeDiff, if_true, s6, c_two7 hO hp hd, ln, tb]
  dsimp only [Fs.at, Fs.set, List.set_cons_zero, List.set_cons_succ]
  clear s6
  -- refused
  have odd : ∀ x ∈ ([.lst (cL p), .none, .int 5] : List AV), Odd4 x := fun x hx => by
    simp only [List.mem_cons, List.not_mem_nil, or_false] at hx
    rcases hx with rfl | rfl | rfl
    · exact .inl ⟨_, rfl⟩
    · exact .inr (.inl rfl)
    · exact .inr (.inr ⟨_, rfl⟩)
  refine pk_for (v := .tup [.lst (cL p), .none, .int 5]) (σ := σ13) (l := [.lst (cL p), .none, .int 5]) (fun _ st' => ∃ e17, st' = ⟨[some (.val (.lst (script.map .int))), some (.val (.ptr a)), some (.val (.ptr b)), some (.val (.int (k : Int))), some (.val (.int T)), some (.val (.lst (cL p))), some (.val (.ptr c)), some (.val (.ptr e)), some (.val (.ptr z)), some (.val (.ptr f)), some (.val (.ptr g)), some (.val (.ptr f)), some (.val (.ptr h)), some (.val (.ptr h)), some (.val (.ptr j)), some (.val (.set true ld (toL p))), some (.val (.set true ld (toL fun t => p t ^^ De p t))), e17], σ13, 0, 0⟩) ?_ (by rw [o_items hO]; rfl) ⟨e17, rfl⟩ ?_ ?_
  · simp only [pe_const, pe_name, slotV, pe_glob, pe_bin, pe_not, pe_neg, pe_is, pe_isnot, pe_eq, pe_ne, pe_lt, pe_le, pe_gt, pe_ge, pe_in, pe_notin, pe_bop, pe_list, pe_tup, pe_sub, pe_slice, pe_call, pe_bcall, pe_setd, pe_ecall, pes_nil', pes_cons, pr_v, pr_t, bind_ok, bindA_ok, truth_ok, ofB_some, ofRes_ok, ofRes_exc, onL_some, onP_some, plains_nil, plains_cons, pall_and_nil, pall_or_nil, pall_and_cons, pall_or_cons, pbop_one, pbop_and, pbop_or, Option.map_some, List.map_cons, List.map_nil, List.getElem?_cons_zero, List.getElem?_cons_succ, dS_av, dr_none, dr_bool, dr_int, dr_str, dr_type, dr_range, dr_tup, dr_lst, dr_set, List.length_cons, List.length_nil, Bool.not_true, Bool.not_false, Nat.reduceAdd, Nat.reduceLeDiff, if_true, show (3 : Nat) ≤ 100 by decide]
  · rintro v x st' hv ⟨e17, rfl⟩
    have hx := odd x (List.mem_of_getElem? hv)
    have r1 := hC.ref (x_te1 hO (lo := 0) hp hx)
    have r2 := hC.ref (x_te2 hO (lo := 0) hp hx)
    unfold law_b2
    dsimp only [Fs.at, Fs.set, List.set_cons_zero, List.set_cons_succ]
    refine pk_skip (σ := σ13) ?_ (pk_nil ⟨_, rfl⟩)
    simp only [pe_const, pe_name, slotV, pe_glob, pe_bin, pe_not, pe_neg, pe_is, pe_isnot, pe_eq, pe_ne, pe_lt, pe_le, pe_gt, pe_ge, pe_in, pe_notin, pe_bop, pe_list, pe_tup, pe_sub, pe_slice, pe_call, pe_bcall, pe_setd, pe_ecall, pes_nil', pes_cons, pr_v, pr_t, bind_ok, bindA_ok, truth_ok, ofB_some, ofRes_ok, ofRes_exc, onL_some, onP_some, plains_nil, plains_cons, pall_and_nil, pall_or_nil, pall_and_cons, pall_or_cons, pbop_one, pbop_and, pbop_or, Option.map_some, List.map_cons, List.map_nil, List.getElem?_cons_zero, List.getElem?_cons_succ, dS_av, dr_none, dr_bool, dr_int, dr_str, dr_type, dr_range, dr_tup, dr_lst, dr_set, List.length_cons, List.length_nil, Bool.not_true, Bool.not_false, Nat.reduceAdd, Nat.reduceLeDiff, if_true, r1, r2, tb]
  · rintro st' ⟨e17, rfl⟩
    have s7 := w_sorted hO (lo := 0) hp
    have s8 := w_sorted hO (lo := 0) hd
    have k3 := hC.cnt (lo := 0) hp
    refine pk_skip (σ := σ13) ?_ ?_
    · simp only [pe_const, pe_name, slotV, pe_glob, pe_bin, pe_not, pe_neg, pe_is, pe_isnot, pe_eq, pe_ne, pe_lt, pe_le, pe_gt, pe_ge, pe_in, pe_notin, pe_bop, pe_list, pe_tup, pe_sub, pe_slice, pe_call, pe_bcall, pe_setd, pe_ecall, pes_nil', pes_cons, pr_v, pr_t, bind_ok, bindA_ok, truth_ok, ofB_some, ofRes_ok, ofRes_exc, onL_some, onP_some, plains_nil, plains_cons, pall_and_nil, pall_or_nil, pall_and_cons, pall_or_cons, pbop_one, pbop_and, pbop_or, Option.map_some, List.map_cons, List.map_nil, List.getElem?_cons_zero, List.getElem?_cons_succ, dS_av, dr_none, dr_bool, dr_int, dr_str, dr_type, dr_range, dr_tup, dr_lst, dr_set, List.length_cons, List.length_nil, Bool.not_true, Bool.not_false, Nat.reduceAdd, Nat.reduceLeDiff, if_true, s7, s8, k3, ln, tb]
    dsimp only [Fs.at, Fs.set, List.set_cons_zero, List.set_cons_succ]
    clear s7 s8 k3
    have c18 := hC.x.ok (x_self hO (lo := 0) hm (Nat.zero_le _))
    have ho : At ld (σ13.set h (some (MO.set ld (toL fun _ => false)))) h fun _ => false := At.eq hm.lt
    replace hp := hp.ne (m := h) (some (MO.set ld (toL fun _ => false))) (by omega)
    replace hd := hd.ne (m := h) (some (MO.set ld (toL fun _ => false))) (by omega)
    generalize σ13.set h (some (MO.set ld (toL fun _ => false))) = σ14 at c18 hp hd ho
    refine pk_assign (v := .ptr h) (σ := σ14) ?_ ?_
    · simp only [pe_const, pe_name, slotV, pe_glob, pe_bin, pe_not, pe_neg, pe_is, pe_isnot, pe_eq, pe_ne, pe_lt, pe_le, pe_gt, pe_ge, pe_in, pe_notin, pe_bop, pe_list, pe_tup, pe_sub, pe_slice, pe_call, pe_bcall, pe_setd, pe_ecall, pes_nil', pes_cons, pr_v, pr_t, bind_ok, bindA_ok, truth_ok, ofB_some, ofRes_ok, ofRes_exc, onL_some, onP_some, plains_nil, plains_cons, pall_and_nil, pall_or_nil, pall_and_cons, pall_or_cons, pbop_one, pbop_and, pbop_or, Option.map_some, List.map_cons, List.map_nil, List.getElem?_cons_zero, List.getElem?_cons_succ, dS_av, dr_none, dr_bool, dr_int, dr_str, dr_type, dr_range, dr_tup, dr_lst, dr_set, List.length_cons, List.length_nil, Bool.not_true, Bool.not_false, Nat.reduceAdd, Nat.reduceLeDiff, if_true, c18]
    dsimp only [Fs.at, Fs.set, List.set_cons_zero, List.set_cons_succ]
    have d1 := at_deref ho
    rw [toL_nil (p := fun _ => false) fun n hn => rfl] at d1
    refine pk_skip (σ := σ14) ?_ ?_
    · simp only [pe_const, pe_name, slotV, pe_glob, pe_bin, pe_not, pe_neg, pe_is, pe_isnot, pe_eq, pe_ne, pe_lt, pe_le, pe_gt, pe_ge, pe_in, pe_notin, pe_bop, pe_list, pe_tup, pe_sub, pe_slice, pe_call, pe_bcall, pe_setd, pe_ecall, pes_nil', pes_cons, pr_v, pr_t, bind_ok, bindA_ok, truth_ok, ofB_some, ofRes_ok, ofRes_exc, onL_some, onP_some, plains_nil, plains_cons, pall_and_nil, pall_or_nil, pall_and_cons, pall_or_cons, pbop_one, pbop_and, pbop_or, Option.map_some, List.map_cons, List.map_nil, List.getElem?_cons_zero, List.getElem?_cons_succ, dS_av, dr_none, dr_bool, dr_int, dr_str, dr_type, dr_range, dr_tup, dr_lst, dr_set, List.length_cons, List.length_nil, Bool.not_true, Bool.not_false, Nat.reduceAdd, Nat.reduceLeDiff, if_true, ip, d1, len0, ne0, tb]
    dsimp only [Fs.at, Fs.set, List.set_cons_zero, List.set_cons_succ]
    refine pk_assign (v := .ptr c) (σ := σ14) ?_ ?_
    · simp only [pe_const, pe_name, slotV, pe_glob, pe_bin, pe_not, pe_neg, pe_is, pe_isnot, pe_eq, pe_ne, pe_lt, pe_le, pe_gt, pe_ge, pe_in, pe_notin, pe_bop, pe_list, pe_tup, pe_sub, pe_slice, pe_call, pe_bcall, pe_setd, pe_ecall, pes_nil', pes_cons, pr_v, pr_t, bind_ok, bindA_ok, truth_ok, ofB_some, ofRes_ok, ofRes_exc, onL_some, onP_some, plains_nil, plains_cons, pall_and_nil, pall_or_nil, pall_and_cons, pall_or_cons, pbop_one, pbop_and, pbop_or, Option.map_some, List.map_cons, List.map_nil, List.getElem?_cons_zero, List.getElem?_cons_succ, dS_av, dr_none, dr_bool, dr_int, dr_str, dr_type, dr_range, dr_tup, dr_lst, dr_set, List.length_cons, List.length_nil, Bool.not_true, Bool.not_false, Nat.reduceAdd, Nat.reduceLeDiff, if_true]
    dsimp only [Fs.at, Fs.set, List.set_cons_zero, List.set_cons_succ]
    refine pk_assign (v := .ptr e) (σ := σ14) ?_ ?_
    · simp only [pe_const, pe_name, slotV, pe_glob, pe_bin, pe_not, pe_neg, pe_is, pe_isnot, pe_eq, pe_ne, pe_lt, pe_le, pe_gt, pe_ge, pe_in, pe_notin, pe_bop, pe_list, pe_tup, pe_sub, pe_slice, pe_call, pe_bcall, pe_setd, pe_ecall, pes_nil', pes_cons, pr_v, pr_t, bind_ok, bindA_ok, truth_ok, ofB_some, ofRes_ok, ofRes_exc, onL_some, onP_some, plains_nil, plains_cons, pall_and_nil, pall_or_nil, pall_and_cons, pall_or_cons, pbop_one, pbop_and, pbop_or, Option.map_some, List.map_cons, List.map_nil, List.getElem?_cons_zero, List.getElem?_cons_succ, dS_av, dr_none, dr_bool, dr_int, dr_str, dr_type, dr_range, dr_tup, dr_lst, dr_set, List.length_cons, List.length_nil, Bool.not_true, Bool.not_false, Nat.reduceAdd, Nat.reduceLeDiff, if_true]
    dsimp only [Fs.at, Fs.set, List.set_cons_zero, List.set_cons_succ]
    exact pk_nil ⟨c, e, σ14, p, _, _, _, _, _, _, _, _, _, _, _, _, _, _, _, rfl, hp, hd⟩
noncomputable def lK (fr : FR) : Prop := ∃ σ, fnRes fr = .ok (.av (.bool true)) σ
theorem law_run {script : List Int} : lK (pxs O cal true ⟨[some (.val (.lst (script.map .int))), none, none, none, none, none, none, none, none, none, none, none, none, none, none, none, none, none], [], 0, 0⟩ law_p) := by
  unfold law_p
  have q0 : ([31] : List Int) = toL fun n => n == 31 := by decide +kernel
  have q1 : distI [30, 29, 27, 23, 15] = toL (De fun n => n == 31) := by decide +kernel
  have c1 : O.ecall .set [] 0 [.lst [.int 31]] = .ok (.av (.ptr 0)) [some (MO.set ld (toL fun n => n == 31))] := by
    rw [o_ecall hO, ← q0]; rfl
  have c2 : O.ecall .set [some (MO.set ld (toL fun n => n == 31))] 0 [.lst [.int 30, .int 29, .int 27, .int 23, .int 15]] = .ok (.av (.ptr 1)) [some (MO.set ld (toL fun n => n == 31)), some (MO.set ld (toL (De fun n => n == 31)))] := by
    rw [o_ecall hO, ← q1]; rfl
  refine pk_assign (v := .ptr 0) (σ := [some (MO.set ld (toL fun n => n == 31))]) ?_ ?_
  · simp only [pe_const, pe_name, slotV, pe_glob, pe_bin, pe_not, pe_neg, pe_is, pe_isnot, pe_eq, pe_ne, pe_lt, pe_le, pe_gt, pe_ge, pe_in, pe_notin, pe_bop, pe_list, pe_tup, pe_sub, pe_slice, pe_call, pe_bcall, pe_setd, pe_ecall, pes_nil', pes_cons, pr_v, pr_t, bind_ok, bindA_ok, truth_ok, ofB_some, ofRes_ok, ofRes_exc, onL_some, onP_some, plains_nil, plains_cons, pall_and_nil, pall_or_nil, pall_and_cons, pall_or_cons, pbop_one, pbop_and, pbop_or, Option.map_some, List.map_cons, List.map_nil, List.getElem?_cons_zero, List.getElem?_cons_succ, dS_av, dr_none, dr_bool, dr_int, dr_str, dr_type, dr_range, dr_tup, dr_lst, dr_set, List.length_cons, List.length_nil, Bool.not_true, Bool.not_false, Nat.reduceAdd, Nat.reduceLeDiff, if_true, c1, show (1 : Nat) ≤ 100 by decide]
    first | done | rfl
  dsimp only [Fs.at, Fs.set, List.set_cons_zero, List.set_cons_succ]
  refine pk_assign (v := .ptr 1) (σ := [some (MO.set ld (toL fun n => n == 31)), some (MO.set ld (toL (De fun n => n == 31)))]) ?_ ?_
  · simp only [pe_const, pe_name, slotV, pe_glob, pe_bin, pe_not, pe_neg, pe_is, pe_isnot, pe_eq, pe_ne, pe_lt, pe_le, pe_gt, pe_ge, pe_in, pe_notin, pe_bop, pe_list, pe_tup, pe_sub, pe_slice, pe_call, pe_bcall, pe_setd, pe_ecall, pes_nil', pes_cons, pr_v, pr_t, bind_ok, bindA_ok, truth_ok, ofB_some, ofRes_ok, ofRes_exc, onL_some, onP_some, plains_nil, plains_cons, pall_and_nil, pall_or_nil, pall_and_cons, pall_or_cons, pbop_one, pbop_and, pbop_or, Option.map_some, List.map_cons, List.map_nil, List.getElem?_cons_zero, List.getElem?_cons_succ, dS_av, dr_none, dr_bool, dr_int, dr_str, dr_type, dr_range, dr_tup, dr_lst, dr_set, List.length_cons, List.length_nil, Bool.not_true, Bool.not_false, Nat.reduceAdd, Nat.reduceLeDiff, if_true, c2, show (5 : Nat) ≤ 100 by decide]
    first | done | rfl
  dsimp only [Fs.at, Fs.set, List.set_cons_zero, List.set_cons_succ]
  refine pk_for (v := .range 0 (4 : Nat) 1) (σ := [some (MO.set ld (toL fun n => n == 31)), some (MO.set ld (toL (De fun n => n == 31)))]) (fun _ st => wI ld script st) ?_ (range_nats 4 (by omega) hO) ⟨0, 1, _, _, _, _, _, _, _, _, _, _, _, _, _, _, _, _, _, rfl, rfl, rfl⟩ ?_ ?_
  · simp only [pe_const, pe_name, slotV, pe_glob, pe_bin, pe_not, pe_neg, pe_is, pe_isnot, pe_eq, pe_ne, pe_lt, pe_le, pe_gt, pe_ge, pe_in, pe_notin, pe_bop, pe_list, pe_tup, pe_sub, pe_slice, pe_call, pe_bcall, pe_setd, pe_ecall, pes_nil', pes_cons, pr_v, pr_t, bind_ok, bindA_ok, truth_ok, ofB_some, ofRes_ok, ofRes_exc, onL_some, onP_some, plains_nil, plains_cons, pall_and_nil, pall_or_nil, pall_and_cons, pall_or_cons, pbop_one, pbop_and, pbop_or, Option.map_some, List.map_cons, List.map_nil, List.getElem?_cons_zero, List.getElem?_cons_succ, dS_av, dr_none, dr_bool, dr_int, dr_str, dr_type, dr_range, dr_tup, dr_lst, dr_set, List.length_cons, List.length_nil, Bool.not_true, Bool.not_false, Nat.reduceAdd, Nat.reduceLeDiff, if_true, g_range hO]
    rfl
  · rintro k v st hv ⟨a, b, σ, q, e3, e4, e5, e6, e7, e8, e9, e10, e11, e12, e13, e14, e15, e16, e17, rfl, ha, hb⟩
    obtain ⟨hk, rfl⟩ := range_get hv
    exact turn hO hC hk ha hb
  · rintro st ⟨a, b, σ, q, e3, e4, e5, e6, e7, e8, e9, e10, e11, e12, e13, e14, e15, e16, e17, rfl, ha, hb⟩
    refine pk_ret (v := .bool true) (σ := σ) ?_ ⟨σ, rfl⟩
    simp only [pe_const, pe_name, slotV, pe_glob, pe_bin, pe_not, pe_neg, pe_is, pe_isnot, pe_eq, pe_ne, pe_lt, pe_le, pe_gt, pe_ge, pe_in, pe_notin, pe_bop, pe_list, pe_tup, pe_sub, pe_slice, pe_call, pe_bcall, pe_setd, pe_ecall, pes_nil', pes_cons, pr_v, pr_t, bind_ok, bindA_ok, truth_ok, ofB_some, ofRes_ok, ofRes_exc, onL_some, onP_some, plains_nil, plains_cons, pall_and_nil, pall_or_nil, pall_and_cons, pall_or_cons, pbop_one, pbop_and, pbop_or, Option.map_some, List.map_cons, List.map_nil, List.getElem?_cons_zero, List.getElem?_cons_succ, dS_av, dr_none, dr_bool, dr_int, dr_str, dr_type, dr_range, dr_tup, dr_lst, dr_set, List.length_cons, List.length_nil, Bool.not_true, Bool.not_false, Nat.reduceAdd, Nat.reduceLeDiff, if_true]
end
theorem law_c (ld : Bool) : LawC (ops ld) ld (cal5 ld) := by
  have hx0 : ∀ {σ : Store} {lo : Nat} {a b : AV}, (cal5 ld) σ lo 0 [a, b] = fnRes (pxs (ops ld) cal0 true (st0 [a, b] 2 σ lo) ixor_p) := fun {σ lo a b} => by
    rw [cal5_0, cal4_0, cal3_0, cal2_0, cal1_hit _ _ _ rfl]; rfl
  have hx2 : XorC (ops ld) (cal2 ld) := ⟨fun h => by rw [cal2_0, cal1_hit _ _ _ rfl]; exact xor_ok h, fun h => by rw [cal2_0, cal1_hit _ _ _ rfl]; exact xor_te h⟩
  have hx3 : XorC (ops ld) (cal3 ld) := ⟨fun h => by rw [cal3_0, cal2_0, cal1_hit _ _ _ rfl]; exact xor_ok h, fun h => by rw [cal3_0, cal2_0, cal1_hit _ _ _ rfl]; exact xor_te h⟩
  exact ⟨⟨fun h => by rw [hx0]; exact xor_ok h, fun h => by rw [hx0]; exact xor_te h⟩,
    fun h hl => by rw [cal5_1, cal4_hit _ _ _ rfl]; exact edge_ok rfl hx3 h hl,
    fun h => by rw [cal5_2, cal4_2, cal3_2, cal2_hit _ _ _ rfl]; exact count_ok4 rfl h,
    fun h => by rw [cal5_hit _ _ _ rfl]; exact cone_ok4 rfl h,
    fun h => by rw [cal5_4, cal4_4, cal3_hit _ _ _ rfl]; exact refused_ok hx2 h⟩
theorem law_true (ns : List Int) (h : ns.length ≤ 63) : ∀ ld, ∃ σ, lawRes ld ns = .ok (.av (.bool true)) σ := fun ld => law_run (O := ops ld) rfl (cal := cal5 ld) (law_c ld)
end Mine
end
section
open PySem PySem.W PyProof.Rows
set_option Elab.async false
set_option maxRecDepth 100000
namespace Mine
noncomputable def viewP : Program := { PySem.Challenge.pw_dm0221_04 with main := { PySem.Challenge.pw_dm0221_04.main with body := PySem.Challenge.pw_dm0221_04.main.body.drop 0 } }
noncomputable def looseP : List Str := []
noncomputable def hookP : Hook := Hook.none
theorem law_said : PySem.Challenge.rw_dm0221_04.wellSaid = true := by decide +kernel
theorem law_left : LeftO PySem.Challenge.pw_dm0221_04 viewP looseP (fun s => xlAt viewP [] s && recOk (RowW.records (OpenRow.toRowW (OpenLaw.row PySem.Challenge.rw_dm0221_04))) s) (Hook.obs hookP) (Hook.val hookP) 900 := by
  intro w
  kernel_rfl
end Mine
set_option maxRecDepth 100000 in
set_option maxHeartbeats 8000000 in
theorem PySem.Challenge.cw_dm0221_04_holds : PySem.Challenge.rw_dm0221_04.Holds := by
  w_on
  refine holds_law Mine.law_said fun said => ?_
  refine holds_open (q := Mine.viewP) (loose := Mine.looseP) (Xt := fun s => xlAt Mine.viewP [] s && recOk (RowW.records (OpenRow.toRowW (OpenLaw.row PySem.Challenge.rw_dm0221_04))) s) (XP := XL Mine.viewP []) (Yf := Hook.obs Mine.hookP) (Ya := Hook.val Mine.hookP) (YP := Hook.says Mine.hookP) (N := 900) Mine.law_left (Hook.of Mine.hookP) (Hook.keeps Mine.hookP) (fun s e => xl_of s (Bool.and_eq_true_iff.mp e).1) XL.keeps (by rfl) (by rfl) (by rfl) (fun s e => recFacts_of (Bool.and_eq_true_iff.mp e).2) (by rfl) (by first | assumption | decide +kernel) (by decide +kernel) ⟨rfl, rfl, rfl, rfl, rfl, by decide +kernel⟩ ?hw ?hc
  (case hw => w_witness2)
  intro w s₀ s₁ mg mb G Y fa o pm cd doc dV kV ho hd hcd hD hmg hg args vals as hpre hlay hrd hwl hlo
  skip
  refine Ground.open G ?_
  intro T B D TE TW
  try (refine guard_noD D (by decide +kernel) ?_; clear D)
  wrow_args hpre hlay hrd hwl hlo
  refine enter_call ?_
  w_top on
  try refine codeAny_mono ?_ (fun _ _ g => GoodW.toG g)
  rename_i hL _ w1 _ hI _ hlen _
  clear hd hD ho hcd
  have hn := Int.not_lt.mp hlen
  have hl := Mine.isL_of_well hL w1 rfl
  refine Mine.law_code T (by decide +kernel) (Mine.law_true _ (by omega)) (by omega) hl hI hmg fun s' h1 h2 h3 => ?_
  refine ⟨.inl ⟨_, .bool true, [], rfl, fun cls => rfl, .bool true, ?_, fun _ => ⟨List.nodup_nil, fun a ha => by cases ha⟩⟩, h1, h2, h3.trans hg⟩
  wrow_post
end
